import JvmDerived
import JvmDerived.Pilot.@@N@@Statement
import JvmDerived.Pilot.@@N@@Code
set_option linter.unusedVariables false
set_option linter.unusedSimpArgs false
namespace Jvm.Pilot.@@N@@
open Jvm Jvm.ClassFile Sem Op Lib Jvm.Free Jvm.Stand Jvm.LawKit Jvm.RoadKit Bundle Jvm.Pilot.@@N@@.Jvm.D
def own_Go (tb : Tables) (e : Env) (below : List Frame) (P : State → Outcome → Prop) (T : State) (g : JFrame) : Prop := ∃ t o, Steps tb e below (T.setTop g) t ∧ P t o
theorem own_go {tb : Tables} {e : Env} {below : List Frame} {P : State → Outcome → Prop} {T T' : State} {g g' : JFrame} (k : ∀ target, Steps tb e below (T'.setTop g') target → Steps tb e below (T.setTop g) target) (h : own_Go tb e below P T' g') : own_Go tb e below P T g := by
  obtain ⟨t, o, a, b⟩ := h
  exact ⟨t, o, k t a, b⟩
theorem own_cast {P Q : Prop} (h : P = Q) (p : P) : Q := h ▸ p
def own_upd (f : Nat → Value) (k : Nat) (v : Value) : Nat → Value := fun i => if i = k then v else f i
/-- an array of length z at a, its element i being f i -/
def own_AV (Z : State) (h : Heap) (a : Addr) (ty : FieldType) (z : Int32) (f : Nat → Value) : Prop := ¬ z < 0 ∧ ∃ c : Cell, Arr Z h a c ty ∧ c.slots.size = z.toNatClampNeg ∧ ∀ i, i < c.slots.size → c.slots[i]? = some (f i)
section
variable {Z : State} {h h' : Heap} {a b : Addr} {ty : FieldType} {z j : Int32} {f : Nat → Value} {v w : Value} {sl k : Nat} {ws : List Addr} {cA : ClassId}
theorem own_AV.lt (F : own_AV Z h a ty z f) : a < h.size := by obtain ⟨_, c, A, -⟩ := F; exact A.lt
theorem own_AV.ext (F : own_AV Z h a ty z f) (E : Ext h h') : own_AV Z h' a ty z f := by obtain ⟨q, c, A, r⟩ := F; exact ⟨q, c, A.ext E, r⟩
theorem own_AV.other (F : own_AV Z h b ty z f) (W : Wr h h' a sl v) (q : b ≠ a) : own_AV Z h' b ty z f := by obtain ⟨q1, c, A, r⟩ := F; exact ⟨q1, c, A.other W q, r⟩
theorem own_AV.keep (F : own_AV Z h a ty z f) (K : Keep h h' ws) (q : a ∉ ws) : own_AV Z h' a ty z f := by obtain ⟨q1, c, A, r⟩ := F; exact ⟨q1, c, ⟨K.2.1 a c A.1 q, A.2⟩, r⟩
theorem own_AV.new (A : Arr Z h a (newA cA ty z) ty) (q : ¬ z < 0) : own_AV Z h a ty z (fun _ => defaultValue ty) :=
  ⟨q, _, A, sz_new _ _ _, fun i hi => by
    rw [sz_new] at hi
    simp [newA, hi]⟩
theorem own_AV.set (F : own_AV Z h a ty z f) (W : Wr h h' a j.toNatClampNeg v) (hk : j.toNatClampNeg = k) : own_AV Z h' a ty z (own_upd f k v) := by
  obtain ⟨q, c, A, s, t⟩ := F
  subst hk
  refine ⟨q, _, A.same W, by rw [sz_set]; exact s, fun i hi => ?_⟩
  rw [sz_set] at hi
  by_cases e : i = j.toNatClampNeg
  · subst e; simp [own_upd, Cell.setSlot, hi]
  · simp only [own_upd, if_neg e, Cell.setSlot]
    rw [Array.getElem?_setIfInBounds_ne (Ne.symm e)]; exact t i hi
theorem own_at {c : Cell} (t : ∀ i, i < c.slots.size → c.slots[i]? = some (f i)) (s : c.slots.size = z.toNatClampNeg) (hin : ¬ (j < 0 ∨ c.slots.size ≤ j.toNatClampNeg)) (hk : j.toNatClampNeg = k) (hv : f k = v) : c.slots[j.toNatClampNeg]? = some v := by
  rw [t _ (Nat.lt_of_not_le fun q => hin (Or.inr q)), hk, hv]
theorem own_sta_keep {C n d : String} (F : Sta Z h C n d w) (K : Keep h h' ws) (q : ∀ x ∈ ws, ∀ c : Cell, h[x]? = some c → c.vm.isStatics = false) : Sta Z h' C n d w := by
  obtain ⟨cf, i, k, f, st, cell, h1, h2, h3, h4, h5, h6, h7⟩ := F
  exact ⟨cf, i, k, f, st, cell, h1, h2, h3, h4, K.2.1 st cell h5 (fun m => by rw [q st m cell h5] at h6; cases h6), h6, h7⟩
theorem own_exa_plain {C : String} (F : Exa Z h a C) : ∀ c : Cell, h[a]? = some c → c.vm.isStatics = false := fun c hc => by
  obtain ⟨c1, k, h1, -, -, h4, -⟩ := F; cases h1.symm.trans hc; exact h4
theorem own_AV.plain (F : own_AV Z h a ty z f) : ∀ c : Cell, h[a]? = some c → c.vm.isStatics = false := fun c hc => by
  obtain ⟨_, c1, A, -⟩ := F; cases A.1.symm.trans hc; exact A.plain
end
theorem own_narb {x : Int32} (h : x = 0 ∨ x = 1) : nar .boolean x = x := by rcases h with rfl | rfl <;> rfl
theorem own_exa_ref {args : Array Value} {s : State} {t : Term} {C : String} (hx : (Jvm.Cond.exactly t C).value args s none s [] = some true) : ∃ a, t.eval args s none [] s = some (.ref a) ∧ Exa s s.heap a C := by
  obtain ⟨a', c', cell, k, e1, -⟩ := Cond.exactly_spec (Cond.before_iff.mpr hx)
  exact ⟨a', e1, Exa.start e1 hx⟩
theorem own_eq_int {args : Array Value} {s : State} {t : Term} {k : Int32} (h : (Jvm.Cond.eq t (Jvm.Term.int k)).value args s none s [] = some true) : t.eval args s none [] s = some (.int k) := by
  cases hv : t.eval args s none [] s with
  | none => simp [Cond.value, hv] at h
  | some v => cases v <;> simp [Cond.value, hv, Term.eval] at h <;> simp [h]
theorem own_fld_int {args : Array Value} {s : State} {t : Term} {C n d : String} {a : Addr} {k : Int32} (ev : t.eval args s none [] s = some (.ref a)) (h : (Jvm.Cond.eq (Jvm.Term.field t C n d) (Jvm.Term.int k)).value args s none s [] = some true) : Fld s s.heap a C n d (.int k) :=
  Fld.start ((fld_at ev).symm.trans (own_eq_int h))
theorem own_nar_c (x : Int32) : nar .char (x.toUInt32.toUInt16.toUInt32.toInt32) = x.toUInt32.toUInt16.toUInt32.toInt32 := Value.int.inj (Jvm.Free.XT.narrow_c x)
theorem own_nar_b (x : Int32) : nar .byte (x.toInt8.toInt32) = x.toInt8.toInt32 := Value.int.inj (Jvm.Free.XT.narrow_b x)
theorem own_NSroot {Z : State} {a0 : Array Value} {O K : String} {n : Nat} (w : (Jvm.Cond.noSuperclass O).before a0 Z = true) (wk : (Jvm.Cond.instantiable K n).before a0 Z = true) (hn : O ≠ K) : NS Z O K := by
  obtain ⟨c, k, h1, h2, h3, -, -⟩ := Cond.noSuperclass_spec w
  obtain ⟨t, kt, g1, -⟩ := Cond.instantiable_spec wk
  have ne := ids_ne h1 g1 hn
  refine ⟨c, t, h1, g1, fun fuel => ?_⟩
  cases fuel with
  | zero => rfl
  | succ f => simp [Vm.isSubclassAux, ne, h2, h3]
theorem own_NSno {Z : State} {a0 : Array Value} {C S K : String} {m : Nat} (w : (Jvm.Cond.superclass C S).before a0 Z = true) (wk : (Jvm.Cond.instantiable K m).before a0 Z = true) (n : NS Z C K) (hn : C ≠ K) : ∃ c t, Z.vm.findClass C = some c ∧ Z.vm.findClass K = some t ∧ Z.vm.assignable c t = false := by
  obtain ⟨c, t, h0, g0, n3⟩ := n
  obtain ⟨p, k, kp, h1, h2, h3, h4, h5, -, h7⟩ := Cond.superclass_spec h0 w
  obtain ⟨t', k', g1, g2, g5, g7, -⟩ := Cond.instantiable_spec wk
  cases g0.symm.trans g1
  have g8 : k'.isInterface = false := by
    cases hi : k'.isInterface <;> simp [hi] at g7 ⊢
  have ne := ids_ne h0 g0 hn
  refine ⟨c, t, h0, g0, ?_⟩
  show Z.vm.assignableAux (255 + 1) c t = false
  simp [Vm.assignableAux, ne, h2, g2, h5, g5, g8, Vm.isSubclass, n3]
theorem own_monoW {s t : State} {o : Outcome} {L : List Loc} {k n k' n' : Nat} (h : ReturnedEndW s o t L k n) (hk : k ≤ k') (hn : n ≤ n') : ReturnedEndW s o t L k' n' := ⟨h.1, h.2.1, h.2.2.1, h.2.2.2.mono hk hn⟩
theorem own_ldcSL {p : Program} {l : Launch} {e : Env} {R : Room} {s : State} {vm0 : Vm} {m : MethodId} {args : Array Value} {below : List Frame} {meth : Method} {c : Code} {T : State} {locs : List Loc} {cells slots : Nat} {Z : State} {a0 : Array Value} {h : Heap}
    (X : Stand p l e R (s.setVm vm0) m args below meth c T locs cells slots) (hx : p.tables.exec = Jvm.exec) (hZ : Z.Warmed39 vm0) {own text : String} {index : Nat} (hown : vm0.findClass own = some m.cls) (w : (Jvm.Cond.stringLink own index text).before a0 Z = true) (wS : ∀ a ∈ Bundle.stringAtoms, a.before a0 Z = true)
    (eT : T.heap = h) {k0 : Nat} (hS : s.Since vm0 k0) (hk : k0 ≤ h.size) {g : JFrame} (hg : g.method = m) (hd : decode c.code g.pc = .ok (.ldc index, 2)) {n : Nat} (hn : 4 * text.toList.length ≤ n) (hbig : n ≤ 536870912) (hc : cells + 2 ≤ R.cells) (hl : slots + (n + 4) ≤ R.slots) :
    ∃ (a : Addr) (T' : State) (h' : Heap) (k1 : Nat), Stand p l e R (s.setVm T'.vm) m args below meth c T' locs (cells + 2) (slots + (n + 4)) ∧ T'.heap = h' ∧ Ext h h' ∧ s.Since T'.vm k1 ∧ k1 ≤ h'.size ∧ Z.Warmed39 (s.setVm T'.vm).vm ∧ (s.setVm T'.vm).vm.findClass own = some m.cls ∧ Lit (s.setVm T'.vm) own index a ∧ (s.setVm vm0).Warmed39 T'.vm ∧
      ∀ target, Steps p.tables e below (T'.setTop { g with pc := g.pc + 2, stack := .ref a :: g.stack }) target → Steps p.tables e below (T.setTop g) target := by
  have wS' : ∀ d ∈ Bundle.stringAtoms, d.before args (s.setVm vm0) = true := fun d hd => by
    have q := wS d hd
    simp only [Bundle.stringAtoms, List.mem_cons, List.not_mem_nil, or_false] at hd
    rcases hd with rfl | rfl | rfl | rfl | rfl | rfl | rfl
    · exact mv (s := s.setVm vm0) hZ q
    · exact mv (s := s.setVm vm0) hZ q
    · exact mvA (s := s.setVm vm0) hZ q
    · exact mv (s := s.setVm vm0) hZ q
    · exact mv (s := s.setVm vm0) hZ q
    · exact mv (s := s.setVm vm0) hZ q
    · exact mv (s := s.setVm vm0) hZ q
  obtain ⟨a, T', X', hS', ⟨kk, hkk, hrr⟩, hb, -, st⟩ := X.ldcStringCold hx (own := own) hown (mvS hZ w) wS' hg hd hn hbig hc hl
  subst eT
  have hf : T'.vm.findClass own = some m.cls := by rw [hS'.1.alike.findClass]; exact hown
  exact ⟨a, T', _, _, X', rfl, ext_of hb, hS.trans hS' (Nat.le_trans hk (ext_of hb).1), Nat.le_refl _, State.Warmed39.trans (t := s.setVm vm0) hZ hS'.1, hf, by simp [Lit, State.resolvedAt?, hf, hkk, hrr], hS'.1, st⟩
theorem own_selfsel {Z s : State} {a0 args : Array Value} {y : MethodName} {n : Nat} (hZ : Z.Warmed39 s.vm) (wi : (Jvm.Cond.instantiable y.cls n).before a0 Z = true) (wm : (Jvm.Cond.instanceMethod y).before a0 Z = true) (wp : (Jvm.Cond.privateMethod y).before a0 Z = true) (hy : y.cls ≠ "java/lang/invoke/MethodHandle" ∧ y.cls ≠ "java/lang/invoke/VarHandle") : (Jvm.Cond.selects y.cls y y).before args s = true := by
  obtain ⟨c, k, h1, h2, -, h4, -⟩ := Cond.instantiable_spec (mvT (args := args) hZ wi)
  have g8 : k.isInterface = false := by
    cases hi : k.isInterface <;> simp [hi] at h4 ⊢
  exact selects_self_of_private h1 h2 g8 (Cond.privateMethod_at (mvP hZ wp (args := #[]))) (mvT hZ wm) hy
theorem own_addeq {k a b m n : Nat} (h : k = a + b) (h1 : a = m) (h2 : m + b = n) : k = n := by subst h1; exact h.trans h2
theorem own_lt {a b : Nat} (h : a < b) : a < b := h
theorem own_ne {a b : Nat} (h : a < b ∨ b < a) : a ≠ b := by omega
def own_lts : List Nat → Prop
  | a :: b :: r => a < b ∧ own_lts (b :: r)
  | _ => True

theorem own_pn0 : plainName "com/example/kalchas/kalchas/propositional/HornClauses" = true := by first | (simp [plainName, overriddenIn]; done) | decide +kernel
theorem own_pn1 : plainName "com/example/kalchas/kalchas/propositional/HornClausesHeadPinLaw" = true := by first | (simp [plainName, overriddenIn]; done) | decide +kernel
theorem own_pd0 : parseMethodDescriptor "(Ljava/lang/String;II)V" = some ⟨[(.object "java/lang/String"), .int, .int], none⟩ := by decide +kernel
theorem own_pd1 : parseMethodDescriptor "(I)V" = some ⟨[.int], none⟩ := by decide +kernel
theorem own_pd2 : parseMethodDescriptor "()V" = some ⟨[], none⟩ := by decide +kernel
theorem own_pd3 : parseMethodDescriptor "()I" = some ⟨[], some .int⟩ := by decide +kernel
theorem own_pd4 : parseMethodDescriptor "(I[I)V" = some ⟨[.int, (.array .int)], none⟩ := by decide +kernel
theorem own_pd5 : parseMethodDescriptor "(I)I" = some ⟨[.int], some .int⟩ := by decide +kernel
theorem own_wS {Z : State} {a0 : Array Value} (hw : ∀ d ∈ tables_1, d.before a0 Z = true) : ∀ a ∈ Bundle.stringAtoms, a.before a0 Z = true := fun d hd => by
  simp only [Bundle.stringAtoms, List.mem_cons, List.not_mem_nil, or_false] at hd
  rcases hd with rfl | rfl | rfl | rfl | rfl | rfl | rfl
  · exact hw _ (List.mem_of_getElem? (i := 37) rfl)
  · exact hw _ (List.mem_of_getElem? (i := 38) rfl)
  · exact hw _ (List.mem_of_getElem? (i := 39) rfl)
  · exact hw _ (List.mem_of_getElem? (i := 40) rfl)
  · exact hw _ (List.mem_of_getElem? (i := 41) rfl)
  · exact hw _ (List.mem_of_getElem? (i := 42) rfl)
  · exact hw _ (List.mem_of_getElem? (i := 43) rfl)
theorem own_updf {ty : FieldType} {f : Nat → Value} {k : Nat} {v : Value} (hf : ∀ i, fits ty (f i) = true) (hv : fits ty v = true) : ∀ i, fits ty (own_upd f k v i) = true := fun i => by
  unfold own_upd; split
  · exact hv
  · exact hf i
def own_cpf (f : Nat → Value) (sp : Nat) (g : Nat → Value) (dp nn : Nat) : Nat → Value := fun i => if dp ≤ i ∧ i < dp + nn then f (sp + (i - dp)) else g i
theorem own_cpff {ty : FieldType} {f g : Nat → Value} {sp dp nn : Nat} (hf : ∀ i, fits ty (f i) = true) (hg : ∀ i, fits ty (g i) = true) : ∀ i, fits ty (own_cpf f sp g dp nn i) = true := fun i => by
  unfold own_cpf; split
  · exact hf _
  · exact hg i
theorem own_AV.arv {Z : State} {h : Heap} {a : Addr} {ty : FieldType} {z : Int32} {f : Nat → Value} {d : Value} (F : own_AV Z h a ty z f) (hf : ∀ i, fits ty (f i) = true) : ∃ k, Arv Z h a k ty z ((List.range z.toNatClampNeg).map f) d := by
  obtain ⟨q, c, A, s, t⟩ := F
  refine ⟨c.cls, c, A, rfl, s, q, fun i hi => ?_, fun i hi => ?_⟩
  · rw [t i hi]; rw [s] at hi; simp [List.getD, hi]
  · rw [s] at hi; simp [List.getD, hi, hf i]
theorem own_AV.of_arv {Z : State} {h : Heap} {a : Addr} {k : ClassId} {ty : FieldType} {z : Int32} {vs : List Value} {d : Value} {f : Nat → Value} (F : Arv Z h a k ty z vs d) (hf : ∀ i, i < z.toNatClampNeg → vs.getD i d = f i) : own_AV Z h a ty z f := by
  obtain ⟨c, A, -, s, q, H, -⟩ := F
  exact ⟨q, c, A, s, fun i hi => by rw [H i hi, hf i (by rw [← s]; exact hi)]⟩
section
variable {p : Program} {l : Launch} {e : Env} {R : Room} {s : State} {m : MethodId} {args : Array Value} {below : List Frame} {meth : Method} {c : Code} {T : State} {locs : List Loc} {cells slots : Nat} {Z : State} {h : Heap} {a b : Addr}
theorem own_cp (X : Stand p l e R s m args below meth c T locs cells slots) (hx : p.tables.exec = Jvm.exec) (hZ : Z.Warmed39 s.vm) {a0 : Array Value} {own : String} {index : Nat} (hown : s.vm.findClass own = some m.cls)
    (w1 : (Jvm.Cond.methodLink own index Jvm.Stand.acN).before a0 Z = true) (w2 : (Jvm.Cond.native Jvm.Stand.acN).before a0 Z = true) (w3 : (Jvm.Cond.static Jvm.Stand.acN).before a0 Z = true) (w4 : (Jvm.Cond.initialized "java/lang/System").before a0 Z = true) (eT : T.heap = h)
    {z z' sp dp nn : Int32} {f g' : Nat → Value} (A : own_AV Z h a .int z f) (B : own_AV Z h b .int z' g') (fA : ∀ i, fits .int (f i) = true) (fB : ∀ i, fits .int (g' i) = true)
    (h1 : ¬ sp < 0) (h2 : ¬ dp < 0) (h3 : ¬ nn < 0) (h4 : sp.toNatClampNeg + nn.toNatClampNeg ≤ z.toNatClampNeg) (h5 : dp.toNatClampNeg + nn.toNatClampNeg ≤ z'.toNatClampNeg) {n0 : Nat} (N : Fr n0 locs) (ge : n0 ≤ b)
    {g : JFrame} (hg : g.method = m) (hsize : g.locals.size = c.maxLocals) {rest : List Value} (hs : g.stack = .int nn :: .int dp :: .ref b :: .int sp :: .ref a :: rest) (hd : decode c.code g.pc = .ok (.invokestatic index, 3))
    (hf : 1 ≤ R.frames) {W : Nat} (hW : 2 * g.monitorRoom + (rest.map fun v => v.category).sum ≤ W) (hlo : W + (nativeFrameWords "java/lang/System" "arraycopy" 5 + 11) ≤ R.locals) :
    ∃ T' h' L, Stand p l e R s m args below meth c T' L cells slots ∧ T'.heap = h' ∧ Fr n0 L ∧ Keep h h' [b] ∧ own_AV Z h' b .int z' (own_cpf f sp.toNatClampNeg g' dp.toNatClampNeg nn.toNatClampNeg) ∧
      ∀ target, Steps p.tables e below (T'.setTop { g with pc := g.pc + 3, stack := rest }) target → Steps p.tables e below (T.setTop g) target := by
  obtain ⟨k1, A'⟩ := A.arv (d := .int 0) fA
  obtain ⟨k2, B'⟩ := B.arv (d := .int 0) fB
  obtain ⟨T', h', L, X', e', N', K', V', st⟩ := cpA X hx hZ hown w1 w2 w3 w4 eT A' B' (Or.inl ⟨rfl, rfl⟩) h1 h2 h3 h4 h5 rfl (by simpa using h5) N ge hg hsize hs hd hf hW hlo
  refine ⟨T', h', L, X', e', N', K', own_AV.of_arv V' fun i hi => ?_, st⟩
  unfold own_cpf
  generalize sp.toNatClampNeg = sp' at *
  generalize dp.toNatClampNeg = dp' at *
  generalize nn.toNatClampNeg = nn' at *
  generalize z.toNatClampNeg = zz at *
  generalize z'.toNatClampNeg = zz' at *
  have hl : (List.map g' (List.range zz')).length = zz' := by simp
  simp only [List.getD]
  by_cases c1 : i < dp'
  · rw [if_neg (by omega)]
    rw [List.append_assoc, List.getElem?_append_left (by simp; omega)]
    simp [List.getElem?_take, c1, hi]
  · by_cases c2 : i < dp' + nn'
    · rw [if_pos (by omega)]
      rw [List.append_assoc, List.getElem?_append_right (by simp; omega), List.getElem?_append_left (by simp; omega)]
      have q1 : i - (List.take dp' (List.map g' (List.range zz'))).length = i - dp' := by simp; omega
      rw [q1]
      have q2 : i - dp' < nn' := by omega
      have q3 : sp' + (i - dp') < zz := by omega
      simp [q2, q3]
    · rw [if_neg (by omega)]
      rw [List.getElem?_append_right (by simp; omega)]
      have q1 : i - (List.take dp' (List.map g' (List.range zz')) ++ List.map (fun i => ((List.map f (List.range zz)).getD (sp' + i) (.int 0))) (List.range nn')).length = i - (dp' + nn') := by simp; omega
      simp only [List.getD] at q1
      rw [q1, List.getElem?_drop]
      have q2 : dp' + nn' + (i - (dp' + nn')) = i := by omega
      rw [q2]; simp [hi]
end

theorem own_cl5 {d : Int32} {n : Nat} {a b : Int32} (h : 0 ≤ d.toInt ∧ d.toInt ≤ (n : Int)) (hab : n + a.toNatClampNeg ≤ b.toNatClampNeg := by decide) : d.toNatClampNeg + a.toNatClampNeg ≤ b.toNatClampNeg := by
  have q : ¬ d < 0 := by rw [Int32.lt_iff_toInt_lt]; show ¬ d.toInt < 0; omega
  have := nat_of q
  omega
theorem own_d1_0 : decode prog_6_method_1_code 0 = .ok (.aload_n 0, 1) := by decide +kernel
theorem own_d1_1 : decode prog_6_method_1_code 1 = .ok (.invokespecial 1, 3) := by decide +kernel
theorem own_d1_4 : decode prog_6_method_1_code 4 = .ok (.aload_n 0, 1) := by decide +kernel
theorem own_d1_5 : decode prog_6_method_1_code 5 = .ok (.bipush 64, 2) := by decide +kernel
theorem own_d1_7 : decode prog_6_method_1_code 7 = .ok (.newarray .int, 2) := by decide +kernel
theorem own_d1_9 : decode prog_6_method_1_code 9 = .ok (.putfield 9, 3) := by decide +kernel
theorem own_d1_12 : decode prog_6_method_1_code 12 = .ok (.aload_n 0, 1) := by decide +kernel
theorem own_d1_13 : decode prog_6_method_1_code 13 = .ok (.bipush 65, 2) := by decide +kernel
theorem own_d1_15 : decode prog_6_method_1_code 15 = .ok (.newarray .int, 2) := by decide +kernel
theorem own_d1_17 : decode prog_6_method_1_code 17 = .ok (.putfield 13, 3) := by decide +kernel
theorem own_d1_20 : decode prog_6_method_1_code 20 = .ok (.aload_n 0, 1) := by decide +kernel
theorem own_d1_21 : decode prog_6_method_1_code 21 = .ok (.bipush 64, 2) := by decide +kernel
theorem own_d1_23 : decode prog_6_method_1_code 23 = .ok (.newarray .int, 2) := by decide +kernel
theorem own_d1_25 : decode prog_6_method_1_code 25 = .ok (.putfield 16, 3) := by decide +kernel
theorem own_d1_28 : decode prog_6_method_1_code 28 = .ok (.return_, 1) := by decide +kernel
theorem own_ef_own_rm1 (m : MethodId) (x0 : Addr) : entryFrame m #[(.ref x0)] 1 = mkF m 0 #[.val (.ref x0)] [] := by first | (simp [entryFrame, mkF, argsToLocals, Value.category]; done) | rfl
def own_Q1 (Z : State) (a_1 : Addr) (w_heads_a_1 : Value) (w_bodyStarts_a_1 : Value) (w_bodies_a_1 : Value) (w_occurrences_a_1 : Value) (w_variableCount_a_1 : Int32) (w_clauseCount_a_1 : Int32) (h0 : Heap) (n0 : Nat) (v : Option Value) (h : Heap) (L : List Loc) : Prop := ∃ (x_0 : Addr) (x_1 : Addr) (x_2 : Addr), v = none ∧ Fr n0 L ∧ Keep h0 h [a_1] ∧ Exa Z h a_1 "com/example/kalchas/kalchas/propositional/HornClauses" ∧ Fld Z h a_1 "com/example/kalchas/kalchas/propositional/HornClauses" "heads" "[I" (.ref x_0) ∧ Fld Z h a_1 "com/example/kalchas/kalchas/propositional/HornClauses" "bodyStarts" "[I" (.ref x_1) ∧ Fld Z h a_1 "com/example/kalchas/kalchas/propositional/HornClauses" "bodies" "[I" (.ref x_2) ∧ Fld Z h a_1 "com/example/kalchas/kalchas/propositional/HornClauses" "occurrences" "[I" w_occurrences_a_1 ∧ Fld Z h a_1 "com/example/kalchas/kalchas/propositional/HornClauses" "variableCount" "I" (.int w_variableCount_a_1) ∧ Fld Z h a_1 "com/example/kalchas/kalchas/propositional/HornClauses" "clauseCount" "I" (.int w_clauseCount_a_1) ∧ own_AV Z h x_0 .int (64 : Int32) (fun _ => (.int (0 : Int32))) ∧ own_AV Z h x_1 .int (65 : Int32) (fun _ => (.int (0 : Int32))) ∧ own_AV Z h x_2 .int (64 : Int32) (fun _ => (.int (0 : Int32))) ∧ (h0.size ≤ x_0) ∧ (h0.size ≤ x_1) ∧ (h0.size ≤ x_2) ∧ (own_lts [a_1, x_0, x_1, x_2])
set_option maxRecDepth 65536 in
set_option maxHeartbeats 40000000 in
theorem own_rm1 (l : Launch) (Z : State) (a0 : Array Value) (hw : ∀ d ∈ tables_1, d.before a0 Z = true) (ws : List Jvm.Cond) (a_1 : Addr) (w_heads_a_1 : Value) (w_bodyStarts_a_1 : Value) (w_bodies_a_1 : Value) (w_occurrences_a_1 : Value) (w_variableCount_a_1 : Int32) (w_clauseCount_a_1 : Int32) (h0 : Heap) (n0 : Nat) (Z0 : n0 ≤ h0.size) (pr_E_a_1 : Exa Z h0 a_1 "com/example/kalchas/kalchas/propositional/HornClauses") (pr_F_a_1_heads : Fld Z h0 a_1 "com/example/kalchas/kalchas/propositional/HornClauses" "heads" "[I" w_heads_a_1) (pr_F_a_1_bodyStarts : Fld Z h0 a_1 "com/example/kalchas/kalchas/propositional/HornClauses" "bodyStarts" "[I" w_bodyStarts_a_1) (pr_F_a_1_bodies : Fld Z h0 a_1 "com/example/kalchas/kalchas/propositional/HornClauses" "bodies" "[I" w_bodies_a_1) (pr_F_a_1_occurrences : Fld Z h0 a_1 "com/example/kalchas/kalchas/propositional/HornClauses" "occurrences" "[I" w_occurrences_a_1) (pr_F_a_1_variableCount : Fld Z h0 a_1 "com/example/kalchas/kalchas/propositional/HornClauses" "variableCount" "I" (.int w_variableCount_a_1)) (pr_F_a_1_clauseCount : Fld Z h0 a_1 "com/example/kalchas/kalchas/propositional/HornClauses" "clauseCount" "I" (.int w_clauseCount_a_1)) (gw_a_1 : n0 ≤ a_1) :
    MetFree l (⟨"com/example/kalchas/kalchas/propositional/HornClauses", "<init>", "()V"⟩ : MethodName) (head1 (Jvm.Cond.code (⟨"com/example/kalchas/kalchas/propositional/HornClauses", "<init>", "()V"⟩ : MethodName) prog_6_method_1_code 1 none :: ws) ({ frames := 1, cells := 3, slots := 193, locals := 12 } : Room)) (fun a U => a = #[(.ref a_1)] ∧ Z.Warmed39 U.vm ∧ U.heap = h0) (fun _ _ _ _ _ => True) (fun _ U o U' => ∃ v L, o = .returned v ∧ own_Q1 Z a_1 w_heads_a_1 w_bodyStarts_a_1 w_bodies_a_1 w_occurrences_a_1 w_variableCount_a_1 w_clauseCount_a_1 h0 n0 v U'.heap L ∧ FrameEnd U o U' L ({ frames := 1, cells := 3, slots := 193, locals := 12 } : Room).cells ({ frames := 1, cells := 3, slots := 193, locals := 12 } : Room).slots) := by
  refine MetFree.of_bodySF (plainFor_of_name own_pn0) hisR ?_
  intro p e s m args below meth c s₁ Bd hml0 hP hK
  obtain ⟨rfl, hZ, hh⟩ := hP
  have hx := Bd.exec
  have hby := Bd.bytes
  have hml : c.maxLocals = 1 := hml0
  have hown : s.vm.findClass "com/example/kalchas/kalchas/propositional/HornClauses" = some m.cls := findClass_of_methodNamed Bd.named
  have hnm := (name_of_methodNamed Bd.named Bd.method).1
  have X0 : Stand p l e ({ frames := 1, cells := 3, slots := 193, locals := 12 } : Room) s m #[(.ref a_1)] below meth c s₁ [] 0 0 := Stand.of_body Bd
  have e0 : s₁.heap = h0 := by rw [← hh, Bd.state]; rfl
  have N0 := Fr.nil n0
  have z0 : n0 ≤ h0.size := Z0
  have z1 := own_lt pr_E_a_1.lt
  have z2 := own_lt pr_F_a_1_heads.lt
  have z3 := own_lt pr_F_a_1_bodyStarts.lt
  have z4 := own_lt pr_F_a_1_bodies.lt
  have z5 := own_lt pr_F_a_1_occurrences.lt
  have z6 := own_lt pr_F_a_1_variableCount.lt
  have z7 := own_lt pr_F_a_1_clauseCount.lt
  have K0 : Keep h0 h0 [a_1] := Keep.refl h0 _
  show own_Go p.tables e below (fun t o => t.status = .running ∧ Ended t below o ∧ ∃ v L, o = .returned v ∧ own_Q1 Z a_1 w_heads_a_1 w_bodyStarts_a_1 w_bodies_a_1 w_occurrences_a_1 w_variableCount_a_1 w_clauseCount_a_1 h0 n0 v t.heap L ∧ FrameEnd s o t L ({ frames := 1, cells := 3, slots := 193, locals := 12 } : Room).cells ({ frames := 1, cells := 3, slots := 193, locals := 12 } : Room).slots) s₁ (entryFrame m #[(.ref a_1)] 1)
  rw [own_ef_own_rm1 m a_1]
  show own_Go _ _ _ _ s₁ (mkF m 0 #[.val (.ref a_1)] [])
  refine own_go (fun _ k => XS.aloadN X0.here hx rfl (hb hby own_d1_0) rfl rfl k) ?_
  show own_Go _ _ _ _ s₁ (mkF m 1 #[.val (.ref a_1)] [(.ref a_1)])
  obtain ⟨T8, X8, e8, st8⟩ := initO X0 hx hZ hown (hw _ (List.mem_of_getElem? (i := 8) rfl)) (hw _ (List.mem_of_getElem? (i := 9) rfl)) (hw _ (List.mem_of_getElem? (i := 10) rfl)) e0 (g := (mkF m 1 #[.val (.ref a_1)] [(.ref a_1)])) rfl (by rw [hml]; rfl) rfl (hb hby own_d1_1) (by decide) (W := 0) (by show 2 * 0 + _ ≤ _; exact Nat.le_of_eq rfl) (by decide)
  refine own_go (fun _ k => st8 _ k) ?_
  show own_Go _ _ _ _ T8 (mkF m 4 #[.val (.ref a_1)] [])
  refine own_go (fun _ k => XS.aloadN X8.here hx rfl (hb hby own_d1_4) rfl rfl k) ?_
  show own_Go _ _ _ _ T8 (mkF m 5 #[.val (.ref a_1)] [(.ref a_1)])
  refine own_go (fun _ k => XS.bipush X8.here hx rfl (hb hby own_d1_5) k) ?_
  show own_Go _ _ _ _ T8 (mkF m 7 #[.val (.ref a_1)] [(.int (64 : Int32)), (.ref a_1)])
  obtain ⟨T9, h9, k9, X9, e9, E9, A9, st9⟩ := newP X8 hx hZ (hw _ (List.mem_of_getElem? (i := 1) rfl)) e8 (g := (mkF m 7 #[.val (.ref a_1)] [(.int (64 : Int32)), (.ref a_1)])) rfl (hb hby own_d1_7) rfl (by decide) (cap := 64) (by decide) (by decide) (by decide) (by decide)
  obtain ⟨b9, g9⟩ : ∃ z, z = h0.size := ⟨_, rfl⟩
  rw [← g9] at A9 st9
  have z10 := E9.1
  have lt_b9 := own_lt A9.lt
  have K9 : Keep h0 h9 [a_1] := K0.ext E9
  have V_b9 : own_AV Z h9 b9 .int (64 : Int32) (fun _ => (.int (0 : Int32))) := own_AV.new A9 (by decide)
  refine own_go (fun _ k => st9 _ k) ?_
  show own_Go _ _ _ _ T9 (mkF m 9 #[.val (.ref a_1)] [(.ref b9), (.ref a_1)])
  have f11 : Exa Z h9 a_1 "com/example/kalchas/kalchas/propositional/HornClauses" := (pr_E_a_1.ext E9)
  have f12 : Fld Z h9 a_1 "com/example/kalchas/kalchas/propositional/HornClauses" "heads" "[I" w_heads_a_1 := (pr_F_a_1_heads.ext E9)
  obtain ⟨T13, h13, X13, e13, W13, st13⟩ := putF X9 hx hZ hown (host := "") (Or.inl (hw _ (List.mem_of_getElem? (i := 11) rfl))) Via.refl e9 f12 f11 (Or.inl (hw _ (List.mem_of_getElem? (i := 12) rfl))) (hw _ (List.mem_of_getElem? (i := 3) rfl)) (ty := (.array .int)) (by decide) rfl rfl (g := (mkF m 9 #[.val (.ref a_1)] [(.ref b9), (.ref a_1)])) rfl rfl (hb hby own_d1_9)
  have z14 := W13.size
  have K13 : Keep h0 h13 [a_1] := K9.wr W13 (Or.inl (List.mem_of_getElem? (i := 0) rfl))
  have N13 := Fr.snoc X13 N0 (by omega : n0 ≤ a_1)
  have Fw13 : Fld Z h13 a_1 "com/example/kalchas/kalchas/propositional/HornClauses" "heads" "[I" (.ref b9) := Fld.same W13 f12
  refine own_go (fun _ k => st13 _ k) ?_
  show own_Go _ _ _ _ T13 (mkF m 12 #[.val (.ref a_1)] [])
  refine own_go (fun _ k => XS.aloadN X13.here hx rfl (hb hby own_d1_12) rfl rfl k) ?_
  show own_Go _ _ _ _ T13 (mkF m 13 #[.val (.ref a_1)] [(.ref a_1)])
  refine own_go (fun _ k => XS.bipush X13.here hx rfl (hb hby own_d1_13) k) ?_
  show own_Go _ _ _ _ T13 (mkF m 15 #[.val (.ref a_1)] [(.int (65 : Int32)), (.ref a_1)])
  obtain ⟨T15, h15, k15, X15, e15, E15, A15, st15⟩ := newP X13 hx hZ (hw _ (List.mem_of_getElem? (i := 1) rfl)) e13 (g := (mkF m 15 #[.val (.ref a_1)] [(.int (65 : Int32)), (.ref a_1)])) rfl (hb hby own_d1_15) rfl (by decide) (cap := 65) (by decide) (by decide) (by decide) (by decide)
  obtain ⟨b15, g15⟩ : ∃ z, z = h13.size := ⟨_, rfl⟩
  rw [← g15] at A15 st15
  have z16 := E15.1
  have lt_b15 := own_lt A15.lt
  have K15 : Keep h0 h15 [a_1] := K13.ext E15
  have V_b15 : own_AV Z h15 b15 .int (65 : Int32) (fun _ => (.int (0 : Int32))) := own_AV.new A15 (by decide)
  refine own_go (fun _ k => st15 _ k) ?_
  show own_Go _ _ _ _ T15 (mkF m 17 #[.val (.ref a_1)] [(.ref b15), (.ref a_1)])
  have f17 : Exa Z h15 a_1 "com/example/kalchas/kalchas/propositional/HornClauses" := ((f11.wr W13).ext E15)
  have f18 : Fld Z h15 a_1 "com/example/kalchas/kalchas/propositional/HornClauses" "bodyStarts" "[I" w_bodyStarts_a_1 := (((pr_F_a_1_bodyStarts.ext E9).other W13 (Or.inr (slot_ne (Or.inl (hw _ (List.mem_of_getElem? (i := 14) rfl))) (Or.inl (hw _ (List.mem_of_getElem? (i := 12) rfl))) (by decide) (t := (.array .int)) (t' := (.array .int)) (by decide) (by decide)))).ext E15)
  obtain ⟨T19, h19, X19, e19, W19, st19⟩ := putF X15 hx hZ hown (host := "") (Or.inl (hw _ (List.mem_of_getElem? (i := 13) rfl))) Via.refl e15 f18 f17 (Or.inl (hw _ (List.mem_of_getElem? (i := 14) rfl))) (hw _ (List.mem_of_getElem? (i := 3) rfl)) (ty := (.array .int)) (by decide) rfl rfl (g := (mkF m 17 #[.val (.ref a_1)] [(.ref b15), (.ref a_1)])) rfl rfl (hb hby own_d1_17)
  have z20 := W19.size
  have K19 : Keep h0 h19 [a_1] := K15.wr W19 (Or.inl (List.mem_of_getElem? (i := 0) rfl))
  have N19 := Fr.snoc X19 N13 (by omega : n0 ≤ a_1)
  have Fw19 : Fld Z h19 a_1 "com/example/kalchas/kalchas/propositional/HornClauses" "bodyStarts" "[I" (.ref b15) := Fld.same W19 f18
  refine own_go (fun _ k => st19 _ k) ?_
  show own_Go _ _ _ _ T19 (mkF m 20 #[.val (.ref a_1)] [])
  refine own_go (fun _ k => XS.aloadN X19.here hx rfl (hb hby own_d1_20) rfl rfl k) ?_
  show own_Go _ _ _ _ T19 (mkF m 21 #[.val (.ref a_1)] [(.ref a_1)])
  refine own_go (fun _ k => XS.bipush X19.here hx rfl (hb hby own_d1_21) k) ?_
  show own_Go _ _ _ _ T19 (mkF m 23 #[.val (.ref a_1)] [(.int (64 : Int32)), (.ref a_1)])
  obtain ⟨T21, h21, k21, X21, e21, E21, A21, st21⟩ := newP X19 hx hZ (hw _ (List.mem_of_getElem? (i := 1) rfl)) e19 (g := (mkF m 23 #[.val (.ref a_1)] [(.int (64 : Int32)), (.ref a_1)])) rfl (hb hby own_d1_23) rfl (by decide) (cap := 64) (by decide) (by decide) (by decide) (by decide)
  obtain ⟨b21, g21⟩ : ∃ z, z = h19.size := ⟨_, rfl⟩
  rw [← g21] at A21 st21
  have z22 := E21.1
  have lt_b21 := own_lt A21.lt
  have K21 : Keep h0 h21 [a_1] := K19.ext E21
  have V_b21 : own_AV Z h21 b21 .int (64 : Int32) (fun _ => (.int (0 : Int32))) := own_AV.new A21 (by decide)
  refine own_go (fun _ k => st21 _ k) ?_
  show own_Go _ _ _ _ T21 (mkF m 25 #[.val (.ref a_1)] [(.ref b21), (.ref a_1)])
  have f23 : Exa Z h21 a_1 "com/example/kalchas/kalchas/propositional/HornClauses" := ((f17.wr W19).ext E21)
  have f24 : Fld Z h21 a_1 "com/example/kalchas/kalchas/propositional/HornClauses" "bodies" "[I" w_bodies_a_1 := (((((pr_F_a_1_bodies.ext E9).other W13 (Or.inr (slot_ne (Or.inl (hw _ (List.mem_of_getElem? (i := 16) rfl))) (Or.inl (hw _ (List.mem_of_getElem? (i := 12) rfl))) (by decide) (t := (.array .int)) (t' := (.array .int)) (by decide) (by decide)))).ext E15).other W19 (Or.inr (slot_ne (Or.inl (hw _ (List.mem_of_getElem? (i := 16) rfl))) (Or.inl (hw _ (List.mem_of_getElem? (i := 14) rfl))) (by decide) (t := (.array .int)) (t' := (.array .int)) (by decide) (by decide)))).ext E21)
  obtain ⟨T25, h25, X25, e25, W25, st25⟩ := putF X21 hx hZ hown (host := "") (Or.inl (hw _ (List.mem_of_getElem? (i := 15) rfl))) Via.refl e21 f24 f23 (Or.inl (hw _ (List.mem_of_getElem? (i := 16) rfl))) (hw _ (List.mem_of_getElem? (i := 3) rfl)) (ty := (.array .int)) (by decide) rfl rfl (g := (mkF m 25 #[.val (.ref a_1)] [(.ref b21), (.ref a_1)])) rfl rfl (hb hby own_d1_25)
  have z26 := W25.size
  have K25 : Keep h0 h25 [a_1] := K21.wr W25 (Or.inl (List.mem_of_getElem? (i := 0) rfl))
  have N25 := Fr.snoc X25 N19 (by omega : n0 ≤ a_1)
  have Fw25 : Fld Z h25 a_1 "com/example/kalchas/kalchas/propositional/HornClauses" "bodies" "[I" (.ref b21) := Fld.same W25 f24
  refine own_go (fun _ k => st25 _ k) ?_
  show own_Go _ _ _ _ T25 (mkF m 28 #[.val (.ref a_1)] [])
  obtain ⟨fs, hr, hrun, hended, hW, hsame⟩ := X25.leave (v := none) (fun _ => rfl)
  refine ⟨_, _, X25.returnOut hx Bd.returns (hb hby own_d1_28) hr, hrun, hended, _, _, rfl, ?_, ⟨_, rfl⟩, hW, hsame.mono (by decide) (by decide)⟩
  show own_Q1 Z a_1 w_heads_a_1 w_bodyStarts_a_1 w_bodies_a_1 w_occurrences_a_1 w_variableCount_a_1 w_clauseCount_a_1 h0 n0 _ T25.heap _
  rw [e25]
  have f28 : Exa Z h25 a_1 "com/example/kalchas/kalchas/propositional/HornClauses" := (f23.wr W25)
  have f29 : Fld Z h25 a_1 "com/example/kalchas/kalchas/propositional/HornClauses" "heads" "[I" (.ref b9) := ((((Fw13.ext E15).other W19 (Or.inr (slot_ne (Or.inl (hw _ (List.mem_of_getElem? (i := 12) rfl))) (Or.inl (hw _ (List.mem_of_getElem? (i := 14) rfl))) (by decide) (t := (.array .int)) (t' := (.array .int)) (by decide) (by decide)))).ext E21).other W25 (Or.inr (slot_ne (Or.inl (hw _ (List.mem_of_getElem? (i := 12) rfl))) (Or.inl (hw _ (List.mem_of_getElem? (i := 16) rfl))) (by decide) (t := (.array .int)) (t' := (.array .int)) (by decide) (by decide))))
  have f30 : Fld Z h25 a_1 "com/example/kalchas/kalchas/propositional/HornClauses" "bodyStarts" "[I" (.ref b15) := ((Fw19.ext E21).other W25 (Or.inr (slot_ne (Or.inl (hw _ (List.mem_of_getElem? (i := 14) rfl))) (Or.inl (hw _ (List.mem_of_getElem? (i := 16) rfl))) (by decide) (t := (.array .int)) (t' := (.array .int)) (by decide) (by decide))))
  have f31 : Fld Z h25 a_1 "com/example/kalchas/kalchas/propositional/HornClauses" "occurrences" "[I" w_occurrences_a_1 := ((((((pr_F_a_1_occurrences.ext E9).other W13 (Or.inr (slot_ne (Or.inl (hw _ (List.mem_of_getElem? (i := 23) rfl))) (Or.inl (hw _ (List.mem_of_getElem? (i := 12) rfl))) (by decide) (t := (.array .int)) (t' := (.array .int)) (by decide) (by decide)))).ext E15).other W19 (Or.inr (slot_ne (Or.inl (hw _ (List.mem_of_getElem? (i := 23) rfl))) (Or.inl (hw _ (List.mem_of_getElem? (i := 14) rfl))) (by decide) (t := (.array .int)) (t' := (.array .int)) (by decide) (by decide)))).ext E21).other W25 (Or.inr (slot_ne (Or.inl (hw _ (List.mem_of_getElem? (i := 23) rfl))) (Or.inl (hw _ (List.mem_of_getElem? (i := 16) rfl))) (by decide) (t := (.array .int)) (t' := (.array .int)) (by decide) (by decide))))
  have f32 : Fld Z h25 a_1 "com/example/kalchas/kalchas/propositional/HornClauses" "variableCount" "I" (.int w_variableCount_a_1) := ((((((pr_F_a_1_variableCount.ext E9).other W13 (Or.inr (slot_ne (Or.inl (hw _ (List.mem_of_getElem? (i := 25) rfl))) (Or.inl (hw _ (List.mem_of_getElem? (i := 12) rfl))) (by decide) (t := .int) (t' := (.array .int)) (by decide) (by decide)))).ext E15).other W19 (Or.inr (slot_ne (Or.inl (hw _ (List.mem_of_getElem? (i := 25) rfl))) (Or.inl (hw _ (List.mem_of_getElem? (i := 14) rfl))) (by decide) (t := .int) (t' := (.array .int)) (by decide) (by decide)))).ext E21).other W25 (Or.inr (slot_ne (Or.inl (hw _ (List.mem_of_getElem? (i := 25) rfl))) (Or.inl (hw _ (List.mem_of_getElem? (i := 16) rfl))) (by decide) (t := .int) (t' := (.array .int)) (by decide) (by decide))))
  have f33 : Fld Z h25 a_1 "com/example/kalchas/kalchas/propositional/HornClauses" "clauseCount" "I" (.int w_clauseCount_a_1) := ((((((pr_F_a_1_clauseCount.ext E9).other W13 (Or.inr (slot_ne (Or.inl (hw _ (List.mem_of_getElem? (i := 48) rfl))) (Or.inl (hw _ (List.mem_of_getElem? (i := 12) rfl))) (by decide) (t := .int) (t' := (.array .int)) (by decide) (by decide)))).ext E15).other W19 (Or.inr (slot_ne (Or.inl (hw _ (List.mem_of_getElem? (i := 48) rfl))) (Or.inl (hw _ (List.mem_of_getElem? (i := 14) rfl))) (by decide) (t := .int) (t' := (.array .int)) (by decide) (by decide)))).ext E21).other W25 (Or.inr (slot_ne (Or.inl (hw _ (List.mem_of_getElem? (i := 48) rfl))) (Or.inl (hw _ (List.mem_of_getElem? (i := 16) rfl))) (by decide) (t := .int) (t' := (.array .int)) (by decide) (by decide))))
  have f34 : own_AV Z h25 b9 .int (64 : Int32) (fun _ => (.int (0 : Int32))) := (((((V_b9.other W13 (own_ne (by omega))).ext E15).other W19 (own_ne (by omega))).ext E21).other W25 (own_ne (by omega)))
  have f35 : own_AV Z h25 b15 .int (65 : Int32) (fun _ => (.int (0 : Int32))) := (((V_b15.other W19 (own_ne (by omega))).ext E21).other W25 (own_ne (by omega)))
  have f36 : own_AV Z h25 b21 .int (64 : Int32) (fun _ => (.int (0 : Int32))) := (V_b21.other W25 (own_ne (by omega)))
  exact ⟨b9, b15, b21, rfl, N25, K25, f28, f29, f30, Fw25, f31, f32, f33, f34, f35, f36, (by omega), (by omega), (by omega), (by simp only [own_lts, and_true]; omega)⟩
theorem own_d3_0 : decode prog_6_method_2_code 0 = .ok (.aload_n 0, 1) := by decide +kernel
theorem own_d3_1 : decode prog_6_method_2_code 1 = .ok (.aconst_null, 1) := by decide +kernel
theorem own_d3_2 : decode prog_6_method_2_code 2 = .ok (.putfield 19, 3) := by decide +kernel
theorem own_d3_5 : decode prog_6_method_2_code 5 = .ok (.aload_n 0, 1) := by decide +kernel
theorem own_d3_6 : decode prog_6_method_2_code 6 = .ok (.getfield 22, 3) := by decide +kernel
theorem own_d3_9 : decode prog_6_method_2_code 9 = .ok (.istore_n 1, 1) := by decide +kernel
theorem own_d3_10 : decode prog_6_method_2_code 10 = .ok (.aload_n 0, 1) := by decide +kernel
theorem own_d3_11 : decode prog_6_method_2_code 11 = .ok (.dup, 1) := by decide +kernel
theorem own_d3_12 : decode prog_6_method_2_code 12 = .ok (.getfield 22, 3) := by decide +kernel
theorem own_d3_15 : decode prog_6_method_2_code 15 = .ok (.iconst 1, 1) := by decide +kernel
theorem own_d3_16 : decode prog_6_method_2_code 16 = .ok (.iadd, 1) := by decide +kernel
theorem own_d3_17 : decode prog_6_method_2_code 17 = .ok (.putfield 22, 3) := by decide +kernel
theorem own_d3_20 : decode prog_6_method_2_code 20 = .ok (.iload_n 1, 1) := by decide +kernel
theorem own_d3_21 : decode prog_6_method_2_code 21 = .ok (.ireturn, 1) := by decide +kernel
theorem own_ef_own_rm3 (m : MethodId) (x0 : Addr) : entryFrame m #[(.ref x0)] 2 = mkF m 0 #[.val (.ref x0), .unset] [] := by first | (simp [entryFrame, mkF, argsToLocals, Value.category]; done) | rfl
def own_Q3 (Z : State) (a_1 : Addr) (w_heads_a_1 : Value) (w_bodyStarts_a_1 : Value) (w_bodies_a_1 : Value) (w_occurrences_a_1 : Value) (w_variableCount_a_1 : Int32) (w_clauseCount_a_1 : Int32) (h0 : Heap) (n0 : Nat) (v : Option Value) (h : Heap) (L : List Loc) : Prop := v = some (.int w_variableCount_a_1) ∧ Fr n0 L ∧ Keep h0 h [a_1] ∧ Exa Z h a_1 "com/example/kalchas/kalchas/propositional/HornClauses" ∧ Fld Z h a_1 "com/example/kalchas/kalchas/propositional/HornClauses" "heads" "[I" w_heads_a_1 ∧ Fld Z h a_1 "com/example/kalchas/kalchas/propositional/HornClauses" "bodyStarts" "[I" w_bodyStarts_a_1 ∧ Fld Z h a_1 "com/example/kalchas/kalchas/propositional/HornClauses" "bodies" "[I" w_bodies_a_1 ∧ Fld Z h a_1 "com/example/kalchas/kalchas/propositional/HornClauses" "occurrences" "[I" .null ∧ Fld Z h a_1 "com/example/kalchas/kalchas/propositional/HornClauses" "variableCount" "I" (.int (w_variableCount_a_1 + (1 : Int32))) ∧ Fld Z h a_1 "com/example/kalchas/kalchas/propositional/HornClauses" "clauseCount" "I" (.int w_clauseCount_a_1)
set_option maxRecDepth 65536 in
set_option maxHeartbeats 40000000 in
theorem own_rm3 (l : Launch) (Z : State) (a0 : Array Value) (hw : ∀ d ∈ tables_1, d.before a0 Z = true) (ws : List Jvm.Cond) (a_1 : Addr) (w_heads_a_1 : Value) (w_bodyStarts_a_1 : Value) (w_bodies_a_1 : Value) (w_occurrences_a_1 : Value) (w_variableCount_a_1 : Int32) (w_clauseCount_a_1 : Int32) (h0 : Heap) (n0 : Nat) (Z0 : n0 ≤ h0.size) (pr_E_a_1 : Exa Z h0 a_1 "com/example/kalchas/kalchas/propositional/HornClauses") (pr_F_a_1_heads : Fld Z h0 a_1 "com/example/kalchas/kalchas/propositional/HornClauses" "heads" "[I" w_heads_a_1) (pr_F_a_1_bodyStarts : Fld Z h0 a_1 "com/example/kalchas/kalchas/propositional/HornClauses" "bodyStarts" "[I" w_bodyStarts_a_1) (pr_F_a_1_bodies : Fld Z h0 a_1 "com/example/kalchas/kalchas/propositional/HornClauses" "bodies" "[I" w_bodies_a_1) (pr_F_a_1_occurrences : Fld Z h0 a_1 "com/example/kalchas/kalchas/propositional/HornClauses" "occurrences" "[I" w_occurrences_a_1) (pr_F_a_1_variableCount : Fld Z h0 a_1 "com/example/kalchas/kalchas/propositional/HornClauses" "variableCount" "I" (.int w_variableCount_a_1)) (pr_F_a_1_clauseCount : Fld Z h0 a_1 "com/example/kalchas/kalchas/propositional/HornClauses" "clauseCount" "I" (.int w_clauseCount_a_1)) (gw_a_1 : n0 ≤ a_1) :
    MetFree l (⟨"com/example/kalchas/kalchas/propositional/HornClauses", "newVariable", "()I"⟩ : MethodName) (head1 (Jvm.Cond.code (⟨"com/example/kalchas/kalchas/propositional/HornClauses", "newVariable", "()I"⟩ : MethodName) prog_6_method_2_code 2 (some .int) :: ws) ({ frames := 0, cells := 0, slots := 0, locals := 0 } : Room)) (fun a U => a = #[(.ref a_1)] ∧ Z.Warmed39 U.vm ∧ U.heap = h0) (fun _ _ _ _ _ => True) (fun _ U o U' => ∃ v L, o = .returned v ∧ own_Q3 Z a_1 w_heads_a_1 w_bodyStarts_a_1 w_bodies_a_1 w_occurrences_a_1 w_variableCount_a_1 w_clauseCount_a_1 h0 n0 v U'.heap L ∧ FrameEnd U o U' L ({ frames := 0, cells := 0, slots := 0, locals := 0 } : Room).cells ({ frames := 0, cells := 0, slots := 0, locals := 0 } : Room).slots) := by
  refine MetFree.of_bodySF (plainFor_of_name own_pn0) hisR ?_
  intro p e s m args below meth c s₁ Bd hml0 hP hK
  obtain ⟨rfl, hZ, hh⟩ := hP
  have hx := Bd.exec
  have hby := Bd.bytes
  have hml : c.maxLocals = 2 := hml0
  have hown : s.vm.findClass "com/example/kalchas/kalchas/propositional/HornClauses" = some m.cls := findClass_of_methodNamed Bd.named
  have hnm := (name_of_methodNamed Bd.named Bd.method).1
  have X0 : Stand p l e ({ frames := 0, cells := 0, slots := 0, locals := 0 } : Room) s m #[(.ref a_1)] below meth c s₁ [] 0 0 := Stand.of_body Bd
  have e0 : s₁.heap = h0 := by rw [← hh, Bd.state]; rfl
  have N0 := Fr.nil n0
  have z0 : n0 ≤ h0.size := Z0
  have z1 := own_lt pr_E_a_1.lt
  have z2 := own_lt pr_F_a_1_heads.lt
  have z3 := own_lt pr_F_a_1_bodyStarts.lt
  have z4 := own_lt pr_F_a_1_bodies.lt
  have z5 := own_lt pr_F_a_1_occurrences.lt
  have z6 := own_lt pr_F_a_1_variableCount.lt
  have z7 := own_lt pr_F_a_1_clauseCount.lt
  have K0 : Keep h0 h0 [a_1] := Keep.refl h0 _
  show own_Go p.tables e below (fun t o => t.status = .running ∧ Ended t below o ∧ ∃ v L, o = .returned v ∧ own_Q3 Z a_1 w_heads_a_1 w_bodyStarts_a_1 w_bodies_a_1 w_occurrences_a_1 w_variableCount_a_1 w_clauseCount_a_1 h0 n0 v t.heap L ∧ FrameEnd s o t L ({ frames := 0, cells := 0, slots := 0, locals := 0 } : Room).cells ({ frames := 0, cells := 0, slots := 0, locals := 0 } : Room).slots) s₁ (entryFrame m #[(.ref a_1)] 2)
  rw [own_ef_own_rm3 m a_1]
  show own_Go _ _ _ _ s₁ (mkF m 0 #[.val (.ref a_1), .unset] [])
  refine own_go (fun _ k => XS.aloadN X0.here hx rfl (hb hby own_d3_0) rfl rfl k) ?_
  show own_Go _ _ _ _ s₁ (mkF m 1 #[.val (.ref a_1), .unset] [(.ref a_1)])
  refine own_go (fun _ k => XS.aconstNull X0.here hx rfl (hb hby own_d3_1) k) ?_
  show own_Go _ _ _ _ s₁ (mkF m 2 #[.val (.ref a_1), .unset] [.null, (.ref a_1)])
  obtain ⟨T8, h8, X8, e8, W8, st8⟩ := putF X0 hx hZ hown (host := "") (Or.inl (hw _ (List.mem_of_getElem? (i := 22) rfl))) Via.refl e0 pr_F_a_1_occurrences pr_E_a_1 (Or.inl (hw _ (List.mem_of_getElem? (i := 23) rfl))) (hw _ (List.mem_of_getElem? (i := 3) rfl)) (ty := (.array .int)) (by decide) rfl rfl (g := (mkF m 2 #[.val (.ref a_1), .unset] [.null, (.ref a_1)])) rfl rfl (hb hby own_d3_2)
  have z9 := W8.size
  have K8 : Keep h0 h8 [a_1] := K0.wr W8 (Or.inl (List.mem_of_getElem? (i := 0) rfl))
  have N8 := Fr.snoc X8 N0 (by omega : n0 ≤ a_1)
  have Fw8 : Fld Z h8 a_1 "com/example/kalchas/kalchas/propositional/HornClauses" "occurrences" "[I" .null := Fld.same W8 pr_F_a_1_occurrences
  refine own_go (fun _ k => st8 _ k) ?_
  show own_Go _ _ _ _ T8 (mkF m 5 #[.val (.ref a_1), .unset] [])
  refine own_go (fun _ k => XS.aloadN X8.here hx rfl (hb hby own_d3_5) rfl rfl k) ?_
  show own_Go _ _ _ _ T8 (mkF m 6 #[.val (.ref a_1), .unset] [(.ref a_1)])
  have f10 : Fld Z h8 a_1 "com/example/kalchas/kalchas/propositional/HornClauses" "variableCount" "I" (.int w_variableCount_a_1) := (pr_F_a_1_variableCount.other W8 (Or.inr (slot_ne (Or.inl (hw _ (List.mem_of_getElem? (i := 25) rfl))) (Or.inl (hw _ (List.mem_of_getElem? (i := 23) rfl))) (by decide) (t := .int) (t' := (.array .int)) (by decide) (by decide))))
  obtain ⟨T11, X11, e11, st11⟩ := getF X8 hx hZ hown (host := "") (Or.inl (hw _ (List.mem_of_getElem? (i := 24) rfl))) Via.refl e8 f10 (g := (mkF m 6 #[.val (.ref a_1), .unset] [(.ref a_1)])) rfl rfl (hb hby own_d3_6)
  refine own_go (fun _ k => st11 _ k) ?_
  show own_Go _ _ _ _ T11 (mkF m 9 #[.val (.ref a_1), .unset] [(.int w_variableCount_a_1)])
  refine own_go (fun _ k => XS.istoreN X11.here hx rfl (hb hby own_d3_9) rfl (l' := #[.val (.ref a_1), .val (.int w_variableCount_a_1)]) rfl k) ?_
  show own_Go _ _ _ _ T11 (mkF m 10 #[.val (.ref a_1), .val (.int w_variableCount_a_1)] [])
  refine own_go (fun _ k => XS.aloadN X11.here hx rfl (hb hby own_d3_10) rfl rfl k) ?_
  show own_Go _ _ _ _ T11 (mkF m 11 #[.val (.ref a_1), .val (.int w_variableCount_a_1)] [(.ref a_1)])
  refine own_go (fun _ k => XS.dup X11.here hx rfl (hb hby own_d3_11) rfl rfl k) ?_
  show own_Go _ _ _ _ T11 (mkF m 12 #[.val (.ref a_1), .val (.int w_variableCount_a_1)] [(.ref a_1), (.ref a_1)])
  obtain ⟨T12, X12, e12, st12⟩ := getF X11 hx hZ hown (host := "") (Or.inl (hw _ (List.mem_of_getElem? (i := 24) rfl))) Via.refl e11 f10 (g := (mkF m 12 #[.val (.ref a_1), .val (.int w_variableCount_a_1)] [(.ref a_1), (.ref a_1)])) rfl rfl (hb hby own_d3_12)
  refine own_go (fun _ k => st12 _ k) ?_
  show own_Go _ _ _ _ T12 (mkF m 15 #[.val (.ref a_1), .val (.int w_variableCount_a_1)] [(.int w_variableCount_a_1), (.ref a_1)])
  refine own_go (fun _ k => XS.iconst X12.here hx rfl (hb hby own_d3_15) k) ?_
  show own_Go _ _ _ _ T12 (mkF m 16 #[.val (.ref a_1), .val (.int w_variableCount_a_1)] [(.int (1 : Int32)), (.int w_variableCount_a_1), (.ref a_1)])
  refine own_go (fun _ k => XS.iadd X12.here hx rfl (hb hby own_d3_16) rfl k) ?_
  show own_Go _ _ _ _ T12 (mkF m 17 #[.val (.ref a_1), .val (.int w_variableCount_a_1)] [(.int (w_variableCount_a_1 + (1 : Int32))), (.ref a_1)])
  have f13 : Exa Z h8 a_1 "com/example/kalchas/kalchas/propositional/HornClauses" := (pr_E_a_1.wr W8)
  obtain ⟨T14, h14, X14, e14, W14, st14⟩ := putF X12 hx hZ hown (host := "") (Or.inl (hw _ (List.mem_of_getElem? (i := 24) rfl))) Via.refl e12 f10 f13 (Or.inl (hw _ (List.mem_of_getElem? (i := 25) rfl))) (hw _ (List.mem_of_getElem? (i := 3) rfl)) (ty := .int) (by decide) rfl rfl (g := (mkF m 17 #[.val (.ref a_1), .val (.int w_variableCount_a_1)] [(.int (w_variableCount_a_1 + (1 : Int32))), (.ref a_1)])) rfl rfl (hb hby own_d3_17)
  have z15 := W14.size
  have K14 : Keep h0 h14 [a_1] := K8.wr W14 (Or.inl (List.mem_of_getElem? (i := 0) rfl))
  have N14 := Fr.snoc X14 N8 (by omega : n0 ≤ a_1)
  have Fw14 : Fld Z h14 a_1 "com/example/kalchas/kalchas/propositional/HornClauses" "variableCount" "I" (.int (w_variableCount_a_1 + (1 : Int32))) := Fld.same W14 f10
  refine own_go (fun _ k => st14 _ k) ?_
  show own_Go _ _ _ _ T14 (mkF m 20 #[.val (.ref a_1), .val (.int w_variableCount_a_1)] [])
  refine own_go (fun _ k => XS.iloadN X14.here hx rfl (hb hby own_d3_20) rfl k) ?_
  show own_Go _ _ _ _ T14 (mkF m 21 #[.val (.ref a_1), .val (.int w_variableCount_a_1)] [(.int w_variableCount_a_1)])
  obtain ⟨fs, hr, hrun, hended, hW, hsame⟩ := X14.leave (v := some (.int w_variableCount_a_1)) (fun h => by rw [Bd.returns] at h; cases h)
  refine ⟨_, _, retOut X14 hx Bd.returns rfl (Or.inl ⟨rfl, Or.inl rfl, _, rfl⟩) (hb hby own_d3_21) hr, hrun, hended, _, _, rfl, ?_, ⟨_, rfl⟩, hW, hsame.mono (by decide) (by decide)⟩
  show own_Q3 Z a_1 w_heads_a_1 w_bodyStarts_a_1 w_bodies_a_1 w_occurrences_a_1 w_variableCount_a_1 w_clauseCount_a_1 h0 n0 _ T14.heap _
  rw [e14]
  have f17 : Exa Z h14 a_1 "com/example/kalchas/kalchas/propositional/HornClauses" := (f13.wr W14)
  have f18 : Fld Z h14 a_1 "com/example/kalchas/kalchas/propositional/HornClauses" "heads" "[I" w_heads_a_1 := ((pr_F_a_1_heads.other W8 (Or.inr (slot_ne (Or.inl (hw _ (List.mem_of_getElem? (i := 12) rfl))) (Or.inl (hw _ (List.mem_of_getElem? (i := 23) rfl))) (by decide) (t := (.array .int)) (t' := (.array .int)) (by decide) (by decide)))).other W14 (Or.inr (slot_ne (Or.inl (hw _ (List.mem_of_getElem? (i := 12) rfl))) (Or.inl (hw _ (List.mem_of_getElem? (i := 25) rfl))) (by decide) (t := (.array .int)) (t' := .int) (by decide) (by decide))))
  have f19 : Fld Z h14 a_1 "com/example/kalchas/kalchas/propositional/HornClauses" "bodyStarts" "[I" w_bodyStarts_a_1 := ((pr_F_a_1_bodyStarts.other W8 (Or.inr (slot_ne (Or.inl (hw _ (List.mem_of_getElem? (i := 14) rfl))) (Or.inl (hw _ (List.mem_of_getElem? (i := 23) rfl))) (by decide) (t := (.array .int)) (t' := (.array .int)) (by decide) (by decide)))).other W14 (Or.inr (slot_ne (Or.inl (hw _ (List.mem_of_getElem? (i := 14) rfl))) (Or.inl (hw _ (List.mem_of_getElem? (i := 25) rfl))) (by decide) (t := (.array .int)) (t' := .int) (by decide) (by decide))))
  have f20 : Fld Z h14 a_1 "com/example/kalchas/kalchas/propositional/HornClauses" "bodies" "[I" w_bodies_a_1 := ((pr_F_a_1_bodies.other W8 (Or.inr (slot_ne (Or.inl (hw _ (List.mem_of_getElem? (i := 16) rfl))) (Or.inl (hw _ (List.mem_of_getElem? (i := 23) rfl))) (by decide) (t := (.array .int)) (t' := (.array .int)) (by decide) (by decide)))).other W14 (Or.inr (slot_ne (Or.inl (hw _ (List.mem_of_getElem? (i := 16) rfl))) (Or.inl (hw _ (List.mem_of_getElem? (i := 25) rfl))) (by decide) (t := (.array .int)) (t' := .int) (by decide) (by decide))))
  have f21 : Fld Z h14 a_1 "com/example/kalchas/kalchas/propositional/HornClauses" "occurrences" "[I" .null := (Fw8.other W14 (Or.inr (slot_ne (Or.inl (hw _ (List.mem_of_getElem? (i := 23) rfl))) (Or.inl (hw _ (List.mem_of_getElem? (i := 25) rfl))) (by decide) (t := (.array .int)) (t' := .int) (by decide) (by decide))))
  have f22 : Fld Z h14 a_1 "com/example/kalchas/kalchas/propositional/HornClauses" "clauseCount" "I" (.int w_clauseCount_a_1) := ((pr_F_a_1_clauseCount.other W8 (Or.inr (slot_ne (Or.inl (hw _ (List.mem_of_getElem? (i := 48) rfl))) (Or.inl (hw _ (List.mem_of_getElem? (i := 23) rfl))) (by decide) (t := .int) (t' := (.array .int)) (by decide) (by decide)))).other W14 (Or.inr (slot_ne (Or.inl (hw _ (List.mem_of_getElem? (i := 48) rfl))) (Or.inl (hw _ (List.mem_of_getElem? (i := 25) rfl))) (by decide) (t := .int) (t' := .int) (by decide) (by decide))))
  exact ⟨rfl, N14, K14, f17, f18, f19, f20, f21, Fw14, f22⟩
theorem own_d6_0 : decode prog_6_method_16_code 0 = .ok (.iload_n 1, 1) := by decide +kernel
theorem own_d6_1 : decode prog_6_method_16_code 1 = .ok (.ifCond .lt 8, 3) := by decide +kernel
theorem own_d6_4 : decode prog_6_method_16_code 4 = .ok (.iload_n 1, 1) := by decide +kernel
theorem own_d6_5 : decode prog_6_method_16_code 5 = .ok (.iload_n 2, 1) := by decide +kernel
theorem own_d6_6 : decode prog_6_method_16_code 6 = .ok (.if_icmp .lt 19, 3) := by decide +kernel
theorem own_d6_25 : decode prog_6_method_16_code 25 = .ok (.return_, 1) := by decide +kernel
theorem own_ef_own_rm6 (m : MethodId) (x0 : Addr) (x1 : Int32) (x2 : Int32) : entryFrame m #[(.ref x0), (.int x1), (.int x2)] 3 = mkF m 0 #[.val (.ref x0), .val (.int x1), .val (.int x2)] [] := by first | (simp [entryFrame, mkF, argsToLocals, Value.category]; done) | rfl
def own_Q6 (Z : State) (a_1 : Addr) (p_2 : Int32) (p_3 : Int32) (h0 : Heap) (n0 : Nat) (v : Option Value) (h : Heap) (L : List Loc) : Prop := v = none ∧ Fr n0 L ∧ h = h0
set_option maxRecDepth 65536 in
set_option maxHeartbeats 40000000 in
theorem own_rm6 (l : Launch) (Z : State) (a0 : Array Value) (hw : ∀ d ∈ tables_1, d.before a0 Z = true) (ws : List Jvm.Cond) (a_1 : Addr) (p_2 : Int32) (p_3 : Int32) (h0 : Heap) (n0 : Nat) (Z0 : n0 ≤ h0.size) (h1 : ¬ (p_2 < 0)) (h2 : p_2 < p_3) :
    MetFree l (⟨"com/example/kalchas/kalchas/propositional/HornClauses", "checkNumber", "(Ljava/lang/String;II)V"⟩ : MethodName) (head1 (Jvm.Cond.code (⟨"com/example/kalchas/kalchas/propositional/HornClauses", "checkNumber", "(Ljava/lang/String;II)V"⟩ : MethodName) prog_6_method_16_code 3 none :: ws) ({ frames := 0, cells := 0, slots := 0, locals := 0 } : Room)) (fun a U => a = #[(.ref a_1), (.int p_2), (.int p_3)] ∧ Z.Warmed39 U.vm ∧ U.heap = h0) (fun _ _ _ _ _ => True) (fun _ U o U' => ∃ v L, o = .returned v ∧ own_Q6 Z a_1 p_2 p_3 h0 n0 v U'.heap L ∧ FrameEnd U o U' L ({ frames := 0, cells := 0, slots := 0, locals := 0 } : Room).cells ({ frames := 0, cells := 0, slots := 0, locals := 0 } : Room).slots) := by
  refine MetFree.of_bodySF (plainFor_of_name own_pn0) hisR ?_
  intro p e s m args below meth c s₁ Bd hml0 hP hK
  obtain ⟨rfl, hZ, hh⟩ := hP
  have hx := Bd.exec
  have hby := Bd.bytes
  have hml : c.maxLocals = 3 := hml0
  have hown : s.vm.findClass "com/example/kalchas/kalchas/propositional/HornClauses" = some m.cls := findClass_of_methodNamed Bd.named
  have hnm := (name_of_methodNamed Bd.named Bd.method).1
  have X0 : Stand p l e ({ frames := 0, cells := 0, slots := 0, locals := 0 } : Room) s m #[(.ref a_1), (.int p_2), (.int p_3)] below meth c s₁ [] 0 0 := Stand.of_body Bd
  have e0 : s₁.heap = h0 := by rw [← hh, Bd.state]; rfl
  have N0 := Fr.nil n0
  have z0 : n0 ≤ h0.size := Z0
  show own_Go p.tables e below (fun t o => t.status = .running ∧ Ended t below o ∧ ∃ v L, o = .returned v ∧ own_Q6 Z a_1 p_2 p_3 h0 n0 v t.heap L ∧ FrameEnd s o t L ({ frames := 0, cells := 0, slots := 0, locals := 0 } : Room).cells ({ frames := 0, cells := 0, slots := 0, locals := 0 } : Room).slots) s₁ (entryFrame m #[(.ref a_1), (.int p_2), (.int p_3)] 3)
  rw [own_ef_own_rm6 m a_1 p_2 p_3]
  show own_Go _ _ _ _ s₁ (mkF m 0 #[.val (.ref a_1), .val (.int p_2), .val (.int p_3)] [])
  refine own_go (fun _ k => XS.iloadN X0.here hx rfl (hb hby own_d6_0) rfl k) ?_
  show own_Go _ _ _ _ s₁ (mkF m 1 #[.val (.ref a_1), .val (.int p_2), .val (.int p_3)] [(.int p_2)])
  refine own_go (fun _ k => XS.ifNo X0.here hx rfl (hb hby own_d6_1) rfl (Jvm.Free.XT.i0_lt_f h1) k) ?_
  show own_Go _ _ _ _ s₁ (mkF m 4 #[.val (.ref a_1), .val (.int p_2), .val (.int p_3)] [])
  refine own_go (fun _ k => XS.iloadN X0.here hx rfl (hb hby own_d6_4) rfl k) ?_
  show own_Go _ _ _ _ s₁ (mkF m 5 #[.val (.ref a_1), .val (.int p_2), .val (.int p_3)] [(.int p_2)])
  refine own_go (fun _ k => XS.iloadN X0.here hx rfl (hb hby own_d6_5) rfl k) ?_
  show own_Go _ _ _ _ s₁ (mkF m 6 #[.val (.ref a_1), .val (.int p_2), .val (.int p_3)] [(.int p_3), (.int p_2)])
  refine own_go (fun _ k => XS.icmpYes X0.here hx rfl (pc0 := 6) (pc' := 25) rfl (hb hby own_d6_6) rfl (Jvm.Free.XT.ii_lt_t h2) (by decide) (by decide) k) ?_
  show own_Go _ _ _ _ s₁ (mkF m 25 #[.val (.ref a_1), .val (.int p_2), .val (.int p_3)] [])
  obtain ⟨fs, hr, hrun, hended, hW, hsame⟩ := X0.leave (v := none) (fun _ => rfl)
  refine ⟨_, _, X0.returnOut hx Bd.returns (hb hby own_d6_25) hr, hrun, hended, _, _, rfl, ?_, ⟨_, rfl⟩, hW, hsame.mono (by decide) (by decide)⟩
  show own_Q6 Z a_1 p_2 p_3 h0 n0 _ s₁.heap _
  rw [e0]
  exact ⟨rfl, N0, rfl⟩
theorem own_d5_0 : decode prog_6_method_14_code 0 = .ok (.ldc 178, 2) := by decide +kernel
theorem own_d5_2 : decode prog_6_method_14_code 2 = .ok (.iload_n 1, 1) := by decide +kernel
theorem own_d5_3 : decode prog_6_method_14_code 3 = .ok (.aload_n 0, 1) := by decide +kernel
theorem own_d5_4 : decode prog_6_method_14_code 4 = .ok (.getfield 22, 3) := by decide +kernel
theorem own_d5_7 : decode prog_6_method_14_code 7 = .ok (.invokestatic 180, 3) := by decide +kernel
theorem own_d5_10 : decode prog_6_method_14_code 10 = .ok (.return_, 1) := by decide +kernel
theorem own_ef_own_rm5 (m : MethodId) (x0 : Addr) (x1 : Int32) : entryFrame m #[(.ref x0), (.int x1)] 2 = mkF m 0 #[.val (.ref x0), .val (.int x1)] [] := by first | (simp [entryFrame, mkF, argsToLocals, Value.category]; done) | rfl
def own_Q5 (Z : State) (a_1 : Addr) (p_2 : Int32) (w_variableCount_a_1 : Int32) (h0 : Heap) (n0 : Nat) (v : Option Value) (h : Heap) (L : List Loc) : Prop := v = none ∧ Fr n0 L ∧ Keep h0 h []
set_option maxRecDepth 65536 in
set_option maxHeartbeats 40000000 in
theorem own_rm5 (l : Launch) (Z : State) (a0 : Array Value) (hw : ∀ d ∈ tables_1, d.before a0 Z = true) (ws : List Jvm.Cond) (a_1 : Addr) (p_2 : Int32) (w_variableCount_a_1 : Int32) (h0 : Heap) (n0 : Nat) (Z0 : n0 ≤ h0.size) (h1 : ¬ (p_2 < 0)) (h2 : p_2 < w_variableCount_a_1) (pr_F_a_1_variableCount : Fld Z h0 a_1 "com/example/kalchas/kalchas/propositional/HornClauses" "variableCount" "I" (.int w_variableCount_a_1)) :
    MetFree l (⟨"com/example/kalchas/kalchas/propositional/HornClauses", "checkVariable", "(I)V"⟩ : MethodName) (head1 (Jvm.Cond.code (⟨"com/example/kalchas/kalchas/propositional/HornClauses", "checkVariable", "(I)V"⟩ : MethodName) prog_6_method_14_code 2 none :: ws) ({ frames := 1, cells := 2, slots := 36, locals := 14 } : Room)) (fun a U => a = #[(.ref a_1), (.int p_2)] ∧ Z.Warmed39 U.vm ∧ U.heap = h0) (fun _ _ _ _ _ => True) (fun _ U o U' => ∃ v L, o = .returned v ∧ own_Q5 Z a_1 p_2 w_variableCount_a_1 h0 n0 v U'.heap L ∧ ReturnedEndW U o U' L ({ frames := 1, cells := 2, slots := 36, locals := 14 } : Room).cells ({ frames := 1, cells := 2, slots := 36, locals := 14 } : Room).slots) := by
  refine MetFree.of_bodySF (plainFor_of_name own_pn0) hisR ?_
  intro p e s m args below meth c s₁ Bd hml0 hP hK
  obtain ⟨rfl, hZ, hh⟩ := hP
  have hx := Bd.exec
  have hby := Bd.bytes
  have hml : c.maxLocals = 2 := hml0
  have hown : s.vm.findClass "com/example/kalchas/kalchas/propositional/HornClauses" = some m.cls := findClass_of_methodNamed Bd.named
  have hnm := (name_of_methodNamed Bd.named Bd.method).1
  have X0 : Stand p l e ({ frames := 1, cells := 2, slots := 36, locals := 14 } : Room) s m #[(.ref a_1), (.int p_2)] below meth c s₁ [] 0 0 := Stand.of_body Bd
  have e0 : s₁.heap = h0 := by rw [← hh, Bd.state]; rfl
  have N0 := Fr.nil n0
  have X0 : Stand p l e ({ frames := 1, cells := 2, slots := 36, locals := 14 } : Room) (s.setVm s.vm) m #[(.ref a_1), (.int p_2)] below meth c s₁ [] 0 0 := X0
  have hZ : Z.Warmed39 (s.setVm s.vm).vm := hZ
  have hown : (s.setVm s.vm).vm.findClass "com/example/kalchas/kalchas/propositional/HornClauses" = some m.cls := hown
  have hS0 : s.Since s.vm 0 := (State.WarmedH.refl s).since 0
  have z0 : n0 ≤ h0.size := Z0
  have z1 := own_lt pr_F_a_1_variableCount.lt
  have K0 : Keep h0 h0 [] := Keep.refl h0 _
  show own_Go p.tables e below (fun t o => t.status = .running ∧ Ended t below o ∧ ∃ v L, o = .returned v ∧ own_Q5 Z a_1 p_2 w_variableCount_a_1 h0 n0 v t.heap L ∧ ReturnedEndW s o t L ({ frames := 1, cells := 2, slots := 36, locals := 14 } : Room).cells ({ frames := 1, cells := 2, slots := 36, locals := 14 } : Room).slots) s₁ (entryFrame m #[(.ref a_1), (.int p_2)] 2)
  rw [own_ef_own_rm5 m a_1 p_2]
  show own_Go _ _ _ _ s₁ (mkF m 0 #[.val (.ref a_1), .val (.int p_2)] [])
  obtain ⟨b2, T2, h2, k2, X2, e2, E2, hS2, g2, hZ, hown, Li2, Wn2, st2⟩ := own_ldcSL X0 hx hZ hown (hw _ (List.mem_of_getElem? (i := 36) rfl)) (own_wS hw) e0 hS0 (by omega) (g := (mkF m 0 #[.val (.ref a_1), .val (.int p_2)] [])) rfl (hb hby own_d5_0) (n := 32) (by decide +kernel) (by decide) (by decide) (by decide)
  have z3 := E2.1
  have K2 : Keep h0 h2 [] := K0.ext E2
  refine own_go (fun _ k => st2 _ k) ?_
  show own_Go _ _ _ _ T2 (mkF m 2 #[.val (.ref a_1), .val (.int p_2)] [(.ref b2)])
  refine own_go (fun _ k => XS.iloadN X2.here hx rfl (hb hby own_d5_2) rfl k) ?_
  show own_Go _ _ _ _ T2 (mkF m 3 #[.val (.ref a_1), .val (.int p_2)] [(.int p_2), (.ref b2)])
  refine own_go (fun _ k => XS.aloadN X2.here hx rfl (hb hby own_d5_3) rfl rfl k) ?_
  show own_Go _ _ _ _ T2 (mkF m 4 #[.val (.ref a_1), .val (.int p_2)] [(.ref a_1), (.int p_2), (.ref b2)])
  have f4 : Fld Z h2 a_1 "com/example/kalchas/kalchas/propositional/HornClauses" "variableCount" "I" (.int w_variableCount_a_1) := (pr_F_a_1_variableCount.ext E2)
  obtain ⟨T5, X5, e5, st5⟩ := getF X2 hx hZ hown (host := "") (Or.inl (hw _ (List.mem_of_getElem? (i := 24) rfl))) Via.refl e2 f4 (g := (mkF m 4 #[.val (.ref a_1), .val (.int p_2)] [(.ref a_1), (.int p_2), (.ref b2)])) rfl rfl (hb hby own_d5_4)
  refine own_go (fun _ k => st5 _ k) ?_
  show own_Go _ _ _ _ T5 (mkF m 7 #[.val (.ref a_1), .val (.int p_2)] [(.int w_variableCount_a_1), (.int p_2), (.ref b2)])
  obtain ⟨_, _, ⟨T6, L6, k6, n6⟩, -, X6, ⟨Lc6, hQ6, l6, y6, z6⟩, st6⟩ := Jvm.LawKit.callS X5 hx (y := (⟨"com/example/kalchas/kalchas/propositional/HornClauses", "checkNumber", "(Ljava/lang/String;II)V"⟩ : MethodName)) hown (mvT hZ (hw _ (List.mem_of_getElem? (i := 44) rfl))) (mvT hZ (hw _ (List.mem_of_getElem? (i := 45) rfl))) (mvT hZ (hw _ (List.mem_of_getElem? (i := 4) rfl))) (mvT hZ (hw _ (List.mem_of_getElem? (i := 46) rfl))) (by decide) (backOf (W := 0) (own_rm6 l Z a0 hw [] b2 p_2 w_variableCount_a_1  h2 n0 (by omega) (show ¬ (p_2 < 0) by first | assumption | omega | decide) (show p_2 < w_variableCount_a_1 by first | assumption | omega | decide)) hZ (hw _ (List.mem_of_getElem? (i := 46) rfl)) (hw _ (List.mem_of_getElem? (i := 4) rfl)) (by decide) (by decide)) (g := (mkF m 7 #[.val (.ref a_1), .val (.int p_2)] [(.int w_variableCount_a_1), (.int p_2), (.ref b2)])) rfl (by rw [hml]; rfl) (argsL := [(.ref b2), (.int p_2), (.int w_variableCount_a_1)]) (rest := []) (lenOf own_pd0 rfl) rfl (by show 2 * 0 + _ ≤ _; exact Nat.le_of_eq rfl) (hb hby own_d5_7) (fun _ _ => ⟨rfl, e5, (by decide : 2 + 0 ≤ _), (by decide : 36 + 0 ≤ _)⟩)
  dsimp only [Pt.U, Pt.locs, Pt.cells, Pt.slots] at X6 l6 y6 z6 st6 hQ6
  have y6 : k6 = 2 := y6
  have z6 : n6 = 36 := z6
  obtain ⟨rfl, N6q, e6⟩ := hQ6
  have N6 : Fr n0 L6 := by rw [l6]; exact Fr.app N0 N6q
  refine own_go (fun _ k => st6 _ k) ?_
  show own_Go _ _ _ _ T6 (mkF m 10 #[.val (.ref a_1), .val (.int p_2)] [])
  obtain ⟨fs, hr, hrun, hended, hRW⟩ := X6.leaveW hS2 (by rw [e6]; omega) (v := none) (fun _ => rfl)
  refine ⟨_, _, X6.returnOut hx Bd.returns (hb hby own_d5_10) hr, hrun, hended, _, _, rfl, ?_, own_monoW hRW (by rw [y6]; decide) (by rw [z6]; decide)⟩
  show own_Q5 Z a_1 p_2 w_variableCount_a_1 h0 n0 _ T6.heap _
  rw [e6]
  exact ⟨rfl, N6, K2⟩
theorem own_d8_0 : decode prog_6_method_15_code 0 = .ok (.ldc 184, 2) := by decide +kernel
theorem own_d8_2 : decode prog_6_method_15_code 2 = .ok (.iload_n 1, 1) := by decide +kernel
theorem own_d8_3 : decode prog_6_method_15_code 3 = .ok (.aload_n 0, 1) := by decide +kernel
theorem own_d8_4 : decode prog_6_method_15_code 4 = .ok (.getfield 30, 3) := by decide +kernel
theorem own_d8_7 : decode prog_6_method_15_code 7 = .ok (.invokestatic 180, 3) := by decide +kernel
theorem own_d8_10 : decode prog_6_method_15_code 10 = .ok (.return_, 1) := by decide +kernel
theorem own_ef_own_rm8 (m : MethodId) (x0 : Addr) (x1 : Int32) : entryFrame m #[(.ref x0), (.int x1)] 2 = mkF m 0 #[.val (.ref x0), .val (.int x1)] [] := by first | (simp [entryFrame, mkF, argsToLocals, Value.category]; done) | rfl
def own_Q8 (Z : State) (a_1 : Addr) (p_2 : Int32) (w_clauseCount_a_1 : Int32) (h0 : Heap) (n0 : Nat) (v : Option Value) (h : Heap) (L : List Loc) : Prop := v = none ∧ Fr n0 L ∧ Keep h0 h []
set_option maxRecDepth 65536 in
set_option maxHeartbeats 40000000 in
theorem own_rm8 (l : Launch) (Z : State) (a0 : Array Value) (hw : ∀ d ∈ tables_1, d.before a0 Z = true) (ws : List Jvm.Cond) (a_1 : Addr) (p_2 : Int32) (w_clauseCount_a_1 : Int32) (h0 : Heap) (n0 : Nat) (Z0 : n0 ≤ h0.size) (h1 : ¬ (p_2 < 0)) (h2 : p_2 < w_clauseCount_a_1) (pr_F_a_1_clauseCount : Fld Z h0 a_1 "com/example/kalchas/kalchas/propositional/HornClauses" "clauseCount" "I" (.int w_clauseCount_a_1)) :
    MetFree l (⟨"com/example/kalchas/kalchas/propositional/HornClauses", "checkClause", "(I)V"⟩ : MethodName) (head1 (Jvm.Cond.code (⟨"com/example/kalchas/kalchas/propositional/HornClauses", "checkClause", "(I)V"⟩ : MethodName) prog_6_method_15_code 2 none :: ws) ({ frames := 1, cells := 2, slots := 28, locals := 14 } : Room)) (fun a U => a = #[(.ref a_1), (.int p_2)] ∧ Z.Warmed39 U.vm ∧ U.heap = h0) (fun _ _ _ _ _ => True) (fun _ U o U' => ∃ v L, o = .returned v ∧ own_Q8 Z a_1 p_2 w_clauseCount_a_1 h0 n0 v U'.heap L ∧ ReturnedEndW U o U' L ({ frames := 1, cells := 2, slots := 28, locals := 14 } : Room).cells ({ frames := 1, cells := 2, slots := 28, locals := 14 } : Room).slots) := by
  refine MetFree.of_bodySF (plainFor_of_name own_pn0) hisR ?_
  intro p e s m args below meth c s₁ Bd hml0 hP hK
  obtain ⟨rfl, hZ, hh⟩ := hP
  have hx := Bd.exec
  have hby := Bd.bytes
  have hml : c.maxLocals = 2 := hml0
  have hown : s.vm.findClass "com/example/kalchas/kalchas/propositional/HornClauses" = some m.cls := findClass_of_methodNamed Bd.named
  have hnm := (name_of_methodNamed Bd.named Bd.method).1
  have X0 : Stand p l e ({ frames := 1, cells := 2, slots := 28, locals := 14 } : Room) s m #[(.ref a_1), (.int p_2)] below meth c s₁ [] 0 0 := Stand.of_body Bd
  have e0 : s₁.heap = h0 := by rw [← hh, Bd.state]; rfl
  have N0 := Fr.nil n0
  have X0 : Stand p l e ({ frames := 1, cells := 2, slots := 28, locals := 14 } : Room) (s.setVm s.vm) m #[(.ref a_1), (.int p_2)] below meth c s₁ [] 0 0 := X0
  have hZ : Z.Warmed39 (s.setVm s.vm).vm := hZ
  have hown : (s.setVm s.vm).vm.findClass "com/example/kalchas/kalchas/propositional/HornClauses" = some m.cls := hown
  have hS0 : s.Since s.vm 0 := (State.WarmedH.refl s).since 0
  have z0 : n0 ≤ h0.size := Z0
  have z1 := own_lt pr_F_a_1_clauseCount.lt
  have K0 : Keep h0 h0 [] := Keep.refl h0 _
  show own_Go p.tables e below (fun t o => t.status = .running ∧ Ended t below o ∧ ∃ v L, o = .returned v ∧ own_Q8 Z a_1 p_2 w_clauseCount_a_1 h0 n0 v t.heap L ∧ ReturnedEndW s o t L ({ frames := 1, cells := 2, slots := 28, locals := 14 } : Room).cells ({ frames := 1, cells := 2, slots := 28, locals := 14 } : Room).slots) s₁ (entryFrame m #[(.ref a_1), (.int p_2)] 2)
  rw [own_ef_own_rm8 m a_1 p_2]
  show own_Go _ _ _ _ s₁ (mkF m 0 #[.val (.ref a_1), .val (.int p_2)] [])
  obtain ⟨b2, T2, h2, k2, X2, e2, E2, hS2, g2, hZ, hown, Li2, Wn2, st2⟩ := own_ldcSL X0 hx hZ hown (hw _ (List.mem_of_getElem? (i := 62) rfl)) (own_wS hw) e0 hS0 (by omega) (g := (mkF m 0 #[.val (.ref a_1), .val (.int p_2)] [])) rfl (hb hby own_d8_0) (n := 24) (by decide +kernel) (by decide) (by decide) (by decide)
  have z3 := E2.1
  have K2 : Keep h0 h2 [] := K0.ext E2
  refine own_go (fun _ k => st2 _ k) ?_
  show own_Go _ _ _ _ T2 (mkF m 2 #[.val (.ref a_1), .val (.int p_2)] [(.ref b2)])
  refine own_go (fun _ k => XS.iloadN X2.here hx rfl (hb hby own_d8_2) rfl k) ?_
  show own_Go _ _ _ _ T2 (mkF m 3 #[.val (.ref a_1), .val (.int p_2)] [(.int p_2), (.ref b2)])
  refine own_go (fun _ k => XS.aloadN X2.here hx rfl (hb hby own_d8_3) rfl rfl k) ?_
  show own_Go _ _ _ _ T2 (mkF m 4 #[.val (.ref a_1), .val (.int p_2)] [(.ref a_1), (.int p_2), (.ref b2)])
  have f4 : Fld Z h2 a_1 "com/example/kalchas/kalchas/propositional/HornClauses" "clauseCount" "I" (.int w_clauseCount_a_1) := (pr_F_a_1_clauseCount.ext E2)
  obtain ⟨T5, X5, e5, st5⟩ := getF X2 hx hZ hown (host := "") (Or.inl (hw _ (List.mem_of_getElem? (i := 47) rfl))) Via.refl e2 f4 (g := (mkF m 4 #[.val (.ref a_1), .val (.int p_2)] [(.ref a_1), (.int p_2), (.ref b2)])) rfl rfl (hb hby own_d8_4)
  refine own_go (fun _ k => st5 _ k) ?_
  show own_Go _ _ _ _ T5 (mkF m 7 #[.val (.ref a_1), .val (.int p_2)] [(.int w_clauseCount_a_1), (.int p_2), (.ref b2)])
  obtain ⟨_, _, ⟨T6, L6, k6, n6⟩, -, X6, ⟨Lc6, hQ6, l6, y6, z6⟩, st6⟩ := Jvm.LawKit.callS X5 hx (y := (⟨"com/example/kalchas/kalchas/propositional/HornClauses", "checkNumber", "(Ljava/lang/String;II)V"⟩ : MethodName)) hown (mvT hZ (hw _ (List.mem_of_getElem? (i := 44) rfl))) (mvT hZ (hw _ (List.mem_of_getElem? (i := 45) rfl))) (mvT hZ (hw _ (List.mem_of_getElem? (i := 4) rfl))) (mvT hZ (hw _ (List.mem_of_getElem? (i := 46) rfl))) (by decide) (backOf (W := 0) (own_rm6 l Z a0 hw [] b2 p_2 w_clauseCount_a_1  h2 n0 (by omega) (show ¬ (p_2 < 0) by first | assumption | omega | decide) (show p_2 < w_clauseCount_a_1 by first | assumption | omega | decide)) hZ (hw _ (List.mem_of_getElem? (i := 46) rfl)) (hw _ (List.mem_of_getElem? (i := 4) rfl)) (by decide) (by decide)) (g := (mkF m 7 #[.val (.ref a_1), .val (.int p_2)] [(.int w_clauseCount_a_1), (.int p_2), (.ref b2)])) rfl (by rw [hml]; rfl) (argsL := [(.ref b2), (.int p_2), (.int w_clauseCount_a_1)]) (rest := []) (lenOf own_pd0 rfl) rfl (by show 2 * 0 + _ ≤ _; exact Nat.le_of_eq rfl) (hb hby own_d8_7) (fun _ _ => ⟨rfl, e5, (by decide : 2 + 0 ≤ _), (by decide : 28 + 0 ≤ _)⟩)
  dsimp only [Pt.U, Pt.locs, Pt.cells, Pt.slots] at X6 l6 y6 z6 st6 hQ6
  have y6 : k6 = 2 := y6
  have z6 : n6 = 28 := z6
  obtain ⟨rfl, N6q, e6⟩ := hQ6
  have N6 : Fr n0 L6 := by rw [l6]; exact Fr.app N0 N6q
  refine own_go (fun _ k => st6 _ k) ?_
  show own_Go _ _ _ _ T6 (mkF m 10 #[.val (.ref a_1), .val (.int p_2)] [])
  obtain ⟨fs, hr, hrun, hended, hRW⟩ := X6.leaveW hS2 (by rw [e6]; omega) (v := none) (fun _ => rfl)
  refine ⟨_, _, X6.returnOut hx Bd.returns (hb hby own_d8_10) hr, hrun, hended, _, _, rfl, ?_, own_monoW hRW (by rw [y6]; decide) (by rw [z6]; decide)⟩
  show own_Q8 Z a_1 p_2 w_clauseCount_a_1 h0 n0 _ T6.heap _
  rw [e6]
  exact ⟨rfl, N6, K2⟩
theorem own_d4_0 : decode prog_6_method_4_code 0 = .ok (.aload_n 0, 1) := by decide +kernel
theorem own_d4_1 : decode prog_6_method_4_code 1 = .ok (.iload_n 1, 1) := by decide +kernel
theorem own_d4_2 : decode prog_6_method_4_code 2 = .ok (.invokevirtual 26, 3) := by decide +kernel
theorem own_d4_5 : decode prog_6_method_4_code 5 = .ok (.aload_n 2, 1) := by decide +kernel
theorem own_d4_6 : decode prog_6_method_4_code 6 = .ok (.astore_n 3, 1) := by decide +kernel
theorem own_d4_7 : decode prog_6_method_4_code 7 = .ok (.aload_n 3, 1) := by decide +kernel
theorem own_d4_8 : decode prog_6_method_4_code 8 = .ok (.arraylength, 1) := by decide +kernel
theorem own_d4_9 : decode prog_6_method_4_code 9 = .ok (.istore 4, 2) := by decide +kernel
theorem own_d4_11 : decode prog_6_method_4_code 11 = .ok (.iconst 0, 1) := by decide +kernel
theorem own_d4_12 : decode prog_6_method_4_code 12 = .ok (.istore 5, 2) := by decide +kernel
theorem own_d4_14 : decode prog_6_method_4_code 14 = .ok (.iload 5, 2) := by decide +kernel
theorem own_d4_16 : decode prog_6_method_4_code 16 = .ok (.iload 4, 2) := by decide +kernel
theorem own_d4_18 : decode prog_6_method_4_code 18 = .ok (.if_icmp .ge 21, 3) := by decide +kernel
theorem own_d4_39 : decode prog_6_method_4_code 39 = .ok (.aload_n 0, 1) := by decide +kernel
theorem own_d4_40 : decode prog_6_method_4_code 40 = .ok (.getfield 30, 3) := by decide +kernel
theorem own_d4_43 : decode prog_6_method_4_code 43 = .ok (.aload_n 0, 1) := by decide +kernel
theorem own_d4_44 : decode prog_6_method_4_code 44 = .ok (.getfield 9, 3) := by decide +kernel
theorem own_d4_47 : decode prog_6_method_4_code 47 = .ok (.arraylength, 1) := by decide +kernel
theorem own_d4_48 : decode prog_6_method_4_code 48 = .ok (.if_icmp .ne 37, 3) := by decide +kernel
theorem own_d4_85 : decode prog_6_method_4_code 85 = .ok (.aload_n 0, 1) := by decide +kernel
theorem own_d4_86 : decode prog_6_method_4_code 86 = .ok (.getfield 13, 3) := by decide +kernel
theorem own_d4_89 : decode prog_6_method_4_code 89 = .ok (.aload_n 0, 1) := by decide +kernel
theorem own_d4_90 : decode prog_6_method_4_code 90 = .ok (.getfield 30, 3) := by decide +kernel
theorem own_d4_93 : decode prog_6_method_4_code 93 = .ok (.iaload, 1) := by decide +kernel
theorem own_d4_94 : decode prog_6_method_4_code 94 = .ok (.istore_n 3, 1) := by decide +kernel
theorem own_d4_95 : decode prog_6_method_4_code 95 = .ok (.iload_n 3, 1) := by decide +kernel
theorem own_d4_96 : decode prog_6_method_4_code 96 = .ok (.aload_n 2, 1) := by decide +kernel
theorem own_d4_97 : decode prog_6_method_4_code 97 = .ok (.arraylength, 1) := by decide +kernel
theorem own_d4_98 : decode prog_6_method_4_code 98 = .ok (.iadd, 1) := by decide +kernel
theorem own_d4_99 : decode prog_6_method_4_code 99 = .ok (.aload_n 0, 1) := by decide +kernel
theorem own_d4_100 : decode prog_6_method_4_code 100 = .ok (.getfield 16, 3) := by decide +kernel
theorem own_d4_103 : decode prog_6_method_4_code 103 = .ok (.arraylength, 1) := by decide +kernel
theorem own_d4_104 : decode prog_6_method_4_code 104 = .ok (.if_icmp .le 28, 3) := by decide +kernel
theorem own_d4_132 : decode prog_6_method_4_code 132 = .ok (.aload_n 2, 1) := by decide +kernel
theorem own_d4_133 : decode prog_6_method_4_code 133 = .ok (.iconst 0, 1) := by decide +kernel
theorem own_d4_134 : decode prog_6_method_4_code 134 = .ok (.aload_n 0, 1) := by decide +kernel
theorem own_d4_135 : decode prog_6_method_4_code 135 = .ok (.getfield 16, 3) := by decide +kernel
theorem own_d4_138 : decode prog_6_method_4_code 138 = .ok (.iload_n 3, 1) := by decide +kernel
theorem own_d4_139 : decode prog_6_method_4_code 139 = .ok (.aload_n 2, 1) := by decide +kernel
theorem own_d4_140 : decode prog_6_method_4_code 140 = .ok (.arraylength, 1) := by decide +kernel
theorem own_d4_141 : decode prog_6_method_4_code 141 = .ok (.invokestatic 45, 3) := by decide +kernel
theorem own_d4_144 : decode prog_6_method_4_code 144 = .ok (.aload_n 0, 1) := by decide +kernel
theorem own_d4_145 : decode prog_6_method_4_code 145 = .ok (.getfield 9, 3) := by decide +kernel
theorem own_d4_148 : decode prog_6_method_4_code 148 = .ok (.aload_n 0, 1) := by decide +kernel
theorem own_d4_149 : decode prog_6_method_4_code 149 = .ok (.getfield 30, 3) := by decide +kernel
theorem own_d4_152 : decode prog_6_method_4_code 152 = .ok (.iload_n 1, 1) := by decide +kernel
theorem own_d4_153 : decode prog_6_method_4_code 153 = .ok (.iastore, 1) := by decide +kernel
theorem own_d4_154 : decode prog_6_method_4_code 154 = .ok (.aload_n 0, 1) := by decide +kernel
theorem own_d4_155 : decode prog_6_method_4_code 155 = .ok (.getfield 13, 3) := by decide +kernel
theorem own_d4_158 : decode prog_6_method_4_code 158 = .ok (.aload_n 0, 1) := by decide +kernel
theorem own_d4_159 : decode prog_6_method_4_code 159 = .ok (.getfield 30, 3) := by decide +kernel
theorem own_d4_162 : decode prog_6_method_4_code 162 = .ok (.iconst 1, 1) := by decide +kernel
theorem own_d4_163 : decode prog_6_method_4_code 163 = .ok (.iadd, 1) := by decide +kernel
theorem own_d4_164 : decode prog_6_method_4_code 164 = .ok (.iload_n 3, 1) := by decide +kernel
theorem own_d4_165 : decode prog_6_method_4_code 165 = .ok (.aload_n 2, 1) := by decide +kernel
theorem own_d4_166 : decode prog_6_method_4_code 166 = .ok (.arraylength, 1) := by decide +kernel
theorem own_d4_167 : decode prog_6_method_4_code 167 = .ok (.iadd, 1) := by decide +kernel
theorem own_d4_168 : decode prog_6_method_4_code 168 = .ok (.iastore, 1) := by decide +kernel
theorem own_d4_169 : decode prog_6_method_4_code 169 = .ok (.aload_n 0, 1) := by decide +kernel
theorem own_d4_170 : decode prog_6_method_4_code 170 = .ok (.dup, 1) := by decide +kernel
theorem own_d4_171 : decode prog_6_method_4_code 171 = .ok (.getfield 30, 3) := by decide +kernel
theorem own_d4_174 : decode prog_6_method_4_code 174 = .ok (.iconst 1, 1) := by decide +kernel
theorem own_d4_175 : decode prog_6_method_4_code 175 = .ok (.iadd, 1) := by decide +kernel
theorem own_d4_176 : decode prog_6_method_4_code 176 = .ok (.putfield 30, 3) := by decide +kernel
theorem own_d4_179 : decode prog_6_method_4_code 179 = .ok (.aload_n 0, 1) := by decide +kernel
theorem own_d4_180 : decode prog_6_method_4_code 180 = .ok (.aconst_null, 1) := by decide +kernel
theorem own_d4_181 : decode prog_6_method_4_code 181 = .ok (.putfield 19, 3) := by decide +kernel
theorem own_d4_184 : decode prog_6_method_4_code 184 = .ok (.return_, 1) := by decide +kernel
theorem own_ef_own_rm4_00 (m : MethodId) (x0 : Addr) (x1 : Int32) (x2 : Addr) : entryFrame m #[(.ref x0), (.int x1), (.ref x2)] 7 = mkF m 0 #[.val (.ref x0), .val (.int x1), .val (.ref x2), .unset, .unset, .unset, .unset] [] := by first | (simp [entryFrame, mkF, argsToLocals, Value.category]; done) | rfl
set_option maxRecDepth 65536 in
set_option maxHeartbeats 4000000 in
theorem own_t4_00_0 (bs : Int32) (hbs : 0 ≤ bs.toInt ∧ bs.toInt ≤ 10) : ¬ ((64 : Int32) < (bs + (0 : Int32))) := by
  have el0 : (0 : Int32).toInt = 0 := by decide
  have el1 : (64 : Int32).toInt = 64 := by decide
  have rv_bs := rng32 bs
  have fa3 := c_iadd bs (0 : Int32)
  have fa4 := rng32 (bs + (0 : Int32))
  have own0 : (0 : Int32).toInt = 0 := by decide
  simp only [← Int32.toInt_inj, Int32.lt_iff_toInt_lt, implies_true, and_true, true_and, own0, el0, el1] at *
  omega
set_option maxRecDepth 65536 in
set_option maxHeartbeats 4000000 in
theorem own_t4_00_1 (bs : Int32) (hbs : 0 ≤ bs.toInt ∧ bs.toInt ≤ 10) (hc35 : ¬ ((64 : Int32) < (bs + (0 : Int32)))) : 0 ≤ bs.toInt ∧ bs.toInt ≤ 64 := by
  have el0 : (0 : Int32).toInt = 0 := by decide
  have el1 : (64 : Int32).toInt = 64 := by decide
  have rv_bs := rng32 bs
  have fa3 := c_iadd bs (0 : Int32)
  have fa4 := rng32 (bs + (0 : Int32))
  have own0 : (0 : Int32).toInt = 0 := by decide
  simp only [← Int32.toInt_inj, Int32.lt_iff_toInt_lt, implies_true, and_true, true_and, own0, el0, el1] at *
  omega
set_option maxRecDepth 65536 in
set_option maxHeartbeats 4000000 in
theorem own_t4_00_2 (bs : Int32) (hbs : 0 ≤ bs.toInt ∧ bs.toInt ≤ 10) (hc35 : ¬ ((64 : Int32) < (bs + (0 : Int32)))) : ¬ bs < 0 := by
  have el0 : (0 : Int32).toInt = 0 := by decide
  have el1 : (64 : Int32).toInt = 64 := by decide
  have rv_bs := rng32 bs
  have fa3 := c_iadd bs (0 : Int32)
  have fa4 := rng32 (bs + (0 : Int32))
  have own0 : (0 : Int32).toInt = 0 := by decide
  simp only [← Int32.toInt_inj, Int32.lt_iff_toInt_lt, implies_true, and_true, true_and, own0, el0, el1] at *
  omega
def own_Q4_00 (Z : State) (a_1 : Addr) (p_2 : Int32) (a_3 : Addr) (wh : Addr) (wst : Addr) (wb : Addr) (gh : Nat → Value) (gs : Nat → Value) (gb : Nat → Value) (bs : Int32) (w_occ : Value) (h0 : Heap) (n0 : Nat) (v : Option Value) (h : Heap) (L : List Loc) : Prop := ∃ (gb_ : Nat → Value), v = none ∧ Fr n0 L ∧ Keep h0 h [a_1, wh, wst, wb] ∧ Exa Z h a_1 "com/example/kalchas/kalchas/propositional/HornClauses" ∧ Fld Z h a_1 "com/example/kalchas/kalchas/propositional/HornClauses" "variableCount" "I" (.int (3 : Int32)) ∧ Fld Z h a_1 "com/example/kalchas/kalchas/propositional/HornClauses" "clauseCount" "I" (.int (1 : Int32)) ∧ Fld Z h a_1 "com/example/kalchas/kalchas/propositional/HornClauses" "heads" "[I" (.ref wh) ∧ Fld Z h a_1 "com/example/kalchas/kalchas/propositional/HornClauses" "bodyStarts" "[I" (.ref wst) ∧ Fld Z h a_1 "com/example/kalchas/kalchas/propositional/HornClauses" "bodies" "[I" (.ref wb) ∧ Fld Z h a_1 "com/example/kalchas/kalchas/propositional/HornClauses" "occurrences" "[I" .null ∧ own_AV Z h wh .int (64 : Int32) (own_upd gh 0 (.int p_2)) ∧ own_AV Z h wst .int (65 : Int32) (own_upd gs 1 (.int (bs + (0 : Int32)))) ∧ own_AV Z h wb .int (64 : Int32) gb_ ∧ (∀ i, fits .int (gb_ i) = true)
set_option maxRecDepth 65536 in
set_option maxHeartbeats 40000000 in
theorem own_rm4_00 (l : Launch) (Z : State) (a0 : Array Value) (hw : ∀ d ∈ tables_1, d.before a0 Z = true) (ws : List Jvm.Cond) (a_1 : Addr) (p_2 : Int32) (a_3 : Addr) (wh : Addr) (wst : Addr) (wb : Addr) (gh : Nat → Value) (gs : Nat → Value) (gb : Nat → Value) (bs : Int32) (w_occ : Value) (h0 : Heap) (n0 : Nat) (Z0 : n0 ≤ h0.size) (pr_E_a_1 : Exa Z h0 a_1 "com/example/kalchas/kalchas/propositional/HornClauses") (pr_F_a_1_variableCount : Fld Z h0 a_1 "com/example/kalchas/kalchas/propositional/HornClauses" "variableCount" "I" (.int (3 : Int32))) (pr_F_a_1_clauseCount : Fld Z h0 a_1 "com/example/kalchas/kalchas/propositional/HornClauses" "clauseCount" "I" (.int (0 : Int32))) (pr_F_a_1_heads : Fld Z h0 a_1 "com/example/kalchas/kalchas/propositional/HornClauses" "heads" "[I" (.ref wh)) (pr_F_a_1_bodyStarts : Fld Z h0 a_1 "com/example/kalchas/kalchas/propositional/HornClauses" "bodyStarts" "[I" (.ref wst)) (pr_F_a_1_bodies : Fld Z h0 a_1 "com/example/kalchas/kalchas/propositional/HornClauses" "bodies" "[I" (.ref wb)) (pr_F_a_1_occurrences : Fld Z h0 a_1 "com/example/kalchas/kalchas/propositional/HornClauses" "occurrences" "[I" w_occ) (pr_A_wh : own_AV Z h0 wh .int (64 : Int32) gh) (pr_A_wst : own_AV Z h0 wst .int (65 : Int32) gs) (pr_A_wb : own_AV Z h0 wb .int (64 : Int32) gb) (pr_A_a_3 : own_AV Z h0 a_3 .int (0 : Int32) (fun _ => (.int (0 : Int32)))) (hord : own_lts [a_3, a_1, wh, wst, wb]) (hgs : gs 0 = .int bs) (hbs : 0 ≤ bs.toInt ∧ bs.toInt ≤ 10) (hfb : ∀ i, fits .int (gb i) = true) (hp1 : ¬ (p_2 < 0)) (hp2 : p_2 < (3 : Int32)) (gw_a_1 : n0 ≤ a_1) (gw_wh : n0 ≤ wh) (gw_wst : n0 ≤ wst) (gw_wb : n0 ≤ wb) :
    MetFree l (⟨"com/example/kalchas/kalchas/propositional/HornClauses", "add", "(I[I)V"⟩ : MethodName) (head1 (Jvm.Cond.code (⟨"com/example/kalchas/kalchas/propositional/HornClauses", "add", "(I[I)V"⟩ : MethodName) prog_6_method_4_code 7 none :: ws) ({ frames := 2, cells := 2, slots := 36, locals := 40 } : Room)) (fun a U => a = #[(.ref a_1), (.int p_2), (.ref a_3)] ∧ Z.Warmed39 U.vm ∧ U.heap = h0) (fun _ _ _ _ _ => True) (fun _ U o U' => ∃ v L, o = .returned v ∧ own_Q4_00 Z a_1 p_2 a_3 wh wst wb gh gs gb bs w_occ h0 n0 v U'.heap L ∧ ReturnedEndW U o U' L ({ frames := 2, cells := 2, slots := 36, locals := 40 } : Room).cells ({ frames := 2, cells := 2, slots := 36, locals := 40 } : Room).slots) := by
  refine MetFree.of_bodySF (plainFor_of_name own_pn0) hisR ?_
  intro p e s m args below meth c s₁ Bd hml0 hP hK
  obtain ⟨rfl, hZ, hh⟩ := hP
  have hx := Bd.exec
  have hby := Bd.bytes
  have hml : c.maxLocals = 7 := hml0
  have hown : s.vm.findClass "com/example/kalchas/kalchas/propositional/HornClauses" = some m.cls := findClass_of_methodNamed Bd.named
  have hnm := (name_of_methodNamed Bd.named Bd.method).1
  have X0 : Stand p l e ({ frames := 2, cells := 2, slots := 36, locals := 40 } : Room) s m #[(.ref a_1), (.int p_2), (.ref a_3)] below meth c s₁ [] 0 0 := Stand.of_body Bd
  have e0 : s₁.heap = h0 := by rw [← hh, Bd.state]; rfl
  have N0 := Fr.nil n0
  have X0 : Stand p l e ({ frames := 2, cells := 2, slots := 36, locals := 40 } : Room) (s.setVm s.vm) m #[(.ref a_1), (.int p_2), (.ref a_3)] below meth c s₁ [] 0 0 := X0
  have hZ : Z.Warmed39 (s.setVm s.vm).vm := hZ
  have hown : (s.setVm s.vm).vm.findClass "com/example/kalchas/kalchas/propositional/HornClauses" = some m.cls := hown
  have hS0 : s.Since s.vm 0 := (State.WarmedH.refl s).since 0
  have z0 : n0 ≤ h0.size := Z0
  have z1 := own_lt pr_E_a_1.lt
  have z2 := own_lt pr_F_a_1_variableCount.lt
  have z3 := own_lt pr_F_a_1_clauseCount.lt
  have z4 := own_lt pr_F_a_1_heads.lt
  have z5 := own_lt pr_F_a_1_bodyStarts.lt
  have z6 := own_lt pr_F_a_1_bodies.lt
  have z7 := own_lt pr_F_a_1_occurrences.lt
  have z8 := own_lt pr_A_wh.lt
  have z9 := own_lt pr_A_wst.lt
  have z10 := own_lt pr_A_wb.lt
  have z11 := own_lt pr_A_a_3.lt
  have ho12 := hord
  simp only [own_lts, and_true] at ho12
  have K0 : Keep h0 h0 [a_1, wh, wst, wb] := Keep.refl h0 _
  show own_Go p.tables e below (fun t o => t.status = .running ∧ Ended t below o ∧ ∃ v L, o = .returned v ∧ own_Q4_00 Z a_1 p_2 a_3 wh wst wb gh gs gb bs w_occ h0 n0 v t.heap L ∧ ReturnedEndW s o t L ({ frames := 2, cells := 2, slots := 36, locals := 40 } : Room).cells ({ frames := 2, cells := 2, slots := 36, locals := 40 } : Room).slots) s₁ (entryFrame m #[(.ref a_1), (.int p_2), (.ref a_3)] 7)
  rw [own_ef_own_rm4_00 m a_1 p_2 a_3]
  show own_Go _ _ _ _ s₁ (mkF m 0 #[.val (.ref a_1), .val (.int p_2), .val (.ref a_3), .unset, .unset, .unset, .unset] [])
  refine own_go (fun _ k => XS.aloadN X0.here hx rfl (hb hby own_d4_0) rfl rfl k) ?_
  show own_Go _ _ _ _ s₁ (mkF m 1 #[.val (.ref a_1), .val (.int p_2), .val (.ref a_3), .unset, .unset, .unset, .unset] [(.ref a_1)])
  refine own_go (fun _ k => XS.iloadN X0.here hx rfl (hb hby own_d4_1) rfl k) ?_
  show own_Go _ _ _ _ s₁ (mkF m 2 #[.val (.ref a_1), .val (.int p_2), .val (.ref a_3), .unset, .unset, .unset, .unset] [(.int p_2), (.ref a_1)])
  obtain ⟨cq13, kq13, q13a, q13b, q13c⟩ := isOf hZ e0 pr_E_a_1
  obtain ⟨_, _, ⟨T13, L13, k13, n13⟩, -, X13, hS13, gr13, ⟨Lc13, hQ13, l13, y13, z13⟩, st13⟩ := X0.virtualBackS hx (y := (⟨"com/example/kalchas/kalchas/propositional/HornClauses", "checkVariable", "(I)V"⟩ : MethodName)) (z := (⟨"com/example/kalchas/kalchas/propositional/HornClauses", "checkVariable", "(I)V"⟩ : MethodName)) hown (mvT hZ (hw _ (List.mem_of_getElem? (i := 31) rfl))) (mvT hZ (hw _ (List.mem_of_getElem? (i := 32) rfl))) (notFace_of_selects (args := #[]) (mvT hZ (hw _ (List.mem_of_getElem? (i := 34) rfl)))) (mvT hZ (hw _ (List.mem_of_getElem? (i := 34) rfl))) (mvT hZ (hw _ (List.mem_of_getElem? (i := 33) rfl))) (by decide) (backOfS (W := 0) (own_rm5 l Z a0 hw [] a_1 p_2 (3 : Int32) h0 n0 (by omega) (show ¬ (p_2 < 0) by first | assumption | omega | decide) (show p_2 < (3 : Int32) by first | assumption | omega | decide) pr_F_a_1_variableCount) hZ (hw _ (List.mem_of_getElem? (i := 35) rfl)) (hw _ (List.mem_of_getElem? (i := 4) rfl)) (by decide) (by decide)) q13a q13c (g := (mkF m 2 #[.val (.ref a_1), .val (.int p_2), .val (.ref a_3), .unset, .unset, .unset, .unset] [(.int p_2), (.ref a_1)])) rfl (by rw [hml]; rfl) (Steps.refl _) (argsL := [(.int p_2)]) (rest := []) (lenOf own_pd1 rfl) rfl (by show 2 * 0 + _ ≤ _; exact Nat.le_of_eq rfl) (hb hby own_d4_2) (fun _ _ => ⟨rfl, e0, (by decide : 0 + 2 ≤ _), (by decide : 0 + 36 ≤ _)⟩)
  dsimp only [Pt.U, Pt.locs, Pt.cells, Pt.slots] at X13 l13 y13 z13 st13 hQ13 hS13 gr13
  have y13 : k13 = 2 := y13
  have z13 : n13 = 36 := z13
  have Wn13 := hS13.1
  obtain ⟨X13, hS13, hZ, hown⟩ := rebS hS0 (n1 := s₁.heap.size) (by rw [e0]; omega) X13 hS13 gr13 hZ hown
  obtain ⟨rfl, N13q, K13q⟩ := hQ13
  have N13 : Fr n0 L13 := by rw [l13]; exact Fr.app N0 N13q
  have z14 := K13q.1
  have K13 : Keep h0 T13.heap [a_1, wh, wst, wb] := K0.trans K13q all0
  refine own_go (fun _ k => st13.trans k) ?_
  show own_Go _ _ _ _ T13 (mkF m 5 #[.val (.ref a_1), .val (.int p_2), .val (.ref a_3), .unset, .unset, .unset, .unset] [])
  refine own_go (fun _ k => XS.aloadN X13.here hx rfl (hb hby own_d4_5) rfl rfl k) ?_
  show own_Go _ _ _ _ T13 (mkF m 6 #[.val (.ref a_1), .val (.int p_2), .val (.ref a_3), .unset, .unset, .unset, .unset] [(.ref a_3)])
  refine own_go (fun _ k => XS.astoreN X13.here hx rfl (hb hby own_d4_6) rfl rfl (l' := #[.val (.ref a_1), .val (.int p_2), .val (.ref a_3), .val (.ref a_3), .unset, .unset, .unset]) rfl k) ?_
  show own_Go _ _ _ _ T13 (mkF m 7 #[.val (.ref a_1), .val (.int p_2), .val (.ref a_3), .val (.ref a_3), .unset, .unset, .unset] [])
  refine own_go (fun _ k => XS.aloadN X13.here hx rfl (hb hby own_d4_7) rfl rfl k) ?_
  show own_Go _ _ _ _ T13 (mkF m 8 #[.val (.ref a_1), .val (.int p_2), .val (.ref a_3), .val (.ref a_3), .unset, .unset, .unset] [(.ref a_3)])
  have f15 : own_AV Z T13.heap a_3 .int (0 : Int32) (fun _ => (.int (0 : Int32))) := (pr_A_a_3.keep K13q nin0)
  obtain ⟨q16, c16, R16, s16, t16⟩ := id f15
  refine own_go (fun _ k => X13.arraylength hx R16.1 (State.isArrayOf_alike hZ.alike R16.2.1) (g := (mkF m 8 #[.val (.ref a_1), .val (.int p_2), .val (.ref a_3), .val (.ref a_3), .unset, .unset, .unset] [(.ref a_3)])) rfl rfl (hb hby own_d4_8) _ k) ?_
  rw [len_of s16 q16]
  show own_Go _ _ _ _ T13 (mkF m 9 #[.val (.ref a_1), .val (.int p_2), .val (.ref a_3), .val (.ref a_3), .unset, .unset, .unset] [(.int (0 : Int32))])
  refine own_go (fun _ k => XS.istore X13.here hx rfl (hb hby own_d4_9) rfl (l' := #[.val (.ref a_1), .val (.int p_2), .val (.ref a_3), .val (.ref a_3), .val (.int (0 : Int32)), .unset, .unset]) rfl k) ?_
  show own_Go _ _ _ _ T13 (mkF m 11 #[.val (.ref a_1), .val (.int p_2), .val (.ref a_3), .val (.ref a_3), .val (.int (0 : Int32)), .unset, .unset] [])
  refine own_go (fun _ k => XS.iconst X13.here hx rfl (hb hby own_d4_11) k) ?_
  show own_Go _ _ _ _ T13 (mkF m 12 #[.val (.ref a_1), .val (.int p_2), .val (.ref a_3), .val (.ref a_3), .val (.int (0 : Int32)), .unset, .unset] [(.int (0 : Int32))])
  refine own_go (fun _ k => XS.istore X13.here hx rfl (hb hby own_d4_12) rfl (l' := #[.val (.ref a_1), .val (.int p_2), .val (.ref a_3), .val (.ref a_3), .val (.int (0 : Int32)), .val (.int (0 : Int32)), .unset]) rfl k) ?_
  show own_Go _ _ _ _ T13 (mkF m 14 #[.val (.ref a_1), .val (.int p_2), .val (.ref a_3), .val (.ref a_3), .val (.int (0 : Int32)), .val (.int (0 : Int32)), .unset] [])
  refine own_go (fun _ k => XS.iload X13.here hx rfl (hb hby own_d4_14) rfl k) ?_
  show own_Go _ _ _ _ T13 (mkF m 16 #[.val (.ref a_1), .val (.int p_2), .val (.ref a_3), .val (.ref a_3), .val (.int (0 : Int32)), .val (.int (0 : Int32)), .unset] [(.int (0 : Int32))])
  refine own_go (fun _ k => XS.iload X13.here hx rfl (hb hby own_d4_16) rfl k) ?_
  show own_Go _ _ _ _ T13 (mkF m 18 #[.val (.ref a_1), .val (.int p_2), .val (.ref a_3), .val (.ref a_3), .val (.int (0 : Int32)), .val (.int (0 : Int32)), .unset] [(.int (0 : Int32)), (.int (0 : Int32))])
  have hc17 : ¬ ((0 : Int32) < (0 : Int32)) := by decide
  refine own_go (fun _ k => XS.icmpYes X13.here hx rfl (pc0 := 18) (pc' := 39) rfl (hb hby own_d4_18) rfl (Jvm.Free.XT.ii_ge_t hc17) (by decide) (by decide) k) ?_
  show own_Go _ _ _ _ T13 (mkF m 39 #[.val (.ref a_1), .val (.int p_2), .val (.ref a_3), .val (.ref a_3), .val (.int (0 : Int32)), .val (.int (0 : Int32)), .unset] [])
  refine own_go (fun _ k => XS.aloadN X13.here hx rfl (hb hby own_d4_39) rfl rfl k) ?_
  show own_Go _ _ _ _ T13 (mkF m 40 #[.val (.ref a_1), .val (.int p_2), .val (.ref a_3), .val (.ref a_3), .val (.int (0 : Int32)), .val (.int (0 : Int32)), .unset] [(.ref a_1)])
  have f18 : Fld Z T13.heap a_1 "com/example/kalchas/kalchas/propositional/HornClauses" "clauseCount" "I" (.int (0 : Int32)) := (pr_F_a_1_clauseCount.keep K13q nin0)
  obtain ⟨T19, X19, e19, st19⟩ := getF X13 hx hZ hown (host := "") (Or.inl (hw _ (List.mem_of_getElem? (i := 47) rfl))) Via.refl rfl f18 (g := (mkF m 40 #[.val (.ref a_1), .val (.int p_2), .val (.ref a_3), .val (.ref a_3), .val (.int (0 : Int32)), .val (.int (0 : Int32)), .unset] [(.ref a_1)])) rfl rfl (hb hby own_d4_40)
  refine own_go (fun _ k => st19 _ k) ?_
  show own_Go _ _ _ _ T19 (mkF m 43 #[.val (.ref a_1), .val (.int p_2), .val (.ref a_3), .val (.ref a_3), .val (.int (0 : Int32)), .val (.int (0 : Int32)), .unset] [(.int (0 : Int32))])
  refine own_go (fun _ k => XS.aloadN X19.here hx rfl (hb hby own_d4_43) rfl rfl k) ?_
  show own_Go _ _ _ _ T19 (mkF m 44 #[.val (.ref a_1), .val (.int p_2), .val (.ref a_3), .val (.ref a_3), .val (.int (0 : Int32)), .val (.int (0 : Int32)), .unset] [(.ref a_1), (.int (0 : Int32))])
  have f20 : Fld Z T13.heap a_1 "com/example/kalchas/kalchas/propositional/HornClauses" "heads" "[I" (.ref wh) := (pr_F_a_1_heads.keep K13q nin0)
  obtain ⟨T21, X21, e21, st21⟩ := getF X19 hx hZ hown (host := "") (Or.inl (hw _ (List.mem_of_getElem? (i := 11) rfl))) Via.refl e19 f20 (g := (mkF m 44 #[.val (.ref a_1), .val (.int p_2), .val (.ref a_3), .val (.ref a_3), .val (.int (0 : Int32)), .val (.int (0 : Int32)), .unset] [(.ref a_1), (.int (0 : Int32))])) rfl rfl (hb hby own_d4_44)
  refine own_go (fun _ k => st21 _ k) ?_
  show own_Go _ _ _ _ T21 (mkF m 47 #[.val (.ref a_1), .val (.int p_2), .val (.ref a_3), .val (.ref a_3), .val (.int (0 : Int32)), .val (.int (0 : Int32)), .unset] [(.ref wh), (.int (0 : Int32))])
  have f22 : own_AV Z T13.heap wh .int (64 : Int32) gh := (pr_A_wh.keep K13q nin0)
  obtain ⟨q23, c23, R23, s23, t23⟩ := id f22
  refine own_go (fun _ k => X21.arraylength hx (by rw [e21]; exact R23.1) (State.isArrayOf_alike hZ.alike R23.2.1) (g := (mkF m 47 #[.val (.ref a_1), .val (.int p_2), .val (.ref a_3), .val (.ref a_3), .val (.int (0 : Int32)), .val (.int (0 : Int32)), .unset] [(.ref wh), (.int (0 : Int32))])) rfl rfl (hb hby own_d4_47) _ k) ?_
  rw [len_of s23 q23]
  show own_Go _ _ _ _ T21 (mkF m 48 #[.val (.ref a_1), .val (.int p_2), .val (.ref a_3), .val (.ref a_3), .val (.int (0 : Int32)), .val (.int (0 : Int32)), .unset] [(.int (64 : Int32)), (.int (0 : Int32))])
  have hc24 : ¬ ((0 : Int32) = (64 : Int32)) := by decide
  refine own_go (fun _ k => XS.icmpYes X21.here hx rfl (pc0 := 48) (pc' := 85) rfl (hb hby own_d4_48) rfl (Jvm.Free.XT.ii_ne_t hc24) (by decide) (by decide) k) ?_
  show own_Go _ _ _ _ T21 (mkF m 85 #[.val (.ref a_1), .val (.int p_2), .val (.ref a_3), .val (.ref a_3), .val (.int (0 : Int32)), .val (.int (0 : Int32)), .unset] [])
  refine own_go (fun _ k => XS.aloadN X21.here hx rfl (hb hby own_d4_85) rfl rfl k) ?_
  show own_Go _ _ _ _ T21 (mkF m 86 #[.val (.ref a_1), .val (.int p_2), .val (.ref a_3), .val (.ref a_3), .val (.int (0 : Int32)), .val (.int (0 : Int32)), .unset] [(.ref a_1)])
  have f25 : Fld Z T13.heap a_1 "com/example/kalchas/kalchas/propositional/HornClauses" "bodyStarts" "[I" (.ref wst) := (pr_F_a_1_bodyStarts.keep K13q nin0)
  obtain ⟨T26, X26, e26, st26⟩ := getF X21 hx hZ hown (host := "") (Or.inl (hw _ (List.mem_of_getElem? (i := 13) rfl))) Via.refl e21 f25 (g := (mkF m 86 #[.val (.ref a_1), .val (.int p_2), .val (.ref a_3), .val (.ref a_3), .val (.int (0 : Int32)), .val (.int (0 : Int32)), .unset] [(.ref a_1)])) rfl rfl (hb hby own_d4_86)
  refine own_go (fun _ k => st26 _ k) ?_
  show own_Go _ _ _ _ T26 (mkF m 89 #[.val (.ref a_1), .val (.int p_2), .val (.ref a_3), .val (.ref a_3), .val (.int (0 : Int32)), .val (.int (0 : Int32)), .unset] [(.ref wst)])
  refine own_go (fun _ k => XS.aloadN X26.here hx rfl (hb hby own_d4_89) rfl rfl k) ?_
  show own_Go _ _ _ _ T26 (mkF m 90 #[.val (.ref a_1), .val (.int p_2), .val (.ref a_3), .val (.ref a_3), .val (.int (0 : Int32)), .val (.int (0 : Int32)), .unset] [(.ref a_1), (.ref wst)])
  obtain ⟨T27, X27, e27, st27⟩ := getF X26 hx hZ hown (host := "") (Or.inl (hw _ (List.mem_of_getElem? (i := 47) rfl))) Via.refl e26 f18 (g := (mkF m 90 #[.val (.ref a_1), .val (.int p_2), .val (.ref a_3), .val (.ref a_3), .val (.int (0 : Int32)), .val (.int (0 : Int32)), .unset] [(.ref a_1), (.ref wst)])) rfl rfl (hb hby own_d4_90)
  refine own_go (fun _ k => st27 _ k) ?_
  show own_Go _ _ _ _ T27 (mkF m 93 #[.val (.ref a_1), .val (.int p_2), .val (.ref a_3), .val (.ref a_3), .val (.int (0 : Int32)), .val (.int (0 : Int32)), .unset] [(.int (0 : Int32)), (.ref wst)])
  have f28 : own_AV Z T13.heap wst .int (65 : Int32) gs := (pr_A_wst.keep K13q nin0)
  obtain ⟨q29, c29, R29, s29, t29⟩ := id f28
  have hin29 : ¬ ((0 : Int32) < 0 ∨ c29.slots.size ≤ ((0 : Int32)).toNatClampNeg) := inb_of s29 ⟨by decide, by decide⟩
  have u29 : c29.slots[((0 : Int32)).toNatClampNeg]? = some (.int bs) := own_at (k := 0) t29 s29 hin29 (by decide) (hgs)
  refine own_go (fun _ k => X27.iaload hx (j := (0 : Int32)) (v := (.int bs)) (by rw [e27]; exact R29.1) (State.isArrayOf_alike hZ.alike R29.2.1) R29.2.2 hin29 u29 (g := (mkF m 93 #[.val (.ref a_1), .val (.int p_2), .val (.ref a_3), .val (.ref a_3), .val (.int (0 : Int32)), .val (.int (0 : Int32)), .unset] [(.int (0 : Int32)), (.ref wst)])) rfl rfl (hb hby own_d4_93) _ k) ?_
  show own_Go _ _ _ _ T27 (mkF m 94 #[.val (.ref a_1), .val (.int p_2), .val (.ref a_3), .val (.ref a_3), .val (.int (0 : Int32)), .val (.int (0 : Int32)), .unset] [(.int bs)])
  refine own_go (fun _ k => XS.istoreN X27.here hx rfl (hb hby own_d4_94) rfl (l' := #[.val (.ref a_1), .val (.int p_2), .val (.ref a_3), .val (.int bs), .val (.int (0 : Int32)), .val (.int (0 : Int32)), .unset]) rfl k) ?_
  show own_Go _ _ _ _ T27 (mkF m 95 #[.val (.ref a_1), .val (.int p_2), .val (.ref a_3), .val (.int bs), .val (.int (0 : Int32)), .val (.int (0 : Int32)), .unset] [])
  refine own_go (fun _ k => XS.iloadN X27.here hx rfl (hb hby own_d4_95) rfl k) ?_
  show own_Go _ _ _ _ T27 (mkF m 96 #[.val (.ref a_1), .val (.int p_2), .val (.ref a_3), .val (.int bs), .val (.int (0 : Int32)), .val (.int (0 : Int32)), .unset] [(.int bs)])
  refine own_go (fun _ k => XS.aloadN X27.here hx rfl (hb hby own_d4_96) rfl rfl k) ?_
  show own_Go _ _ _ _ T27 (mkF m 97 #[.val (.ref a_1), .val (.int p_2), .val (.ref a_3), .val (.int bs), .val (.int (0 : Int32)), .val (.int (0 : Int32)), .unset] [(.ref a_3), (.int bs)])
  obtain ⟨q30, c30, R30, s30, t30⟩ := id f15
  refine own_go (fun _ k => X27.arraylength hx (by rw [e27]; exact R30.1) (State.isArrayOf_alike hZ.alike R30.2.1) (g := (mkF m 97 #[.val (.ref a_1), .val (.int p_2), .val (.ref a_3), .val (.int bs), .val (.int (0 : Int32)), .val (.int (0 : Int32)), .unset] [(.ref a_3), (.int bs)])) rfl rfl (hb hby own_d4_97) _ k) ?_
  rw [len_of s30 q30]
  show own_Go _ _ _ _ T27 (mkF m 98 #[.val (.ref a_1), .val (.int p_2), .val (.ref a_3), .val (.int bs), .val (.int (0 : Int32)), .val (.int (0 : Int32)), .unset] [(.int (0 : Int32)), (.int bs)])
  refine own_go (fun _ k => XS.iadd X27.here hx rfl (hb hby own_d4_98) rfl k) ?_
  show own_Go _ _ _ _ T27 (mkF m 99 #[.val (.ref a_1), .val (.int p_2), .val (.ref a_3), .val (.int bs), .val (.int (0 : Int32)), .val (.int (0 : Int32)), .unset] [(.int (bs + (0 : Int32)))])
  refine own_go (fun _ k => XS.aloadN X27.here hx rfl (hb hby own_d4_99) rfl rfl k) ?_
  show own_Go _ _ _ _ T27 (mkF m 100 #[.val (.ref a_1), .val (.int p_2), .val (.ref a_3), .val (.int bs), .val (.int (0 : Int32)), .val (.int (0 : Int32)), .unset] [(.ref a_1), (.int (bs + (0 : Int32)))])
  have f31 : Fld Z T13.heap a_1 "com/example/kalchas/kalchas/propositional/HornClauses" "bodies" "[I" (.ref wb) := (pr_F_a_1_bodies.keep K13q nin0)
  obtain ⟨T32, X32, e32, st32⟩ := getF X27 hx hZ hown (host := "") (Or.inl (hw _ (List.mem_of_getElem? (i := 15) rfl))) Via.refl e27 f31 (g := (mkF m 100 #[.val (.ref a_1), .val (.int p_2), .val (.ref a_3), .val (.int bs), .val (.int (0 : Int32)), .val (.int (0 : Int32)), .unset] [(.ref a_1), (.int (bs + (0 : Int32)))])) rfl rfl (hb hby own_d4_100)
  refine own_go (fun _ k => st32 _ k) ?_
  show own_Go _ _ _ _ T32 (mkF m 103 #[.val (.ref a_1), .val (.int p_2), .val (.ref a_3), .val (.int bs), .val (.int (0 : Int32)), .val (.int (0 : Int32)), .unset] [(.ref wb), (.int (bs + (0 : Int32)))])
  have f33 : own_AV Z T13.heap wb .int (64 : Int32) gb := (pr_A_wb.keep K13q nin0)
  obtain ⟨q34, c34, R34, s34, t34⟩ := id f33
  refine own_go (fun _ k => X32.arraylength hx (by rw [e32]; exact R34.1) (State.isArrayOf_alike hZ.alike R34.2.1) (g := (mkF m 103 #[.val (.ref a_1), .val (.int p_2), .val (.ref a_3), .val (.int bs), .val (.int (0 : Int32)), .val (.int (0 : Int32)), .unset] [(.ref wb), (.int (bs + (0 : Int32)))])) rfl rfl (hb hby own_d4_103) _ k) ?_
  rw [len_of s34 q34]
  show own_Go _ _ _ _ T32 (mkF m 104 #[.val (.ref a_1), .val (.int p_2), .val (.ref a_3), .val (.int bs), .val (.int (0 : Int32)), .val (.int (0 : Int32)), .unset] [(.int (64 : Int32)), (.int (bs + (0 : Int32)))])
  have hc35 : ¬ ((64 : Int32) < (bs + (0 : Int32))) := own_t4_00_0 bs hbs
  refine own_go (fun _ k => XS.icmpYes X32.here hx rfl (pc0 := 104) (pc' := 132) rfl (hb hby own_d4_104) rfl (Jvm.Free.XT.ii_le_t hc35) (by decide) (by decide) k) ?_
  show own_Go _ _ _ _ T32 (mkF m 132 #[.val (.ref a_1), .val (.int p_2), .val (.ref a_3), .val (.int bs), .val (.int (0 : Int32)), .val (.int (0 : Int32)), .unset] [])
  refine own_go (fun _ k => XS.aloadN X32.here hx rfl (hb hby own_d4_132) rfl rfl k) ?_
  show own_Go _ _ _ _ T32 (mkF m 133 #[.val (.ref a_1), .val (.int p_2), .val (.ref a_3), .val (.int bs), .val (.int (0 : Int32)), .val (.int (0 : Int32)), .unset] [(.ref a_3)])
  refine own_go (fun _ k => XS.iconst X32.here hx rfl (hb hby own_d4_133) k) ?_
  show own_Go _ _ _ _ T32 (mkF m 134 #[.val (.ref a_1), .val (.int p_2), .val (.ref a_3), .val (.int bs), .val (.int (0 : Int32)), .val (.int (0 : Int32)), .unset] [(.int (0 : Int32)), (.ref a_3)])
  refine own_go (fun _ k => XS.aloadN X32.here hx rfl (hb hby own_d4_134) rfl rfl k) ?_
  show own_Go _ _ _ _ T32 (mkF m 135 #[.val (.ref a_1), .val (.int p_2), .val (.ref a_3), .val (.int bs), .val (.int (0 : Int32)), .val (.int (0 : Int32)), .unset] [(.ref a_1), (.int (0 : Int32)), (.ref a_3)])
  obtain ⟨T36, X36, e36, st36⟩ := getF X32 hx hZ hown (host := "") (Or.inl (hw _ (List.mem_of_getElem? (i := 15) rfl))) Via.refl e32 f31 (g := (mkF m 135 #[.val (.ref a_1), .val (.int p_2), .val (.ref a_3), .val (.int bs), .val (.int (0 : Int32)), .val (.int (0 : Int32)), .unset] [(.ref a_1), (.int (0 : Int32)), (.ref a_3)])) rfl rfl (hb hby own_d4_135)
  refine own_go (fun _ k => st36 _ k) ?_
  show own_Go _ _ _ _ T36 (mkF m 138 #[.val (.ref a_1), .val (.int p_2), .val (.ref a_3), .val (.int bs), .val (.int (0 : Int32)), .val (.int (0 : Int32)), .unset] [(.ref wb), (.int (0 : Int32)), (.ref a_3)])
  refine own_go (fun _ k => XS.iloadN X36.here hx rfl (hb hby own_d4_138) rfl k) ?_
  show own_Go _ _ _ _ T36 (mkF m 139 #[.val (.ref a_1), .val (.int p_2), .val (.ref a_3), .val (.int bs), .val (.int (0 : Int32)), .val (.int (0 : Int32)), .unset] [(.int bs), (.ref wb), (.int (0 : Int32)), (.ref a_3)])
  refine own_go (fun _ k => XS.aloadN X36.here hx rfl (hb hby own_d4_139) rfl rfl k) ?_
  show own_Go _ _ _ _ T36 (mkF m 140 #[.val (.ref a_1), .val (.int p_2), .val (.ref a_3), .val (.int bs), .val (.int (0 : Int32)), .val (.int (0 : Int32)), .unset] [(.ref a_3), (.int bs), (.ref wb), (.int (0 : Int32)), (.ref a_3)])
  obtain ⟨q37, c37, R37, s37, t37⟩ := id f15
  refine own_go (fun _ k => X36.arraylength hx (by rw [e36]; exact R37.1) (State.isArrayOf_alike hZ.alike R37.2.1) (g := (mkF m 140 #[.val (.ref a_1), .val (.int p_2), .val (.ref a_3), .val (.int bs), .val (.int (0 : Int32)), .val (.int (0 : Int32)), .unset] [(.ref a_3), (.int bs), (.ref wb), (.int (0 : Int32)), (.ref a_3)])) rfl rfl (hb hby own_d4_140) _ k) ?_
  rw [len_of s37 q37]
  show own_Go _ _ _ _ T36 (mkF m 141 #[.val (.ref a_1), .val (.int p_2), .val (.ref a_3), .val (.int bs), .val (.int (0 : Int32)), .val (.int (0 : Int32)), .unset] [(.int (0 : Int32)), (.int bs), (.ref wb), (.int (0 : Int32)), (.ref a_3)])
  obtain ⟨T38, h38, L38, X38, e38, N38, Kq38, V38, st38⟩ := own_cp X36 hx hZ hown (hw _ (List.mem_of_getElem? (i := 49) rfl)) (hw _ (List.mem_of_getElem? (i := 52) rfl)) (hw _ (List.mem_of_getElem? (i := 50) rfl)) (hw _ (List.mem_of_getElem? (i := 51) rfl)) e36 f15 f33 (fun _ => rfl) hfb (by decide) (own_t4_00_2 bs hbs hc35) (by decide) (by decide) (own_cl5 (own_t4_00_1 bs hbs hc35)) N13 (by omega) (g := (mkF m 141 #[.val (.ref a_1), .val (.int p_2), .val (.ref a_3), .val (.int bs), .val (.int (0 : Int32)), .val (.int (0 : Int32)), .unset] [(.int (0 : Int32)), (.int bs), (.ref wb), (.int (0 : Int32)), (.ref a_3)])) rfl (by rw [hml]; rfl) rfl (hb hby own_d4_141) (by decide) (W := 0) (by show 2 * 0 + _ ≤ _; exact Nat.le_of_eq rfl) (by decide)
  have z39 := Kq38.1
  have K38 : Keep h0 h38 [a_1, wh, wst, wb] := K13.trans Kq38 (allS (Or.inl (List.mem_of_getElem? (i := 3) rfl)) all0)
  refine own_go (fun _ k => st38 _ k) ?_
  show own_Go _ _ _ _ T38 (mkF m 144 #[.val (.ref a_1), .val (.int p_2), .val (.ref a_3), .val (.int bs), .val (.int (0 : Int32)), .val (.int (0 : Int32)), .unset] [])
  refine own_go (fun _ k => XS.aloadN X38.here hx rfl (hb hby own_d4_144) rfl rfl k) ?_
  show own_Go _ _ _ _ T38 (mkF m 145 #[.val (.ref a_1), .val (.int p_2), .val (.ref a_3), .val (.int bs), .val (.int (0 : Int32)), .val (.int (0 : Int32)), .unset] [(.ref a_1)])
  have f40 : Fld Z h38 a_1 "com/example/kalchas/kalchas/propositional/HornClauses" "heads" "[I" (.ref wh) := (f20.keep Kq38 (ninS (own_ne (by omega)) nin0))
  obtain ⟨T41, X41, e41, st41⟩ := getF X38 hx hZ hown (host := "") (Or.inl (hw _ (List.mem_of_getElem? (i := 11) rfl))) Via.refl e38 f40 (g := (mkF m 145 #[.val (.ref a_1), .val (.int p_2), .val (.ref a_3), .val (.int bs), .val (.int (0 : Int32)), .val (.int (0 : Int32)), .unset] [(.ref a_1)])) rfl rfl (hb hby own_d4_145)
  refine own_go (fun _ k => st41 _ k) ?_
  show own_Go _ _ _ _ T41 (mkF m 148 #[.val (.ref a_1), .val (.int p_2), .val (.ref a_3), .val (.int bs), .val (.int (0 : Int32)), .val (.int (0 : Int32)), .unset] [(.ref wh)])
  refine own_go (fun _ k => XS.aloadN X41.here hx rfl (hb hby own_d4_148) rfl rfl k) ?_
  show own_Go _ _ _ _ T41 (mkF m 149 #[.val (.ref a_1), .val (.int p_2), .val (.ref a_3), .val (.int bs), .val (.int (0 : Int32)), .val (.int (0 : Int32)), .unset] [(.ref a_1), (.ref wh)])
  have f42 : Fld Z h38 a_1 "com/example/kalchas/kalchas/propositional/HornClauses" "clauseCount" "I" (.int (0 : Int32)) := (f18.keep Kq38 (ninS (own_ne (by omega)) nin0))
  obtain ⟨T43, X43, e43, st43⟩ := getF X41 hx hZ hown (host := "") (Or.inl (hw _ (List.mem_of_getElem? (i := 47) rfl))) Via.refl e41 f42 (g := (mkF m 149 #[.val (.ref a_1), .val (.int p_2), .val (.ref a_3), .val (.int bs), .val (.int (0 : Int32)), .val (.int (0 : Int32)), .unset] [(.ref a_1), (.ref wh)])) rfl rfl (hb hby own_d4_149)
  refine own_go (fun _ k => st43 _ k) ?_
  show own_Go _ _ _ _ T43 (mkF m 152 #[.val (.ref a_1), .val (.int p_2), .val (.ref a_3), .val (.int bs), .val (.int (0 : Int32)), .val (.int (0 : Int32)), .unset] [(.int (0 : Int32)), (.ref wh)])
  refine own_go (fun _ k => XS.iloadN X43.here hx rfl (hb hby own_d4_152) rfl k) ?_
  show own_Go _ _ _ _ T43 (mkF m 153 #[.val (.ref a_1), .val (.int p_2), .val (.ref a_3), .val (.int bs), .val (.int (0 : Int32)), .val (.int (0 : Int32)), .unset] [(.int p_2), (.int (0 : Int32)), (.ref wh)])
  have f44 : own_AV Z h38 wh .int (64 : Int32) gh := (f22.keep Kq38 (ninS (own_ne (by omega)) nin0))
  obtain ⟨q45, c45, R45, s45, t45⟩ := id f44
  have hin45 : ¬ ((0 : Int32) < 0 ∨ c45.slots.size ≤ ((0 : Int32)).toNatClampNeg) := inb_of s45 ⟨by decide, by decide⟩
  obtain ⟨T46, h46, X46, e46, W46, st46⟩ := stI X43 hx hZ e43 R45 (j := (0 : Int32)) hin45 (g := (mkF m 153 #[.val (.ref a_1), .val (.int p_2), .val (.ref a_3), .val (.int bs), .val (.int (0 : Int32)), .val (.int (0 : Int32)), .unset] [(.int p_2), (.int (0 : Int32)), (.ref wh)])) rfl rfl (hb hby own_d4_153)
  have V46 : own_AV Z h46 wh .int (64 : Int32) (own_upd gh 0 (.int p_2)) := own_AV.set (k := 0) f44 W46 (by decide)
  have z47 := W46.size
  have K46 : Keep h0 h46 [a_1, wh, wst, wb] := K38.wr W46 (Or.inl (List.mem_of_getElem? (i := 1) rfl))
  have N46 := Fr.snoc X46 N38 (by omega : n0 ≤ wh)
  refine own_go (fun _ k => st46 _ k) ?_
  show own_Go _ _ _ _ T46 (mkF m 154 #[.val (.ref a_1), .val (.int p_2), .val (.ref a_3), .val (.int bs), .val (.int (0 : Int32)), .val (.int (0 : Int32)), .unset] [])
  refine own_go (fun _ k => XS.aloadN X46.here hx rfl (hb hby own_d4_154) rfl rfl k) ?_
  show own_Go _ _ _ _ T46 (mkF m 155 #[.val (.ref a_1), .val (.int p_2), .val (.ref a_3), .val (.int bs), .val (.int (0 : Int32)), .val (.int (0 : Int32)), .unset] [(.ref a_1)])
  have f48 : Fld Z h46 a_1 "com/example/kalchas/kalchas/propositional/HornClauses" "bodyStarts" "[I" (.ref wst) := ((f25.keep Kq38 (ninS (own_ne (by omega)) nin0)).other W46 (Or.inl (own_ne (by omega))))
  obtain ⟨T49, X49, e49, st49⟩ := getF X46 hx hZ hown (host := "") (Or.inl (hw _ (List.mem_of_getElem? (i := 13) rfl))) Via.refl e46 f48 (g := (mkF m 155 #[.val (.ref a_1), .val (.int p_2), .val (.ref a_3), .val (.int bs), .val (.int (0 : Int32)), .val (.int (0 : Int32)), .unset] [(.ref a_1)])) rfl rfl (hb hby own_d4_155)
  refine own_go (fun _ k => st49 _ k) ?_
  show own_Go _ _ _ _ T49 (mkF m 158 #[.val (.ref a_1), .val (.int p_2), .val (.ref a_3), .val (.int bs), .val (.int (0 : Int32)), .val (.int (0 : Int32)), .unset] [(.ref wst)])
  refine own_go (fun _ k => XS.aloadN X49.here hx rfl (hb hby own_d4_158) rfl rfl k) ?_
  show own_Go _ _ _ _ T49 (mkF m 159 #[.val (.ref a_1), .val (.int p_2), .val (.ref a_3), .val (.int bs), .val (.int (0 : Int32)), .val (.int (0 : Int32)), .unset] [(.ref a_1), (.ref wst)])
  have f50 : Fld Z h46 a_1 "com/example/kalchas/kalchas/propositional/HornClauses" "clauseCount" "I" (.int (0 : Int32)) := (f42.other W46 (Or.inl (own_ne (by omega))))
  obtain ⟨T51, X51, e51, st51⟩ := getF X49 hx hZ hown (host := "") (Or.inl (hw _ (List.mem_of_getElem? (i := 47) rfl))) Via.refl e49 f50 (g := (mkF m 159 #[.val (.ref a_1), .val (.int p_2), .val (.ref a_3), .val (.int bs), .val (.int (0 : Int32)), .val (.int (0 : Int32)), .unset] [(.ref a_1), (.ref wst)])) rfl rfl (hb hby own_d4_159)
  refine own_go (fun _ k => st51 _ k) ?_
  show own_Go _ _ _ _ T51 (mkF m 162 #[.val (.ref a_1), .val (.int p_2), .val (.ref a_3), .val (.int bs), .val (.int (0 : Int32)), .val (.int (0 : Int32)), .unset] [(.int (0 : Int32)), (.ref wst)])
  refine own_go (fun _ k => XS.iconst X51.here hx rfl (hb hby own_d4_162) k) ?_
  show own_Go _ _ _ _ T51 (mkF m 163 #[.val (.ref a_1), .val (.int p_2), .val (.ref a_3), .val (.int bs), .val (.int (0 : Int32)), .val (.int (0 : Int32)), .unset] [(.int (1 : Int32)), (.int (0 : Int32)), (.ref wst)])
  refine own_go (fun _ k => XS.iadd X51.here hx rfl (hb hby own_d4_163) rfl k) ?_
  show own_Go _ _ _ _ T51 (mkF m 164 #[.val (.ref a_1), .val (.int p_2), .val (.ref a_3), .val (.int bs), .val (.int (0 : Int32)), .val (.int (0 : Int32)), .unset] [(.int (1 : Int32)), (.ref wst)])
  refine own_go (fun _ k => XS.iloadN X51.here hx rfl (hb hby own_d4_164) rfl k) ?_
  show own_Go _ _ _ _ T51 (mkF m 165 #[.val (.ref a_1), .val (.int p_2), .val (.ref a_3), .val (.int bs), .val (.int (0 : Int32)), .val (.int (0 : Int32)), .unset] [(.int bs), (.int (1 : Int32)), (.ref wst)])
  refine own_go (fun _ k => XS.aloadN X51.here hx rfl (hb hby own_d4_165) rfl rfl k) ?_
  show own_Go _ _ _ _ T51 (mkF m 166 #[.val (.ref a_1), .val (.int p_2), .val (.ref a_3), .val (.int bs), .val (.int (0 : Int32)), .val (.int (0 : Int32)), .unset] [(.ref a_3), (.int bs), (.int (1 : Int32)), (.ref wst)])
  have f52 : own_AV Z h46 a_3 .int (0 : Int32) (fun _ => (.int (0 : Int32))) := ((f15.keep Kq38 (ninS (own_ne (by omega)) nin0)).other W46 (own_ne (by omega)))
  obtain ⟨q53, c53, R53, s53, t53⟩ := id f52
  refine own_go (fun _ k => X51.arraylength hx (by rw [e51]; exact R53.1) (State.isArrayOf_alike hZ.alike R53.2.1) (g := (mkF m 166 #[.val (.ref a_1), .val (.int p_2), .val (.ref a_3), .val (.int bs), .val (.int (0 : Int32)), .val (.int (0 : Int32)), .unset] [(.ref a_3), (.int bs), (.int (1 : Int32)), (.ref wst)])) rfl rfl (hb hby own_d4_166) _ k) ?_
  rw [len_of s53 q53]
  show own_Go _ _ _ _ T51 (mkF m 167 #[.val (.ref a_1), .val (.int p_2), .val (.ref a_3), .val (.int bs), .val (.int (0 : Int32)), .val (.int (0 : Int32)), .unset] [(.int (0 : Int32)), (.int bs), (.int (1 : Int32)), (.ref wst)])
  refine own_go (fun _ k => XS.iadd X51.here hx rfl (hb hby own_d4_167) rfl k) ?_
  show own_Go _ _ _ _ T51 (mkF m 168 #[.val (.ref a_1), .val (.int p_2), .val (.ref a_3), .val (.int bs), .val (.int (0 : Int32)), .val (.int (0 : Int32)), .unset] [(.int (bs + (0 : Int32))), (.int (1 : Int32)), (.ref wst)])
  have f54 : own_AV Z h46 wst .int (65 : Int32) gs := ((f28.keep Kq38 (ninS (own_ne (by omega)) nin0)).other W46 (own_ne (by omega)))
  obtain ⟨q55, c55, R55, s55, t55⟩ := id f54
  have hin55 : ¬ ((1 : Int32) < 0 ∨ c55.slots.size ≤ ((1 : Int32)).toNatClampNeg) := inb_of s55 ⟨by decide, by decide⟩
  obtain ⟨T56, h56, X56, e56, W56, st56⟩ := stI X51 hx hZ e51 R55 (j := (1 : Int32)) hin55 (g := (mkF m 168 #[.val (.ref a_1), .val (.int p_2), .val (.ref a_3), .val (.int bs), .val (.int (0 : Int32)), .val (.int (0 : Int32)), .unset] [(.int (bs + (0 : Int32))), (.int (1 : Int32)), (.ref wst)])) rfl rfl (hb hby own_d4_168)
  have V56 : own_AV Z h56 wst .int (65 : Int32) (own_upd gs 1 (.int (bs + (0 : Int32)))) := own_AV.set (k := 1) f54 W56 (by decide)
  have z57 := W56.size
  have K56 : Keep h0 h56 [a_1, wh, wst, wb] := K46.wr W56 (Or.inl (List.mem_of_getElem? (i := 2) rfl))
  have N56 := Fr.snoc X56 N46 (by omega : n0 ≤ wst)
  refine own_go (fun _ k => st56 _ k) ?_
  show own_Go _ _ _ _ T56 (mkF m 169 #[.val (.ref a_1), .val (.int p_2), .val (.ref a_3), .val (.int bs), .val (.int (0 : Int32)), .val (.int (0 : Int32)), .unset] [])
  refine own_go (fun _ k => XS.aloadN X56.here hx rfl (hb hby own_d4_169) rfl rfl k) ?_
  show own_Go _ _ _ _ T56 (mkF m 170 #[.val (.ref a_1), .val (.int p_2), .val (.ref a_3), .val (.int bs), .val (.int (0 : Int32)), .val (.int (0 : Int32)), .unset] [(.ref a_1)])
  refine own_go (fun _ k => XS.dup X56.here hx rfl (hb hby own_d4_170) rfl rfl k) ?_
  show own_Go _ _ _ _ T56 (mkF m 171 #[.val (.ref a_1), .val (.int p_2), .val (.ref a_3), .val (.int bs), .val (.int (0 : Int32)), .val (.int (0 : Int32)), .unset] [(.ref a_1), (.ref a_1)])
  have f58 : Fld Z h56 a_1 "com/example/kalchas/kalchas/propositional/HornClauses" "clauseCount" "I" (.int (0 : Int32)) := (f50.other W56 (Or.inl (own_ne (by omega))))
  obtain ⟨T59, X59, e59, st59⟩ := getF X56 hx hZ hown (host := "") (Or.inl (hw _ (List.mem_of_getElem? (i := 47) rfl))) Via.refl e56 f58 (g := (mkF m 171 #[.val (.ref a_1), .val (.int p_2), .val (.ref a_3), .val (.int bs), .val (.int (0 : Int32)), .val (.int (0 : Int32)), .unset] [(.ref a_1), (.ref a_1)])) rfl rfl (hb hby own_d4_171)
  refine own_go (fun _ k => st59 _ k) ?_
  show own_Go _ _ _ _ T59 (mkF m 174 #[.val (.ref a_1), .val (.int p_2), .val (.ref a_3), .val (.int bs), .val (.int (0 : Int32)), .val (.int (0 : Int32)), .unset] [(.int (0 : Int32)), (.ref a_1)])
  refine own_go (fun _ k => XS.iconst X59.here hx rfl (hb hby own_d4_174) k) ?_
  show own_Go _ _ _ _ T59 (mkF m 175 #[.val (.ref a_1), .val (.int p_2), .val (.ref a_3), .val (.int bs), .val (.int (0 : Int32)), .val (.int (0 : Int32)), .unset] [(.int (1 : Int32)), (.int (0 : Int32)), (.ref a_1)])
  refine own_go (fun _ k => XS.iadd X59.here hx rfl (hb hby own_d4_175) rfl k) ?_
  show own_Go _ _ _ _ T59 (mkF m 176 #[.val (.ref a_1), .val (.int p_2), .val (.ref a_3), .val (.int bs), .val (.int (0 : Int32)), .val (.int (0 : Int32)), .unset] [(.int (1 : Int32)), (.ref a_1)])
  have f60 : Exa Z h56 a_1 "com/example/kalchas/kalchas/propositional/HornClauses" := ((((pr_E_a_1.keep K13q).keep Kq38).wr W46).wr W56)
  obtain ⟨T61, h61, X61, e61, W61, st61⟩ := putF X59 hx hZ hown (host := "") (Or.inl (hw _ (List.mem_of_getElem? (i := 47) rfl))) Via.refl e59 f58 f60 (Or.inl (hw _ (List.mem_of_getElem? (i := 48) rfl))) (hw _ (List.mem_of_getElem? (i := 3) rfl)) (ty := .int) (by decide) rfl rfl (g := (mkF m 176 #[.val (.ref a_1), .val (.int p_2), .val (.ref a_3), .val (.int bs), .val (.int (0 : Int32)), .val (.int (0 : Int32)), .unset] [(.int (1 : Int32)), (.ref a_1)])) rfl rfl (hb hby own_d4_176)
  have z62 := W61.size
  have K61 : Keep h0 h61 [a_1, wh, wst, wb] := K56.wr W61 (Or.inl (List.mem_of_getElem? (i := 0) rfl))
  have N61 := Fr.snoc X61 N56 (by omega : n0 ≤ a_1)
  have Fw61 : Fld Z h61 a_1 "com/example/kalchas/kalchas/propositional/HornClauses" "clauseCount" "I" (.int (1 : Int32)) := Fld.same W61 f58
  refine own_go (fun _ k => st61 _ k) ?_
  show own_Go _ _ _ _ T61 (mkF m 179 #[.val (.ref a_1), .val (.int p_2), .val (.ref a_3), .val (.int bs), .val (.int (0 : Int32)), .val (.int (0 : Int32)), .unset] [])
  refine own_go (fun _ k => XS.aloadN X61.here hx rfl (hb hby own_d4_179) rfl rfl k) ?_
  show own_Go _ _ _ _ T61 (mkF m 180 #[.val (.ref a_1), .val (.int p_2), .val (.ref a_3), .val (.int bs), .val (.int (0 : Int32)), .val (.int (0 : Int32)), .unset] [(.ref a_1)])
  refine own_go (fun _ k => XS.aconstNull X61.here hx rfl (hb hby own_d4_180) k) ?_
  show own_Go _ _ _ _ T61 (mkF m 181 #[.val (.ref a_1), .val (.int p_2), .val (.ref a_3), .val (.int bs), .val (.int (0 : Int32)), .val (.int (0 : Int32)), .unset] [.null, (.ref a_1)])
  have f63 : Exa Z h61 a_1 "com/example/kalchas/kalchas/propositional/HornClauses" := (f60.wr W61)
  have f64 : Fld Z h61 a_1 "com/example/kalchas/kalchas/propositional/HornClauses" "occurrences" "[I" w_occ := (((((pr_F_a_1_occurrences.keep K13q nin0).keep Kq38 (ninS (own_ne (by omega)) nin0)).other W46 (Or.inl (own_ne (by omega)))).other W56 (Or.inl (own_ne (by omega)))).other W61 (Or.inr (slot_ne (Or.inl (hw _ (List.mem_of_getElem? (i := 23) rfl))) (Or.inl (hw _ (List.mem_of_getElem? (i := 48) rfl))) (by decide) (t := (.array .int)) (t' := .int) (by decide) (by decide))))
  obtain ⟨T65, h65, X65, e65, W65, st65⟩ := putF X61 hx hZ hown (host := "") (Or.inl (hw _ (List.mem_of_getElem? (i := 22) rfl))) Via.refl e61 f64 f63 (Or.inl (hw _ (List.mem_of_getElem? (i := 23) rfl))) (hw _ (List.mem_of_getElem? (i := 3) rfl)) (ty := (.array .int)) (by decide) rfl rfl (g := (mkF m 181 #[.val (.ref a_1), .val (.int p_2), .val (.ref a_3), .val (.int bs), .val (.int (0 : Int32)), .val (.int (0 : Int32)), .unset] [.null, (.ref a_1)])) rfl rfl (hb hby own_d4_181)
  have z66 := W65.size
  have K65 : Keep h0 h65 [a_1, wh, wst, wb] := K61.wr W65 (Or.inl (List.mem_of_getElem? (i := 0) rfl))
  have N65 := Fr.snoc X65 N61 (by omega : n0 ≤ a_1)
  have Fw65 : Fld Z h65 a_1 "com/example/kalchas/kalchas/propositional/HornClauses" "occurrences" "[I" .null := Fld.same W65 f64
  refine own_go (fun _ k => st65 _ k) ?_
  show own_Go _ _ _ _ T65 (mkF m 184 #[.val (.ref a_1), .val (.int p_2), .val (.ref a_3), .val (.int bs), .val (.int (0 : Int32)), .val (.int (0 : Int32)), .unset] [])
  obtain ⟨fs, hr, hrun, hended, hRW⟩ := X65.leaveW hS13 (by rw [e65]; omega) (v := none) (fun _ => rfl)
  refine ⟨_, _, X65.returnOut hx Bd.returns (hb hby own_d4_184) hr, hrun, hended, _, _, rfl, ?_, own_monoW hRW (by rw [y13]; decide) (by rw [z13]; decide)⟩
  show own_Q4_00 Z a_1 p_2 a_3 wh wst wb gh gs gb bs w_occ h0 n0 _ T65.heap _
  rw [e65]
  have f68 : Exa Z h65 a_1 "com/example/kalchas/kalchas/propositional/HornClauses" := (f63.wr W65)
  have f69 : Fld Z h65 a_1 "com/example/kalchas/kalchas/propositional/HornClauses" "variableCount" "I" (.int (3 : Int32)) := ((((((pr_F_a_1_variableCount.keep K13q nin0).keep Kq38 (ninS (own_ne (by omega)) nin0)).other W46 (Or.inl (own_ne (by omega)))).other W56 (Or.inl (own_ne (by omega)))).other W61 (Or.inr (slot_ne (Or.inl (hw _ (List.mem_of_getElem? (i := 25) rfl))) (Or.inl (hw _ (List.mem_of_getElem? (i := 48) rfl))) (by decide) (t := .int) (t' := .int) (by decide) (by decide)))).other W65 (Or.inr (slot_ne (Or.inl (hw _ (List.mem_of_getElem? (i := 25) rfl))) (Or.inl (hw _ (List.mem_of_getElem? (i := 23) rfl))) (by decide) (t := .int) (t' := (.array .int)) (by decide) (by decide))))
  have f70 : Fld Z h65 a_1 "com/example/kalchas/kalchas/propositional/HornClauses" "clauseCount" "I" (.int (1 : Int32)) := (Fw61.other W65 (Or.inr (slot_ne (Or.inl (hw _ (List.mem_of_getElem? (i := 48) rfl))) (Or.inl (hw _ (List.mem_of_getElem? (i := 23) rfl))) (by decide) (t := .int) (t' := (.array .int)) (by decide) (by decide))))
  have f71 : Fld Z h65 a_1 "com/example/kalchas/kalchas/propositional/HornClauses" "heads" "[I" (.ref wh) := ((((f40.other W46 (Or.inl (own_ne (by omega)))).other W56 (Or.inl (own_ne (by omega)))).other W61 (Or.inr (slot_ne (Or.inl (hw _ (List.mem_of_getElem? (i := 12) rfl))) (Or.inl (hw _ (List.mem_of_getElem? (i := 48) rfl))) (by decide) (t := (.array .int)) (t' := .int) (by decide) (by decide)))).other W65 (Or.inr (slot_ne (Or.inl (hw _ (List.mem_of_getElem? (i := 12) rfl))) (Or.inl (hw _ (List.mem_of_getElem? (i := 23) rfl))) (by decide) (t := (.array .int)) (t' := (.array .int)) (by decide) (by decide))))
  have f72 : Fld Z h65 a_1 "com/example/kalchas/kalchas/propositional/HornClauses" "bodyStarts" "[I" (.ref wst) := (((f48.other W56 (Or.inl (own_ne (by omega)))).other W61 (Or.inr (slot_ne (Or.inl (hw _ (List.mem_of_getElem? (i := 14) rfl))) (Or.inl (hw _ (List.mem_of_getElem? (i := 48) rfl))) (by decide) (t := (.array .int)) (t' := .int) (by decide) (by decide)))).other W65 (Or.inr (slot_ne (Or.inl (hw _ (List.mem_of_getElem? (i := 14) rfl))) (Or.inl (hw _ (List.mem_of_getElem? (i := 23) rfl))) (by decide) (t := (.array .int)) (t' := (.array .int)) (by decide) (by decide))))
  have f73 : Fld Z h65 a_1 "com/example/kalchas/kalchas/propositional/HornClauses" "bodies" "[I" (.ref wb) := (((((f31.keep Kq38 (ninS (own_ne (by omega)) nin0)).other W46 (Or.inl (own_ne (by omega)))).other W56 (Or.inl (own_ne (by omega)))).other W61 (Or.inr (slot_ne (Or.inl (hw _ (List.mem_of_getElem? (i := 16) rfl))) (Or.inl (hw _ (List.mem_of_getElem? (i := 48) rfl))) (by decide) (t := (.array .int)) (t' := .int) (by decide) (by decide)))).other W65 (Or.inr (slot_ne (Or.inl (hw _ (List.mem_of_getElem? (i := 16) rfl))) (Or.inl (hw _ (List.mem_of_getElem? (i := 23) rfl))) (by decide) (t := (.array .int)) (t' := (.array .int)) (by decide) (by decide))))
  have f74 : own_AV Z h65 wh .int (64 : Int32) (own_upd gh 0 (.int p_2)) := (((V46.other W56 (own_ne (by omega))).other W61 (own_ne (by omega))).other W65 (own_ne (by omega)))
  have f75 : own_AV Z h65 wst .int (65 : Int32) (own_upd gs 1 (.int (bs + (0 : Int32)))) := ((V56.other W61 (own_ne (by omega))).other W65 (own_ne (by omega)))
  have f76 : own_AV Z h65 wb .int (64 : Int32) (own_cpf (fun _ => (.int (0 : Int32))) ((0 : Int32)).toNatClampNeg gb (bs).toNatClampNeg ((0 : Int32)).toNatClampNeg) := ((((V38.other W46 (own_ne (by omega))).other W56 (own_ne (by omega))).other W61 (own_ne (by omega))).other W65 (own_ne (by omega)))
  exact ⟨(own_cpf (fun _ => (.int (0 : Int32))) ((0 : Int32)).toNatClampNeg gb (bs).toNatClampNeg ((0 : Int32)).toNatClampNeg), rfl, N65, K65, f68, f69, f70, f71, f72, f73, Fw65, f74, f75, f76, (own_cpff (fun _ => rfl) hfb)⟩
theorem own_d4_21 : decode prog_6_method_4_code 21 = .ok (.aload_n 3, 1) := by decide +kernel
theorem own_d4_22 : decode prog_6_method_4_code 22 = .ok (.iload 5, 2) := by decide +kernel
theorem own_d4_24 : decode prog_6_method_4_code 24 = .ok (.iaload, 1) := by decide +kernel
theorem own_d4_25 : decode prog_6_method_4_code 25 = .ok (.istore 6, 2) := by decide +kernel
theorem own_d4_27 : decode prog_6_method_4_code 27 = .ok (.aload_n 0, 1) := by decide +kernel
theorem own_d4_28 : decode prog_6_method_4_code 28 = .ok (.iload 6, 2) := by decide +kernel
theorem own_d4_30 : decode prog_6_method_4_code 30 = .ok (.invokevirtual 26, 3) := by decide +kernel
theorem own_d4_33 : decode prog_6_method_4_code 33 = .ok (.iinc 5 1, 3) := by decide +kernel
theorem own_d4_36 : decode prog_6_method_4_code 36 = .ok (.goto (-22), 3) := by decide +kernel
theorem own_ef_own_rm4_01 (m : MethodId) (x0 : Addr) (x1 : Int32) (x2 : Addr) : entryFrame m #[(.ref x0), (.int x1), (.ref x2)] 7 = mkF m 0 #[.val (.ref x0), .val (.int x1), .val (.ref x2), .unset, .unset, .unset, .unset] [] := by first | (simp [entryFrame, mkF, argsToLocals, Value.category]; done) | rfl
set_option maxRecDepth 65536 in
set_option maxHeartbeats 4000000 in
theorem own_t4_01_0 (bs : Int32) (hbs : 0 ≤ bs.toInt ∧ bs.toInt ≤ 10) : ¬ ((64 : Int32) < (bs + (1 : Int32))) := by
  have el0 : (1 : Int32).toInt = 1 := by decide
  have el1 : (64 : Int32).toInt = 64 := by decide
  have rv_bs := rng32 bs
  have fa3 := c_iadd bs (1 : Int32)
  have fa4 := rng32 (bs + (1 : Int32))
  have own0 : (0 : Int32).toInt = 0 := by decide
  simp only [← Int32.toInt_inj, Int32.lt_iff_toInt_lt, implies_true, and_true, true_and, own0, el0, el1] at *
  omega
set_option maxRecDepth 65536 in
set_option maxHeartbeats 4000000 in
theorem own_t4_01_1 (bs : Int32) (hbs : 0 ≤ bs.toInt ∧ bs.toInt ≤ 10) (hc42 : ¬ ((64 : Int32) < (bs + (1 : Int32)))) : 0 ≤ bs.toInt ∧ bs.toInt ≤ 63 := by
  have el0 : (1 : Int32).toInt = 1 := by decide
  have el1 : (64 : Int32).toInt = 64 := by decide
  have rv_bs := rng32 bs
  have fa3 := c_iadd bs (1 : Int32)
  have fa4 := rng32 (bs + (1 : Int32))
  have own0 : (0 : Int32).toInt = 0 := by decide
  simp only [← Int32.toInt_inj, Int32.lt_iff_toInt_lt, implies_true, and_true, true_and, own0, el0, el1] at *
  omega
set_option maxRecDepth 65536 in
set_option maxHeartbeats 4000000 in
theorem own_t4_01_2 (bs : Int32) (hbs : 0 ≤ bs.toInt ∧ bs.toInt ≤ 10) (hc42 : ¬ ((64 : Int32) < (bs + (1 : Int32)))) : ¬ bs < 0 := by
  have el0 : (1 : Int32).toInt = 1 := by decide
  have el1 : (64 : Int32).toInt = 64 := by decide
  have rv_bs := rng32 bs
  have fa3 := c_iadd bs (1 : Int32)
  have fa4 := rng32 (bs + (1 : Int32))
  have own0 : (0 : Int32).toInt = 0 := by decide
  simp only [← Int32.toInt_inj, Int32.lt_iff_toInt_lt, implies_true, and_true, true_and, own0, el0, el1] at *
  omega
def own_Q4_01 (Z : State) (a_1 : Addr) (p_2 : Int32) (a_3 : Addr) (wh : Addr) (wst : Addr) (wb : Addr) (gh : Nat → Value) (gs : Nat → Value) (gb : Nat → Value) (bs : Int32) (w_occ : Value) (y0 : Int32) (h0 : Heap) (n0 : Nat) (v : Option Value) (h : Heap) (L : List Loc) : Prop := ∃ (gb_ : Nat → Value), v = none ∧ Fr n0 L ∧ Keep h0 h [a_1, wh, wst, wb] ∧ Exa Z h a_1 "com/example/kalchas/kalchas/propositional/HornClauses" ∧ Fld Z h a_1 "com/example/kalchas/kalchas/propositional/HornClauses" "variableCount" "I" (.int (3 : Int32)) ∧ Fld Z h a_1 "com/example/kalchas/kalchas/propositional/HornClauses" "clauseCount" "I" (.int (1 : Int32)) ∧ Fld Z h a_1 "com/example/kalchas/kalchas/propositional/HornClauses" "heads" "[I" (.ref wh) ∧ Fld Z h a_1 "com/example/kalchas/kalchas/propositional/HornClauses" "bodyStarts" "[I" (.ref wst) ∧ Fld Z h a_1 "com/example/kalchas/kalchas/propositional/HornClauses" "bodies" "[I" (.ref wb) ∧ Fld Z h a_1 "com/example/kalchas/kalchas/propositional/HornClauses" "occurrences" "[I" .null ∧ own_AV Z h wh .int (64 : Int32) (own_upd gh 0 (.int p_2)) ∧ own_AV Z h wst .int (65 : Int32) (own_upd gs 1 (.int (bs + (1 : Int32)))) ∧ own_AV Z h wb .int (64 : Int32) gb_ ∧ (∀ i, fits .int (gb_ i) = true)
set_option maxRecDepth 65536 in
set_option maxHeartbeats 40000000 in
theorem own_rm4_01 (l : Launch) (Z : State) (a0 : Array Value) (hw : ∀ d ∈ tables_1, d.before a0 Z = true) (ws : List Jvm.Cond) (a_1 : Addr) (p_2 : Int32) (a_3 : Addr) (wh : Addr) (wst : Addr) (wb : Addr) (gh : Nat → Value) (gs : Nat → Value) (gb : Nat → Value) (bs : Int32) (w_occ : Value) (y0 : Int32) (h0 : Heap) (n0 : Nat) (Z0 : n0 ≤ h0.size) (pr_E_a_1 : Exa Z h0 a_1 "com/example/kalchas/kalchas/propositional/HornClauses") (pr_F_a_1_variableCount : Fld Z h0 a_1 "com/example/kalchas/kalchas/propositional/HornClauses" "variableCount" "I" (.int (3 : Int32))) (pr_F_a_1_clauseCount : Fld Z h0 a_1 "com/example/kalchas/kalchas/propositional/HornClauses" "clauseCount" "I" (.int (0 : Int32))) (pr_F_a_1_heads : Fld Z h0 a_1 "com/example/kalchas/kalchas/propositional/HornClauses" "heads" "[I" (.ref wh)) (pr_F_a_1_bodyStarts : Fld Z h0 a_1 "com/example/kalchas/kalchas/propositional/HornClauses" "bodyStarts" "[I" (.ref wst)) (pr_F_a_1_bodies : Fld Z h0 a_1 "com/example/kalchas/kalchas/propositional/HornClauses" "bodies" "[I" (.ref wb)) (pr_F_a_1_occurrences : Fld Z h0 a_1 "com/example/kalchas/kalchas/propositional/HornClauses" "occurrences" "[I" w_occ) (pr_A_wh : own_AV Z h0 wh .int (64 : Int32) gh) (pr_A_wst : own_AV Z h0 wst .int (65 : Int32) gs) (pr_A_wb : own_AV Z h0 wb .int (64 : Int32) gb) (pr_A_a_3 : own_AV Z h0 a_3 .int (1 : Int32) (own_upd (fun _ => (.int (0 : Int32))) 0 (.int y0))) (hord : own_lts [a_3, a_1, wh, wst, wb]) (hgs : gs 0 = .int bs) (hbs : 0 ≤ bs.toInt ∧ bs.toInt ≤ 10) (hfb : ∀ i, fits .int (gb i) = true) (hp1 : ¬ (p_2 < 0)) (hp2 : p_2 < (3 : Int32)) (hy0a : ¬ (y0 < 0)) (hy0b : y0 < (3 : Int32)) (gw_a_1 : n0 ≤ a_1) (gw_wh : n0 ≤ wh) (gw_wst : n0 ≤ wst) (gw_wb : n0 ≤ wb) :
    MetFree l (⟨"com/example/kalchas/kalchas/propositional/HornClauses", "add", "(I[I)V"⟩ : MethodName) (head1 (Jvm.Cond.code (⟨"com/example/kalchas/kalchas/propositional/HornClauses", "add", "(I[I)V"⟩ : MethodName) prog_6_method_4_code 7 none :: ws) ({ frames := 2, cells := 4, slots := 72, locals := 40 } : Room)) (fun a U => a = #[(.ref a_1), (.int p_2), (.ref a_3)] ∧ Z.Warmed39 U.vm ∧ U.heap = h0) (fun _ _ _ _ _ => True) (fun _ U o U' => ∃ v L, o = .returned v ∧ own_Q4_01 Z a_1 p_2 a_3 wh wst wb gh gs gb bs w_occ y0 h0 n0 v U'.heap L ∧ ReturnedEndW U o U' L ({ frames := 2, cells := 4, slots := 72, locals := 40 } : Room).cells ({ frames := 2, cells := 4, slots := 72, locals := 40 } : Room).slots) := by
  refine MetFree.of_bodySF (plainFor_of_name own_pn0) hisR ?_
  intro p e s m args below meth c s₁ Bd hml0 hP hK
  obtain ⟨rfl, hZ, hh⟩ := hP
  have hx := Bd.exec
  have hby := Bd.bytes
  have hml : c.maxLocals = 7 := hml0
  have hown : s.vm.findClass "com/example/kalchas/kalchas/propositional/HornClauses" = some m.cls := findClass_of_methodNamed Bd.named
  have hnm := (name_of_methodNamed Bd.named Bd.method).1
  have X0 : Stand p l e ({ frames := 2, cells := 4, slots := 72, locals := 40 } : Room) s m #[(.ref a_1), (.int p_2), (.ref a_3)] below meth c s₁ [] 0 0 := Stand.of_body Bd
  have e0 : s₁.heap = h0 := by rw [← hh, Bd.state]; rfl
  have N0 := Fr.nil n0
  have X0 : Stand p l e ({ frames := 2, cells := 4, slots := 72, locals := 40 } : Room) (s.setVm s.vm) m #[(.ref a_1), (.int p_2), (.ref a_3)] below meth c s₁ [] 0 0 := X0
  have hZ : Z.Warmed39 (s.setVm s.vm).vm := hZ
  have hown : (s.setVm s.vm).vm.findClass "com/example/kalchas/kalchas/propositional/HornClauses" = some m.cls := hown
  have hS0 : s.Since s.vm 0 := (State.WarmedH.refl s).since 0
  have z0 : n0 ≤ h0.size := Z0
  have z1 := own_lt pr_E_a_1.lt
  have z2 := own_lt pr_F_a_1_variableCount.lt
  have z3 := own_lt pr_F_a_1_clauseCount.lt
  have z4 := own_lt pr_F_a_1_heads.lt
  have z5 := own_lt pr_F_a_1_bodyStarts.lt
  have z6 := own_lt pr_F_a_1_bodies.lt
  have z7 := own_lt pr_F_a_1_occurrences.lt
  have z8 := own_lt pr_A_wh.lt
  have z9 := own_lt pr_A_wst.lt
  have z10 := own_lt pr_A_wb.lt
  have z11 := own_lt pr_A_a_3.lt
  have ho12 := hord
  simp only [own_lts, and_true] at ho12
  have K0 : Keep h0 h0 [a_1, wh, wst, wb] := Keep.refl h0 _
  show own_Go p.tables e below (fun t o => t.status = .running ∧ Ended t below o ∧ ∃ v L, o = .returned v ∧ own_Q4_01 Z a_1 p_2 a_3 wh wst wb gh gs gb bs w_occ y0 h0 n0 v t.heap L ∧ ReturnedEndW s o t L ({ frames := 2, cells := 4, slots := 72, locals := 40 } : Room).cells ({ frames := 2, cells := 4, slots := 72, locals := 40 } : Room).slots) s₁ (entryFrame m #[(.ref a_1), (.int p_2), (.ref a_3)] 7)
  rw [own_ef_own_rm4_01 m a_1 p_2 a_3]
  show own_Go _ _ _ _ s₁ (mkF m 0 #[.val (.ref a_1), .val (.int p_2), .val (.ref a_3), .unset, .unset, .unset, .unset] [])
  refine own_go (fun _ k => XS.aloadN X0.here hx rfl (hb hby own_d4_0) rfl rfl k) ?_
  show own_Go _ _ _ _ s₁ (mkF m 1 #[.val (.ref a_1), .val (.int p_2), .val (.ref a_3), .unset, .unset, .unset, .unset] [(.ref a_1)])
  refine own_go (fun _ k => XS.iloadN X0.here hx rfl (hb hby own_d4_1) rfl k) ?_
  show own_Go _ _ _ _ s₁ (mkF m 2 #[.val (.ref a_1), .val (.int p_2), .val (.ref a_3), .unset, .unset, .unset, .unset] [(.int p_2), (.ref a_1)])
  obtain ⟨cq13, kq13, q13a, q13b, q13c⟩ := isOf hZ e0 pr_E_a_1
  obtain ⟨_, _, ⟨T13, L13, k13, n13⟩, -, X13, hS13, gr13, ⟨Lc13, hQ13, l13, y13, z13⟩, st13⟩ := X0.virtualBackS hx (y := (⟨"com/example/kalchas/kalchas/propositional/HornClauses", "checkVariable", "(I)V"⟩ : MethodName)) (z := (⟨"com/example/kalchas/kalchas/propositional/HornClauses", "checkVariable", "(I)V"⟩ : MethodName)) hown (mvT hZ (hw _ (List.mem_of_getElem? (i := 31) rfl))) (mvT hZ (hw _ (List.mem_of_getElem? (i := 32) rfl))) (notFace_of_selects (args := #[]) (mvT hZ (hw _ (List.mem_of_getElem? (i := 34) rfl)))) (mvT hZ (hw _ (List.mem_of_getElem? (i := 34) rfl))) (mvT hZ (hw _ (List.mem_of_getElem? (i := 33) rfl))) (by decide) (backOfS (W := 0) (own_rm5 l Z a0 hw [] a_1 p_2 (3 : Int32) h0 n0 (by omega) (show ¬ (p_2 < 0) by first | assumption | omega | decide) (show p_2 < (3 : Int32) by first | assumption | omega | decide) pr_F_a_1_variableCount) hZ (hw _ (List.mem_of_getElem? (i := 35) rfl)) (hw _ (List.mem_of_getElem? (i := 4) rfl)) (by decide) (by decide)) q13a q13c (g := (mkF m 2 #[.val (.ref a_1), .val (.int p_2), .val (.ref a_3), .unset, .unset, .unset, .unset] [(.int p_2), (.ref a_1)])) rfl (by rw [hml]; rfl) (Steps.refl _) (argsL := [(.int p_2)]) (rest := []) (lenOf own_pd1 rfl) rfl (by show 2 * 0 + _ ≤ _; exact Nat.le_of_eq rfl) (hb hby own_d4_2) (fun _ _ => ⟨rfl, e0, (by decide : 0 + 2 ≤ _), (by decide : 0 + 36 ≤ _)⟩)
  dsimp only [Pt.U, Pt.locs, Pt.cells, Pt.slots] at X13 l13 y13 z13 st13 hQ13 hS13 gr13
  have y13 : k13 = 2 := y13
  have z13 : n13 = 36 := z13
  have Wn13 := hS13.1
  obtain ⟨X13, hS13, hZ, hown⟩ := rebS hS0 (n1 := s₁.heap.size) (by rw [e0]; omega) X13 hS13 gr13 hZ hown
  obtain ⟨rfl, N13q, K13q⟩ := hQ13
  have N13 : Fr n0 L13 := by rw [l13]; exact Fr.app N0 N13q
  have z14 := K13q.1
  have K13 : Keep h0 T13.heap [a_1, wh, wst, wb] := K0.trans K13q all0
  refine own_go (fun _ k => st13.trans k) ?_
  show own_Go _ _ _ _ T13 (mkF m 5 #[.val (.ref a_1), .val (.int p_2), .val (.ref a_3), .unset, .unset, .unset, .unset] [])
  refine own_go (fun _ k => XS.aloadN X13.here hx rfl (hb hby own_d4_5) rfl rfl k) ?_
  show own_Go _ _ _ _ T13 (mkF m 6 #[.val (.ref a_1), .val (.int p_2), .val (.ref a_3), .unset, .unset, .unset, .unset] [(.ref a_3)])
  refine own_go (fun _ k => XS.astoreN X13.here hx rfl (hb hby own_d4_6) rfl rfl (l' := #[.val (.ref a_1), .val (.int p_2), .val (.ref a_3), .val (.ref a_3), .unset, .unset, .unset]) rfl k) ?_
  show own_Go _ _ _ _ T13 (mkF m 7 #[.val (.ref a_1), .val (.int p_2), .val (.ref a_3), .val (.ref a_3), .unset, .unset, .unset] [])
  refine own_go (fun _ k => XS.aloadN X13.here hx rfl (hb hby own_d4_7) rfl rfl k) ?_
  show own_Go _ _ _ _ T13 (mkF m 8 #[.val (.ref a_1), .val (.int p_2), .val (.ref a_3), .val (.ref a_3), .unset, .unset, .unset] [(.ref a_3)])
  have f15 : own_AV Z T13.heap a_3 .int (1 : Int32) (own_upd (fun _ => (.int (0 : Int32))) 0 (.int y0)) := (pr_A_a_3.keep K13q nin0)
  obtain ⟨q16, c16, R16, s16, t16⟩ := id f15
  refine own_go (fun _ k => X13.arraylength hx R16.1 (State.isArrayOf_alike hZ.alike R16.2.1) (g := (mkF m 8 #[.val (.ref a_1), .val (.int p_2), .val (.ref a_3), .val (.ref a_3), .unset, .unset, .unset] [(.ref a_3)])) rfl rfl (hb hby own_d4_8) _ k) ?_
  rw [len_of s16 q16]
  show own_Go _ _ _ _ T13 (mkF m 9 #[.val (.ref a_1), .val (.int p_2), .val (.ref a_3), .val (.ref a_3), .unset, .unset, .unset] [(.int (1 : Int32))])
  refine own_go (fun _ k => XS.istore X13.here hx rfl (hb hby own_d4_9) rfl (l' := #[.val (.ref a_1), .val (.int p_2), .val (.ref a_3), .val (.ref a_3), .val (.int (1 : Int32)), .unset, .unset]) rfl k) ?_
  show own_Go _ _ _ _ T13 (mkF m 11 #[.val (.ref a_1), .val (.int p_2), .val (.ref a_3), .val (.ref a_3), .val (.int (1 : Int32)), .unset, .unset] [])
  refine own_go (fun _ k => XS.iconst X13.here hx rfl (hb hby own_d4_11) k) ?_
  show own_Go _ _ _ _ T13 (mkF m 12 #[.val (.ref a_1), .val (.int p_2), .val (.ref a_3), .val (.ref a_3), .val (.int (1 : Int32)), .unset, .unset] [(.int (0 : Int32))])
  refine own_go (fun _ k => XS.istore X13.here hx rfl (hb hby own_d4_12) rfl (l' := #[.val (.ref a_1), .val (.int p_2), .val (.ref a_3), .val (.ref a_3), .val (.int (1 : Int32)), .val (.int (0 : Int32)), .unset]) rfl k) ?_
  show own_Go _ _ _ _ T13 (mkF m 14 #[.val (.ref a_1), .val (.int p_2), .val (.ref a_3), .val (.ref a_3), .val (.int (1 : Int32)), .val (.int (0 : Int32)), .unset] [])
  refine own_go (fun _ k => XS.iload X13.here hx rfl (hb hby own_d4_14) rfl k) ?_
  show own_Go _ _ _ _ T13 (mkF m 16 #[.val (.ref a_1), .val (.int p_2), .val (.ref a_3), .val (.ref a_3), .val (.int (1 : Int32)), .val (.int (0 : Int32)), .unset] [(.int (0 : Int32))])
  refine own_go (fun _ k => XS.iload X13.here hx rfl (hb hby own_d4_16) rfl k) ?_
  show own_Go _ _ _ _ T13 (mkF m 18 #[.val (.ref a_1), .val (.int p_2), .val (.ref a_3), .val (.ref a_3), .val (.int (1 : Int32)), .val (.int (0 : Int32)), .unset] [(.int (1 : Int32)), (.int (0 : Int32))])
  have hc17 : (0 : Int32) < (1 : Int32) := by decide
  refine own_go (fun _ k => XS.icmpNo X13.here hx rfl (hb hby own_d4_18) rfl (Jvm.Free.XT.ii_ge_f hc17) k) ?_
  show own_Go _ _ _ _ T13 (mkF m 21 #[.val (.ref a_1), .val (.int p_2), .val (.ref a_3), .val (.ref a_3), .val (.int (1 : Int32)), .val (.int (0 : Int32)), .unset] [])
  refine own_go (fun _ k => XS.aloadN X13.here hx rfl (hb hby own_d4_21) rfl rfl k) ?_
  show own_Go _ _ _ _ T13 (mkF m 22 #[.val (.ref a_1), .val (.int p_2), .val (.ref a_3), .val (.ref a_3), .val (.int (1 : Int32)), .val (.int (0 : Int32)), .unset] [(.ref a_3)])
  refine own_go (fun _ k => XS.iload X13.here hx rfl (hb hby own_d4_22) rfl k) ?_
  show own_Go _ _ _ _ T13 (mkF m 24 #[.val (.ref a_1), .val (.int p_2), .val (.ref a_3), .val (.ref a_3), .val (.int (1 : Int32)), .val (.int (0 : Int32)), .unset] [(.int (0 : Int32)), (.ref a_3)])
  obtain ⟨q18, c18, R18, s18, t18⟩ := id f15
  have hin18 : ¬ ((0 : Int32) < 0 ∨ c18.slots.size ≤ ((0 : Int32)).toNatClampNeg) := inb_of s18 ⟨by decide, by decide⟩
  have u18 : c18.slots[((0 : Int32)).toNatClampNeg]? = some (.int y0) := own_at (k := 0) t18 s18 hin18 (by decide) (rfl)
  refine own_go (fun _ k => X13.iaload hx (j := (0 : Int32)) (v := (.int y0)) R18.1 (State.isArrayOf_alike hZ.alike R18.2.1) R18.2.2 hin18 u18 (g := (mkF m 24 #[.val (.ref a_1), .val (.int p_2), .val (.ref a_3), .val (.ref a_3), .val (.int (1 : Int32)), .val (.int (0 : Int32)), .unset] [(.int (0 : Int32)), (.ref a_3)])) rfl rfl (hb hby own_d4_24) _ k) ?_
  show own_Go _ _ _ _ T13 (mkF m 25 #[.val (.ref a_1), .val (.int p_2), .val (.ref a_3), .val (.ref a_3), .val (.int (1 : Int32)), .val (.int (0 : Int32)), .unset] [(.int y0)])
  refine own_go (fun _ k => XS.istore X13.here hx rfl (hb hby own_d4_25) rfl (l' := #[.val (.ref a_1), .val (.int p_2), .val (.ref a_3), .val (.ref a_3), .val (.int (1 : Int32)), .val (.int (0 : Int32)), .val (.int y0)]) rfl k) ?_
  show own_Go _ _ _ _ T13 (mkF m 27 #[.val (.ref a_1), .val (.int p_2), .val (.ref a_3), .val (.ref a_3), .val (.int (1 : Int32)), .val (.int (0 : Int32)), .val (.int y0)] [])
  refine own_go (fun _ k => XS.aloadN X13.here hx rfl (hb hby own_d4_27) rfl rfl k) ?_
  show own_Go _ _ _ _ T13 (mkF m 28 #[.val (.ref a_1), .val (.int p_2), .val (.ref a_3), .val (.ref a_3), .val (.int (1 : Int32)), .val (.int (0 : Int32)), .val (.int y0)] [(.ref a_1)])
  refine own_go (fun _ k => XS.iload X13.here hx rfl (hb hby own_d4_28) rfl k) ?_
  show own_Go _ _ _ _ T13 (mkF m 30 #[.val (.ref a_1), .val (.int p_2), .val (.ref a_3), .val (.ref a_3), .val (.int (1 : Int32)), .val (.int (0 : Int32)), .val (.int y0)] [(.int y0), (.ref a_1)])
  have f19 : Fld Z T13.heap a_1 "com/example/kalchas/kalchas/propositional/HornClauses" "variableCount" "I" (.int (3 : Int32)) := (pr_F_a_1_variableCount.keep K13q nin0)
  have f21 : Exa Z T13.heap a_1 "com/example/kalchas/kalchas/propositional/HornClauses" := (pr_E_a_1.keep K13q)
  obtain ⟨cq20, kq20, q20a, q20b, q20c⟩ := isOf hZ rfl f21
  obtain ⟨_, _, ⟨T20, L20, k20, n20⟩, -, X20, hS20, gr20, ⟨Lc20, hQ20, l20, y20, z20⟩, st20⟩ := X13.virtualBackS hx (y := (⟨"com/example/kalchas/kalchas/propositional/HornClauses", "checkVariable", "(I)V"⟩ : MethodName)) (z := (⟨"com/example/kalchas/kalchas/propositional/HornClauses", "checkVariable", "(I)V"⟩ : MethodName)) hown (mvT hZ (hw _ (List.mem_of_getElem? (i := 31) rfl))) (mvT hZ (hw _ (List.mem_of_getElem? (i := 32) rfl))) (notFace_of_selects (args := #[]) (mvT hZ (hw _ (List.mem_of_getElem? (i := 34) rfl)))) (mvT hZ (hw _ (List.mem_of_getElem? (i := 34) rfl))) (mvT hZ (hw _ (List.mem_of_getElem? (i := 33) rfl))) (by decide) (backOfS (W := 0) (own_rm5 l Z a0 hw [] a_1 y0 (3 : Int32) T13.heap n0 (by omega) (show ¬ (y0 < 0) by first | assumption | omega | decide) (show y0 < (3 : Int32) by first | assumption | omega | decide) f19) hZ (hw _ (List.mem_of_getElem? (i := 35) rfl)) (hw _ (List.mem_of_getElem? (i := 4) rfl)) (by decide) (by decide)) q20a q20c (g := (mkF m 30 #[.val (.ref a_1), .val (.int p_2), .val (.ref a_3), .val (.ref a_3), .val (.int (1 : Int32)), .val (.int (0 : Int32)), .val (.int y0)] [(.int y0), (.ref a_1)])) rfl (by rw [hml]; rfl) (Steps.refl _) (argsL := [(.int y0)]) (rest := []) (lenOf own_pd1 rfl) rfl (by show 2 * 0 + _ ≤ _; exact Nat.le_of_eq rfl) (hb hby own_d4_30) (fun _ _ => ⟨rfl, rfl, (by show k13 + _ ≤ _; rw [y13]; decide), (by show n13 + _ ≤ _; rw [z13]; decide)⟩)
  dsimp only [Pt.U, Pt.locs, Pt.cells, Pt.slots] at X20 l20 y20 z20 st20 hQ20 hS20 gr20
  have y20 : k20 = 4 := own_addeq y20 (congrArg (fun q => q) y13) rfl
  have z20 : n20 = 72 := own_addeq z20 (congrArg (fun q => q) z13) rfl
  have Wn20 := hS20.1
  obtain ⟨X20, hS20, hZ, hown⟩ := rebS hS13 (n1 := T13.heap.size) (by omega) X20 hS20 gr20 hZ hown
  obtain ⟨rfl, N20q, K20q⟩ := hQ20
  have N20 : Fr n0 L20 := by rw [l20]; exact Fr.app N13 N20q
  have z22 := K20q.1
  have K20 : Keep h0 T20.heap [a_1, wh, wst, wb] := K13.trans K20q all0
  refine own_go (fun _ k => st20.trans k) ?_
  show own_Go _ _ _ _ T20 (mkF m 33 #[.val (.ref a_1), .val (.int p_2), .val (.ref a_3), .val (.ref a_3), .val (.int (1 : Int32)), .val (.int (0 : Int32)), .val (.int y0)] [])
  refine own_go (fun _ k => XS.iinc X20.here hx rfl (hb hby own_d4_33) rfl (l' := #[.val (.ref a_1), .val (.int p_2), .val (.ref a_3), .val (.ref a_3), .val (.int (1 : Int32)), .val (.int (1 : Int32)), .val (.int y0)]) rfl k) ?_
  show own_Go _ _ _ _ T20 (mkF m 36 #[.val (.ref a_1), .val (.int p_2), .val (.ref a_3), .val (.ref a_3), .val (.int (1 : Int32)), .val (.int (1 : Int32)), .val (.int y0)] [])
  refine own_go (fun _ k => XS.goto X20.here hx rfl (pc0 := 36) (pc' := 14) rfl (hb hby own_d4_36) (by decide) (by decide) k) ?_
  show own_Go _ _ _ _ T20 (mkF m 14 #[.val (.ref a_1), .val (.int p_2), .val (.ref a_3), .val (.ref a_3), .val (.int (1 : Int32)), .val (.int (1 : Int32)), .val (.int y0)] [])
  refine own_go (fun _ k => XS.iload X20.here hx rfl (hb hby own_d4_14) rfl k) ?_
  show own_Go _ _ _ _ T20 (mkF m 16 #[.val (.ref a_1), .val (.int p_2), .val (.ref a_3), .val (.ref a_3), .val (.int (1 : Int32)), .val (.int (1 : Int32)), .val (.int y0)] [(.int (1 : Int32))])
  refine own_go (fun _ k => XS.iload X20.here hx rfl (hb hby own_d4_16) rfl k) ?_
  show own_Go _ _ _ _ T20 (mkF m 18 #[.val (.ref a_1), .val (.int p_2), .val (.ref a_3), .val (.ref a_3), .val (.int (1 : Int32)), .val (.int (1 : Int32)), .val (.int y0)] [(.int (1 : Int32)), (.int (1 : Int32))])
  have hc23 : ¬ ((1 : Int32) < (1 : Int32)) := by decide
  refine own_go (fun _ k => XS.icmpYes X20.here hx rfl (pc0 := 18) (pc' := 39) rfl (hb hby own_d4_18) rfl (Jvm.Free.XT.ii_ge_t hc23) (by decide) (by decide) k) ?_
  show own_Go _ _ _ _ T20 (mkF m 39 #[.val (.ref a_1), .val (.int p_2), .val (.ref a_3), .val (.ref a_3), .val (.int (1 : Int32)), .val (.int (1 : Int32)), .val (.int y0)] [])
  refine own_go (fun _ k => XS.aloadN X20.here hx rfl (hb hby own_d4_39) rfl rfl k) ?_
  show own_Go _ _ _ _ T20 (mkF m 40 #[.val (.ref a_1), .val (.int p_2), .val (.ref a_3), .val (.ref a_3), .val (.int (1 : Int32)), .val (.int (1 : Int32)), .val (.int y0)] [(.ref a_1)])
  have f24 : Fld Z T20.heap a_1 "com/example/kalchas/kalchas/propositional/HornClauses" "clauseCount" "I" (.int (0 : Int32)) := ((pr_F_a_1_clauseCount.keep K13q nin0).keep K20q nin0)
  obtain ⟨T25, X25, e25, st25⟩ := getF X20 hx hZ hown (host := "") (Or.inl (hw _ (List.mem_of_getElem? (i := 47) rfl))) Via.refl rfl f24 (g := (mkF m 40 #[.val (.ref a_1), .val (.int p_2), .val (.ref a_3), .val (.ref a_3), .val (.int (1 : Int32)), .val (.int (1 : Int32)), .val (.int y0)] [(.ref a_1)])) rfl rfl (hb hby own_d4_40)
  refine own_go (fun _ k => st25 _ k) ?_
  show own_Go _ _ _ _ T25 (mkF m 43 #[.val (.ref a_1), .val (.int p_2), .val (.ref a_3), .val (.ref a_3), .val (.int (1 : Int32)), .val (.int (1 : Int32)), .val (.int y0)] [(.int (0 : Int32))])
  refine own_go (fun _ k => XS.aloadN X25.here hx rfl (hb hby own_d4_43) rfl rfl k) ?_
  show own_Go _ _ _ _ T25 (mkF m 44 #[.val (.ref a_1), .val (.int p_2), .val (.ref a_3), .val (.ref a_3), .val (.int (1 : Int32)), .val (.int (1 : Int32)), .val (.int y0)] [(.ref a_1), (.int (0 : Int32))])
  have f26 : Fld Z T20.heap a_1 "com/example/kalchas/kalchas/propositional/HornClauses" "heads" "[I" (.ref wh) := ((pr_F_a_1_heads.keep K13q nin0).keep K20q nin0)
  obtain ⟨T27, X27, e27, st27⟩ := getF X25 hx hZ hown (host := "") (Or.inl (hw _ (List.mem_of_getElem? (i := 11) rfl))) Via.refl e25 f26 (g := (mkF m 44 #[.val (.ref a_1), .val (.int p_2), .val (.ref a_3), .val (.ref a_3), .val (.int (1 : Int32)), .val (.int (1 : Int32)), .val (.int y0)] [(.ref a_1), (.int (0 : Int32))])) rfl rfl (hb hby own_d4_44)
  refine own_go (fun _ k => st27 _ k) ?_
  show own_Go _ _ _ _ T27 (mkF m 47 #[.val (.ref a_1), .val (.int p_2), .val (.ref a_3), .val (.ref a_3), .val (.int (1 : Int32)), .val (.int (1 : Int32)), .val (.int y0)] [(.ref wh), (.int (0 : Int32))])
  have f28 : own_AV Z T20.heap wh .int (64 : Int32) gh := ((pr_A_wh.keep K13q nin0).keep K20q nin0)
  obtain ⟨q29, c29, R29, s29, t29⟩ := id f28
  refine own_go (fun _ k => X27.arraylength hx (by rw [e27]; exact R29.1) (State.isArrayOf_alike hZ.alike R29.2.1) (g := (mkF m 47 #[.val (.ref a_1), .val (.int p_2), .val (.ref a_3), .val (.ref a_3), .val (.int (1 : Int32)), .val (.int (1 : Int32)), .val (.int y0)] [(.ref wh), (.int (0 : Int32))])) rfl rfl (hb hby own_d4_47) _ k) ?_
  rw [len_of s29 q29]
  show own_Go _ _ _ _ T27 (mkF m 48 #[.val (.ref a_1), .val (.int p_2), .val (.ref a_3), .val (.ref a_3), .val (.int (1 : Int32)), .val (.int (1 : Int32)), .val (.int y0)] [(.int (64 : Int32)), (.int (0 : Int32))])
  have hc30 : ¬ ((0 : Int32) = (64 : Int32)) := by decide
  refine own_go (fun _ k => XS.icmpYes X27.here hx rfl (pc0 := 48) (pc' := 85) rfl (hb hby own_d4_48) rfl (Jvm.Free.XT.ii_ne_t hc30) (by decide) (by decide) k) ?_
  show own_Go _ _ _ _ T27 (mkF m 85 #[.val (.ref a_1), .val (.int p_2), .val (.ref a_3), .val (.ref a_3), .val (.int (1 : Int32)), .val (.int (1 : Int32)), .val (.int y0)] [])
  refine own_go (fun _ k => XS.aloadN X27.here hx rfl (hb hby own_d4_85) rfl rfl k) ?_
  show own_Go _ _ _ _ T27 (mkF m 86 #[.val (.ref a_1), .val (.int p_2), .val (.ref a_3), .val (.ref a_3), .val (.int (1 : Int32)), .val (.int (1 : Int32)), .val (.int y0)] [(.ref a_1)])
  have f31 : Fld Z T20.heap a_1 "com/example/kalchas/kalchas/propositional/HornClauses" "bodyStarts" "[I" (.ref wst) := ((pr_F_a_1_bodyStarts.keep K13q nin0).keep K20q nin0)
  obtain ⟨T32, X32, e32, st32⟩ := getF X27 hx hZ hown (host := "") (Or.inl (hw _ (List.mem_of_getElem? (i := 13) rfl))) Via.refl e27 f31 (g := (mkF m 86 #[.val (.ref a_1), .val (.int p_2), .val (.ref a_3), .val (.ref a_3), .val (.int (1 : Int32)), .val (.int (1 : Int32)), .val (.int y0)] [(.ref a_1)])) rfl rfl (hb hby own_d4_86)
  refine own_go (fun _ k => st32 _ k) ?_
  show own_Go _ _ _ _ T32 (mkF m 89 #[.val (.ref a_1), .val (.int p_2), .val (.ref a_3), .val (.ref a_3), .val (.int (1 : Int32)), .val (.int (1 : Int32)), .val (.int y0)] [(.ref wst)])
  refine own_go (fun _ k => XS.aloadN X32.here hx rfl (hb hby own_d4_89) rfl rfl k) ?_
  show own_Go _ _ _ _ T32 (mkF m 90 #[.val (.ref a_1), .val (.int p_2), .val (.ref a_3), .val (.ref a_3), .val (.int (1 : Int32)), .val (.int (1 : Int32)), .val (.int y0)] [(.ref a_1), (.ref wst)])
  obtain ⟨T33, X33, e33, st33⟩ := getF X32 hx hZ hown (host := "") (Or.inl (hw _ (List.mem_of_getElem? (i := 47) rfl))) Via.refl e32 f24 (g := (mkF m 90 #[.val (.ref a_1), .val (.int p_2), .val (.ref a_3), .val (.ref a_3), .val (.int (1 : Int32)), .val (.int (1 : Int32)), .val (.int y0)] [(.ref a_1), (.ref wst)])) rfl rfl (hb hby own_d4_90)
  refine own_go (fun _ k => st33 _ k) ?_
  show own_Go _ _ _ _ T33 (mkF m 93 #[.val (.ref a_1), .val (.int p_2), .val (.ref a_3), .val (.ref a_3), .val (.int (1 : Int32)), .val (.int (1 : Int32)), .val (.int y0)] [(.int (0 : Int32)), (.ref wst)])
  have f34 : own_AV Z T20.heap wst .int (65 : Int32) gs := ((pr_A_wst.keep K13q nin0).keep K20q nin0)
  obtain ⟨q35, c35, R35, s35, t35⟩ := id f34
  have hin35 : ¬ ((0 : Int32) < 0 ∨ c35.slots.size ≤ ((0 : Int32)).toNatClampNeg) := inb_of s35 ⟨by decide, by decide⟩
  have u35 : c35.slots[((0 : Int32)).toNatClampNeg]? = some (.int bs) := own_at (k := 0) t35 s35 hin35 (by decide) (hgs)
  refine own_go (fun _ k => X33.iaload hx (j := (0 : Int32)) (v := (.int bs)) (by rw [e33]; exact R35.1) (State.isArrayOf_alike hZ.alike R35.2.1) R35.2.2 hin35 u35 (g := (mkF m 93 #[.val (.ref a_1), .val (.int p_2), .val (.ref a_3), .val (.ref a_3), .val (.int (1 : Int32)), .val (.int (1 : Int32)), .val (.int y0)] [(.int (0 : Int32)), (.ref wst)])) rfl rfl (hb hby own_d4_93) _ k) ?_
  show own_Go _ _ _ _ T33 (mkF m 94 #[.val (.ref a_1), .val (.int p_2), .val (.ref a_3), .val (.ref a_3), .val (.int (1 : Int32)), .val (.int (1 : Int32)), .val (.int y0)] [(.int bs)])
  refine own_go (fun _ k => XS.istoreN X33.here hx rfl (hb hby own_d4_94) rfl (l' := #[.val (.ref a_1), .val (.int p_2), .val (.ref a_3), .val (.int bs), .val (.int (1 : Int32)), .val (.int (1 : Int32)), .val (.int y0)]) rfl k) ?_
  show own_Go _ _ _ _ T33 (mkF m 95 #[.val (.ref a_1), .val (.int p_2), .val (.ref a_3), .val (.int bs), .val (.int (1 : Int32)), .val (.int (1 : Int32)), .val (.int y0)] [])
  refine own_go (fun _ k => XS.iloadN X33.here hx rfl (hb hby own_d4_95) rfl k) ?_
  show own_Go _ _ _ _ T33 (mkF m 96 #[.val (.ref a_1), .val (.int p_2), .val (.ref a_3), .val (.int bs), .val (.int (1 : Int32)), .val (.int (1 : Int32)), .val (.int y0)] [(.int bs)])
  refine own_go (fun _ k => XS.aloadN X33.here hx rfl (hb hby own_d4_96) rfl rfl k) ?_
  show own_Go _ _ _ _ T33 (mkF m 97 #[.val (.ref a_1), .val (.int p_2), .val (.ref a_3), .val (.int bs), .val (.int (1 : Int32)), .val (.int (1 : Int32)), .val (.int y0)] [(.ref a_3), (.int bs)])
  have f36 : own_AV Z T20.heap a_3 .int (1 : Int32) (own_upd (fun _ => (.int (0 : Int32))) 0 (.int y0)) := (f15.keep K20q nin0)
  obtain ⟨q37, c37, R37, s37, t37⟩ := id f36
  refine own_go (fun _ k => X33.arraylength hx (by rw [e33]; exact R37.1) (State.isArrayOf_alike hZ.alike R37.2.1) (g := (mkF m 97 #[.val (.ref a_1), .val (.int p_2), .val (.ref a_3), .val (.int bs), .val (.int (1 : Int32)), .val (.int (1 : Int32)), .val (.int y0)] [(.ref a_3), (.int bs)])) rfl rfl (hb hby own_d4_97) _ k) ?_
  rw [len_of s37 q37]
  show own_Go _ _ _ _ T33 (mkF m 98 #[.val (.ref a_1), .val (.int p_2), .val (.ref a_3), .val (.int bs), .val (.int (1 : Int32)), .val (.int (1 : Int32)), .val (.int y0)] [(.int (1 : Int32)), (.int bs)])
  refine own_go (fun _ k => XS.iadd X33.here hx rfl (hb hby own_d4_98) rfl k) ?_
  show own_Go _ _ _ _ T33 (mkF m 99 #[.val (.ref a_1), .val (.int p_2), .val (.ref a_3), .val (.int bs), .val (.int (1 : Int32)), .val (.int (1 : Int32)), .val (.int y0)] [(.int (bs + (1 : Int32)))])
  refine own_go (fun _ k => XS.aloadN X33.here hx rfl (hb hby own_d4_99) rfl rfl k) ?_
  show own_Go _ _ _ _ T33 (mkF m 100 #[.val (.ref a_1), .val (.int p_2), .val (.ref a_3), .val (.int bs), .val (.int (1 : Int32)), .val (.int (1 : Int32)), .val (.int y0)] [(.ref a_1), (.int (bs + (1 : Int32)))])
  have f38 : Fld Z T20.heap a_1 "com/example/kalchas/kalchas/propositional/HornClauses" "bodies" "[I" (.ref wb) := ((pr_F_a_1_bodies.keep K13q nin0).keep K20q nin0)
  obtain ⟨T39, X39, e39, st39⟩ := getF X33 hx hZ hown (host := "") (Or.inl (hw _ (List.mem_of_getElem? (i := 15) rfl))) Via.refl e33 f38 (g := (mkF m 100 #[.val (.ref a_1), .val (.int p_2), .val (.ref a_3), .val (.int bs), .val (.int (1 : Int32)), .val (.int (1 : Int32)), .val (.int y0)] [(.ref a_1), (.int (bs + (1 : Int32)))])) rfl rfl (hb hby own_d4_100)
  refine own_go (fun _ k => st39 _ k) ?_
  show own_Go _ _ _ _ T39 (mkF m 103 #[.val (.ref a_1), .val (.int p_2), .val (.ref a_3), .val (.int bs), .val (.int (1 : Int32)), .val (.int (1 : Int32)), .val (.int y0)] [(.ref wb), (.int (bs + (1 : Int32)))])
  have f40 : own_AV Z T20.heap wb .int (64 : Int32) gb := ((pr_A_wb.keep K13q nin0).keep K20q nin0)
  obtain ⟨q41, c41, R41, s41, t41⟩ := id f40
  refine own_go (fun _ k => X39.arraylength hx (by rw [e39]; exact R41.1) (State.isArrayOf_alike hZ.alike R41.2.1) (g := (mkF m 103 #[.val (.ref a_1), .val (.int p_2), .val (.ref a_3), .val (.int bs), .val (.int (1 : Int32)), .val (.int (1 : Int32)), .val (.int y0)] [(.ref wb), (.int (bs + (1 : Int32)))])) rfl rfl (hb hby own_d4_103) _ k) ?_
  rw [len_of s41 q41]
  show own_Go _ _ _ _ T39 (mkF m 104 #[.val (.ref a_1), .val (.int p_2), .val (.ref a_3), .val (.int bs), .val (.int (1 : Int32)), .val (.int (1 : Int32)), .val (.int y0)] [(.int (64 : Int32)), (.int (bs + (1 : Int32)))])
  have hc42 : ¬ ((64 : Int32) < (bs + (1 : Int32))) := own_t4_01_0 bs hbs
  refine own_go (fun _ k => XS.icmpYes X39.here hx rfl (pc0 := 104) (pc' := 132) rfl (hb hby own_d4_104) rfl (Jvm.Free.XT.ii_le_t hc42) (by decide) (by decide) k) ?_
  show own_Go _ _ _ _ T39 (mkF m 132 #[.val (.ref a_1), .val (.int p_2), .val (.ref a_3), .val (.int bs), .val (.int (1 : Int32)), .val (.int (1 : Int32)), .val (.int y0)] [])
  refine own_go (fun _ k => XS.aloadN X39.here hx rfl (hb hby own_d4_132) rfl rfl k) ?_
  show own_Go _ _ _ _ T39 (mkF m 133 #[.val (.ref a_1), .val (.int p_2), .val (.ref a_3), .val (.int bs), .val (.int (1 : Int32)), .val (.int (1 : Int32)), .val (.int y0)] [(.ref a_3)])
  refine own_go (fun _ k => XS.iconst X39.here hx rfl (hb hby own_d4_133) k) ?_
  show own_Go _ _ _ _ T39 (mkF m 134 #[.val (.ref a_1), .val (.int p_2), .val (.ref a_3), .val (.int bs), .val (.int (1 : Int32)), .val (.int (1 : Int32)), .val (.int y0)] [(.int (0 : Int32)), (.ref a_3)])
  refine own_go (fun _ k => XS.aloadN X39.here hx rfl (hb hby own_d4_134) rfl rfl k) ?_
  show own_Go _ _ _ _ T39 (mkF m 135 #[.val (.ref a_1), .val (.int p_2), .val (.ref a_3), .val (.int bs), .val (.int (1 : Int32)), .val (.int (1 : Int32)), .val (.int y0)] [(.ref a_1), (.int (0 : Int32)), (.ref a_3)])
  obtain ⟨T43, X43, e43, st43⟩ := getF X39 hx hZ hown (host := "") (Or.inl (hw _ (List.mem_of_getElem? (i := 15) rfl))) Via.refl e39 f38 (g := (mkF m 135 #[.val (.ref a_1), .val (.int p_2), .val (.ref a_3), .val (.int bs), .val (.int (1 : Int32)), .val (.int (1 : Int32)), .val (.int y0)] [(.ref a_1), (.int (0 : Int32)), (.ref a_3)])) rfl rfl (hb hby own_d4_135)
  refine own_go (fun _ k => st43 _ k) ?_
  show own_Go _ _ _ _ T43 (mkF m 138 #[.val (.ref a_1), .val (.int p_2), .val (.ref a_3), .val (.int bs), .val (.int (1 : Int32)), .val (.int (1 : Int32)), .val (.int y0)] [(.ref wb), (.int (0 : Int32)), (.ref a_3)])
  refine own_go (fun _ k => XS.iloadN X43.here hx rfl (hb hby own_d4_138) rfl k) ?_
  show own_Go _ _ _ _ T43 (mkF m 139 #[.val (.ref a_1), .val (.int p_2), .val (.ref a_3), .val (.int bs), .val (.int (1 : Int32)), .val (.int (1 : Int32)), .val (.int y0)] [(.int bs), (.ref wb), (.int (0 : Int32)), (.ref a_3)])
  refine own_go (fun _ k => XS.aloadN X43.here hx rfl (hb hby own_d4_139) rfl rfl k) ?_
  show own_Go _ _ _ _ T43 (mkF m 140 #[.val (.ref a_1), .val (.int p_2), .val (.ref a_3), .val (.int bs), .val (.int (1 : Int32)), .val (.int (1 : Int32)), .val (.int y0)] [(.ref a_3), (.int bs), (.ref wb), (.int (0 : Int32)), (.ref a_3)])
  obtain ⟨q44, c44, R44, s44, t44⟩ := id f36
  refine own_go (fun _ k => X43.arraylength hx (by rw [e43]; exact R44.1) (State.isArrayOf_alike hZ.alike R44.2.1) (g := (mkF m 140 #[.val (.ref a_1), .val (.int p_2), .val (.ref a_3), .val (.int bs), .val (.int (1 : Int32)), .val (.int (1 : Int32)), .val (.int y0)] [(.ref a_3), (.int bs), (.ref wb), (.int (0 : Int32)), (.ref a_3)])) rfl rfl (hb hby own_d4_140) _ k) ?_
  rw [len_of s44 q44]
  show own_Go _ _ _ _ T43 (mkF m 141 #[.val (.ref a_1), .val (.int p_2), .val (.ref a_3), .val (.int bs), .val (.int (1 : Int32)), .val (.int (1 : Int32)), .val (.int y0)] [(.int (1 : Int32)), (.int bs), (.ref wb), (.int (0 : Int32)), (.ref a_3)])
  obtain ⟨T45, h45, L45, X45, e45, N45, Kq45, V45, st45⟩ := own_cp X43 hx hZ hown (hw _ (List.mem_of_getElem? (i := 49) rfl)) (hw _ (List.mem_of_getElem? (i := 52) rfl)) (hw _ (List.mem_of_getElem? (i := 50) rfl)) (hw _ (List.mem_of_getElem? (i := 51) rfl)) e43 f36 f40 (own_updf (fun _ => rfl) rfl) hfb (by decide) (own_t4_01_2 bs hbs hc42) (by decide) (by decide) (own_cl5 (own_t4_01_1 bs hbs hc42)) N20 (by omega) (g := (mkF m 141 #[.val (.ref a_1), .val (.int p_2), .val (.ref a_3), .val (.int bs), .val (.int (1 : Int32)), .val (.int (1 : Int32)), .val (.int y0)] [(.int (1 : Int32)), (.int bs), (.ref wb), (.int (0 : Int32)), (.ref a_3)])) rfl (by rw [hml]; rfl) rfl (hb hby own_d4_141) (by decide) (W := 0) (by show 2 * 0 + _ ≤ _; exact Nat.le_of_eq rfl) (by decide)
  have z46 := Kq45.1
  have K45 : Keep h0 h45 [a_1, wh, wst, wb] := K20.trans Kq45 (allS (Or.inl (List.mem_of_getElem? (i := 3) rfl)) all0)
  refine own_go (fun _ k => st45 _ k) ?_
  show own_Go _ _ _ _ T45 (mkF m 144 #[.val (.ref a_1), .val (.int p_2), .val (.ref a_3), .val (.int bs), .val (.int (1 : Int32)), .val (.int (1 : Int32)), .val (.int y0)] [])
  refine own_go (fun _ k => XS.aloadN X45.here hx rfl (hb hby own_d4_144) rfl rfl k) ?_
  show own_Go _ _ _ _ T45 (mkF m 145 #[.val (.ref a_1), .val (.int p_2), .val (.ref a_3), .val (.int bs), .val (.int (1 : Int32)), .val (.int (1 : Int32)), .val (.int y0)] [(.ref a_1)])
  have f47 : Fld Z h45 a_1 "com/example/kalchas/kalchas/propositional/HornClauses" "heads" "[I" (.ref wh) := (f26.keep Kq45 (ninS (own_ne (by omega)) nin0))
  obtain ⟨T48, X48, e48, st48⟩ := getF X45 hx hZ hown (host := "") (Or.inl (hw _ (List.mem_of_getElem? (i := 11) rfl))) Via.refl e45 f47 (g := (mkF m 145 #[.val (.ref a_1), .val (.int p_2), .val (.ref a_3), .val (.int bs), .val (.int (1 : Int32)), .val (.int (1 : Int32)), .val (.int y0)] [(.ref a_1)])) rfl rfl (hb hby own_d4_145)
  refine own_go (fun _ k => st48 _ k) ?_
  show own_Go _ _ _ _ T48 (mkF m 148 #[.val (.ref a_1), .val (.int p_2), .val (.ref a_3), .val (.int bs), .val (.int (1 : Int32)), .val (.int (1 : Int32)), .val (.int y0)] [(.ref wh)])
  refine own_go (fun _ k => XS.aloadN X48.here hx rfl (hb hby own_d4_148) rfl rfl k) ?_
  show own_Go _ _ _ _ T48 (mkF m 149 #[.val (.ref a_1), .val (.int p_2), .val (.ref a_3), .val (.int bs), .val (.int (1 : Int32)), .val (.int (1 : Int32)), .val (.int y0)] [(.ref a_1), (.ref wh)])
  have f49 : Fld Z h45 a_1 "com/example/kalchas/kalchas/propositional/HornClauses" "clauseCount" "I" (.int (0 : Int32)) := (f24.keep Kq45 (ninS (own_ne (by omega)) nin0))
  obtain ⟨T50, X50, e50, st50⟩ := getF X48 hx hZ hown (host := "") (Or.inl (hw _ (List.mem_of_getElem? (i := 47) rfl))) Via.refl e48 f49 (g := (mkF m 149 #[.val (.ref a_1), .val (.int p_2), .val (.ref a_3), .val (.int bs), .val (.int (1 : Int32)), .val (.int (1 : Int32)), .val (.int y0)] [(.ref a_1), (.ref wh)])) rfl rfl (hb hby own_d4_149)
  refine own_go (fun _ k => st50 _ k) ?_
  show own_Go _ _ _ _ T50 (mkF m 152 #[.val (.ref a_1), .val (.int p_2), .val (.ref a_3), .val (.int bs), .val (.int (1 : Int32)), .val (.int (1 : Int32)), .val (.int y0)] [(.int (0 : Int32)), (.ref wh)])
  refine own_go (fun _ k => XS.iloadN X50.here hx rfl (hb hby own_d4_152) rfl k) ?_
  show own_Go _ _ _ _ T50 (mkF m 153 #[.val (.ref a_1), .val (.int p_2), .val (.ref a_3), .val (.int bs), .val (.int (1 : Int32)), .val (.int (1 : Int32)), .val (.int y0)] [(.int p_2), (.int (0 : Int32)), (.ref wh)])
  have f51 : own_AV Z h45 wh .int (64 : Int32) gh := (f28.keep Kq45 (ninS (own_ne (by omega)) nin0))
  obtain ⟨q52, c52, R52, s52, t52⟩ := id f51
  have hin52 : ¬ ((0 : Int32) < 0 ∨ c52.slots.size ≤ ((0 : Int32)).toNatClampNeg) := inb_of s52 ⟨by decide, by decide⟩
  obtain ⟨T53, h53, X53, e53, W53, st53⟩ := stI X50 hx hZ e50 R52 (j := (0 : Int32)) hin52 (g := (mkF m 153 #[.val (.ref a_1), .val (.int p_2), .val (.ref a_3), .val (.int bs), .val (.int (1 : Int32)), .val (.int (1 : Int32)), .val (.int y0)] [(.int p_2), (.int (0 : Int32)), (.ref wh)])) rfl rfl (hb hby own_d4_153)
  have V53 : own_AV Z h53 wh .int (64 : Int32) (own_upd gh 0 (.int p_2)) := own_AV.set (k := 0) f51 W53 (by decide)
  have z54 := W53.size
  have K53 : Keep h0 h53 [a_1, wh, wst, wb] := K45.wr W53 (Or.inl (List.mem_of_getElem? (i := 1) rfl))
  have N53 := Fr.snoc X53 N45 (by omega : n0 ≤ wh)
  refine own_go (fun _ k => st53 _ k) ?_
  show own_Go _ _ _ _ T53 (mkF m 154 #[.val (.ref a_1), .val (.int p_2), .val (.ref a_3), .val (.int bs), .val (.int (1 : Int32)), .val (.int (1 : Int32)), .val (.int y0)] [])
  refine own_go (fun _ k => XS.aloadN X53.here hx rfl (hb hby own_d4_154) rfl rfl k) ?_
  show own_Go _ _ _ _ T53 (mkF m 155 #[.val (.ref a_1), .val (.int p_2), .val (.ref a_3), .val (.int bs), .val (.int (1 : Int32)), .val (.int (1 : Int32)), .val (.int y0)] [(.ref a_1)])
  have f55 : Fld Z h53 a_1 "com/example/kalchas/kalchas/propositional/HornClauses" "bodyStarts" "[I" (.ref wst) := ((f31.keep Kq45 (ninS (own_ne (by omega)) nin0)).other W53 (Or.inl (own_ne (by omega))))
  obtain ⟨T56, X56, e56, st56⟩ := getF X53 hx hZ hown (host := "") (Or.inl (hw _ (List.mem_of_getElem? (i := 13) rfl))) Via.refl e53 f55 (g := (mkF m 155 #[.val (.ref a_1), .val (.int p_2), .val (.ref a_3), .val (.int bs), .val (.int (1 : Int32)), .val (.int (1 : Int32)), .val (.int y0)] [(.ref a_1)])) rfl rfl (hb hby own_d4_155)
  refine own_go (fun _ k => st56 _ k) ?_
  show own_Go _ _ _ _ T56 (mkF m 158 #[.val (.ref a_1), .val (.int p_2), .val (.ref a_3), .val (.int bs), .val (.int (1 : Int32)), .val (.int (1 : Int32)), .val (.int y0)] [(.ref wst)])
  refine own_go (fun _ k => XS.aloadN X56.here hx rfl (hb hby own_d4_158) rfl rfl k) ?_
  show own_Go _ _ _ _ T56 (mkF m 159 #[.val (.ref a_1), .val (.int p_2), .val (.ref a_3), .val (.int bs), .val (.int (1 : Int32)), .val (.int (1 : Int32)), .val (.int y0)] [(.ref a_1), (.ref wst)])
  have f57 : Fld Z h53 a_1 "com/example/kalchas/kalchas/propositional/HornClauses" "clauseCount" "I" (.int (0 : Int32)) := (f49.other W53 (Or.inl (own_ne (by omega))))
  obtain ⟨T58, X58, e58, st58⟩ := getF X56 hx hZ hown (host := "") (Or.inl (hw _ (List.mem_of_getElem? (i := 47) rfl))) Via.refl e56 f57 (g := (mkF m 159 #[.val (.ref a_1), .val (.int p_2), .val (.ref a_3), .val (.int bs), .val (.int (1 : Int32)), .val (.int (1 : Int32)), .val (.int y0)] [(.ref a_1), (.ref wst)])) rfl rfl (hb hby own_d4_159)
  refine own_go (fun _ k => st58 _ k) ?_
  show own_Go _ _ _ _ T58 (mkF m 162 #[.val (.ref a_1), .val (.int p_2), .val (.ref a_3), .val (.int bs), .val (.int (1 : Int32)), .val (.int (1 : Int32)), .val (.int y0)] [(.int (0 : Int32)), (.ref wst)])
  refine own_go (fun _ k => XS.iconst X58.here hx rfl (hb hby own_d4_162) k) ?_
  show own_Go _ _ _ _ T58 (mkF m 163 #[.val (.ref a_1), .val (.int p_2), .val (.ref a_3), .val (.int bs), .val (.int (1 : Int32)), .val (.int (1 : Int32)), .val (.int y0)] [(.int (1 : Int32)), (.int (0 : Int32)), (.ref wst)])
  refine own_go (fun _ k => XS.iadd X58.here hx rfl (hb hby own_d4_163) rfl k) ?_
  show own_Go _ _ _ _ T58 (mkF m 164 #[.val (.ref a_1), .val (.int p_2), .val (.ref a_3), .val (.int bs), .val (.int (1 : Int32)), .val (.int (1 : Int32)), .val (.int y0)] [(.int (1 : Int32)), (.ref wst)])
  refine own_go (fun _ k => XS.iloadN X58.here hx rfl (hb hby own_d4_164) rfl k) ?_
  show own_Go _ _ _ _ T58 (mkF m 165 #[.val (.ref a_1), .val (.int p_2), .val (.ref a_3), .val (.int bs), .val (.int (1 : Int32)), .val (.int (1 : Int32)), .val (.int y0)] [(.int bs), (.int (1 : Int32)), (.ref wst)])
  refine own_go (fun _ k => XS.aloadN X58.here hx rfl (hb hby own_d4_165) rfl rfl k) ?_
  show own_Go _ _ _ _ T58 (mkF m 166 #[.val (.ref a_1), .val (.int p_2), .val (.ref a_3), .val (.int bs), .val (.int (1 : Int32)), .val (.int (1 : Int32)), .val (.int y0)] [(.ref a_3), (.int bs), (.int (1 : Int32)), (.ref wst)])
  have f59 : own_AV Z h53 a_3 .int (1 : Int32) (own_upd (fun _ => (.int (0 : Int32))) 0 (.int y0)) := ((f36.keep Kq45 (ninS (own_ne (by omega)) nin0)).other W53 (own_ne (by omega)))
  obtain ⟨q60, c60, R60, s60, t60⟩ := id f59
  refine own_go (fun _ k => X58.arraylength hx (by rw [e58]; exact R60.1) (State.isArrayOf_alike hZ.alike R60.2.1) (g := (mkF m 166 #[.val (.ref a_1), .val (.int p_2), .val (.ref a_3), .val (.int bs), .val (.int (1 : Int32)), .val (.int (1 : Int32)), .val (.int y0)] [(.ref a_3), (.int bs), (.int (1 : Int32)), (.ref wst)])) rfl rfl (hb hby own_d4_166) _ k) ?_
  rw [len_of s60 q60]
  show own_Go _ _ _ _ T58 (mkF m 167 #[.val (.ref a_1), .val (.int p_2), .val (.ref a_3), .val (.int bs), .val (.int (1 : Int32)), .val (.int (1 : Int32)), .val (.int y0)] [(.int (1 : Int32)), (.int bs), (.int (1 : Int32)), (.ref wst)])
  refine own_go (fun _ k => XS.iadd X58.here hx rfl (hb hby own_d4_167) rfl k) ?_
  show own_Go _ _ _ _ T58 (mkF m 168 #[.val (.ref a_1), .val (.int p_2), .val (.ref a_3), .val (.int bs), .val (.int (1 : Int32)), .val (.int (1 : Int32)), .val (.int y0)] [(.int (bs + (1 : Int32))), (.int (1 : Int32)), (.ref wst)])
  have f61 : own_AV Z h53 wst .int (65 : Int32) gs := ((f34.keep Kq45 (ninS (own_ne (by omega)) nin0)).other W53 (own_ne (by omega)))
  obtain ⟨q62, c62, R62, s62, t62⟩ := id f61
  have hin62 : ¬ ((1 : Int32) < 0 ∨ c62.slots.size ≤ ((1 : Int32)).toNatClampNeg) := inb_of s62 ⟨by decide, by decide⟩
  obtain ⟨T63, h63, X63, e63, W63, st63⟩ := stI X58 hx hZ e58 R62 (j := (1 : Int32)) hin62 (g := (mkF m 168 #[.val (.ref a_1), .val (.int p_2), .val (.ref a_3), .val (.int bs), .val (.int (1 : Int32)), .val (.int (1 : Int32)), .val (.int y0)] [(.int (bs + (1 : Int32))), (.int (1 : Int32)), (.ref wst)])) rfl rfl (hb hby own_d4_168)
  have V63 : own_AV Z h63 wst .int (65 : Int32) (own_upd gs 1 (.int (bs + (1 : Int32)))) := own_AV.set (k := 1) f61 W63 (by decide)
  have z64 := W63.size
  have K63 : Keep h0 h63 [a_1, wh, wst, wb] := K53.wr W63 (Or.inl (List.mem_of_getElem? (i := 2) rfl))
  have N63 := Fr.snoc X63 N53 (by omega : n0 ≤ wst)
  refine own_go (fun _ k => st63 _ k) ?_
  show own_Go _ _ _ _ T63 (mkF m 169 #[.val (.ref a_1), .val (.int p_2), .val (.ref a_3), .val (.int bs), .val (.int (1 : Int32)), .val (.int (1 : Int32)), .val (.int y0)] [])
  refine own_go (fun _ k => XS.aloadN X63.here hx rfl (hb hby own_d4_169) rfl rfl k) ?_
  show own_Go _ _ _ _ T63 (mkF m 170 #[.val (.ref a_1), .val (.int p_2), .val (.ref a_3), .val (.int bs), .val (.int (1 : Int32)), .val (.int (1 : Int32)), .val (.int y0)] [(.ref a_1)])
  refine own_go (fun _ k => XS.dup X63.here hx rfl (hb hby own_d4_170) rfl rfl k) ?_
  show own_Go _ _ _ _ T63 (mkF m 171 #[.val (.ref a_1), .val (.int p_2), .val (.ref a_3), .val (.int bs), .val (.int (1 : Int32)), .val (.int (1 : Int32)), .val (.int y0)] [(.ref a_1), (.ref a_1)])
  have f65 : Fld Z h63 a_1 "com/example/kalchas/kalchas/propositional/HornClauses" "clauseCount" "I" (.int (0 : Int32)) := (f57.other W63 (Or.inl (own_ne (by omega))))
  obtain ⟨T66, X66, e66, st66⟩ := getF X63 hx hZ hown (host := "") (Or.inl (hw _ (List.mem_of_getElem? (i := 47) rfl))) Via.refl e63 f65 (g := (mkF m 171 #[.val (.ref a_1), .val (.int p_2), .val (.ref a_3), .val (.int bs), .val (.int (1 : Int32)), .val (.int (1 : Int32)), .val (.int y0)] [(.ref a_1), (.ref a_1)])) rfl rfl (hb hby own_d4_171)
  refine own_go (fun _ k => st66 _ k) ?_
  show own_Go _ _ _ _ T66 (mkF m 174 #[.val (.ref a_1), .val (.int p_2), .val (.ref a_3), .val (.int bs), .val (.int (1 : Int32)), .val (.int (1 : Int32)), .val (.int y0)] [(.int (0 : Int32)), (.ref a_1)])
  refine own_go (fun _ k => XS.iconst X66.here hx rfl (hb hby own_d4_174) k) ?_
  show own_Go _ _ _ _ T66 (mkF m 175 #[.val (.ref a_1), .val (.int p_2), .val (.ref a_3), .val (.int bs), .val (.int (1 : Int32)), .val (.int (1 : Int32)), .val (.int y0)] [(.int (1 : Int32)), (.int (0 : Int32)), (.ref a_1)])
  refine own_go (fun _ k => XS.iadd X66.here hx rfl (hb hby own_d4_175) rfl k) ?_
  show own_Go _ _ _ _ T66 (mkF m 176 #[.val (.ref a_1), .val (.int p_2), .val (.ref a_3), .val (.int bs), .val (.int (1 : Int32)), .val (.int (1 : Int32)), .val (.int y0)] [(.int (1 : Int32)), (.ref a_1)])
  have f67 : Exa Z h63 a_1 "com/example/kalchas/kalchas/propositional/HornClauses" := ((((f21.keep K20q).keep Kq45).wr W53).wr W63)
  obtain ⟨T68, h68, X68, e68, W68, st68⟩ := putF X66 hx hZ hown (host := "") (Or.inl (hw _ (List.mem_of_getElem? (i := 47) rfl))) Via.refl e66 f65 f67 (Or.inl (hw _ (List.mem_of_getElem? (i := 48) rfl))) (hw _ (List.mem_of_getElem? (i := 3) rfl)) (ty := .int) (by decide) rfl rfl (g := (mkF m 176 #[.val (.ref a_1), .val (.int p_2), .val (.ref a_3), .val (.int bs), .val (.int (1 : Int32)), .val (.int (1 : Int32)), .val (.int y0)] [(.int (1 : Int32)), (.ref a_1)])) rfl rfl (hb hby own_d4_176)
  have z69 := W68.size
  have K68 : Keep h0 h68 [a_1, wh, wst, wb] := K63.wr W68 (Or.inl (List.mem_of_getElem? (i := 0) rfl))
  have N68 := Fr.snoc X68 N63 (by omega : n0 ≤ a_1)
  have Fw68 : Fld Z h68 a_1 "com/example/kalchas/kalchas/propositional/HornClauses" "clauseCount" "I" (.int (1 : Int32)) := Fld.same W68 f65
  refine own_go (fun _ k => st68 _ k) ?_
  show own_Go _ _ _ _ T68 (mkF m 179 #[.val (.ref a_1), .val (.int p_2), .val (.ref a_3), .val (.int bs), .val (.int (1 : Int32)), .val (.int (1 : Int32)), .val (.int y0)] [])
  refine own_go (fun _ k => XS.aloadN X68.here hx rfl (hb hby own_d4_179) rfl rfl k) ?_
  show own_Go _ _ _ _ T68 (mkF m 180 #[.val (.ref a_1), .val (.int p_2), .val (.ref a_3), .val (.int bs), .val (.int (1 : Int32)), .val (.int (1 : Int32)), .val (.int y0)] [(.ref a_1)])
  refine own_go (fun _ k => XS.aconstNull X68.here hx rfl (hb hby own_d4_180) k) ?_
  show own_Go _ _ _ _ T68 (mkF m 181 #[.val (.ref a_1), .val (.int p_2), .val (.ref a_3), .val (.int bs), .val (.int (1 : Int32)), .val (.int (1 : Int32)), .val (.int y0)] [.null, (.ref a_1)])
  have f70 : Exa Z h68 a_1 "com/example/kalchas/kalchas/propositional/HornClauses" := (f67.wr W68)
  have f71 : Fld Z h68 a_1 "com/example/kalchas/kalchas/propositional/HornClauses" "occurrences" "[I" w_occ := ((((((pr_F_a_1_occurrences.keep K13q nin0).keep K20q nin0).keep Kq45 (ninS (own_ne (by omega)) nin0)).other W53 (Or.inl (own_ne (by omega)))).other W63 (Or.inl (own_ne (by omega)))).other W68 (Or.inr (slot_ne (Or.inl (hw _ (List.mem_of_getElem? (i := 23) rfl))) (Or.inl (hw _ (List.mem_of_getElem? (i := 48) rfl))) (by decide) (t := (.array .int)) (t' := .int) (by decide) (by decide))))
  obtain ⟨T72, h72, X72, e72, W72, st72⟩ := putF X68 hx hZ hown (host := "") (Or.inl (hw _ (List.mem_of_getElem? (i := 22) rfl))) Via.refl e68 f71 f70 (Or.inl (hw _ (List.mem_of_getElem? (i := 23) rfl))) (hw _ (List.mem_of_getElem? (i := 3) rfl)) (ty := (.array .int)) (by decide) rfl rfl (g := (mkF m 181 #[.val (.ref a_1), .val (.int p_2), .val (.ref a_3), .val (.int bs), .val (.int (1 : Int32)), .val (.int (1 : Int32)), .val (.int y0)] [.null, (.ref a_1)])) rfl rfl (hb hby own_d4_181)
  have z73 := W72.size
  have K72 : Keep h0 h72 [a_1, wh, wst, wb] := K68.wr W72 (Or.inl (List.mem_of_getElem? (i := 0) rfl))
  have N72 := Fr.snoc X72 N68 (by omega : n0 ≤ a_1)
  have Fw72 : Fld Z h72 a_1 "com/example/kalchas/kalchas/propositional/HornClauses" "occurrences" "[I" .null := Fld.same W72 f71
  refine own_go (fun _ k => st72 _ k) ?_
  show own_Go _ _ _ _ T72 (mkF m 184 #[.val (.ref a_1), .val (.int p_2), .val (.ref a_3), .val (.int bs), .val (.int (1 : Int32)), .val (.int (1 : Int32)), .val (.int y0)] [])
  obtain ⟨fs, hr, hrun, hended, hRW⟩ := X72.leaveW hS20 (by rw [e72]; omega) (v := none) (fun _ => rfl)
  refine ⟨_, _, X72.returnOut hx Bd.returns (hb hby own_d4_184) hr, hrun, hended, _, _, rfl, ?_, own_monoW hRW (by rw [y20]; decide) (by rw [z20]; decide)⟩
  show own_Q4_01 Z a_1 p_2 a_3 wh wst wb gh gs gb bs w_occ y0 h0 n0 _ T72.heap _
  rw [e72]
  have f75 : Exa Z h72 a_1 "com/example/kalchas/kalchas/propositional/HornClauses" := (f70.wr W72)
  have f76 : Fld Z h72 a_1 "com/example/kalchas/kalchas/propositional/HornClauses" "variableCount" "I" (.int (3 : Int32)) := ((((((f19.keep K20q nin0).keep Kq45 (ninS (own_ne (by omega)) nin0)).other W53 (Or.inl (own_ne (by omega)))).other W63 (Or.inl (own_ne (by omega)))).other W68 (Or.inr (slot_ne (Or.inl (hw _ (List.mem_of_getElem? (i := 25) rfl))) (Or.inl (hw _ (List.mem_of_getElem? (i := 48) rfl))) (by decide) (t := .int) (t' := .int) (by decide) (by decide)))).other W72 (Or.inr (slot_ne (Or.inl (hw _ (List.mem_of_getElem? (i := 25) rfl))) (Or.inl (hw _ (List.mem_of_getElem? (i := 23) rfl))) (by decide) (t := .int) (t' := (.array .int)) (by decide) (by decide))))
  have f77 : Fld Z h72 a_1 "com/example/kalchas/kalchas/propositional/HornClauses" "clauseCount" "I" (.int (1 : Int32)) := (Fw68.other W72 (Or.inr (slot_ne (Or.inl (hw _ (List.mem_of_getElem? (i := 48) rfl))) (Or.inl (hw _ (List.mem_of_getElem? (i := 23) rfl))) (by decide) (t := .int) (t' := (.array .int)) (by decide) (by decide))))
  have f78 : Fld Z h72 a_1 "com/example/kalchas/kalchas/propositional/HornClauses" "heads" "[I" (.ref wh) := ((((f47.other W53 (Or.inl (own_ne (by omega)))).other W63 (Or.inl (own_ne (by omega)))).other W68 (Or.inr (slot_ne (Or.inl (hw _ (List.mem_of_getElem? (i := 12) rfl))) (Or.inl (hw _ (List.mem_of_getElem? (i := 48) rfl))) (by decide) (t := (.array .int)) (t' := .int) (by decide) (by decide)))).other W72 (Or.inr (slot_ne (Or.inl (hw _ (List.mem_of_getElem? (i := 12) rfl))) (Or.inl (hw _ (List.mem_of_getElem? (i := 23) rfl))) (by decide) (t := (.array .int)) (t' := (.array .int)) (by decide) (by decide))))
  have f79 : Fld Z h72 a_1 "com/example/kalchas/kalchas/propositional/HornClauses" "bodyStarts" "[I" (.ref wst) := (((f55.other W63 (Or.inl (own_ne (by omega)))).other W68 (Or.inr (slot_ne (Or.inl (hw _ (List.mem_of_getElem? (i := 14) rfl))) (Or.inl (hw _ (List.mem_of_getElem? (i := 48) rfl))) (by decide) (t := (.array .int)) (t' := .int) (by decide) (by decide)))).other W72 (Or.inr (slot_ne (Or.inl (hw _ (List.mem_of_getElem? (i := 14) rfl))) (Or.inl (hw _ (List.mem_of_getElem? (i := 23) rfl))) (by decide) (t := (.array .int)) (t' := (.array .int)) (by decide) (by decide))))
  have f80 : Fld Z h72 a_1 "com/example/kalchas/kalchas/propositional/HornClauses" "bodies" "[I" (.ref wb) := (((((f38.keep Kq45 (ninS (own_ne (by omega)) nin0)).other W53 (Or.inl (own_ne (by omega)))).other W63 (Or.inl (own_ne (by omega)))).other W68 (Or.inr (slot_ne (Or.inl (hw _ (List.mem_of_getElem? (i := 16) rfl))) (Or.inl (hw _ (List.mem_of_getElem? (i := 48) rfl))) (by decide) (t := (.array .int)) (t' := .int) (by decide) (by decide)))).other W72 (Or.inr (slot_ne (Or.inl (hw _ (List.mem_of_getElem? (i := 16) rfl))) (Or.inl (hw _ (List.mem_of_getElem? (i := 23) rfl))) (by decide) (t := (.array .int)) (t' := (.array .int)) (by decide) (by decide))))
  have f81 : own_AV Z h72 wh .int (64 : Int32) (own_upd gh 0 (.int p_2)) := (((V53.other W63 (own_ne (by omega))).other W68 (own_ne (by omega))).other W72 (own_ne (by omega)))
  have f82 : own_AV Z h72 wst .int (65 : Int32) (own_upd gs 1 (.int (bs + (1 : Int32)))) := ((V63.other W68 (own_ne (by omega))).other W72 (own_ne (by omega)))
  have f83 : own_AV Z h72 wb .int (64 : Int32) (own_cpf (own_upd (fun _ => (.int (0 : Int32))) 0 (.int y0)) ((0 : Int32)).toNatClampNeg gb (bs).toNatClampNeg ((1 : Int32)).toNatClampNeg) := ((((V45.other W53 (own_ne (by omega))).other W63 (own_ne (by omega))).other W68 (own_ne (by omega))).other W72 (own_ne (by omega)))
  exact ⟨(own_cpf (own_upd (fun _ => (.int (0 : Int32))) 0 (.int y0)) ((0 : Int32)).toNatClampNeg gb (bs).toNatClampNeg ((1 : Int32)).toNatClampNeg), rfl, N72, K72, f75, f76, f77, f78, f79, f80, Fw72, f81, f82, f83, (own_cpff (own_updf (fun _ => rfl) rfl) hfb)⟩
theorem own_ef_own_rm4_10 (m : MethodId) (x0 : Addr) (x1 : Int32) (x2 : Addr) : entryFrame m #[(.ref x0), (.int x1), (.ref x2)] 7 = mkF m 0 #[.val (.ref x0), .val (.int x1), .val (.ref x2), .unset, .unset, .unset, .unset] [] := by first | (simp [entryFrame, mkF, argsToLocals, Value.category]; done) | rfl
set_option maxRecDepth 65536 in
set_option maxHeartbeats 4000000 in
theorem own_t4_10_0 (bs : Int32) (hbs : 0 ≤ bs.toInt ∧ bs.toInt ≤ 10) : ¬ ((64 : Int32) < (bs + (0 : Int32))) := by
  have el0 : (0 : Int32).toInt = 0 := by decide
  have el1 : (64 : Int32).toInt = 64 := by decide
  have rv_bs := rng32 bs
  have fa3 := c_iadd bs (0 : Int32)
  have fa4 := rng32 (bs + (0 : Int32))
  have own0 : (0 : Int32).toInt = 0 := by decide
  simp only [← Int32.toInt_inj, Int32.lt_iff_toInt_lt, implies_true, and_true, true_and, own0, el0, el1] at *
  omega
set_option maxRecDepth 65536 in
set_option maxHeartbeats 4000000 in
theorem own_t4_10_1 (bs : Int32) (hbs : 0 ≤ bs.toInt ∧ bs.toInt ≤ 10) (hc35 : ¬ ((64 : Int32) < (bs + (0 : Int32)))) : 0 ≤ bs.toInt ∧ bs.toInt ≤ 64 := by
  have el0 : (0 : Int32).toInt = 0 := by decide
  have el1 : (64 : Int32).toInt = 64 := by decide
  have rv_bs := rng32 bs
  have fa3 := c_iadd bs (0 : Int32)
  have fa4 := rng32 (bs + (0 : Int32))
  have own0 : (0 : Int32).toInt = 0 := by decide
  simp only [← Int32.toInt_inj, Int32.lt_iff_toInt_lt, implies_true, and_true, true_and, own0, el0, el1] at *
  omega
set_option maxRecDepth 65536 in
set_option maxHeartbeats 4000000 in
theorem own_t4_10_2 (bs : Int32) (hbs : 0 ≤ bs.toInt ∧ bs.toInt ≤ 10) (hc35 : ¬ ((64 : Int32) < (bs + (0 : Int32)))) : ¬ bs < 0 := by
  have el0 : (0 : Int32).toInt = 0 := by decide
  have el1 : (64 : Int32).toInt = 64 := by decide
  have rv_bs := rng32 bs
  have fa3 := c_iadd bs (0 : Int32)
  have fa4 := rng32 (bs + (0 : Int32))
  have own0 : (0 : Int32).toInt = 0 := by decide
  simp only [← Int32.toInt_inj, Int32.lt_iff_toInt_lt, implies_true, and_true, true_and, own0, el0, el1] at *
  omega
def own_Q4_10 (Z : State) (a_1 : Addr) (p_2 : Int32) (a_3 : Addr) (wh : Addr) (wst : Addr) (wb : Addr) (gh : Nat → Value) (gs : Nat → Value) (gb : Nat → Value) (bs : Int32) (w_occ : Value) (h0 : Heap) (n0 : Nat) (v : Option Value) (h : Heap) (L : List Loc) : Prop := ∃ (gb_ : Nat → Value), v = none ∧ Fr n0 L ∧ Keep h0 h [a_1, wh, wst, wb] ∧ Exa Z h a_1 "com/example/kalchas/kalchas/propositional/HornClauses" ∧ Fld Z h a_1 "com/example/kalchas/kalchas/propositional/HornClauses" "variableCount" "I" (.int (3 : Int32)) ∧ Fld Z h a_1 "com/example/kalchas/kalchas/propositional/HornClauses" "clauseCount" "I" (.int (2 : Int32)) ∧ Fld Z h a_1 "com/example/kalchas/kalchas/propositional/HornClauses" "heads" "[I" (.ref wh) ∧ Fld Z h a_1 "com/example/kalchas/kalchas/propositional/HornClauses" "bodyStarts" "[I" (.ref wst) ∧ Fld Z h a_1 "com/example/kalchas/kalchas/propositional/HornClauses" "bodies" "[I" (.ref wb) ∧ Fld Z h a_1 "com/example/kalchas/kalchas/propositional/HornClauses" "occurrences" "[I" .null ∧ own_AV Z h wh .int (64 : Int32) (own_upd gh 1 (.int p_2)) ∧ own_AV Z h wst .int (65 : Int32) (own_upd gs 2 (.int (bs + (0 : Int32)))) ∧ own_AV Z h wb .int (64 : Int32) gb_ ∧ (∀ i, fits .int (gb_ i) = true)
set_option maxRecDepth 65536 in
set_option maxHeartbeats 40000000 in
theorem own_rm4_10 (l : Launch) (Z : State) (a0 : Array Value) (hw : ∀ d ∈ tables_1, d.before a0 Z = true) (ws : List Jvm.Cond) (a_1 : Addr) (p_2 : Int32) (a_3 : Addr) (wh : Addr) (wst : Addr) (wb : Addr) (gh : Nat → Value) (gs : Nat → Value) (gb : Nat → Value) (bs : Int32) (w_occ : Value) (h0 : Heap) (n0 : Nat) (Z0 : n0 ≤ h0.size) (pr_E_a_1 : Exa Z h0 a_1 "com/example/kalchas/kalchas/propositional/HornClauses") (pr_F_a_1_variableCount : Fld Z h0 a_1 "com/example/kalchas/kalchas/propositional/HornClauses" "variableCount" "I" (.int (3 : Int32))) (pr_F_a_1_clauseCount : Fld Z h0 a_1 "com/example/kalchas/kalchas/propositional/HornClauses" "clauseCount" "I" (.int (1 : Int32))) (pr_F_a_1_heads : Fld Z h0 a_1 "com/example/kalchas/kalchas/propositional/HornClauses" "heads" "[I" (.ref wh)) (pr_F_a_1_bodyStarts : Fld Z h0 a_1 "com/example/kalchas/kalchas/propositional/HornClauses" "bodyStarts" "[I" (.ref wst)) (pr_F_a_1_bodies : Fld Z h0 a_1 "com/example/kalchas/kalchas/propositional/HornClauses" "bodies" "[I" (.ref wb)) (pr_F_a_1_occurrences : Fld Z h0 a_1 "com/example/kalchas/kalchas/propositional/HornClauses" "occurrences" "[I" w_occ) (pr_A_wh : own_AV Z h0 wh .int (64 : Int32) gh) (pr_A_wst : own_AV Z h0 wst .int (65 : Int32) gs) (pr_A_wb : own_AV Z h0 wb .int (64 : Int32) gb) (pr_A_a_3 : own_AV Z h0 a_3 .int (0 : Int32) (fun _ => (.int (0 : Int32)))) (hord : own_lts [a_3, a_1, wh, wst, wb]) (hgs : gs 1 = .int bs) (hbs : 0 ≤ bs.toInt ∧ bs.toInt ≤ 10) (hfb : ∀ i, fits .int (gb i) = true) (hp1 : ¬ (p_2 < 0)) (hp2 : p_2 < (3 : Int32)) (gw_a_1 : n0 ≤ a_1) (gw_wh : n0 ≤ wh) (gw_wst : n0 ≤ wst) (gw_wb : n0 ≤ wb) :
    MetFree l (⟨"com/example/kalchas/kalchas/propositional/HornClauses", "add", "(I[I)V"⟩ : MethodName) (head1 (Jvm.Cond.code (⟨"com/example/kalchas/kalchas/propositional/HornClauses", "add", "(I[I)V"⟩ : MethodName) prog_6_method_4_code 7 none :: ws) ({ frames := 2, cells := 2, slots := 36, locals := 40 } : Room)) (fun a U => a = #[(.ref a_1), (.int p_2), (.ref a_3)] ∧ Z.Warmed39 U.vm ∧ U.heap = h0) (fun _ _ _ _ _ => True) (fun _ U o U' => ∃ v L, o = .returned v ∧ own_Q4_10 Z a_1 p_2 a_3 wh wst wb gh gs gb bs w_occ h0 n0 v U'.heap L ∧ ReturnedEndW U o U' L ({ frames := 2, cells := 2, slots := 36, locals := 40 } : Room).cells ({ frames := 2, cells := 2, slots := 36, locals := 40 } : Room).slots) := by
  refine MetFree.of_bodySF (plainFor_of_name own_pn0) hisR ?_
  intro p e s m args below meth c s₁ Bd hml0 hP hK
  obtain ⟨rfl, hZ, hh⟩ := hP
  have hx := Bd.exec
  have hby := Bd.bytes
  have hml : c.maxLocals = 7 := hml0
  have hown : s.vm.findClass "com/example/kalchas/kalchas/propositional/HornClauses" = some m.cls := findClass_of_methodNamed Bd.named
  have hnm := (name_of_methodNamed Bd.named Bd.method).1
  have X0 : Stand p l e ({ frames := 2, cells := 2, slots := 36, locals := 40 } : Room) s m #[(.ref a_1), (.int p_2), (.ref a_3)] below meth c s₁ [] 0 0 := Stand.of_body Bd
  have e0 : s₁.heap = h0 := by rw [← hh, Bd.state]; rfl
  have N0 := Fr.nil n0
  have X0 : Stand p l e ({ frames := 2, cells := 2, slots := 36, locals := 40 } : Room) (s.setVm s.vm) m #[(.ref a_1), (.int p_2), (.ref a_3)] below meth c s₁ [] 0 0 := X0
  have hZ : Z.Warmed39 (s.setVm s.vm).vm := hZ
  have hown : (s.setVm s.vm).vm.findClass "com/example/kalchas/kalchas/propositional/HornClauses" = some m.cls := hown
  have hS0 : s.Since s.vm 0 := (State.WarmedH.refl s).since 0
  have z0 : n0 ≤ h0.size := Z0
  have z1 := own_lt pr_E_a_1.lt
  have z2 := own_lt pr_F_a_1_variableCount.lt
  have z3 := own_lt pr_F_a_1_clauseCount.lt
  have z4 := own_lt pr_F_a_1_heads.lt
  have z5 := own_lt pr_F_a_1_bodyStarts.lt
  have z6 := own_lt pr_F_a_1_bodies.lt
  have z7 := own_lt pr_F_a_1_occurrences.lt
  have z8 := own_lt pr_A_wh.lt
  have z9 := own_lt pr_A_wst.lt
  have z10 := own_lt pr_A_wb.lt
  have z11 := own_lt pr_A_a_3.lt
  have ho12 := hord
  simp only [own_lts, and_true] at ho12
  have K0 : Keep h0 h0 [a_1, wh, wst, wb] := Keep.refl h0 _
  show own_Go p.tables e below (fun t o => t.status = .running ∧ Ended t below o ∧ ∃ v L, o = .returned v ∧ own_Q4_10 Z a_1 p_2 a_3 wh wst wb gh gs gb bs w_occ h0 n0 v t.heap L ∧ ReturnedEndW s o t L ({ frames := 2, cells := 2, slots := 36, locals := 40 } : Room).cells ({ frames := 2, cells := 2, slots := 36, locals := 40 } : Room).slots) s₁ (entryFrame m #[(.ref a_1), (.int p_2), (.ref a_3)] 7)
  rw [own_ef_own_rm4_10 m a_1 p_2 a_3]
  show own_Go _ _ _ _ s₁ (mkF m 0 #[.val (.ref a_1), .val (.int p_2), .val (.ref a_3), .unset, .unset, .unset, .unset] [])
  refine own_go (fun _ k => XS.aloadN X0.here hx rfl (hb hby own_d4_0) rfl rfl k) ?_
  show own_Go _ _ _ _ s₁ (mkF m 1 #[.val (.ref a_1), .val (.int p_2), .val (.ref a_3), .unset, .unset, .unset, .unset] [(.ref a_1)])
  refine own_go (fun _ k => XS.iloadN X0.here hx rfl (hb hby own_d4_1) rfl k) ?_
  show own_Go _ _ _ _ s₁ (mkF m 2 #[.val (.ref a_1), .val (.int p_2), .val (.ref a_3), .unset, .unset, .unset, .unset] [(.int p_2), (.ref a_1)])
  obtain ⟨cq13, kq13, q13a, q13b, q13c⟩ := isOf hZ e0 pr_E_a_1
  obtain ⟨_, _, ⟨T13, L13, k13, n13⟩, -, X13, hS13, gr13, ⟨Lc13, hQ13, l13, y13, z13⟩, st13⟩ := X0.virtualBackS hx (y := (⟨"com/example/kalchas/kalchas/propositional/HornClauses", "checkVariable", "(I)V"⟩ : MethodName)) (z := (⟨"com/example/kalchas/kalchas/propositional/HornClauses", "checkVariable", "(I)V"⟩ : MethodName)) hown (mvT hZ (hw _ (List.mem_of_getElem? (i := 31) rfl))) (mvT hZ (hw _ (List.mem_of_getElem? (i := 32) rfl))) (notFace_of_selects (args := #[]) (mvT hZ (hw _ (List.mem_of_getElem? (i := 34) rfl)))) (mvT hZ (hw _ (List.mem_of_getElem? (i := 34) rfl))) (mvT hZ (hw _ (List.mem_of_getElem? (i := 33) rfl))) (by decide) (backOfS (W := 0) (own_rm5 l Z a0 hw [] a_1 p_2 (3 : Int32) h0 n0 (by omega) (show ¬ (p_2 < 0) by first | assumption | omega | decide) (show p_2 < (3 : Int32) by first | assumption | omega | decide) pr_F_a_1_variableCount) hZ (hw _ (List.mem_of_getElem? (i := 35) rfl)) (hw _ (List.mem_of_getElem? (i := 4) rfl)) (by decide) (by decide)) q13a q13c (g := (mkF m 2 #[.val (.ref a_1), .val (.int p_2), .val (.ref a_3), .unset, .unset, .unset, .unset] [(.int p_2), (.ref a_1)])) rfl (by rw [hml]; rfl) (Steps.refl _) (argsL := [(.int p_2)]) (rest := []) (lenOf own_pd1 rfl) rfl (by show 2 * 0 + _ ≤ _; exact Nat.le_of_eq rfl) (hb hby own_d4_2) (fun _ _ => ⟨rfl, e0, (by decide : 0 + 2 ≤ _), (by decide : 0 + 36 ≤ _)⟩)
  dsimp only [Pt.U, Pt.locs, Pt.cells, Pt.slots] at X13 l13 y13 z13 st13 hQ13 hS13 gr13
  have y13 : k13 = 2 := y13
  have z13 : n13 = 36 := z13
  have Wn13 := hS13.1
  obtain ⟨X13, hS13, hZ, hown⟩ := rebS hS0 (n1 := s₁.heap.size) (by rw [e0]; omega) X13 hS13 gr13 hZ hown
  obtain ⟨rfl, N13q, K13q⟩ := hQ13
  have N13 : Fr n0 L13 := by rw [l13]; exact Fr.app N0 N13q
  have z14 := K13q.1
  have K13 : Keep h0 T13.heap [a_1, wh, wst, wb] := K0.trans K13q all0
  refine own_go (fun _ k => st13.trans k) ?_
  show own_Go _ _ _ _ T13 (mkF m 5 #[.val (.ref a_1), .val (.int p_2), .val (.ref a_3), .unset, .unset, .unset, .unset] [])
  refine own_go (fun _ k => XS.aloadN X13.here hx rfl (hb hby own_d4_5) rfl rfl k) ?_
  show own_Go _ _ _ _ T13 (mkF m 6 #[.val (.ref a_1), .val (.int p_2), .val (.ref a_3), .unset, .unset, .unset, .unset] [(.ref a_3)])
  refine own_go (fun _ k => XS.astoreN X13.here hx rfl (hb hby own_d4_6) rfl rfl (l' := #[.val (.ref a_1), .val (.int p_2), .val (.ref a_3), .val (.ref a_3), .unset, .unset, .unset]) rfl k) ?_
  show own_Go _ _ _ _ T13 (mkF m 7 #[.val (.ref a_1), .val (.int p_2), .val (.ref a_3), .val (.ref a_3), .unset, .unset, .unset] [])
  refine own_go (fun _ k => XS.aloadN X13.here hx rfl (hb hby own_d4_7) rfl rfl k) ?_
  show own_Go _ _ _ _ T13 (mkF m 8 #[.val (.ref a_1), .val (.int p_2), .val (.ref a_3), .val (.ref a_3), .unset, .unset, .unset] [(.ref a_3)])
  have f15 : own_AV Z T13.heap a_3 .int (0 : Int32) (fun _ => (.int (0 : Int32))) := (pr_A_a_3.keep K13q nin0)
  obtain ⟨q16, c16, R16, s16, t16⟩ := id f15
  refine own_go (fun _ k => X13.arraylength hx R16.1 (State.isArrayOf_alike hZ.alike R16.2.1) (g := (mkF m 8 #[.val (.ref a_1), .val (.int p_2), .val (.ref a_3), .val (.ref a_3), .unset, .unset, .unset] [(.ref a_3)])) rfl rfl (hb hby own_d4_8) _ k) ?_
  rw [len_of s16 q16]
  show own_Go _ _ _ _ T13 (mkF m 9 #[.val (.ref a_1), .val (.int p_2), .val (.ref a_3), .val (.ref a_3), .unset, .unset, .unset] [(.int (0 : Int32))])
  refine own_go (fun _ k => XS.istore X13.here hx rfl (hb hby own_d4_9) rfl (l' := #[.val (.ref a_1), .val (.int p_2), .val (.ref a_3), .val (.ref a_3), .val (.int (0 : Int32)), .unset, .unset]) rfl k) ?_
  show own_Go _ _ _ _ T13 (mkF m 11 #[.val (.ref a_1), .val (.int p_2), .val (.ref a_3), .val (.ref a_3), .val (.int (0 : Int32)), .unset, .unset] [])
  refine own_go (fun _ k => XS.iconst X13.here hx rfl (hb hby own_d4_11) k) ?_
  show own_Go _ _ _ _ T13 (mkF m 12 #[.val (.ref a_1), .val (.int p_2), .val (.ref a_3), .val (.ref a_3), .val (.int (0 : Int32)), .unset, .unset] [(.int (0 : Int32))])
  refine own_go (fun _ k => XS.istore X13.here hx rfl (hb hby own_d4_12) rfl (l' := #[.val (.ref a_1), .val (.int p_2), .val (.ref a_3), .val (.ref a_3), .val (.int (0 : Int32)), .val (.int (0 : Int32)), .unset]) rfl k) ?_
  show own_Go _ _ _ _ T13 (mkF m 14 #[.val (.ref a_1), .val (.int p_2), .val (.ref a_3), .val (.ref a_3), .val (.int (0 : Int32)), .val (.int (0 : Int32)), .unset] [])
  refine own_go (fun _ k => XS.iload X13.here hx rfl (hb hby own_d4_14) rfl k) ?_
  show own_Go _ _ _ _ T13 (mkF m 16 #[.val (.ref a_1), .val (.int p_2), .val (.ref a_3), .val (.ref a_3), .val (.int (0 : Int32)), .val (.int (0 : Int32)), .unset] [(.int (0 : Int32))])
  refine own_go (fun _ k => XS.iload X13.here hx rfl (hb hby own_d4_16) rfl k) ?_
  show own_Go _ _ _ _ T13 (mkF m 18 #[.val (.ref a_1), .val (.int p_2), .val (.ref a_3), .val (.ref a_3), .val (.int (0 : Int32)), .val (.int (0 : Int32)), .unset] [(.int (0 : Int32)), (.int (0 : Int32))])
  have hc17 : ¬ ((0 : Int32) < (0 : Int32)) := by decide
  refine own_go (fun _ k => XS.icmpYes X13.here hx rfl (pc0 := 18) (pc' := 39) rfl (hb hby own_d4_18) rfl (Jvm.Free.XT.ii_ge_t hc17) (by decide) (by decide) k) ?_
  show own_Go _ _ _ _ T13 (mkF m 39 #[.val (.ref a_1), .val (.int p_2), .val (.ref a_3), .val (.ref a_3), .val (.int (0 : Int32)), .val (.int (0 : Int32)), .unset] [])
  refine own_go (fun _ k => XS.aloadN X13.here hx rfl (hb hby own_d4_39) rfl rfl k) ?_
  show own_Go _ _ _ _ T13 (mkF m 40 #[.val (.ref a_1), .val (.int p_2), .val (.ref a_3), .val (.ref a_3), .val (.int (0 : Int32)), .val (.int (0 : Int32)), .unset] [(.ref a_1)])
  have f18 : Fld Z T13.heap a_1 "com/example/kalchas/kalchas/propositional/HornClauses" "clauseCount" "I" (.int (1 : Int32)) := (pr_F_a_1_clauseCount.keep K13q nin0)
  obtain ⟨T19, X19, e19, st19⟩ := getF X13 hx hZ hown (host := "") (Or.inl (hw _ (List.mem_of_getElem? (i := 47) rfl))) Via.refl rfl f18 (g := (mkF m 40 #[.val (.ref a_1), .val (.int p_2), .val (.ref a_3), .val (.ref a_3), .val (.int (0 : Int32)), .val (.int (0 : Int32)), .unset] [(.ref a_1)])) rfl rfl (hb hby own_d4_40)
  refine own_go (fun _ k => st19 _ k) ?_
  show own_Go _ _ _ _ T19 (mkF m 43 #[.val (.ref a_1), .val (.int p_2), .val (.ref a_3), .val (.ref a_3), .val (.int (0 : Int32)), .val (.int (0 : Int32)), .unset] [(.int (1 : Int32))])
  refine own_go (fun _ k => XS.aloadN X19.here hx rfl (hb hby own_d4_43) rfl rfl k) ?_
  show own_Go _ _ _ _ T19 (mkF m 44 #[.val (.ref a_1), .val (.int p_2), .val (.ref a_3), .val (.ref a_3), .val (.int (0 : Int32)), .val (.int (0 : Int32)), .unset] [(.ref a_1), (.int (1 : Int32))])
  have f20 : Fld Z T13.heap a_1 "com/example/kalchas/kalchas/propositional/HornClauses" "heads" "[I" (.ref wh) := (pr_F_a_1_heads.keep K13q nin0)
  obtain ⟨T21, X21, e21, st21⟩ := getF X19 hx hZ hown (host := "") (Or.inl (hw _ (List.mem_of_getElem? (i := 11) rfl))) Via.refl e19 f20 (g := (mkF m 44 #[.val (.ref a_1), .val (.int p_2), .val (.ref a_3), .val (.ref a_3), .val (.int (0 : Int32)), .val (.int (0 : Int32)), .unset] [(.ref a_1), (.int (1 : Int32))])) rfl rfl (hb hby own_d4_44)
  refine own_go (fun _ k => st21 _ k) ?_
  show own_Go _ _ _ _ T21 (mkF m 47 #[.val (.ref a_1), .val (.int p_2), .val (.ref a_3), .val (.ref a_3), .val (.int (0 : Int32)), .val (.int (0 : Int32)), .unset] [(.ref wh), (.int (1 : Int32))])
  have f22 : own_AV Z T13.heap wh .int (64 : Int32) gh := (pr_A_wh.keep K13q nin0)
  obtain ⟨q23, c23, R23, s23, t23⟩ := id f22
  refine own_go (fun _ k => X21.arraylength hx (by rw [e21]; exact R23.1) (State.isArrayOf_alike hZ.alike R23.2.1) (g := (mkF m 47 #[.val (.ref a_1), .val (.int p_2), .val (.ref a_3), .val (.ref a_3), .val (.int (0 : Int32)), .val (.int (0 : Int32)), .unset] [(.ref wh), (.int (1 : Int32))])) rfl rfl (hb hby own_d4_47) _ k) ?_
  rw [len_of s23 q23]
  show own_Go _ _ _ _ T21 (mkF m 48 #[.val (.ref a_1), .val (.int p_2), .val (.ref a_3), .val (.ref a_3), .val (.int (0 : Int32)), .val (.int (0 : Int32)), .unset] [(.int (64 : Int32)), (.int (1 : Int32))])
  have hc24 : ¬ ((1 : Int32) = (64 : Int32)) := by decide
  refine own_go (fun _ k => XS.icmpYes X21.here hx rfl (pc0 := 48) (pc' := 85) rfl (hb hby own_d4_48) rfl (Jvm.Free.XT.ii_ne_t hc24) (by decide) (by decide) k) ?_
  show own_Go _ _ _ _ T21 (mkF m 85 #[.val (.ref a_1), .val (.int p_2), .val (.ref a_3), .val (.ref a_3), .val (.int (0 : Int32)), .val (.int (0 : Int32)), .unset] [])
  refine own_go (fun _ k => XS.aloadN X21.here hx rfl (hb hby own_d4_85) rfl rfl k) ?_
  show own_Go _ _ _ _ T21 (mkF m 86 #[.val (.ref a_1), .val (.int p_2), .val (.ref a_3), .val (.ref a_3), .val (.int (0 : Int32)), .val (.int (0 : Int32)), .unset] [(.ref a_1)])
  have f25 : Fld Z T13.heap a_1 "com/example/kalchas/kalchas/propositional/HornClauses" "bodyStarts" "[I" (.ref wst) := (pr_F_a_1_bodyStarts.keep K13q nin0)
  obtain ⟨T26, X26, e26, st26⟩ := getF X21 hx hZ hown (host := "") (Or.inl (hw _ (List.mem_of_getElem? (i := 13) rfl))) Via.refl e21 f25 (g := (mkF m 86 #[.val (.ref a_1), .val (.int p_2), .val (.ref a_3), .val (.ref a_3), .val (.int (0 : Int32)), .val (.int (0 : Int32)), .unset] [(.ref a_1)])) rfl rfl (hb hby own_d4_86)
  refine own_go (fun _ k => st26 _ k) ?_
  show own_Go _ _ _ _ T26 (mkF m 89 #[.val (.ref a_1), .val (.int p_2), .val (.ref a_3), .val (.ref a_3), .val (.int (0 : Int32)), .val (.int (0 : Int32)), .unset] [(.ref wst)])
  refine own_go (fun _ k => XS.aloadN X26.here hx rfl (hb hby own_d4_89) rfl rfl k) ?_
  show own_Go _ _ _ _ T26 (mkF m 90 #[.val (.ref a_1), .val (.int p_2), .val (.ref a_3), .val (.ref a_3), .val (.int (0 : Int32)), .val (.int (0 : Int32)), .unset] [(.ref a_1), (.ref wst)])
  obtain ⟨T27, X27, e27, st27⟩ := getF X26 hx hZ hown (host := "") (Or.inl (hw _ (List.mem_of_getElem? (i := 47) rfl))) Via.refl e26 f18 (g := (mkF m 90 #[.val (.ref a_1), .val (.int p_2), .val (.ref a_3), .val (.ref a_3), .val (.int (0 : Int32)), .val (.int (0 : Int32)), .unset] [(.ref a_1), (.ref wst)])) rfl rfl (hb hby own_d4_90)
  refine own_go (fun _ k => st27 _ k) ?_
  show own_Go _ _ _ _ T27 (mkF m 93 #[.val (.ref a_1), .val (.int p_2), .val (.ref a_3), .val (.ref a_3), .val (.int (0 : Int32)), .val (.int (0 : Int32)), .unset] [(.int (1 : Int32)), (.ref wst)])
  have f28 : own_AV Z T13.heap wst .int (65 : Int32) gs := (pr_A_wst.keep K13q nin0)
  obtain ⟨q29, c29, R29, s29, t29⟩ := id f28
  have hin29 : ¬ ((1 : Int32) < 0 ∨ c29.slots.size ≤ ((1 : Int32)).toNatClampNeg) := inb_of s29 ⟨by decide, by decide⟩
  have u29 : c29.slots[((1 : Int32)).toNatClampNeg]? = some (.int bs) := own_at (k := 1) t29 s29 hin29 (by decide) (hgs)
  refine own_go (fun _ k => X27.iaload hx (j := (1 : Int32)) (v := (.int bs)) (by rw [e27]; exact R29.1) (State.isArrayOf_alike hZ.alike R29.2.1) R29.2.2 hin29 u29 (g := (mkF m 93 #[.val (.ref a_1), .val (.int p_2), .val (.ref a_3), .val (.ref a_3), .val (.int (0 : Int32)), .val (.int (0 : Int32)), .unset] [(.int (1 : Int32)), (.ref wst)])) rfl rfl (hb hby own_d4_93) _ k) ?_
  show own_Go _ _ _ _ T27 (mkF m 94 #[.val (.ref a_1), .val (.int p_2), .val (.ref a_3), .val (.ref a_3), .val (.int (0 : Int32)), .val (.int (0 : Int32)), .unset] [(.int bs)])
  refine own_go (fun _ k => XS.istoreN X27.here hx rfl (hb hby own_d4_94) rfl (l' := #[.val (.ref a_1), .val (.int p_2), .val (.ref a_3), .val (.int bs), .val (.int (0 : Int32)), .val (.int (0 : Int32)), .unset]) rfl k) ?_
  show own_Go _ _ _ _ T27 (mkF m 95 #[.val (.ref a_1), .val (.int p_2), .val (.ref a_3), .val (.int bs), .val (.int (0 : Int32)), .val (.int (0 : Int32)), .unset] [])
  refine own_go (fun _ k => XS.iloadN X27.here hx rfl (hb hby own_d4_95) rfl k) ?_
  show own_Go _ _ _ _ T27 (mkF m 96 #[.val (.ref a_1), .val (.int p_2), .val (.ref a_3), .val (.int bs), .val (.int (0 : Int32)), .val (.int (0 : Int32)), .unset] [(.int bs)])
  refine own_go (fun _ k => XS.aloadN X27.here hx rfl (hb hby own_d4_96) rfl rfl k) ?_
  show own_Go _ _ _ _ T27 (mkF m 97 #[.val (.ref a_1), .val (.int p_2), .val (.ref a_3), .val (.int bs), .val (.int (0 : Int32)), .val (.int (0 : Int32)), .unset] [(.ref a_3), (.int bs)])
  obtain ⟨q30, c30, R30, s30, t30⟩ := id f15
  refine own_go (fun _ k => X27.arraylength hx (by rw [e27]; exact R30.1) (State.isArrayOf_alike hZ.alike R30.2.1) (g := (mkF m 97 #[.val (.ref a_1), .val (.int p_2), .val (.ref a_3), .val (.int bs), .val (.int (0 : Int32)), .val (.int (0 : Int32)), .unset] [(.ref a_3), (.int bs)])) rfl rfl (hb hby own_d4_97) _ k) ?_
  rw [len_of s30 q30]
  show own_Go _ _ _ _ T27 (mkF m 98 #[.val (.ref a_1), .val (.int p_2), .val (.ref a_3), .val (.int bs), .val (.int (0 : Int32)), .val (.int (0 : Int32)), .unset] [(.int (0 : Int32)), (.int bs)])
  refine own_go (fun _ k => XS.iadd X27.here hx rfl (hb hby own_d4_98) rfl k) ?_
  show own_Go _ _ _ _ T27 (mkF m 99 #[.val (.ref a_1), .val (.int p_2), .val (.ref a_3), .val (.int bs), .val (.int (0 : Int32)), .val (.int (0 : Int32)), .unset] [(.int (bs + (0 : Int32)))])
  refine own_go (fun _ k => XS.aloadN X27.here hx rfl (hb hby own_d4_99) rfl rfl k) ?_
  show own_Go _ _ _ _ T27 (mkF m 100 #[.val (.ref a_1), .val (.int p_2), .val (.ref a_3), .val (.int bs), .val (.int (0 : Int32)), .val (.int (0 : Int32)), .unset] [(.ref a_1), (.int (bs + (0 : Int32)))])
  have f31 : Fld Z T13.heap a_1 "com/example/kalchas/kalchas/propositional/HornClauses" "bodies" "[I" (.ref wb) := (pr_F_a_1_bodies.keep K13q nin0)
  obtain ⟨T32, X32, e32, st32⟩ := getF X27 hx hZ hown (host := "") (Or.inl (hw _ (List.mem_of_getElem? (i := 15) rfl))) Via.refl e27 f31 (g := (mkF m 100 #[.val (.ref a_1), .val (.int p_2), .val (.ref a_3), .val (.int bs), .val (.int (0 : Int32)), .val (.int (0 : Int32)), .unset] [(.ref a_1), (.int (bs + (0 : Int32)))])) rfl rfl (hb hby own_d4_100)
  refine own_go (fun _ k => st32 _ k) ?_
  show own_Go _ _ _ _ T32 (mkF m 103 #[.val (.ref a_1), .val (.int p_2), .val (.ref a_3), .val (.int bs), .val (.int (0 : Int32)), .val (.int (0 : Int32)), .unset] [(.ref wb), (.int (bs + (0 : Int32)))])
  have f33 : own_AV Z T13.heap wb .int (64 : Int32) gb := (pr_A_wb.keep K13q nin0)
  obtain ⟨q34, c34, R34, s34, t34⟩ := id f33
  refine own_go (fun _ k => X32.arraylength hx (by rw [e32]; exact R34.1) (State.isArrayOf_alike hZ.alike R34.2.1) (g := (mkF m 103 #[.val (.ref a_1), .val (.int p_2), .val (.ref a_3), .val (.int bs), .val (.int (0 : Int32)), .val (.int (0 : Int32)), .unset] [(.ref wb), (.int (bs + (0 : Int32)))])) rfl rfl (hb hby own_d4_103) _ k) ?_
  rw [len_of s34 q34]
  show own_Go _ _ _ _ T32 (mkF m 104 #[.val (.ref a_1), .val (.int p_2), .val (.ref a_3), .val (.int bs), .val (.int (0 : Int32)), .val (.int (0 : Int32)), .unset] [(.int (64 : Int32)), (.int (bs + (0 : Int32)))])
  have hc35 : ¬ ((64 : Int32) < (bs + (0 : Int32))) := own_t4_10_0 bs hbs
  refine own_go (fun _ k => XS.icmpYes X32.here hx rfl (pc0 := 104) (pc' := 132) rfl (hb hby own_d4_104) rfl (Jvm.Free.XT.ii_le_t hc35) (by decide) (by decide) k) ?_
  show own_Go _ _ _ _ T32 (mkF m 132 #[.val (.ref a_1), .val (.int p_2), .val (.ref a_3), .val (.int bs), .val (.int (0 : Int32)), .val (.int (0 : Int32)), .unset] [])
  refine own_go (fun _ k => XS.aloadN X32.here hx rfl (hb hby own_d4_132) rfl rfl k) ?_
  show own_Go _ _ _ _ T32 (mkF m 133 #[.val (.ref a_1), .val (.int p_2), .val (.ref a_3), .val (.int bs), .val (.int (0 : Int32)), .val (.int (0 : Int32)), .unset] [(.ref a_3)])
  refine own_go (fun _ k => XS.iconst X32.here hx rfl (hb hby own_d4_133) k) ?_
  show own_Go _ _ _ _ T32 (mkF m 134 #[.val (.ref a_1), .val (.int p_2), .val (.ref a_3), .val (.int bs), .val (.int (0 : Int32)), .val (.int (0 : Int32)), .unset] [(.int (0 : Int32)), (.ref a_3)])
  refine own_go (fun _ k => XS.aloadN X32.here hx rfl (hb hby own_d4_134) rfl rfl k) ?_
  show own_Go _ _ _ _ T32 (mkF m 135 #[.val (.ref a_1), .val (.int p_2), .val (.ref a_3), .val (.int bs), .val (.int (0 : Int32)), .val (.int (0 : Int32)), .unset] [(.ref a_1), (.int (0 : Int32)), (.ref a_3)])
  obtain ⟨T36, X36, e36, st36⟩ := getF X32 hx hZ hown (host := "") (Or.inl (hw _ (List.mem_of_getElem? (i := 15) rfl))) Via.refl e32 f31 (g := (mkF m 135 #[.val (.ref a_1), .val (.int p_2), .val (.ref a_3), .val (.int bs), .val (.int (0 : Int32)), .val (.int (0 : Int32)), .unset] [(.ref a_1), (.int (0 : Int32)), (.ref a_3)])) rfl rfl (hb hby own_d4_135)
  refine own_go (fun _ k => st36 _ k) ?_
  show own_Go _ _ _ _ T36 (mkF m 138 #[.val (.ref a_1), .val (.int p_2), .val (.ref a_3), .val (.int bs), .val (.int (0 : Int32)), .val (.int (0 : Int32)), .unset] [(.ref wb), (.int (0 : Int32)), (.ref a_3)])
  refine own_go (fun _ k => XS.iloadN X36.here hx rfl (hb hby own_d4_138) rfl k) ?_
  show own_Go _ _ _ _ T36 (mkF m 139 #[.val (.ref a_1), .val (.int p_2), .val (.ref a_3), .val (.int bs), .val (.int (0 : Int32)), .val (.int (0 : Int32)), .unset] [(.int bs), (.ref wb), (.int (0 : Int32)), (.ref a_3)])
  refine own_go (fun _ k => XS.aloadN X36.here hx rfl (hb hby own_d4_139) rfl rfl k) ?_
  show own_Go _ _ _ _ T36 (mkF m 140 #[.val (.ref a_1), .val (.int p_2), .val (.ref a_3), .val (.int bs), .val (.int (0 : Int32)), .val (.int (0 : Int32)), .unset] [(.ref a_3), (.int bs), (.ref wb), (.int (0 : Int32)), (.ref a_3)])
  obtain ⟨q37, c37, R37, s37, t37⟩ := id f15
  refine own_go (fun _ k => X36.arraylength hx (by rw [e36]; exact R37.1) (State.isArrayOf_alike hZ.alike R37.2.1) (g := (mkF m 140 #[.val (.ref a_1), .val (.int p_2), .val (.ref a_3), .val (.int bs), .val (.int (0 : Int32)), .val (.int (0 : Int32)), .unset] [(.ref a_3), (.int bs), (.ref wb), (.int (0 : Int32)), (.ref a_3)])) rfl rfl (hb hby own_d4_140) _ k) ?_
  rw [len_of s37 q37]
  show own_Go _ _ _ _ T36 (mkF m 141 #[.val (.ref a_1), .val (.int p_2), .val (.ref a_3), .val (.int bs), .val (.int (0 : Int32)), .val (.int (0 : Int32)), .unset] [(.int (0 : Int32)), (.int bs), (.ref wb), (.int (0 : Int32)), (.ref a_3)])
  obtain ⟨T38, h38, L38, X38, e38, N38, Kq38, V38, st38⟩ := own_cp X36 hx hZ hown (hw _ (List.mem_of_getElem? (i := 49) rfl)) (hw _ (List.mem_of_getElem? (i := 52) rfl)) (hw _ (List.mem_of_getElem? (i := 50) rfl)) (hw _ (List.mem_of_getElem? (i := 51) rfl)) e36 f15 f33 (fun _ => rfl) hfb (by decide) (own_t4_10_2 bs hbs hc35) (by decide) (by decide) (own_cl5 (own_t4_10_1 bs hbs hc35)) N13 (by omega) (g := (mkF m 141 #[.val (.ref a_1), .val (.int p_2), .val (.ref a_3), .val (.int bs), .val (.int (0 : Int32)), .val (.int (0 : Int32)), .unset] [(.int (0 : Int32)), (.int bs), (.ref wb), (.int (0 : Int32)), (.ref a_3)])) rfl (by rw [hml]; rfl) rfl (hb hby own_d4_141) (by decide) (W := 0) (by show 2 * 0 + _ ≤ _; exact Nat.le_of_eq rfl) (by decide)
  have z39 := Kq38.1
  have K38 : Keep h0 h38 [a_1, wh, wst, wb] := K13.trans Kq38 (allS (Or.inl (List.mem_of_getElem? (i := 3) rfl)) all0)
  refine own_go (fun _ k => st38 _ k) ?_
  show own_Go _ _ _ _ T38 (mkF m 144 #[.val (.ref a_1), .val (.int p_2), .val (.ref a_3), .val (.int bs), .val (.int (0 : Int32)), .val (.int (0 : Int32)), .unset] [])
  refine own_go (fun _ k => XS.aloadN X38.here hx rfl (hb hby own_d4_144) rfl rfl k) ?_
  show own_Go _ _ _ _ T38 (mkF m 145 #[.val (.ref a_1), .val (.int p_2), .val (.ref a_3), .val (.int bs), .val (.int (0 : Int32)), .val (.int (0 : Int32)), .unset] [(.ref a_1)])
  have f40 : Fld Z h38 a_1 "com/example/kalchas/kalchas/propositional/HornClauses" "heads" "[I" (.ref wh) := (f20.keep Kq38 (ninS (own_ne (by omega)) nin0))
  obtain ⟨T41, X41, e41, st41⟩ := getF X38 hx hZ hown (host := "") (Or.inl (hw _ (List.mem_of_getElem? (i := 11) rfl))) Via.refl e38 f40 (g := (mkF m 145 #[.val (.ref a_1), .val (.int p_2), .val (.ref a_3), .val (.int bs), .val (.int (0 : Int32)), .val (.int (0 : Int32)), .unset] [(.ref a_1)])) rfl rfl (hb hby own_d4_145)
  refine own_go (fun _ k => st41 _ k) ?_
  show own_Go _ _ _ _ T41 (mkF m 148 #[.val (.ref a_1), .val (.int p_2), .val (.ref a_3), .val (.int bs), .val (.int (0 : Int32)), .val (.int (0 : Int32)), .unset] [(.ref wh)])
  refine own_go (fun _ k => XS.aloadN X41.here hx rfl (hb hby own_d4_148) rfl rfl k) ?_
  show own_Go _ _ _ _ T41 (mkF m 149 #[.val (.ref a_1), .val (.int p_2), .val (.ref a_3), .val (.int bs), .val (.int (0 : Int32)), .val (.int (0 : Int32)), .unset] [(.ref a_1), (.ref wh)])
  have f42 : Fld Z h38 a_1 "com/example/kalchas/kalchas/propositional/HornClauses" "clauseCount" "I" (.int (1 : Int32)) := (f18.keep Kq38 (ninS (own_ne (by omega)) nin0))
  obtain ⟨T43, X43, e43, st43⟩ := getF X41 hx hZ hown (host := "") (Or.inl (hw _ (List.mem_of_getElem? (i := 47) rfl))) Via.refl e41 f42 (g := (mkF m 149 #[.val (.ref a_1), .val (.int p_2), .val (.ref a_3), .val (.int bs), .val (.int (0 : Int32)), .val (.int (0 : Int32)), .unset] [(.ref a_1), (.ref wh)])) rfl rfl (hb hby own_d4_149)
  refine own_go (fun _ k => st43 _ k) ?_
  show own_Go _ _ _ _ T43 (mkF m 152 #[.val (.ref a_1), .val (.int p_2), .val (.ref a_3), .val (.int bs), .val (.int (0 : Int32)), .val (.int (0 : Int32)), .unset] [(.int (1 : Int32)), (.ref wh)])
  refine own_go (fun _ k => XS.iloadN X43.here hx rfl (hb hby own_d4_152) rfl k) ?_
  show own_Go _ _ _ _ T43 (mkF m 153 #[.val (.ref a_1), .val (.int p_2), .val (.ref a_3), .val (.int bs), .val (.int (0 : Int32)), .val (.int (0 : Int32)), .unset] [(.int p_2), (.int (1 : Int32)), (.ref wh)])
  have f44 : own_AV Z h38 wh .int (64 : Int32) gh := (f22.keep Kq38 (ninS (own_ne (by omega)) nin0))
  obtain ⟨q45, c45, R45, s45, t45⟩ := id f44
  have hin45 : ¬ ((1 : Int32) < 0 ∨ c45.slots.size ≤ ((1 : Int32)).toNatClampNeg) := inb_of s45 ⟨by decide, by decide⟩
  obtain ⟨T46, h46, X46, e46, W46, st46⟩ := stI X43 hx hZ e43 R45 (j := (1 : Int32)) hin45 (g := (mkF m 153 #[.val (.ref a_1), .val (.int p_2), .val (.ref a_3), .val (.int bs), .val (.int (0 : Int32)), .val (.int (0 : Int32)), .unset] [(.int p_2), (.int (1 : Int32)), (.ref wh)])) rfl rfl (hb hby own_d4_153)
  have V46 : own_AV Z h46 wh .int (64 : Int32) (own_upd gh 1 (.int p_2)) := own_AV.set (k := 1) f44 W46 (by decide)
  have z47 := W46.size
  have K46 : Keep h0 h46 [a_1, wh, wst, wb] := K38.wr W46 (Or.inl (List.mem_of_getElem? (i := 1) rfl))
  have N46 := Fr.snoc X46 N38 (by omega : n0 ≤ wh)
  refine own_go (fun _ k => st46 _ k) ?_
  show own_Go _ _ _ _ T46 (mkF m 154 #[.val (.ref a_1), .val (.int p_2), .val (.ref a_3), .val (.int bs), .val (.int (0 : Int32)), .val (.int (0 : Int32)), .unset] [])
  refine own_go (fun _ k => XS.aloadN X46.here hx rfl (hb hby own_d4_154) rfl rfl k) ?_
  show own_Go _ _ _ _ T46 (mkF m 155 #[.val (.ref a_1), .val (.int p_2), .val (.ref a_3), .val (.int bs), .val (.int (0 : Int32)), .val (.int (0 : Int32)), .unset] [(.ref a_1)])
  have f48 : Fld Z h46 a_1 "com/example/kalchas/kalchas/propositional/HornClauses" "bodyStarts" "[I" (.ref wst) := ((f25.keep Kq38 (ninS (own_ne (by omega)) nin0)).other W46 (Or.inl (own_ne (by omega))))
  obtain ⟨T49, X49, e49, st49⟩ := getF X46 hx hZ hown (host := "") (Or.inl (hw _ (List.mem_of_getElem? (i := 13) rfl))) Via.refl e46 f48 (g := (mkF m 155 #[.val (.ref a_1), .val (.int p_2), .val (.ref a_3), .val (.int bs), .val (.int (0 : Int32)), .val (.int (0 : Int32)), .unset] [(.ref a_1)])) rfl rfl (hb hby own_d4_155)
  refine own_go (fun _ k => st49 _ k) ?_
  show own_Go _ _ _ _ T49 (mkF m 158 #[.val (.ref a_1), .val (.int p_2), .val (.ref a_3), .val (.int bs), .val (.int (0 : Int32)), .val (.int (0 : Int32)), .unset] [(.ref wst)])
  refine own_go (fun _ k => XS.aloadN X49.here hx rfl (hb hby own_d4_158) rfl rfl k) ?_
  show own_Go _ _ _ _ T49 (mkF m 159 #[.val (.ref a_1), .val (.int p_2), .val (.ref a_3), .val (.int bs), .val (.int (0 : Int32)), .val (.int (0 : Int32)), .unset] [(.ref a_1), (.ref wst)])
  have f50 : Fld Z h46 a_1 "com/example/kalchas/kalchas/propositional/HornClauses" "clauseCount" "I" (.int (1 : Int32)) := (f42.other W46 (Or.inl (own_ne (by omega))))
  obtain ⟨T51, X51, e51, st51⟩ := getF X49 hx hZ hown (host := "") (Or.inl (hw _ (List.mem_of_getElem? (i := 47) rfl))) Via.refl e49 f50 (g := (mkF m 159 #[.val (.ref a_1), .val (.int p_2), .val (.ref a_3), .val (.int bs), .val (.int (0 : Int32)), .val (.int (0 : Int32)), .unset] [(.ref a_1), (.ref wst)])) rfl rfl (hb hby own_d4_159)
  refine own_go (fun _ k => st51 _ k) ?_
  show own_Go _ _ _ _ T51 (mkF m 162 #[.val (.ref a_1), .val (.int p_2), .val (.ref a_3), .val (.int bs), .val (.int (0 : Int32)), .val (.int (0 : Int32)), .unset] [(.int (1 : Int32)), (.ref wst)])
  refine own_go (fun _ k => XS.iconst X51.here hx rfl (hb hby own_d4_162) k) ?_
  show own_Go _ _ _ _ T51 (mkF m 163 #[.val (.ref a_1), .val (.int p_2), .val (.ref a_3), .val (.int bs), .val (.int (0 : Int32)), .val (.int (0 : Int32)), .unset] [(.int (1 : Int32)), (.int (1 : Int32)), (.ref wst)])
  refine own_go (fun _ k => XS.iadd X51.here hx rfl (hb hby own_d4_163) rfl k) ?_
  show own_Go _ _ _ _ T51 (mkF m 164 #[.val (.ref a_1), .val (.int p_2), .val (.ref a_3), .val (.int bs), .val (.int (0 : Int32)), .val (.int (0 : Int32)), .unset] [(.int (2 : Int32)), (.ref wst)])
  refine own_go (fun _ k => XS.iloadN X51.here hx rfl (hb hby own_d4_164) rfl k) ?_
  show own_Go _ _ _ _ T51 (mkF m 165 #[.val (.ref a_1), .val (.int p_2), .val (.ref a_3), .val (.int bs), .val (.int (0 : Int32)), .val (.int (0 : Int32)), .unset] [(.int bs), (.int (2 : Int32)), (.ref wst)])
  refine own_go (fun _ k => XS.aloadN X51.here hx rfl (hb hby own_d4_165) rfl rfl k) ?_
  show own_Go _ _ _ _ T51 (mkF m 166 #[.val (.ref a_1), .val (.int p_2), .val (.ref a_3), .val (.int bs), .val (.int (0 : Int32)), .val (.int (0 : Int32)), .unset] [(.ref a_3), (.int bs), (.int (2 : Int32)), (.ref wst)])
  have f52 : own_AV Z h46 a_3 .int (0 : Int32) (fun _ => (.int (0 : Int32))) := ((f15.keep Kq38 (ninS (own_ne (by omega)) nin0)).other W46 (own_ne (by omega)))
  obtain ⟨q53, c53, R53, s53, t53⟩ := id f52
  refine own_go (fun _ k => X51.arraylength hx (by rw [e51]; exact R53.1) (State.isArrayOf_alike hZ.alike R53.2.1) (g := (mkF m 166 #[.val (.ref a_1), .val (.int p_2), .val (.ref a_3), .val (.int bs), .val (.int (0 : Int32)), .val (.int (0 : Int32)), .unset] [(.ref a_3), (.int bs), (.int (2 : Int32)), (.ref wst)])) rfl rfl (hb hby own_d4_166) _ k) ?_
  rw [len_of s53 q53]
  show own_Go _ _ _ _ T51 (mkF m 167 #[.val (.ref a_1), .val (.int p_2), .val (.ref a_3), .val (.int bs), .val (.int (0 : Int32)), .val (.int (0 : Int32)), .unset] [(.int (0 : Int32)), (.int bs), (.int (2 : Int32)), (.ref wst)])
  refine own_go (fun _ k => XS.iadd X51.here hx rfl (hb hby own_d4_167) rfl k) ?_
  show own_Go _ _ _ _ T51 (mkF m 168 #[.val (.ref a_1), .val (.int p_2), .val (.ref a_3), .val (.int bs), .val (.int (0 : Int32)), .val (.int (0 : Int32)), .unset] [(.int (bs + (0 : Int32))), (.int (2 : Int32)), (.ref wst)])
  have f54 : own_AV Z h46 wst .int (65 : Int32) gs := ((f28.keep Kq38 (ninS (own_ne (by omega)) nin0)).other W46 (own_ne (by omega)))
  obtain ⟨q55, c55, R55, s55, t55⟩ := id f54
  have hin55 : ¬ ((2 : Int32) < 0 ∨ c55.slots.size ≤ ((2 : Int32)).toNatClampNeg) := inb_of s55 ⟨by decide, by decide⟩
  obtain ⟨T56, h56, X56, e56, W56, st56⟩ := stI X51 hx hZ e51 R55 (j := (2 : Int32)) hin55 (g := (mkF m 168 #[.val (.ref a_1), .val (.int p_2), .val (.ref a_3), .val (.int bs), .val (.int (0 : Int32)), .val (.int (0 : Int32)), .unset] [(.int (bs + (0 : Int32))), (.int (2 : Int32)), (.ref wst)])) rfl rfl (hb hby own_d4_168)
  have V56 : own_AV Z h56 wst .int (65 : Int32) (own_upd gs 2 (.int (bs + (0 : Int32)))) := own_AV.set (k := 2) f54 W56 (by decide)
  have z57 := W56.size
  have K56 : Keep h0 h56 [a_1, wh, wst, wb] := K46.wr W56 (Or.inl (List.mem_of_getElem? (i := 2) rfl))
  have N56 := Fr.snoc X56 N46 (by omega : n0 ≤ wst)
  refine own_go (fun _ k => st56 _ k) ?_
  show own_Go _ _ _ _ T56 (mkF m 169 #[.val (.ref a_1), .val (.int p_2), .val (.ref a_3), .val (.int bs), .val (.int (0 : Int32)), .val (.int (0 : Int32)), .unset] [])
  refine own_go (fun _ k => XS.aloadN X56.here hx rfl (hb hby own_d4_169) rfl rfl k) ?_
  show own_Go _ _ _ _ T56 (mkF m 170 #[.val (.ref a_1), .val (.int p_2), .val (.ref a_3), .val (.int bs), .val (.int (0 : Int32)), .val (.int (0 : Int32)), .unset] [(.ref a_1)])
  refine own_go (fun _ k => XS.dup X56.here hx rfl (hb hby own_d4_170) rfl rfl k) ?_
  show own_Go _ _ _ _ T56 (mkF m 171 #[.val (.ref a_1), .val (.int p_2), .val (.ref a_3), .val (.int bs), .val (.int (0 : Int32)), .val (.int (0 : Int32)), .unset] [(.ref a_1), (.ref a_1)])
  have f58 : Fld Z h56 a_1 "com/example/kalchas/kalchas/propositional/HornClauses" "clauseCount" "I" (.int (1 : Int32)) := (f50.other W56 (Or.inl (own_ne (by omega))))
  obtain ⟨T59, X59, e59, st59⟩ := getF X56 hx hZ hown (host := "") (Or.inl (hw _ (List.mem_of_getElem? (i := 47) rfl))) Via.refl e56 f58 (g := (mkF m 171 #[.val (.ref a_1), .val (.int p_2), .val (.ref a_3), .val (.int bs), .val (.int (0 : Int32)), .val (.int (0 : Int32)), .unset] [(.ref a_1), (.ref a_1)])) rfl rfl (hb hby own_d4_171)
  refine own_go (fun _ k => st59 _ k) ?_
  show own_Go _ _ _ _ T59 (mkF m 174 #[.val (.ref a_1), .val (.int p_2), .val (.ref a_3), .val (.int bs), .val (.int (0 : Int32)), .val (.int (0 : Int32)), .unset] [(.int (1 : Int32)), (.ref a_1)])
  refine own_go (fun _ k => XS.iconst X59.here hx rfl (hb hby own_d4_174) k) ?_
  show own_Go _ _ _ _ T59 (mkF m 175 #[.val (.ref a_1), .val (.int p_2), .val (.ref a_3), .val (.int bs), .val (.int (0 : Int32)), .val (.int (0 : Int32)), .unset] [(.int (1 : Int32)), (.int (1 : Int32)), (.ref a_1)])
  refine own_go (fun _ k => XS.iadd X59.here hx rfl (hb hby own_d4_175) rfl k) ?_
  show own_Go _ _ _ _ T59 (mkF m 176 #[.val (.ref a_1), .val (.int p_2), .val (.ref a_3), .val (.int bs), .val (.int (0 : Int32)), .val (.int (0 : Int32)), .unset] [(.int (2 : Int32)), (.ref a_1)])
  have f60 : Exa Z h56 a_1 "com/example/kalchas/kalchas/propositional/HornClauses" := ((((pr_E_a_1.keep K13q).keep Kq38).wr W46).wr W56)
  obtain ⟨T61, h61, X61, e61, W61, st61⟩ := putF X59 hx hZ hown (host := "") (Or.inl (hw _ (List.mem_of_getElem? (i := 47) rfl))) Via.refl e59 f58 f60 (Or.inl (hw _ (List.mem_of_getElem? (i := 48) rfl))) (hw _ (List.mem_of_getElem? (i := 3) rfl)) (ty := .int) (by decide) rfl rfl (g := (mkF m 176 #[.val (.ref a_1), .val (.int p_2), .val (.ref a_3), .val (.int bs), .val (.int (0 : Int32)), .val (.int (0 : Int32)), .unset] [(.int (2 : Int32)), (.ref a_1)])) rfl rfl (hb hby own_d4_176)
  have z62 := W61.size
  have K61 : Keep h0 h61 [a_1, wh, wst, wb] := K56.wr W61 (Or.inl (List.mem_of_getElem? (i := 0) rfl))
  have N61 := Fr.snoc X61 N56 (by omega : n0 ≤ a_1)
  have Fw61 : Fld Z h61 a_1 "com/example/kalchas/kalchas/propositional/HornClauses" "clauseCount" "I" (.int (2 : Int32)) := Fld.same W61 f58
  refine own_go (fun _ k => st61 _ k) ?_
  show own_Go _ _ _ _ T61 (mkF m 179 #[.val (.ref a_1), .val (.int p_2), .val (.ref a_3), .val (.int bs), .val (.int (0 : Int32)), .val (.int (0 : Int32)), .unset] [])
  refine own_go (fun _ k => XS.aloadN X61.here hx rfl (hb hby own_d4_179) rfl rfl k) ?_
  show own_Go _ _ _ _ T61 (mkF m 180 #[.val (.ref a_1), .val (.int p_2), .val (.ref a_3), .val (.int bs), .val (.int (0 : Int32)), .val (.int (0 : Int32)), .unset] [(.ref a_1)])
  refine own_go (fun _ k => XS.aconstNull X61.here hx rfl (hb hby own_d4_180) k) ?_
  show own_Go _ _ _ _ T61 (mkF m 181 #[.val (.ref a_1), .val (.int p_2), .val (.ref a_3), .val (.int bs), .val (.int (0 : Int32)), .val (.int (0 : Int32)), .unset] [.null, (.ref a_1)])
  have f63 : Exa Z h61 a_1 "com/example/kalchas/kalchas/propositional/HornClauses" := (f60.wr W61)
  have f64 : Fld Z h61 a_1 "com/example/kalchas/kalchas/propositional/HornClauses" "occurrences" "[I" w_occ := (((((pr_F_a_1_occurrences.keep K13q nin0).keep Kq38 (ninS (own_ne (by omega)) nin0)).other W46 (Or.inl (own_ne (by omega)))).other W56 (Or.inl (own_ne (by omega)))).other W61 (Or.inr (slot_ne (Or.inl (hw _ (List.mem_of_getElem? (i := 23) rfl))) (Or.inl (hw _ (List.mem_of_getElem? (i := 48) rfl))) (by decide) (t := (.array .int)) (t' := .int) (by decide) (by decide))))
  obtain ⟨T65, h65, X65, e65, W65, st65⟩ := putF X61 hx hZ hown (host := "") (Or.inl (hw _ (List.mem_of_getElem? (i := 22) rfl))) Via.refl e61 f64 f63 (Or.inl (hw _ (List.mem_of_getElem? (i := 23) rfl))) (hw _ (List.mem_of_getElem? (i := 3) rfl)) (ty := (.array .int)) (by decide) rfl rfl (g := (mkF m 181 #[.val (.ref a_1), .val (.int p_2), .val (.ref a_3), .val (.int bs), .val (.int (0 : Int32)), .val (.int (0 : Int32)), .unset] [.null, (.ref a_1)])) rfl rfl (hb hby own_d4_181)
  have z66 := W65.size
  have K65 : Keep h0 h65 [a_1, wh, wst, wb] := K61.wr W65 (Or.inl (List.mem_of_getElem? (i := 0) rfl))
  have N65 := Fr.snoc X65 N61 (by omega : n0 ≤ a_1)
  have Fw65 : Fld Z h65 a_1 "com/example/kalchas/kalchas/propositional/HornClauses" "occurrences" "[I" .null := Fld.same W65 f64
  refine own_go (fun _ k => st65 _ k) ?_
  show own_Go _ _ _ _ T65 (mkF m 184 #[.val (.ref a_1), .val (.int p_2), .val (.ref a_3), .val (.int bs), .val (.int (0 : Int32)), .val (.int (0 : Int32)), .unset] [])
  obtain ⟨fs, hr, hrun, hended, hRW⟩ := X65.leaveW hS13 (by rw [e65]; omega) (v := none) (fun _ => rfl)
  refine ⟨_, _, X65.returnOut hx Bd.returns (hb hby own_d4_184) hr, hrun, hended, _, _, rfl, ?_, own_monoW hRW (by rw [y13]; decide) (by rw [z13]; decide)⟩
  show own_Q4_10 Z a_1 p_2 a_3 wh wst wb gh gs gb bs w_occ h0 n0 _ T65.heap _
  rw [e65]
  have f68 : Exa Z h65 a_1 "com/example/kalchas/kalchas/propositional/HornClauses" := (f63.wr W65)
  have f69 : Fld Z h65 a_1 "com/example/kalchas/kalchas/propositional/HornClauses" "variableCount" "I" (.int (3 : Int32)) := ((((((pr_F_a_1_variableCount.keep K13q nin0).keep Kq38 (ninS (own_ne (by omega)) nin0)).other W46 (Or.inl (own_ne (by omega)))).other W56 (Or.inl (own_ne (by omega)))).other W61 (Or.inr (slot_ne (Or.inl (hw _ (List.mem_of_getElem? (i := 25) rfl))) (Or.inl (hw _ (List.mem_of_getElem? (i := 48) rfl))) (by decide) (t := .int) (t' := .int) (by decide) (by decide)))).other W65 (Or.inr (slot_ne (Or.inl (hw _ (List.mem_of_getElem? (i := 25) rfl))) (Or.inl (hw _ (List.mem_of_getElem? (i := 23) rfl))) (by decide) (t := .int) (t' := (.array .int)) (by decide) (by decide))))
  have f70 : Fld Z h65 a_1 "com/example/kalchas/kalchas/propositional/HornClauses" "clauseCount" "I" (.int (2 : Int32)) := (Fw61.other W65 (Or.inr (slot_ne (Or.inl (hw _ (List.mem_of_getElem? (i := 48) rfl))) (Or.inl (hw _ (List.mem_of_getElem? (i := 23) rfl))) (by decide) (t := .int) (t' := (.array .int)) (by decide) (by decide))))
  have f71 : Fld Z h65 a_1 "com/example/kalchas/kalchas/propositional/HornClauses" "heads" "[I" (.ref wh) := ((((f40.other W46 (Or.inl (own_ne (by omega)))).other W56 (Or.inl (own_ne (by omega)))).other W61 (Or.inr (slot_ne (Or.inl (hw _ (List.mem_of_getElem? (i := 12) rfl))) (Or.inl (hw _ (List.mem_of_getElem? (i := 48) rfl))) (by decide) (t := (.array .int)) (t' := .int) (by decide) (by decide)))).other W65 (Or.inr (slot_ne (Or.inl (hw _ (List.mem_of_getElem? (i := 12) rfl))) (Or.inl (hw _ (List.mem_of_getElem? (i := 23) rfl))) (by decide) (t := (.array .int)) (t' := (.array .int)) (by decide) (by decide))))
  have f72 : Fld Z h65 a_1 "com/example/kalchas/kalchas/propositional/HornClauses" "bodyStarts" "[I" (.ref wst) := (((f48.other W56 (Or.inl (own_ne (by omega)))).other W61 (Or.inr (slot_ne (Or.inl (hw _ (List.mem_of_getElem? (i := 14) rfl))) (Or.inl (hw _ (List.mem_of_getElem? (i := 48) rfl))) (by decide) (t := (.array .int)) (t' := .int) (by decide) (by decide)))).other W65 (Or.inr (slot_ne (Or.inl (hw _ (List.mem_of_getElem? (i := 14) rfl))) (Or.inl (hw _ (List.mem_of_getElem? (i := 23) rfl))) (by decide) (t := (.array .int)) (t' := (.array .int)) (by decide) (by decide))))
  have f73 : Fld Z h65 a_1 "com/example/kalchas/kalchas/propositional/HornClauses" "bodies" "[I" (.ref wb) := (((((f31.keep Kq38 (ninS (own_ne (by omega)) nin0)).other W46 (Or.inl (own_ne (by omega)))).other W56 (Or.inl (own_ne (by omega)))).other W61 (Or.inr (slot_ne (Or.inl (hw _ (List.mem_of_getElem? (i := 16) rfl))) (Or.inl (hw _ (List.mem_of_getElem? (i := 48) rfl))) (by decide) (t := (.array .int)) (t' := .int) (by decide) (by decide)))).other W65 (Or.inr (slot_ne (Or.inl (hw _ (List.mem_of_getElem? (i := 16) rfl))) (Or.inl (hw _ (List.mem_of_getElem? (i := 23) rfl))) (by decide) (t := (.array .int)) (t' := (.array .int)) (by decide) (by decide))))
  have f74 : own_AV Z h65 wh .int (64 : Int32) (own_upd gh 1 (.int p_2)) := (((V46.other W56 (own_ne (by omega))).other W61 (own_ne (by omega))).other W65 (own_ne (by omega)))
  have f75 : own_AV Z h65 wst .int (65 : Int32) (own_upd gs 2 (.int (bs + (0 : Int32)))) := ((V56.other W61 (own_ne (by omega))).other W65 (own_ne (by omega)))
  have f76 : own_AV Z h65 wb .int (64 : Int32) (own_cpf (fun _ => (.int (0 : Int32))) ((0 : Int32)).toNatClampNeg gb (bs).toNatClampNeg ((0 : Int32)).toNatClampNeg) := ((((V38.other W46 (own_ne (by omega))).other W56 (own_ne (by omega))).other W61 (own_ne (by omega))).other W65 (own_ne (by omega)))
  exact ⟨(own_cpf (fun _ => (.int (0 : Int32))) ((0 : Int32)).toNatClampNeg gb (bs).toNatClampNeg ((0 : Int32)).toNatClampNeg), rfl, N65, K65, f68, f69, f70, f71, f72, f73, Fw65, f74, f75, f76, (own_cpff (fun _ => rfl) hfb)⟩
theorem own_ef_own_rm4_12 (m : MethodId) (x0 : Addr) (x1 : Int32) (x2 : Addr) : entryFrame m #[(.ref x0), (.int x1), (.ref x2)] 7 = mkF m 0 #[.val (.ref x0), .val (.int x1), .val (.ref x2), .unset, .unset, .unset, .unset] [] := by first | (simp [entryFrame, mkF, argsToLocals, Value.category]; done) | rfl
set_option maxRecDepth 65536 in
set_option maxHeartbeats 4000000 in
theorem own_t4_12_0 (bs : Int32) (hbs : 0 ≤ bs.toInt ∧ bs.toInt ≤ 10) : ¬ ((64 : Int32) < (bs + (2 : Int32))) := by
  have el0 : (2 : Int32).toInt = 2 := by decide
  have el1 : (64 : Int32).toInt = 64 := by decide
  have rv_bs := rng32 bs
  have fa3 := c_iadd bs (2 : Int32)
  have fa4 := rng32 (bs + (2 : Int32))
  have own0 : (0 : Int32).toInt = 0 := by decide
  simp only [← Int32.toInt_inj, Int32.lt_iff_toInt_lt, implies_true, and_true, true_and, own0, el0, el1] at *
  omega
set_option maxRecDepth 65536 in
set_option maxHeartbeats 4000000 in
theorem own_t4_12_1 (bs : Int32) (hbs : 0 ≤ bs.toInt ∧ bs.toInt ≤ 10) (hc49 : ¬ ((64 : Int32) < (bs + (2 : Int32)))) : 0 ≤ bs.toInt ∧ bs.toInt ≤ 62 := by
  have el0 : (2 : Int32).toInt = 2 := by decide
  have el1 : (64 : Int32).toInt = 64 := by decide
  have rv_bs := rng32 bs
  have fa3 := c_iadd bs (2 : Int32)
  have fa4 := rng32 (bs + (2 : Int32))
  have own0 : (0 : Int32).toInt = 0 := by decide
  simp only [← Int32.toInt_inj, Int32.lt_iff_toInt_lt, implies_true, and_true, true_and, own0, el0, el1] at *
  omega
set_option maxRecDepth 65536 in
set_option maxHeartbeats 4000000 in
theorem own_t4_12_2 (bs : Int32) (hbs : 0 ≤ bs.toInt ∧ bs.toInt ≤ 10) (hc49 : ¬ ((64 : Int32) < (bs + (2 : Int32)))) : ¬ bs < 0 := by
  have el0 : (2 : Int32).toInt = 2 := by decide
  have el1 : (64 : Int32).toInt = 64 := by decide
  have rv_bs := rng32 bs
  have fa3 := c_iadd bs (2 : Int32)
  have fa4 := rng32 (bs + (2 : Int32))
  have own0 : (0 : Int32).toInt = 0 := by decide
  simp only [← Int32.toInt_inj, Int32.lt_iff_toInt_lt, implies_true, and_true, true_and, own0, el0, el1] at *
  omega
def own_Q4_12 (Z : State) (a_1 : Addr) (p_2 : Int32) (a_3 : Addr) (wh : Addr) (wst : Addr) (wb : Addr) (gh : Nat → Value) (gs : Nat → Value) (gb : Nat → Value) (bs : Int32) (w_occ : Value) (y0 : Int32) (y1 : Int32) (h0 : Heap) (n0 : Nat) (v : Option Value) (h : Heap) (L : List Loc) : Prop := ∃ (gb_ : Nat → Value), v = none ∧ Fr n0 L ∧ Keep h0 h [a_1, wh, wst, wb] ∧ Exa Z h a_1 "com/example/kalchas/kalchas/propositional/HornClauses" ∧ Fld Z h a_1 "com/example/kalchas/kalchas/propositional/HornClauses" "variableCount" "I" (.int (3 : Int32)) ∧ Fld Z h a_1 "com/example/kalchas/kalchas/propositional/HornClauses" "clauseCount" "I" (.int (2 : Int32)) ∧ Fld Z h a_1 "com/example/kalchas/kalchas/propositional/HornClauses" "heads" "[I" (.ref wh) ∧ Fld Z h a_1 "com/example/kalchas/kalchas/propositional/HornClauses" "bodyStarts" "[I" (.ref wst) ∧ Fld Z h a_1 "com/example/kalchas/kalchas/propositional/HornClauses" "bodies" "[I" (.ref wb) ∧ Fld Z h a_1 "com/example/kalchas/kalchas/propositional/HornClauses" "occurrences" "[I" .null ∧ own_AV Z h wh .int (64 : Int32) (own_upd gh 1 (.int p_2)) ∧ own_AV Z h wst .int (65 : Int32) (own_upd gs 2 (.int (bs + (2 : Int32)))) ∧ own_AV Z h wb .int (64 : Int32) gb_ ∧ (∀ i, fits .int (gb_ i) = true)
set_option maxRecDepth 65536 in
set_option maxHeartbeats 40000000 in
theorem own_rm4_12 (l : Launch) (Z : State) (a0 : Array Value) (hw : ∀ d ∈ tables_1, d.before a0 Z = true) (ws : List Jvm.Cond) (a_1 : Addr) (p_2 : Int32) (a_3 : Addr) (wh : Addr) (wst : Addr) (wb : Addr) (gh : Nat → Value) (gs : Nat → Value) (gb : Nat → Value) (bs : Int32) (w_occ : Value) (y0 : Int32) (y1 : Int32) (h0 : Heap) (n0 : Nat) (Z0 : n0 ≤ h0.size) (pr_E_a_1 : Exa Z h0 a_1 "com/example/kalchas/kalchas/propositional/HornClauses") (pr_F_a_1_variableCount : Fld Z h0 a_1 "com/example/kalchas/kalchas/propositional/HornClauses" "variableCount" "I" (.int (3 : Int32))) (pr_F_a_1_clauseCount : Fld Z h0 a_1 "com/example/kalchas/kalchas/propositional/HornClauses" "clauseCount" "I" (.int (1 : Int32))) (pr_F_a_1_heads : Fld Z h0 a_1 "com/example/kalchas/kalchas/propositional/HornClauses" "heads" "[I" (.ref wh)) (pr_F_a_1_bodyStarts : Fld Z h0 a_1 "com/example/kalchas/kalchas/propositional/HornClauses" "bodyStarts" "[I" (.ref wst)) (pr_F_a_1_bodies : Fld Z h0 a_1 "com/example/kalchas/kalchas/propositional/HornClauses" "bodies" "[I" (.ref wb)) (pr_F_a_1_occurrences : Fld Z h0 a_1 "com/example/kalchas/kalchas/propositional/HornClauses" "occurrences" "[I" w_occ) (pr_A_wh : own_AV Z h0 wh .int (64 : Int32) gh) (pr_A_wst : own_AV Z h0 wst .int (65 : Int32) gs) (pr_A_wb : own_AV Z h0 wb .int (64 : Int32) gb) (pr_A_a_3 : own_AV Z h0 a_3 .int (2 : Int32) (own_upd (own_upd (fun _ => (.int (0 : Int32))) 0 (.int y0)) 1 (.int y1))) (hord : own_lts [a_3, a_1, wh, wst, wb]) (hgs : gs 1 = .int bs) (hbs : 0 ≤ bs.toInt ∧ bs.toInt ≤ 10) (hfb : ∀ i, fits .int (gb i) = true) (hp1 : ¬ (p_2 < 0)) (hp2 : p_2 < (3 : Int32)) (hy0a : ¬ (y0 < 0)) (hy0b : y0 < (3 : Int32)) (hy1a : ¬ (y1 < 0)) (hy1b : y1 < (3 : Int32)) (gw_a_1 : n0 ≤ a_1) (gw_wh : n0 ≤ wh) (gw_wst : n0 ≤ wst) (gw_wb : n0 ≤ wb) :
    MetFree l (⟨"com/example/kalchas/kalchas/propositional/HornClauses", "add", "(I[I)V"⟩ : MethodName) (head1 (Jvm.Cond.code (⟨"com/example/kalchas/kalchas/propositional/HornClauses", "add", "(I[I)V"⟩ : MethodName) prog_6_method_4_code 7 none :: ws) ({ frames := 2, cells := 6, slots := 108, locals := 40 } : Room)) (fun a U => a = #[(.ref a_1), (.int p_2), (.ref a_3)] ∧ Z.Warmed39 U.vm ∧ U.heap = h0) (fun _ _ _ _ _ => True) (fun _ U o U' => ∃ v L, o = .returned v ∧ own_Q4_12 Z a_1 p_2 a_3 wh wst wb gh gs gb bs w_occ y0 y1 h0 n0 v U'.heap L ∧ ReturnedEndW U o U' L ({ frames := 2, cells := 6, slots := 108, locals := 40 } : Room).cells ({ frames := 2, cells := 6, slots := 108, locals := 40 } : Room).slots) := by
  refine MetFree.of_bodySF (plainFor_of_name own_pn0) hisR ?_
  intro p e s m args below meth c s₁ Bd hml0 hP hK
  obtain ⟨rfl, hZ, hh⟩ := hP
  have hx := Bd.exec
  have hby := Bd.bytes
  have hml : c.maxLocals = 7 := hml0
  have hown : s.vm.findClass "com/example/kalchas/kalchas/propositional/HornClauses" = some m.cls := findClass_of_methodNamed Bd.named
  have hnm := (name_of_methodNamed Bd.named Bd.method).1
  have X0 : Stand p l e ({ frames := 2, cells := 6, slots := 108, locals := 40 } : Room) s m #[(.ref a_1), (.int p_2), (.ref a_3)] below meth c s₁ [] 0 0 := Stand.of_body Bd
  have e0 : s₁.heap = h0 := by rw [← hh, Bd.state]; rfl
  have N0 := Fr.nil n0
  have X0 : Stand p l e ({ frames := 2, cells := 6, slots := 108, locals := 40 } : Room) (s.setVm s.vm) m #[(.ref a_1), (.int p_2), (.ref a_3)] below meth c s₁ [] 0 0 := X0
  have hZ : Z.Warmed39 (s.setVm s.vm).vm := hZ
  have hown : (s.setVm s.vm).vm.findClass "com/example/kalchas/kalchas/propositional/HornClauses" = some m.cls := hown
  have hS0 : s.Since s.vm 0 := (State.WarmedH.refl s).since 0
  have z0 : n0 ≤ h0.size := Z0
  have z1 := own_lt pr_E_a_1.lt
  have z2 := own_lt pr_F_a_1_variableCount.lt
  have z3 := own_lt pr_F_a_1_clauseCount.lt
  have z4 := own_lt pr_F_a_1_heads.lt
  have z5 := own_lt pr_F_a_1_bodyStarts.lt
  have z6 := own_lt pr_F_a_1_bodies.lt
  have z7 := own_lt pr_F_a_1_occurrences.lt
  have z8 := own_lt pr_A_wh.lt
  have z9 := own_lt pr_A_wst.lt
  have z10 := own_lt pr_A_wb.lt
  have z11 := own_lt pr_A_a_3.lt
  have ho12 := hord
  simp only [own_lts, and_true] at ho12
  have K0 : Keep h0 h0 [a_1, wh, wst, wb] := Keep.refl h0 _
  show own_Go p.tables e below (fun t o => t.status = .running ∧ Ended t below o ∧ ∃ v L, o = .returned v ∧ own_Q4_12 Z a_1 p_2 a_3 wh wst wb gh gs gb bs w_occ y0 y1 h0 n0 v t.heap L ∧ ReturnedEndW s o t L ({ frames := 2, cells := 6, slots := 108, locals := 40 } : Room).cells ({ frames := 2, cells := 6, slots := 108, locals := 40 } : Room).slots) s₁ (entryFrame m #[(.ref a_1), (.int p_2), (.ref a_3)] 7)
  rw [own_ef_own_rm4_12 m a_1 p_2 a_3]
  show own_Go _ _ _ _ s₁ (mkF m 0 #[.val (.ref a_1), .val (.int p_2), .val (.ref a_3), .unset, .unset, .unset, .unset] [])
  refine own_go (fun _ k => XS.aloadN X0.here hx rfl (hb hby own_d4_0) rfl rfl k) ?_
  show own_Go _ _ _ _ s₁ (mkF m 1 #[.val (.ref a_1), .val (.int p_2), .val (.ref a_3), .unset, .unset, .unset, .unset] [(.ref a_1)])
  refine own_go (fun _ k => XS.iloadN X0.here hx rfl (hb hby own_d4_1) rfl k) ?_
  show own_Go _ _ _ _ s₁ (mkF m 2 #[.val (.ref a_1), .val (.int p_2), .val (.ref a_3), .unset, .unset, .unset, .unset] [(.int p_2), (.ref a_1)])
  obtain ⟨cq13, kq13, q13a, q13b, q13c⟩ := isOf hZ e0 pr_E_a_1
  obtain ⟨_, _, ⟨T13, L13, k13, n13⟩, -, X13, hS13, gr13, ⟨Lc13, hQ13, l13, y13, z13⟩, st13⟩ := X0.virtualBackS hx (y := (⟨"com/example/kalchas/kalchas/propositional/HornClauses", "checkVariable", "(I)V"⟩ : MethodName)) (z := (⟨"com/example/kalchas/kalchas/propositional/HornClauses", "checkVariable", "(I)V"⟩ : MethodName)) hown (mvT hZ (hw _ (List.mem_of_getElem? (i := 31) rfl))) (mvT hZ (hw _ (List.mem_of_getElem? (i := 32) rfl))) (notFace_of_selects (args := #[]) (mvT hZ (hw _ (List.mem_of_getElem? (i := 34) rfl)))) (mvT hZ (hw _ (List.mem_of_getElem? (i := 34) rfl))) (mvT hZ (hw _ (List.mem_of_getElem? (i := 33) rfl))) (by decide) (backOfS (W := 0) (own_rm5 l Z a0 hw [] a_1 p_2 (3 : Int32) h0 n0 (by omega) (show ¬ (p_2 < 0) by first | assumption | omega | decide) (show p_2 < (3 : Int32) by first | assumption | omega | decide) pr_F_a_1_variableCount) hZ (hw _ (List.mem_of_getElem? (i := 35) rfl)) (hw _ (List.mem_of_getElem? (i := 4) rfl)) (by decide) (by decide)) q13a q13c (g := (mkF m 2 #[.val (.ref a_1), .val (.int p_2), .val (.ref a_3), .unset, .unset, .unset, .unset] [(.int p_2), (.ref a_1)])) rfl (by rw [hml]; rfl) (Steps.refl _) (argsL := [(.int p_2)]) (rest := []) (lenOf own_pd1 rfl) rfl (by show 2 * 0 + _ ≤ _; exact Nat.le_of_eq rfl) (hb hby own_d4_2) (fun _ _ => ⟨rfl, e0, (by decide : 0 + 2 ≤ _), (by decide : 0 + 36 ≤ _)⟩)
  dsimp only [Pt.U, Pt.locs, Pt.cells, Pt.slots] at X13 l13 y13 z13 st13 hQ13 hS13 gr13
  have y13 : k13 = 2 := y13
  have z13 : n13 = 36 := z13
  have Wn13 := hS13.1
  obtain ⟨X13, hS13, hZ, hown⟩ := rebS hS0 (n1 := s₁.heap.size) (by rw [e0]; omega) X13 hS13 gr13 hZ hown
  obtain ⟨rfl, N13q, K13q⟩ := hQ13
  have N13 : Fr n0 L13 := by rw [l13]; exact Fr.app N0 N13q
  have z14 := K13q.1
  have K13 : Keep h0 T13.heap [a_1, wh, wst, wb] := K0.trans K13q all0
  refine own_go (fun _ k => st13.trans k) ?_
  show own_Go _ _ _ _ T13 (mkF m 5 #[.val (.ref a_1), .val (.int p_2), .val (.ref a_3), .unset, .unset, .unset, .unset] [])
  refine own_go (fun _ k => XS.aloadN X13.here hx rfl (hb hby own_d4_5) rfl rfl k) ?_
  show own_Go _ _ _ _ T13 (mkF m 6 #[.val (.ref a_1), .val (.int p_2), .val (.ref a_3), .unset, .unset, .unset, .unset] [(.ref a_3)])
  refine own_go (fun _ k => XS.astoreN X13.here hx rfl (hb hby own_d4_6) rfl rfl (l' := #[.val (.ref a_1), .val (.int p_2), .val (.ref a_3), .val (.ref a_3), .unset, .unset, .unset]) rfl k) ?_
  show own_Go _ _ _ _ T13 (mkF m 7 #[.val (.ref a_1), .val (.int p_2), .val (.ref a_3), .val (.ref a_3), .unset, .unset, .unset] [])
  refine own_go (fun _ k => XS.aloadN X13.here hx rfl (hb hby own_d4_7) rfl rfl k) ?_
  show own_Go _ _ _ _ T13 (mkF m 8 #[.val (.ref a_1), .val (.int p_2), .val (.ref a_3), .val (.ref a_3), .unset, .unset, .unset] [(.ref a_3)])
  have f15 : own_AV Z T13.heap a_3 .int (2 : Int32) (own_upd (own_upd (fun _ => (.int (0 : Int32))) 0 (.int y0)) 1 (.int y1)) := (pr_A_a_3.keep K13q nin0)
  obtain ⟨q16, c16, R16, s16, t16⟩ := id f15
  refine own_go (fun _ k => X13.arraylength hx R16.1 (State.isArrayOf_alike hZ.alike R16.2.1) (g := (mkF m 8 #[.val (.ref a_1), .val (.int p_2), .val (.ref a_3), .val (.ref a_3), .unset, .unset, .unset] [(.ref a_3)])) rfl rfl (hb hby own_d4_8) _ k) ?_
  rw [len_of s16 q16]
  show own_Go _ _ _ _ T13 (mkF m 9 #[.val (.ref a_1), .val (.int p_2), .val (.ref a_3), .val (.ref a_3), .unset, .unset, .unset] [(.int (2 : Int32))])
  refine own_go (fun _ k => XS.istore X13.here hx rfl (hb hby own_d4_9) rfl (l' := #[.val (.ref a_1), .val (.int p_2), .val (.ref a_3), .val (.ref a_3), .val (.int (2 : Int32)), .unset, .unset]) rfl k) ?_
  show own_Go _ _ _ _ T13 (mkF m 11 #[.val (.ref a_1), .val (.int p_2), .val (.ref a_3), .val (.ref a_3), .val (.int (2 : Int32)), .unset, .unset] [])
  refine own_go (fun _ k => XS.iconst X13.here hx rfl (hb hby own_d4_11) k) ?_
  show own_Go _ _ _ _ T13 (mkF m 12 #[.val (.ref a_1), .val (.int p_2), .val (.ref a_3), .val (.ref a_3), .val (.int (2 : Int32)), .unset, .unset] [(.int (0 : Int32))])
  refine own_go (fun _ k => XS.istore X13.here hx rfl (hb hby own_d4_12) rfl (l' := #[.val (.ref a_1), .val (.int p_2), .val (.ref a_3), .val (.ref a_3), .val (.int (2 : Int32)), .val (.int (0 : Int32)), .unset]) rfl k) ?_
  show own_Go _ _ _ _ T13 (mkF m 14 #[.val (.ref a_1), .val (.int p_2), .val (.ref a_3), .val (.ref a_3), .val (.int (2 : Int32)), .val (.int (0 : Int32)), .unset] [])
  refine own_go (fun _ k => XS.iload X13.here hx rfl (hb hby own_d4_14) rfl k) ?_
  show own_Go _ _ _ _ T13 (mkF m 16 #[.val (.ref a_1), .val (.int p_2), .val (.ref a_3), .val (.ref a_3), .val (.int (2 : Int32)), .val (.int (0 : Int32)), .unset] [(.int (0 : Int32))])
  refine own_go (fun _ k => XS.iload X13.here hx rfl (hb hby own_d4_16) rfl k) ?_
  show own_Go _ _ _ _ T13 (mkF m 18 #[.val (.ref a_1), .val (.int p_2), .val (.ref a_3), .val (.ref a_3), .val (.int (2 : Int32)), .val (.int (0 : Int32)), .unset] [(.int (2 : Int32)), (.int (0 : Int32))])
  have hc17 : (0 : Int32) < (2 : Int32) := by decide
  refine own_go (fun _ k => XS.icmpNo X13.here hx rfl (hb hby own_d4_18) rfl (Jvm.Free.XT.ii_ge_f hc17) k) ?_
  show own_Go _ _ _ _ T13 (mkF m 21 #[.val (.ref a_1), .val (.int p_2), .val (.ref a_3), .val (.ref a_3), .val (.int (2 : Int32)), .val (.int (0 : Int32)), .unset] [])
  refine own_go (fun _ k => XS.aloadN X13.here hx rfl (hb hby own_d4_21) rfl rfl k) ?_
  show own_Go _ _ _ _ T13 (mkF m 22 #[.val (.ref a_1), .val (.int p_2), .val (.ref a_3), .val (.ref a_3), .val (.int (2 : Int32)), .val (.int (0 : Int32)), .unset] [(.ref a_3)])
  refine own_go (fun _ k => XS.iload X13.here hx rfl (hb hby own_d4_22) rfl k) ?_
  show own_Go _ _ _ _ T13 (mkF m 24 #[.val (.ref a_1), .val (.int p_2), .val (.ref a_3), .val (.ref a_3), .val (.int (2 : Int32)), .val (.int (0 : Int32)), .unset] [(.int (0 : Int32)), (.ref a_3)])
  obtain ⟨q18, c18, R18, s18, t18⟩ := id f15
  have hin18 : ¬ ((0 : Int32) < 0 ∨ c18.slots.size ≤ ((0 : Int32)).toNatClampNeg) := inb_of s18 ⟨by decide, by decide⟩
  have u18 : c18.slots[((0 : Int32)).toNatClampNeg]? = some (.int y0) := own_at (k := 0) t18 s18 hin18 (by decide) (rfl)
  refine own_go (fun _ k => X13.iaload hx (j := (0 : Int32)) (v := (.int y0)) R18.1 (State.isArrayOf_alike hZ.alike R18.2.1) R18.2.2 hin18 u18 (g := (mkF m 24 #[.val (.ref a_1), .val (.int p_2), .val (.ref a_3), .val (.ref a_3), .val (.int (2 : Int32)), .val (.int (0 : Int32)), .unset] [(.int (0 : Int32)), (.ref a_3)])) rfl rfl (hb hby own_d4_24) _ k) ?_
  show own_Go _ _ _ _ T13 (mkF m 25 #[.val (.ref a_1), .val (.int p_2), .val (.ref a_3), .val (.ref a_3), .val (.int (2 : Int32)), .val (.int (0 : Int32)), .unset] [(.int y0)])
  refine own_go (fun _ k => XS.istore X13.here hx rfl (hb hby own_d4_25) rfl (l' := #[.val (.ref a_1), .val (.int p_2), .val (.ref a_3), .val (.ref a_3), .val (.int (2 : Int32)), .val (.int (0 : Int32)), .val (.int y0)]) rfl k) ?_
  show own_Go _ _ _ _ T13 (mkF m 27 #[.val (.ref a_1), .val (.int p_2), .val (.ref a_3), .val (.ref a_3), .val (.int (2 : Int32)), .val (.int (0 : Int32)), .val (.int y0)] [])
  refine own_go (fun _ k => XS.aloadN X13.here hx rfl (hb hby own_d4_27) rfl rfl k) ?_
  show own_Go _ _ _ _ T13 (mkF m 28 #[.val (.ref a_1), .val (.int p_2), .val (.ref a_3), .val (.ref a_3), .val (.int (2 : Int32)), .val (.int (0 : Int32)), .val (.int y0)] [(.ref a_1)])
  refine own_go (fun _ k => XS.iload X13.here hx rfl (hb hby own_d4_28) rfl k) ?_
  show own_Go _ _ _ _ T13 (mkF m 30 #[.val (.ref a_1), .val (.int p_2), .val (.ref a_3), .val (.ref a_3), .val (.int (2 : Int32)), .val (.int (0 : Int32)), .val (.int y0)] [(.int y0), (.ref a_1)])
  have f19 : Fld Z T13.heap a_1 "com/example/kalchas/kalchas/propositional/HornClauses" "variableCount" "I" (.int (3 : Int32)) := (pr_F_a_1_variableCount.keep K13q nin0)
  have f21 : Exa Z T13.heap a_1 "com/example/kalchas/kalchas/propositional/HornClauses" := (pr_E_a_1.keep K13q)
  obtain ⟨cq20, kq20, q20a, q20b, q20c⟩ := isOf hZ rfl f21
  obtain ⟨_, _, ⟨T20, L20, k20, n20⟩, -, X20, hS20, gr20, ⟨Lc20, hQ20, l20, y20, z20⟩, st20⟩ := X13.virtualBackS hx (y := (⟨"com/example/kalchas/kalchas/propositional/HornClauses", "checkVariable", "(I)V"⟩ : MethodName)) (z := (⟨"com/example/kalchas/kalchas/propositional/HornClauses", "checkVariable", "(I)V"⟩ : MethodName)) hown (mvT hZ (hw _ (List.mem_of_getElem? (i := 31) rfl))) (mvT hZ (hw _ (List.mem_of_getElem? (i := 32) rfl))) (notFace_of_selects (args := #[]) (mvT hZ (hw _ (List.mem_of_getElem? (i := 34) rfl)))) (mvT hZ (hw _ (List.mem_of_getElem? (i := 34) rfl))) (mvT hZ (hw _ (List.mem_of_getElem? (i := 33) rfl))) (by decide) (backOfS (W := 0) (own_rm5 l Z a0 hw [] a_1 y0 (3 : Int32) T13.heap n0 (by omega) (show ¬ (y0 < 0) by first | assumption | omega | decide) (show y0 < (3 : Int32) by first | assumption | omega | decide) f19) hZ (hw _ (List.mem_of_getElem? (i := 35) rfl)) (hw _ (List.mem_of_getElem? (i := 4) rfl)) (by decide) (by decide)) q20a q20c (g := (mkF m 30 #[.val (.ref a_1), .val (.int p_2), .val (.ref a_3), .val (.ref a_3), .val (.int (2 : Int32)), .val (.int (0 : Int32)), .val (.int y0)] [(.int y0), (.ref a_1)])) rfl (by rw [hml]; rfl) (Steps.refl _) (argsL := [(.int y0)]) (rest := []) (lenOf own_pd1 rfl) rfl (by show 2 * 0 + _ ≤ _; exact Nat.le_of_eq rfl) (hb hby own_d4_30) (fun _ _ => ⟨rfl, rfl, (by show k13 + _ ≤ _; rw [y13]; decide), (by show n13 + _ ≤ _; rw [z13]; decide)⟩)
  dsimp only [Pt.U, Pt.locs, Pt.cells, Pt.slots] at X20 l20 y20 z20 st20 hQ20 hS20 gr20
  have y20 : k20 = 4 := own_addeq y20 (congrArg (fun q => q) y13) rfl
  have z20 : n20 = 72 := own_addeq z20 (congrArg (fun q => q) z13) rfl
  have Wn20 := hS20.1
  obtain ⟨X20, hS20, hZ, hown⟩ := rebS hS13 (n1 := T13.heap.size) (by omega) X20 hS20 gr20 hZ hown
  obtain ⟨rfl, N20q, K20q⟩ := hQ20
  have N20 : Fr n0 L20 := by rw [l20]; exact Fr.app N13 N20q
  have z22 := K20q.1
  have K20 : Keep h0 T20.heap [a_1, wh, wst, wb] := K13.trans K20q all0
  refine own_go (fun _ k => st20.trans k) ?_
  show own_Go _ _ _ _ T20 (mkF m 33 #[.val (.ref a_1), .val (.int p_2), .val (.ref a_3), .val (.ref a_3), .val (.int (2 : Int32)), .val (.int (0 : Int32)), .val (.int y0)] [])
  refine own_go (fun _ k => XS.iinc X20.here hx rfl (hb hby own_d4_33) rfl (l' := #[.val (.ref a_1), .val (.int p_2), .val (.ref a_3), .val (.ref a_3), .val (.int (2 : Int32)), .val (.int (1 : Int32)), .val (.int y0)]) rfl k) ?_
  show own_Go _ _ _ _ T20 (mkF m 36 #[.val (.ref a_1), .val (.int p_2), .val (.ref a_3), .val (.ref a_3), .val (.int (2 : Int32)), .val (.int (1 : Int32)), .val (.int y0)] [])
  refine own_go (fun _ k => XS.goto X20.here hx rfl (pc0 := 36) (pc' := 14) rfl (hb hby own_d4_36) (by decide) (by decide) k) ?_
  show own_Go _ _ _ _ T20 (mkF m 14 #[.val (.ref a_1), .val (.int p_2), .val (.ref a_3), .val (.ref a_3), .val (.int (2 : Int32)), .val (.int (1 : Int32)), .val (.int y0)] [])
  refine own_go (fun _ k => XS.iload X20.here hx rfl (hb hby own_d4_14) rfl k) ?_
  show own_Go _ _ _ _ T20 (mkF m 16 #[.val (.ref a_1), .val (.int p_2), .val (.ref a_3), .val (.ref a_3), .val (.int (2 : Int32)), .val (.int (1 : Int32)), .val (.int y0)] [(.int (1 : Int32))])
  refine own_go (fun _ k => XS.iload X20.here hx rfl (hb hby own_d4_16) rfl k) ?_
  show own_Go _ _ _ _ T20 (mkF m 18 #[.val (.ref a_1), .val (.int p_2), .val (.ref a_3), .val (.ref a_3), .val (.int (2 : Int32)), .val (.int (1 : Int32)), .val (.int y0)] [(.int (2 : Int32)), (.int (1 : Int32))])
  have hc23 : (1 : Int32) < (2 : Int32) := by decide
  refine own_go (fun _ k => XS.icmpNo X20.here hx rfl (hb hby own_d4_18) rfl (Jvm.Free.XT.ii_ge_f hc23) k) ?_
  show own_Go _ _ _ _ T20 (mkF m 21 #[.val (.ref a_1), .val (.int p_2), .val (.ref a_3), .val (.ref a_3), .val (.int (2 : Int32)), .val (.int (1 : Int32)), .val (.int y0)] [])
  refine own_go (fun _ k => XS.aloadN X20.here hx rfl (hb hby own_d4_21) rfl rfl k) ?_
  show own_Go _ _ _ _ T20 (mkF m 22 #[.val (.ref a_1), .val (.int p_2), .val (.ref a_3), .val (.ref a_3), .val (.int (2 : Int32)), .val (.int (1 : Int32)), .val (.int y0)] [(.ref a_3)])
  refine own_go (fun _ k => XS.iload X20.here hx rfl (hb hby own_d4_22) rfl k) ?_
  show own_Go _ _ _ _ T20 (mkF m 24 #[.val (.ref a_1), .val (.int p_2), .val (.ref a_3), .val (.ref a_3), .val (.int (2 : Int32)), .val (.int (1 : Int32)), .val (.int y0)] [(.int (1 : Int32)), (.ref a_3)])
  have f24 : own_AV Z T20.heap a_3 .int (2 : Int32) (own_upd (own_upd (fun _ => (.int (0 : Int32))) 0 (.int y0)) 1 (.int y1)) := (f15.keep K20q nin0)
  obtain ⟨q25, c25, R25, s25, t25⟩ := id f24
  have hin25 : ¬ ((1 : Int32) < 0 ∨ c25.slots.size ≤ ((1 : Int32)).toNatClampNeg) := inb_of s25 ⟨by decide, by decide⟩
  have u25 : c25.slots[((1 : Int32)).toNatClampNeg]? = some (.int y1) := own_at (k := 1) t25 s25 hin25 (by decide) (rfl)
  refine own_go (fun _ k => X20.iaload hx (j := (1 : Int32)) (v := (.int y1)) R25.1 (State.isArrayOf_alike hZ.alike R25.2.1) R25.2.2 hin25 u25 (g := (mkF m 24 #[.val (.ref a_1), .val (.int p_2), .val (.ref a_3), .val (.ref a_3), .val (.int (2 : Int32)), .val (.int (1 : Int32)), .val (.int y0)] [(.int (1 : Int32)), (.ref a_3)])) rfl rfl (hb hby own_d4_24) _ k) ?_
  show own_Go _ _ _ _ T20 (mkF m 25 #[.val (.ref a_1), .val (.int p_2), .val (.ref a_3), .val (.ref a_3), .val (.int (2 : Int32)), .val (.int (1 : Int32)), .val (.int y0)] [(.int y1)])
  refine own_go (fun _ k => XS.istore X20.here hx rfl (hb hby own_d4_25) rfl (l' := #[.val (.ref a_1), .val (.int p_2), .val (.ref a_3), .val (.ref a_3), .val (.int (2 : Int32)), .val (.int (1 : Int32)), .val (.int y1)]) rfl k) ?_
  show own_Go _ _ _ _ T20 (mkF m 27 #[.val (.ref a_1), .val (.int p_2), .val (.ref a_3), .val (.ref a_3), .val (.int (2 : Int32)), .val (.int (1 : Int32)), .val (.int y1)] [])
  refine own_go (fun _ k => XS.aloadN X20.here hx rfl (hb hby own_d4_27) rfl rfl k) ?_
  show own_Go _ _ _ _ T20 (mkF m 28 #[.val (.ref a_1), .val (.int p_2), .val (.ref a_3), .val (.ref a_3), .val (.int (2 : Int32)), .val (.int (1 : Int32)), .val (.int y1)] [(.ref a_1)])
  refine own_go (fun _ k => XS.iload X20.here hx rfl (hb hby own_d4_28) rfl k) ?_
  show own_Go _ _ _ _ T20 (mkF m 30 #[.val (.ref a_1), .val (.int p_2), .val (.ref a_3), .val (.ref a_3), .val (.int (2 : Int32)), .val (.int (1 : Int32)), .val (.int y1)] [(.int y1), (.ref a_1)])
  have f26 : Fld Z T20.heap a_1 "com/example/kalchas/kalchas/propositional/HornClauses" "variableCount" "I" (.int (3 : Int32)) := (f19.keep K20q nin0)
  have f28 : Exa Z T20.heap a_1 "com/example/kalchas/kalchas/propositional/HornClauses" := (f21.keep K20q)
  obtain ⟨cq27, kq27, q27a, q27b, q27c⟩ := isOf hZ rfl f28
  obtain ⟨_, _, ⟨T27, L27, k27, n27⟩, -, X27, hS27, gr27, ⟨Lc27, hQ27, l27, y27, z27⟩, st27⟩ := X20.virtualBackS hx (y := (⟨"com/example/kalchas/kalchas/propositional/HornClauses", "checkVariable", "(I)V"⟩ : MethodName)) (z := (⟨"com/example/kalchas/kalchas/propositional/HornClauses", "checkVariable", "(I)V"⟩ : MethodName)) hown (mvT hZ (hw _ (List.mem_of_getElem? (i := 31) rfl))) (mvT hZ (hw _ (List.mem_of_getElem? (i := 32) rfl))) (notFace_of_selects (args := #[]) (mvT hZ (hw _ (List.mem_of_getElem? (i := 34) rfl)))) (mvT hZ (hw _ (List.mem_of_getElem? (i := 34) rfl))) (mvT hZ (hw _ (List.mem_of_getElem? (i := 33) rfl))) (by decide) (backOfS (W := 0) (own_rm5 l Z a0 hw [] a_1 y1 (3 : Int32) T20.heap n0 (by omega) (show ¬ (y1 < 0) by first | assumption | omega | decide) (show y1 < (3 : Int32) by first | assumption | omega | decide) f26) hZ (hw _ (List.mem_of_getElem? (i := 35) rfl)) (hw _ (List.mem_of_getElem? (i := 4) rfl)) (by decide) (by decide)) q27a q27c (g := (mkF m 30 #[.val (.ref a_1), .val (.int p_2), .val (.ref a_3), .val (.ref a_3), .val (.int (2 : Int32)), .val (.int (1 : Int32)), .val (.int y1)] [(.int y1), (.ref a_1)])) rfl (by rw [hml]; rfl) (Steps.refl _) (argsL := [(.int y1)]) (rest := []) (lenOf own_pd1 rfl) rfl (by show 2 * 0 + _ ≤ _; exact Nat.le_of_eq rfl) (hb hby own_d4_30) (fun _ _ => ⟨rfl, rfl, (by show k20 + _ ≤ _; rw [y20]; decide), (by show n20 + _ ≤ _; rw [z20]; decide)⟩)
  dsimp only [Pt.U, Pt.locs, Pt.cells, Pt.slots] at X27 l27 y27 z27 st27 hQ27 hS27 gr27
  have y27 : k27 = 6 := own_addeq y27 (congrArg (fun q => q) y20) rfl
  have z27 : n27 = 108 := own_addeq z27 (congrArg (fun q => q) z20) rfl
  have Wn27 := hS27.1
  obtain ⟨X27, hS27, hZ, hown⟩ := rebS hS20 (n1 := T20.heap.size) (by omega) X27 hS27 gr27 hZ hown
  obtain ⟨rfl, N27q, K27q⟩ := hQ27
  have N27 : Fr n0 L27 := by rw [l27]; exact Fr.app N20 N27q
  have z29 := K27q.1
  have K27 : Keep h0 T27.heap [a_1, wh, wst, wb] := K20.trans K27q all0
  refine own_go (fun _ k => st27.trans k) ?_
  show own_Go _ _ _ _ T27 (mkF m 33 #[.val (.ref a_1), .val (.int p_2), .val (.ref a_3), .val (.ref a_3), .val (.int (2 : Int32)), .val (.int (1 : Int32)), .val (.int y1)] [])
  refine own_go (fun _ k => XS.iinc X27.here hx rfl (hb hby own_d4_33) rfl (l' := #[.val (.ref a_1), .val (.int p_2), .val (.ref a_3), .val (.ref a_3), .val (.int (2 : Int32)), .val (.int (2 : Int32)), .val (.int y1)]) rfl k) ?_
  show own_Go _ _ _ _ T27 (mkF m 36 #[.val (.ref a_1), .val (.int p_2), .val (.ref a_3), .val (.ref a_3), .val (.int (2 : Int32)), .val (.int (2 : Int32)), .val (.int y1)] [])
  refine own_go (fun _ k => XS.goto X27.here hx rfl (pc0 := 36) (pc' := 14) rfl (hb hby own_d4_36) (by decide) (by decide) k) ?_
  show own_Go _ _ _ _ T27 (mkF m 14 #[.val (.ref a_1), .val (.int p_2), .val (.ref a_3), .val (.ref a_3), .val (.int (2 : Int32)), .val (.int (2 : Int32)), .val (.int y1)] [])
  refine own_go (fun _ k => XS.iload X27.here hx rfl (hb hby own_d4_14) rfl k) ?_
  show own_Go _ _ _ _ T27 (mkF m 16 #[.val (.ref a_1), .val (.int p_2), .val (.ref a_3), .val (.ref a_3), .val (.int (2 : Int32)), .val (.int (2 : Int32)), .val (.int y1)] [(.int (2 : Int32))])
  refine own_go (fun _ k => XS.iload X27.here hx rfl (hb hby own_d4_16) rfl k) ?_
  show own_Go _ _ _ _ T27 (mkF m 18 #[.val (.ref a_1), .val (.int p_2), .val (.ref a_3), .val (.ref a_3), .val (.int (2 : Int32)), .val (.int (2 : Int32)), .val (.int y1)] [(.int (2 : Int32)), (.int (2 : Int32))])
  have hc30 : ¬ ((2 : Int32) < (2 : Int32)) := by decide
  refine own_go (fun _ k => XS.icmpYes X27.here hx rfl (pc0 := 18) (pc' := 39) rfl (hb hby own_d4_18) rfl (Jvm.Free.XT.ii_ge_t hc30) (by decide) (by decide) k) ?_
  show own_Go _ _ _ _ T27 (mkF m 39 #[.val (.ref a_1), .val (.int p_2), .val (.ref a_3), .val (.ref a_3), .val (.int (2 : Int32)), .val (.int (2 : Int32)), .val (.int y1)] [])
  refine own_go (fun _ k => XS.aloadN X27.here hx rfl (hb hby own_d4_39) rfl rfl k) ?_
  show own_Go _ _ _ _ T27 (mkF m 40 #[.val (.ref a_1), .val (.int p_2), .val (.ref a_3), .val (.ref a_3), .val (.int (2 : Int32)), .val (.int (2 : Int32)), .val (.int y1)] [(.ref a_1)])
  have f31 : Fld Z T27.heap a_1 "com/example/kalchas/kalchas/propositional/HornClauses" "clauseCount" "I" (.int (1 : Int32)) := (((pr_F_a_1_clauseCount.keep K13q nin0).keep K20q nin0).keep K27q nin0)
  obtain ⟨T32, X32, e32, st32⟩ := getF X27 hx hZ hown (host := "") (Or.inl (hw _ (List.mem_of_getElem? (i := 47) rfl))) Via.refl rfl f31 (g := (mkF m 40 #[.val (.ref a_1), .val (.int p_2), .val (.ref a_3), .val (.ref a_3), .val (.int (2 : Int32)), .val (.int (2 : Int32)), .val (.int y1)] [(.ref a_1)])) rfl rfl (hb hby own_d4_40)
  refine own_go (fun _ k => st32 _ k) ?_
  show own_Go _ _ _ _ T32 (mkF m 43 #[.val (.ref a_1), .val (.int p_2), .val (.ref a_3), .val (.ref a_3), .val (.int (2 : Int32)), .val (.int (2 : Int32)), .val (.int y1)] [(.int (1 : Int32))])
  refine own_go (fun _ k => XS.aloadN X32.here hx rfl (hb hby own_d4_43) rfl rfl k) ?_
  show own_Go _ _ _ _ T32 (mkF m 44 #[.val (.ref a_1), .val (.int p_2), .val (.ref a_3), .val (.ref a_3), .val (.int (2 : Int32)), .val (.int (2 : Int32)), .val (.int y1)] [(.ref a_1), (.int (1 : Int32))])
  have f33 : Fld Z T27.heap a_1 "com/example/kalchas/kalchas/propositional/HornClauses" "heads" "[I" (.ref wh) := (((pr_F_a_1_heads.keep K13q nin0).keep K20q nin0).keep K27q nin0)
  obtain ⟨T34, X34, e34, st34⟩ := getF X32 hx hZ hown (host := "") (Or.inl (hw _ (List.mem_of_getElem? (i := 11) rfl))) Via.refl e32 f33 (g := (mkF m 44 #[.val (.ref a_1), .val (.int p_2), .val (.ref a_3), .val (.ref a_3), .val (.int (2 : Int32)), .val (.int (2 : Int32)), .val (.int y1)] [(.ref a_1), (.int (1 : Int32))])) rfl rfl (hb hby own_d4_44)
  refine own_go (fun _ k => st34 _ k) ?_
  show own_Go _ _ _ _ T34 (mkF m 47 #[.val (.ref a_1), .val (.int p_2), .val (.ref a_3), .val (.ref a_3), .val (.int (2 : Int32)), .val (.int (2 : Int32)), .val (.int y1)] [(.ref wh), (.int (1 : Int32))])
  have f35 : own_AV Z T27.heap wh .int (64 : Int32) gh := (((pr_A_wh.keep K13q nin0).keep K20q nin0).keep K27q nin0)
  obtain ⟨q36, c36, R36, s36, t36⟩ := id f35
  refine own_go (fun _ k => X34.arraylength hx (by rw [e34]; exact R36.1) (State.isArrayOf_alike hZ.alike R36.2.1) (g := (mkF m 47 #[.val (.ref a_1), .val (.int p_2), .val (.ref a_3), .val (.ref a_3), .val (.int (2 : Int32)), .val (.int (2 : Int32)), .val (.int y1)] [(.ref wh), (.int (1 : Int32))])) rfl rfl (hb hby own_d4_47) _ k) ?_
  rw [len_of s36 q36]
  show own_Go _ _ _ _ T34 (mkF m 48 #[.val (.ref a_1), .val (.int p_2), .val (.ref a_3), .val (.ref a_3), .val (.int (2 : Int32)), .val (.int (2 : Int32)), .val (.int y1)] [(.int (64 : Int32)), (.int (1 : Int32))])
  have hc37 : ¬ ((1 : Int32) = (64 : Int32)) := by decide
  refine own_go (fun _ k => XS.icmpYes X34.here hx rfl (pc0 := 48) (pc' := 85) rfl (hb hby own_d4_48) rfl (Jvm.Free.XT.ii_ne_t hc37) (by decide) (by decide) k) ?_
  show own_Go _ _ _ _ T34 (mkF m 85 #[.val (.ref a_1), .val (.int p_2), .val (.ref a_3), .val (.ref a_3), .val (.int (2 : Int32)), .val (.int (2 : Int32)), .val (.int y1)] [])
  refine own_go (fun _ k => XS.aloadN X34.here hx rfl (hb hby own_d4_85) rfl rfl k) ?_
  show own_Go _ _ _ _ T34 (mkF m 86 #[.val (.ref a_1), .val (.int p_2), .val (.ref a_3), .val (.ref a_3), .val (.int (2 : Int32)), .val (.int (2 : Int32)), .val (.int y1)] [(.ref a_1)])
  have f38 : Fld Z T27.heap a_1 "com/example/kalchas/kalchas/propositional/HornClauses" "bodyStarts" "[I" (.ref wst) := (((pr_F_a_1_bodyStarts.keep K13q nin0).keep K20q nin0).keep K27q nin0)
  obtain ⟨T39, X39, e39, st39⟩ := getF X34 hx hZ hown (host := "") (Or.inl (hw _ (List.mem_of_getElem? (i := 13) rfl))) Via.refl e34 f38 (g := (mkF m 86 #[.val (.ref a_1), .val (.int p_2), .val (.ref a_3), .val (.ref a_3), .val (.int (2 : Int32)), .val (.int (2 : Int32)), .val (.int y1)] [(.ref a_1)])) rfl rfl (hb hby own_d4_86)
  refine own_go (fun _ k => st39 _ k) ?_
  show own_Go _ _ _ _ T39 (mkF m 89 #[.val (.ref a_1), .val (.int p_2), .val (.ref a_3), .val (.ref a_3), .val (.int (2 : Int32)), .val (.int (2 : Int32)), .val (.int y1)] [(.ref wst)])
  refine own_go (fun _ k => XS.aloadN X39.here hx rfl (hb hby own_d4_89) rfl rfl k) ?_
  show own_Go _ _ _ _ T39 (mkF m 90 #[.val (.ref a_1), .val (.int p_2), .val (.ref a_3), .val (.ref a_3), .val (.int (2 : Int32)), .val (.int (2 : Int32)), .val (.int y1)] [(.ref a_1), (.ref wst)])
  obtain ⟨T40, X40, e40, st40⟩ := getF X39 hx hZ hown (host := "") (Or.inl (hw _ (List.mem_of_getElem? (i := 47) rfl))) Via.refl e39 f31 (g := (mkF m 90 #[.val (.ref a_1), .val (.int p_2), .val (.ref a_3), .val (.ref a_3), .val (.int (2 : Int32)), .val (.int (2 : Int32)), .val (.int y1)] [(.ref a_1), (.ref wst)])) rfl rfl (hb hby own_d4_90)
  refine own_go (fun _ k => st40 _ k) ?_
  show own_Go _ _ _ _ T40 (mkF m 93 #[.val (.ref a_1), .val (.int p_2), .val (.ref a_3), .val (.ref a_3), .val (.int (2 : Int32)), .val (.int (2 : Int32)), .val (.int y1)] [(.int (1 : Int32)), (.ref wst)])
  have f41 : own_AV Z T27.heap wst .int (65 : Int32) gs := (((pr_A_wst.keep K13q nin0).keep K20q nin0).keep K27q nin0)
  obtain ⟨q42, c42, R42, s42, t42⟩ := id f41
  have hin42 : ¬ ((1 : Int32) < 0 ∨ c42.slots.size ≤ ((1 : Int32)).toNatClampNeg) := inb_of s42 ⟨by decide, by decide⟩
  have u42 : c42.slots[((1 : Int32)).toNatClampNeg]? = some (.int bs) := own_at (k := 1) t42 s42 hin42 (by decide) (hgs)
  refine own_go (fun _ k => X40.iaload hx (j := (1 : Int32)) (v := (.int bs)) (by rw [e40]; exact R42.1) (State.isArrayOf_alike hZ.alike R42.2.1) R42.2.2 hin42 u42 (g := (mkF m 93 #[.val (.ref a_1), .val (.int p_2), .val (.ref a_3), .val (.ref a_3), .val (.int (2 : Int32)), .val (.int (2 : Int32)), .val (.int y1)] [(.int (1 : Int32)), (.ref wst)])) rfl rfl (hb hby own_d4_93) _ k) ?_
  show own_Go _ _ _ _ T40 (mkF m 94 #[.val (.ref a_1), .val (.int p_2), .val (.ref a_3), .val (.ref a_3), .val (.int (2 : Int32)), .val (.int (2 : Int32)), .val (.int y1)] [(.int bs)])
  refine own_go (fun _ k => XS.istoreN X40.here hx rfl (hb hby own_d4_94) rfl (l' := #[.val (.ref a_1), .val (.int p_2), .val (.ref a_3), .val (.int bs), .val (.int (2 : Int32)), .val (.int (2 : Int32)), .val (.int y1)]) rfl k) ?_
  show own_Go _ _ _ _ T40 (mkF m 95 #[.val (.ref a_1), .val (.int p_2), .val (.ref a_3), .val (.int bs), .val (.int (2 : Int32)), .val (.int (2 : Int32)), .val (.int y1)] [])
  refine own_go (fun _ k => XS.iloadN X40.here hx rfl (hb hby own_d4_95) rfl k) ?_
  show own_Go _ _ _ _ T40 (mkF m 96 #[.val (.ref a_1), .val (.int p_2), .val (.ref a_3), .val (.int bs), .val (.int (2 : Int32)), .val (.int (2 : Int32)), .val (.int y1)] [(.int bs)])
  refine own_go (fun _ k => XS.aloadN X40.here hx rfl (hb hby own_d4_96) rfl rfl k) ?_
  show own_Go _ _ _ _ T40 (mkF m 97 #[.val (.ref a_1), .val (.int p_2), .val (.ref a_3), .val (.int bs), .val (.int (2 : Int32)), .val (.int (2 : Int32)), .val (.int y1)] [(.ref a_3), (.int bs)])
  have f43 : own_AV Z T27.heap a_3 .int (2 : Int32) (own_upd (own_upd (fun _ => (.int (0 : Int32))) 0 (.int y0)) 1 (.int y1)) := (f24.keep K27q nin0)
  obtain ⟨q44, c44, R44, s44, t44⟩ := id f43
  refine own_go (fun _ k => X40.arraylength hx (by rw [e40]; exact R44.1) (State.isArrayOf_alike hZ.alike R44.2.1) (g := (mkF m 97 #[.val (.ref a_1), .val (.int p_2), .val (.ref a_3), .val (.int bs), .val (.int (2 : Int32)), .val (.int (2 : Int32)), .val (.int y1)] [(.ref a_3), (.int bs)])) rfl rfl (hb hby own_d4_97) _ k) ?_
  rw [len_of s44 q44]
  show own_Go _ _ _ _ T40 (mkF m 98 #[.val (.ref a_1), .val (.int p_2), .val (.ref a_3), .val (.int bs), .val (.int (2 : Int32)), .val (.int (2 : Int32)), .val (.int y1)] [(.int (2 : Int32)), (.int bs)])
  refine own_go (fun _ k => XS.iadd X40.here hx rfl (hb hby own_d4_98) rfl k) ?_
  show own_Go _ _ _ _ T40 (mkF m 99 #[.val (.ref a_1), .val (.int p_2), .val (.ref a_3), .val (.int bs), .val (.int (2 : Int32)), .val (.int (2 : Int32)), .val (.int y1)] [(.int (bs + (2 : Int32)))])
  refine own_go (fun _ k => XS.aloadN X40.here hx rfl (hb hby own_d4_99) rfl rfl k) ?_
  show own_Go _ _ _ _ T40 (mkF m 100 #[.val (.ref a_1), .val (.int p_2), .val (.ref a_3), .val (.int bs), .val (.int (2 : Int32)), .val (.int (2 : Int32)), .val (.int y1)] [(.ref a_1), (.int (bs + (2 : Int32)))])
  have f45 : Fld Z T27.heap a_1 "com/example/kalchas/kalchas/propositional/HornClauses" "bodies" "[I" (.ref wb) := (((pr_F_a_1_bodies.keep K13q nin0).keep K20q nin0).keep K27q nin0)
  obtain ⟨T46, X46, e46, st46⟩ := getF X40 hx hZ hown (host := "") (Or.inl (hw _ (List.mem_of_getElem? (i := 15) rfl))) Via.refl e40 f45 (g := (mkF m 100 #[.val (.ref a_1), .val (.int p_2), .val (.ref a_3), .val (.int bs), .val (.int (2 : Int32)), .val (.int (2 : Int32)), .val (.int y1)] [(.ref a_1), (.int (bs + (2 : Int32)))])) rfl rfl (hb hby own_d4_100)
  refine own_go (fun _ k => st46 _ k) ?_
  show own_Go _ _ _ _ T46 (mkF m 103 #[.val (.ref a_1), .val (.int p_2), .val (.ref a_3), .val (.int bs), .val (.int (2 : Int32)), .val (.int (2 : Int32)), .val (.int y1)] [(.ref wb), (.int (bs + (2 : Int32)))])
  have f47 : own_AV Z T27.heap wb .int (64 : Int32) gb := (((pr_A_wb.keep K13q nin0).keep K20q nin0).keep K27q nin0)
  obtain ⟨q48, c48, R48, s48, t48⟩ := id f47
  refine own_go (fun _ k => X46.arraylength hx (by rw [e46]; exact R48.1) (State.isArrayOf_alike hZ.alike R48.2.1) (g := (mkF m 103 #[.val (.ref a_1), .val (.int p_2), .val (.ref a_3), .val (.int bs), .val (.int (2 : Int32)), .val (.int (2 : Int32)), .val (.int y1)] [(.ref wb), (.int (bs + (2 : Int32)))])) rfl rfl (hb hby own_d4_103) _ k) ?_
  rw [len_of s48 q48]
  show own_Go _ _ _ _ T46 (mkF m 104 #[.val (.ref a_1), .val (.int p_2), .val (.ref a_3), .val (.int bs), .val (.int (2 : Int32)), .val (.int (2 : Int32)), .val (.int y1)] [(.int (64 : Int32)), (.int (bs + (2 : Int32)))])
  have hc49 : ¬ ((64 : Int32) < (bs + (2 : Int32))) := own_t4_12_0 bs hbs
  refine own_go (fun _ k => XS.icmpYes X46.here hx rfl (pc0 := 104) (pc' := 132) rfl (hb hby own_d4_104) rfl (Jvm.Free.XT.ii_le_t hc49) (by decide) (by decide) k) ?_
  show own_Go _ _ _ _ T46 (mkF m 132 #[.val (.ref a_1), .val (.int p_2), .val (.ref a_3), .val (.int bs), .val (.int (2 : Int32)), .val (.int (2 : Int32)), .val (.int y1)] [])
  refine own_go (fun _ k => XS.aloadN X46.here hx rfl (hb hby own_d4_132) rfl rfl k) ?_
  show own_Go _ _ _ _ T46 (mkF m 133 #[.val (.ref a_1), .val (.int p_2), .val (.ref a_3), .val (.int bs), .val (.int (2 : Int32)), .val (.int (2 : Int32)), .val (.int y1)] [(.ref a_3)])
  refine own_go (fun _ k => XS.iconst X46.here hx rfl (hb hby own_d4_133) k) ?_
  show own_Go _ _ _ _ T46 (mkF m 134 #[.val (.ref a_1), .val (.int p_2), .val (.ref a_3), .val (.int bs), .val (.int (2 : Int32)), .val (.int (2 : Int32)), .val (.int y1)] [(.int (0 : Int32)), (.ref a_3)])
  refine own_go (fun _ k => XS.aloadN X46.here hx rfl (hb hby own_d4_134) rfl rfl k) ?_
  show own_Go _ _ _ _ T46 (mkF m 135 #[.val (.ref a_1), .val (.int p_2), .val (.ref a_3), .val (.int bs), .val (.int (2 : Int32)), .val (.int (2 : Int32)), .val (.int y1)] [(.ref a_1), (.int (0 : Int32)), (.ref a_3)])
  obtain ⟨T50, X50, e50, st50⟩ := getF X46 hx hZ hown (host := "") (Or.inl (hw _ (List.mem_of_getElem? (i := 15) rfl))) Via.refl e46 f45 (g := (mkF m 135 #[.val (.ref a_1), .val (.int p_2), .val (.ref a_3), .val (.int bs), .val (.int (2 : Int32)), .val (.int (2 : Int32)), .val (.int y1)] [(.ref a_1), (.int (0 : Int32)), (.ref a_3)])) rfl rfl (hb hby own_d4_135)
  refine own_go (fun _ k => st50 _ k) ?_
  show own_Go _ _ _ _ T50 (mkF m 138 #[.val (.ref a_1), .val (.int p_2), .val (.ref a_3), .val (.int bs), .val (.int (2 : Int32)), .val (.int (2 : Int32)), .val (.int y1)] [(.ref wb), (.int (0 : Int32)), (.ref a_3)])
  refine own_go (fun _ k => XS.iloadN X50.here hx rfl (hb hby own_d4_138) rfl k) ?_
  show own_Go _ _ _ _ T50 (mkF m 139 #[.val (.ref a_1), .val (.int p_2), .val (.ref a_3), .val (.int bs), .val (.int (2 : Int32)), .val (.int (2 : Int32)), .val (.int y1)] [(.int bs), (.ref wb), (.int (0 : Int32)), (.ref a_3)])
  refine own_go (fun _ k => XS.aloadN X50.here hx rfl (hb hby own_d4_139) rfl rfl k) ?_
  show own_Go _ _ _ _ T50 (mkF m 140 #[.val (.ref a_1), .val (.int p_2), .val (.ref a_3), .val (.int bs), .val (.int (2 : Int32)), .val (.int (2 : Int32)), .val (.int y1)] [(.ref a_3), (.int bs), (.ref wb), (.int (0 : Int32)), (.ref a_3)])
  obtain ⟨q51, c51, R51, s51, t51⟩ := id f43
  refine own_go (fun _ k => X50.arraylength hx (by rw [e50]; exact R51.1) (State.isArrayOf_alike hZ.alike R51.2.1) (g := (mkF m 140 #[.val (.ref a_1), .val (.int p_2), .val (.ref a_3), .val (.int bs), .val (.int (2 : Int32)), .val (.int (2 : Int32)), .val (.int y1)] [(.ref a_3), (.int bs), (.ref wb), (.int (0 : Int32)), (.ref a_3)])) rfl rfl (hb hby own_d4_140) _ k) ?_
  rw [len_of s51 q51]
  show own_Go _ _ _ _ T50 (mkF m 141 #[.val (.ref a_1), .val (.int p_2), .val (.ref a_3), .val (.int bs), .val (.int (2 : Int32)), .val (.int (2 : Int32)), .val (.int y1)] [(.int (2 : Int32)), (.int bs), (.ref wb), (.int (0 : Int32)), (.ref a_3)])
  obtain ⟨T52, h52, L52, X52, e52, N52, Kq52, V52, st52⟩ := own_cp X50 hx hZ hown (hw _ (List.mem_of_getElem? (i := 49) rfl)) (hw _ (List.mem_of_getElem? (i := 52) rfl)) (hw _ (List.mem_of_getElem? (i := 50) rfl)) (hw _ (List.mem_of_getElem? (i := 51) rfl)) e50 f43 f47 (own_updf (own_updf (fun _ => rfl) rfl) rfl) hfb (by decide) (own_t4_12_2 bs hbs hc49) (by decide) (by decide) (own_cl5 (own_t4_12_1 bs hbs hc49)) N27 (by omega) (g := (mkF m 141 #[.val (.ref a_1), .val (.int p_2), .val (.ref a_3), .val (.int bs), .val (.int (2 : Int32)), .val (.int (2 : Int32)), .val (.int y1)] [(.int (2 : Int32)), (.int bs), (.ref wb), (.int (0 : Int32)), (.ref a_3)])) rfl (by rw [hml]; rfl) rfl (hb hby own_d4_141) (by decide) (W := 0) (by show 2 * 0 + _ ≤ _; exact Nat.le_of_eq rfl) (by decide)
  have z53 := Kq52.1
  have K52 : Keep h0 h52 [a_1, wh, wst, wb] := K27.trans Kq52 (allS (Or.inl (List.mem_of_getElem? (i := 3) rfl)) all0)
  refine own_go (fun _ k => st52 _ k) ?_
  show own_Go _ _ _ _ T52 (mkF m 144 #[.val (.ref a_1), .val (.int p_2), .val (.ref a_3), .val (.int bs), .val (.int (2 : Int32)), .val (.int (2 : Int32)), .val (.int y1)] [])
  refine own_go (fun _ k => XS.aloadN X52.here hx rfl (hb hby own_d4_144) rfl rfl k) ?_
  show own_Go _ _ _ _ T52 (mkF m 145 #[.val (.ref a_1), .val (.int p_2), .val (.ref a_3), .val (.int bs), .val (.int (2 : Int32)), .val (.int (2 : Int32)), .val (.int y1)] [(.ref a_1)])
  have f54 : Fld Z h52 a_1 "com/example/kalchas/kalchas/propositional/HornClauses" "heads" "[I" (.ref wh) := (f33.keep Kq52 (ninS (own_ne (by omega)) nin0))
  obtain ⟨T55, X55, e55, st55⟩ := getF X52 hx hZ hown (host := "") (Or.inl (hw _ (List.mem_of_getElem? (i := 11) rfl))) Via.refl e52 f54 (g := (mkF m 145 #[.val (.ref a_1), .val (.int p_2), .val (.ref a_3), .val (.int bs), .val (.int (2 : Int32)), .val (.int (2 : Int32)), .val (.int y1)] [(.ref a_1)])) rfl rfl (hb hby own_d4_145)
  refine own_go (fun _ k => st55 _ k) ?_
  show own_Go _ _ _ _ T55 (mkF m 148 #[.val (.ref a_1), .val (.int p_2), .val (.ref a_3), .val (.int bs), .val (.int (2 : Int32)), .val (.int (2 : Int32)), .val (.int y1)] [(.ref wh)])
  refine own_go (fun _ k => XS.aloadN X55.here hx rfl (hb hby own_d4_148) rfl rfl k) ?_
  show own_Go _ _ _ _ T55 (mkF m 149 #[.val (.ref a_1), .val (.int p_2), .val (.ref a_3), .val (.int bs), .val (.int (2 : Int32)), .val (.int (2 : Int32)), .val (.int y1)] [(.ref a_1), (.ref wh)])
  have f56 : Fld Z h52 a_1 "com/example/kalchas/kalchas/propositional/HornClauses" "clauseCount" "I" (.int (1 : Int32)) := (f31.keep Kq52 (ninS (own_ne (by omega)) nin0))
  obtain ⟨T57, X57, e57, st57⟩ := getF X55 hx hZ hown (host := "") (Or.inl (hw _ (List.mem_of_getElem? (i := 47) rfl))) Via.refl e55 f56 (g := (mkF m 149 #[.val (.ref a_1), .val (.int p_2), .val (.ref a_3), .val (.int bs), .val (.int (2 : Int32)), .val (.int (2 : Int32)), .val (.int y1)] [(.ref a_1), (.ref wh)])) rfl rfl (hb hby own_d4_149)
  refine own_go (fun _ k => st57 _ k) ?_
  show own_Go _ _ _ _ T57 (mkF m 152 #[.val (.ref a_1), .val (.int p_2), .val (.ref a_3), .val (.int bs), .val (.int (2 : Int32)), .val (.int (2 : Int32)), .val (.int y1)] [(.int (1 : Int32)), (.ref wh)])
  refine own_go (fun _ k => XS.iloadN X57.here hx rfl (hb hby own_d4_152) rfl k) ?_
  show own_Go _ _ _ _ T57 (mkF m 153 #[.val (.ref a_1), .val (.int p_2), .val (.ref a_3), .val (.int bs), .val (.int (2 : Int32)), .val (.int (2 : Int32)), .val (.int y1)] [(.int p_2), (.int (1 : Int32)), (.ref wh)])
  have f58 : own_AV Z h52 wh .int (64 : Int32) gh := (f35.keep Kq52 (ninS (own_ne (by omega)) nin0))
  obtain ⟨q59, c59, R59, s59, t59⟩ := id f58
  have hin59 : ¬ ((1 : Int32) < 0 ∨ c59.slots.size ≤ ((1 : Int32)).toNatClampNeg) := inb_of s59 ⟨by decide, by decide⟩
  obtain ⟨T60, h60, X60, e60, W60, st60⟩ := stI X57 hx hZ e57 R59 (j := (1 : Int32)) hin59 (g := (mkF m 153 #[.val (.ref a_1), .val (.int p_2), .val (.ref a_3), .val (.int bs), .val (.int (2 : Int32)), .val (.int (2 : Int32)), .val (.int y1)] [(.int p_2), (.int (1 : Int32)), (.ref wh)])) rfl rfl (hb hby own_d4_153)
  have V60 : own_AV Z h60 wh .int (64 : Int32) (own_upd gh 1 (.int p_2)) := own_AV.set (k := 1) f58 W60 (by decide)
  have z61 := W60.size
  have K60 : Keep h0 h60 [a_1, wh, wst, wb] := K52.wr W60 (Or.inl (List.mem_of_getElem? (i := 1) rfl))
  have N60 := Fr.snoc X60 N52 (by omega : n0 ≤ wh)
  refine own_go (fun _ k => st60 _ k) ?_
  show own_Go _ _ _ _ T60 (mkF m 154 #[.val (.ref a_1), .val (.int p_2), .val (.ref a_3), .val (.int bs), .val (.int (2 : Int32)), .val (.int (2 : Int32)), .val (.int y1)] [])
  refine own_go (fun _ k => XS.aloadN X60.here hx rfl (hb hby own_d4_154) rfl rfl k) ?_
  show own_Go _ _ _ _ T60 (mkF m 155 #[.val (.ref a_1), .val (.int p_2), .val (.ref a_3), .val (.int bs), .val (.int (2 : Int32)), .val (.int (2 : Int32)), .val (.int y1)] [(.ref a_1)])
  have f62 : Fld Z h60 a_1 "com/example/kalchas/kalchas/propositional/HornClauses" "bodyStarts" "[I" (.ref wst) := ((f38.keep Kq52 (ninS (own_ne (by omega)) nin0)).other W60 (Or.inl (own_ne (by omega))))
  obtain ⟨T63, X63, e63, st63⟩ := getF X60 hx hZ hown (host := "") (Or.inl (hw _ (List.mem_of_getElem? (i := 13) rfl))) Via.refl e60 f62 (g := (mkF m 155 #[.val (.ref a_1), .val (.int p_2), .val (.ref a_3), .val (.int bs), .val (.int (2 : Int32)), .val (.int (2 : Int32)), .val (.int y1)] [(.ref a_1)])) rfl rfl (hb hby own_d4_155)
  refine own_go (fun _ k => st63 _ k) ?_
  show own_Go _ _ _ _ T63 (mkF m 158 #[.val (.ref a_1), .val (.int p_2), .val (.ref a_3), .val (.int bs), .val (.int (2 : Int32)), .val (.int (2 : Int32)), .val (.int y1)] [(.ref wst)])
  refine own_go (fun _ k => XS.aloadN X63.here hx rfl (hb hby own_d4_158) rfl rfl k) ?_
  show own_Go _ _ _ _ T63 (mkF m 159 #[.val (.ref a_1), .val (.int p_2), .val (.ref a_3), .val (.int bs), .val (.int (2 : Int32)), .val (.int (2 : Int32)), .val (.int y1)] [(.ref a_1), (.ref wst)])
  have f64 : Fld Z h60 a_1 "com/example/kalchas/kalchas/propositional/HornClauses" "clauseCount" "I" (.int (1 : Int32)) := (f56.other W60 (Or.inl (own_ne (by omega))))
  obtain ⟨T65, X65, e65, st65⟩ := getF X63 hx hZ hown (host := "") (Or.inl (hw _ (List.mem_of_getElem? (i := 47) rfl))) Via.refl e63 f64 (g := (mkF m 159 #[.val (.ref a_1), .val (.int p_2), .val (.ref a_3), .val (.int bs), .val (.int (2 : Int32)), .val (.int (2 : Int32)), .val (.int y1)] [(.ref a_1), (.ref wst)])) rfl rfl (hb hby own_d4_159)
  refine own_go (fun _ k => st65 _ k) ?_
  show own_Go _ _ _ _ T65 (mkF m 162 #[.val (.ref a_1), .val (.int p_2), .val (.ref a_3), .val (.int bs), .val (.int (2 : Int32)), .val (.int (2 : Int32)), .val (.int y1)] [(.int (1 : Int32)), (.ref wst)])
  refine own_go (fun _ k => XS.iconst X65.here hx rfl (hb hby own_d4_162) k) ?_
  show own_Go _ _ _ _ T65 (mkF m 163 #[.val (.ref a_1), .val (.int p_2), .val (.ref a_3), .val (.int bs), .val (.int (2 : Int32)), .val (.int (2 : Int32)), .val (.int y1)] [(.int (1 : Int32)), (.int (1 : Int32)), (.ref wst)])
  refine own_go (fun _ k => XS.iadd X65.here hx rfl (hb hby own_d4_163) rfl k) ?_
  show own_Go _ _ _ _ T65 (mkF m 164 #[.val (.ref a_1), .val (.int p_2), .val (.ref a_3), .val (.int bs), .val (.int (2 : Int32)), .val (.int (2 : Int32)), .val (.int y1)] [(.int (2 : Int32)), (.ref wst)])
  refine own_go (fun _ k => XS.iloadN X65.here hx rfl (hb hby own_d4_164) rfl k) ?_
  show own_Go _ _ _ _ T65 (mkF m 165 #[.val (.ref a_1), .val (.int p_2), .val (.ref a_3), .val (.int bs), .val (.int (2 : Int32)), .val (.int (2 : Int32)), .val (.int y1)] [(.int bs), (.int (2 : Int32)), (.ref wst)])
  refine own_go (fun _ k => XS.aloadN X65.here hx rfl (hb hby own_d4_165) rfl rfl k) ?_
  show own_Go _ _ _ _ T65 (mkF m 166 #[.val (.ref a_1), .val (.int p_2), .val (.ref a_3), .val (.int bs), .val (.int (2 : Int32)), .val (.int (2 : Int32)), .val (.int y1)] [(.ref a_3), (.int bs), (.int (2 : Int32)), (.ref wst)])
  have f66 : own_AV Z h60 a_3 .int (2 : Int32) (own_upd (own_upd (fun _ => (.int (0 : Int32))) 0 (.int y0)) 1 (.int y1)) := ((f43.keep Kq52 (ninS (own_ne (by omega)) nin0)).other W60 (own_ne (by omega)))
  obtain ⟨q67, c67, R67, s67, t67⟩ := id f66
  refine own_go (fun _ k => X65.arraylength hx (by rw [e65]; exact R67.1) (State.isArrayOf_alike hZ.alike R67.2.1) (g := (mkF m 166 #[.val (.ref a_1), .val (.int p_2), .val (.ref a_3), .val (.int bs), .val (.int (2 : Int32)), .val (.int (2 : Int32)), .val (.int y1)] [(.ref a_3), (.int bs), (.int (2 : Int32)), (.ref wst)])) rfl rfl (hb hby own_d4_166) _ k) ?_
  rw [len_of s67 q67]
  show own_Go _ _ _ _ T65 (mkF m 167 #[.val (.ref a_1), .val (.int p_2), .val (.ref a_3), .val (.int bs), .val (.int (2 : Int32)), .val (.int (2 : Int32)), .val (.int y1)] [(.int (2 : Int32)), (.int bs), (.int (2 : Int32)), (.ref wst)])
  refine own_go (fun _ k => XS.iadd X65.here hx rfl (hb hby own_d4_167) rfl k) ?_
  show own_Go _ _ _ _ T65 (mkF m 168 #[.val (.ref a_1), .val (.int p_2), .val (.ref a_3), .val (.int bs), .val (.int (2 : Int32)), .val (.int (2 : Int32)), .val (.int y1)] [(.int (bs + (2 : Int32))), (.int (2 : Int32)), (.ref wst)])
  have f68 : own_AV Z h60 wst .int (65 : Int32) gs := ((f41.keep Kq52 (ninS (own_ne (by omega)) nin0)).other W60 (own_ne (by omega)))
  obtain ⟨q69, c69, R69, s69, t69⟩ := id f68
  have hin69 : ¬ ((2 : Int32) < 0 ∨ c69.slots.size ≤ ((2 : Int32)).toNatClampNeg) := inb_of s69 ⟨by decide, by decide⟩
  obtain ⟨T70, h70, X70, e70, W70, st70⟩ := stI X65 hx hZ e65 R69 (j := (2 : Int32)) hin69 (g := (mkF m 168 #[.val (.ref a_1), .val (.int p_2), .val (.ref a_3), .val (.int bs), .val (.int (2 : Int32)), .val (.int (2 : Int32)), .val (.int y1)] [(.int (bs + (2 : Int32))), (.int (2 : Int32)), (.ref wst)])) rfl rfl (hb hby own_d4_168)
  have V70 : own_AV Z h70 wst .int (65 : Int32) (own_upd gs 2 (.int (bs + (2 : Int32)))) := own_AV.set (k := 2) f68 W70 (by decide)
  have z71 := W70.size
  have K70 : Keep h0 h70 [a_1, wh, wst, wb] := K60.wr W70 (Or.inl (List.mem_of_getElem? (i := 2) rfl))
  have N70 := Fr.snoc X70 N60 (by omega : n0 ≤ wst)
  refine own_go (fun _ k => st70 _ k) ?_
  show own_Go _ _ _ _ T70 (mkF m 169 #[.val (.ref a_1), .val (.int p_2), .val (.ref a_3), .val (.int bs), .val (.int (2 : Int32)), .val (.int (2 : Int32)), .val (.int y1)] [])
  refine own_go (fun _ k => XS.aloadN X70.here hx rfl (hb hby own_d4_169) rfl rfl k) ?_
  show own_Go _ _ _ _ T70 (mkF m 170 #[.val (.ref a_1), .val (.int p_2), .val (.ref a_3), .val (.int bs), .val (.int (2 : Int32)), .val (.int (2 : Int32)), .val (.int y1)] [(.ref a_1)])
  refine own_go (fun _ k => XS.dup X70.here hx rfl (hb hby own_d4_170) rfl rfl k) ?_
  show own_Go _ _ _ _ T70 (mkF m 171 #[.val (.ref a_1), .val (.int p_2), .val (.ref a_3), .val (.int bs), .val (.int (2 : Int32)), .val (.int (2 : Int32)), .val (.int y1)] [(.ref a_1), (.ref a_1)])
  have f72 : Fld Z h70 a_1 "com/example/kalchas/kalchas/propositional/HornClauses" "clauseCount" "I" (.int (1 : Int32)) := (f64.other W70 (Or.inl (own_ne (by omega))))
  obtain ⟨T73, X73, e73, st73⟩ := getF X70 hx hZ hown (host := "") (Or.inl (hw _ (List.mem_of_getElem? (i := 47) rfl))) Via.refl e70 f72 (g := (mkF m 171 #[.val (.ref a_1), .val (.int p_2), .val (.ref a_3), .val (.int bs), .val (.int (2 : Int32)), .val (.int (2 : Int32)), .val (.int y1)] [(.ref a_1), (.ref a_1)])) rfl rfl (hb hby own_d4_171)
  refine own_go (fun _ k => st73 _ k) ?_
  show own_Go _ _ _ _ T73 (mkF m 174 #[.val (.ref a_1), .val (.int p_2), .val (.ref a_3), .val (.int bs), .val (.int (2 : Int32)), .val (.int (2 : Int32)), .val (.int y1)] [(.int (1 : Int32)), (.ref a_1)])
  refine own_go (fun _ k => XS.iconst X73.here hx rfl (hb hby own_d4_174) k) ?_
  show own_Go _ _ _ _ T73 (mkF m 175 #[.val (.ref a_1), .val (.int p_2), .val (.ref a_3), .val (.int bs), .val (.int (2 : Int32)), .val (.int (2 : Int32)), .val (.int y1)] [(.int (1 : Int32)), (.int (1 : Int32)), (.ref a_1)])
  refine own_go (fun _ k => XS.iadd X73.here hx rfl (hb hby own_d4_175) rfl k) ?_
  show own_Go _ _ _ _ T73 (mkF m 176 #[.val (.ref a_1), .val (.int p_2), .val (.ref a_3), .val (.int bs), .val (.int (2 : Int32)), .val (.int (2 : Int32)), .val (.int y1)] [(.int (2 : Int32)), (.ref a_1)])
  have f74 : Exa Z h70 a_1 "com/example/kalchas/kalchas/propositional/HornClauses" := ((((f28.keep K27q).keep Kq52).wr W60).wr W70)
  obtain ⟨T75, h75, X75, e75, W75, st75⟩ := putF X73 hx hZ hown (host := "") (Or.inl (hw _ (List.mem_of_getElem? (i := 47) rfl))) Via.refl e73 f72 f74 (Or.inl (hw _ (List.mem_of_getElem? (i := 48) rfl))) (hw _ (List.mem_of_getElem? (i := 3) rfl)) (ty := .int) (by decide) rfl rfl (g := (mkF m 176 #[.val (.ref a_1), .val (.int p_2), .val (.ref a_3), .val (.int bs), .val (.int (2 : Int32)), .val (.int (2 : Int32)), .val (.int y1)] [(.int (2 : Int32)), (.ref a_1)])) rfl rfl (hb hby own_d4_176)
  have z76 := W75.size
  have K75 : Keep h0 h75 [a_1, wh, wst, wb] := K70.wr W75 (Or.inl (List.mem_of_getElem? (i := 0) rfl))
  have N75 := Fr.snoc X75 N70 (by omega : n0 ≤ a_1)
  have Fw75 : Fld Z h75 a_1 "com/example/kalchas/kalchas/propositional/HornClauses" "clauseCount" "I" (.int (2 : Int32)) := Fld.same W75 f72
  refine own_go (fun _ k => st75 _ k) ?_
  show own_Go _ _ _ _ T75 (mkF m 179 #[.val (.ref a_1), .val (.int p_2), .val (.ref a_3), .val (.int bs), .val (.int (2 : Int32)), .val (.int (2 : Int32)), .val (.int y1)] [])
  refine own_go (fun _ k => XS.aloadN X75.here hx rfl (hb hby own_d4_179) rfl rfl k) ?_
  show own_Go _ _ _ _ T75 (mkF m 180 #[.val (.ref a_1), .val (.int p_2), .val (.ref a_3), .val (.int bs), .val (.int (2 : Int32)), .val (.int (2 : Int32)), .val (.int y1)] [(.ref a_1)])
  refine own_go (fun _ k => XS.aconstNull X75.here hx rfl (hb hby own_d4_180) k) ?_
  show own_Go _ _ _ _ T75 (mkF m 181 #[.val (.ref a_1), .val (.int p_2), .val (.ref a_3), .val (.int bs), .val (.int (2 : Int32)), .val (.int (2 : Int32)), .val (.int y1)] [.null, (.ref a_1)])
  have f77 : Exa Z h75 a_1 "com/example/kalchas/kalchas/propositional/HornClauses" := (f74.wr W75)
  have f78 : Fld Z h75 a_1 "com/example/kalchas/kalchas/propositional/HornClauses" "occurrences" "[I" w_occ := (((((((pr_F_a_1_occurrences.keep K13q nin0).keep K20q nin0).keep K27q nin0).keep Kq52 (ninS (own_ne (by omega)) nin0)).other W60 (Or.inl (own_ne (by omega)))).other W70 (Or.inl (own_ne (by omega)))).other W75 (Or.inr (slot_ne (Or.inl (hw _ (List.mem_of_getElem? (i := 23) rfl))) (Or.inl (hw _ (List.mem_of_getElem? (i := 48) rfl))) (by decide) (t := (.array .int)) (t' := .int) (by decide) (by decide))))
  obtain ⟨T79, h79, X79, e79, W79, st79⟩ := putF X75 hx hZ hown (host := "") (Or.inl (hw _ (List.mem_of_getElem? (i := 22) rfl))) Via.refl e75 f78 f77 (Or.inl (hw _ (List.mem_of_getElem? (i := 23) rfl))) (hw _ (List.mem_of_getElem? (i := 3) rfl)) (ty := (.array .int)) (by decide) rfl rfl (g := (mkF m 181 #[.val (.ref a_1), .val (.int p_2), .val (.ref a_3), .val (.int bs), .val (.int (2 : Int32)), .val (.int (2 : Int32)), .val (.int y1)] [.null, (.ref a_1)])) rfl rfl (hb hby own_d4_181)
  have z80 := W79.size
  have K79 : Keep h0 h79 [a_1, wh, wst, wb] := K75.wr W79 (Or.inl (List.mem_of_getElem? (i := 0) rfl))
  have N79 := Fr.snoc X79 N75 (by omega : n0 ≤ a_1)
  have Fw79 : Fld Z h79 a_1 "com/example/kalchas/kalchas/propositional/HornClauses" "occurrences" "[I" .null := Fld.same W79 f78
  refine own_go (fun _ k => st79 _ k) ?_
  show own_Go _ _ _ _ T79 (mkF m 184 #[.val (.ref a_1), .val (.int p_2), .val (.ref a_3), .val (.int bs), .val (.int (2 : Int32)), .val (.int (2 : Int32)), .val (.int y1)] [])
  obtain ⟨fs, hr, hrun, hended, hRW⟩ := X79.leaveW hS27 (by rw [e79]; omega) (v := none) (fun _ => rfl)
  refine ⟨_, _, X79.returnOut hx Bd.returns (hb hby own_d4_184) hr, hrun, hended, _, _, rfl, ?_, own_monoW hRW (by rw [y27]; decide) (by rw [z27]; decide)⟩
  show own_Q4_12 Z a_1 p_2 a_3 wh wst wb gh gs gb bs w_occ y0 y1 h0 n0 _ T79.heap _
  rw [e79]
  have f82 : Exa Z h79 a_1 "com/example/kalchas/kalchas/propositional/HornClauses" := (f77.wr W79)
  have f83 : Fld Z h79 a_1 "com/example/kalchas/kalchas/propositional/HornClauses" "variableCount" "I" (.int (3 : Int32)) := ((((((f26.keep K27q nin0).keep Kq52 (ninS (own_ne (by omega)) nin0)).other W60 (Or.inl (own_ne (by omega)))).other W70 (Or.inl (own_ne (by omega)))).other W75 (Or.inr (slot_ne (Or.inl (hw _ (List.mem_of_getElem? (i := 25) rfl))) (Or.inl (hw _ (List.mem_of_getElem? (i := 48) rfl))) (by decide) (t := .int) (t' := .int) (by decide) (by decide)))).other W79 (Or.inr (slot_ne (Or.inl (hw _ (List.mem_of_getElem? (i := 25) rfl))) (Or.inl (hw _ (List.mem_of_getElem? (i := 23) rfl))) (by decide) (t := .int) (t' := (.array .int)) (by decide) (by decide))))
  have f84 : Fld Z h79 a_1 "com/example/kalchas/kalchas/propositional/HornClauses" "clauseCount" "I" (.int (2 : Int32)) := (Fw75.other W79 (Or.inr (slot_ne (Or.inl (hw _ (List.mem_of_getElem? (i := 48) rfl))) (Or.inl (hw _ (List.mem_of_getElem? (i := 23) rfl))) (by decide) (t := .int) (t' := (.array .int)) (by decide) (by decide))))
  have f85 : Fld Z h79 a_1 "com/example/kalchas/kalchas/propositional/HornClauses" "heads" "[I" (.ref wh) := ((((f54.other W60 (Or.inl (own_ne (by omega)))).other W70 (Or.inl (own_ne (by omega)))).other W75 (Or.inr (slot_ne (Or.inl (hw _ (List.mem_of_getElem? (i := 12) rfl))) (Or.inl (hw _ (List.mem_of_getElem? (i := 48) rfl))) (by decide) (t := (.array .int)) (t' := .int) (by decide) (by decide)))).other W79 (Or.inr (slot_ne (Or.inl (hw _ (List.mem_of_getElem? (i := 12) rfl))) (Or.inl (hw _ (List.mem_of_getElem? (i := 23) rfl))) (by decide) (t := (.array .int)) (t' := (.array .int)) (by decide) (by decide))))
  have f86 : Fld Z h79 a_1 "com/example/kalchas/kalchas/propositional/HornClauses" "bodyStarts" "[I" (.ref wst) := (((f62.other W70 (Or.inl (own_ne (by omega)))).other W75 (Or.inr (slot_ne (Or.inl (hw _ (List.mem_of_getElem? (i := 14) rfl))) (Or.inl (hw _ (List.mem_of_getElem? (i := 48) rfl))) (by decide) (t := (.array .int)) (t' := .int) (by decide) (by decide)))).other W79 (Or.inr (slot_ne (Or.inl (hw _ (List.mem_of_getElem? (i := 14) rfl))) (Or.inl (hw _ (List.mem_of_getElem? (i := 23) rfl))) (by decide) (t := (.array .int)) (t' := (.array .int)) (by decide) (by decide))))
  have f87 : Fld Z h79 a_1 "com/example/kalchas/kalchas/propositional/HornClauses" "bodies" "[I" (.ref wb) := (((((f45.keep Kq52 (ninS (own_ne (by omega)) nin0)).other W60 (Or.inl (own_ne (by omega)))).other W70 (Or.inl (own_ne (by omega)))).other W75 (Or.inr (slot_ne (Or.inl (hw _ (List.mem_of_getElem? (i := 16) rfl))) (Or.inl (hw _ (List.mem_of_getElem? (i := 48) rfl))) (by decide) (t := (.array .int)) (t' := .int) (by decide) (by decide)))).other W79 (Or.inr (slot_ne (Or.inl (hw _ (List.mem_of_getElem? (i := 16) rfl))) (Or.inl (hw _ (List.mem_of_getElem? (i := 23) rfl))) (by decide) (t := (.array .int)) (t' := (.array .int)) (by decide) (by decide))))
  have f88 : own_AV Z h79 wh .int (64 : Int32) (own_upd gh 1 (.int p_2)) := (((V60.other W70 (own_ne (by omega))).other W75 (own_ne (by omega))).other W79 (own_ne (by omega)))
  have f89 : own_AV Z h79 wst .int (65 : Int32) (own_upd gs 2 (.int (bs + (2 : Int32)))) := ((V70.other W75 (own_ne (by omega))).other W79 (own_ne (by omega)))
  have f90 : own_AV Z h79 wb .int (64 : Int32) (own_cpf (own_upd (own_upd (fun _ => (.int (0 : Int32))) 0 (.int y0)) 1 (.int y1)) ((0 : Int32)).toNatClampNeg gb (bs).toNatClampNeg ((2 : Int32)).toNatClampNeg) := ((((V52.other W60 (own_ne (by omega))).other W70 (own_ne (by omega))).other W75 (own_ne (by omega))).other W79 (own_ne (by omega)))
  exact ⟨(own_cpf (own_upd (own_upd (fun _ => (.int (0 : Int32))) 0 (.int y0)) 1 (.int y1)) ((0 : Int32)).toNatClampNeg gb (bs).toNatClampNeg ((2 : Int32)).toNatClampNeg), rfl, N79, K79, f82, f83, f84, f85, f86, f87, Fw79, f88, f89, f90, (own_cpff (own_updf (own_updf (fun _ => rfl) rfl) rfl) hfb)⟩
theorem own_ef_own_rm4_20 (m : MethodId) (x0 : Addr) (x1 : Int32) (x2 : Addr) : entryFrame m #[(.ref x0), (.int x1), (.ref x2)] 7 = mkF m 0 #[.val (.ref x0), .val (.int x1), .val (.ref x2), .unset, .unset, .unset, .unset] [] := by first | (simp [entryFrame, mkF, argsToLocals, Value.category]; done) | rfl
set_option maxRecDepth 65536 in
set_option maxHeartbeats 4000000 in
theorem own_t4_20_0 (bs : Int32) (hbs : 0 ≤ bs.toInt ∧ bs.toInt ≤ 10) : ¬ ((64 : Int32) < (bs + (0 : Int32))) := by
  have el0 : (0 : Int32).toInt = 0 := by decide
  have el1 : (64 : Int32).toInt = 64 := by decide
  have rv_bs := rng32 bs
  have fa3 := c_iadd bs (0 : Int32)
  have fa4 := rng32 (bs + (0 : Int32))
  have own0 : (0 : Int32).toInt = 0 := by decide
  simp only [← Int32.toInt_inj, Int32.lt_iff_toInt_lt, implies_true, and_true, true_and, own0, el0, el1] at *
  omega
set_option maxRecDepth 65536 in
set_option maxHeartbeats 4000000 in
theorem own_t4_20_1 (bs : Int32) (hbs : 0 ≤ bs.toInt ∧ bs.toInt ≤ 10) (hc35 : ¬ ((64 : Int32) < (bs + (0 : Int32)))) : 0 ≤ bs.toInt ∧ bs.toInt ≤ 64 := by
  have el0 : (0 : Int32).toInt = 0 := by decide
  have el1 : (64 : Int32).toInt = 64 := by decide
  have rv_bs := rng32 bs
  have fa3 := c_iadd bs (0 : Int32)
  have fa4 := rng32 (bs + (0 : Int32))
  have own0 : (0 : Int32).toInt = 0 := by decide
  simp only [← Int32.toInt_inj, Int32.lt_iff_toInt_lt, implies_true, and_true, true_and, own0, el0, el1] at *
  omega
set_option maxRecDepth 65536 in
set_option maxHeartbeats 4000000 in
theorem own_t4_20_2 (bs : Int32) (hbs : 0 ≤ bs.toInt ∧ bs.toInt ≤ 10) (hc35 : ¬ ((64 : Int32) < (bs + (0 : Int32)))) : ¬ bs < 0 := by
  have el0 : (0 : Int32).toInt = 0 := by decide
  have el1 : (64 : Int32).toInt = 64 := by decide
  have rv_bs := rng32 bs
  have fa3 := c_iadd bs (0 : Int32)
  have fa4 := rng32 (bs + (0 : Int32))
  have own0 : (0 : Int32).toInt = 0 := by decide
  simp only [← Int32.toInt_inj, Int32.lt_iff_toInt_lt, implies_true, and_true, true_and, own0, el0, el1] at *
  omega
def own_Q4_20 (Z : State) (a_1 : Addr) (p_2 : Int32) (a_3 : Addr) (wh : Addr) (wst : Addr) (wb : Addr) (gh : Nat → Value) (gs : Nat → Value) (gb : Nat → Value) (bs : Int32) (w_occ : Value) (h0 : Heap) (n0 : Nat) (v : Option Value) (h : Heap) (L : List Loc) : Prop := ∃ (gb_ : Nat → Value), v = none ∧ Fr n0 L ∧ Keep h0 h [a_1, wh, wst, wb] ∧ Exa Z h a_1 "com/example/kalchas/kalchas/propositional/HornClauses" ∧ Fld Z h a_1 "com/example/kalchas/kalchas/propositional/HornClauses" "variableCount" "I" (.int (3 : Int32)) ∧ Fld Z h a_1 "com/example/kalchas/kalchas/propositional/HornClauses" "clauseCount" "I" (.int (3 : Int32)) ∧ Fld Z h a_1 "com/example/kalchas/kalchas/propositional/HornClauses" "heads" "[I" (.ref wh) ∧ Fld Z h a_1 "com/example/kalchas/kalchas/propositional/HornClauses" "bodyStarts" "[I" (.ref wst) ∧ Fld Z h a_1 "com/example/kalchas/kalchas/propositional/HornClauses" "bodies" "[I" (.ref wb) ∧ Fld Z h a_1 "com/example/kalchas/kalchas/propositional/HornClauses" "occurrences" "[I" .null ∧ own_AV Z h wh .int (64 : Int32) (own_upd gh 2 (.int p_2)) ∧ own_AV Z h wst .int (65 : Int32) (own_upd gs 3 (.int (bs + (0 : Int32)))) ∧ own_AV Z h wb .int (64 : Int32) gb_ ∧ (∀ i, fits .int (gb_ i) = true)
set_option maxRecDepth 65536 in
set_option maxHeartbeats 40000000 in
theorem own_rm4_20 (l : Launch) (Z : State) (a0 : Array Value) (hw : ∀ d ∈ tables_1, d.before a0 Z = true) (ws : List Jvm.Cond) (a_1 : Addr) (p_2 : Int32) (a_3 : Addr) (wh : Addr) (wst : Addr) (wb : Addr) (gh : Nat → Value) (gs : Nat → Value) (gb : Nat → Value) (bs : Int32) (w_occ : Value) (h0 : Heap) (n0 : Nat) (Z0 : n0 ≤ h0.size) (pr_E_a_1 : Exa Z h0 a_1 "com/example/kalchas/kalchas/propositional/HornClauses") (pr_F_a_1_variableCount : Fld Z h0 a_1 "com/example/kalchas/kalchas/propositional/HornClauses" "variableCount" "I" (.int (3 : Int32))) (pr_F_a_1_clauseCount : Fld Z h0 a_1 "com/example/kalchas/kalchas/propositional/HornClauses" "clauseCount" "I" (.int (2 : Int32))) (pr_F_a_1_heads : Fld Z h0 a_1 "com/example/kalchas/kalchas/propositional/HornClauses" "heads" "[I" (.ref wh)) (pr_F_a_1_bodyStarts : Fld Z h0 a_1 "com/example/kalchas/kalchas/propositional/HornClauses" "bodyStarts" "[I" (.ref wst)) (pr_F_a_1_bodies : Fld Z h0 a_1 "com/example/kalchas/kalchas/propositional/HornClauses" "bodies" "[I" (.ref wb)) (pr_F_a_1_occurrences : Fld Z h0 a_1 "com/example/kalchas/kalchas/propositional/HornClauses" "occurrences" "[I" w_occ) (pr_A_wh : own_AV Z h0 wh .int (64 : Int32) gh) (pr_A_wst : own_AV Z h0 wst .int (65 : Int32) gs) (pr_A_wb : own_AV Z h0 wb .int (64 : Int32) gb) (pr_A_a_3 : own_AV Z h0 a_3 .int (0 : Int32) (fun _ => (.int (0 : Int32)))) (hord : own_lts [a_3, a_1, wh, wst, wb]) (hgs : gs 2 = .int bs) (hbs : 0 ≤ bs.toInt ∧ bs.toInt ≤ 10) (hfb : ∀ i, fits .int (gb i) = true) (hp1 : ¬ (p_2 < 0)) (hp2 : p_2 < (3 : Int32)) (gw_a_1 : n0 ≤ a_1) (gw_wh : n0 ≤ wh) (gw_wst : n0 ≤ wst) (gw_wb : n0 ≤ wb) :
    MetFree l (⟨"com/example/kalchas/kalchas/propositional/HornClauses", "add", "(I[I)V"⟩ : MethodName) (head1 (Jvm.Cond.code (⟨"com/example/kalchas/kalchas/propositional/HornClauses", "add", "(I[I)V"⟩ : MethodName) prog_6_method_4_code 7 none :: ws) ({ frames := 2, cells := 2, slots := 36, locals := 40 } : Room)) (fun a U => a = #[(.ref a_1), (.int p_2), (.ref a_3)] ∧ Z.Warmed39 U.vm ∧ U.heap = h0) (fun _ _ _ _ _ => True) (fun _ U o U' => ∃ v L, o = .returned v ∧ own_Q4_20 Z a_1 p_2 a_3 wh wst wb gh gs gb bs w_occ h0 n0 v U'.heap L ∧ ReturnedEndW U o U' L ({ frames := 2, cells := 2, slots := 36, locals := 40 } : Room).cells ({ frames := 2, cells := 2, slots := 36, locals := 40 } : Room).slots) := by
  refine MetFree.of_bodySF (plainFor_of_name own_pn0) hisR ?_
  intro p e s m args below meth c s₁ Bd hml0 hP hK
  obtain ⟨rfl, hZ, hh⟩ := hP
  have hx := Bd.exec
  have hby := Bd.bytes
  have hml : c.maxLocals = 7 := hml0
  have hown : s.vm.findClass "com/example/kalchas/kalchas/propositional/HornClauses" = some m.cls := findClass_of_methodNamed Bd.named
  have hnm := (name_of_methodNamed Bd.named Bd.method).1
  have X0 : Stand p l e ({ frames := 2, cells := 2, slots := 36, locals := 40 } : Room) s m #[(.ref a_1), (.int p_2), (.ref a_3)] below meth c s₁ [] 0 0 := Stand.of_body Bd
  have e0 : s₁.heap = h0 := by rw [← hh, Bd.state]; rfl
  have N0 := Fr.nil n0
  have X0 : Stand p l e ({ frames := 2, cells := 2, slots := 36, locals := 40 } : Room) (s.setVm s.vm) m #[(.ref a_1), (.int p_2), (.ref a_3)] below meth c s₁ [] 0 0 := X0
  have hZ : Z.Warmed39 (s.setVm s.vm).vm := hZ
  have hown : (s.setVm s.vm).vm.findClass "com/example/kalchas/kalchas/propositional/HornClauses" = some m.cls := hown
  have hS0 : s.Since s.vm 0 := (State.WarmedH.refl s).since 0
  have z0 : n0 ≤ h0.size := Z0
  have z1 := own_lt pr_E_a_1.lt
  have z2 := own_lt pr_F_a_1_variableCount.lt
  have z3 := own_lt pr_F_a_1_clauseCount.lt
  have z4 := own_lt pr_F_a_1_heads.lt
  have z5 := own_lt pr_F_a_1_bodyStarts.lt
  have z6 := own_lt pr_F_a_1_bodies.lt
  have z7 := own_lt pr_F_a_1_occurrences.lt
  have z8 := own_lt pr_A_wh.lt
  have z9 := own_lt pr_A_wst.lt
  have z10 := own_lt pr_A_wb.lt
  have z11 := own_lt pr_A_a_3.lt
  have ho12 := hord
  simp only [own_lts, and_true] at ho12
  have K0 : Keep h0 h0 [a_1, wh, wst, wb] := Keep.refl h0 _
  show own_Go p.tables e below (fun t o => t.status = .running ∧ Ended t below o ∧ ∃ v L, o = .returned v ∧ own_Q4_20 Z a_1 p_2 a_3 wh wst wb gh gs gb bs w_occ h0 n0 v t.heap L ∧ ReturnedEndW s o t L ({ frames := 2, cells := 2, slots := 36, locals := 40 } : Room).cells ({ frames := 2, cells := 2, slots := 36, locals := 40 } : Room).slots) s₁ (entryFrame m #[(.ref a_1), (.int p_2), (.ref a_3)] 7)
  rw [own_ef_own_rm4_20 m a_1 p_2 a_3]
  show own_Go _ _ _ _ s₁ (mkF m 0 #[.val (.ref a_1), .val (.int p_2), .val (.ref a_3), .unset, .unset, .unset, .unset] [])
  refine own_go (fun _ k => XS.aloadN X0.here hx rfl (hb hby own_d4_0) rfl rfl k) ?_
  show own_Go _ _ _ _ s₁ (mkF m 1 #[.val (.ref a_1), .val (.int p_2), .val (.ref a_3), .unset, .unset, .unset, .unset] [(.ref a_1)])
  refine own_go (fun _ k => XS.iloadN X0.here hx rfl (hb hby own_d4_1) rfl k) ?_
  show own_Go _ _ _ _ s₁ (mkF m 2 #[.val (.ref a_1), .val (.int p_2), .val (.ref a_3), .unset, .unset, .unset, .unset] [(.int p_2), (.ref a_1)])
  obtain ⟨cq13, kq13, q13a, q13b, q13c⟩ := isOf hZ e0 pr_E_a_1
  obtain ⟨_, _, ⟨T13, L13, k13, n13⟩, -, X13, hS13, gr13, ⟨Lc13, hQ13, l13, y13, z13⟩, st13⟩ := X0.virtualBackS hx (y := (⟨"com/example/kalchas/kalchas/propositional/HornClauses", "checkVariable", "(I)V"⟩ : MethodName)) (z := (⟨"com/example/kalchas/kalchas/propositional/HornClauses", "checkVariable", "(I)V"⟩ : MethodName)) hown (mvT hZ (hw _ (List.mem_of_getElem? (i := 31) rfl))) (mvT hZ (hw _ (List.mem_of_getElem? (i := 32) rfl))) (notFace_of_selects (args := #[]) (mvT hZ (hw _ (List.mem_of_getElem? (i := 34) rfl)))) (mvT hZ (hw _ (List.mem_of_getElem? (i := 34) rfl))) (mvT hZ (hw _ (List.mem_of_getElem? (i := 33) rfl))) (by decide) (backOfS (W := 0) (own_rm5 l Z a0 hw [] a_1 p_2 (3 : Int32) h0 n0 (by omega) (show ¬ (p_2 < 0) by first | assumption | omega | decide) (show p_2 < (3 : Int32) by first | assumption | omega | decide) pr_F_a_1_variableCount) hZ (hw _ (List.mem_of_getElem? (i := 35) rfl)) (hw _ (List.mem_of_getElem? (i := 4) rfl)) (by decide) (by decide)) q13a q13c (g := (mkF m 2 #[.val (.ref a_1), .val (.int p_2), .val (.ref a_3), .unset, .unset, .unset, .unset] [(.int p_2), (.ref a_1)])) rfl (by rw [hml]; rfl) (Steps.refl _) (argsL := [(.int p_2)]) (rest := []) (lenOf own_pd1 rfl) rfl (by show 2 * 0 + _ ≤ _; exact Nat.le_of_eq rfl) (hb hby own_d4_2) (fun _ _ => ⟨rfl, e0, (by decide : 0 + 2 ≤ _), (by decide : 0 + 36 ≤ _)⟩)
  dsimp only [Pt.U, Pt.locs, Pt.cells, Pt.slots] at X13 l13 y13 z13 st13 hQ13 hS13 gr13
  have y13 : k13 = 2 := y13
  have z13 : n13 = 36 := z13
  have Wn13 := hS13.1
  obtain ⟨X13, hS13, hZ, hown⟩ := rebS hS0 (n1 := s₁.heap.size) (by rw [e0]; omega) X13 hS13 gr13 hZ hown
  obtain ⟨rfl, N13q, K13q⟩ := hQ13
  have N13 : Fr n0 L13 := by rw [l13]; exact Fr.app N0 N13q
  have z14 := K13q.1
  have K13 : Keep h0 T13.heap [a_1, wh, wst, wb] := K0.trans K13q all0
  refine own_go (fun _ k => st13.trans k) ?_
  show own_Go _ _ _ _ T13 (mkF m 5 #[.val (.ref a_1), .val (.int p_2), .val (.ref a_3), .unset, .unset, .unset, .unset] [])
  refine own_go (fun _ k => XS.aloadN X13.here hx rfl (hb hby own_d4_5) rfl rfl k) ?_
  show own_Go _ _ _ _ T13 (mkF m 6 #[.val (.ref a_1), .val (.int p_2), .val (.ref a_3), .unset, .unset, .unset, .unset] [(.ref a_3)])
  refine own_go (fun _ k => XS.astoreN X13.here hx rfl (hb hby own_d4_6) rfl rfl (l' := #[.val (.ref a_1), .val (.int p_2), .val (.ref a_3), .val (.ref a_3), .unset, .unset, .unset]) rfl k) ?_
  show own_Go _ _ _ _ T13 (mkF m 7 #[.val (.ref a_1), .val (.int p_2), .val (.ref a_3), .val (.ref a_3), .unset, .unset, .unset] [])
  refine own_go (fun _ k => XS.aloadN X13.here hx rfl (hb hby own_d4_7) rfl rfl k) ?_
  show own_Go _ _ _ _ T13 (mkF m 8 #[.val (.ref a_1), .val (.int p_2), .val (.ref a_3), .val (.ref a_3), .unset, .unset, .unset] [(.ref a_3)])
  have f15 : own_AV Z T13.heap a_3 .int (0 : Int32) (fun _ => (.int (0 : Int32))) := (pr_A_a_3.keep K13q nin0)
  obtain ⟨q16, c16, R16, s16, t16⟩ := id f15
  refine own_go (fun _ k => X13.arraylength hx R16.1 (State.isArrayOf_alike hZ.alike R16.2.1) (g := (mkF m 8 #[.val (.ref a_1), .val (.int p_2), .val (.ref a_3), .val (.ref a_3), .unset, .unset, .unset] [(.ref a_3)])) rfl rfl (hb hby own_d4_8) _ k) ?_
  rw [len_of s16 q16]
  show own_Go _ _ _ _ T13 (mkF m 9 #[.val (.ref a_1), .val (.int p_2), .val (.ref a_3), .val (.ref a_3), .unset, .unset, .unset] [(.int (0 : Int32))])
  refine own_go (fun _ k => XS.istore X13.here hx rfl (hb hby own_d4_9) rfl (l' := #[.val (.ref a_1), .val (.int p_2), .val (.ref a_3), .val (.ref a_3), .val (.int (0 : Int32)), .unset, .unset]) rfl k) ?_
  show own_Go _ _ _ _ T13 (mkF m 11 #[.val (.ref a_1), .val (.int p_2), .val (.ref a_3), .val (.ref a_3), .val (.int (0 : Int32)), .unset, .unset] [])
  refine own_go (fun _ k => XS.iconst X13.here hx rfl (hb hby own_d4_11) k) ?_
  show own_Go _ _ _ _ T13 (mkF m 12 #[.val (.ref a_1), .val (.int p_2), .val (.ref a_3), .val (.ref a_3), .val (.int (0 : Int32)), .unset, .unset] [(.int (0 : Int32))])
  refine own_go (fun _ k => XS.istore X13.here hx rfl (hb hby own_d4_12) rfl (l' := #[.val (.ref a_1), .val (.int p_2), .val (.ref a_3), .val (.ref a_3), .val (.int (0 : Int32)), .val (.int (0 : Int32)), .unset]) rfl k) ?_
  show own_Go _ _ _ _ T13 (mkF m 14 #[.val (.ref a_1), .val (.int p_2), .val (.ref a_3), .val (.ref a_3), .val (.int (0 : Int32)), .val (.int (0 : Int32)), .unset] [])
  refine own_go (fun _ k => XS.iload X13.here hx rfl (hb hby own_d4_14) rfl k) ?_
  show own_Go _ _ _ _ T13 (mkF m 16 #[.val (.ref a_1), .val (.int p_2), .val (.ref a_3), .val (.ref a_3), .val (.int (0 : Int32)), .val (.int (0 : Int32)), .unset] [(.int (0 : Int32))])
  refine own_go (fun _ k => XS.iload X13.here hx rfl (hb hby own_d4_16) rfl k) ?_
  show own_Go _ _ _ _ T13 (mkF m 18 #[.val (.ref a_1), .val (.int p_2), .val (.ref a_3), .val (.ref a_3), .val (.int (0 : Int32)), .val (.int (0 : Int32)), .unset] [(.int (0 : Int32)), (.int (0 : Int32))])
  have hc17 : ¬ ((0 : Int32) < (0 : Int32)) := by decide
  refine own_go (fun _ k => XS.icmpYes X13.here hx rfl (pc0 := 18) (pc' := 39) rfl (hb hby own_d4_18) rfl (Jvm.Free.XT.ii_ge_t hc17) (by decide) (by decide) k) ?_
  show own_Go _ _ _ _ T13 (mkF m 39 #[.val (.ref a_1), .val (.int p_2), .val (.ref a_3), .val (.ref a_3), .val (.int (0 : Int32)), .val (.int (0 : Int32)), .unset] [])
  refine own_go (fun _ k => XS.aloadN X13.here hx rfl (hb hby own_d4_39) rfl rfl k) ?_
  show own_Go _ _ _ _ T13 (mkF m 40 #[.val (.ref a_1), .val (.int p_2), .val (.ref a_3), .val (.ref a_3), .val (.int (0 : Int32)), .val (.int (0 : Int32)), .unset] [(.ref a_1)])
  have f18 : Fld Z T13.heap a_1 "com/example/kalchas/kalchas/propositional/HornClauses" "clauseCount" "I" (.int (2 : Int32)) := (pr_F_a_1_clauseCount.keep K13q nin0)
  obtain ⟨T19, X19, e19, st19⟩ := getF X13 hx hZ hown (host := "") (Or.inl (hw _ (List.mem_of_getElem? (i := 47) rfl))) Via.refl rfl f18 (g := (mkF m 40 #[.val (.ref a_1), .val (.int p_2), .val (.ref a_3), .val (.ref a_3), .val (.int (0 : Int32)), .val (.int (0 : Int32)), .unset] [(.ref a_1)])) rfl rfl (hb hby own_d4_40)
  refine own_go (fun _ k => st19 _ k) ?_
  show own_Go _ _ _ _ T19 (mkF m 43 #[.val (.ref a_1), .val (.int p_2), .val (.ref a_3), .val (.ref a_3), .val (.int (0 : Int32)), .val (.int (0 : Int32)), .unset] [(.int (2 : Int32))])
  refine own_go (fun _ k => XS.aloadN X19.here hx rfl (hb hby own_d4_43) rfl rfl k) ?_
  show own_Go _ _ _ _ T19 (mkF m 44 #[.val (.ref a_1), .val (.int p_2), .val (.ref a_3), .val (.ref a_3), .val (.int (0 : Int32)), .val (.int (0 : Int32)), .unset] [(.ref a_1), (.int (2 : Int32))])
  have f20 : Fld Z T13.heap a_1 "com/example/kalchas/kalchas/propositional/HornClauses" "heads" "[I" (.ref wh) := (pr_F_a_1_heads.keep K13q nin0)
  obtain ⟨T21, X21, e21, st21⟩ := getF X19 hx hZ hown (host := "") (Or.inl (hw _ (List.mem_of_getElem? (i := 11) rfl))) Via.refl e19 f20 (g := (mkF m 44 #[.val (.ref a_1), .val (.int p_2), .val (.ref a_3), .val (.ref a_3), .val (.int (0 : Int32)), .val (.int (0 : Int32)), .unset] [(.ref a_1), (.int (2 : Int32))])) rfl rfl (hb hby own_d4_44)
  refine own_go (fun _ k => st21 _ k) ?_
  show own_Go _ _ _ _ T21 (mkF m 47 #[.val (.ref a_1), .val (.int p_2), .val (.ref a_3), .val (.ref a_3), .val (.int (0 : Int32)), .val (.int (0 : Int32)), .unset] [(.ref wh), (.int (2 : Int32))])
  have f22 : own_AV Z T13.heap wh .int (64 : Int32) gh := (pr_A_wh.keep K13q nin0)
  obtain ⟨q23, c23, R23, s23, t23⟩ := id f22
  refine own_go (fun _ k => X21.arraylength hx (by rw [e21]; exact R23.1) (State.isArrayOf_alike hZ.alike R23.2.1) (g := (mkF m 47 #[.val (.ref a_1), .val (.int p_2), .val (.ref a_3), .val (.ref a_3), .val (.int (0 : Int32)), .val (.int (0 : Int32)), .unset] [(.ref wh), (.int (2 : Int32))])) rfl rfl (hb hby own_d4_47) _ k) ?_
  rw [len_of s23 q23]
  show own_Go _ _ _ _ T21 (mkF m 48 #[.val (.ref a_1), .val (.int p_2), .val (.ref a_3), .val (.ref a_3), .val (.int (0 : Int32)), .val (.int (0 : Int32)), .unset] [(.int (64 : Int32)), (.int (2 : Int32))])
  have hc24 : ¬ ((2 : Int32) = (64 : Int32)) := by decide
  refine own_go (fun _ k => XS.icmpYes X21.here hx rfl (pc0 := 48) (pc' := 85) rfl (hb hby own_d4_48) rfl (Jvm.Free.XT.ii_ne_t hc24) (by decide) (by decide) k) ?_
  show own_Go _ _ _ _ T21 (mkF m 85 #[.val (.ref a_1), .val (.int p_2), .val (.ref a_3), .val (.ref a_3), .val (.int (0 : Int32)), .val (.int (0 : Int32)), .unset] [])
  refine own_go (fun _ k => XS.aloadN X21.here hx rfl (hb hby own_d4_85) rfl rfl k) ?_
  show own_Go _ _ _ _ T21 (mkF m 86 #[.val (.ref a_1), .val (.int p_2), .val (.ref a_3), .val (.ref a_3), .val (.int (0 : Int32)), .val (.int (0 : Int32)), .unset] [(.ref a_1)])
  have f25 : Fld Z T13.heap a_1 "com/example/kalchas/kalchas/propositional/HornClauses" "bodyStarts" "[I" (.ref wst) := (pr_F_a_1_bodyStarts.keep K13q nin0)
  obtain ⟨T26, X26, e26, st26⟩ := getF X21 hx hZ hown (host := "") (Or.inl (hw _ (List.mem_of_getElem? (i := 13) rfl))) Via.refl e21 f25 (g := (mkF m 86 #[.val (.ref a_1), .val (.int p_2), .val (.ref a_3), .val (.ref a_3), .val (.int (0 : Int32)), .val (.int (0 : Int32)), .unset] [(.ref a_1)])) rfl rfl (hb hby own_d4_86)
  refine own_go (fun _ k => st26 _ k) ?_
  show own_Go _ _ _ _ T26 (mkF m 89 #[.val (.ref a_1), .val (.int p_2), .val (.ref a_3), .val (.ref a_3), .val (.int (0 : Int32)), .val (.int (0 : Int32)), .unset] [(.ref wst)])
  refine own_go (fun _ k => XS.aloadN X26.here hx rfl (hb hby own_d4_89) rfl rfl k) ?_
  show own_Go _ _ _ _ T26 (mkF m 90 #[.val (.ref a_1), .val (.int p_2), .val (.ref a_3), .val (.ref a_3), .val (.int (0 : Int32)), .val (.int (0 : Int32)), .unset] [(.ref a_1), (.ref wst)])
  obtain ⟨T27, X27, e27, st27⟩ := getF X26 hx hZ hown (host := "") (Or.inl (hw _ (List.mem_of_getElem? (i := 47) rfl))) Via.refl e26 f18 (g := (mkF m 90 #[.val (.ref a_1), .val (.int p_2), .val (.ref a_3), .val (.ref a_3), .val (.int (0 : Int32)), .val (.int (0 : Int32)), .unset] [(.ref a_1), (.ref wst)])) rfl rfl (hb hby own_d4_90)
  refine own_go (fun _ k => st27 _ k) ?_
  show own_Go _ _ _ _ T27 (mkF m 93 #[.val (.ref a_1), .val (.int p_2), .val (.ref a_3), .val (.ref a_3), .val (.int (0 : Int32)), .val (.int (0 : Int32)), .unset] [(.int (2 : Int32)), (.ref wst)])
  have f28 : own_AV Z T13.heap wst .int (65 : Int32) gs := (pr_A_wst.keep K13q nin0)
  obtain ⟨q29, c29, R29, s29, t29⟩ := id f28
  have hin29 : ¬ ((2 : Int32) < 0 ∨ c29.slots.size ≤ ((2 : Int32)).toNatClampNeg) := inb_of s29 ⟨by decide, by decide⟩
  have u29 : c29.slots[((2 : Int32)).toNatClampNeg]? = some (.int bs) := own_at (k := 2) t29 s29 hin29 (by decide) (hgs)
  refine own_go (fun _ k => X27.iaload hx (j := (2 : Int32)) (v := (.int bs)) (by rw [e27]; exact R29.1) (State.isArrayOf_alike hZ.alike R29.2.1) R29.2.2 hin29 u29 (g := (mkF m 93 #[.val (.ref a_1), .val (.int p_2), .val (.ref a_3), .val (.ref a_3), .val (.int (0 : Int32)), .val (.int (0 : Int32)), .unset] [(.int (2 : Int32)), (.ref wst)])) rfl rfl (hb hby own_d4_93) _ k) ?_
  show own_Go _ _ _ _ T27 (mkF m 94 #[.val (.ref a_1), .val (.int p_2), .val (.ref a_3), .val (.ref a_3), .val (.int (0 : Int32)), .val (.int (0 : Int32)), .unset] [(.int bs)])
  refine own_go (fun _ k => XS.istoreN X27.here hx rfl (hb hby own_d4_94) rfl (l' := #[.val (.ref a_1), .val (.int p_2), .val (.ref a_3), .val (.int bs), .val (.int (0 : Int32)), .val (.int (0 : Int32)), .unset]) rfl k) ?_
  show own_Go _ _ _ _ T27 (mkF m 95 #[.val (.ref a_1), .val (.int p_2), .val (.ref a_3), .val (.int bs), .val (.int (0 : Int32)), .val (.int (0 : Int32)), .unset] [])
  refine own_go (fun _ k => XS.iloadN X27.here hx rfl (hb hby own_d4_95) rfl k) ?_
  show own_Go _ _ _ _ T27 (mkF m 96 #[.val (.ref a_1), .val (.int p_2), .val (.ref a_3), .val (.int bs), .val (.int (0 : Int32)), .val (.int (0 : Int32)), .unset] [(.int bs)])
  refine own_go (fun _ k => XS.aloadN X27.here hx rfl (hb hby own_d4_96) rfl rfl k) ?_
  show own_Go _ _ _ _ T27 (mkF m 97 #[.val (.ref a_1), .val (.int p_2), .val (.ref a_3), .val (.int bs), .val (.int (0 : Int32)), .val (.int (0 : Int32)), .unset] [(.ref a_3), (.int bs)])
  obtain ⟨q30, c30, R30, s30, t30⟩ := id f15
  refine own_go (fun _ k => X27.arraylength hx (by rw [e27]; exact R30.1) (State.isArrayOf_alike hZ.alike R30.2.1) (g := (mkF m 97 #[.val (.ref a_1), .val (.int p_2), .val (.ref a_3), .val (.int bs), .val (.int (0 : Int32)), .val (.int (0 : Int32)), .unset] [(.ref a_3), (.int bs)])) rfl rfl (hb hby own_d4_97) _ k) ?_
  rw [len_of s30 q30]
  show own_Go _ _ _ _ T27 (mkF m 98 #[.val (.ref a_1), .val (.int p_2), .val (.ref a_3), .val (.int bs), .val (.int (0 : Int32)), .val (.int (0 : Int32)), .unset] [(.int (0 : Int32)), (.int bs)])
  refine own_go (fun _ k => XS.iadd X27.here hx rfl (hb hby own_d4_98) rfl k) ?_
  show own_Go _ _ _ _ T27 (mkF m 99 #[.val (.ref a_1), .val (.int p_2), .val (.ref a_3), .val (.int bs), .val (.int (0 : Int32)), .val (.int (0 : Int32)), .unset] [(.int (bs + (0 : Int32)))])
  refine own_go (fun _ k => XS.aloadN X27.here hx rfl (hb hby own_d4_99) rfl rfl k) ?_
  show own_Go _ _ _ _ T27 (mkF m 100 #[.val (.ref a_1), .val (.int p_2), .val (.ref a_3), .val (.int bs), .val (.int (0 : Int32)), .val (.int (0 : Int32)), .unset] [(.ref a_1), (.int (bs + (0 : Int32)))])
  have f31 : Fld Z T13.heap a_1 "com/example/kalchas/kalchas/propositional/HornClauses" "bodies" "[I" (.ref wb) := (pr_F_a_1_bodies.keep K13q nin0)
  obtain ⟨T32, X32, e32, st32⟩ := getF X27 hx hZ hown (host := "") (Or.inl (hw _ (List.mem_of_getElem? (i := 15) rfl))) Via.refl e27 f31 (g := (mkF m 100 #[.val (.ref a_1), .val (.int p_2), .val (.ref a_3), .val (.int bs), .val (.int (0 : Int32)), .val (.int (0 : Int32)), .unset] [(.ref a_1), (.int (bs + (0 : Int32)))])) rfl rfl (hb hby own_d4_100)
  refine own_go (fun _ k => st32 _ k) ?_
  show own_Go _ _ _ _ T32 (mkF m 103 #[.val (.ref a_1), .val (.int p_2), .val (.ref a_3), .val (.int bs), .val (.int (0 : Int32)), .val (.int (0 : Int32)), .unset] [(.ref wb), (.int (bs + (0 : Int32)))])
  have f33 : own_AV Z T13.heap wb .int (64 : Int32) gb := (pr_A_wb.keep K13q nin0)
  obtain ⟨q34, c34, R34, s34, t34⟩ := id f33
  refine own_go (fun _ k => X32.arraylength hx (by rw [e32]; exact R34.1) (State.isArrayOf_alike hZ.alike R34.2.1) (g := (mkF m 103 #[.val (.ref a_1), .val (.int p_2), .val (.ref a_3), .val (.int bs), .val (.int (0 : Int32)), .val (.int (0 : Int32)), .unset] [(.ref wb), (.int (bs + (0 : Int32)))])) rfl rfl (hb hby own_d4_103) _ k) ?_
  rw [len_of s34 q34]
  show own_Go _ _ _ _ T32 (mkF m 104 #[.val (.ref a_1), .val (.int p_2), .val (.ref a_3), .val (.int bs), .val (.int (0 : Int32)), .val (.int (0 : Int32)), .unset] [(.int (64 : Int32)), (.int (bs + (0 : Int32)))])
  have hc35 : ¬ ((64 : Int32) < (bs + (0 : Int32))) := own_t4_20_0 bs hbs
  refine own_go (fun _ k => XS.icmpYes X32.here hx rfl (pc0 := 104) (pc' := 132) rfl (hb hby own_d4_104) rfl (Jvm.Free.XT.ii_le_t hc35) (by decide) (by decide) k) ?_
  show own_Go _ _ _ _ T32 (mkF m 132 #[.val (.ref a_1), .val (.int p_2), .val (.ref a_3), .val (.int bs), .val (.int (0 : Int32)), .val (.int (0 : Int32)), .unset] [])
  refine own_go (fun _ k => XS.aloadN X32.here hx rfl (hb hby own_d4_132) rfl rfl k) ?_
  show own_Go _ _ _ _ T32 (mkF m 133 #[.val (.ref a_1), .val (.int p_2), .val (.ref a_3), .val (.int bs), .val (.int (0 : Int32)), .val (.int (0 : Int32)), .unset] [(.ref a_3)])
  refine own_go (fun _ k => XS.iconst X32.here hx rfl (hb hby own_d4_133) k) ?_
  show own_Go _ _ _ _ T32 (mkF m 134 #[.val (.ref a_1), .val (.int p_2), .val (.ref a_3), .val (.int bs), .val (.int (0 : Int32)), .val (.int (0 : Int32)), .unset] [(.int (0 : Int32)), (.ref a_3)])
  refine own_go (fun _ k => XS.aloadN X32.here hx rfl (hb hby own_d4_134) rfl rfl k) ?_
  show own_Go _ _ _ _ T32 (mkF m 135 #[.val (.ref a_1), .val (.int p_2), .val (.ref a_3), .val (.int bs), .val (.int (0 : Int32)), .val (.int (0 : Int32)), .unset] [(.ref a_1), (.int (0 : Int32)), (.ref a_3)])
  obtain ⟨T36, X36, e36, st36⟩ := getF X32 hx hZ hown (host := "") (Or.inl (hw _ (List.mem_of_getElem? (i := 15) rfl))) Via.refl e32 f31 (g := (mkF m 135 #[.val (.ref a_1), .val (.int p_2), .val (.ref a_3), .val (.int bs), .val (.int (0 : Int32)), .val (.int (0 : Int32)), .unset] [(.ref a_1), (.int (0 : Int32)), (.ref a_3)])) rfl rfl (hb hby own_d4_135)
  refine own_go (fun _ k => st36 _ k) ?_
  show own_Go _ _ _ _ T36 (mkF m 138 #[.val (.ref a_1), .val (.int p_2), .val (.ref a_3), .val (.int bs), .val (.int (0 : Int32)), .val (.int (0 : Int32)), .unset] [(.ref wb), (.int (0 : Int32)), (.ref a_3)])
  refine own_go (fun _ k => XS.iloadN X36.here hx rfl (hb hby own_d4_138) rfl k) ?_
  show own_Go _ _ _ _ T36 (mkF m 139 #[.val (.ref a_1), .val (.int p_2), .val (.ref a_3), .val (.int bs), .val (.int (0 : Int32)), .val (.int (0 : Int32)), .unset] [(.int bs), (.ref wb), (.int (0 : Int32)), (.ref a_3)])
  refine own_go (fun _ k => XS.aloadN X36.here hx rfl (hb hby own_d4_139) rfl rfl k) ?_
  show own_Go _ _ _ _ T36 (mkF m 140 #[.val (.ref a_1), .val (.int p_2), .val (.ref a_3), .val (.int bs), .val (.int (0 : Int32)), .val (.int (0 : Int32)), .unset] [(.ref a_3), (.int bs), (.ref wb), (.int (0 : Int32)), (.ref a_3)])
  obtain ⟨q37, c37, R37, s37, t37⟩ := id f15
  refine own_go (fun _ k => X36.arraylength hx (by rw [e36]; exact R37.1) (State.isArrayOf_alike hZ.alike R37.2.1) (g := (mkF m 140 #[.val (.ref a_1), .val (.int p_2), .val (.ref a_3), .val (.int bs), .val (.int (0 : Int32)), .val (.int (0 : Int32)), .unset] [(.ref a_3), (.int bs), (.ref wb), (.int (0 : Int32)), (.ref a_3)])) rfl rfl (hb hby own_d4_140) _ k) ?_
  rw [len_of s37 q37]
  show own_Go _ _ _ _ T36 (mkF m 141 #[.val (.ref a_1), .val (.int p_2), .val (.ref a_3), .val (.int bs), .val (.int (0 : Int32)), .val (.int (0 : Int32)), .unset] [(.int (0 : Int32)), (.int bs), (.ref wb), (.int (0 : Int32)), (.ref a_3)])
  obtain ⟨T38, h38, L38, X38, e38, N38, Kq38, V38, st38⟩ := own_cp X36 hx hZ hown (hw _ (List.mem_of_getElem? (i := 49) rfl)) (hw _ (List.mem_of_getElem? (i := 52) rfl)) (hw _ (List.mem_of_getElem? (i := 50) rfl)) (hw _ (List.mem_of_getElem? (i := 51) rfl)) e36 f15 f33 (fun _ => rfl) hfb (by decide) (own_t4_20_2 bs hbs hc35) (by decide) (by decide) (own_cl5 (own_t4_20_1 bs hbs hc35)) N13 (by omega) (g := (mkF m 141 #[.val (.ref a_1), .val (.int p_2), .val (.ref a_3), .val (.int bs), .val (.int (0 : Int32)), .val (.int (0 : Int32)), .unset] [(.int (0 : Int32)), (.int bs), (.ref wb), (.int (0 : Int32)), (.ref a_3)])) rfl (by rw [hml]; rfl) rfl (hb hby own_d4_141) (by decide) (W := 0) (by show 2 * 0 + _ ≤ _; exact Nat.le_of_eq rfl) (by decide)
  have z39 := Kq38.1
  have K38 : Keep h0 h38 [a_1, wh, wst, wb] := K13.trans Kq38 (allS (Or.inl (List.mem_of_getElem? (i := 3) rfl)) all0)
  refine own_go (fun _ k => st38 _ k) ?_
  show own_Go _ _ _ _ T38 (mkF m 144 #[.val (.ref a_1), .val (.int p_2), .val (.ref a_3), .val (.int bs), .val (.int (0 : Int32)), .val (.int (0 : Int32)), .unset] [])
  refine own_go (fun _ k => XS.aloadN X38.here hx rfl (hb hby own_d4_144) rfl rfl k) ?_
  show own_Go _ _ _ _ T38 (mkF m 145 #[.val (.ref a_1), .val (.int p_2), .val (.ref a_3), .val (.int bs), .val (.int (0 : Int32)), .val (.int (0 : Int32)), .unset] [(.ref a_1)])
  have f40 : Fld Z h38 a_1 "com/example/kalchas/kalchas/propositional/HornClauses" "heads" "[I" (.ref wh) := (f20.keep Kq38 (ninS (own_ne (by omega)) nin0))
  obtain ⟨T41, X41, e41, st41⟩ := getF X38 hx hZ hown (host := "") (Or.inl (hw _ (List.mem_of_getElem? (i := 11) rfl))) Via.refl e38 f40 (g := (mkF m 145 #[.val (.ref a_1), .val (.int p_2), .val (.ref a_3), .val (.int bs), .val (.int (0 : Int32)), .val (.int (0 : Int32)), .unset] [(.ref a_1)])) rfl rfl (hb hby own_d4_145)
  refine own_go (fun _ k => st41 _ k) ?_
  show own_Go _ _ _ _ T41 (mkF m 148 #[.val (.ref a_1), .val (.int p_2), .val (.ref a_3), .val (.int bs), .val (.int (0 : Int32)), .val (.int (0 : Int32)), .unset] [(.ref wh)])
  refine own_go (fun _ k => XS.aloadN X41.here hx rfl (hb hby own_d4_148) rfl rfl k) ?_
  show own_Go _ _ _ _ T41 (mkF m 149 #[.val (.ref a_1), .val (.int p_2), .val (.ref a_3), .val (.int bs), .val (.int (0 : Int32)), .val (.int (0 : Int32)), .unset] [(.ref a_1), (.ref wh)])
  have f42 : Fld Z h38 a_1 "com/example/kalchas/kalchas/propositional/HornClauses" "clauseCount" "I" (.int (2 : Int32)) := (f18.keep Kq38 (ninS (own_ne (by omega)) nin0))
  obtain ⟨T43, X43, e43, st43⟩ := getF X41 hx hZ hown (host := "") (Or.inl (hw _ (List.mem_of_getElem? (i := 47) rfl))) Via.refl e41 f42 (g := (mkF m 149 #[.val (.ref a_1), .val (.int p_2), .val (.ref a_3), .val (.int bs), .val (.int (0 : Int32)), .val (.int (0 : Int32)), .unset] [(.ref a_1), (.ref wh)])) rfl rfl (hb hby own_d4_149)
  refine own_go (fun _ k => st43 _ k) ?_
  show own_Go _ _ _ _ T43 (mkF m 152 #[.val (.ref a_1), .val (.int p_2), .val (.ref a_3), .val (.int bs), .val (.int (0 : Int32)), .val (.int (0 : Int32)), .unset] [(.int (2 : Int32)), (.ref wh)])
  refine own_go (fun _ k => XS.iloadN X43.here hx rfl (hb hby own_d4_152) rfl k) ?_
  show own_Go _ _ _ _ T43 (mkF m 153 #[.val (.ref a_1), .val (.int p_2), .val (.ref a_3), .val (.int bs), .val (.int (0 : Int32)), .val (.int (0 : Int32)), .unset] [(.int p_2), (.int (2 : Int32)), (.ref wh)])
  have f44 : own_AV Z h38 wh .int (64 : Int32) gh := (f22.keep Kq38 (ninS (own_ne (by omega)) nin0))
  obtain ⟨q45, c45, R45, s45, t45⟩ := id f44
  have hin45 : ¬ ((2 : Int32) < 0 ∨ c45.slots.size ≤ ((2 : Int32)).toNatClampNeg) := inb_of s45 ⟨by decide, by decide⟩
  obtain ⟨T46, h46, X46, e46, W46, st46⟩ := stI X43 hx hZ e43 R45 (j := (2 : Int32)) hin45 (g := (mkF m 153 #[.val (.ref a_1), .val (.int p_2), .val (.ref a_3), .val (.int bs), .val (.int (0 : Int32)), .val (.int (0 : Int32)), .unset] [(.int p_2), (.int (2 : Int32)), (.ref wh)])) rfl rfl (hb hby own_d4_153)
  have V46 : own_AV Z h46 wh .int (64 : Int32) (own_upd gh 2 (.int p_2)) := own_AV.set (k := 2) f44 W46 (by decide)
  have z47 := W46.size
  have K46 : Keep h0 h46 [a_1, wh, wst, wb] := K38.wr W46 (Or.inl (List.mem_of_getElem? (i := 1) rfl))
  have N46 := Fr.snoc X46 N38 (by omega : n0 ≤ wh)
  refine own_go (fun _ k => st46 _ k) ?_
  show own_Go _ _ _ _ T46 (mkF m 154 #[.val (.ref a_1), .val (.int p_2), .val (.ref a_3), .val (.int bs), .val (.int (0 : Int32)), .val (.int (0 : Int32)), .unset] [])
  refine own_go (fun _ k => XS.aloadN X46.here hx rfl (hb hby own_d4_154) rfl rfl k) ?_
  show own_Go _ _ _ _ T46 (mkF m 155 #[.val (.ref a_1), .val (.int p_2), .val (.ref a_3), .val (.int bs), .val (.int (0 : Int32)), .val (.int (0 : Int32)), .unset] [(.ref a_1)])
  have f48 : Fld Z h46 a_1 "com/example/kalchas/kalchas/propositional/HornClauses" "bodyStarts" "[I" (.ref wst) := ((f25.keep Kq38 (ninS (own_ne (by omega)) nin0)).other W46 (Or.inl (own_ne (by omega))))
  obtain ⟨T49, X49, e49, st49⟩ := getF X46 hx hZ hown (host := "") (Or.inl (hw _ (List.mem_of_getElem? (i := 13) rfl))) Via.refl e46 f48 (g := (mkF m 155 #[.val (.ref a_1), .val (.int p_2), .val (.ref a_3), .val (.int bs), .val (.int (0 : Int32)), .val (.int (0 : Int32)), .unset] [(.ref a_1)])) rfl rfl (hb hby own_d4_155)
  refine own_go (fun _ k => st49 _ k) ?_
  show own_Go _ _ _ _ T49 (mkF m 158 #[.val (.ref a_1), .val (.int p_2), .val (.ref a_3), .val (.int bs), .val (.int (0 : Int32)), .val (.int (0 : Int32)), .unset] [(.ref wst)])
  refine own_go (fun _ k => XS.aloadN X49.here hx rfl (hb hby own_d4_158) rfl rfl k) ?_
  show own_Go _ _ _ _ T49 (mkF m 159 #[.val (.ref a_1), .val (.int p_2), .val (.ref a_3), .val (.int bs), .val (.int (0 : Int32)), .val (.int (0 : Int32)), .unset] [(.ref a_1), (.ref wst)])
  have f50 : Fld Z h46 a_1 "com/example/kalchas/kalchas/propositional/HornClauses" "clauseCount" "I" (.int (2 : Int32)) := (f42.other W46 (Or.inl (own_ne (by omega))))
  obtain ⟨T51, X51, e51, st51⟩ := getF X49 hx hZ hown (host := "") (Or.inl (hw _ (List.mem_of_getElem? (i := 47) rfl))) Via.refl e49 f50 (g := (mkF m 159 #[.val (.ref a_1), .val (.int p_2), .val (.ref a_3), .val (.int bs), .val (.int (0 : Int32)), .val (.int (0 : Int32)), .unset] [(.ref a_1), (.ref wst)])) rfl rfl (hb hby own_d4_159)
  refine own_go (fun _ k => st51 _ k) ?_
  show own_Go _ _ _ _ T51 (mkF m 162 #[.val (.ref a_1), .val (.int p_2), .val (.ref a_3), .val (.int bs), .val (.int (0 : Int32)), .val (.int (0 : Int32)), .unset] [(.int (2 : Int32)), (.ref wst)])
  refine own_go (fun _ k => XS.iconst X51.here hx rfl (hb hby own_d4_162) k) ?_
  show own_Go _ _ _ _ T51 (mkF m 163 #[.val (.ref a_1), .val (.int p_2), .val (.ref a_3), .val (.int bs), .val (.int (0 : Int32)), .val (.int (0 : Int32)), .unset] [(.int (1 : Int32)), (.int (2 : Int32)), (.ref wst)])
  refine own_go (fun _ k => XS.iadd X51.here hx rfl (hb hby own_d4_163) rfl k) ?_
  show own_Go _ _ _ _ T51 (mkF m 164 #[.val (.ref a_1), .val (.int p_2), .val (.ref a_3), .val (.int bs), .val (.int (0 : Int32)), .val (.int (0 : Int32)), .unset] [(.int (3 : Int32)), (.ref wst)])
  refine own_go (fun _ k => XS.iloadN X51.here hx rfl (hb hby own_d4_164) rfl k) ?_
  show own_Go _ _ _ _ T51 (mkF m 165 #[.val (.ref a_1), .val (.int p_2), .val (.ref a_3), .val (.int bs), .val (.int (0 : Int32)), .val (.int (0 : Int32)), .unset] [(.int bs), (.int (3 : Int32)), (.ref wst)])
  refine own_go (fun _ k => XS.aloadN X51.here hx rfl (hb hby own_d4_165) rfl rfl k) ?_
  show own_Go _ _ _ _ T51 (mkF m 166 #[.val (.ref a_1), .val (.int p_2), .val (.ref a_3), .val (.int bs), .val (.int (0 : Int32)), .val (.int (0 : Int32)), .unset] [(.ref a_3), (.int bs), (.int (3 : Int32)), (.ref wst)])
  have f52 : own_AV Z h46 a_3 .int (0 : Int32) (fun _ => (.int (0 : Int32))) := ((f15.keep Kq38 (ninS (own_ne (by omega)) nin0)).other W46 (own_ne (by omega)))
  obtain ⟨q53, c53, R53, s53, t53⟩ := id f52
  refine own_go (fun _ k => X51.arraylength hx (by rw [e51]; exact R53.1) (State.isArrayOf_alike hZ.alike R53.2.1) (g := (mkF m 166 #[.val (.ref a_1), .val (.int p_2), .val (.ref a_3), .val (.int bs), .val (.int (0 : Int32)), .val (.int (0 : Int32)), .unset] [(.ref a_3), (.int bs), (.int (3 : Int32)), (.ref wst)])) rfl rfl (hb hby own_d4_166) _ k) ?_
  rw [len_of s53 q53]
  show own_Go _ _ _ _ T51 (mkF m 167 #[.val (.ref a_1), .val (.int p_2), .val (.ref a_3), .val (.int bs), .val (.int (0 : Int32)), .val (.int (0 : Int32)), .unset] [(.int (0 : Int32)), (.int bs), (.int (3 : Int32)), (.ref wst)])
  refine own_go (fun _ k => XS.iadd X51.here hx rfl (hb hby own_d4_167) rfl k) ?_
  show own_Go _ _ _ _ T51 (mkF m 168 #[.val (.ref a_1), .val (.int p_2), .val (.ref a_3), .val (.int bs), .val (.int (0 : Int32)), .val (.int (0 : Int32)), .unset] [(.int (bs + (0 : Int32))), (.int (3 : Int32)), (.ref wst)])
  have f54 : own_AV Z h46 wst .int (65 : Int32) gs := ((f28.keep Kq38 (ninS (own_ne (by omega)) nin0)).other W46 (own_ne (by omega)))
  obtain ⟨q55, c55, R55, s55, t55⟩ := id f54
  have hin55 : ¬ ((3 : Int32) < 0 ∨ c55.slots.size ≤ ((3 : Int32)).toNatClampNeg) := inb_of s55 ⟨by decide, by decide⟩
  obtain ⟨T56, h56, X56, e56, W56, st56⟩ := stI X51 hx hZ e51 R55 (j := (3 : Int32)) hin55 (g := (mkF m 168 #[.val (.ref a_1), .val (.int p_2), .val (.ref a_3), .val (.int bs), .val (.int (0 : Int32)), .val (.int (0 : Int32)), .unset] [(.int (bs + (0 : Int32))), (.int (3 : Int32)), (.ref wst)])) rfl rfl (hb hby own_d4_168)
  have V56 : own_AV Z h56 wst .int (65 : Int32) (own_upd gs 3 (.int (bs + (0 : Int32)))) := own_AV.set (k := 3) f54 W56 (by decide)
  have z57 := W56.size
  have K56 : Keep h0 h56 [a_1, wh, wst, wb] := K46.wr W56 (Or.inl (List.mem_of_getElem? (i := 2) rfl))
  have N56 := Fr.snoc X56 N46 (by omega : n0 ≤ wst)
  refine own_go (fun _ k => st56 _ k) ?_
  show own_Go _ _ _ _ T56 (mkF m 169 #[.val (.ref a_1), .val (.int p_2), .val (.ref a_3), .val (.int bs), .val (.int (0 : Int32)), .val (.int (0 : Int32)), .unset] [])
  refine own_go (fun _ k => XS.aloadN X56.here hx rfl (hb hby own_d4_169) rfl rfl k) ?_
  show own_Go _ _ _ _ T56 (mkF m 170 #[.val (.ref a_1), .val (.int p_2), .val (.ref a_3), .val (.int bs), .val (.int (0 : Int32)), .val (.int (0 : Int32)), .unset] [(.ref a_1)])
  refine own_go (fun _ k => XS.dup X56.here hx rfl (hb hby own_d4_170) rfl rfl k) ?_
  show own_Go _ _ _ _ T56 (mkF m 171 #[.val (.ref a_1), .val (.int p_2), .val (.ref a_3), .val (.int bs), .val (.int (0 : Int32)), .val (.int (0 : Int32)), .unset] [(.ref a_1), (.ref a_1)])
  have f58 : Fld Z h56 a_1 "com/example/kalchas/kalchas/propositional/HornClauses" "clauseCount" "I" (.int (2 : Int32)) := (f50.other W56 (Or.inl (own_ne (by omega))))
  obtain ⟨T59, X59, e59, st59⟩ := getF X56 hx hZ hown (host := "") (Or.inl (hw _ (List.mem_of_getElem? (i := 47) rfl))) Via.refl e56 f58 (g := (mkF m 171 #[.val (.ref a_1), .val (.int p_2), .val (.ref a_3), .val (.int bs), .val (.int (0 : Int32)), .val (.int (0 : Int32)), .unset] [(.ref a_1), (.ref a_1)])) rfl rfl (hb hby own_d4_171)
  refine own_go (fun _ k => st59 _ k) ?_
  show own_Go _ _ _ _ T59 (mkF m 174 #[.val (.ref a_1), .val (.int p_2), .val (.ref a_3), .val (.int bs), .val (.int (0 : Int32)), .val (.int (0 : Int32)), .unset] [(.int (2 : Int32)), (.ref a_1)])
  refine own_go (fun _ k => XS.iconst X59.here hx rfl (hb hby own_d4_174) k) ?_
  show own_Go _ _ _ _ T59 (mkF m 175 #[.val (.ref a_1), .val (.int p_2), .val (.ref a_3), .val (.int bs), .val (.int (0 : Int32)), .val (.int (0 : Int32)), .unset] [(.int (1 : Int32)), (.int (2 : Int32)), (.ref a_1)])
  refine own_go (fun _ k => XS.iadd X59.here hx rfl (hb hby own_d4_175) rfl k) ?_
  show own_Go _ _ _ _ T59 (mkF m 176 #[.val (.ref a_1), .val (.int p_2), .val (.ref a_3), .val (.int bs), .val (.int (0 : Int32)), .val (.int (0 : Int32)), .unset] [(.int (3 : Int32)), (.ref a_1)])
  have f60 : Exa Z h56 a_1 "com/example/kalchas/kalchas/propositional/HornClauses" := ((((pr_E_a_1.keep K13q).keep Kq38).wr W46).wr W56)
  obtain ⟨T61, h61, X61, e61, W61, st61⟩ := putF X59 hx hZ hown (host := "") (Or.inl (hw _ (List.mem_of_getElem? (i := 47) rfl))) Via.refl e59 f58 f60 (Or.inl (hw _ (List.mem_of_getElem? (i := 48) rfl))) (hw _ (List.mem_of_getElem? (i := 3) rfl)) (ty := .int) (by decide) rfl rfl (g := (mkF m 176 #[.val (.ref a_1), .val (.int p_2), .val (.ref a_3), .val (.int bs), .val (.int (0 : Int32)), .val (.int (0 : Int32)), .unset] [(.int (3 : Int32)), (.ref a_1)])) rfl rfl (hb hby own_d4_176)
  have z62 := W61.size
  have K61 : Keep h0 h61 [a_1, wh, wst, wb] := K56.wr W61 (Or.inl (List.mem_of_getElem? (i := 0) rfl))
  have N61 := Fr.snoc X61 N56 (by omega : n0 ≤ a_1)
  have Fw61 : Fld Z h61 a_1 "com/example/kalchas/kalchas/propositional/HornClauses" "clauseCount" "I" (.int (3 : Int32)) := Fld.same W61 f58
  refine own_go (fun _ k => st61 _ k) ?_
  show own_Go _ _ _ _ T61 (mkF m 179 #[.val (.ref a_1), .val (.int p_2), .val (.ref a_3), .val (.int bs), .val (.int (0 : Int32)), .val (.int (0 : Int32)), .unset] [])
  refine own_go (fun _ k => XS.aloadN X61.here hx rfl (hb hby own_d4_179) rfl rfl k) ?_
  show own_Go _ _ _ _ T61 (mkF m 180 #[.val (.ref a_1), .val (.int p_2), .val (.ref a_3), .val (.int bs), .val (.int (0 : Int32)), .val (.int (0 : Int32)), .unset] [(.ref a_1)])
  refine own_go (fun _ k => XS.aconstNull X61.here hx rfl (hb hby own_d4_180) k) ?_
  show own_Go _ _ _ _ T61 (mkF m 181 #[.val (.ref a_1), .val (.int p_2), .val (.ref a_3), .val (.int bs), .val (.int (0 : Int32)), .val (.int (0 : Int32)), .unset] [.null, (.ref a_1)])
  have f63 : Exa Z h61 a_1 "com/example/kalchas/kalchas/propositional/HornClauses" := (f60.wr W61)
  have f64 : Fld Z h61 a_1 "com/example/kalchas/kalchas/propositional/HornClauses" "occurrences" "[I" w_occ := (((((pr_F_a_1_occurrences.keep K13q nin0).keep Kq38 (ninS (own_ne (by omega)) nin0)).other W46 (Or.inl (own_ne (by omega)))).other W56 (Or.inl (own_ne (by omega)))).other W61 (Or.inr (slot_ne (Or.inl (hw _ (List.mem_of_getElem? (i := 23) rfl))) (Or.inl (hw _ (List.mem_of_getElem? (i := 48) rfl))) (by decide) (t := (.array .int)) (t' := .int) (by decide) (by decide))))
  obtain ⟨T65, h65, X65, e65, W65, st65⟩ := putF X61 hx hZ hown (host := "") (Or.inl (hw _ (List.mem_of_getElem? (i := 22) rfl))) Via.refl e61 f64 f63 (Or.inl (hw _ (List.mem_of_getElem? (i := 23) rfl))) (hw _ (List.mem_of_getElem? (i := 3) rfl)) (ty := (.array .int)) (by decide) rfl rfl (g := (mkF m 181 #[.val (.ref a_1), .val (.int p_2), .val (.ref a_3), .val (.int bs), .val (.int (0 : Int32)), .val (.int (0 : Int32)), .unset] [.null, (.ref a_1)])) rfl rfl (hb hby own_d4_181)
  have z66 := W65.size
  have K65 : Keep h0 h65 [a_1, wh, wst, wb] := K61.wr W65 (Or.inl (List.mem_of_getElem? (i := 0) rfl))
  have N65 := Fr.snoc X65 N61 (by omega : n0 ≤ a_1)
  have Fw65 : Fld Z h65 a_1 "com/example/kalchas/kalchas/propositional/HornClauses" "occurrences" "[I" .null := Fld.same W65 f64
  refine own_go (fun _ k => st65 _ k) ?_
  show own_Go _ _ _ _ T65 (mkF m 184 #[.val (.ref a_1), .val (.int p_2), .val (.ref a_3), .val (.int bs), .val (.int (0 : Int32)), .val (.int (0 : Int32)), .unset] [])
  obtain ⟨fs, hr, hrun, hended, hRW⟩ := X65.leaveW hS13 (by rw [e65]; omega) (v := none) (fun _ => rfl)
  refine ⟨_, _, X65.returnOut hx Bd.returns (hb hby own_d4_184) hr, hrun, hended, _, _, rfl, ?_, own_monoW hRW (by rw [y13]; decide) (by rw [z13]; decide)⟩
  show own_Q4_20 Z a_1 p_2 a_3 wh wst wb gh gs gb bs w_occ h0 n0 _ T65.heap _
  rw [e65]
  have f68 : Exa Z h65 a_1 "com/example/kalchas/kalchas/propositional/HornClauses" := (f63.wr W65)
  have f69 : Fld Z h65 a_1 "com/example/kalchas/kalchas/propositional/HornClauses" "variableCount" "I" (.int (3 : Int32)) := ((((((pr_F_a_1_variableCount.keep K13q nin0).keep Kq38 (ninS (own_ne (by omega)) nin0)).other W46 (Or.inl (own_ne (by omega)))).other W56 (Or.inl (own_ne (by omega)))).other W61 (Or.inr (slot_ne (Or.inl (hw _ (List.mem_of_getElem? (i := 25) rfl))) (Or.inl (hw _ (List.mem_of_getElem? (i := 48) rfl))) (by decide) (t := .int) (t' := .int) (by decide) (by decide)))).other W65 (Or.inr (slot_ne (Or.inl (hw _ (List.mem_of_getElem? (i := 25) rfl))) (Or.inl (hw _ (List.mem_of_getElem? (i := 23) rfl))) (by decide) (t := .int) (t' := (.array .int)) (by decide) (by decide))))
  have f70 : Fld Z h65 a_1 "com/example/kalchas/kalchas/propositional/HornClauses" "clauseCount" "I" (.int (3 : Int32)) := (Fw61.other W65 (Or.inr (slot_ne (Or.inl (hw _ (List.mem_of_getElem? (i := 48) rfl))) (Or.inl (hw _ (List.mem_of_getElem? (i := 23) rfl))) (by decide) (t := .int) (t' := (.array .int)) (by decide) (by decide))))
  have f71 : Fld Z h65 a_1 "com/example/kalchas/kalchas/propositional/HornClauses" "heads" "[I" (.ref wh) := ((((f40.other W46 (Or.inl (own_ne (by omega)))).other W56 (Or.inl (own_ne (by omega)))).other W61 (Or.inr (slot_ne (Or.inl (hw _ (List.mem_of_getElem? (i := 12) rfl))) (Or.inl (hw _ (List.mem_of_getElem? (i := 48) rfl))) (by decide) (t := (.array .int)) (t' := .int) (by decide) (by decide)))).other W65 (Or.inr (slot_ne (Or.inl (hw _ (List.mem_of_getElem? (i := 12) rfl))) (Or.inl (hw _ (List.mem_of_getElem? (i := 23) rfl))) (by decide) (t := (.array .int)) (t' := (.array .int)) (by decide) (by decide))))
  have f72 : Fld Z h65 a_1 "com/example/kalchas/kalchas/propositional/HornClauses" "bodyStarts" "[I" (.ref wst) := (((f48.other W56 (Or.inl (own_ne (by omega)))).other W61 (Or.inr (slot_ne (Or.inl (hw _ (List.mem_of_getElem? (i := 14) rfl))) (Or.inl (hw _ (List.mem_of_getElem? (i := 48) rfl))) (by decide) (t := (.array .int)) (t' := .int) (by decide) (by decide)))).other W65 (Or.inr (slot_ne (Or.inl (hw _ (List.mem_of_getElem? (i := 14) rfl))) (Or.inl (hw _ (List.mem_of_getElem? (i := 23) rfl))) (by decide) (t := (.array .int)) (t' := (.array .int)) (by decide) (by decide))))
  have f73 : Fld Z h65 a_1 "com/example/kalchas/kalchas/propositional/HornClauses" "bodies" "[I" (.ref wb) := (((((f31.keep Kq38 (ninS (own_ne (by omega)) nin0)).other W46 (Or.inl (own_ne (by omega)))).other W56 (Or.inl (own_ne (by omega)))).other W61 (Or.inr (slot_ne (Or.inl (hw _ (List.mem_of_getElem? (i := 16) rfl))) (Or.inl (hw _ (List.mem_of_getElem? (i := 48) rfl))) (by decide) (t := (.array .int)) (t' := .int) (by decide) (by decide)))).other W65 (Or.inr (slot_ne (Or.inl (hw _ (List.mem_of_getElem? (i := 16) rfl))) (Or.inl (hw _ (List.mem_of_getElem? (i := 23) rfl))) (by decide) (t := (.array .int)) (t' := (.array .int)) (by decide) (by decide))))
  have f74 : own_AV Z h65 wh .int (64 : Int32) (own_upd gh 2 (.int p_2)) := (((V46.other W56 (own_ne (by omega))).other W61 (own_ne (by omega))).other W65 (own_ne (by omega)))
  have f75 : own_AV Z h65 wst .int (65 : Int32) (own_upd gs 3 (.int (bs + (0 : Int32)))) := ((V56.other W61 (own_ne (by omega))).other W65 (own_ne (by omega)))
  have f76 : own_AV Z h65 wb .int (64 : Int32) (own_cpf (fun _ => (.int (0 : Int32))) ((0 : Int32)).toNatClampNeg gb (bs).toNatClampNeg ((0 : Int32)).toNatClampNeg) := ((((V38.other W46 (own_ne (by omega))).other W56 (own_ne (by omega))).other W61 (own_ne (by omega))).other W65 (own_ne (by omega)))
  exact ⟨(own_cpf (fun _ => (.int (0 : Int32))) ((0 : Int32)).toNatClampNeg gb (bs).toNatClampNeg ((0 : Int32)).toNatClampNeg), rfl, N65, K65, f68, f69, f70, f71, f72, f73, Fw65, f74, f75, f76, (own_cpff (fun _ => rfl) hfb)⟩
theorem own_ef_own_rm4_23 (m : MethodId) (x0 : Addr) (x1 : Int32) (x2 : Addr) : entryFrame m #[(.ref x0), (.int x1), (.ref x2)] 7 = mkF m 0 #[.val (.ref x0), .val (.int x1), .val (.ref x2), .unset, .unset, .unset, .unset] [] := by first | (simp [entryFrame, mkF, argsToLocals, Value.category]; done) | rfl
set_option maxRecDepth 65536 in
set_option maxHeartbeats 4000000 in
theorem own_t4_23_0 (bs : Int32) (hbs : 0 ≤ bs.toInt ∧ bs.toInt ≤ 10) : ¬ ((64 : Int32) < (bs + (3 : Int32))) := by
  have el0 : (3 : Int32).toInt = 3 := by decide
  have el1 : (64 : Int32).toInt = 64 := by decide
  have rv_bs := rng32 bs
  have fa3 := c_iadd bs (3 : Int32)
  have fa4 := rng32 (bs + (3 : Int32))
  have own0 : (0 : Int32).toInt = 0 := by decide
  simp only [← Int32.toInt_inj, Int32.lt_iff_toInt_lt, implies_true, and_true, true_and, own0, el0, el1] at *
  omega
set_option maxRecDepth 65536 in
set_option maxHeartbeats 4000000 in
theorem own_t4_23_1 (bs : Int32) (hbs : 0 ≤ bs.toInt ∧ bs.toInt ≤ 10) (hc56 : ¬ ((64 : Int32) < (bs + (3 : Int32)))) : 0 ≤ bs.toInt ∧ bs.toInt ≤ 61 := by
  have el0 : (3 : Int32).toInt = 3 := by decide
  have el1 : (64 : Int32).toInt = 64 := by decide
  have rv_bs := rng32 bs
  have fa3 := c_iadd bs (3 : Int32)
  have fa4 := rng32 (bs + (3 : Int32))
  have own0 : (0 : Int32).toInt = 0 := by decide
  simp only [← Int32.toInt_inj, Int32.lt_iff_toInt_lt, implies_true, and_true, true_and, own0, el0, el1] at *
  omega
set_option maxRecDepth 65536 in
set_option maxHeartbeats 4000000 in
theorem own_t4_23_2 (bs : Int32) (hbs : 0 ≤ bs.toInt ∧ bs.toInt ≤ 10) (hc56 : ¬ ((64 : Int32) < (bs + (3 : Int32)))) : ¬ bs < 0 := by
  have el0 : (3 : Int32).toInt = 3 := by decide
  have el1 : (64 : Int32).toInt = 64 := by decide
  have rv_bs := rng32 bs
  have fa3 := c_iadd bs (3 : Int32)
  have fa4 := rng32 (bs + (3 : Int32))
  have own0 : (0 : Int32).toInt = 0 := by decide
  simp only [← Int32.toInt_inj, Int32.lt_iff_toInt_lt, implies_true, and_true, true_and, own0, el0, el1] at *
  omega
def own_Q4_23 (Z : State) (a_1 : Addr) (p_2 : Int32) (a_3 : Addr) (wh : Addr) (wst : Addr) (wb : Addr) (gh : Nat → Value) (gs : Nat → Value) (gb : Nat → Value) (bs : Int32) (w_occ : Value) (y0 : Int32) (y1 : Int32) (y2 : Int32) (h0 : Heap) (n0 : Nat) (v : Option Value) (h : Heap) (L : List Loc) : Prop := ∃ (gb_ : Nat → Value), v = none ∧ Fr n0 L ∧ Keep h0 h [a_1, wh, wst, wb] ∧ Exa Z h a_1 "com/example/kalchas/kalchas/propositional/HornClauses" ∧ Fld Z h a_1 "com/example/kalchas/kalchas/propositional/HornClauses" "variableCount" "I" (.int (3 : Int32)) ∧ Fld Z h a_1 "com/example/kalchas/kalchas/propositional/HornClauses" "clauseCount" "I" (.int (3 : Int32)) ∧ Fld Z h a_1 "com/example/kalchas/kalchas/propositional/HornClauses" "heads" "[I" (.ref wh) ∧ Fld Z h a_1 "com/example/kalchas/kalchas/propositional/HornClauses" "bodyStarts" "[I" (.ref wst) ∧ Fld Z h a_1 "com/example/kalchas/kalchas/propositional/HornClauses" "bodies" "[I" (.ref wb) ∧ Fld Z h a_1 "com/example/kalchas/kalchas/propositional/HornClauses" "occurrences" "[I" .null ∧ own_AV Z h wh .int (64 : Int32) (own_upd gh 2 (.int p_2)) ∧ own_AV Z h wst .int (65 : Int32) (own_upd gs 3 (.int (bs + (3 : Int32)))) ∧ own_AV Z h wb .int (64 : Int32) gb_ ∧ (∀ i, fits .int (gb_ i) = true)
set_option maxRecDepth 65536 in
set_option maxHeartbeats 40000000 in
theorem own_rm4_23 (l : Launch) (Z : State) (a0 : Array Value) (hw : ∀ d ∈ tables_1, d.before a0 Z = true) (ws : List Jvm.Cond) (a_1 : Addr) (p_2 : Int32) (a_3 : Addr) (wh : Addr) (wst : Addr) (wb : Addr) (gh : Nat → Value) (gs : Nat → Value) (gb : Nat → Value) (bs : Int32) (w_occ : Value) (y0 : Int32) (y1 : Int32) (y2 : Int32) (h0 : Heap) (n0 : Nat) (Z0 : n0 ≤ h0.size) (pr_E_a_1 : Exa Z h0 a_1 "com/example/kalchas/kalchas/propositional/HornClauses") (pr_F_a_1_variableCount : Fld Z h0 a_1 "com/example/kalchas/kalchas/propositional/HornClauses" "variableCount" "I" (.int (3 : Int32))) (pr_F_a_1_clauseCount : Fld Z h0 a_1 "com/example/kalchas/kalchas/propositional/HornClauses" "clauseCount" "I" (.int (2 : Int32))) (pr_F_a_1_heads : Fld Z h0 a_1 "com/example/kalchas/kalchas/propositional/HornClauses" "heads" "[I" (.ref wh)) (pr_F_a_1_bodyStarts : Fld Z h0 a_1 "com/example/kalchas/kalchas/propositional/HornClauses" "bodyStarts" "[I" (.ref wst)) (pr_F_a_1_bodies : Fld Z h0 a_1 "com/example/kalchas/kalchas/propositional/HornClauses" "bodies" "[I" (.ref wb)) (pr_F_a_1_occurrences : Fld Z h0 a_1 "com/example/kalchas/kalchas/propositional/HornClauses" "occurrences" "[I" w_occ) (pr_A_wh : own_AV Z h0 wh .int (64 : Int32) gh) (pr_A_wst : own_AV Z h0 wst .int (65 : Int32) gs) (pr_A_wb : own_AV Z h0 wb .int (64 : Int32) gb) (pr_A_a_3 : own_AV Z h0 a_3 .int (3 : Int32) (own_upd (own_upd (own_upd (fun _ => (.int (0 : Int32))) 0 (.int y0)) 1 (.int y1)) 2 (.int y2))) (hord : own_lts [a_3, a_1, wh, wst, wb]) (hgs : gs 2 = .int bs) (hbs : 0 ≤ bs.toInt ∧ bs.toInt ≤ 10) (hfb : ∀ i, fits .int (gb i) = true) (hp1 : ¬ (p_2 < 0)) (hp2 : p_2 < (3 : Int32)) (hy0a : ¬ (y0 < 0)) (hy0b : y0 < (3 : Int32)) (hy1a : ¬ (y1 < 0)) (hy1b : y1 < (3 : Int32)) (hy2a : ¬ (y2 < 0)) (hy2b : y2 < (3 : Int32)) (gw_a_1 : n0 ≤ a_1) (gw_wh : n0 ≤ wh) (gw_wst : n0 ≤ wst) (gw_wb : n0 ≤ wb) :
    MetFree l (⟨"com/example/kalchas/kalchas/propositional/HornClauses", "add", "(I[I)V"⟩ : MethodName) (head1 (Jvm.Cond.code (⟨"com/example/kalchas/kalchas/propositional/HornClauses", "add", "(I[I)V"⟩ : MethodName) prog_6_method_4_code 7 none :: ws) ({ frames := 2, cells := 8, slots := 144, locals := 40 } : Room)) (fun a U => a = #[(.ref a_1), (.int p_2), (.ref a_3)] ∧ Z.Warmed39 U.vm ∧ U.heap = h0) (fun _ _ _ _ _ => True) (fun _ U o U' => ∃ v L, o = .returned v ∧ own_Q4_23 Z a_1 p_2 a_3 wh wst wb gh gs gb bs w_occ y0 y1 y2 h0 n0 v U'.heap L ∧ ReturnedEndW U o U' L ({ frames := 2, cells := 8, slots := 144, locals := 40 } : Room).cells ({ frames := 2, cells := 8, slots := 144, locals := 40 } : Room).slots) := by
  refine MetFree.of_bodySF (plainFor_of_name own_pn0) hisR ?_
  intro p e s m args below meth c s₁ Bd hml0 hP hK
  obtain ⟨rfl, hZ, hh⟩ := hP
  have hx := Bd.exec
  have hby := Bd.bytes
  have hml : c.maxLocals = 7 := hml0
  have hown : s.vm.findClass "com/example/kalchas/kalchas/propositional/HornClauses" = some m.cls := findClass_of_methodNamed Bd.named
  have hnm := (name_of_methodNamed Bd.named Bd.method).1
  have X0 : Stand p l e ({ frames := 2, cells := 8, slots := 144, locals := 40 } : Room) s m #[(.ref a_1), (.int p_2), (.ref a_3)] below meth c s₁ [] 0 0 := Stand.of_body Bd
  have e0 : s₁.heap = h0 := by rw [← hh, Bd.state]; rfl
  have N0 := Fr.nil n0
  have X0 : Stand p l e ({ frames := 2, cells := 8, slots := 144, locals := 40 } : Room) (s.setVm s.vm) m #[(.ref a_1), (.int p_2), (.ref a_3)] below meth c s₁ [] 0 0 := X0
  have hZ : Z.Warmed39 (s.setVm s.vm).vm := hZ
  have hown : (s.setVm s.vm).vm.findClass "com/example/kalchas/kalchas/propositional/HornClauses" = some m.cls := hown
  have hS0 : s.Since s.vm 0 := (State.WarmedH.refl s).since 0
  have z0 : n0 ≤ h0.size := Z0
  have z1 := own_lt pr_E_a_1.lt
  have z2 := own_lt pr_F_a_1_variableCount.lt
  have z3 := own_lt pr_F_a_1_clauseCount.lt
  have z4 := own_lt pr_F_a_1_heads.lt
  have z5 := own_lt pr_F_a_1_bodyStarts.lt
  have z6 := own_lt pr_F_a_1_bodies.lt
  have z7 := own_lt pr_F_a_1_occurrences.lt
  have z8 := own_lt pr_A_wh.lt
  have z9 := own_lt pr_A_wst.lt
  have z10 := own_lt pr_A_wb.lt
  have z11 := own_lt pr_A_a_3.lt
  have ho12 := hord
  simp only [own_lts, and_true] at ho12
  have K0 : Keep h0 h0 [a_1, wh, wst, wb] := Keep.refl h0 _
  show own_Go p.tables e below (fun t o => t.status = .running ∧ Ended t below o ∧ ∃ v L, o = .returned v ∧ own_Q4_23 Z a_1 p_2 a_3 wh wst wb gh gs gb bs w_occ y0 y1 y2 h0 n0 v t.heap L ∧ ReturnedEndW s o t L ({ frames := 2, cells := 8, slots := 144, locals := 40 } : Room).cells ({ frames := 2, cells := 8, slots := 144, locals := 40 } : Room).slots) s₁ (entryFrame m #[(.ref a_1), (.int p_2), (.ref a_3)] 7)
  rw [own_ef_own_rm4_23 m a_1 p_2 a_3]
  show own_Go _ _ _ _ s₁ (mkF m 0 #[.val (.ref a_1), .val (.int p_2), .val (.ref a_3), .unset, .unset, .unset, .unset] [])
  refine own_go (fun _ k => XS.aloadN X0.here hx rfl (hb hby own_d4_0) rfl rfl k) ?_
  show own_Go _ _ _ _ s₁ (mkF m 1 #[.val (.ref a_1), .val (.int p_2), .val (.ref a_3), .unset, .unset, .unset, .unset] [(.ref a_1)])
  refine own_go (fun _ k => XS.iloadN X0.here hx rfl (hb hby own_d4_1) rfl k) ?_
  show own_Go _ _ _ _ s₁ (mkF m 2 #[.val (.ref a_1), .val (.int p_2), .val (.ref a_3), .unset, .unset, .unset, .unset] [(.int p_2), (.ref a_1)])
  obtain ⟨cq13, kq13, q13a, q13b, q13c⟩ := isOf hZ e0 pr_E_a_1
  obtain ⟨_, _, ⟨T13, L13, k13, n13⟩, -, X13, hS13, gr13, ⟨Lc13, hQ13, l13, y13, z13⟩, st13⟩ := X0.virtualBackS hx (y := (⟨"com/example/kalchas/kalchas/propositional/HornClauses", "checkVariable", "(I)V"⟩ : MethodName)) (z := (⟨"com/example/kalchas/kalchas/propositional/HornClauses", "checkVariable", "(I)V"⟩ : MethodName)) hown (mvT hZ (hw _ (List.mem_of_getElem? (i := 31) rfl))) (mvT hZ (hw _ (List.mem_of_getElem? (i := 32) rfl))) (notFace_of_selects (args := #[]) (mvT hZ (hw _ (List.mem_of_getElem? (i := 34) rfl)))) (mvT hZ (hw _ (List.mem_of_getElem? (i := 34) rfl))) (mvT hZ (hw _ (List.mem_of_getElem? (i := 33) rfl))) (by decide) (backOfS (W := 0) (own_rm5 l Z a0 hw [] a_1 p_2 (3 : Int32) h0 n0 (by omega) (show ¬ (p_2 < 0) by first | assumption | omega | decide) (show p_2 < (3 : Int32) by first | assumption | omega | decide) pr_F_a_1_variableCount) hZ (hw _ (List.mem_of_getElem? (i := 35) rfl)) (hw _ (List.mem_of_getElem? (i := 4) rfl)) (by decide) (by decide)) q13a q13c (g := (mkF m 2 #[.val (.ref a_1), .val (.int p_2), .val (.ref a_3), .unset, .unset, .unset, .unset] [(.int p_2), (.ref a_1)])) rfl (by rw [hml]; rfl) (Steps.refl _) (argsL := [(.int p_2)]) (rest := []) (lenOf own_pd1 rfl) rfl (by show 2 * 0 + _ ≤ _; exact Nat.le_of_eq rfl) (hb hby own_d4_2) (fun _ _ => ⟨rfl, e0, (by decide : 0 + 2 ≤ _), (by decide : 0 + 36 ≤ _)⟩)
  dsimp only [Pt.U, Pt.locs, Pt.cells, Pt.slots] at X13 l13 y13 z13 st13 hQ13 hS13 gr13
  have y13 : k13 = 2 := y13
  have z13 : n13 = 36 := z13
  have Wn13 := hS13.1
  obtain ⟨X13, hS13, hZ, hown⟩ := rebS hS0 (n1 := s₁.heap.size) (by rw [e0]; omega) X13 hS13 gr13 hZ hown
  obtain ⟨rfl, N13q, K13q⟩ := hQ13
  have N13 : Fr n0 L13 := by rw [l13]; exact Fr.app N0 N13q
  have z14 := K13q.1
  have K13 : Keep h0 T13.heap [a_1, wh, wst, wb] := K0.trans K13q all0
  refine own_go (fun _ k => st13.trans k) ?_
  show own_Go _ _ _ _ T13 (mkF m 5 #[.val (.ref a_1), .val (.int p_2), .val (.ref a_3), .unset, .unset, .unset, .unset] [])
  refine own_go (fun _ k => XS.aloadN X13.here hx rfl (hb hby own_d4_5) rfl rfl k) ?_
  show own_Go _ _ _ _ T13 (mkF m 6 #[.val (.ref a_1), .val (.int p_2), .val (.ref a_3), .unset, .unset, .unset, .unset] [(.ref a_3)])
  refine own_go (fun _ k => XS.astoreN X13.here hx rfl (hb hby own_d4_6) rfl rfl (l' := #[.val (.ref a_1), .val (.int p_2), .val (.ref a_3), .val (.ref a_3), .unset, .unset, .unset]) rfl k) ?_
  show own_Go _ _ _ _ T13 (mkF m 7 #[.val (.ref a_1), .val (.int p_2), .val (.ref a_3), .val (.ref a_3), .unset, .unset, .unset] [])
  refine own_go (fun _ k => XS.aloadN X13.here hx rfl (hb hby own_d4_7) rfl rfl k) ?_
  show own_Go _ _ _ _ T13 (mkF m 8 #[.val (.ref a_1), .val (.int p_2), .val (.ref a_3), .val (.ref a_3), .unset, .unset, .unset] [(.ref a_3)])
  have f15 : own_AV Z T13.heap a_3 .int (3 : Int32) (own_upd (own_upd (own_upd (fun _ => (.int (0 : Int32))) 0 (.int y0)) 1 (.int y1)) 2 (.int y2)) := (pr_A_a_3.keep K13q nin0)
  obtain ⟨q16, c16, R16, s16, t16⟩ := id f15
  refine own_go (fun _ k => X13.arraylength hx R16.1 (State.isArrayOf_alike hZ.alike R16.2.1) (g := (mkF m 8 #[.val (.ref a_1), .val (.int p_2), .val (.ref a_3), .val (.ref a_3), .unset, .unset, .unset] [(.ref a_3)])) rfl rfl (hb hby own_d4_8) _ k) ?_
  rw [len_of s16 q16]
  show own_Go _ _ _ _ T13 (mkF m 9 #[.val (.ref a_1), .val (.int p_2), .val (.ref a_3), .val (.ref a_3), .unset, .unset, .unset] [(.int (3 : Int32))])
  refine own_go (fun _ k => XS.istore X13.here hx rfl (hb hby own_d4_9) rfl (l' := #[.val (.ref a_1), .val (.int p_2), .val (.ref a_3), .val (.ref a_3), .val (.int (3 : Int32)), .unset, .unset]) rfl k) ?_
  show own_Go _ _ _ _ T13 (mkF m 11 #[.val (.ref a_1), .val (.int p_2), .val (.ref a_3), .val (.ref a_3), .val (.int (3 : Int32)), .unset, .unset] [])
  refine own_go (fun _ k => XS.iconst X13.here hx rfl (hb hby own_d4_11) k) ?_
  show own_Go _ _ _ _ T13 (mkF m 12 #[.val (.ref a_1), .val (.int p_2), .val (.ref a_3), .val (.ref a_3), .val (.int (3 : Int32)), .unset, .unset] [(.int (0 : Int32))])
  refine own_go (fun _ k => XS.istore X13.here hx rfl (hb hby own_d4_12) rfl (l' := #[.val (.ref a_1), .val (.int p_2), .val (.ref a_3), .val (.ref a_3), .val (.int (3 : Int32)), .val (.int (0 : Int32)), .unset]) rfl k) ?_
  show own_Go _ _ _ _ T13 (mkF m 14 #[.val (.ref a_1), .val (.int p_2), .val (.ref a_3), .val (.ref a_3), .val (.int (3 : Int32)), .val (.int (0 : Int32)), .unset] [])
  refine own_go (fun _ k => XS.iload X13.here hx rfl (hb hby own_d4_14) rfl k) ?_
  show own_Go _ _ _ _ T13 (mkF m 16 #[.val (.ref a_1), .val (.int p_2), .val (.ref a_3), .val (.ref a_3), .val (.int (3 : Int32)), .val (.int (0 : Int32)), .unset] [(.int (0 : Int32))])
  refine own_go (fun _ k => XS.iload X13.here hx rfl (hb hby own_d4_16) rfl k) ?_
  show own_Go _ _ _ _ T13 (mkF m 18 #[.val (.ref a_1), .val (.int p_2), .val (.ref a_3), .val (.ref a_3), .val (.int (3 : Int32)), .val (.int (0 : Int32)), .unset] [(.int (3 : Int32)), (.int (0 : Int32))])
  have hc17 : (0 : Int32) < (3 : Int32) := by decide
  refine own_go (fun _ k => XS.icmpNo X13.here hx rfl (hb hby own_d4_18) rfl (Jvm.Free.XT.ii_ge_f hc17) k) ?_
  show own_Go _ _ _ _ T13 (mkF m 21 #[.val (.ref a_1), .val (.int p_2), .val (.ref a_3), .val (.ref a_3), .val (.int (3 : Int32)), .val (.int (0 : Int32)), .unset] [])
  refine own_go (fun _ k => XS.aloadN X13.here hx rfl (hb hby own_d4_21) rfl rfl k) ?_
  show own_Go _ _ _ _ T13 (mkF m 22 #[.val (.ref a_1), .val (.int p_2), .val (.ref a_3), .val (.ref a_3), .val (.int (3 : Int32)), .val (.int (0 : Int32)), .unset] [(.ref a_3)])
  refine own_go (fun _ k => XS.iload X13.here hx rfl (hb hby own_d4_22) rfl k) ?_
  show own_Go _ _ _ _ T13 (mkF m 24 #[.val (.ref a_1), .val (.int p_2), .val (.ref a_3), .val (.ref a_3), .val (.int (3 : Int32)), .val (.int (0 : Int32)), .unset] [(.int (0 : Int32)), (.ref a_3)])
  obtain ⟨q18, c18, R18, s18, t18⟩ := id f15
  have hin18 : ¬ ((0 : Int32) < 0 ∨ c18.slots.size ≤ ((0 : Int32)).toNatClampNeg) := inb_of s18 ⟨by decide, by decide⟩
  have u18 : c18.slots[((0 : Int32)).toNatClampNeg]? = some (.int y0) := own_at (k := 0) t18 s18 hin18 (by decide) (rfl)
  refine own_go (fun _ k => X13.iaload hx (j := (0 : Int32)) (v := (.int y0)) R18.1 (State.isArrayOf_alike hZ.alike R18.2.1) R18.2.2 hin18 u18 (g := (mkF m 24 #[.val (.ref a_1), .val (.int p_2), .val (.ref a_3), .val (.ref a_3), .val (.int (3 : Int32)), .val (.int (0 : Int32)), .unset] [(.int (0 : Int32)), (.ref a_3)])) rfl rfl (hb hby own_d4_24) _ k) ?_
  show own_Go _ _ _ _ T13 (mkF m 25 #[.val (.ref a_1), .val (.int p_2), .val (.ref a_3), .val (.ref a_3), .val (.int (3 : Int32)), .val (.int (0 : Int32)), .unset] [(.int y0)])
  refine own_go (fun _ k => XS.istore X13.here hx rfl (hb hby own_d4_25) rfl (l' := #[.val (.ref a_1), .val (.int p_2), .val (.ref a_3), .val (.ref a_3), .val (.int (3 : Int32)), .val (.int (0 : Int32)), .val (.int y0)]) rfl k) ?_
  show own_Go _ _ _ _ T13 (mkF m 27 #[.val (.ref a_1), .val (.int p_2), .val (.ref a_3), .val (.ref a_3), .val (.int (3 : Int32)), .val (.int (0 : Int32)), .val (.int y0)] [])
  refine own_go (fun _ k => XS.aloadN X13.here hx rfl (hb hby own_d4_27) rfl rfl k) ?_
  show own_Go _ _ _ _ T13 (mkF m 28 #[.val (.ref a_1), .val (.int p_2), .val (.ref a_3), .val (.ref a_3), .val (.int (3 : Int32)), .val (.int (0 : Int32)), .val (.int y0)] [(.ref a_1)])
  refine own_go (fun _ k => XS.iload X13.here hx rfl (hb hby own_d4_28) rfl k) ?_
  show own_Go _ _ _ _ T13 (mkF m 30 #[.val (.ref a_1), .val (.int p_2), .val (.ref a_3), .val (.ref a_3), .val (.int (3 : Int32)), .val (.int (0 : Int32)), .val (.int y0)] [(.int y0), (.ref a_1)])
  have f19 : Fld Z T13.heap a_1 "com/example/kalchas/kalchas/propositional/HornClauses" "variableCount" "I" (.int (3 : Int32)) := (pr_F_a_1_variableCount.keep K13q nin0)
  have f21 : Exa Z T13.heap a_1 "com/example/kalchas/kalchas/propositional/HornClauses" := (pr_E_a_1.keep K13q)
  obtain ⟨cq20, kq20, q20a, q20b, q20c⟩ := isOf hZ rfl f21
  obtain ⟨_, _, ⟨T20, L20, k20, n20⟩, -, X20, hS20, gr20, ⟨Lc20, hQ20, l20, y20, z20⟩, st20⟩ := X13.virtualBackS hx (y := (⟨"com/example/kalchas/kalchas/propositional/HornClauses", "checkVariable", "(I)V"⟩ : MethodName)) (z := (⟨"com/example/kalchas/kalchas/propositional/HornClauses", "checkVariable", "(I)V"⟩ : MethodName)) hown (mvT hZ (hw _ (List.mem_of_getElem? (i := 31) rfl))) (mvT hZ (hw _ (List.mem_of_getElem? (i := 32) rfl))) (notFace_of_selects (args := #[]) (mvT hZ (hw _ (List.mem_of_getElem? (i := 34) rfl)))) (mvT hZ (hw _ (List.mem_of_getElem? (i := 34) rfl))) (mvT hZ (hw _ (List.mem_of_getElem? (i := 33) rfl))) (by decide) (backOfS (W := 0) (own_rm5 l Z a0 hw [] a_1 y0 (3 : Int32) T13.heap n0 (by omega) (show ¬ (y0 < 0) by first | assumption | omega | decide) (show y0 < (3 : Int32) by first | assumption | omega | decide) f19) hZ (hw _ (List.mem_of_getElem? (i := 35) rfl)) (hw _ (List.mem_of_getElem? (i := 4) rfl)) (by decide) (by decide)) q20a q20c (g := (mkF m 30 #[.val (.ref a_1), .val (.int p_2), .val (.ref a_3), .val (.ref a_3), .val (.int (3 : Int32)), .val (.int (0 : Int32)), .val (.int y0)] [(.int y0), (.ref a_1)])) rfl (by rw [hml]; rfl) (Steps.refl _) (argsL := [(.int y0)]) (rest := []) (lenOf own_pd1 rfl) rfl (by show 2 * 0 + _ ≤ _; exact Nat.le_of_eq rfl) (hb hby own_d4_30) (fun _ _ => ⟨rfl, rfl, (by show k13 + _ ≤ _; rw [y13]; decide), (by show n13 + _ ≤ _; rw [z13]; decide)⟩)
  dsimp only [Pt.U, Pt.locs, Pt.cells, Pt.slots] at X20 l20 y20 z20 st20 hQ20 hS20 gr20
  have y20 : k20 = 4 := own_addeq y20 (congrArg (fun q => q) y13) rfl
  have z20 : n20 = 72 := own_addeq z20 (congrArg (fun q => q) z13) rfl
  have Wn20 := hS20.1
  obtain ⟨X20, hS20, hZ, hown⟩ := rebS hS13 (n1 := T13.heap.size) (by omega) X20 hS20 gr20 hZ hown
  obtain ⟨rfl, N20q, K20q⟩ := hQ20
  have N20 : Fr n0 L20 := by rw [l20]; exact Fr.app N13 N20q
  have z22 := K20q.1
  have K20 : Keep h0 T20.heap [a_1, wh, wst, wb] := K13.trans K20q all0
  refine own_go (fun _ k => st20.trans k) ?_
  show own_Go _ _ _ _ T20 (mkF m 33 #[.val (.ref a_1), .val (.int p_2), .val (.ref a_3), .val (.ref a_3), .val (.int (3 : Int32)), .val (.int (0 : Int32)), .val (.int y0)] [])
  refine own_go (fun _ k => XS.iinc X20.here hx rfl (hb hby own_d4_33) rfl (l' := #[.val (.ref a_1), .val (.int p_2), .val (.ref a_3), .val (.ref a_3), .val (.int (3 : Int32)), .val (.int (1 : Int32)), .val (.int y0)]) rfl k) ?_
  show own_Go _ _ _ _ T20 (mkF m 36 #[.val (.ref a_1), .val (.int p_2), .val (.ref a_3), .val (.ref a_3), .val (.int (3 : Int32)), .val (.int (1 : Int32)), .val (.int y0)] [])
  refine own_go (fun _ k => XS.goto X20.here hx rfl (pc0 := 36) (pc' := 14) rfl (hb hby own_d4_36) (by decide) (by decide) k) ?_
  show own_Go _ _ _ _ T20 (mkF m 14 #[.val (.ref a_1), .val (.int p_2), .val (.ref a_3), .val (.ref a_3), .val (.int (3 : Int32)), .val (.int (1 : Int32)), .val (.int y0)] [])
  refine own_go (fun _ k => XS.iload X20.here hx rfl (hb hby own_d4_14) rfl k) ?_
  show own_Go _ _ _ _ T20 (mkF m 16 #[.val (.ref a_1), .val (.int p_2), .val (.ref a_3), .val (.ref a_3), .val (.int (3 : Int32)), .val (.int (1 : Int32)), .val (.int y0)] [(.int (1 : Int32))])
  refine own_go (fun _ k => XS.iload X20.here hx rfl (hb hby own_d4_16) rfl k) ?_
  show own_Go _ _ _ _ T20 (mkF m 18 #[.val (.ref a_1), .val (.int p_2), .val (.ref a_3), .val (.ref a_3), .val (.int (3 : Int32)), .val (.int (1 : Int32)), .val (.int y0)] [(.int (3 : Int32)), (.int (1 : Int32))])
  have hc23 : (1 : Int32) < (3 : Int32) := by decide
  refine own_go (fun _ k => XS.icmpNo X20.here hx rfl (hb hby own_d4_18) rfl (Jvm.Free.XT.ii_ge_f hc23) k) ?_
  show own_Go _ _ _ _ T20 (mkF m 21 #[.val (.ref a_1), .val (.int p_2), .val (.ref a_3), .val (.ref a_3), .val (.int (3 : Int32)), .val (.int (1 : Int32)), .val (.int y0)] [])
  refine own_go (fun _ k => XS.aloadN X20.here hx rfl (hb hby own_d4_21) rfl rfl k) ?_
  show own_Go _ _ _ _ T20 (mkF m 22 #[.val (.ref a_1), .val (.int p_2), .val (.ref a_3), .val (.ref a_3), .val (.int (3 : Int32)), .val (.int (1 : Int32)), .val (.int y0)] [(.ref a_3)])
  refine own_go (fun _ k => XS.iload X20.here hx rfl (hb hby own_d4_22) rfl k) ?_
  show own_Go _ _ _ _ T20 (mkF m 24 #[.val (.ref a_1), .val (.int p_2), .val (.ref a_3), .val (.ref a_3), .val (.int (3 : Int32)), .val (.int (1 : Int32)), .val (.int y0)] [(.int (1 : Int32)), (.ref a_3)])
  have f24 : own_AV Z T20.heap a_3 .int (3 : Int32) (own_upd (own_upd (own_upd (fun _ => (.int (0 : Int32))) 0 (.int y0)) 1 (.int y1)) 2 (.int y2)) := (f15.keep K20q nin0)
  obtain ⟨q25, c25, R25, s25, t25⟩ := id f24
  have hin25 : ¬ ((1 : Int32) < 0 ∨ c25.slots.size ≤ ((1 : Int32)).toNatClampNeg) := inb_of s25 ⟨by decide, by decide⟩
  have u25 : c25.slots[((1 : Int32)).toNatClampNeg]? = some (.int y1) := own_at (k := 1) t25 s25 hin25 (by decide) (rfl)
  refine own_go (fun _ k => X20.iaload hx (j := (1 : Int32)) (v := (.int y1)) R25.1 (State.isArrayOf_alike hZ.alike R25.2.1) R25.2.2 hin25 u25 (g := (mkF m 24 #[.val (.ref a_1), .val (.int p_2), .val (.ref a_3), .val (.ref a_3), .val (.int (3 : Int32)), .val (.int (1 : Int32)), .val (.int y0)] [(.int (1 : Int32)), (.ref a_3)])) rfl rfl (hb hby own_d4_24) _ k) ?_
  show own_Go _ _ _ _ T20 (mkF m 25 #[.val (.ref a_1), .val (.int p_2), .val (.ref a_3), .val (.ref a_3), .val (.int (3 : Int32)), .val (.int (1 : Int32)), .val (.int y0)] [(.int y1)])
  refine own_go (fun _ k => XS.istore X20.here hx rfl (hb hby own_d4_25) rfl (l' := #[.val (.ref a_1), .val (.int p_2), .val (.ref a_3), .val (.ref a_3), .val (.int (3 : Int32)), .val (.int (1 : Int32)), .val (.int y1)]) rfl k) ?_
  show own_Go _ _ _ _ T20 (mkF m 27 #[.val (.ref a_1), .val (.int p_2), .val (.ref a_3), .val (.ref a_3), .val (.int (3 : Int32)), .val (.int (1 : Int32)), .val (.int y1)] [])
  refine own_go (fun _ k => XS.aloadN X20.here hx rfl (hb hby own_d4_27) rfl rfl k) ?_
  show own_Go _ _ _ _ T20 (mkF m 28 #[.val (.ref a_1), .val (.int p_2), .val (.ref a_3), .val (.ref a_3), .val (.int (3 : Int32)), .val (.int (1 : Int32)), .val (.int y1)] [(.ref a_1)])
  refine own_go (fun _ k => XS.iload X20.here hx rfl (hb hby own_d4_28) rfl k) ?_
  show own_Go _ _ _ _ T20 (mkF m 30 #[.val (.ref a_1), .val (.int p_2), .val (.ref a_3), .val (.ref a_3), .val (.int (3 : Int32)), .val (.int (1 : Int32)), .val (.int y1)] [(.int y1), (.ref a_1)])
  have f26 : Fld Z T20.heap a_1 "com/example/kalchas/kalchas/propositional/HornClauses" "variableCount" "I" (.int (3 : Int32)) := (f19.keep K20q nin0)
  have f28 : Exa Z T20.heap a_1 "com/example/kalchas/kalchas/propositional/HornClauses" := (f21.keep K20q)
  obtain ⟨cq27, kq27, q27a, q27b, q27c⟩ := isOf hZ rfl f28
  obtain ⟨_, _, ⟨T27, L27, k27, n27⟩, -, X27, hS27, gr27, ⟨Lc27, hQ27, l27, y27, z27⟩, st27⟩ := X20.virtualBackS hx (y := (⟨"com/example/kalchas/kalchas/propositional/HornClauses", "checkVariable", "(I)V"⟩ : MethodName)) (z := (⟨"com/example/kalchas/kalchas/propositional/HornClauses", "checkVariable", "(I)V"⟩ : MethodName)) hown (mvT hZ (hw _ (List.mem_of_getElem? (i := 31) rfl))) (mvT hZ (hw _ (List.mem_of_getElem? (i := 32) rfl))) (notFace_of_selects (args := #[]) (mvT hZ (hw _ (List.mem_of_getElem? (i := 34) rfl)))) (mvT hZ (hw _ (List.mem_of_getElem? (i := 34) rfl))) (mvT hZ (hw _ (List.mem_of_getElem? (i := 33) rfl))) (by decide) (backOfS (W := 0) (own_rm5 l Z a0 hw [] a_1 y1 (3 : Int32) T20.heap n0 (by omega) (show ¬ (y1 < 0) by first | assumption | omega | decide) (show y1 < (3 : Int32) by first | assumption | omega | decide) f26) hZ (hw _ (List.mem_of_getElem? (i := 35) rfl)) (hw _ (List.mem_of_getElem? (i := 4) rfl)) (by decide) (by decide)) q27a q27c (g := (mkF m 30 #[.val (.ref a_1), .val (.int p_2), .val (.ref a_3), .val (.ref a_3), .val (.int (3 : Int32)), .val (.int (1 : Int32)), .val (.int y1)] [(.int y1), (.ref a_1)])) rfl (by rw [hml]; rfl) (Steps.refl _) (argsL := [(.int y1)]) (rest := []) (lenOf own_pd1 rfl) rfl (by show 2 * 0 + _ ≤ _; exact Nat.le_of_eq rfl) (hb hby own_d4_30) (fun _ _ => ⟨rfl, rfl, (by show k20 + _ ≤ _; rw [y20]; decide), (by show n20 + _ ≤ _; rw [z20]; decide)⟩)
  dsimp only [Pt.U, Pt.locs, Pt.cells, Pt.slots] at X27 l27 y27 z27 st27 hQ27 hS27 gr27
  have y27 : k27 = 6 := own_addeq y27 (congrArg (fun q => q) y20) rfl
  have z27 : n27 = 108 := own_addeq z27 (congrArg (fun q => q) z20) rfl
  have Wn27 := hS27.1
  obtain ⟨X27, hS27, hZ, hown⟩ := rebS hS20 (n1 := T20.heap.size) (by omega) X27 hS27 gr27 hZ hown
  obtain ⟨rfl, N27q, K27q⟩ := hQ27
  have N27 : Fr n0 L27 := by rw [l27]; exact Fr.app N20 N27q
  have z29 := K27q.1
  have K27 : Keep h0 T27.heap [a_1, wh, wst, wb] := K20.trans K27q all0
  refine own_go (fun _ k => st27.trans k) ?_
  show own_Go _ _ _ _ T27 (mkF m 33 #[.val (.ref a_1), .val (.int p_2), .val (.ref a_3), .val (.ref a_3), .val (.int (3 : Int32)), .val (.int (1 : Int32)), .val (.int y1)] [])
  refine own_go (fun _ k => XS.iinc X27.here hx rfl (hb hby own_d4_33) rfl (l' := #[.val (.ref a_1), .val (.int p_2), .val (.ref a_3), .val (.ref a_3), .val (.int (3 : Int32)), .val (.int (2 : Int32)), .val (.int y1)]) rfl k) ?_
  show own_Go _ _ _ _ T27 (mkF m 36 #[.val (.ref a_1), .val (.int p_2), .val (.ref a_3), .val (.ref a_3), .val (.int (3 : Int32)), .val (.int (2 : Int32)), .val (.int y1)] [])
  refine own_go (fun _ k => XS.goto X27.here hx rfl (pc0 := 36) (pc' := 14) rfl (hb hby own_d4_36) (by decide) (by decide) k) ?_
  show own_Go _ _ _ _ T27 (mkF m 14 #[.val (.ref a_1), .val (.int p_2), .val (.ref a_3), .val (.ref a_3), .val (.int (3 : Int32)), .val (.int (2 : Int32)), .val (.int y1)] [])
  refine own_go (fun _ k => XS.iload X27.here hx rfl (hb hby own_d4_14) rfl k) ?_
  show own_Go _ _ _ _ T27 (mkF m 16 #[.val (.ref a_1), .val (.int p_2), .val (.ref a_3), .val (.ref a_3), .val (.int (3 : Int32)), .val (.int (2 : Int32)), .val (.int y1)] [(.int (2 : Int32))])
  refine own_go (fun _ k => XS.iload X27.here hx rfl (hb hby own_d4_16) rfl k) ?_
  show own_Go _ _ _ _ T27 (mkF m 18 #[.val (.ref a_1), .val (.int p_2), .val (.ref a_3), .val (.ref a_3), .val (.int (3 : Int32)), .val (.int (2 : Int32)), .val (.int y1)] [(.int (3 : Int32)), (.int (2 : Int32))])
  have hc30 : (2 : Int32) < (3 : Int32) := by decide
  refine own_go (fun _ k => XS.icmpNo X27.here hx rfl (hb hby own_d4_18) rfl (Jvm.Free.XT.ii_ge_f hc30) k) ?_
  show own_Go _ _ _ _ T27 (mkF m 21 #[.val (.ref a_1), .val (.int p_2), .val (.ref a_3), .val (.ref a_3), .val (.int (3 : Int32)), .val (.int (2 : Int32)), .val (.int y1)] [])
  refine own_go (fun _ k => XS.aloadN X27.here hx rfl (hb hby own_d4_21) rfl rfl k) ?_
  show own_Go _ _ _ _ T27 (mkF m 22 #[.val (.ref a_1), .val (.int p_2), .val (.ref a_3), .val (.ref a_3), .val (.int (3 : Int32)), .val (.int (2 : Int32)), .val (.int y1)] [(.ref a_3)])
  refine own_go (fun _ k => XS.iload X27.here hx rfl (hb hby own_d4_22) rfl k) ?_
  show own_Go _ _ _ _ T27 (mkF m 24 #[.val (.ref a_1), .val (.int p_2), .val (.ref a_3), .val (.ref a_3), .val (.int (3 : Int32)), .val (.int (2 : Int32)), .val (.int y1)] [(.int (2 : Int32)), (.ref a_3)])
  have f31 : own_AV Z T27.heap a_3 .int (3 : Int32) (own_upd (own_upd (own_upd (fun _ => (.int (0 : Int32))) 0 (.int y0)) 1 (.int y1)) 2 (.int y2)) := (f24.keep K27q nin0)
  obtain ⟨q32, c32, R32, s32, t32⟩ := id f31
  have hin32 : ¬ ((2 : Int32) < 0 ∨ c32.slots.size ≤ ((2 : Int32)).toNatClampNeg) := inb_of s32 ⟨by decide, by decide⟩
  have u32 : c32.slots[((2 : Int32)).toNatClampNeg]? = some (.int y2) := own_at (k := 2) t32 s32 hin32 (by decide) (rfl)
  refine own_go (fun _ k => X27.iaload hx (j := (2 : Int32)) (v := (.int y2)) R32.1 (State.isArrayOf_alike hZ.alike R32.2.1) R32.2.2 hin32 u32 (g := (mkF m 24 #[.val (.ref a_1), .val (.int p_2), .val (.ref a_3), .val (.ref a_3), .val (.int (3 : Int32)), .val (.int (2 : Int32)), .val (.int y1)] [(.int (2 : Int32)), (.ref a_3)])) rfl rfl (hb hby own_d4_24) _ k) ?_
  show own_Go _ _ _ _ T27 (mkF m 25 #[.val (.ref a_1), .val (.int p_2), .val (.ref a_3), .val (.ref a_3), .val (.int (3 : Int32)), .val (.int (2 : Int32)), .val (.int y1)] [(.int y2)])
  refine own_go (fun _ k => XS.istore X27.here hx rfl (hb hby own_d4_25) rfl (l' := #[.val (.ref a_1), .val (.int p_2), .val (.ref a_3), .val (.ref a_3), .val (.int (3 : Int32)), .val (.int (2 : Int32)), .val (.int y2)]) rfl k) ?_
  show own_Go _ _ _ _ T27 (mkF m 27 #[.val (.ref a_1), .val (.int p_2), .val (.ref a_3), .val (.ref a_3), .val (.int (3 : Int32)), .val (.int (2 : Int32)), .val (.int y2)] [])
  refine own_go (fun _ k => XS.aloadN X27.here hx rfl (hb hby own_d4_27) rfl rfl k) ?_
  show own_Go _ _ _ _ T27 (mkF m 28 #[.val (.ref a_1), .val (.int p_2), .val (.ref a_3), .val (.ref a_3), .val (.int (3 : Int32)), .val (.int (2 : Int32)), .val (.int y2)] [(.ref a_1)])
  refine own_go (fun _ k => XS.iload X27.here hx rfl (hb hby own_d4_28) rfl k) ?_
  show own_Go _ _ _ _ T27 (mkF m 30 #[.val (.ref a_1), .val (.int p_2), .val (.ref a_3), .val (.ref a_3), .val (.int (3 : Int32)), .val (.int (2 : Int32)), .val (.int y2)] [(.int y2), (.ref a_1)])
  have f33 : Fld Z T27.heap a_1 "com/example/kalchas/kalchas/propositional/HornClauses" "variableCount" "I" (.int (3 : Int32)) := (f26.keep K27q nin0)
  have f35 : Exa Z T27.heap a_1 "com/example/kalchas/kalchas/propositional/HornClauses" := (f28.keep K27q)
  obtain ⟨cq34, kq34, q34a, q34b, q34c⟩ := isOf hZ rfl f35
  obtain ⟨_, _, ⟨T34, L34, k34, n34⟩, -, X34, hS34, gr34, ⟨Lc34, hQ34, l34, y34, z34⟩, st34⟩ := X27.virtualBackS hx (y := (⟨"com/example/kalchas/kalchas/propositional/HornClauses", "checkVariable", "(I)V"⟩ : MethodName)) (z := (⟨"com/example/kalchas/kalchas/propositional/HornClauses", "checkVariable", "(I)V"⟩ : MethodName)) hown (mvT hZ (hw _ (List.mem_of_getElem? (i := 31) rfl))) (mvT hZ (hw _ (List.mem_of_getElem? (i := 32) rfl))) (notFace_of_selects (args := #[]) (mvT hZ (hw _ (List.mem_of_getElem? (i := 34) rfl)))) (mvT hZ (hw _ (List.mem_of_getElem? (i := 34) rfl))) (mvT hZ (hw _ (List.mem_of_getElem? (i := 33) rfl))) (by decide) (backOfS (W := 0) (own_rm5 l Z a0 hw [] a_1 y2 (3 : Int32) T27.heap n0 (by omega) (show ¬ (y2 < 0) by first | assumption | omega | decide) (show y2 < (3 : Int32) by first | assumption | omega | decide) f33) hZ (hw _ (List.mem_of_getElem? (i := 35) rfl)) (hw _ (List.mem_of_getElem? (i := 4) rfl)) (by decide) (by decide)) q34a q34c (g := (mkF m 30 #[.val (.ref a_1), .val (.int p_2), .val (.ref a_3), .val (.ref a_3), .val (.int (3 : Int32)), .val (.int (2 : Int32)), .val (.int y2)] [(.int y2), (.ref a_1)])) rfl (by rw [hml]; rfl) (Steps.refl _) (argsL := [(.int y2)]) (rest := []) (lenOf own_pd1 rfl) rfl (by show 2 * 0 + _ ≤ _; exact Nat.le_of_eq rfl) (hb hby own_d4_30) (fun _ _ => ⟨rfl, rfl, (by show k27 + _ ≤ _; rw [y27]; decide), (by show n27 + _ ≤ _; rw [z27]; decide)⟩)
  dsimp only [Pt.U, Pt.locs, Pt.cells, Pt.slots] at X34 l34 y34 z34 st34 hQ34 hS34 gr34
  have y34 : k34 = 8 := own_addeq y34 (congrArg (fun q => q) y27) rfl
  have z34 : n34 = 144 := own_addeq z34 (congrArg (fun q => q) z27) rfl
  have Wn34 := hS34.1
  obtain ⟨X34, hS34, hZ, hown⟩ := rebS hS27 (n1 := T27.heap.size) (by omega) X34 hS34 gr34 hZ hown
  obtain ⟨rfl, N34q, K34q⟩ := hQ34
  have N34 : Fr n0 L34 := by rw [l34]; exact Fr.app N27 N34q
  have z36 := K34q.1
  have K34 : Keep h0 T34.heap [a_1, wh, wst, wb] := K27.trans K34q all0
  refine own_go (fun _ k => st34.trans k) ?_
  show own_Go _ _ _ _ T34 (mkF m 33 #[.val (.ref a_1), .val (.int p_2), .val (.ref a_3), .val (.ref a_3), .val (.int (3 : Int32)), .val (.int (2 : Int32)), .val (.int y2)] [])
  refine own_go (fun _ k => XS.iinc X34.here hx rfl (hb hby own_d4_33) rfl (l' := #[.val (.ref a_1), .val (.int p_2), .val (.ref a_3), .val (.ref a_3), .val (.int (3 : Int32)), .val (.int (3 : Int32)), .val (.int y2)]) rfl k) ?_
  show own_Go _ _ _ _ T34 (mkF m 36 #[.val (.ref a_1), .val (.int p_2), .val (.ref a_3), .val (.ref a_3), .val (.int (3 : Int32)), .val (.int (3 : Int32)), .val (.int y2)] [])
  refine own_go (fun _ k => XS.goto X34.here hx rfl (pc0 := 36) (pc' := 14) rfl (hb hby own_d4_36) (by decide) (by decide) k) ?_
  show own_Go _ _ _ _ T34 (mkF m 14 #[.val (.ref a_1), .val (.int p_2), .val (.ref a_3), .val (.ref a_3), .val (.int (3 : Int32)), .val (.int (3 : Int32)), .val (.int y2)] [])
  refine own_go (fun _ k => XS.iload X34.here hx rfl (hb hby own_d4_14) rfl k) ?_
  show own_Go _ _ _ _ T34 (mkF m 16 #[.val (.ref a_1), .val (.int p_2), .val (.ref a_3), .val (.ref a_3), .val (.int (3 : Int32)), .val (.int (3 : Int32)), .val (.int y2)] [(.int (3 : Int32))])
  refine own_go (fun _ k => XS.iload X34.here hx rfl (hb hby own_d4_16) rfl k) ?_
  show own_Go _ _ _ _ T34 (mkF m 18 #[.val (.ref a_1), .val (.int p_2), .val (.ref a_3), .val (.ref a_3), .val (.int (3 : Int32)), .val (.int (3 : Int32)), .val (.int y2)] [(.int (3 : Int32)), (.int (3 : Int32))])
  have hc37 : ¬ ((3 : Int32) < (3 : Int32)) := by decide
  refine own_go (fun _ k => XS.icmpYes X34.here hx rfl (pc0 := 18) (pc' := 39) rfl (hb hby own_d4_18) rfl (Jvm.Free.XT.ii_ge_t hc37) (by decide) (by decide) k) ?_
  show own_Go _ _ _ _ T34 (mkF m 39 #[.val (.ref a_1), .val (.int p_2), .val (.ref a_3), .val (.ref a_3), .val (.int (3 : Int32)), .val (.int (3 : Int32)), .val (.int y2)] [])
  refine own_go (fun _ k => XS.aloadN X34.here hx rfl (hb hby own_d4_39) rfl rfl k) ?_
  show own_Go _ _ _ _ T34 (mkF m 40 #[.val (.ref a_1), .val (.int p_2), .val (.ref a_3), .val (.ref a_3), .val (.int (3 : Int32)), .val (.int (3 : Int32)), .val (.int y2)] [(.ref a_1)])
  have f38 : Fld Z T34.heap a_1 "com/example/kalchas/kalchas/propositional/HornClauses" "clauseCount" "I" (.int (2 : Int32)) := ((((pr_F_a_1_clauseCount.keep K13q nin0).keep K20q nin0).keep K27q nin0).keep K34q nin0)
  obtain ⟨T39, X39, e39, st39⟩ := getF X34 hx hZ hown (host := "") (Or.inl (hw _ (List.mem_of_getElem? (i := 47) rfl))) Via.refl rfl f38 (g := (mkF m 40 #[.val (.ref a_1), .val (.int p_2), .val (.ref a_3), .val (.ref a_3), .val (.int (3 : Int32)), .val (.int (3 : Int32)), .val (.int y2)] [(.ref a_1)])) rfl rfl (hb hby own_d4_40)
  refine own_go (fun _ k => st39 _ k) ?_
  show own_Go _ _ _ _ T39 (mkF m 43 #[.val (.ref a_1), .val (.int p_2), .val (.ref a_3), .val (.ref a_3), .val (.int (3 : Int32)), .val (.int (3 : Int32)), .val (.int y2)] [(.int (2 : Int32))])
  refine own_go (fun _ k => XS.aloadN X39.here hx rfl (hb hby own_d4_43) rfl rfl k) ?_
  show own_Go _ _ _ _ T39 (mkF m 44 #[.val (.ref a_1), .val (.int p_2), .val (.ref a_3), .val (.ref a_3), .val (.int (3 : Int32)), .val (.int (3 : Int32)), .val (.int y2)] [(.ref a_1), (.int (2 : Int32))])
  have f40 : Fld Z T34.heap a_1 "com/example/kalchas/kalchas/propositional/HornClauses" "heads" "[I" (.ref wh) := ((((pr_F_a_1_heads.keep K13q nin0).keep K20q nin0).keep K27q nin0).keep K34q nin0)
  obtain ⟨T41, X41, e41, st41⟩ := getF X39 hx hZ hown (host := "") (Or.inl (hw _ (List.mem_of_getElem? (i := 11) rfl))) Via.refl e39 f40 (g := (mkF m 44 #[.val (.ref a_1), .val (.int p_2), .val (.ref a_3), .val (.ref a_3), .val (.int (3 : Int32)), .val (.int (3 : Int32)), .val (.int y2)] [(.ref a_1), (.int (2 : Int32))])) rfl rfl (hb hby own_d4_44)
  refine own_go (fun _ k => st41 _ k) ?_
  show own_Go _ _ _ _ T41 (mkF m 47 #[.val (.ref a_1), .val (.int p_2), .val (.ref a_3), .val (.ref a_3), .val (.int (3 : Int32)), .val (.int (3 : Int32)), .val (.int y2)] [(.ref wh), (.int (2 : Int32))])
  have f42 : own_AV Z T34.heap wh .int (64 : Int32) gh := ((((pr_A_wh.keep K13q nin0).keep K20q nin0).keep K27q nin0).keep K34q nin0)
  obtain ⟨q43, c43, R43, s43, t43⟩ := id f42
  refine own_go (fun _ k => X41.arraylength hx (by rw [e41]; exact R43.1) (State.isArrayOf_alike hZ.alike R43.2.1) (g := (mkF m 47 #[.val (.ref a_1), .val (.int p_2), .val (.ref a_3), .val (.ref a_3), .val (.int (3 : Int32)), .val (.int (3 : Int32)), .val (.int y2)] [(.ref wh), (.int (2 : Int32))])) rfl rfl (hb hby own_d4_47) _ k) ?_
  rw [len_of s43 q43]
  show own_Go _ _ _ _ T41 (mkF m 48 #[.val (.ref a_1), .val (.int p_2), .val (.ref a_3), .val (.ref a_3), .val (.int (3 : Int32)), .val (.int (3 : Int32)), .val (.int y2)] [(.int (64 : Int32)), (.int (2 : Int32))])
  have hc44 : ¬ ((2 : Int32) = (64 : Int32)) := by decide
  refine own_go (fun _ k => XS.icmpYes X41.here hx rfl (pc0 := 48) (pc' := 85) rfl (hb hby own_d4_48) rfl (Jvm.Free.XT.ii_ne_t hc44) (by decide) (by decide) k) ?_
  show own_Go _ _ _ _ T41 (mkF m 85 #[.val (.ref a_1), .val (.int p_2), .val (.ref a_3), .val (.ref a_3), .val (.int (3 : Int32)), .val (.int (3 : Int32)), .val (.int y2)] [])
  refine own_go (fun _ k => XS.aloadN X41.here hx rfl (hb hby own_d4_85) rfl rfl k) ?_
  show own_Go _ _ _ _ T41 (mkF m 86 #[.val (.ref a_1), .val (.int p_2), .val (.ref a_3), .val (.ref a_3), .val (.int (3 : Int32)), .val (.int (3 : Int32)), .val (.int y2)] [(.ref a_1)])
  have f45 : Fld Z T34.heap a_1 "com/example/kalchas/kalchas/propositional/HornClauses" "bodyStarts" "[I" (.ref wst) := ((((pr_F_a_1_bodyStarts.keep K13q nin0).keep K20q nin0).keep K27q nin0).keep K34q nin0)
  obtain ⟨T46, X46, e46, st46⟩ := getF X41 hx hZ hown (host := "") (Or.inl (hw _ (List.mem_of_getElem? (i := 13) rfl))) Via.refl e41 f45 (g := (mkF m 86 #[.val (.ref a_1), .val (.int p_2), .val (.ref a_3), .val (.ref a_3), .val (.int (3 : Int32)), .val (.int (3 : Int32)), .val (.int y2)] [(.ref a_1)])) rfl rfl (hb hby own_d4_86)
  refine own_go (fun _ k => st46 _ k) ?_
  show own_Go _ _ _ _ T46 (mkF m 89 #[.val (.ref a_1), .val (.int p_2), .val (.ref a_3), .val (.ref a_3), .val (.int (3 : Int32)), .val (.int (3 : Int32)), .val (.int y2)] [(.ref wst)])
  refine own_go (fun _ k => XS.aloadN X46.here hx rfl (hb hby own_d4_89) rfl rfl k) ?_
  show own_Go _ _ _ _ T46 (mkF m 90 #[.val (.ref a_1), .val (.int p_2), .val (.ref a_3), .val (.ref a_3), .val (.int (3 : Int32)), .val (.int (3 : Int32)), .val (.int y2)] [(.ref a_1), (.ref wst)])
  obtain ⟨T47, X47, e47, st47⟩ := getF X46 hx hZ hown (host := "") (Or.inl (hw _ (List.mem_of_getElem? (i := 47) rfl))) Via.refl e46 f38 (g := (mkF m 90 #[.val (.ref a_1), .val (.int p_2), .val (.ref a_3), .val (.ref a_3), .val (.int (3 : Int32)), .val (.int (3 : Int32)), .val (.int y2)] [(.ref a_1), (.ref wst)])) rfl rfl (hb hby own_d4_90)
  refine own_go (fun _ k => st47 _ k) ?_
  show own_Go _ _ _ _ T47 (mkF m 93 #[.val (.ref a_1), .val (.int p_2), .val (.ref a_3), .val (.ref a_3), .val (.int (3 : Int32)), .val (.int (3 : Int32)), .val (.int y2)] [(.int (2 : Int32)), (.ref wst)])
  have f48 : own_AV Z T34.heap wst .int (65 : Int32) gs := ((((pr_A_wst.keep K13q nin0).keep K20q nin0).keep K27q nin0).keep K34q nin0)
  obtain ⟨q49, c49, R49, s49, t49⟩ := id f48
  have hin49 : ¬ ((2 : Int32) < 0 ∨ c49.slots.size ≤ ((2 : Int32)).toNatClampNeg) := inb_of s49 ⟨by decide, by decide⟩
  have u49 : c49.slots[((2 : Int32)).toNatClampNeg]? = some (.int bs) := own_at (k := 2) t49 s49 hin49 (by decide) (hgs)
  refine own_go (fun _ k => X47.iaload hx (j := (2 : Int32)) (v := (.int bs)) (by rw [e47]; exact R49.1) (State.isArrayOf_alike hZ.alike R49.2.1) R49.2.2 hin49 u49 (g := (mkF m 93 #[.val (.ref a_1), .val (.int p_2), .val (.ref a_3), .val (.ref a_3), .val (.int (3 : Int32)), .val (.int (3 : Int32)), .val (.int y2)] [(.int (2 : Int32)), (.ref wst)])) rfl rfl (hb hby own_d4_93) _ k) ?_
  show own_Go _ _ _ _ T47 (mkF m 94 #[.val (.ref a_1), .val (.int p_2), .val (.ref a_3), .val (.ref a_3), .val (.int (3 : Int32)), .val (.int (3 : Int32)), .val (.int y2)] [(.int bs)])
  refine own_go (fun _ k => XS.istoreN X47.here hx rfl (hb hby own_d4_94) rfl (l' := #[.val (.ref a_1), .val (.int p_2), .val (.ref a_3), .val (.int bs), .val (.int (3 : Int32)), .val (.int (3 : Int32)), .val (.int y2)]) rfl k) ?_
  show own_Go _ _ _ _ T47 (mkF m 95 #[.val (.ref a_1), .val (.int p_2), .val (.ref a_3), .val (.int bs), .val (.int (3 : Int32)), .val (.int (3 : Int32)), .val (.int y2)] [])
  refine own_go (fun _ k => XS.iloadN X47.here hx rfl (hb hby own_d4_95) rfl k) ?_
  show own_Go _ _ _ _ T47 (mkF m 96 #[.val (.ref a_1), .val (.int p_2), .val (.ref a_3), .val (.int bs), .val (.int (3 : Int32)), .val (.int (3 : Int32)), .val (.int y2)] [(.int bs)])
  refine own_go (fun _ k => XS.aloadN X47.here hx rfl (hb hby own_d4_96) rfl rfl k) ?_
  show own_Go _ _ _ _ T47 (mkF m 97 #[.val (.ref a_1), .val (.int p_2), .val (.ref a_3), .val (.int bs), .val (.int (3 : Int32)), .val (.int (3 : Int32)), .val (.int y2)] [(.ref a_3), (.int bs)])
  have f50 : own_AV Z T34.heap a_3 .int (3 : Int32) (own_upd (own_upd (own_upd (fun _ => (.int (0 : Int32))) 0 (.int y0)) 1 (.int y1)) 2 (.int y2)) := (f31.keep K34q nin0)
  obtain ⟨q51, c51, R51, s51, t51⟩ := id f50
  refine own_go (fun _ k => X47.arraylength hx (by rw [e47]; exact R51.1) (State.isArrayOf_alike hZ.alike R51.2.1) (g := (mkF m 97 #[.val (.ref a_1), .val (.int p_2), .val (.ref a_3), .val (.int bs), .val (.int (3 : Int32)), .val (.int (3 : Int32)), .val (.int y2)] [(.ref a_3), (.int bs)])) rfl rfl (hb hby own_d4_97) _ k) ?_
  rw [len_of s51 q51]
  show own_Go _ _ _ _ T47 (mkF m 98 #[.val (.ref a_1), .val (.int p_2), .val (.ref a_3), .val (.int bs), .val (.int (3 : Int32)), .val (.int (3 : Int32)), .val (.int y2)] [(.int (3 : Int32)), (.int bs)])
  refine own_go (fun _ k => XS.iadd X47.here hx rfl (hb hby own_d4_98) rfl k) ?_
  show own_Go _ _ _ _ T47 (mkF m 99 #[.val (.ref a_1), .val (.int p_2), .val (.ref a_3), .val (.int bs), .val (.int (3 : Int32)), .val (.int (3 : Int32)), .val (.int y2)] [(.int (bs + (3 : Int32)))])
  refine own_go (fun _ k => XS.aloadN X47.here hx rfl (hb hby own_d4_99) rfl rfl k) ?_
  show own_Go _ _ _ _ T47 (mkF m 100 #[.val (.ref a_1), .val (.int p_2), .val (.ref a_3), .val (.int bs), .val (.int (3 : Int32)), .val (.int (3 : Int32)), .val (.int y2)] [(.ref a_1), (.int (bs + (3 : Int32)))])
  have f52 : Fld Z T34.heap a_1 "com/example/kalchas/kalchas/propositional/HornClauses" "bodies" "[I" (.ref wb) := ((((pr_F_a_1_bodies.keep K13q nin0).keep K20q nin0).keep K27q nin0).keep K34q nin0)
  obtain ⟨T53, X53, e53, st53⟩ := getF X47 hx hZ hown (host := "") (Or.inl (hw _ (List.mem_of_getElem? (i := 15) rfl))) Via.refl e47 f52 (g := (mkF m 100 #[.val (.ref a_1), .val (.int p_2), .val (.ref a_3), .val (.int bs), .val (.int (3 : Int32)), .val (.int (3 : Int32)), .val (.int y2)] [(.ref a_1), (.int (bs + (3 : Int32)))])) rfl rfl (hb hby own_d4_100)
  refine own_go (fun _ k => st53 _ k) ?_
  show own_Go _ _ _ _ T53 (mkF m 103 #[.val (.ref a_1), .val (.int p_2), .val (.ref a_3), .val (.int bs), .val (.int (3 : Int32)), .val (.int (3 : Int32)), .val (.int y2)] [(.ref wb), (.int (bs + (3 : Int32)))])
  have f54 : own_AV Z T34.heap wb .int (64 : Int32) gb := ((((pr_A_wb.keep K13q nin0).keep K20q nin0).keep K27q nin0).keep K34q nin0)
  obtain ⟨q55, c55, R55, s55, t55⟩ := id f54
  refine own_go (fun _ k => X53.arraylength hx (by rw [e53]; exact R55.1) (State.isArrayOf_alike hZ.alike R55.2.1) (g := (mkF m 103 #[.val (.ref a_1), .val (.int p_2), .val (.ref a_3), .val (.int bs), .val (.int (3 : Int32)), .val (.int (3 : Int32)), .val (.int y2)] [(.ref wb), (.int (bs + (3 : Int32)))])) rfl rfl (hb hby own_d4_103) _ k) ?_
  rw [len_of s55 q55]
  show own_Go _ _ _ _ T53 (mkF m 104 #[.val (.ref a_1), .val (.int p_2), .val (.ref a_3), .val (.int bs), .val (.int (3 : Int32)), .val (.int (3 : Int32)), .val (.int y2)] [(.int (64 : Int32)), (.int (bs + (3 : Int32)))])
  have hc56 : ¬ ((64 : Int32) < (bs + (3 : Int32))) := own_t4_23_0 bs hbs
  refine own_go (fun _ k => XS.icmpYes X53.here hx rfl (pc0 := 104) (pc' := 132) rfl (hb hby own_d4_104) rfl (Jvm.Free.XT.ii_le_t hc56) (by decide) (by decide) k) ?_
  show own_Go _ _ _ _ T53 (mkF m 132 #[.val (.ref a_1), .val (.int p_2), .val (.ref a_3), .val (.int bs), .val (.int (3 : Int32)), .val (.int (3 : Int32)), .val (.int y2)] [])
  refine own_go (fun _ k => XS.aloadN X53.here hx rfl (hb hby own_d4_132) rfl rfl k) ?_
  show own_Go _ _ _ _ T53 (mkF m 133 #[.val (.ref a_1), .val (.int p_2), .val (.ref a_3), .val (.int bs), .val (.int (3 : Int32)), .val (.int (3 : Int32)), .val (.int y2)] [(.ref a_3)])
  refine own_go (fun _ k => XS.iconst X53.here hx rfl (hb hby own_d4_133) k) ?_
  show own_Go _ _ _ _ T53 (mkF m 134 #[.val (.ref a_1), .val (.int p_2), .val (.ref a_3), .val (.int bs), .val (.int (3 : Int32)), .val (.int (3 : Int32)), .val (.int y2)] [(.int (0 : Int32)), (.ref a_3)])
  refine own_go (fun _ k => XS.aloadN X53.here hx rfl (hb hby own_d4_134) rfl rfl k) ?_
  show own_Go _ _ _ _ T53 (mkF m 135 #[.val (.ref a_1), .val (.int p_2), .val (.ref a_3), .val (.int bs), .val (.int (3 : Int32)), .val (.int (3 : Int32)), .val (.int y2)] [(.ref a_1), (.int (0 : Int32)), (.ref a_3)])
  obtain ⟨T57, X57, e57, st57⟩ := getF X53 hx hZ hown (host := "") (Or.inl (hw _ (List.mem_of_getElem? (i := 15) rfl))) Via.refl e53 f52 (g := (mkF m 135 #[.val (.ref a_1), .val (.int p_2), .val (.ref a_3), .val (.int bs), .val (.int (3 : Int32)), .val (.int (3 : Int32)), .val (.int y2)] [(.ref a_1), (.int (0 : Int32)), (.ref a_3)])) rfl rfl (hb hby own_d4_135)
  refine own_go (fun _ k => st57 _ k) ?_
  show own_Go _ _ _ _ T57 (mkF m 138 #[.val (.ref a_1), .val (.int p_2), .val (.ref a_3), .val (.int bs), .val (.int (3 : Int32)), .val (.int (3 : Int32)), .val (.int y2)] [(.ref wb), (.int (0 : Int32)), (.ref a_3)])
  refine own_go (fun _ k => XS.iloadN X57.here hx rfl (hb hby own_d4_138) rfl k) ?_
  show own_Go _ _ _ _ T57 (mkF m 139 #[.val (.ref a_1), .val (.int p_2), .val (.ref a_3), .val (.int bs), .val (.int (3 : Int32)), .val (.int (3 : Int32)), .val (.int y2)] [(.int bs), (.ref wb), (.int (0 : Int32)), (.ref a_3)])
  refine own_go (fun _ k => XS.aloadN X57.here hx rfl (hb hby own_d4_139) rfl rfl k) ?_
  show own_Go _ _ _ _ T57 (mkF m 140 #[.val (.ref a_1), .val (.int p_2), .val (.ref a_3), .val (.int bs), .val (.int (3 : Int32)), .val (.int (3 : Int32)), .val (.int y2)] [(.ref a_3), (.int bs), (.ref wb), (.int (0 : Int32)), (.ref a_3)])
  obtain ⟨q58, c58, R58, s58, t58⟩ := id f50
  refine own_go (fun _ k => X57.arraylength hx (by rw [e57]; exact R58.1) (State.isArrayOf_alike hZ.alike R58.2.1) (g := (mkF m 140 #[.val (.ref a_1), .val (.int p_2), .val (.ref a_3), .val (.int bs), .val (.int (3 : Int32)), .val (.int (3 : Int32)), .val (.int y2)] [(.ref a_3), (.int bs), (.ref wb), (.int (0 : Int32)), (.ref a_3)])) rfl rfl (hb hby own_d4_140) _ k) ?_
  rw [len_of s58 q58]
  show own_Go _ _ _ _ T57 (mkF m 141 #[.val (.ref a_1), .val (.int p_2), .val (.ref a_3), .val (.int bs), .val (.int (3 : Int32)), .val (.int (3 : Int32)), .val (.int y2)] [(.int (3 : Int32)), (.int bs), (.ref wb), (.int (0 : Int32)), (.ref a_3)])
  obtain ⟨T59, h59, L59, X59, e59, N59, Kq59, V59, st59⟩ := own_cp X57 hx hZ hown (hw _ (List.mem_of_getElem? (i := 49) rfl)) (hw _ (List.mem_of_getElem? (i := 52) rfl)) (hw _ (List.mem_of_getElem? (i := 50) rfl)) (hw _ (List.mem_of_getElem? (i := 51) rfl)) e57 f50 f54 (own_updf (own_updf (own_updf (fun _ => rfl) rfl) rfl) rfl) hfb (by decide) (own_t4_23_2 bs hbs hc56) (by decide) (by decide) (own_cl5 (own_t4_23_1 bs hbs hc56)) N34 (by omega) (g := (mkF m 141 #[.val (.ref a_1), .val (.int p_2), .val (.ref a_3), .val (.int bs), .val (.int (3 : Int32)), .val (.int (3 : Int32)), .val (.int y2)] [(.int (3 : Int32)), (.int bs), (.ref wb), (.int (0 : Int32)), (.ref a_3)])) rfl (by rw [hml]; rfl) rfl (hb hby own_d4_141) (by decide) (W := 0) (by show 2 * 0 + _ ≤ _; exact Nat.le_of_eq rfl) (by decide)
  have z60 := Kq59.1
  have K59 : Keep h0 h59 [a_1, wh, wst, wb] := K34.trans Kq59 (allS (Or.inl (List.mem_of_getElem? (i := 3) rfl)) all0)
  refine own_go (fun _ k => st59 _ k) ?_
  show own_Go _ _ _ _ T59 (mkF m 144 #[.val (.ref a_1), .val (.int p_2), .val (.ref a_3), .val (.int bs), .val (.int (3 : Int32)), .val (.int (3 : Int32)), .val (.int y2)] [])
  refine own_go (fun _ k => XS.aloadN X59.here hx rfl (hb hby own_d4_144) rfl rfl k) ?_
  show own_Go _ _ _ _ T59 (mkF m 145 #[.val (.ref a_1), .val (.int p_2), .val (.ref a_3), .val (.int bs), .val (.int (3 : Int32)), .val (.int (3 : Int32)), .val (.int y2)] [(.ref a_1)])
  have f61 : Fld Z h59 a_1 "com/example/kalchas/kalchas/propositional/HornClauses" "heads" "[I" (.ref wh) := (f40.keep Kq59 (ninS (own_ne (by omega)) nin0))
  obtain ⟨T62, X62, e62, st62⟩ := getF X59 hx hZ hown (host := "") (Or.inl (hw _ (List.mem_of_getElem? (i := 11) rfl))) Via.refl e59 f61 (g := (mkF m 145 #[.val (.ref a_1), .val (.int p_2), .val (.ref a_3), .val (.int bs), .val (.int (3 : Int32)), .val (.int (3 : Int32)), .val (.int y2)] [(.ref a_1)])) rfl rfl (hb hby own_d4_145)
  refine own_go (fun _ k => st62 _ k) ?_
  show own_Go _ _ _ _ T62 (mkF m 148 #[.val (.ref a_1), .val (.int p_2), .val (.ref a_3), .val (.int bs), .val (.int (3 : Int32)), .val (.int (3 : Int32)), .val (.int y2)] [(.ref wh)])
  refine own_go (fun _ k => XS.aloadN X62.here hx rfl (hb hby own_d4_148) rfl rfl k) ?_
  show own_Go _ _ _ _ T62 (mkF m 149 #[.val (.ref a_1), .val (.int p_2), .val (.ref a_3), .val (.int bs), .val (.int (3 : Int32)), .val (.int (3 : Int32)), .val (.int y2)] [(.ref a_1), (.ref wh)])
  have f63 : Fld Z h59 a_1 "com/example/kalchas/kalchas/propositional/HornClauses" "clauseCount" "I" (.int (2 : Int32)) := (f38.keep Kq59 (ninS (own_ne (by omega)) nin0))
  obtain ⟨T64, X64, e64, st64⟩ := getF X62 hx hZ hown (host := "") (Or.inl (hw _ (List.mem_of_getElem? (i := 47) rfl))) Via.refl e62 f63 (g := (mkF m 149 #[.val (.ref a_1), .val (.int p_2), .val (.ref a_3), .val (.int bs), .val (.int (3 : Int32)), .val (.int (3 : Int32)), .val (.int y2)] [(.ref a_1), (.ref wh)])) rfl rfl (hb hby own_d4_149)
  refine own_go (fun _ k => st64 _ k) ?_
  show own_Go _ _ _ _ T64 (mkF m 152 #[.val (.ref a_1), .val (.int p_2), .val (.ref a_3), .val (.int bs), .val (.int (3 : Int32)), .val (.int (3 : Int32)), .val (.int y2)] [(.int (2 : Int32)), (.ref wh)])
  refine own_go (fun _ k => XS.iloadN X64.here hx rfl (hb hby own_d4_152) rfl k) ?_
  show own_Go _ _ _ _ T64 (mkF m 153 #[.val (.ref a_1), .val (.int p_2), .val (.ref a_3), .val (.int bs), .val (.int (3 : Int32)), .val (.int (3 : Int32)), .val (.int y2)] [(.int p_2), (.int (2 : Int32)), (.ref wh)])
  have f65 : own_AV Z h59 wh .int (64 : Int32) gh := (f42.keep Kq59 (ninS (own_ne (by omega)) nin0))
  obtain ⟨q66, c66, R66, s66, t66⟩ := id f65
  have hin66 : ¬ ((2 : Int32) < 0 ∨ c66.slots.size ≤ ((2 : Int32)).toNatClampNeg) := inb_of s66 ⟨by decide, by decide⟩
  obtain ⟨T67, h67, X67, e67, W67, st67⟩ := stI X64 hx hZ e64 R66 (j := (2 : Int32)) hin66 (g := (mkF m 153 #[.val (.ref a_1), .val (.int p_2), .val (.ref a_3), .val (.int bs), .val (.int (3 : Int32)), .val (.int (3 : Int32)), .val (.int y2)] [(.int p_2), (.int (2 : Int32)), (.ref wh)])) rfl rfl (hb hby own_d4_153)
  have V67 : own_AV Z h67 wh .int (64 : Int32) (own_upd gh 2 (.int p_2)) := own_AV.set (k := 2) f65 W67 (by decide)
  have z68 := W67.size
  have K67 : Keep h0 h67 [a_1, wh, wst, wb] := K59.wr W67 (Or.inl (List.mem_of_getElem? (i := 1) rfl))
  have N67 := Fr.snoc X67 N59 (by omega : n0 ≤ wh)
  refine own_go (fun _ k => st67 _ k) ?_
  show own_Go _ _ _ _ T67 (mkF m 154 #[.val (.ref a_1), .val (.int p_2), .val (.ref a_3), .val (.int bs), .val (.int (3 : Int32)), .val (.int (3 : Int32)), .val (.int y2)] [])
  refine own_go (fun _ k => XS.aloadN X67.here hx rfl (hb hby own_d4_154) rfl rfl k) ?_
  show own_Go _ _ _ _ T67 (mkF m 155 #[.val (.ref a_1), .val (.int p_2), .val (.ref a_3), .val (.int bs), .val (.int (3 : Int32)), .val (.int (3 : Int32)), .val (.int y2)] [(.ref a_1)])
  have f69 : Fld Z h67 a_1 "com/example/kalchas/kalchas/propositional/HornClauses" "bodyStarts" "[I" (.ref wst) := ((f45.keep Kq59 (ninS (own_ne (by omega)) nin0)).other W67 (Or.inl (own_ne (by omega))))
  obtain ⟨T70, X70, e70, st70⟩ := getF X67 hx hZ hown (host := "") (Or.inl (hw _ (List.mem_of_getElem? (i := 13) rfl))) Via.refl e67 f69 (g := (mkF m 155 #[.val (.ref a_1), .val (.int p_2), .val (.ref a_3), .val (.int bs), .val (.int (3 : Int32)), .val (.int (3 : Int32)), .val (.int y2)] [(.ref a_1)])) rfl rfl (hb hby own_d4_155)
  refine own_go (fun _ k => st70 _ k) ?_
  show own_Go _ _ _ _ T70 (mkF m 158 #[.val (.ref a_1), .val (.int p_2), .val (.ref a_3), .val (.int bs), .val (.int (3 : Int32)), .val (.int (3 : Int32)), .val (.int y2)] [(.ref wst)])
  refine own_go (fun _ k => XS.aloadN X70.here hx rfl (hb hby own_d4_158) rfl rfl k) ?_
  show own_Go _ _ _ _ T70 (mkF m 159 #[.val (.ref a_1), .val (.int p_2), .val (.ref a_3), .val (.int bs), .val (.int (3 : Int32)), .val (.int (3 : Int32)), .val (.int y2)] [(.ref a_1), (.ref wst)])
  have f71 : Fld Z h67 a_1 "com/example/kalchas/kalchas/propositional/HornClauses" "clauseCount" "I" (.int (2 : Int32)) := (f63.other W67 (Or.inl (own_ne (by omega))))
  obtain ⟨T72, X72, e72, st72⟩ := getF X70 hx hZ hown (host := "") (Or.inl (hw _ (List.mem_of_getElem? (i := 47) rfl))) Via.refl e70 f71 (g := (mkF m 159 #[.val (.ref a_1), .val (.int p_2), .val (.ref a_3), .val (.int bs), .val (.int (3 : Int32)), .val (.int (3 : Int32)), .val (.int y2)] [(.ref a_1), (.ref wst)])) rfl rfl (hb hby own_d4_159)
  refine own_go (fun _ k => st72 _ k) ?_
  show own_Go _ _ _ _ T72 (mkF m 162 #[.val (.ref a_1), .val (.int p_2), .val (.ref a_3), .val (.int bs), .val (.int (3 : Int32)), .val (.int (3 : Int32)), .val (.int y2)] [(.int (2 : Int32)), (.ref wst)])
  refine own_go (fun _ k => XS.iconst X72.here hx rfl (hb hby own_d4_162) k) ?_
  show own_Go _ _ _ _ T72 (mkF m 163 #[.val (.ref a_1), .val (.int p_2), .val (.ref a_3), .val (.int bs), .val (.int (3 : Int32)), .val (.int (3 : Int32)), .val (.int y2)] [(.int (1 : Int32)), (.int (2 : Int32)), (.ref wst)])
  refine own_go (fun _ k => XS.iadd X72.here hx rfl (hb hby own_d4_163) rfl k) ?_
  show own_Go _ _ _ _ T72 (mkF m 164 #[.val (.ref a_1), .val (.int p_2), .val (.ref a_3), .val (.int bs), .val (.int (3 : Int32)), .val (.int (3 : Int32)), .val (.int y2)] [(.int (3 : Int32)), (.ref wst)])
  refine own_go (fun _ k => XS.iloadN X72.here hx rfl (hb hby own_d4_164) rfl k) ?_
  show own_Go _ _ _ _ T72 (mkF m 165 #[.val (.ref a_1), .val (.int p_2), .val (.ref a_3), .val (.int bs), .val (.int (3 : Int32)), .val (.int (3 : Int32)), .val (.int y2)] [(.int bs), (.int (3 : Int32)), (.ref wst)])
  refine own_go (fun _ k => XS.aloadN X72.here hx rfl (hb hby own_d4_165) rfl rfl k) ?_
  show own_Go _ _ _ _ T72 (mkF m 166 #[.val (.ref a_1), .val (.int p_2), .val (.ref a_3), .val (.int bs), .val (.int (3 : Int32)), .val (.int (3 : Int32)), .val (.int y2)] [(.ref a_3), (.int bs), (.int (3 : Int32)), (.ref wst)])
  have f73 : own_AV Z h67 a_3 .int (3 : Int32) (own_upd (own_upd (own_upd (fun _ => (.int (0 : Int32))) 0 (.int y0)) 1 (.int y1)) 2 (.int y2)) := ((f50.keep Kq59 (ninS (own_ne (by omega)) nin0)).other W67 (own_ne (by omega)))
  obtain ⟨q74, c74, R74, s74, t74⟩ := id f73
  refine own_go (fun _ k => X72.arraylength hx (by rw [e72]; exact R74.1) (State.isArrayOf_alike hZ.alike R74.2.1) (g := (mkF m 166 #[.val (.ref a_1), .val (.int p_2), .val (.ref a_3), .val (.int bs), .val (.int (3 : Int32)), .val (.int (3 : Int32)), .val (.int y2)] [(.ref a_3), (.int bs), (.int (3 : Int32)), (.ref wst)])) rfl rfl (hb hby own_d4_166) _ k) ?_
  rw [len_of s74 q74]
  show own_Go _ _ _ _ T72 (mkF m 167 #[.val (.ref a_1), .val (.int p_2), .val (.ref a_3), .val (.int bs), .val (.int (3 : Int32)), .val (.int (3 : Int32)), .val (.int y2)] [(.int (3 : Int32)), (.int bs), (.int (3 : Int32)), (.ref wst)])
  refine own_go (fun _ k => XS.iadd X72.here hx rfl (hb hby own_d4_167) rfl k) ?_
  show own_Go _ _ _ _ T72 (mkF m 168 #[.val (.ref a_1), .val (.int p_2), .val (.ref a_3), .val (.int bs), .val (.int (3 : Int32)), .val (.int (3 : Int32)), .val (.int y2)] [(.int (bs + (3 : Int32))), (.int (3 : Int32)), (.ref wst)])
  have f75 : own_AV Z h67 wst .int (65 : Int32) gs := ((f48.keep Kq59 (ninS (own_ne (by omega)) nin0)).other W67 (own_ne (by omega)))
  obtain ⟨q76, c76, R76, s76, t76⟩ := id f75
  have hin76 : ¬ ((3 : Int32) < 0 ∨ c76.slots.size ≤ ((3 : Int32)).toNatClampNeg) := inb_of s76 ⟨by decide, by decide⟩
  obtain ⟨T77, h77, X77, e77, W77, st77⟩ := stI X72 hx hZ e72 R76 (j := (3 : Int32)) hin76 (g := (mkF m 168 #[.val (.ref a_1), .val (.int p_2), .val (.ref a_3), .val (.int bs), .val (.int (3 : Int32)), .val (.int (3 : Int32)), .val (.int y2)] [(.int (bs + (3 : Int32))), (.int (3 : Int32)), (.ref wst)])) rfl rfl (hb hby own_d4_168)
  have V77 : own_AV Z h77 wst .int (65 : Int32) (own_upd gs 3 (.int (bs + (3 : Int32)))) := own_AV.set (k := 3) f75 W77 (by decide)
  have z78 := W77.size
  have K77 : Keep h0 h77 [a_1, wh, wst, wb] := K67.wr W77 (Or.inl (List.mem_of_getElem? (i := 2) rfl))
  have N77 := Fr.snoc X77 N67 (by omega : n0 ≤ wst)
  refine own_go (fun _ k => st77 _ k) ?_
  show own_Go _ _ _ _ T77 (mkF m 169 #[.val (.ref a_1), .val (.int p_2), .val (.ref a_3), .val (.int bs), .val (.int (3 : Int32)), .val (.int (3 : Int32)), .val (.int y2)] [])
  refine own_go (fun _ k => XS.aloadN X77.here hx rfl (hb hby own_d4_169) rfl rfl k) ?_
  show own_Go _ _ _ _ T77 (mkF m 170 #[.val (.ref a_1), .val (.int p_2), .val (.ref a_3), .val (.int bs), .val (.int (3 : Int32)), .val (.int (3 : Int32)), .val (.int y2)] [(.ref a_1)])
  refine own_go (fun _ k => XS.dup X77.here hx rfl (hb hby own_d4_170) rfl rfl k) ?_
  show own_Go _ _ _ _ T77 (mkF m 171 #[.val (.ref a_1), .val (.int p_2), .val (.ref a_3), .val (.int bs), .val (.int (3 : Int32)), .val (.int (3 : Int32)), .val (.int y2)] [(.ref a_1), (.ref a_1)])
  have f79 : Fld Z h77 a_1 "com/example/kalchas/kalchas/propositional/HornClauses" "clauseCount" "I" (.int (2 : Int32)) := (f71.other W77 (Or.inl (own_ne (by omega))))
  obtain ⟨T80, X80, e80, st80⟩ := getF X77 hx hZ hown (host := "") (Or.inl (hw _ (List.mem_of_getElem? (i := 47) rfl))) Via.refl e77 f79 (g := (mkF m 171 #[.val (.ref a_1), .val (.int p_2), .val (.ref a_3), .val (.int bs), .val (.int (3 : Int32)), .val (.int (3 : Int32)), .val (.int y2)] [(.ref a_1), (.ref a_1)])) rfl rfl (hb hby own_d4_171)
  refine own_go (fun _ k => st80 _ k) ?_
  show own_Go _ _ _ _ T80 (mkF m 174 #[.val (.ref a_1), .val (.int p_2), .val (.ref a_3), .val (.int bs), .val (.int (3 : Int32)), .val (.int (3 : Int32)), .val (.int y2)] [(.int (2 : Int32)), (.ref a_1)])
  refine own_go (fun _ k => XS.iconst X80.here hx rfl (hb hby own_d4_174) k) ?_
  show own_Go _ _ _ _ T80 (mkF m 175 #[.val (.ref a_1), .val (.int p_2), .val (.ref a_3), .val (.int bs), .val (.int (3 : Int32)), .val (.int (3 : Int32)), .val (.int y2)] [(.int (1 : Int32)), (.int (2 : Int32)), (.ref a_1)])
  refine own_go (fun _ k => XS.iadd X80.here hx rfl (hb hby own_d4_175) rfl k) ?_
  show own_Go _ _ _ _ T80 (mkF m 176 #[.val (.ref a_1), .val (.int p_2), .val (.ref a_3), .val (.int bs), .val (.int (3 : Int32)), .val (.int (3 : Int32)), .val (.int y2)] [(.int (3 : Int32)), (.ref a_1)])
  have f81 : Exa Z h77 a_1 "com/example/kalchas/kalchas/propositional/HornClauses" := ((((f35.keep K34q).keep Kq59).wr W67).wr W77)
  obtain ⟨T82, h82, X82, e82, W82, st82⟩ := putF X80 hx hZ hown (host := "") (Or.inl (hw _ (List.mem_of_getElem? (i := 47) rfl))) Via.refl e80 f79 f81 (Or.inl (hw _ (List.mem_of_getElem? (i := 48) rfl))) (hw _ (List.mem_of_getElem? (i := 3) rfl)) (ty := .int) (by decide) rfl rfl (g := (mkF m 176 #[.val (.ref a_1), .val (.int p_2), .val (.ref a_3), .val (.int bs), .val (.int (3 : Int32)), .val (.int (3 : Int32)), .val (.int y2)] [(.int (3 : Int32)), (.ref a_1)])) rfl rfl (hb hby own_d4_176)
  have z83 := W82.size
  have K82 : Keep h0 h82 [a_1, wh, wst, wb] := K77.wr W82 (Or.inl (List.mem_of_getElem? (i := 0) rfl))
  have N82 := Fr.snoc X82 N77 (by omega : n0 ≤ a_1)
  have Fw82 : Fld Z h82 a_1 "com/example/kalchas/kalchas/propositional/HornClauses" "clauseCount" "I" (.int (3 : Int32)) := Fld.same W82 f79
  refine own_go (fun _ k => st82 _ k) ?_
  show own_Go _ _ _ _ T82 (mkF m 179 #[.val (.ref a_1), .val (.int p_2), .val (.ref a_3), .val (.int bs), .val (.int (3 : Int32)), .val (.int (3 : Int32)), .val (.int y2)] [])
  refine own_go (fun _ k => XS.aloadN X82.here hx rfl (hb hby own_d4_179) rfl rfl k) ?_
  show own_Go _ _ _ _ T82 (mkF m 180 #[.val (.ref a_1), .val (.int p_2), .val (.ref a_3), .val (.int bs), .val (.int (3 : Int32)), .val (.int (3 : Int32)), .val (.int y2)] [(.ref a_1)])
  refine own_go (fun _ k => XS.aconstNull X82.here hx rfl (hb hby own_d4_180) k) ?_
  show own_Go _ _ _ _ T82 (mkF m 181 #[.val (.ref a_1), .val (.int p_2), .val (.ref a_3), .val (.int bs), .val (.int (3 : Int32)), .val (.int (3 : Int32)), .val (.int y2)] [.null, (.ref a_1)])
  have f84 : Exa Z h82 a_1 "com/example/kalchas/kalchas/propositional/HornClauses" := (f81.wr W82)
  have f85 : Fld Z h82 a_1 "com/example/kalchas/kalchas/propositional/HornClauses" "occurrences" "[I" w_occ := ((((((((pr_F_a_1_occurrences.keep K13q nin0).keep K20q nin0).keep K27q nin0).keep K34q nin0).keep Kq59 (ninS (own_ne (by omega)) nin0)).other W67 (Or.inl (own_ne (by omega)))).other W77 (Or.inl (own_ne (by omega)))).other W82 (Or.inr (slot_ne (Or.inl (hw _ (List.mem_of_getElem? (i := 23) rfl))) (Or.inl (hw _ (List.mem_of_getElem? (i := 48) rfl))) (by decide) (t := (.array .int)) (t' := .int) (by decide) (by decide))))
  obtain ⟨T86, h86, X86, e86, W86, st86⟩ := putF X82 hx hZ hown (host := "") (Or.inl (hw _ (List.mem_of_getElem? (i := 22) rfl))) Via.refl e82 f85 f84 (Or.inl (hw _ (List.mem_of_getElem? (i := 23) rfl))) (hw _ (List.mem_of_getElem? (i := 3) rfl)) (ty := (.array .int)) (by decide) rfl rfl (g := (mkF m 181 #[.val (.ref a_1), .val (.int p_2), .val (.ref a_3), .val (.int bs), .val (.int (3 : Int32)), .val (.int (3 : Int32)), .val (.int y2)] [.null, (.ref a_1)])) rfl rfl (hb hby own_d4_181)
  have z87 := W86.size
  have K86 : Keep h0 h86 [a_1, wh, wst, wb] := K82.wr W86 (Or.inl (List.mem_of_getElem? (i := 0) rfl))
  have N86 := Fr.snoc X86 N82 (by omega : n0 ≤ a_1)
  have Fw86 : Fld Z h86 a_1 "com/example/kalchas/kalchas/propositional/HornClauses" "occurrences" "[I" .null := Fld.same W86 f85
  refine own_go (fun _ k => st86 _ k) ?_
  show own_Go _ _ _ _ T86 (mkF m 184 #[.val (.ref a_1), .val (.int p_2), .val (.ref a_3), .val (.int bs), .val (.int (3 : Int32)), .val (.int (3 : Int32)), .val (.int y2)] [])
  obtain ⟨fs, hr, hrun, hended, hRW⟩ := X86.leaveW hS34 (by rw [e86]; omega) (v := none) (fun _ => rfl)
  refine ⟨_, _, X86.returnOut hx Bd.returns (hb hby own_d4_184) hr, hrun, hended, _, _, rfl, ?_, own_monoW hRW (by rw [y34]; decide) (by rw [z34]; decide)⟩
  show own_Q4_23 Z a_1 p_2 a_3 wh wst wb gh gs gb bs w_occ y0 y1 y2 h0 n0 _ T86.heap _
  rw [e86]
  have f89 : Exa Z h86 a_1 "com/example/kalchas/kalchas/propositional/HornClauses" := (f84.wr W86)
  have f90 : Fld Z h86 a_1 "com/example/kalchas/kalchas/propositional/HornClauses" "variableCount" "I" (.int (3 : Int32)) := ((((((f33.keep K34q nin0).keep Kq59 (ninS (own_ne (by omega)) nin0)).other W67 (Or.inl (own_ne (by omega)))).other W77 (Or.inl (own_ne (by omega)))).other W82 (Or.inr (slot_ne (Or.inl (hw _ (List.mem_of_getElem? (i := 25) rfl))) (Or.inl (hw _ (List.mem_of_getElem? (i := 48) rfl))) (by decide) (t := .int) (t' := .int) (by decide) (by decide)))).other W86 (Or.inr (slot_ne (Or.inl (hw _ (List.mem_of_getElem? (i := 25) rfl))) (Or.inl (hw _ (List.mem_of_getElem? (i := 23) rfl))) (by decide) (t := .int) (t' := (.array .int)) (by decide) (by decide))))
  have f91 : Fld Z h86 a_1 "com/example/kalchas/kalchas/propositional/HornClauses" "clauseCount" "I" (.int (3 : Int32)) := (Fw82.other W86 (Or.inr (slot_ne (Or.inl (hw _ (List.mem_of_getElem? (i := 48) rfl))) (Or.inl (hw _ (List.mem_of_getElem? (i := 23) rfl))) (by decide) (t := .int) (t' := (.array .int)) (by decide) (by decide))))
  have f92 : Fld Z h86 a_1 "com/example/kalchas/kalchas/propositional/HornClauses" "heads" "[I" (.ref wh) := ((((f61.other W67 (Or.inl (own_ne (by omega)))).other W77 (Or.inl (own_ne (by omega)))).other W82 (Or.inr (slot_ne (Or.inl (hw _ (List.mem_of_getElem? (i := 12) rfl))) (Or.inl (hw _ (List.mem_of_getElem? (i := 48) rfl))) (by decide) (t := (.array .int)) (t' := .int) (by decide) (by decide)))).other W86 (Or.inr (slot_ne (Or.inl (hw _ (List.mem_of_getElem? (i := 12) rfl))) (Or.inl (hw _ (List.mem_of_getElem? (i := 23) rfl))) (by decide) (t := (.array .int)) (t' := (.array .int)) (by decide) (by decide))))
  have f93 : Fld Z h86 a_1 "com/example/kalchas/kalchas/propositional/HornClauses" "bodyStarts" "[I" (.ref wst) := (((f69.other W77 (Or.inl (own_ne (by omega)))).other W82 (Or.inr (slot_ne (Or.inl (hw _ (List.mem_of_getElem? (i := 14) rfl))) (Or.inl (hw _ (List.mem_of_getElem? (i := 48) rfl))) (by decide) (t := (.array .int)) (t' := .int) (by decide) (by decide)))).other W86 (Or.inr (slot_ne (Or.inl (hw _ (List.mem_of_getElem? (i := 14) rfl))) (Or.inl (hw _ (List.mem_of_getElem? (i := 23) rfl))) (by decide) (t := (.array .int)) (t' := (.array .int)) (by decide) (by decide))))
  have f94 : Fld Z h86 a_1 "com/example/kalchas/kalchas/propositional/HornClauses" "bodies" "[I" (.ref wb) := (((((f52.keep Kq59 (ninS (own_ne (by omega)) nin0)).other W67 (Or.inl (own_ne (by omega)))).other W77 (Or.inl (own_ne (by omega)))).other W82 (Or.inr (slot_ne (Or.inl (hw _ (List.mem_of_getElem? (i := 16) rfl))) (Or.inl (hw _ (List.mem_of_getElem? (i := 48) rfl))) (by decide) (t := (.array .int)) (t' := .int) (by decide) (by decide)))).other W86 (Or.inr (slot_ne (Or.inl (hw _ (List.mem_of_getElem? (i := 16) rfl))) (Or.inl (hw _ (List.mem_of_getElem? (i := 23) rfl))) (by decide) (t := (.array .int)) (t' := (.array .int)) (by decide) (by decide))))
  have f95 : own_AV Z h86 wh .int (64 : Int32) (own_upd gh 2 (.int p_2)) := (((V67.other W77 (own_ne (by omega))).other W82 (own_ne (by omega))).other W86 (own_ne (by omega)))
  have f96 : own_AV Z h86 wst .int (65 : Int32) (own_upd gs 3 (.int (bs + (3 : Int32)))) := ((V77.other W82 (own_ne (by omega))).other W86 (own_ne (by omega)))
  have f97 : own_AV Z h86 wb .int (64 : Int32) (own_cpf (own_upd (own_upd (own_upd (fun _ => (.int (0 : Int32))) 0 (.int y0)) 1 (.int y1)) 2 (.int y2)) ((0 : Int32)).toNatClampNeg gb (bs).toNatClampNeg ((3 : Int32)).toNatClampNeg) := ((((V59.other W67 (own_ne (by omega))).other W77 (own_ne (by omega))).other W82 (own_ne (by omega))).other W86 (own_ne (by omega)))
  exact ⟨(own_cpf (own_upd (own_upd (own_upd (fun _ => (.int (0 : Int32))) 0 (.int y0)) 1 (.int y1)) 2 (.int y2)) ((0 : Int32)).toNatClampNeg gb (bs).toNatClampNeg ((3 : Int32)).toNatClampNeg), rfl, N86, K86, f89, f90, f91, f92, f93, f94, Fw86, f95, f96, f97, (own_cpff (own_updf (own_updf (own_updf (fun _ => rfl) rfl) rfl) rfl) hfb)⟩
theorem own_d7_0 : decode prog_6_method_5_code 0 = .ok (.aload_n 0, 1) := by decide +kernel
theorem own_d7_1 : decode prog_6_method_5_code 1 = .ok (.iload_n 1, 1) := by decide +kernel
theorem own_d7_2 : decode prog_6_method_5_code 2 = .ok (.invokevirtual 51, 3) := by decide +kernel
theorem own_d7_5 : decode prog_6_method_5_code 5 = .ok (.aload_n 0, 1) := by decide +kernel
theorem own_d7_6 : decode prog_6_method_5_code 6 = .ok (.getfield 9, 3) := by decide +kernel
theorem own_d7_9 : decode prog_6_method_5_code 9 = .ok (.iload_n 1, 1) := by decide +kernel
theorem own_d7_10 : decode prog_6_method_5_code 10 = .ok (.iaload, 1) := by decide +kernel
theorem own_d7_11 : decode prog_6_method_5_code 11 = .ok (.ireturn, 1) := by decide +kernel
theorem own_ef_own_rm7_0 (m : MethodId) (x0 : Addr) : entryFrame m #[(.ref x0), (.int (0 : Int32))] 2 = mkF m 0 #[.val (.ref x0), .val (.int (0 : Int32))] [] := by first | (simp [entryFrame, mkF, argsToLocals, Value.category]; done) | rfl
def own_Q7_0 (Z : State) (a_1 : Addr) (wh : Addr) (gh : Nat → Value) (hv : Int32) (h0 : Heap) (n0 : Nat) (v : Option Value) (h : Heap) (L : List Loc) : Prop := v = some (.int hv) ∧ Fr n0 L ∧ Keep h0 h []
set_option maxRecDepth 65536 in
set_option maxHeartbeats 40000000 in
theorem own_rm7_0 (l : Launch) (Z : State) (a0 : Array Value) (hw : ∀ d ∈ tables_1, d.before a0 Z = true) (ws : List Jvm.Cond) (a_1 : Addr) (wh : Addr) (gh : Nat → Value) (hv : Int32) (h0 : Heap) (n0 : Nat) (Z0 : n0 ≤ h0.size) (pr_E_a_1 : Exa Z h0 a_1 "com/example/kalchas/kalchas/propositional/HornClauses") (pr_F_a_1_heads : Fld Z h0 a_1 "com/example/kalchas/kalchas/propositional/HornClauses" "heads" "[I" (.ref wh)) (pr_F_a_1_clauseCount : Fld Z h0 a_1 "com/example/kalchas/kalchas/propositional/HornClauses" "clauseCount" "I" (.int (3 : Int32))) (pr_A_wh : own_AV Z h0 wh .int (64 : Int32) gh) (hgh : gh 0 = .int hv) :
    MetFree l (⟨"com/example/kalchas/kalchas/propositional/HornClauses", "head", "(I)I"⟩ : MethodName) (head1 (Jvm.Cond.code (⟨"com/example/kalchas/kalchas/propositional/HornClauses", "head", "(I)I"⟩ : MethodName) prog_6_method_5_code 2 (some .int) :: ws) ({ frames := 2, cells := 2, slots := 28, locals := 27 } : Room)) (fun a U => a = #[(.ref a_1), (.int (0 : Int32))] ∧ Z.Warmed39 U.vm ∧ U.heap = h0) (fun _ _ _ _ _ => True) (fun _ U o U' => ∃ v L, o = .returned v ∧ own_Q7_0 Z a_1 wh gh hv h0 n0 v U'.heap L ∧ ReturnedEndW U o U' L ({ frames := 2, cells := 2, slots := 28, locals := 27 } : Room).cells ({ frames := 2, cells := 2, slots := 28, locals := 27 } : Room).slots) := by
  refine MetFree.of_bodySF (plainFor_of_name own_pn0) hisR ?_
  intro p e s m args below meth c s₁ Bd hml0 hP hK
  obtain ⟨rfl, hZ, hh⟩ := hP
  have hx := Bd.exec
  have hby := Bd.bytes
  have hml : c.maxLocals = 2 := hml0
  have hown : s.vm.findClass "com/example/kalchas/kalchas/propositional/HornClauses" = some m.cls := findClass_of_methodNamed Bd.named
  have hnm := (name_of_methodNamed Bd.named Bd.method).1
  have X0 : Stand p l e ({ frames := 2, cells := 2, slots := 28, locals := 27 } : Room) s m #[(.ref a_1), (.int (0 : Int32))] below meth c s₁ [] 0 0 := Stand.of_body Bd
  have e0 : s₁.heap = h0 := by rw [← hh, Bd.state]; rfl
  have N0 := Fr.nil n0
  have X0 : Stand p l e ({ frames := 2, cells := 2, slots := 28, locals := 27 } : Room) (s.setVm s.vm) m #[(.ref a_1), (.int (0 : Int32))] below meth c s₁ [] 0 0 := X0
  have hZ : Z.Warmed39 (s.setVm s.vm).vm := hZ
  have hown : (s.setVm s.vm).vm.findClass "com/example/kalchas/kalchas/propositional/HornClauses" = some m.cls := hown
  have hS0 : s.Since s.vm 0 := (State.WarmedH.refl s).since 0
  have z0 : n0 ≤ h0.size := Z0
  have z1 := own_lt pr_E_a_1.lt
  have z2 := own_lt pr_F_a_1_heads.lt
  have z3 := own_lt pr_F_a_1_clauseCount.lt
  have z4 := own_lt pr_A_wh.lt
  have K0 : Keep h0 h0 [] := Keep.refl h0 _
  show own_Go p.tables e below (fun t o => t.status = .running ∧ Ended t below o ∧ ∃ v L, o = .returned v ∧ own_Q7_0 Z a_1 wh gh hv h0 n0 v t.heap L ∧ ReturnedEndW s o t L ({ frames := 2, cells := 2, slots := 28, locals := 27 } : Room).cells ({ frames := 2, cells := 2, slots := 28, locals := 27 } : Room).slots) s₁ (entryFrame m #[(.ref a_1), (.int (0 : Int32))] 2)
  rw [own_ef_own_rm7_0 m a_1]
  show own_Go _ _ _ _ s₁ (mkF m 0 #[.val (.ref a_1), .val (.int (0 : Int32))] [])
  refine own_go (fun _ k => XS.aloadN X0.here hx rfl (hb hby own_d7_0) rfl rfl k) ?_
  show own_Go _ _ _ _ s₁ (mkF m 1 #[.val (.ref a_1), .val (.int (0 : Int32))] [(.ref a_1)])
  refine own_go (fun _ k => XS.iloadN X0.here hx rfl (hb hby own_d7_1) rfl k) ?_
  show own_Go _ _ _ _ s₁ (mkF m 2 #[.val (.ref a_1), .val (.int (0 : Int32))] [(.int (0 : Int32)), (.ref a_1)])
  obtain ⟨cq5, q5, q5'⟩ := (id pr_E_a_1).cell
  obtain ⟨_, _, ⟨T5, L5, k5, n5⟩, -, X5, hS5, gr5, ⟨Lc5, hQ5, l5, y5, z5⟩, st5⟩ := X0.privateBackS hx (y := (⟨"com/example/kalchas/kalchas/propositional/HornClauses", "checkClause", "(I)V"⟩ : MethodName)) hown (mvT hZ (hw _ (List.mem_of_getElem? (i := 58) rfl))) (mvT hZ (hw _ (List.mem_of_getElem? (i := 59) rfl))) (own_selfsel hZ (hw _ (List.mem_of_getElem? (i := 3) rfl)) (hw _ (List.mem_of_getElem? (i := 59) rfl)) (hw _ (List.mem_of_getElem? (i := 60) rfl)) (by decide)) (Cond.privateMethod_at (mvP hZ (hw _ (List.mem_of_getElem? (i := 60) rfl)) (args := #[]))) (mvT hZ (hw _ (List.mem_of_getElem? (i := 61) rfl))) (by decide) (backOfS (W := 0) (own_rm8 l Z a0 hw [] a_1 (0 : Int32) (3 : Int32) h0 n0 (by omega) (show ¬ ((0 : Int32) < 0) by first | assumption | omega | decide) (show (0 : Int32) < (3 : Int32) by first | assumption | omega | decide) pr_F_a_1_clauseCount) hZ (hw _ (List.mem_of_getElem? (i := 61) rfl)) (hw _ (List.mem_of_getElem? (i := 4) rfl)) (by decide) (by decide)) (g := (mkF m 2 #[.val (.ref a_1), .val (.int (0 : Int32))] [(.int (0 : Int32)), (.ref a_1)])) rfl (by rw [hml]; rfl) (Steps.refl _) (a := a_1) (by rw [e0]; exact q5) q5' (argsL := [(.int (0 : Int32))]) (rest := []) (lenOf own_pd1 rfl) rfl (by show 2 * 0 + _ ≤ _; exact Nat.le_of_eq rfl) (hb hby own_d7_2) (fun _ _ => ⟨rfl, e0, (by decide : 0 + 2 ≤ _), (by decide : 0 + 28 ≤ _)⟩)
  dsimp only [Pt.U, Pt.locs, Pt.cells, Pt.slots] at X5 l5 y5 z5 st5 hQ5 hS5 gr5
  have y5 : k5 = 2 := y5
  have z5 : n5 = 28 := z5
  have Wn5 := hS5.1
  obtain ⟨X5, hS5, hZ, hown⟩ := rebS hS0 (n1 := s₁.heap.size) (by rw [e0]; omega) X5 hS5 gr5 hZ hown
  obtain ⟨rfl, N5q, K5q⟩ := hQ5
  have N5 : Fr n0 L5 := by rw [l5]; exact Fr.app N0 N5q
  have z6 := K5q.1
  have K5 : Keep h0 T5.heap [] := K0.trans K5q all0
  refine own_go (fun _ k => st5.trans k) ?_
  show own_Go _ _ _ _ T5 (mkF m 5 #[.val (.ref a_1), .val (.int (0 : Int32))] [])
  refine own_go (fun _ k => XS.aloadN X5.here hx rfl (hb hby own_d7_5) rfl rfl k) ?_
  show own_Go _ _ _ _ T5 (mkF m 6 #[.val (.ref a_1), .val (.int (0 : Int32))] [(.ref a_1)])
  have f7 : Fld Z T5.heap a_1 "com/example/kalchas/kalchas/propositional/HornClauses" "heads" "[I" (.ref wh) := (pr_F_a_1_heads.keep K5q nin0)
  obtain ⟨T8, X8, e8, st8⟩ := getF X5 hx hZ hown (host := "") (Or.inl (hw _ (List.mem_of_getElem? (i := 11) rfl))) Via.refl rfl f7 (g := (mkF m 6 #[.val (.ref a_1), .val (.int (0 : Int32))] [(.ref a_1)])) rfl rfl (hb hby own_d7_6)
  refine own_go (fun _ k => st8 _ k) ?_
  show own_Go _ _ _ _ T8 (mkF m 9 #[.val (.ref a_1), .val (.int (0 : Int32))] [(.ref wh)])
  refine own_go (fun _ k => XS.iloadN X8.here hx rfl (hb hby own_d7_9) rfl k) ?_
  show own_Go _ _ _ _ T8 (mkF m 10 #[.val (.ref a_1), .val (.int (0 : Int32))] [(.int (0 : Int32)), (.ref wh)])
  have f9 : own_AV Z T5.heap wh .int (64 : Int32) gh := (pr_A_wh.keep K5q nin0)
  obtain ⟨q10, c10, R10, s10, t10⟩ := id f9
  have hin10 : ¬ ((0 : Int32) < 0 ∨ c10.slots.size ≤ ((0 : Int32)).toNatClampNeg) := inb_of s10 ⟨by decide, by decide⟩
  have u10 : c10.slots[((0 : Int32)).toNatClampNeg]? = some (.int hv) := own_at (k := 0) t10 s10 hin10 (by decide) (hgh)
  refine own_go (fun _ k => X8.iaload hx (j := (0 : Int32)) (v := (.int hv)) (by rw [e8]; exact R10.1) (State.isArrayOf_alike hZ.alike R10.2.1) R10.2.2 hin10 u10 (g := (mkF m 10 #[.val (.ref a_1), .val (.int (0 : Int32))] [(.int (0 : Int32)), (.ref wh)])) rfl rfl (hb hby own_d7_10) _ k) ?_
  show own_Go _ _ _ _ T8 (mkF m 11 #[.val (.ref a_1), .val (.int (0 : Int32))] [(.int hv)])
  obtain ⟨fs, hr, hrun, hended, hRW⟩ := X8.leaveW hS5 (by rw [e8]; omega) (v := some (.int hv)) (fun h => by rw [Bd.returns] at h; cases h)
  refine ⟨_, _, retOut X8 hx Bd.returns rfl (Or.inl ⟨rfl, Or.inl rfl, _, rfl⟩) (hb hby own_d7_11) hr, hrun, hended, _, _, rfl, ?_, own_monoW hRW (by rw [y5]; decide) (by rw [z5]; decide)⟩
  show own_Q7_0 Z a_1 wh gh hv h0 n0 _ T8.heap _
  rw [e8]
  exact ⟨rfl, N5, K5⟩
theorem own_ef_own_rm7_1 (m : MethodId) (x0 : Addr) : entryFrame m #[(.ref x0), (.int (1 : Int32))] 2 = mkF m 0 #[.val (.ref x0), .val (.int (1 : Int32))] [] := by first | (simp [entryFrame, mkF, argsToLocals, Value.category]; done) | rfl
def own_Q7_1 (Z : State) (a_1 : Addr) (wh : Addr) (gh : Nat → Value) (hv : Int32) (h0 : Heap) (n0 : Nat) (v : Option Value) (h : Heap) (L : List Loc) : Prop := v = some (.int hv) ∧ Fr n0 L ∧ Keep h0 h []
set_option maxRecDepth 65536 in
set_option maxHeartbeats 40000000 in
theorem own_rm7_1 (l : Launch) (Z : State) (a0 : Array Value) (hw : ∀ d ∈ tables_1, d.before a0 Z = true) (ws : List Jvm.Cond) (a_1 : Addr) (wh : Addr) (gh : Nat → Value) (hv : Int32) (h0 : Heap) (n0 : Nat) (Z0 : n0 ≤ h0.size) (pr_E_a_1 : Exa Z h0 a_1 "com/example/kalchas/kalchas/propositional/HornClauses") (pr_F_a_1_heads : Fld Z h0 a_1 "com/example/kalchas/kalchas/propositional/HornClauses" "heads" "[I" (.ref wh)) (pr_F_a_1_clauseCount : Fld Z h0 a_1 "com/example/kalchas/kalchas/propositional/HornClauses" "clauseCount" "I" (.int (3 : Int32))) (pr_A_wh : own_AV Z h0 wh .int (64 : Int32) gh) (hgh : gh 1 = .int hv) :
    MetFree l (⟨"com/example/kalchas/kalchas/propositional/HornClauses", "head", "(I)I"⟩ : MethodName) (head1 (Jvm.Cond.code (⟨"com/example/kalchas/kalchas/propositional/HornClauses", "head", "(I)I"⟩ : MethodName) prog_6_method_5_code 2 (some .int) :: ws) ({ frames := 2, cells := 2, slots := 28, locals := 27 } : Room)) (fun a U => a = #[(.ref a_1), (.int (1 : Int32))] ∧ Z.Warmed39 U.vm ∧ U.heap = h0) (fun _ _ _ _ _ => True) (fun _ U o U' => ∃ v L, o = .returned v ∧ own_Q7_1 Z a_1 wh gh hv h0 n0 v U'.heap L ∧ ReturnedEndW U o U' L ({ frames := 2, cells := 2, slots := 28, locals := 27 } : Room).cells ({ frames := 2, cells := 2, slots := 28, locals := 27 } : Room).slots) := by
  refine MetFree.of_bodySF (plainFor_of_name own_pn0) hisR ?_
  intro p e s m args below meth c s₁ Bd hml0 hP hK
  obtain ⟨rfl, hZ, hh⟩ := hP
  have hx := Bd.exec
  have hby := Bd.bytes
  have hml : c.maxLocals = 2 := hml0
  have hown : s.vm.findClass "com/example/kalchas/kalchas/propositional/HornClauses" = some m.cls := findClass_of_methodNamed Bd.named
  have hnm := (name_of_methodNamed Bd.named Bd.method).1
  have X0 : Stand p l e ({ frames := 2, cells := 2, slots := 28, locals := 27 } : Room) s m #[(.ref a_1), (.int (1 : Int32))] below meth c s₁ [] 0 0 := Stand.of_body Bd
  have e0 : s₁.heap = h0 := by rw [← hh, Bd.state]; rfl
  have N0 := Fr.nil n0
  have X0 : Stand p l e ({ frames := 2, cells := 2, slots := 28, locals := 27 } : Room) (s.setVm s.vm) m #[(.ref a_1), (.int (1 : Int32))] below meth c s₁ [] 0 0 := X0
  have hZ : Z.Warmed39 (s.setVm s.vm).vm := hZ
  have hown : (s.setVm s.vm).vm.findClass "com/example/kalchas/kalchas/propositional/HornClauses" = some m.cls := hown
  have hS0 : s.Since s.vm 0 := (State.WarmedH.refl s).since 0
  have z0 : n0 ≤ h0.size := Z0
  have z1 := own_lt pr_E_a_1.lt
  have z2 := own_lt pr_F_a_1_heads.lt
  have z3 := own_lt pr_F_a_1_clauseCount.lt
  have z4 := own_lt pr_A_wh.lt
  have K0 : Keep h0 h0 [] := Keep.refl h0 _
  show own_Go p.tables e below (fun t o => t.status = .running ∧ Ended t below o ∧ ∃ v L, o = .returned v ∧ own_Q7_1 Z a_1 wh gh hv h0 n0 v t.heap L ∧ ReturnedEndW s o t L ({ frames := 2, cells := 2, slots := 28, locals := 27 } : Room).cells ({ frames := 2, cells := 2, slots := 28, locals := 27 } : Room).slots) s₁ (entryFrame m #[(.ref a_1), (.int (1 : Int32))] 2)
  rw [own_ef_own_rm7_1 m a_1]
  show own_Go _ _ _ _ s₁ (mkF m 0 #[.val (.ref a_1), .val (.int (1 : Int32))] [])
  refine own_go (fun _ k => XS.aloadN X0.here hx rfl (hb hby own_d7_0) rfl rfl k) ?_
  show own_Go _ _ _ _ s₁ (mkF m 1 #[.val (.ref a_1), .val (.int (1 : Int32))] [(.ref a_1)])
  refine own_go (fun _ k => XS.iloadN X0.here hx rfl (hb hby own_d7_1) rfl k) ?_
  show own_Go _ _ _ _ s₁ (mkF m 2 #[.val (.ref a_1), .val (.int (1 : Int32))] [(.int (1 : Int32)), (.ref a_1)])
  obtain ⟨cq5, q5, q5'⟩ := (id pr_E_a_1).cell
  obtain ⟨_, _, ⟨T5, L5, k5, n5⟩, -, X5, hS5, gr5, ⟨Lc5, hQ5, l5, y5, z5⟩, st5⟩ := X0.privateBackS hx (y := (⟨"com/example/kalchas/kalchas/propositional/HornClauses", "checkClause", "(I)V"⟩ : MethodName)) hown (mvT hZ (hw _ (List.mem_of_getElem? (i := 58) rfl))) (mvT hZ (hw _ (List.mem_of_getElem? (i := 59) rfl))) (own_selfsel hZ (hw _ (List.mem_of_getElem? (i := 3) rfl)) (hw _ (List.mem_of_getElem? (i := 59) rfl)) (hw _ (List.mem_of_getElem? (i := 60) rfl)) (by decide)) (Cond.privateMethod_at (mvP hZ (hw _ (List.mem_of_getElem? (i := 60) rfl)) (args := #[]))) (mvT hZ (hw _ (List.mem_of_getElem? (i := 61) rfl))) (by decide) (backOfS (W := 0) (own_rm8 l Z a0 hw [] a_1 (1 : Int32) (3 : Int32) h0 n0 (by omega) (show ¬ ((1 : Int32) < 0) by first | assumption | omega | decide) (show (1 : Int32) < (3 : Int32) by first | assumption | omega | decide) pr_F_a_1_clauseCount) hZ (hw _ (List.mem_of_getElem? (i := 61) rfl)) (hw _ (List.mem_of_getElem? (i := 4) rfl)) (by decide) (by decide)) (g := (mkF m 2 #[.val (.ref a_1), .val (.int (1 : Int32))] [(.int (1 : Int32)), (.ref a_1)])) rfl (by rw [hml]; rfl) (Steps.refl _) (a := a_1) (by rw [e0]; exact q5) q5' (argsL := [(.int (1 : Int32))]) (rest := []) (lenOf own_pd1 rfl) rfl (by show 2 * 0 + _ ≤ _; exact Nat.le_of_eq rfl) (hb hby own_d7_2) (fun _ _ => ⟨rfl, e0, (by decide : 0 + 2 ≤ _), (by decide : 0 + 28 ≤ _)⟩)
  dsimp only [Pt.U, Pt.locs, Pt.cells, Pt.slots] at X5 l5 y5 z5 st5 hQ5 hS5 gr5
  have y5 : k5 = 2 := y5
  have z5 : n5 = 28 := z5
  have Wn5 := hS5.1
  obtain ⟨X5, hS5, hZ, hown⟩ := rebS hS0 (n1 := s₁.heap.size) (by rw [e0]; omega) X5 hS5 gr5 hZ hown
  obtain ⟨rfl, N5q, K5q⟩ := hQ5
  have N5 : Fr n0 L5 := by rw [l5]; exact Fr.app N0 N5q
  have z6 := K5q.1
  have K5 : Keep h0 T5.heap [] := K0.trans K5q all0
  refine own_go (fun _ k => st5.trans k) ?_
  show own_Go _ _ _ _ T5 (mkF m 5 #[.val (.ref a_1), .val (.int (1 : Int32))] [])
  refine own_go (fun _ k => XS.aloadN X5.here hx rfl (hb hby own_d7_5) rfl rfl k) ?_
  show own_Go _ _ _ _ T5 (mkF m 6 #[.val (.ref a_1), .val (.int (1 : Int32))] [(.ref a_1)])
  have f7 : Fld Z T5.heap a_1 "com/example/kalchas/kalchas/propositional/HornClauses" "heads" "[I" (.ref wh) := (pr_F_a_1_heads.keep K5q nin0)
  obtain ⟨T8, X8, e8, st8⟩ := getF X5 hx hZ hown (host := "") (Or.inl (hw _ (List.mem_of_getElem? (i := 11) rfl))) Via.refl rfl f7 (g := (mkF m 6 #[.val (.ref a_1), .val (.int (1 : Int32))] [(.ref a_1)])) rfl rfl (hb hby own_d7_6)
  refine own_go (fun _ k => st8 _ k) ?_
  show own_Go _ _ _ _ T8 (mkF m 9 #[.val (.ref a_1), .val (.int (1 : Int32))] [(.ref wh)])
  refine own_go (fun _ k => XS.iloadN X8.here hx rfl (hb hby own_d7_9) rfl k) ?_
  show own_Go _ _ _ _ T8 (mkF m 10 #[.val (.ref a_1), .val (.int (1 : Int32))] [(.int (1 : Int32)), (.ref wh)])
  have f9 : own_AV Z T5.heap wh .int (64 : Int32) gh := (pr_A_wh.keep K5q nin0)
  obtain ⟨q10, c10, R10, s10, t10⟩ := id f9
  have hin10 : ¬ ((1 : Int32) < 0 ∨ c10.slots.size ≤ ((1 : Int32)).toNatClampNeg) := inb_of s10 ⟨by decide, by decide⟩
  have u10 : c10.slots[((1 : Int32)).toNatClampNeg]? = some (.int hv) := own_at (k := 1) t10 s10 hin10 (by decide) (hgh)
  refine own_go (fun _ k => X8.iaload hx (j := (1 : Int32)) (v := (.int hv)) (by rw [e8]; exact R10.1) (State.isArrayOf_alike hZ.alike R10.2.1) R10.2.2 hin10 u10 (g := (mkF m 10 #[.val (.ref a_1), .val (.int (1 : Int32))] [(.int (1 : Int32)), (.ref wh)])) rfl rfl (hb hby own_d7_10) _ k) ?_
  show own_Go _ _ _ _ T8 (mkF m 11 #[.val (.ref a_1), .val (.int (1 : Int32))] [(.int hv)])
  obtain ⟨fs, hr, hrun, hended, hRW⟩ := X8.leaveW hS5 (by rw [e8]; omega) (v := some (.int hv)) (fun h => by rw [Bd.returns] at h; cases h)
  refine ⟨_, _, retOut X8 hx Bd.returns rfl (Or.inl ⟨rfl, Or.inl rfl, _, rfl⟩) (hb hby own_d7_11) hr, hrun, hended, _, _, rfl, ?_, own_monoW hRW (by rw [y5]; decide) (by rw [z5]; decide)⟩
  show own_Q7_1 Z a_1 wh gh hv h0 n0 _ T8.heap _
  rw [e8]
  exact ⟨rfl, N5, K5⟩
theorem own_ef_own_rm7_2 (m : MethodId) (x0 : Addr) : entryFrame m #[(.ref x0), (.int (2 : Int32))] 2 = mkF m 0 #[.val (.ref x0), .val (.int (2 : Int32))] [] := by first | (simp [entryFrame, mkF, argsToLocals, Value.category]; done) | rfl
def own_Q7_2 (Z : State) (a_1 : Addr) (wh : Addr) (gh : Nat → Value) (hv : Int32) (h0 : Heap) (n0 : Nat) (v : Option Value) (h : Heap) (L : List Loc) : Prop := v = some (.int hv) ∧ Fr n0 L ∧ Keep h0 h []
set_option maxRecDepth 65536 in
set_option maxHeartbeats 40000000 in
theorem own_rm7_2 (l : Launch) (Z : State) (a0 : Array Value) (hw : ∀ d ∈ tables_1, d.before a0 Z = true) (ws : List Jvm.Cond) (a_1 : Addr) (wh : Addr) (gh : Nat → Value) (hv : Int32) (h0 : Heap) (n0 : Nat) (Z0 : n0 ≤ h0.size) (pr_E_a_1 : Exa Z h0 a_1 "com/example/kalchas/kalchas/propositional/HornClauses") (pr_F_a_1_heads : Fld Z h0 a_1 "com/example/kalchas/kalchas/propositional/HornClauses" "heads" "[I" (.ref wh)) (pr_F_a_1_clauseCount : Fld Z h0 a_1 "com/example/kalchas/kalchas/propositional/HornClauses" "clauseCount" "I" (.int (3 : Int32))) (pr_A_wh : own_AV Z h0 wh .int (64 : Int32) gh) (hgh : gh 2 = .int hv) :
    MetFree l (⟨"com/example/kalchas/kalchas/propositional/HornClauses", "head", "(I)I"⟩ : MethodName) (head1 (Jvm.Cond.code (⟨"com/example/kalchas/kalchas/propositional/HornClauses", "head", "(I)I"⟩ : MethodName) prog_6_method_5_code 2 (some .int) :: ws) ({ frames := 2, cells := 2, slots := 28, locals := 27 } : Room)) (fun a U => a = #[(.ref a_1), (.int (2 : Int32))] ∧ Z.Warmed39 U.vm ∧ U.heap = h0) (fun _ _ _ _ _ => True) (fun _ U o U' => ∃ v L, o = .returned v ∧ own_Q7_2 Z a_1 wh gh hv h0 n0 v U'.heap L ∧ ReturnedEndW U o U' L ({ frames := 2, cells := 2, slots := 28, locals := 27 } : Room).cells ({ frames := 2, cells := 2, slots := 28, locals := 27 } : Room).slots) := by
  refine MetFree.of_bodySF (plainFor_of_name own_pn0) hisR ?_
  intro p e s m args below meth c s₁ Bd hml0 hP hK
  obtain ⟨rfl, hZ, hh⟩ := hP
  have hx := Bd.exec
  have hby := Bd.bytes
  have hml : c.maxLocals = 2 := hml0
  have hown : s.vm.findClass "com/example/kalchas/kalchas/propositional/HornClauses" = some m.cls := findClass_of_methodNamed Bd.named
  have hnm := (name_of_methodNamed Bd.named Bd.method).1
  have X0 : Stand p l e ({ frames := 2, cells := 2, slots := 28, locals := 27 } : Room) s m #[(.ref a_1), (.int (2 : Int32))] below meth c s₁ [] 0 0 := Stand.of_body Bd
  have e0 : s₁.heap = h0 := by rw [← hh, Bd.state]; rfl
  have N0 := Fr.nil n0
  have X0 : Stand p l e ({ frames := 2, cells := 2, slots := 28, locals := 27 } : Room) (s.setVm s.vm) m #[(.ref a_1), (.int (2 : Int32))] below meth c s₁ [] 0 0 := X0
  have hZ : Z.Warmed39 (s.setVm s.vm).vm := hZ
  have hown : (s.setVm s.vm).vm.findClass "com/example/kalchas/kalchas/propositional/HornClauses" = some m.cls := hown
  have hS0 : s.Since s.vm 0 := (State.WarmedH.refl s).since 0
  have z0 : n0 ≤ h0.size := Z0
  have z1 := own_lt pr_E_a_1.lt
  have z2 := own_lt pr_F_a_1_heads.lt
  have z3 := own_lt pr_F_a_1_clauseCount.lt
  have z4 := own_lt pr_A_wh.lt
  have K0 : Keep h0 h0 [] := Keep.refl h0 _
  show own_Go p.tables e below (fun t o => t.status = .running ∧ Ended t below o ∧ ∃ v L, o = .returned v ∧ own_Q7_2 Z a_1 wh gh hv h0 n0 v t.heap L ∧ ReturnedEndW s o t L ({ frames := 2, cells := 2, slots := 28, locals := 27 } : Room).cells ({ frames := 2, cells := 2, slots := 28, locals := 27 } : Room).slots) s₁ (entryFrame m #[(.ref a_1), (.int (2 : Int32))] 2)
  rw [own_ef_own_rm7_2 m a_1]
  show own_Go _ _ _ _ s₁ (mkF m 0 #[.val (.ref a_1), .val (.int (2 : Int32))] [])
  refine own_go (fun _ k => XS.aloadN X0.here hx rfl (hb hby own_d7_0) rfl rfl k) ?_
  show own_Go _ _ _ _ s₁ (mkF m 1 #[.val (.ref a_1), .val (.int (2 : Int32))] [(.ref a_1)])
  refine own_go (fun _ k => XS.iloadN X0.here hx rfl (hb hby own_d7_1) rfl k) ?_
  show own_Go _ _ _ _ s₁ (mkF m 2 #[.val (.ref a_1), .val (.int (2 : Int32))] [(.int (2 : Int32)), (.ref a_1)])
  obtain ⟨cq5, q5, q5'⟩ := (id pr_E_a_1).cell
  obtain ⟨_, _, ⟨T5, L5, k5, n5⟩, -, X5, hS5, gr5, ⟨Lc5, hQ5, l5, y5, z5⟩, st5⟩ := X0.privateBackS hx (y := (⟨"com/example/kalchas/kalchas/propositional/HornClauses", "checkClause", "(I)V"⟩ : MethodName)) hown (mvT hZ (hw _ (List.mem_of_getElem? (i := 58) rfl))) (mvT hZ (hw _ (List.mem_of_getElem? (i := 59) rfl))) (own_selfsel hZ (hw _ (List.mem_of_getElem? (i := 3) rfl)) (hw _ (List.mem_of_getElem? (i := 59) rfl)) (hw _ (List.mem_of_getElem? (i := 60) rfl)) (by decide)) (Cond.privateMethod_at (mvP hZ (hw _ (List.mem_of_getElem? (i := 60) rfl)) (args := #[]))) (mvT hZ (hw _ (List.mem_of_getElem? (i := 61) rfl))) (by decide) (backOfS (W := 0) (own_rm8 l Z a0 hw [] a_1 (2 : Int32) (3 : Int32) h0 n0 (by omega) (show ¬ ((2 : Int32) < 0) by first | assumption | omega | decide) (show (2 : Int32) < (3 : Int32) by first | assumption | omega | decide) pr_F_a_1_clauseCount) hZ (hw _ (List.mem_of_getElem? (i := 61) rfl)) (hw _ (List.mem_of_getElem? (i := 4) rfl)) (by decide) (by decide)) (g := (mkF m 2 #[.val (.ref a_1), .val (.int (2 : Int32))] [(.int (2 : Int32)), (.ref a_1)])) rfl (by rw [hml]; rfl) (Steps.refl _) (a := a_1) (by rw [e0]; exact q5) q5' (argsL := [(.int (2 : Int32))]) (rest := []) (lenOf own_pd1 rfl) rfl (by show 2 * 0 + _ ≤ _; exact Nat.le_of_eq rfl) (hb hby own_d7_2) (fun _ _ => ⟨rfl, e0, (by decide : 0 + 2 ≤ _), (by decide : 0 + 28 ≤ _)⟩)
  dsimp only [Pt.U, Pt.locs, Pt.cells, Pt.slots] at X5 l5 y5 z5 st5 hQ5 hS5 gr5
  have y5 : k5 = 2 := y5
  have z5 : n5 = 28 := z5
  have Wn5 := hS5.1
  obtain ⟨X5, hS5, hZ, hown⟩ := rebS hS0 (n1 := s₁.heap.size) (by rw [e0]; omega) X5 hS5 gr5 hZ hown
  obtain ⟨rfl, N5q, K5q⟩ := hQ5
  have N5 : Fr n0 L5 := by rw [l5]; exact Fr.app N0 N5q
  have z6 := K5q.1
  have K5 : Keep h0 T5.heap [] := K0.trans K5q all0
  refine own_go (fun _ k => st5.trans k) ?_
  show own_Go _ _ _ _ T5 (mkF m 5 #[.val (.ref a_1), .val (.int (2 : Int32))] [])
  refine own_go (fun _ k => XS.aloadN X5.here hx rfl (hb hby own_d7_5) rfl rfl k) ?_
  show own_Go _ _ _ _ T5 (mkF m 6 #[.val (.ref a_1), .val (.int (2 : Int32))] [(.ref a_1)])
  have f7 : Fld Z T5.heap a_1 "com/example/kalchas/kalchas/propositional/HornClauses" "heads" "[I" (.ref wh) := (pr_F_a_1_heads.keep K5q nin0)
  obtain ⟨T8, X8, e8, st8⟩ := getF X5 hx hZ hown (host := "") (Or.inl (hw _ (List.mem_of_getElem? (i := 11) rfl))) Via.refl rfl f7 (g := (mkF m 6 #[.val (.ref a_1), .val (.int (2 : Int32))] [(.ref a_1)])) rfl rfl (hb hby own_d7_6)
  refine own_go (fun _ k => st8 _ k) ?_
  show own_Go _ _ _ _ T8 (mkF m 9 #[.val (.ref a_1), .val (.int (2 : Int32))] [(.ref wh)])
  refine own_go (fun _ k => XS.iloadN X8.here hx rfl (hb hby own_d7_9) rfl k) ?_
  show own_Go _ _ _ _ T8 (mkF m 10 #[.val (.ref a_1), .val (.int (2 : Int32))] [(.int (2 : Int32)), (.ref wh)])
  have f9 : own_AV Z T5.heap wh .int (64 : Int32) gh := (pr_A_wh.keep K5q nin0)
  obtain ⟨q10, c10, R10, s10, t10⟩ := id f9
  have hin10 : ¬ ((2 : Int32) < 0 ∨ c10.slots.size ≤ ((2 : Int32)).toNatClampNeg) := inb_of s10 ⟨by decide, by decide⟩
  have u10 : c10.slots[((2 : Int32)).toNatClampNeg]? = some (.int hv) := own_at (k := 2) t10 s10 hin10 (by decide) (hgh)
  refine own_go (fun _ k => X8.iaload hx (j := (2 : Int32)) (v := (.int hv)) (by rw [e8]; exact R10.1) (State.isArrayOf_alike hZ.alike R10.2.1) R10.2.2 hin10 u10 (g := (mkF m 10 #[.val (.ref a_1), .val (.int (2 : Int32))] [(.int (2 : Int32)), (.ref wh)])) rfl rfl (hb hby own_d7_10) _ k) ?_
  show own_Go _ _ _ _ T8 (mkF m 11 #[.val (.ref a_1), .val (.int (2 : Int32))] [(.int hv)])
  obtain ⟨fs, hr, hrun, hended, hRW⟩ := X8.leaveW hS5 (by rw [e8]; omega) (v := some (.int hv)) (fun h => by rw [Bd.returns] at h; cases h)
  refine ⟨_, _, retOut X8 hx Bd.returns rfl (Or.inl ⟨rfl, Or.inl rfl, _, rfl⟩) (hb hby own_d7_11) hr, hrun, hended, _, _, rfl, ?_, own_monoW hRW (by rw [y5]; decide) (by rw [z5]; decide)⟩
  show own_Q7_2 Z a_1 wh gh hv h0 n0 _ T8.heap _
  rw [e8]
  exact ⟨rfl, N5, K5⟩
theorem own_ef_own_rm0 (m : MethodId) (x0 : Int32) (x1 : Int32) (x2 : Int32) (x3 : Int32) : entryFrame m #[(.int x0), (.int x1), (.int x2), (.int x3)] maxLocals = mkF m 0 #[.val (.int x0), .val (.int x1), .val (.int x2), .val (.int x3), .unset, .unset, .unset, .unset, .unset, .unset, .unset, .unset] [] := by first | (simp [entryFrame, mkF, argsToLocals, Value.category, maxLocals]; done) | rfl
set_option maxRecDepth 65536 in
set_option maxHeartbeats 4000000 in
theorem own_t0_0 (p_1 : Int32) (v2 : Int32) (hdv2 : ((p_1 &&& (2147483647 : Int32)) % (3 : Int32)) = v2) : ¬ (v2 < 0) := by
  have a := c_mask p_1 2147483647 31 (by decide) (by decide)
  have b := (c_irem (p_1 &&& 2147483647) 3 3 (by decide)).1 (by omega)
  have e0 : (0 : Int32).toInt = 0 := by decide
  have e3 : (3 : Int32).toInt = 3 := by decide
  simp only [Int32.lt_iff_toInt_lt, e0, e3]
  subst_vars
  omega
set_option maxRecDepth 65536 in
set_option maxHeartbeats 4000000 in
theorem own_t0_1 (p_1 : Int32) (v2 : Int32) (hdv2 : ((p_1 &&& (2147483647 : Int32)) % (3 : Int32)) = v2) (hh0a : ¬ (v2 < 0)) : v2 < (3 : Int32) := by
  have a := c_mask p_1 2147483647 31 (by decide) (by decide)
  have b := (c_irem (p_1 &&& 2147483647) 3 3 (by decide)).1 (by omega)
  have e0 : (0 : Int32).toInt = 0 := by decide
  have e3 : (3 : Int32).toInt = 3 := by decide
  simp only [Int32.lt_iff_toInt_lt, e0, e3]
  subst_vars
  omega
set_option maxRecDepth 65536 in
set_option maxHeartbeats 4000000 in
theorem own_t0_2 (p_2 : Int32) (v4 : Int32) (hdv4 : ((p_2 &&& (2147483647 : Int32)) % (3 : Int32)) = v4) : ¬ (v4 < 0) := by
  have a := c_mask p_2 2147483647 31 (by decide) (by decide)
  have b := (c_irem (p_2 &&& 2147483647) 3 3 (by decide)).1 (by omega)
  have e0 : (0 : Int32).toInt = 0 := by decide
  have e3 : (3 : Int32).toInt = 3 := by decide
  simp only [Int32.lt_iff_toInt_lt, e0, e3]
  subst_vars
  omega
set_option maxRecDepth 65536 in
set_option maxHeartbeats 4000000 in
theorem own_t0_3 (p_2 : Int32) (v4 : Int32) (hdv4 : ((p_2 &&& (2147483647 : Int32)) % (3 : Int32)) = v4) (hh1a : ¬ (v4 < 0)) : v4 < (3 : Int32) := by
  have a := c_mask p_2 2147483647 31 (by decide) (by decide)
  have b := (c_irem (p_2 &&& 2147483647) 3 3 (by decide)).1 (by omega)
  have e0 : (0 : Int32).toInt = 0 := by decide
  have e3 : (3 : Int32).toInt = 3 := by decide
  simp only [Int32.lt_iff_toInt_lt, e0, e3]
  subst_vars
  omega
set_option maxRecDepth 65536 in
set_option maxHeartbeats 4000000 in
theorem own_t0_4 (p_3 : Int32) (v6 : Int32) (hdv6 : ((p_3 &&& (2147483647 : Int32)) % (3 : Int32)) = v6) : ¬ (v6 < 0) := by
  have a := c_mask p_3 2147483647 31 (by decide) (by decide)
  have b := (c_irem (p_3 &&& 2147483647) 3 3 (by decide)).1 (by omega)
  have e0 : (0 : Int32).toInt = 0 := by decide
  have e3 : (3 : Int32).toInt = 3 := by decide
  simp only [Int32.lt_iff_toInt_lt, e0, e3]
  subst_vars
  omega
set_option maxRecDepth 65536 in
set_option maxHeartbeats 4000000 in
theorem own_t0_5 (p_3 : Int32) (v6 : Int32) (hdv6 : ((p_3 &&& (2147483647 : Int32)) % (3 : Int32)) = v6) (hh2a : ¬ (v6 < 0)) : v6 < (3 : Int32) := by
  have a := c_mask p_3 2147483647 31 (by decide) (by decide)
  have b := (c_irem (p_3 &&& 2147483647) 3 3 (by decide)).1 (by omega)
  have e0 : (0 : Int32).toInt = 0 := by decide
  have e3 : (3 : Int32).toInt = 3 := by decide
  simp only [Int32.lt_iff_toInt_lt, e0, e3]
  subst_vars
  omega
set_option maxRecDepth 65536 in
set_option maxHeartbeats 4000000 in
theorem own_t0_6 (p_4 : Int32) (v8 : Int32) (hdv8 : (((p_4.toUInt32 >>> ((8 : Int32) &&& 31).toUInt32).toInt32) % (3 : Int32)) = v8) : ¬ (v8 < 0) := by
  have a := c_iushr p_4 8 8 (by decide) (by decide)
  have r := rng32 p_4
  have b := (c_irem ((p_4.toUInt32 >>> ((8 : Int32) &&& 31).toUInt32).toInt32) 3 3 (by decide)).1 (by omega)
  have e0 : (0 : Int32).toInt = 0 := by decide
  have e3 : (3 : Int32).toInt = 3 := by decide
  simp only [Int32.lt_iff_toInt_lt, e0, e3]
  subst_vars
  omega
set_option maxRecDepth 65536 in
set_option maxHeartbeats 4000000 in
theorem own_t0_7 (p_4 : Int32) (v8 : Int32) (hdv8 : (((p_4.toUInt32 >>> ((8 : Int32) &&& 31).toUInt32).toInt32) % (3 : Int32)) = v8) (hva : ¬ (v8 < 0)) : v8 < (3 : Int32) := by
  have a := c_iushr p_4 8 8 (by decide) (by decide)
  have r := rng32 p_4
  have b := (c_irem ((p_4.toUInt32 >>> ((8 : Int32) &&& 31).toUInt32).toInt32) 3 3 (by decide)).1 (by omega)
  have e0 : (0 : Int32).toInt = 0 := by decide
  have e3 : (3 : Int32).toInt = 3 := by decide
  simp only [Int32.lt_iff_toInt_lt, e0, e3]
  subst_vars
  omega
def own_Q0 (Z : State) (p_1 : Int32) (p_2 : Int32) (p_3 : Int32) (p_4 : Int32) (h0 : Heap) (n0 : Nat) (v : Option Value) (h : Heap) (L : List Loc) : Prop := v = some (.int (1 : Int32)) ∧ Fr n0 L
set_option maxRecDepth 65536 in
set_option maxHeartbeats 40000000 in
theorem own_rm0 (l : Launch) (Z : State) (a0 : Array Value) (hw : ∀ d ∈ tables_1, d.before a0 Z = true) (ws : List Jvm.Cond) (p_1 : Int32) (p_2 : Int32) (p_3 : Int32) (p_4 : Int32) (h0 : Heap) (n0 : Nat) (Z0 : n0 ≤ h0.size) :
    MetFree l x (head1 (Jvm.Cond.code x code maxLocals ret :: ws) room_1) (fun a U => a = #[(.int p_1), (.int p_2), (.int p_3), (.int p_4)] ∧ Z.Warmed39 U.vm ∧ U.heap = h0) (fun _ _ _ _ _ => True) (fun _ U o U' => ∃ v L, o = .returned v ∧ own_Q0 Z p_1 p_2 p_3 p_4 h0 n0 v U'.heap L ∧ ReturnedEndW U o U' L 31 616) := by
  refine MetFree.of_bodySF (plainFor_of_name own_pn1) hisR ?_
  intro p e s m args below meth c s₁ Bd hml0 hP hK
  obtain ⟨rfl, hZ, hh⟩ := hP
  have hx := Bd.exec
  have hby := Bd.bytes
  have hml : c.maxLocals = 12 := hml0
  have hown : s.vm.findClass "com/example/kalchas/kalchas/propositional/HornClausesHeadPinLaw" = some m.cls := findClass_of_methodNamed Bd.named
  have hnm := (name_of_methodNamed Bd.named Bd.method).1
  have X0 : Stand p l e room_1 s m #[(.int p_1), (.int p_2), (.int p_3), (.int p_4)] below meth c s₁ [] 0 0 := Stand.of_body Bd
  have e0 : s₁.heap = h0 := by rw [← hh, Bd.state]; rfl
  have N0 := Fr.nil n0
  have X0 : Stand p l e room_1 (s.setVm s.vm) m #[(.int p_1), (.int p_2), (.int p_3), (.int p_4)] below meth c s₁ [] 0 0 := X0
  have hZ : Z.Warmed39 (s.setVm s.vm).vm := hZ
  have hown : (s.setVm s.vm).vm.findClass "com/example/kalchas/kalchas/propositional/HornClausesHeadPinLaw" = some m.cls := hown
  have hS0 : s.Since s.vm 0 := (State.WarmedH.refl s).since 0
  have z0 : n0 ≤ h0.size := Z0
  show own_Go p.tables e below (fun t o => t.status = .running ∧ Ended t below o ∧ ∃ v L, o = .returned v ∧ own_Q0 Z p_1 p_2 p_3 p_4 h0 n0 v t.heap L ∧ ReturnedEndW s o t L 31 616) s₁ (entryFrame m #[(.int p_1), (.int p_2), (.int p_3), (.int p_4)] maxLocals)
  rw [own_ef_own_rm0 m p_1 p_2 p_3 p_4]
  show own_Go _ _ _ _ s₁ (mkF m 0 #[.val (.int p_1), .val (.int p_2), .val (.int p_3), .val (.int p_4), .unset, .unset, .unset, .unset, .unset, .unset, .unset, .unset] [])
  refine own_go (fun _ k => XS.iloadN X0.here hx rfl (hb hby at_0) rfl k) ?_
  show own_Go _ _ _ _ s₁ (mkF m 1 #[.val (.int p_1), .val (.int p_2), .val (.int p_3), .val (.int p_4), .unset, .unset, .unset, .unset, .unset, .unset, .unset, .unset] [(.int p_1)])
  refine own_go (fun _ k => X0.ldcInt hx hown (mvT hZ (hw _ (List.mem_of_getElem? (i := 0) rfl))) (g := (mkF m 1 #[.val (.int p_1), .val (.int p_2), .val (.int p_3), .val (.int p_4), .unset, .unset, .unset, .unset, .unset, .unset, .unset, .unset] [(.int p_1)])) rfl (hb hby at_1) _ k) ?_
  show own_Go _ _ _ _ s₁ (mkF m 3 #[.val (.int p_1), .val (.int p_2), .val (.int p_3), .val (.int p_4), .unset, .unset, .unset, .unset, .unset, .unset, .unset, .unset] [(.int (2147483647 : Int32)), (.int p_1)])
  refine own_go (fun _ k => XS.iand X0.here hx rfl (hb hby at_3) rfl k) ?_
  show own_Go _ _ _ _ s₁ (mkF m 4 #[.val (.int p_1), .val (.int p_2), .val (.int p_3), .val (.int p_4), .unset, .unset, .unset, .unset, .unset, .unset, .unset, .unset] [(.int (p_1 &&& (2147483647 : Int32)))])
  refine own_go (fun _ k => XS.iconst X0.here hx rfl (hb hby at_4) k) ?_
  show own_Go _ _ _ _ s₁ (mkF m 5 #[.val (.int p_1), .val (.int p_2), .val (.int p_3), .val (.int p_4), .unset, .unset, .unset, .unset, .unset, .unset, .unset, .unset] [(.int (3 : Int32)), (.int (p_1 &&& (2147483647 : Int32)))])
  have nz1 : (3 : Int32) ≠ 0 := by decide
  refine own_go (fun _ k => iremM X0 hx rfl (hb hby at_5) rfl nz1 k) ?_
  show own_Go _ _ _ _ s₁ (mkF m 6 #[.val (.int p_1), .val (.int p_2), .val (.int p_3), .val (.int p_4), .unset, .unset, .unset, .unset, .unset, .unset, .unset, .unset] [(.int ((p_1 &&& (2147483647 : Int32)) % (3 : Int32)))])
  refine own_go (fun _ k => XS.istore X0.here hx rfl (hb hby at_6) rfl (l' := #[.val (.int p_1), .val (.int p_2), .val (.int p_3), .val (.int p_4), .val (.int ((p_1 &&& (2147483647 : Int32)) % (3 : Int32))), .unset, .unset, .unset, .unset, .unset, .unset, .unset]) rfl k) ?_
  show own_Go _ _ _ _ s₁ (mkF m 8 #[.val (.int p_1), .val (.int p_2), .val (.int p_3), .val (.int p_4), .val (.int ((p_1 &&& (2147483647 : Int32)) % (3 : Int32))), .unset, .unset, .unset, .unset, .unset, .unset, .unset] [])
  generalize hdv2 : ((p_1 &&& (2147483647 : Int32)) % (3 : Int32)) = v2
  show own_Go _ _ _ _ s₁ (mkF m 8 #[.val (.int p_1), .val (.int p_2), .val (.int p_3), .val (.int p_4), .val (.int v2), .unset, .unset, .unset, .unset, .unset, .unset, .unset] [])
  have hh0a : ¬ (v2 < 0) := own_t0_0 p_1 v2 hdv2
  have hh0b : v2 < (3 : Int32) := own_t0_1 p_1 v2 hdv2 hh0a
  refine own_go (fun _ k => XS.iloadN X0.here hx rfl (hb hby at_8) rfl k) ?_
  show own_Go _ _ _ _ s₁ (mkF m 9 #[.val (.int p_1), .val (.int p_2), .val (.int p_3), .val (.int p_4), .val (.int v2), .unset, .unset, .unset, .unset, .unset, .unset, .unset] [(.int p_2)])
  refine own_go (fun _ k => X0.ldcInt hx hown (mvT hZ (hw _ (List.mem_of_getElem? (i := 0) rfl))) (g := (mkF m 9 #[.val (.int p_1), .val (.int p_2), .val (.int p_3), .val (.int p_4), .val (.int v2), .unset, .unset, .unset, .unset, .unset, .unset, .unset] [(.int p_2)])) rfl (hb hby at_9) _ k) ?_
  show own_Go _ _ _ _ s₁ (mkF m 11 #[.val (.int p_1), .val (.int p_2), .val (.int p_3), .val (.int p_4), .val (.int v2), .unset, .unset, .unset, .unset, .unset, .unset, .unset] [(.int (2147483647 : Int32)), (.int p_2)])
  refine own_go (fun _ k => XS.iand X0.here hx rfl (hb hby at_11) rfl k) ?_
  show own_Go _ _ _ _ s₁ (mkF m 12 #[.val (.int p_1), .val (.int p_2), .val (.int p_3), .val (.int p_4), .val (.int v2), .unset, .unset, .unset, .unset, .unset, .unset, .unset] [(.int (p_2 &&& (2147483647 : Int32)))])
  refine own_go (fun _ k => XS.iconst X0.here hx rfl (hb hby at_12) k) ?_
  show own_Go _ _ _ _ s₁ (mkF m 13 #[.val (.int p_1), .val (.int p_2), .val (.int p_3), .val (.int p_4), .val (.int v2), .unset, .unset, .unset, .unset, .unset, .unset, .unset] [(.int (3 : Int32)), (.int (p_2 &&& (2147483647 : Int32)))])
  have nz3 : (3 : Int32) ≠ 0 := by decide
  refine own_go (fun _ k => iremM X0 hx rfl (hb hby at_13) rfl nz3 k) ?_
  show own_Go _ _ _ _ s₁ (mkF m 14 #[.val (.int p_1), .val (.int p_2), .val (.int p_3), .val (.int p_4), .val (.int v2), .unset, .unset, .unset, .unset, .unset, .unset, .unset] [(.int ((p_2 &&& (2147483647 : Int32)) % (3 : Int32)))])
  refine own_go (fun _ k => XS.istore X0.here hx rfl (hb hby at_14) rfl (l' := #[.val (.int p_1), .val (.int p_2), .val (.int p_3), .val (.int p_4), .val (.int v2), .val (.int ((p_2 &&& (2147483647 : Int32)) % (3 : Int32))), .unset, .unset, .unset, .unset, .unset, .unset]) rfl k) ?_
  show own_Go _ _ _ _ s₁ (mkF m 16 #[.val (.int p_1), .val (.int p_2), .val (.int p_3), .val (.int p_4), .val (.int v2), .val (.int ((p_2 &&& (2147483647 : Int32)) % (3 : Int32))), .unset, .unset, .unset, .unset, .unset, .unset] [])
  generalize hdv4 : ((p_2 &&& (2147483647 : Int32)) % (3 : Int32)) = v4
  show own_Go _ _ _ _ s₁ (mkF m 16 #[.val (.int p_1), .val (.int p_2), .val (.int p_3), .val (.int p_4), .val (.int v2), .val (.int v4), .unset, .unset, .unset, .unset, .unset, .unset] [])
  have hh1a : ¬ (v4 < 0) := own_t0_2 p_2 v4 hdv4
  have hh1b : v4 < (3 : Int32) := own_t0_3 p_2 v4 hdv4 hh1a
  refine own_go (fun _ k => XS.iloadN X0.here hx rfl (hb hby at_16) rfl k) ?_
  show own_Go _ _ _ _ s₁ (mkF m 17 #[.val (.int p_1), .val (.int p_2), .val (.int p_3), .val (.int p_4), .val (.int v2), .val (.int v4), .unset, .unset, .unset, .unset, .unset, .unset] [(.int p_3)])
  refine own_go (fun _ k => X0.ldcInt hx hown (mvT hZ (hw _ (List.mem_of_getElem? (i := 0) rfl))) (g := (mkF m 17 #[.val (.int p_1), .val (.int p_2), .val (.int p_3), .val (.int p_4), .val (.int v2), .val (.int v4), .unset, .unset, .unset, .unset, .unset, .unset] [(.int p_3)])) rfl (hb hby at_17) _ k) ?_
  show own_Go _ _ _ _ s₁ (mkF m 19 #[.val (.int p_1), .val (.int p_2), .val (.int p_3), .val (.int p_4), .val (.int v2), .val (.int v4), .unset, .unset, .unset, .unset, .unset, .unset] [(.int (2147483647 : Int32)), (.int p_3)])
  refine own_go (fun _ k => XS.iand X0.here hx rfl (hb hby at_19) rfl k) ?_
  show own_Go _ _ _ _ s₁ (mkF m 20 #[.val (.int p_1), .val (.int p_2), .val (.int p_3), .val (.int p_4), .val (.int v2), .val (.int v4), .unset, .unset, .unset, .unset, .unset, .unset] [(.int (p_3 &&& (2147483647 : Int32)))])
  refine own_go (fun _ k => XS.iconst X0.here hx rfl (hb hby at_20) k) ?_
  show own_Go _ _ _ _ s₁ (mkF m 21 #[.val (.int p_1), .val (.int p_2), .val (.int p_3), .val (.int p_4), .val (.int v2), .val (.int v4), .unset, .unset, .unset, .unset, .unset, .unset] [(.int (3 : Int32)), (.int (p_3 &&& (2147483647 : Int32)))])
  have nz5 : (3 : Int32) ≠ 0 := by decide
  refine own_go (fun _ k => iremM X0 hx rfl (hb hby at_21) rfl nz5 k) ?_
  show own_Go _ _ _ _ s₁ (mkF m 22 #[.val (.int p_1), .val (.int p_2), .val (.int p_3), .val (.int p_4), .val (.int v2), .val (.int v4), .unset, .unset, .unset, .unset, .unset, .unset] [(.int ((p_3 &&& (2147483647 : Int32)) % (3 : Int32)))])
  refine own_go (fun _ k => XS.istore X0.here hx rfl (hb hby at_22) rfl (l' := #[.val (.int p_1), .val (.int p_2), .val (.int p_3), .val (.int p_4), .val (.int v2), .val (.int v4), .val (.int ((p_3 &&& (2147483647 : Int32)) % (3 : Int32))), .unset, .unset, .unset, .unset, .unset]) rfl k) ?_
  show own_Go _ _ _ _ s₁ (mkF m 24 #[.val (.int p_1), .val (.int p_2), .val (.int p_3), .val (.int p_4), .val (.int v2), .val (.int v4), .val (.int ((p_3 &&& (2147483647 : Int32)) % (3 : Int32))), .unset, .unset, .unset, .unset, .unset] [])
  generalize hdv6 : ((p_3 &&& (2147483647 : Int32)) % (3 : Int32)) = v6
  show own_Go _ _ _ _ s₁ (mkF m 24 #[.val (.int p_1), .val (.int p_2), .val (.int p_3), .val (.int p_4), .val (.int v2), .val (.int v4), .val (.int v6), .unset, .unset, .unset, .unset, .unset] [])
  have hh2a : ¬ (v6 < 0) := own_t0_4 p_3 v6 hdv6
  have hh2b : v6 < (3 : Int32) := own_t0_5 p_3 v6 hdv6 hh2a
  refine own_go (fun _ k => XS.iloadN X0.here hx rfl (hb hby at_24) rfl k) ?_
  show own_Go _ _ _ _ s₁ (mkF m 25 #[.val (.int p_1), .val (.int p_2), .val (.int p_3), .val (.int p_4), .val (.int v2), .val (.int v4), .val (.int v6), .unset, .unset, .unset, .unset, .unset] [(.int p_4)])
  refine own_go (fun _ k => XS.bipush X0.here hx rfl (hb hby at_25) k) ?_
  show own_Go _ _ _ _ s₁ (mkF m 27 #[.val (.int p_1), .val (.int p_2), .val (.int p_3), .val (.int p_4), .val (.int v2), .val (.int v4), .val (.int v6), .unset, .unset, .unset, .unset, .unset] [(.int (8 : Int32)), (.int p_4)])
  refine own_go (fun _ k => XS.iushr X0.here hx rfl (hb hby at_27) rfl k) ?_
  show own_Go _ _ _ _ s₁ (mkF m 28 #[.val (.int p_1), .val (.int p_2), .val (.int p_3), .val (.int p_4), .val (.int v2), .val (.int v4), .val (.int v6), .unset, .unset, .unset, .unset, .unset] [(.int ((p_4.toUInt32 >>> ((8 : Int32) &&& 31).toUInt32).toInt32))])
  refine own_go (fun _ k => XS.iconst X0.here hx rfl (hb hby at_28) k) ?_
  show own_Go _ _ _ _ s₁ (mkF m 29 #[.val (.int p_1), .val (.int p_2), .val (.int p_3), .val (.int p_4), .val (.int v2), .val (.int v4), .val (.int v6), .unset, .unset, .unset, .unset, .unset] [(.int (3 : Int32)), (.int ((p_4.toUInt32 >>> ((8 : Int32) &&& 31).toUInt32).toInt32))])
  have nz7 : (3 : Int32) ≠ 0 := by decide
  refine own_go (fun _ k => iremM X0 hx rfl (hb hby at_29) rfl nz7 k) ?_
  show own_Go _ _ _ _ s₁ (mkF m 30 #[.val (.int p_1), .val (.int p_2), .val (.int p_3), .val (.int p_4), .val (.int v2), .val (.int v4), .val (.int v6), .unset, .unset, .unset, .unset, .unset] [(.int (((p_4.toUInt32 >>> ((8 : Int32) &&& 31).toUInt32).toInt32) % (3 : Int32)))])
  refine own_go (fun _ k => XS.istore X0.here hx rfl (hb hby at_30) rfl (l' := #[.val (.int p_1), .val (.int p_2), .val (.int p_3), .val (.int p_4), .val (.int v2), .val (.int v4), .val (.int v6), .val (.int (((p_4.toUInt32 >>> ((8 : Int32) &&& 31).toUInt32).toInt32) % (3 : Int32))), .unset, .unset, .unset, .unset]) rfl k) ?_
  show own_Go _ _ _ _ s₁ (mkF m 32 #[.val (.int p_1), .val (.int p_2), .val (.int p_3), .val (.int p_4), .val (.int v2), .val (.int v4), .val (.int v6), .val (.int (((p_4.toUInt32 >>> ((8 : Int32) &&& 31).toUInt32).toInt32) % (3 : Int32))), .unset, .unset, .unset, .unset] [])
  generalize hdv8 : (((p_4.toUInt32 >>> ((8 : Int32) &&& 31).toUInt32).toInt32) % (3 : Int32)) = v8
  show own_Go _ _ _ _ s₁ (mkF m 32 #[.val (.int p_1), .val (.int p_2), .val (.int p_3), .val (.int p_4), .val (.int v2), .val (.int v4), .val (.int v6), .val (.int v8), .unset, .unset, .unset, .unset] [])
  have hva : ¬ (v8 < 0) := own_t0_6 p_4 v8 hdv8
  have hvb : v8 < (3 : Int32) := own_t0_7 p_4 v8 hdv8 hva
  refine own_go (fun _ k => XS.iloadN X0.here hx rfl (hb hby at_32) rfl k) ?_
  show own_Go _ _ _ _ s₁ (mkF m 33 #[.val (.int p_1), .val (.int p_2), .val (.int p_3), .val (.int p_4), .val (.int v2), .val (.int v4), .val (.int v6), .val (.int v8), .unset, .unset, .unset, .unset] [(.int p_4)])
  refine own_go (fun _ k => XS.iconst X0.here hx rfl (hb hby at_33) k) ?_
  show own_Go _ _ _ _ s₁ (mkF m 34 #[.val (.int p_1), .val (.int p_2), .val (.int p_3), .val (.int p_4), .val (.int v2), .val (.int v4), .val (.int v6), .val (.int v8), .unset, .unset, .unset, .unset] [(.int (1 : Int32)), (.int p_4)])
  refine own_go (fun _ k => XS.iand X0.here hx rfl (hb hby at_34) rfl k) ?_
  show own_Go _ _ _ _ s₁ (mkF m 35 #[.val (.int p_1), .val (.int p_2), .val (.int p_3), .val (.int p_4), .val (.int v2), .val (.int v4), .val (.int v6), .val (.int v8), .unset, .unset, .unset, .unset] [(.int (p_4 &&& (1 : Int32)))])
  by_cases hc9 : (p_4 &&& (1 : Int32)) = 0
  · refine own_go (fun _ k => XS.ifYes X0.here hx rfl (pc0 := 35) (pc' := 49) rfl (hb hby at_35) rfl (Jvm.Free.XT.i0_eq_t hc9) (by decide) (by decide) k) ?_
    show own_Go _ _ _ _ s₁ (mkF m 49 #[.val (.int p_1), .val (.int p_2), .val (.int p_3), .val (.int p_4), .val (.int v2), .val (.int v4), .val (.int v6), .val (.int v8), .unset, .unset, .unset, .unset] [])
    refine own_go (fun _ k => XS.iconst X0.here hx rfl (hb hby at_49) k) ?_
    show own_Go _ _ _ _ s₁ (mkF m 50 #[.val (.int p_1), .val (.int p_2), .val (.int p_3), .val (.int p_4), .val (.int v2), .val (.int v4), .val (.int v6), .val (.int v8), .unset, .unset, .unset, .unset] [(.int (0 : Int32))])
    obtain ⟨T10, h10, k10, X10, e10, E10, A10, st10⟩ := newP X0 hx hZ (hw _ (List.mem_of_getElem? (i := 1) rfl)) e0 (g := (mkF m 50 #[.val (.int p_1), .val (.int p_2), .val (.int p_3), .val (.int p_4), .val (.int v2), .val (.int v4), .val (.int v6), .val (.int v8), .unset, .unset, .unset, .unset] [(.int (0 : Int32))])) rfl (hb hby at_50) rfl (by decide) (cap := 0) (by decide) (by decide) (by decide) (by decide)
    obtain ⟨b10, g10⟩ : ∃ z, z = h0.size := ⟨_, rfl⟩
    rw [← g10] at A10 st10
    have z11 := E10.1
    have lt_b10 := own_lt A10.lt
    have V_b10 : own_AV Z h10 b10 .int (0 : Int32) (fun _ => (.int (0 : Int32))) := own_AV.new A10 (by decide)
    refine own_go (fun _ k => st10 _ k) ?_
    show own_Go _ _ _ _ T10 (mkF m 52 #[.val (.int p_1), .val (.int p_2), .val (.int p_3), .val (.int p_4), .val (.int v2), .val (.int v4), .val (.int v6), .val (.int v8), .unset, .unset, .unset, .unset] [(.ref b10)])
    refine own_go (fun _ k => XS.astore X10.here hx rfl (hb hby at_52) rfl rfl (l' := #[.val (.int p_1), .val (.int p_2), .val (.int p_3), .val (.int p_4), .val (.int v2), .val (.int v4), .val (.int v6), .val (.int v8), .val (.ref b10), .unset, .unset, .unset]) rfl k) ?_
    show own_Go _ _ _ _ T10 (mkF m 54 #[.val (.int p_1), .val (.int p_2), .val (.int p_3), .val (.int p_4), .val (.int v2), .val (.int v4), .val (.int v6), .val (.int v8), .val (.ref b10), .unset, .unset, .unset] [])
    refine own_go (fun _ k => XS.iloadN X10.here hx rfl (hb hby at_54) rfl k) ?_
    show own_Go _ _ _ _ T10 (mkF m 55 #[.val (.int p_1), .val (.int p_2), .val (.int p_3), .val (.int p_4), .val (.int v2), .val (.int v4), .val (.int v6), .val (.int v8), .val (.ref b10), .unset, .unset, .unset] [(.int p_4)])
    refine own_go (fun _ k => XS.iconst X10.here hx rfl (hb hby at_55) k) ?_
    show own_Go _ _ _ _ T10 (mkF m 56 #[.val (.int p_1), .val (.int p_2), .val (.int p_3), .val (.int p_4), .val (.int v2), .val (.int v4), .val (.int v6), .val (.int v8), .val (.ref b10), .unset, .unset, .unset] [(.int (2 : Int32)), (.int p_4)])
    refine own_go (fun _ k => XS.iand X10.here hx rfl (hb hby at_56) rfl k) ?_
    show own_Go _ _ _ _ T10 (mkF m 57 #[.val (.int p_1), .val (.int p_2), .val (.int p_3), .val (.int p_4), .val (.int v2), .val (.int v4), .val (.int v6), .val (.int v8), .val (.ref b10), .unset, .unset, .unset] [(.int (p_4 &&& (2 : Int32)))])
    by_cases hc12 : (p_4 &&& (2 : Int32)) = 0
    · refine own_go (fun _ k => XS.ifYes X10.here hx rfl (pc0 := 57) (pc' := 76) rfl (hb hby at_57) rfl (Jvm.Free.XT.i0_eq_t hc12) (by decide) (by decide) k) ?_
      show own_Go _ _ _ _ T10 (mkF m 76 #[.val (.int p_1), .val (.int p_2), .val (.int p_3), .val (.int p_4), .val (.int v2), .val (.int v4), .val (.int v6), .val (.int v8), .val (.ref b10), .unset, .unset, .unset] [])
      refine own_go (fun _ k => XS.iconst X10.here hx rfl (hb hby at_76) k) ?_
      show own_Go _ _ _ _ T10 (mkF m 77 #[.val (.int p_1), .val (.int p_2), .val (.int p_3), .val (.int p_4), .val (.int v2), .val (.int v4), .val (.int v6), .val (.int v8), .val (.ref b10), .unset, .unset, .unset] [(.int (0 : Int32))])
      obtain ⟨T13, h13, k13, X13, e13, E13, A13, st13⟩ := newP X10 hx hZ (hw _ (List.mem_of_getElem? (i := 1) rfl)) e10 (g := (mkF m 77 #[.val (.int p_1), .val (.int p_2), .val (.int p_3), .val (.int p_4), .val (.int v2), .val (.int v4), .val (.int v6), .val (.int v8), .val (.ref b10), .unset, .unset, .unset] [(.int (0 : Int32))])) rfl (hb hby at_77) rfl (by decide) (cap := 0) (by decide) (by decide) (by decide) (by decide)
      obtain ⟨b13, g13⟩ : ∃ z, z = h10.size := ⟨_, rfl⟩
      rw [← g13] at A13 st13
      have z14 := E13.1
      have lt_b13 := own_lt A13.lt
      have V_b13 : own_AV Z h13 b13 .int (0 : Int32) (fun _ => (.int (0 : Int32))) := own_AV.new A13 (by decide)
      refine own_go (fun _ k => st13 _ k) ?_
      show own_Go _ _ _ _ T13 (mkF m 79 #[.val (.int p_1), .val (.int p_2), .val (.int p_3), .val (.int p_4), .val (.int v2), .val (.int v4), .val (.int v6), .val (.int v8), .val (.ref b10), .unset, .unset, .unset] [(.ref b13)])
      refine own_go (fun _ k => XS.astore X13.here hx rfl (hb hby at_79) rfl rfl (l' := #[.val (.int p_1), .val (.int p_2), .val (.int p_3), .val (.int p_4), .val (.int v2), .val (.int v4), .val (.int v6), .val (.int v8), .val (.ref b10), .val (.ref b13), .unset, .unset]) rfl k) ?_
      show own_Go _ _ _ _ T13 (mkF m 81 #[.val (.int p_1), .val (.int p_2), .val (.int p_3), .val (.int p_4), .val (.int v2), .val (.int v4), .val (.int v6), .val (.int v8), .val (.ref b10), .val (.ref b13), .unset, .unset] [])
      refine own_go (fun _ k => XS.iloadN X13.here hx rfl (hb hby at_81) rfl k) ?_
      show own_Go _ _ _ _ T13 (mkF m 82 #[.val (.int p_1), .val (.int p_2), .val (.int p_3), .val (.int p_4), .val (.int v2), .val (.int v4), .val (.int v6), .val (.int v8), .val (.ref b10), .val (.ref b13), .unset, .unset] [(.int p_4)])
      refine own_go (fun _ k => XS.iconst X13.here hx rfl (hb hby at_82) k) ?_
      show own_Go _ _ _ _ T13 (mkF m 83 #[.val (.int p_1), .val (.int p_2), .val (.int p_3), .val (.int p_4), .val (.int v2), .val (.int v4), .val (.int v6), .val (.int v8), .val (.ref b10), .val (.ref b13), .unset, .unset] [(.int (4 : Int32)), (.int p_4)])
      refine own_go (fun _ k => XS.iand X13.here hx rfl (hb hby at_83) rfl k) ?_
      show own_Go _ _ _ _ T13 (mkF m 84 #[.val (.int p_1), .val (.int p_2), .val (.int p_3), .val (.int p_4), .val (.int v2), .val (.int v4), .val (.int v6), .val (.int v8), .val (.ref b10), .val (.ref b13), .unset, .unset] [(.int (p_4 &&& (4 : Int32)))])
      by_cases hc15 : (p_4 &&& (4 : Int32)) = 0
      · refine own_go (fun _ k => XS.ifYes X13.here hx rfl (pc0 := 84) (pc' := 108) rfl (hb hby at_84) rfl (Jvm.Free.XT.i0_eq_t hc15) (by decide) (by decide) k) ?_
        show own_Go _ _ _ _ T13 (mkF m 108 #[.val (.int p_1), .val (.int p_2), .val (.int p_3), .val (.int p_4), .val (.int v2), .val (.int v4), .val (.int v6), .val (.int v8), .val (.ref b10), .val (.ref b13), .unset, .unset] [])
        refine own_go (fun _ k => XS.iconst X13.here hx rfl (hb hby at_108) k) ?_
        show own_Go _ _ _ _ T13 (mkF m 109 #[.val (.int p_1), .val (.int p_2), .val (.int p_3), .val (.int p_4), .val (.int v2), .val (.int v4), .val (.int v6), .val (.int v8), .val (.ref b10), .val (.ref b13), .unset, .unset] [(.int (0 : Int32))])
        obtain ⟨T16, h16, k16, X16, e16, E16, A16, st16⟩ := newP X13 hx hZ (hw _ (List.mem_of_getElem? (i := 1) rfl)) e13 (g := (mkF m 109 #[.val (.int p_1), .val (.int p_2), .val (.int p_3), .val (.int p_4), .val (.int v2), .val (.int v4), .val (.int v6), .val (.int v8), .val (.ref b10), .val (.ref b13), .unset, .unset] [(.int (0 : Int32))])) rfl (hb hby at_109) rfl (by decide) (cap := 0) (by decide) (by decide) (by decide) (by decide)
        obtain ⟨b16, g16⟩ : ∃ z, z = h13.size := ⟨_, rfl⟩
        rw [← g16] at A16 st16
        have z17 := E16.1
        have lt_b16 := own_lt A16.lt
        have V_b16 : own_AV Z h16 b16 .int (0 : Int32) (fun _ => (.int (0 : Int32))) := own_AV.new A16 (by decide)
        refine own_go (fun _ k => st16 _ k) ?_
        show own_Go _ _ _ _ T16 (mkF m 111 #[.val (.int p_1), .val (.int p_2), .val (.int p_3), .val (.int p_4), .val (.int v2), .val (.int v4), .val (.int v6), .val (.int v8), .val (.ref b10), .val (.ref b13), .unset, .unset] [(.ref b16)])
        refine own_go (fun _ k => XS.astore X16.here hx rfl (hb hby at_111) rfl rfl (l' := #[.val (.int p_1), .val (.int p_2), .val (.int p_3), .val (.int p_4), .val (.int v2), .val (.int v4), .val (.int v6), .val (.int v8), .val (.ref b10), .val (.ref b13), .val (.ref b16), .unset]) rfl k) ?_
        show own_Go _ _ _ _ T16 (mkF m 113 #[.val (.int p_1), .val (.int p_2), .val (.int p_3), .val (.int p_4), .val (.int v2), .val (.int v4), .val (.int v6), .val (.int v8), .val (.ref b10), .val (.ref b13), .val (.ref b16), .unset] [])
        obtain ⟨T18, h18, X18, e18, E18, A18, D18, Y18, st18⟩ := newO X16 hx hZ hown (hw _ (List.mem_of_getElem? (i := 2) rfl)) (hw _ (List.mem_of_getElem? (i := 3) rfl)) (hw _ (List.mem_of_getElem? (i := 4) rfl)) e16 (g := (mkF m 113 #[.val (.int p_1), .val (.int p_2), .val (.int p_3), .val (.int p_4), .val (.int v2), .val (.int v4), .val (.int v6), .val (.int v8), .val (.ref b10), .val (.ref b13), .val (.ref b16), .unset] [])) rfl (hb hby at_113) (by decide) (by decide)
        obtain ⟨b18, g18⟩ : ∃ z, z = h16.size := ⟨_, rfl⟩
        rw [← g18] at A18 D18 Y18 st18
        have z19 := E18.1
        have lt_b18 := own_lt A18.lt
        have F_heads_b18 : Fld Z h18 b18 "com/example/kalchas/kalchas/propositional/HornClauses" "heads" "[I" .null := D18 (Or.inl (hw _ (List.mem_of_getElem? (i := 12) rfl))) (ty := (.array .int)) (by decide)
        have F_bodyStarts_b18 : Fld Z h18 b18 "com/example/kalchas/kalchas/propositional/HornClauses" "bodyStarts" "[I" .null := D18 (Or.inl (hw _ (List.mem_of_getElem? (i := 14) rfl))) (ty := (.array .int)) (by decide)
        have F_bodies_b18 : Fld Z h18 b18 "com/example/kalchas/kalchas/propositional/HornClauses" "bodies" "[I" .null := D18 (Or.inl (hw _ (List.mem_of_getElem? (i := 16) rfl))) (ty := (.array .int)) (by decide)
        have F_occurrences_b18 : Fld Z h18 b18 "com/example/kalchas/kalchas/propositional/HornClauses" "occurrences" "[I" .null := D18 (Or.inl (hw _ (List.mem_of_getElem? (i := 23) rfl))) (ty := (.array .int)) (by decide)
        have F_variableCount_b18 : Fld Z h18 b18 "com/example/kalchas/kalchas/propositional/HornClauses" "variableCount" "I" (.int (0 : Int32)) := D18 (Or.inl (hw _ (List.mem_of_getElem? (i := 25) rfl))) (ty := .int) (by decide)
        have F_clauseCount_b18 : Fld Z h18 b18 "com/example/kalchas/kalchas/propositional/HornClauses" "clauseCount" "I" (.int (0 : Int32)) := D18 (Or.inl (hw _ (List.mem_of_getElem? (i := 48) rfl))) (ty := .int) (by decide)
        refine own_go (fun _ k => st18 _ k) ?_
        show own_Go _ _ _ _ T18 (mkF m 116 #[.val (.int p_1), .val (.int p_2), .val (.int p_3), .val (.int p_4), .val (.int v2), .val (.int v4), .val (.int v6), .val (.int v8), .val (.ref b10), .val (.ref b13), .val (.ref b16), .unset] [(.ref b18)])
        refine own_go (fun _ k => XS.dup X18.here hx rfl (hb hby at_116) rfl rfl k) ?_
        show own_Go _ _ _ _ T18 (mkF m 117 #[.val (.int p_1), .val (.int p_2), .val (.int p_3), .val (.int p_4), .val (.int v2), .val (.int v4), .val (.int v6), .val (.int v8), .val (.ref b10), .val (.ref b13), .val (.ref b16), .unset] [(.ref b18), (.ref b18)])
        obtain ⟨_, _, ⟨T20, L20, k20, n20⟩, -, X20, ⟨Lc20, hQ20, l20, y20, z20⟩, st20⟩ := X18.specialBack hx (y := (⟨"com/example/kalchas/kalchas/propositional/HornClauses", "<init>", "()V"⟩ : MethodName)) rfl hown (mvT hZ (hw _ (List.mem_of_getElem? (i := 5) rfl))) (mvT hZ (hw _ (List.mem_of_getElem? (i := 6) rfl))) (mvT hZ (hw _ (List.mem_of_getElem? (i := 7) rfl))) (by decide) (backOf (W := 1) (own_rm1 l Z a0 hw [] b18 .null .null .null .null (0 : Int32) (0 : Int32) h18 n0 (by omega) A18 F_heads_b18 F_bodyStarts_b18 F_bodies_b18 F_occurrences_b18 F_variableCount_b18 F_clauseCount_b18 (by omega)) hZ (hw _ (List.mem_of_getElem? (i := 7) rfl)) (hw _ (List.mem_of_getElem? (i := 4) rfl)) (by decide) (by decide)) (g := (mkF m 117 #[.val (.int p_1), .val (.int p_2), .val (.int p_3), .val (.int p_4), .val (.int v2), .val (.int v4), .val (.int v6), .val (.int v8), .val (.ref b10), .val (.ref b13), .val (.ref b16), .unset] [(.ref b18), (.ref b18)])) rfl (by rw [hml]; rfl) (Steps.refl _) (a := b18) (argsL := []) (rest := [(.ref b18)]) (lenOf own_pd2 rfl) rfl (by show 2 * 0 + _ ≤ _; exact Nat.le_of_eq rfl) (hb hby at_117) (fun _ _ => ⟨rfl, e18, (by decide : 4 + 3 ≤ _), (by decide : 9 + 193 ≤ _)⟩)
        dsimp only [Pt.U, Pt.locs, Pt.cells, Pt.slots] at X20 l20 y20 z20 st20 hQ20
        have y20 : k20 = 7 := y20
        have z20 : n20 = 202 := z20
        obtain ⟨x_21, x_22, x_23, rfl, N20q, K20q, f24, f25, f26, f27, f28, f29, f30, f31, f32, f33, f34, f35, f36, f37⟩ := hQ20
        have N20 : Fr n0 L20 := by rw [l20]; exact Fr.app N0 N20q
        have z38 := K20q.1
        have z39 := own_lt f24.lt
        have z40 := own_lt f25.lt
        have z41 := own_lt f26.lt
        have z42 := own_lt f27.lt
        have z43 := own_lt f28.lt
        have z44 := own_lt f29.lt
        have z45 := own_lt f30.lt
        have z46 := own_lt f31.lt
        have z47 := own_lt f32.lt
        have z48 := own_lt f33.lt
        simp only [own_lts, and_true] at f37
        refine own_go (fun _ k => st20.trans k) ?_
        show own_Go _ _ _ _ T20 (mkF m 120 #[.val (.int p_1), .val (.int p_2), .val (.int p_3), .val (.int p_4), .val (.int v2), .val (.int v4), .val (.int v6), .val (.int v8), .val (.ref b10), .val (.ref b13), .val (.ref b16), .unset] [(.ref b18)])
        refine own_go (fun _ k => XS.astore X20.here hx rfl (hb hby at_120) rfl rfl (l' := #[.val (.int p_1), .val (.int p_2), .val (.int p_3), .val (.int p_4), .val (.int v2), .val (.int v4), .val (.int v6), .val (.int v8), .val (.ref b10), .val (.ref b13), .val (.ref b16), .val (.ref b18)]) rfl k) ?_
        show own_Go _ _ _ _ T20 (mkF m 122 #[.val (.int p_1), .val (.int p_2), .val (.int p_3), .val (.int p_4), .val (.int v2), .val (.int v4), .val (.int v6), .val (.int v8), .val (.ref b10), .val (.ref b13), .val (.ref b16), .val (.ref b18)] [])
        refine own_go (fun _ k => XS.aload X20.here hx rfl (hb hby at_122) rfl rfl k) ?_
        show own_Go _ _ _ _ T20 (mkF m 124 #[.val (.int p_1), .val (.int p_2), .val (.int p_3), .val (.int p_4), .val (.int v2), .val (.int v4), .val (.int v6), .val (.int v8), .val (.ref b10), .val (.ref b13), .val (.ref b16), .val (.ref b18)] [(.ref b18)])
        obtain ⟨cq49, kq49, q49a, q49b, q49c⟩ := isOf hZ rfl f24
        obtain ⟨_, _, ⟨T49, L49, k49, n49⟩, -, X49, ⟨Lc49, hQ49, l49, y49, z49⟩, st49⟩ := X20.virtualBack hx (y := (⟨"com/example/kalchas/kalchas/propositional/HornClauses", "newVariable", "()I"⟩ : MethodName)) (z := (⟨"com/example/kalchas/kalchas/propositional/HornClauses", "newVariable", "()I"⟩ : MethodName)) hown (mvT hZ (hw _ (List.mem_of_getElem? (i := 17) rfl))) (mvT hZ (hw _ (List.mem_of_getElem? (i := 18) rfl))) (notFace_of_selects (args := #[]) (mvT hZ (hw _ (List.mem_of_getElem? (i := 20) rfl)))) (mvT hZ (hw _ (List.mem_of_getElem? (i := 20) rfl))) (mvT hZ (hw _ (List.mem_of_getElem? (i := 19) rfl))) (by decide) (backOf (W := 0) (own_rm3 l Z a0 hw [] b18 (.ref x_21) (.ref x_22) (.ref x_23) .null (0 : Int32) (0 : Int32) T20.heap n0 (by omega) f24 f25 f26 f27 f28 f29 f30 (by omega)) hZ (hw _ (List.mem_of_getElem? (i := 21) rfl)) (hw _ (List.mem_of_getElem? (i := 4) rfl)) (by decide) (by decide)) q49a q49c (g := (mkF m 124 #[.val (.int p_1), .val (.int p_2), .val (.int p_3), .val (.int p_4), .val (.int v2), .val (.int v4), .val (.int v6), .val (.int v8), .val (.ref b10), .val (.ref b13), .val (.ref b16), .val (.ref b18)] [(.ref b18)])) rfl (by rw [hml]; rfl) (Steps.refl _) (argsL := []) (rest := []) (lenOf own_pd3 rfl) rfl (by show 2 * 0 + _ ≤ _; exact Nat.le_of_eq rfl) (hb hby at_124) (fun _ _ => ⟨rfl, rfl, (by show k20 + _ ≤ _; rw [y20]; decide), (by show n20 + _ ≤ _; rw [z20]; decide)⟩)
        dsimp only [Pt.U, Pt.locs, Pt.cells, Pt.slots] at X49 l49 y49 z49 st49 hQ49
        have y49 : k49 = 7 := own_addeq y49 (congrArg (fun q => q) y20) rfl
        have z49 : n49 = 202 := own_addeq z49 (congrArg (fun q => q) z20) rfl
        obtain ⟨rfl, N49q, K49q, f50, f51, f52, f53, f54, f55, f56⟩ := hQ49
        have N49 : Fr n0 L49 := by rw [l49]; exact Fr.app N20 N49q
        have z57 := K49q.1
        have z58 := own_lt f50.lt
        have z59 := own_lt f51.lt
        have z60 := own_lt f52.lt
        have z61 := own_lt f53.lt
        have z62 := own_lt f54.lt
        have f55 : Fld Z T49.heap b18 "com/example/kalchas/kalchas/propositional/HornClauses" "variableCount" "I" (.int (1 : Int32)) := f55
        have z63 := own_lt f55.lt
        have z64 := own_lt f56.lt
        refine own_go (fun _ k => st49.trans k) ?_
        show own_Go _ _ _ _ T49 (mkF m 127 #[.val (.int p_1), .val (.int p_2), .val (.int p_3), .val (.int p_4), .val (.int v2), .val (.int v4), .val (.int v6), .val (.int v8), .val (.ref b10), .val (.ref b13), .val (.ref b16), .val (.ref b18)] [(.int (0 : Int32))])
        refine own_go (fun _ k => XS.pop X49.here hx rfl (hb hby at_127) rfl rfl k) ?_
        show own_Go _ _ _ _ T49 (mkF m 128 #[.val (.int p_1), .val (.int p_2), .val (.int p_3), .val (.int p_4), .val (.int v2), .val (.int v4), .val (.int v6), .val (.int v8), .val (.ref b10), .val (.ref b13), .val (.ref b16), .val (.ref b18)] [])
        refine own_go (fun _ k => XS.aload X49.here hx rfl (hb hby at_128) rfl rfl k) ?_
        show own_Go _ _ _ _ T49 (mkF m 130 #[.val (.int p_1), .val (.int p_2), .val (.int p_3), .val (.int p_4), .val (.int v2), .val (.int v4), .val (.int v6), .val (.int v8), .val (.ref b10), .val (.ref b13), .val (.ref b16), .val (.ref b18)] [(.ref b18)])
        obtain ⟨cq65, kq65, q65a, q65b, q65c⟩ := isOf hZ rfl f50
        obtain ⟨_, _, ⟨T65, L65, k65, n65⟩, -, X65, ⟨Lc65, hQ65, l65, y65, z65⟩, st65⟩ := X49.virtualBack hx (y := (⟨"com/example/kalchas/kalchas/propositional/HornClauses", "newVariable", "()I"⟩ : MethodName)) (z := (⟨"com/example/kalchas/kalchas/propositional/HornClauses", "newVariable", "()I"⟩ : MethodName)) hown (mvT hZ (hw _ (List.mem_of_getElem? (i := 17) rfl))) (mvT hZ (hw _ (List.mem_of_getElem? (i := 18) rfl))) (notFace_of_selects (args := #[]) (mvT hZ (hw _ (List.mem_of_getElem? (i := 20) rfl)))) (mvT hZ (hw _ (List.mem_of_getElem? (i := 20) rfl))) (mvT hZ (hw _ (List.mem_of_getElem? (i := 19) rfl))) (by decide) (backOf (W := 0) (own_rm3 l Z a0 hw [] b18 (.ref x_21) (.ref x_22) (.ref x_23) .null (1 : Int32) (0 : Int32) T49.heap n0 (by omega) f50 f51 f52 f53 f54 f55 f56 (by omega)) hZ (hw _ (List.mem_of_getElem? (i := 21) rfl)) (hw _ (List.mem_of_getElem? (i := 4) rfl)) (by decide) (by decide)) q65a q65c (g := (mkF m 130 #[.val (.int p_1), .val (.int p_2), .val (.int p_3), .val (.int p_4), .val (.int v2), .val (.int v4), .val (.int v6), .val (.int v8), .val (.ref b10), .val (.ref b13), .val (.ref b16), .val (.ref b18)] [(.ref b18)])) rfl (by rw [hml]; rfl) (Steps.refl _) (argsL := []) (rest := []) (lenOf own_pd3 rfl) rfl (by show 2 * 0 + _ ≤ _; exact Nat.le_of_eq rfl) (hb hby at_130) (fun _ _ => ⟨rfl, rfl, (by show k49 + _ ≤ _; rw [y49]; decide), (by show n49 + _ ≤ _; rw [z49]; decide)⟩)
        dsimp only [Pt.U, Pt.locs, Pt.cells, Pt.slots] at X65 l65 y65 z65 st65 hQ65
        have y65 : k65 = 7 := own_addeq y65 (congrArg (fun q => q) y49) rfl
        have z65 : n65 = 202 := own_addeq z65 (congrArg (fun q => q) z49) rfl
        obtain ⟨rfl, N65q, K65q, f66, f67, f68, f69, f70, f71, f72⟩ := hQ65
        have N65 : Fr n0 L65 := by rw [l65]; exact Fr.app N49 N65q
        have z73 := K65q.1
        have z74 := own_lt f66.lt
        have z75 := own_lt f67.lt
        have z76 := own_lt f68.lt
        have z77 := own_lt f69.lt
        have z78 := own_lt f70.lt
        have f71 : Fld Z T65.heap b18 "com/example/kalchas/kalchas/propositional/HornClauses" "variableCount" "I" (.int (2 : Int32)) := f71
        have z79 := own_lt f71.lt
        have z80 := own_lt f72.lt
        refine own_go (fun _ k => st65.trans k) ?_
        show own_Go _ _ _ _ T65 (mkF m 133 #[.val (.int p_1), .val (.int p_2), .val (.int p_3), .val (.int p_4), .val (.int v2), .val (.int v4), .val (.int v6), .val (.int v8), .val (.ref b10), .val (.ref b13), .val (.ref b16), .val (.ref b18)] [(.int (1 : Int32))])
        refine own_go (fun _ k => XS.pop X65.here hx rfl (hb hby at_133) rfl rfl k) ?_
        show own_Go _ _ _ _ T65 (mkF m 134 #[.val (.int p_1), .val (.int p_2), .val (.int p_3), .val (.int p_4), .val (.int v2), .val (.int v4), .val (.int v6), .val (.int v8), .val (.ref b10), .val (.ref b13), .val (.ref b16), .val (.ref b18)] [])
        refine own_go (fun _ k => XS.aload X65.here hx rfl (hb hby at_134) rfl rfl k) ?_
        show own_Go _ _ _ _ T65 (mkF m 136 #[.val (.int p_1), .val (.int p_2), .val (.int p_3), .val (.int p_4), .val (.int v2), .val (.int v4), .val (.int v6), .val (.int v8), .val (.ref b10), .val (.ref b13), .val (.ref b16), .val (.ref b18)] [(.ref b18)])
        obtain ⟨cq81, kq81, q81a, q81b, q81c⟩ := isOf hZ rfl f66
        obtain ⟨_, _, ⟨T81, L81, k81, n81⟩, -, X81, ⟨Lc81, hQ81, l81, y81, z81⟩, st81⟩ := X65.virtualBack hx (y := (⟨"com/example/kalchas/kalchas/propositional/HornClauses", "newVariable", "()I"⟩ : MethodName)) (z := (⟨"com/example/kalchas/kalchas/propositional/HornClauses", "newVariable", "()I"⟩ : MethodName)) hown (mvT hZ (hw _ (List.mem_of_getElem? (i := 17) rfl))) (mvT hZ (hw _ (List.mem_of_getElem? (i := 18) rfl))) (notFace_of_selects (args := #[]) (mvT hZ (hw _ (List.mem_of_getElem? (i := 20) rfl)))) (mvT hZ (hw _ (List.mem_of_getElem? (i := 20) rfl))) (mvT hZ (hw _ (List.mem_of_getElem? (i := 19) rfl))) (by decide) (backOf (W := 0) (own_rm3 l Z a0 hw [] b18 (.ref x_21) (.ref x_22) (.ref x_23) .null (2 : Int32) (0 : Int32) T65.heap n0 (by omega) f66 f67 f68 f69 f70 f71 f72 (by omega)) hZ (hw _ (List.mem_of_getElem? (i := 21) rfl)) (hw _ (List.mem_of_getElem? (i := 4) rfl)) (by decide) (by decide)) q81a q81c (g := (mkF m 136 #[.val (.int p_1), .val (.int p_2), .val (.int p_3), .val (.int p_4), .val (.int v2), .val (.int v4), .val (.int v6), .val (.int v8), .val (.ref b10), .val (.ref b13), .val (.ref b16), .val (.ref b18)] [(.ref b18)])) rfl (by rw [hml]; rfl) (Steps.refl _) (argsL := []) (rest := []) (lenOf own_pd3 rfl) rfl (by show 2 * 0 + _ ≤ _; exact Nat.le_of_eq rfl) (hb hby at_136) (fun _ _ => ⟨rfl, rfl, (by show k65 + _ ≤ _; rw [y65]; decide), (by show n65 + _ ≤ _; rw [z65]; decide)⟩)
        dsimp only [Pt.U, Pt.locs, Pt.cells, Pt.slots] at X81 l81 y81 z81 st81 hQ81
        have y81 : k81 = 7 := own_addeq y81 (congrArg (fun q => q) y65) rfl
        have z81 : n81 = 202 := own_addeq z81 (congrArg (fun q => q) z65) rfl
        obtain ⟨rfl, N81q, K81q, f82, f83, f84, f85, f86, f87, f88⟩ := hQ81
        have N81 : Fr n0 L81 := by rw [l81]; exact Fr.app N65 N81q
        have z89 := K81q.1
        have z90 := own_lt f82.lt
        have z91 := own_lt f83.lt
        have z92 := own_lt f84.lt
        have z93 := own_lt f85.lt
        have z94 := own_lt f86.lt
        have f87 : Fld Z T81.heap b18 "com/example/kalchas/kalchas/propositional/HornClauses" "variableCount" "I" (.int (3 : Int32)) := f87
        have z95 := own_lt f87.lt
        have z96 := own_lt f88.lt
        refine own_go (fun _ k => st81.trans k) ?_
        show own_Go _ _ _ _ T81 (mkF m 139 #[.val (.int p_1), .val (.int p_2), .val (.int p_3), .val (.int p_4), .val (.int v2), .val (.int v4), .val (.int v6), .val (.int v8), .val (.ref b10), .val (.ref b13), .val (.ref b16), .val (.ref b18)] [(.int (2 : Int32))])
        refine own_go (fun _ k => XS.pop X81.here hx rfl (hb hby at_139) rfl rfl k) ?_
        show own_Go _ _ _ _ T81 (mkF m 140 #[.val (.int p_1), .val (.int p_2), .val (.int p_3), .val (.int p_4), .val (.int v2), .val (.int v4), .val (.int v6), .val (.int v8), .val (.ref b10), .val (.ref b13), .val (.ref b16), .val (.ref b18)] [])
        refine own_go (fun _ k => XS.aload X81.here hx rfl (hb hby at_140) rfl rfl k) ?_
        show own_Go _ _ _ _ T81 (mkF m 142 #[.val (.int p_1), .val (.int p_2), .val (.int p_3), .val (.int p_4), .val (.int v2), .val (.int v4), .val (.int v6), .val (.int v8), .val (.ref b10), .val (.ref b13), .val (.ref b16), .val (.ref b18)] [(.ref b18)])
        refine own_go (fun _ k => XS.iload X81.here hx rfl (hb hby at_142) rfl k) ?_
        show own_Go _ _ _ _ T81 (mkF m 144 #[.val (.int p_1), .val (.int p_2), .val (.int p_3), .val (.int p_4), .val (.int v2), .val (.int v4), .val (.int v6), .val (.int v8), .val (.ref b10), .val (.ref b13), .val (.ref b16), .val (.ref b18)] [(.int v2), (.ref b18)])
        refine own_go (fun _ k => XS.aload X81.here hx rfl (hb hby at_144) rfl rfl k) ?_
        show own_Go _ _ _ _ T81 (mkF m 146 #[.val (.int p_1), .val (.int p_2), .val (.int p_3), .val (.int p_4), .val (.int v2), .val (.int v4), .val (.int v6), .val (.int v8), .val (.ref b10), .val (.ref b13), .val (.ref b16), .val (.ref b18)] [(.ref b10), (.int v2), (.ref b18)])
        have f97 : own_AV Z T81.heap x_21 .int (64 : Int32) (fun _ => (.int (0 : Int32))) := (((f31.keep K49q (ninS (own_ne (by omega)) nin0)).keep K65q (ninS (own_ne (by omega)) nin0)).keep K81q (ninS (own_ne (by omega)) nin0))
        have f98 : own_AV Z T81.heap x_22 .int (65 : Int32) (fun _ => (.int (0 : Int32))) := (((f32.keep K49q (ninS (own_ne (by omega)) nin0)).keep K65q (ninS (own_ne (by omega)) nin0)).keep K81q (ninS (own_ne (by omega)) nin0))
        have f99 : own_AV Z T81.heap x_23 .int (64 : Int32) (fun _ => (.int (0 : Int32))) := (((f33.keep K49q (ninS (own_ne (by omega)) nin0)).keep K65q (ninS (own_ne (by omega)) nin0)).keep K81q (ninS (own_ne (by omega)) nin0))
        have f100 : own_AV Z T81.heap b10 .int (0 : Int32) (fun _ => (.int (0 : Int32))) := (((((((V_b10.ext E13).ext E16).ext E18).keep K20q (ninS (own_ne (by omega)) nin0)).keep K49q (ninS (own_ne (by omega)) nin0)).keep K65q (ninS (own_ne (by omega)) nin0)).keep K81q (ninS (own_ne (by omega)) nin0))
        obtain ⟨cq101, kq101, q101a, q101b, q101c⟩ := isOf hZ rfl f82
        obtain ⟨_, _, ⟨T101, L101, k101, n101⟩, -, X101, hS101, gr101, ⟨Lc101, hQ101, l101, y101, z101⟩, st101⟩ := X81.virtualBackS hx (y := (⟨"com/example/kalchas/kalchas/propositional/HornClauses", "add", "(I[I)V"⟩ : MethodName)) (z := (⟨"com/example/kalchas/kalchas/propositional/HornClauses", "add", "(I[I)V"⟩ : MethodName)) hown (mvT hZ (hw _ (List.mem_of_getElem? (i := 26) rfl))) (mvT hZ (hw _ (List.mem_of_getElem? (i := 27) rfl))) (notFace_of_selects (args := #[]) (mvT hZ (hw _ (List.mem_of_getElem? (i := 29) rfl)))) (mvT hZ (hw _ (List.mem_of_getElem? (i := 29) rfl))) (mvT hZ (hw _ (List.mem_of_getElem? (i := 28) rfl))) (by decide) (backOfS (W := 0) (own_rm4_00 l Z a0 hw [] b18 v2 b10 x_21 x_22 x_23 (fun _ => (.int (0 : Int32))) (fun _ => (.int (0 : Int32))) (fun _ => (.int (0 : Int32))) (0 : Int32) .null T81.heap n0 (by omega) f82 f87 f88 f83 f84 f85 f86 f97 f98 f99 f100 (by simp only [own_lts, and_true]; omega) rfl (by decide) (fun _ => rfl) (show ¬ (v2 < 0) by first | assumption | omega | decide) (show v2 < (3 : Int32) by first | assumption | omega | decide) (by omega) (by omega) (by omega) (by omega)) hZ (hw _ (List.mem_of_getElem? (i := 30) rfl)) (hw _ (List.mem_of_getElem? (i := 4) rfl)) (by decide) (by decide)) q101a q101c (g := (mkF m 146 #[.val (.int p_1), .val (.int p_2), .val (.int p_3), .val (.int p_4), .val (.int v2), .val (.int v4), .val (.int v6), .val (.int v8), .val (.ref b10), .val (.ref b13), .val (.ref b16), .val (.ref b18)] [(.ref b10), (.int v2), (.ref b18)])) rfl (by rw [hml]; rfl) (Steps.refl _) (argsL := [(.int v2), (.ref b10)]) (rest := []) (lenOf own_pd4 rfl) rfl (by show 2 * 0 + _ ≤ _; exact Nat.le_of_eq rfl) (hb hby at_146) (fun _ _ => ⟨rfl, rfl, (by show k81 + _ ≤ _; rw [y81]; decide), (by show n81 + _ ≤ _; rw [z81]; decide)⟩)
        dsimp only [Pt.U, Pt.locs, Pt.cells, Pt.slots] at X101 l101 y101 z101 st101 hQ101 hS101 gr101
        have y101 : k101 = 9 := own_addeq y101 (congrArg (fun q => q) y81) rfl
        have z101 : n101 = 238 := own_addeq z101 (congrArg (fun q => q) z81) rfl
        have Wn101 := hS101.1
        obtain ⟨X101, hS101, hZ, hown⟩ := rebS hS0 (n1 := T81.heap.size) (by omega) X101 hS101 gr101 hZ hown
        obtain ⟨gb_102, rfl, N101q, K101q, f103, f104, f105, f106, f107, f108, f109, f110, f111, f112, f113⟩ := hQ101
        have N101 : Fr n0 L101 := by rw [l101]; exact Fr.app N81 N101q
        have z114 := K101q.1
        have z115 := own_lt f103.lt
        have z116 := own_lt f104.lt
        have z117 := own_lt f105.lt
        have z118 := own_lt f106.lt
        have z119 := own_lt f107.lt
        have z120 := own_lt f108.lt
        have z121 := own_lt f109.lt
        have z122 := own_lt f110.lt
        have z123 := own_lt f111.lt
        have z124 := own_lt f112.lt
        refine own_go (fun _ k => st101.trans k) ?_
        show own_Go _ _ _ _ T101 (mkF m 149 #[.val (.int p_1), .val (.int p_2), .val (.int p_3), .val (.int p_4), .val (.int v2), .val (.int v4), .val (.int v6), .val (.int v8), .val (.ref b10), .val (.ref b13), .val (.ref b16), .val (.ref b18)] [])
        refine own_go (fun _ k => XS.aload X101.here hx rfl (hb hby at_149) rfl rfl k) ?_
        show own_Go _ _ _ _ T101 (mkF m 151 #[.val (.int p_1), .val (.int p_2), .val (.int p_3), .val (.int p_4), .val (.int v2), .val (.int v4), .val (.int v6), .val (.int v8), .val (.ref b10), .val (.ref b13), .val (.ref b16), .val (.ref b18)] [(.ref b18)])
        refine own_go (fun _ k => XS.iload X101.here hx rfl (hb hby at_151) rfl k) ?_
        show own_Go _ _ _ _ T101 (mkF m 153 #[.val (.int p_1), .val (.int p_2), .val (.int p_3), .val (.int p_4), .val (.int v2), .val (.int v4), .val (.int v6), .val (.int v8), .val (.ref b10), .val (.ref b13), .val (.ref b16), .val (.ref b18)] [(.int v4), (.ref b18)])
        refine own_go (fun _ k => XS.aload X101.here hx rfl (hb hby at_153) rfl rfl k) ?_
        show own_Go _ _ _ _ T101 (mkF m 155 #[.val (.int p_1), .val (.int p_2), .val (.int p_3), .val (.int p_4), .val (.int v2), .val (.int v4), .val (.int v6), .val (.int v8), .val (.ref b10), .val (.ref b13), .val (.ref b16), .val (.ref b18)] [(.ref b13), (.int v4), (.ref b18)])
        have f125 : own_AV Z T101.heap b13 .int (0 : Int32) (fun _ => (.int (0 : Int32))) := (((((((V_b13.ext E16).ext E18).keep K20q (ninS (own_ne (by omega)) nin0)).keep K49q (ninS (own_ne (by omega)) nin0)).keep K65q (ninS (own_ne (by omega)) nin0)).keep K81q (ninS (own_ne (by omega)) nin0)).keep K101q (ninS (own_ne (by omega)) (ninS (own_ne (by omega)) (ninS (own_ne (by omega)) (ninS (own_ne (by omega)) nin0)))))
        obtain ⟨cq126, kq126, q126a, q126b, q126c⟩ := isOf hZ rfl f103
        obtain ⟨_, _, ⟨T126, L126, k126, n126⟩, -, X126, hS126, gr126, ⟨Lc126, hQ126, l126, y126, z126⟩, st126⟩ := X101.virtualBackS hx (y := (⟨"com/example/kalchas/kalchas/propositional/HornClauses", "add", "(I[I)V"⟩ : MethodName)) (z := (⟨"com/example/kalchas/kalchas/propositional/HornClauses", "add", "(I[I)V"⟩ : MethodName)) hown (mvT hZ (hw _ (List.mem_of_getElem? (i := 26) rfl))) (mvT hZ (hw _ (List.mem_of_getElem? (i := 27) rfl))) (notFace_of_selects (args := #[]) (mvT hZ (hw _ (List.mem_of_getElem? (i := 29) rfl)))) (mvT hZ (hw _ (List.mem_of_getElem? (i := 29) rfl))) (mvT hZ (hw _ (List.mem_of_getElem? (i := 28) rfl))) (by decide) (backOfS (W := 0) (own_rm4_10 l Z a0 hw [] b18 v4 b13 x_21 x_22 x_23 (own_upd (fun _ => (.int (0 : Int32))) 0 (.int v2)) (own_upd (fun _ => (.int (0 : Int32))) 1 (.int ((0 : Int32) + (0 : Int32)))) gb_102 ((0 : Int32) + (0 : Int32)) .null T101.heap n0 (by omega) f103 f104 f105 f106 f107 f108 f109 f110 f111 f112 f125 (by simp only [own_lts, and_true]; omega) rfl (by decide) f113 (show ¬ (v4 < 0) by first | assumption | omega | decide) (show v4 < (3 : Int32) by first | assumption | omega | decide) (by omega) (by omega) (by omega) (by omega)) hZ (hw _ (List.mem_of_getElem? (i := 30) rfl)) (hw _ (List.mem_of_getElem? (i := 4) rfl)) (by decide) (by decide)) q126a q126c (g := (mkF m 155 #[.val (.int p_1), .val (.int p_2), .val (.int p_3), .val (.int p_4), .val (.int v2), .val (.int v4), .val (.int v6), .val (.int v8), .val (.ref b10), .val (.ref b13), .val (.ref b16), .val (.ref b18)] [(.ref b13), (.int v4), (.ref b18)])) rfl (by rw [hml]; rfl) (Steps.refl _) (argsL := [(.int v4), (.ref b13)]) (rest := []) (lenOf own_pd4 rfl) rfl (by show 2 * 0 + _ ≤ _; exact Nat.le_of_eq rfl) (hb hby at_155) (fun _ _ => ⟨rfl, rfl, (by show k101 + _ ≤ _; rw [y101]; decide), (by show n101 + _ ≤ _; rw [z101]; decide)⟩)
        dsimp only [Pt.U, Pt.locs, Pt.cells, Pt.slots] at X126 l126 y126 z126 st126 hQ126 hS126 gr126
        have y126 : k126 = 11 := own_addeq y126 (congrArg (fun q => q) y101) rfl
        have z126 : n126 = 274 := own_addeq z126 (congrArg (fun q => q) z101) rfl
        have Wn126 := hS126.1
        obtain ⟨X126, hS126, hZ, hown⟩ := rebS hS101 (n1 := T101.heap.size) (by omega) X126 hS126 gr126 hZ hown
        obtain ⟨gb_127, rfl, N126q, K126q, f128, f129, f130, f131, f132, f133, f134, f135, f136, f137, f138⟩ := hQ126
        have N126 : Fr n0 L126 := by rw [l126]; exact Fr.app N101 N126q
        have z139 := K126q.1
        have z140 := own_lt f128.lt
        have z141 := own_lt f129.lt
        have z142 := own_lt f130.lt
        have z143 := own_lt f131.lt
        have z144 := own_lt f132.lt
        have z145 := own_lt f133.lt
        have z146 := own_lt f134.lt
        have z147 := own_lt f135.lt
        have z148 := own_lt f136.lt
        have z149 := own_lt f137.lt
        refine own_go (fun _ k => st126.trans k) ?_
        show own_Go _ _ _ _ T126 (mkF m 158 #[.val (.int p_1), .val (.int p_2), .val (.int p_3), .val (.int p_4), .val (.int v2), .val (.int v4), .val (.int v6), .val (.int v8), .val (.ref b10), .val (.ref b13), .val (.ref b16), .val (.ref b18)] [])
        refine own_go (fun _ k => XS.aload X126.here hx rfl (hb hby at_158) rfl rfl k) ?_
        show own_Go _ _ _ _ T126 (mkF m 160 #[.val (.int p_1), .val (.int p_2), .val (.int p_3), .val (.int p_4), .val (.int v2), .val (.int v4), .val (.int v6), .val (.int v8), .val (.ref b10), .val (.ref b13), .val (.ref b16), .val (.ref b18)] [(.ref b18)])
        refine own_go (fun _ k => XS.iload X126.here hx rfl (hb hby at_160) rfl k) ?_
        show own_Go _ _ _ _ T126 (mkF m 162 #[.val (.int p_1), .val (.int p_2), .val (.int p_3), .val (.int p_4), .val (.int v2), .val (.int v4), .val (.int v6), .val (.int v8), .val (.ref b10), .val (.ref b13), .val (.ref b16), .val (.ref b18)] [(.int v6), (.ref b18)])
        refine own_go (fun _ k => XS.aload X126.here hx rfl (hb hby at_162) rfl rfl k) ?_
        show own_Go _ _ _ _ T126 (mkF m 164 #[.val (.int p_1), .val (.int p_2), .val (.int p_3), .val (.int p_4), .val (.int v2), .val (.int v4), .val (.int v6), .val (.int v8), .val (.ref b10), .val (.ref b13), .val (.ref b16), .val (.ref b18)] [(.ref b16), (.int v6), (.ref b18)])
        have f150 : own_AV Z T126.heap b16 .int (0 : Int32) (fun _ => (.int (0 : Int32))) := (((((((V_b16.ext E18).keep K20q (ninS (own_ne (by omega)) nin0)).keep K49q (ninS (own_ne (by omega)) nin0)).keep K65q (ninS (own_ne (by omega)) nin0)).keep K81q (ninS (own_ne (by omega)) nin0)).keep K101q (ninS (own_ne (by omega)) (ninS (own_ne (by omega)) (ninS (own_ne (by omega)) (ninS (own_ne (by omega)) nin0))))).keep K126q (ninS (own_ne (by omega)) (ninS (own_ne (by omega)) (ninS (own_ne (by omega)) (ninS (own_ne (by omega)) nin0)))))
        obtain ⟨cq151, kq151, q151a, q151b, q151c⟩ := isOf hZ rfl f128
        obtain ⟨_, _, ⟨T151, L151, k151, n151⟩, -, X151, hS151, gr151, ⟨Lc151, hQ151, l151, y151, z151⟩, st151⟩ := X126.virtualBackS hx (y := (⟨"com/example/kalchas/kalchas/propositional/HornClauses", "add", "(I[I)V"⟩ : MethodName)) (z := (⟨"com/example/kalchas/kalchas/propositional/HornClauses", "add", "(I[I)V"⟩ : MethodName)) hown (mvT hZ (hw _ (List.mem_of_getElem? (i := 26) rfl))) (mvT hZ (hw _ (List.mem_of_getElem? (i := 27) rfl))) (notFace_of_selects (args := #[]) (mvT hZ (hw _ (List.mem_of_getElem? (i := 29) rfl)))) (mvT hZ (hw _ (List.mem_of_getElem? (i := 29) rfl))) (mvT hZ (hw _ (List.mem_of_getElem? (i := 28) rfl))) (by decide) (backOfS (W := 0) (own_rm4_20 l Z a0 hw [] b18 v6 b16 x_21 x_22 x_23 (own_upd (own_upd (fun _ => (.int (0 : Int32))) 0 (.int v2)) 1 (.int v4)) (own_upd (own_upd (fun _ => (.int (0 : Int32))) 1 (.int ((0 : Int32) + (0 : Int32)))) 2 (.int (((0 : Int32) + (0 : Int32)) + (0 : Int32)))) gb_127 (((0 : Int32) + (0 : Int32)) + (0 : Int32)) .null T126.heap n0 (by omega) f128 f129 f130 f131 f132 f133 f134 f135 f136 f137 f150 (by simp only [own_lts, and_true]; omega) rfl (by decide) f138 (show ¬ (v6 < 0) by first | assumption | omega | decide) (show v6 < (3 : Int32) by first | assumption | omega | decide) (by omega) (by omega) (by omega) (by omega)) hZ (hw _ (List.mem_of_getElem? (i := 30) rfl)) (hw _ (List.mem_of_getElem? (i := 4) rfl)) (by decide) (by decide)) q151a q151c (g := (mkF m 164 #[.val (.int p_1), .val (.int p_2), .val (.int p_3), .val (.int p_4), .val (.int v2), .val (.int v4), .val (.int v6), .val (.int v8), .val (.ref b10), .val (.ref b13), .val (.ref b16), .val (.ref b18)] [(.ref b16), (.int v6), (.ref b18)])) rfl (by rw [hml]; rfl) (Steps.refl _) (argsL := [(.int v6), (.ref b16)]) (rest := []) (lenOf own_pd4 rfl) rfl (by show 2 * 0 + _ ≤ _; exact Nat.le_of_eq rfl) (hb hby at_164) (fun _ _ => ⟨rfl, rfl, (by show k126 + _ ≤ _; rw [y126]; decide), (by show n126 + _ ≤ _; rw [z126]; decide)⟩)
        dsimp only [Pt.U, Pt.locs, Pt.cells, Pt.slots] at X151 l151 y151 z151 st151 hQ151 hS151 gr151
        have y151 : k151 = 13 := own_addeq y151 (congrArg (fun q => q) y126) rfl
        have z151 : n151 = 310 := own_addeq z151 (congrArg (fun q => q) z126) rfl
        have Wn151 := hS151.1
        obtain ⟨X151, hS151, hZ, hown⟩ := rebS hS126 (n1 := T126.heap.size) (by omega) X151 hS151 gr151 hZ hown
        obtain ⟨gb_152, rfl, N151q, K151q, f153, f154, f155, f156, f157, f158, f159, f160, f161, f162, f163⟩ := hQ151
        have N151 : Fr n0 L151 := by rw [l151]; exact Fr.app N126 N151q
        have z164 := K151q.1
        have z165 := own_lt f153.lt
        have z166 := own_lt f154.lt
        have z167 := own_lt f155.lt
        have z168 := own_lt f156.lt
        have z169 := own_lt f157.lt
        have z170 := own_lt f158.lt
        have z171 := own_lt f159.lt
        have z172 := own_lt f160.lt
        have z173 := own_lt f161.lt
        have z174 := own_lt f162.lt
        refine own_go (fun _ k => st151.trans k) ?_
        show own_Go _ _ _ _ T151 (mkF m 167 #[.val (.int p_1), .val (.int p_2), .val (.int p_3), .val (.int p_4), .val (.int v2), .val (.int v4), .val (.int v6), .val (.int v8), .val (.ref b10), .val (.ref b13), .val (.ref b16), .val (.ref b18)] [])
        refine own_go (fun _ k => XS.aload X151.here hx rfl (hb hby at_167) rfl rfl k) ?_
        show own_Go _ _ _ _ T151 (mkF m 169 #[.val (.int p_1), .val (.int p_2), .val (.int p_3), .val (.int p_4), .val (.int v2), .val (.int v4), .val (.int v6), .val (.int v8), .val (.ref b10), .val (.ref b13), .val (.ref b16), .val (.ref b18)] [(.ref b18)])
        refine own_go (fun _ k => XS.iconst X151.here hx rfl (hb hby at_169) k) ?_
        show own_Go _ _ _ _ T151 (mkF m 170 #[.val (.int p_1), .val (.int p_2), .val (.int p_3), .val (.int p_4), .val (.int v2), .val (.int v4), .val (.int v6), .val (.int v8), .val (.ref b10), .val (.ref b13), .val (.ref b16), .val (.ref b18)] [(.int (0 : Int32)), (.ref b18)])
        obtain ⟨cq175, kq175, q175a, q175b, q175c⟩ := isOf hZ rfl f153
        obtain ⟨_, _, ⟨T175, L175, k175, n175⟩, -, X175, hS175, gr175, ⟨Lc175, hQ175, l175, y175, z175⟩, st175⟩ := X151.virtualBackS hx (y := (⟨"com/example/kalchas/kalchas/propositional/HornClauses", "head", "(I)I"⟩ : MethodName)) (z := (⟨"com/example/kalchas/kalchas/propositional/HornClauses", "head", "(I)I"⟩ : MethodName)) hown (mvT hZ (hw _ (List.mem_of_getElem? (i := 53) rfl))) (mvT hZ (hw _ (List.mem_of_getElem? (i := 54) rfl))) (notFace_of_selects (args := #[]) (mvT hZ (hw _ (List.mem_of_getElem? (i := 56) rfl)))) (mvT hZ (hw _ (List.mem_of_getElem? (i := 56) rfl))) (mvT hZ (hw _ (List.mem_of_getElem? (i := 55) rfl))) (by decide) (backOfS (W := 0) (own_rm7_0 l Z a0 hw [] b18 x_21 (own_upd (own_upd (own_upd (fun _ => (.int (0 : Int32))) 0 (.int v2)) 1 (.int v4)) 2 (.int v6)) v2 T151.heap n0 (by omega) f153 f156 f155 f160 rfl) hZ (hw _ (List.mem_of_getElem? (i := 57) rfl)) (hw _ (List.mem_of_getElem? (i := 4) rfl)) (by decide) (by decide)) q175a q175c (g := (mkF m 170 #[.val (.int p_1), .val (.int p_2), .val (.int p_3), .val (.int p_4), .val (.int v2), .val (.int v4), .val (.int v6), .val (.int v8), .val (.ref b10), .val (.ref b13), .val (.ref b16), .val (.ref b18)] [(.int (0 : Int32)), (.ref b18)])) rfl (by rw [hml]; rfl) (Steps.refl _) (argsL := [(.int (0 : Int32))]) (rest := []) (lenOf own_pd5 rfl) rfl (by show 2 * 0 + _ ≤ _; exact Nat.le_of_eq rfl) (hb hby at_170) (fun _ _ => ⟨rfl, rfl, (by show k151 + _ ≤ _; rw [y151]; decide), (by show n151 + _ ≤ _; rw [z151]; decide)⟩)
        dsimp only [Pt.U, Pt.locs, Pt.cells, Pt.slots] at X175 l175 y175 z175 st175 hQ175 hS175 gr175
        have y175 : k175 = 15 := own_addeq y175 (congrArg (fun q => q) y151) rfl
        have z175 : n175 = 338 := own_addeq z175 (congrArg (fun q => q) z151) rfl
        have Wn175 := hS175.1
        obtain ⟨X175, hS175, hZ, hown⟩ := rebS hS151 (n1 := T151.heap.size) (by omega) X175 hS175 gr175 hZ hown
        obtain ⟨rfl, N175q, K175q⟩ := hQ175
        have N175 : Fr n0 L175 := by rw [l175]; exact Fr.app N151 N175q
        have z176 := K175q.1
        refine own_go (fun _ k => st175.trans k) ?_
        show own_Go _ _ _ _ T175 (mkF m 173 #[.val (.int p_1), .val (.int p_2), .val (.int p_3), .val (.int p_4), .val (.int v2), .val (.int v4), .val (.int v6), .val (.int v8), .val (.ref b10), .val (.ref b13), .val (.ref b16), .val (.ref b18)] [(.int v2)])
        refine own_go (fun _ k => XS.iload X175.here hx rfl (hb hby at_173) rfl k) ?_
        show own_Go _ _ _ _ T175 (mkF m 175 #[.val (.int p_1), .val (.int p_2), .val (.int p_3), .val (.int p_4), .val (.int v2), .val (.int v4), .val (.int v6), .val (.int v8), .val (.ref b10), .val (.ref b13), .val (.ref b16), .val (.ref b18)] [(.int v2), (.int v2)])
        have hc177 : v2 = v2 := rfl
        refine own_go (fun _ k => XS.icmpNo X175.here hx rfl (hb hby at_175) rfl (Jvm.Free.XT.ii_ne_f hc177) k) ?_
        show own_Go _ _ _ _ T175 (mkF m 178 #[.val (.int p_1), .val (.int p_2), .val (.int p_3), .val (.int p_4), .val (.int v2), .val (.int v4), .val (.int v6), .val (.int v8), .val (.ref b10), .val (.ref b13), .val (.ref b16), .val (.ref b18)] [])
        refine own_go (fun _ k => XS.aload X175.here hx rfl (hb hby at_178) rfl rfl k) ?_
        show own_Go _ _ _ _ T175 (mkF m 180 #[.val (.int p_1), .val (.int p_2), .val (.int p_3), .val (.int p_4), .val (.int v2), .val (.int v4), .val (.int v6), .val (.int v8), .val (.ref b10), .val (.ref b13), .val (.ref b16), .val (.ref b18)] [(.ref b18)])
        refine own_go (fun _ k => XS.iconst X175.here hx rfl (hb hby at_180) k) ?_
        show own_Go _ _ _ _ T175 (mkF m 181 #[.val (.int p_1), .val (.int p_2), .val (.int p_3), .val (.int p_4), .val (.int v2), .val (.int v4), .val (.int v6), .val (.int v8), .val (.ref b10), .val (.ref b13), .val (.ref b16), .val (.ref b18)] [(.int (1 : Int32)), (.ref b18)])
        have f178 : Exa Z T175.heap b18 "com/example/kalchas/kalchas/propositional/HornClauses" := (f153.keep K175q)
        have f179 : Fld Z T175.heap b18 "com/example/kalchas/kalchas/propositional/HornClauses" "heads" "[I" (.ref x_21) := (f156.keep K175q nin0)
        have f180 : Fld Z T175.heap b18 "com/example/kalchas/kalchas/propositional/HornClauses" "clauseCount" "I" (.int (3 : Int32)) := (f155.keep K175q nin0)
        have f181 : own_AV Z T175.heap x_21 .int (64 : Int32) (own_upd (own_upd (own_upd (fun _ => (.int (0 : Int32))) 0 (.int v2)) 1 (.int v4)) 2 (.int v6)) := (f160.keep K175q nin0)
        obtain ⟨cq182, kq182, q182a, q182b, q182c⟩ := isOf hZ rfl f178
        obtain ⟨_, _, ⟨T182, L182, k182, n182⟩, -, X182, hS182, gr182, ⟨Lc182, hQ182, l182, y182, z182⟩, st182⟩ := X175.virtualBackS hx (y := (⟨"com/example/kalchas/kalchas/propositional/HornClauses", "head", "(I)I"⟩ : MethodName)) (z := (⟨"com/example/kalchas/kalchas/propositional/HornClauses", "head", "(I)I"⟩ : MethodName)) hown (mvT hZ (hw _ (List.mem_of_getElem? (i := 53) rfl))) (mvT hZ (hw _ (List.mem_of_getElem? (i := 54) rfl))) (notFace_of_selects (args := #[]) (mvT hZ (hw _ (List.mem_of_getElem? (i := 56) rfl)))) (mvT hZ (hw _ (List.mem_of_getElem? (i := 56) rfl))) (mvT hZ (hw _ (List.mem_of_getElem? (i := 55) rfl))) (by decide) (backOfS (W := 0) (own_rm7_1 l Z a0 hw [] b18 x_21 (own_upd (own_upd (own_upd (fun _ => (.int (0 : Int32))) 0 (.int v2)) 1 (.int v4)) 2 (.int v6)) v4 T175.heap n0 (by omega) f178 f179 f180 f181 rfl) hZ (hw _ (List.mem_of_getElem? (i := 57) rfl)) (hw _ (List.mem_of_getElem? (i := 4) rfl)) (by decide) (by decide)) q182a q182c (g := (mkF m 181 #[.val (.int p_1), .val (.int p_2), .val (.int p_3), .val (.int p_4), .val (.int v2), .val (.int v4), .val (.int v6), .val (.int v8), .val (.ref b10), .val (.ref b13), .val (.ref b16), .val (.ref b18)] [(.int (1 : Int32)), (.ref b18)])) rfl (by rw [hml]; rfl) (Steps.refl _) (argsL := [(.int (1 : Int32))]) (rest := []) (lenOf own_pd5 rfl) rfl (by show 2 * 0 + _ ≤ _; exact Nat.le_of_eq rfl) (hb hby at_181) (fun _ _ => ⟨rfl, rfl, (by show k175 + _ ≤ _; rw [y175]; decide), (by show n175 + _ ≤ _; rw [z175]; decide)⟩)
        dsimp only [Pt.U, Pt.locs, Pt.cells, Pt.slots] at X182 l182 y182 z182 st182 hQ182 hS182 gr182
        have y182 : k182 = 17 := own_addeq y182 (congrArg (fun q => q) y175) rfl
        have z182 : n182 = 366 := own_addeq z182 (congrArg (fun q => q) z175) rfl
        have Wn182 := hS182.1
        obtain ⟨X182, hS182, hZ, hown⟩ := rebS hS175 (n1 := T175.heap.size) (by omega) X182 hS182 gr182 hZ hown
        obtain ⟨rfl, N182q, K182q⟩ := hQ182
        have N182 : Fr n0 L182 := by rw [l182]; exact Fr.app N175 N182q
        have z183 := K182q.1
        refine own_go (fun _ k => st182.trans k) ?_
        show own_Go _ _ _ _ T182 (mkF m 184 #[.val (.int p_1), .val (.int p_2), .val (.int p_3), .val (.int p_4), .val (.int v2), .val (.int v4), .val (.int v6), .val (.int v8), .val (.ref b10), .val (.ref b13), .val (.ref b16), .val (.ref b18)] [(.int v4)])
        refine own_go (fun _ k => XS.iload X182.here hx rfl (hb hby at_184) rfl k) ?_
        show own_Go _ _ _ _ T182 (mkF m 186 #[.val (.int p_1), .val (.int p_2), .val (.int p_3), .val (.int p_4), .val (.int v2), .val (.int v4), .val (.int v6), .val (.int v8), .val (.ref b10), .val (.ref b13), .val (.ref b16), .val (.ref b18)] [(.int v4), (.int v4)])
        have hc184 : v4 = v4 := rfl
        refine own_go (fun _ k => XS.icmpNo X182.here hx rfl (hb hby at_186) rfl (Jvm.Free.XT.ii_ne_f hc184) k) ?_
        show own_Go _ _ _ _ T182 (mkF m 189 #[.val (.int p_1), .val (.int p_2), .val (.int p_3), .val (.int p_4), .val (.int v2), .val (.int v4), .val (.int v6), .val (.int v8), .val (.ref b10), .val (.ref b13), .val (.ref b16), .val (.ref b18)] [])
        refine own_go (fun _ k => XS.aload X182.here hx rfl (hb hby at_189) rfl rfl k) ?_
        show own_Go _ _ _ _ T182 (mkF m 191 #[.val (.int p_1), .val (.int p_2), .val (.int p_3), .val (.int p_4), .val (.int v2), .val (.int v4), .val (.int v6), .val (.int v8), .val (.ref b10), .val (.ref b13), .val (.ref b16), .val (.ref b18)] [(.ref b18)])
        refine own_go (fun _ k => XS.iconst X182.here hx rfl (hb hby at_191) k) ?_
        show own_Go _ _ _ _ T182 (mkF m 192 #[.val (.int p_1), .val (.int p_2), .val (.int p_3), .val (.int p_4), .val (.int v2), .val (.int v4), .val (.int v6), .val (.int v8), .val (.ref b10), .val (.ref b13), .val (.ref b16), .val (.ref b18)] [(.int (2 : Int32)), (.ref b18)])
        have f185 : Exa Z T182.heap b18 "com/example/kalchas/kalchas/propositional/HornClauses" := (f178.keep K182q)
        have f186 : Fld Z T182.heap b18 "com/example/kalchas/kalchas/propositional/HornClauses" "heads" "[I" (.ref x_21) := (f179.keep K182q nin0)
        have f187 : Fld Z T182.heap b18 "com/example/kalchas/kalchas/propositional/HornClauses" "clauseCount" "I" (.int (3 : Int32)) := (f180.keep K182q nin0)
        have f188 : own_AV Z T182.heap x_21 .int (64 : Int32) (own_upd (own_upd (own_upd (fun _ => (.int (0 : Int32))) 0 (.int v2)) 1 (.int v4)) 2 (.int v6)) := (f181.keep K182q nin0)
        obtain ⟨cq189, kq189, q189a, q189b, q189c⟩ := isOf hZ rfl f185
        obtain ⟨_, _, ⟨T189, L189, k189, n189⟩, -, X189, hS189, gr189, ⟨Lc189, hQ189, l189, y189, z189⟩, st189⟩ := X182.virtualBackS hx (y := (⟨"com/example/kalchas/kalchas/propositional/HornClauses", "head", "(I)I"⟩ : MethodName)) (z := (⟨"com/example/kalchas/kalchas/propositional/HornClauses", "head", "(I)I"⟩ : MethodName)) hown (mvT hZ (hw _ (List.mem_of_getElem? (i := 53) rfl))) (mvT hZ (hw _ (List.mem_of_getElem? (i := 54) rfl))) (notFace_of_selects (args := #[]) (mvT hZ (hw _ (List.mem_of_getElem? (i := 56) rfl)))) (mvT hZ (hw _ (List.mem_of_getElem? (i := 56) rfl))) (mvT hZ (hw _ (List.mem_of_getElem? (i := 55) rfl))) (by decide) (backOfS (W := 0) (own_rm7_2 l Z a0 hw [] b18 x_21 (own_upd (own_upd (own_upd (fun _ => (.int (0 : Int32))) 0 (.int v2)) 1 (.int v4)) 2 (.int v6)) v6 T182.heap n0 (by omega) f185 f186 f187 f188 rfl) hZ (hw _ (List.mem_of_getElem? (i := 57) rfl)) (hw _ (List.mem_of_getElem? (i := 4) rfl)) (by decide) (by decide)) q189a q189c (g := (mkF m 192 #[.val (.int p_1), .val (.int p_2), .val (.int p_3), .val (.int p_4), .val (.int v2), .val (.int v4), .val (.int v6), .val (.int v8), .val (.ref b10), .val (.ref b13), .val (.ref b16), .val (.ref b18)] [(.int (2 : Int32)), (.ref b18)])) rfl (by rw [hml]; rfl) (Steps.refl _) (argsL := [(.int (2 : Int32))]) (rest := []) (lenOf own_pd5 rfl) rfl (by show 2 * 0 + _ ≤ _; exact Nat.le_of_eq rfl) (hb hby at_192) (fun _ _ => ⟨rfl, rfl, (by show k182 + _ ≤ _; rw [y182]; decide), (by show n182 + _ ≤ _; rw [z182]; decide)⟩)
        dsimp only [Pt.U, Pt.locs, Pt.cells, Pt.slots] at X189 l189 y189 z189 st189 hQ189 hS189 gr189
        have y189 : k189 = 19 := own_addeq y189 (congrArg (fun q => q) y182) rfl
        have z189 : n189 = 394 := own_addeq z189 (congrArg (fun q => q) z182) rfl
        have Wn189 := hS189.1
        obtain ⟨X189, hS189, hZ, hown⟩ := rebS hS182 (n1 := T182.heap.size) (by omega) X189 hS189 gr189 hZ hown
        obtain ⟨rfl, N189q, K189q⟩ := hQ189
        have N189 : Fr n0 L189 := by rw [l189]; exact Fr.app N182 N189q
        have z190 := K189q.1
        refine own_go (fun _ k => st189.trans k) ?_
        show own_Go _ _ _ _ T189 (mkF m 195 #[.val (.int p_1), .val (.int p_2), .val (.int p_3), .val (.int p_4), .val (.int v2), .val (.int v4), .val (.int v6), .val (.int v8), .val (.ref b10), .val (.ref b13), .val (.ref b16), .val (.ref b18)] [(.int v6)])
        refine own_go (fun _ k => XS.iload X189.here hx rfl (hb hby at_195) rfl k) ?_
        show own_Go _ _ _ _ T189 (mkF m 197 #[.val (.int p_1), .val (.int p_2), .val (.int p_3), .val (.int p_4), .val (.int v2), .val (.int v4), .val (.int v6), .val (.int v8), .val (.ref b10), .val (.ref b13), .val (.ref b16), .val (.ref b18)] [(.int v6), (.int v6)])
        have hc191 : v6 = v6 := rfl
        refine own_go (fun _ k => XS.icmpNo X189.here hx rfl (hb hby at_197) rfl (Jvm.Free.XT.ii_ne_f hc191) k) ?_
        show own_Go _ _ _ _ T189 (mkF m 200 #[.val (.int p_1), .val (.int p_2), .val (.int p_3), .val (.int p_4), .val (.int v2), .val (.int v4), .val (.int v6), .val (.int v8), .val (.ref b10), .val (.ref b13), .val (.ref b16), .val (.ref b18)] [])
        refine own_go (fun _ k => XS.iconst X189.here hx rfl (hb hby at_200) k) ?_
        show own_Go _ _ _ _ T189 (mkF m 201 #[.val (.int p_1), .val (.int p_2), .val (.int p_3), .val (.int p_4), .val (.int v2), .val (.int v4), .val (.int v6), .val (.int v8), .val (.ref b10), .val (.ref b13), .val (.ref b16), .val (.ref b18)] [(.int (1 : Int32))])
        refine own_go (fun _ k => XS.goto X189.here hx rfl (pc0 := 201) (pc' := 205) rfl (hb hby at_201) (by decide) (by decide) k) ?_
        show own_Go _ _ _ _ T189 (mkF m 205 #[.val (.int p_1), .val (.int p_2), .val (.int p_3), .val (.int p_4), .val (.int v2), .val (.int v4), .val (.int v6), .val (.int v8), .val (.ref b10), .val (.ref b13), .val (.ref b16), .val (.ref b18)] [(.int (1 : Int32))])
        obtain ⟨fs, hr, hrun, hended, hRW⟩ := X189.leaveW hS189 (by omega) (v := some (.int (1 : Int32))) (fun h => by rw [Bd.returns] at h; cases h)
        refine ⟨_, _, retOut X189 hx Bd.returns rfl (Or.inl ⟨rfl, Or.inr (Or.inl rfl), _, rfl⟩) (hb hby at_205) hr, hrun, hended, _, _, rfl, ?_, own_monoW hRW (by rw [y189]; decide) (by rw [z189]; decide)⟩
        exact ⟨rfl, N189⟩
      · refine own_go (fun _ k => XS.ifNo X13.here hx rfl (hb hby at_84) rfl (Jvm.Free.XT.i0_eq_f hc15) k) ?_
        show own_Go _ _ _ _ T13 (mkF m 87 #[.val (.int p_1), .val (.int p_2), .val (.int p_3), .val (.int p_4), .val (.int v2), .val (.int v4), .val (.int v6), .val (.int v8), .val (.ref b10), .val (.ref b13), .unset, .unset] [])
        refine own_go (fun _ k => XS.iconst X13.here hx rfl (hb hby at_87) k) ?_
        show own_Go _ _ _ _ T13 (mkF m 88 #[.val (.int p_1), .val (.int p_2), .val (.int p_3), .val (.int p_4), .val (.int v2), .val (.int v4), .val (.int v6), .val (.int v8), .val (.ref b10), .val (.ref b13), .unset, .unset] [(.int (3 : Int32))])
        obtain ⟨T193, h193, k193, X193, e193, E193, A193, st193⟩ := newP X13 hx hZ (hw _ (List.mem_of_getElem? (i := 1) rfl)) e13 (g := (mkF m 88 #[.val (.int p_1), .val (.int p_2), .val (.int p_3), .val (.int p_4), .val (.int v2), .val (.int v4), .val (.int v6), .val (.int v8), .val (.ref b10), .val (.ref b13), .unset, .unset] [(.int (3 : Int32))])) rfl (hb hby at_88) rfl (by decide) (cap := 3) (by decide) (by decide) (by decide) (by decide)
        obtain ⟨b193, g193⟩ : ∃ z, z = h13.size := ⟨_, rfl⟩
        rw [← g193] at A193 st193
        have z194 := E193.1
        have lt_b193 := own_lt A193.lt
        have V_b193 : own_AV Z h193 b193 .int (3 : Int32) (fun _ => (.int (0 : Int32))) := own_AV.new A193 (by decide)
        refine own_go (fun _ k => st193 _ k) ?_
        show own_Go _ _ _ _ T193 (mkF m 90 #[.val (.int p_1), .val (.int p_2), .val (.int p_3), .val (.int p_4), .val (.int v2), .val (.int v4), .val (.int v6), .val (.int v8), .val (.ref b10), .val (.ref b13), .unset, .unset] [(.ref b193)])
        refine own_go (fun _ k => XS.dup X193.here hx rfl (hb hby at_90) rfl rfl k) ?_
        show own_Go _ _ _ _ T193 (mkF m 91 #[.val (.int p_1), .val (.int p_2), .val (.int p_3), .val (.int p_4), .val (.int v2), .val (.int v4), .val (.int v6), .val (.int v8), .val (.ref b10), .val (.ref b13), .unset, .unset] [(.ref b193), (.ref b193)])
        refine own_go (fun _ k => XS.iconst X193.here hx rfl (hb hby at_91) k) ?_
        show own_Go _ _ _ _ T193 (mkF m 92 #[.val (.int p_1), .val (.int p_2), .val (.int p_3), .val (.int p_4), .val (.int v2), .val (.int v4), .val (.int v6), .val (.int v8), .val (.ref b10), .val (.ref b13), .unset, .unset] [(.int (0 : Int32)), (.ref b193), (.ref b193)])
        refine own_go (fun _ k => XS.iload X193.here hx rfl (hb hby at_92) rfl k) ?_
        show own_Go _ _ _ _ T193 (mkF m 94 #[.val (.int p_1), .val (.int p_2), .val (.int p_3), .val (.int p_4), .val (.int v2), .val (.int v4), .val (.int v6), .val (.int v8), .val (.ref b10), .val (.ref b13), .unset, .unset] [(.int v4), (.int (0 : Int32)), (.ref b193), (.ref b193)])
        obtain ⟨q195, c195, R195, s195, t195⟩ := id V_b193
        have hin195 : ¬ ((0 : Int32) < 0 ∨ c195.slots.size ≤ ((0 : Int32)).toNatClampNeg) := inb_of s195 ⟨by decide, by decide⟩
        obtain ⟨T196, h196, X196, e196, W196, st196⟩ := stI X193 hx hZ e193 R195 (j := (0 : Int32)) hin195 (g := (mkF m 94 #[.val (.int p_1), .val (.int p_2), .val (.int p_3), .val (.int p_4), .val (.int v2), .val (.int v4), .val (.int v6), .val (.int v8), .val (.ref b10), .val (.ref b13), .unset, .unset] [(.int v4), (.int (0 : Int32)), (.ref b193), (.ref b193)])) rfl rfl (hb hby at_94)
        have V196 : own_AV Z h196 b193 .int (3 : Int32) (own_upd (fun _ => (.int (0 : Int32))) 0 (.int v4)) := own_AV.set (k := 0) V_b193 W196 (by decide)
        have z197 := W196.size
        have N196 := Fr.snoc X196 N0 (by omega : n0 ≤ b193)
        refine own_go (fun _ k => st196 _ k) ?_
        show own_Go _ _ _ _ T196 (mkF m 95 #[.val (.int p_1), .val (.int p_2), .val (.int p_3), .val (.int p_4), .val (.int v2), .val (.int v4), .val (.int v6), .val (.int v8), .val (.ref b10), .val (.ref b13), .unset, .unset] [(.ref b193)])
        refine own_go (fun _ k => XS.dup X196.here hx rfl (hb hby at_95) rfl rfl k) ?_
        show own_Go _ _ _ _ T196 (mkF m 96 #[.val (.int p_1), .val (.int p_2), .val (.int p_3), .val (.int p_4), .val (.int v2), .val (.int v4), .val (.int v6), .val (.int v8), .val (.ref b10), .val (.ref b13), .unset, .unset] [(.ref b193), (.ref b193)])
        refine own_go (fun _ k => XS.iconst X196.here hx rfl (hb hby at_96) k) ?_
        show own_Go _ _ _ _ T196 (mkF m 97 #[.val (.int p_1), .val (.int p_2), .val (.int p_3), .val (.int p_4), .val (.int v2), .val (.int v4), .val (.int v6), .val (.int v8), .val (.ref b10), .val (.ref b13), .unset, .unset] [(.int (1 : Int32)), (.ref b193), (.ref b193)])
        refine own_go (fun _ k => XS.iload X196.here hx rfl (hb hby at_97) rfl k) ?_
        show own_Go _ _ _ _ T196 (mkF m 99 #[.val (.int p_1), .val (.int p_2), .val (.int p_3), .val (.int p_4), .val (.int v2), .val (.int v4), .val (.int v6), .val (.int v8), .val (.ref b10), .val (.ref b13), .unset, .unset] [(.int v8), (.int (1 : Int32)), (.ref b193), (.ref b193)])
        obtain ⟨q198, c198, R198, s198, t198⟩ := id V196
        have hin198 : ¬ ((1 : Int32) < 0 ∨ c198.slots.size ≤ ((1 : Int32)).toNatClampNeg) := inb_of s198 ⟨by decide, by decide⟩
        obtain ⟨T199, h199, X199, e199, W199, st199⟩ := stI X196 hx hZ e196 R198 (j := (1 : Int32)) hin198 (g := (mkF m 99 #[.val (.int p_1), .val (.int p_2), .val (.int p_3), .val (.int p_4), .val (.int v2), .val (.int v4), .val (.int v6), .val (.int v8), .val (.ref b10), .val (.ref b13), .unset, .unset] [(.int v8), (.int (1 : Int32)), (.ref b193), (.ref b193)])) rfl rfl (hb hby at_99)
        have V199 : own_AV Z h199 b193 .int (3 : Int32) (own_upd (own_upd (fun _ => (.int (0 : Int32))) 0 (.int v4)) 1 (.int v8)) := own_AV.set (k := 1) V196 W199 (by decide)
        have z200 := W199.size
        have N199 := Fr.snoc X199 N196 (by omega : n0 ≤ b193)
        refine own_go (fun _ k => st199 _ k) ?_
        show own_Go _ _ _ _ T199 (mkF m 100 #[.val (.int p_1), .val (.int p_2), .val (.int p_3), .val (.int p_4), .val (.int v2), .val (.int v4), .val (.int v6), .val (.int v8), .val (.ref b10), .val (.ref b13), .unset, .unset] [(.ref b193)])
        refine own_go (fun _ k => XS.dup X199.here hx rfl (hb hby at_100) rfl rfl k) ?_
        show own_Go _ _ _ _ T199 (mkF m 101 #[.val (.int p_1), .val (.int p_2), .val (.int p_3), .val (.int p_4), .val (.int v2), .val (.int v4), .val (.int v6), .val (.int v8), .val (.ref b10), .val (.ref b13), .unset, .unset] [(.ref b193), (.ref b193)])
        refine own_go (fun _ k => XS.iconst X199.here hx rfl (hb hby at_101) k) ?_
        show own_Go _ _ _ _ T199 (mkF m 102 #[.val (.int p_1), .val (.int p_2), .val (.int p_3), .val (.int p_4), .val (.int v2), .val (.int v4), .val (.int v6), .val (.int v8), .val (.ref b10), .val (.ref b13), .unset, .unset] [(.int (2 : Int32)), (.ref b193), (.ref b193)])
        refine own_go (fun _ k => XS.iload X199.here hx rfl (hb hby at_102) rfl k) ?_
        show own_Go _ _ _ _ T199 (mkF m 104 #[.val (.int p_1), .val (.int p_2), .val (.int p_3), .val (.int p_4), .val (.int v2), .val (.int v4), .val (.int v6), .val (.int v8), .val (.ref b10), .val (.ref b13), .unset, .unset] [(.int v2), (.int (2 : Int32)), (.ref b193), (.ref b193)])
        obtain ⟨q201, c201, R201, s201, t201⟩ := id V199
        have hin201 : ¬ ((2 : Int32) < 0 ∨ c201.slots.size ≤ ((2 : Int32)).toNatClampNeg) := inb_of s201 ⟨by decide, by decide⟩
        obtain ⟨T202, h202, X202, e202, W202, st202⟩ := stI X199 hx hZ e199 R201 (j := (2 : Int32)) hin201 (g := (mkF m 104 #[.val (.int p_1), .val (.int p_2), .val (.int p_3), .val (.int p_4), .val (.int v2), .val (.int v4), .val (.int v6), .val (.int v8), .val (.ref b10), .val (.ref b13), .unset, .unset] [(.int v2), (.int (2 : Int32)), (.ref b193), (.ref b193)])) rfl rfl (hb hby at_104)
        have V202 : own_AV Z h202 b193 .int (3 : Int32) (own_upd (own_upd (own_upd (fun _ => (.int (0 : Int32))) 0 (.int v4)) 1 (.int v8)) 2 (.int v2)) := own_AV.set (k := 2) V199 W202 (by decide)
        have z203 := W202.size
        have N202 := Fr.snoc X202 N199 (by omega : n0 ≤ b193)
        refine own_go (fun _ k => st202 _ k) ?_
        show own_Go _ _ _ _ T202 (mkF m 105 #[.val (.int p_1), .val (.int p_2), .val (.int p_3), .val (.int p_4), .val (.int v2), .val (.int v4), .val (.int v6), .val (.int v8), .val (.ref b10), .val (.ref b13), .unset, .unset] [(.ref b193)])
        refine own_go (fun _ k => XS.goto X202.here hx rfl (pc0 := 105) (pc' := 111) rfl (hb hby at_105) (by decide) (by decide) k) ?_
        show own_Go _ _ _ _ T202 (mkF m 111 #[.val (.int p_1), .val (.int p_2), .val (.int p_3), .val (.int p_4), .val (.int v2), .val (.int v4), .val (.int v6), .val (.int v8), .val (.ref b10), .val (.ref b13), .unset, .unset] [(.ref b193)])
        refine own_go (fun _ k => XS.astore X202.here hx rfl (hb hby at_111) rfl rfl (l' := #[.val (.int p_1), .val (.int p_2), .val (.int p_3), .val (.int p_4), .val (.int v2), .val (.int v4), .val (.int v6), .val (.int v8), .val (.ref b10), .val (.ref b13), .val (.ref b193), .unset]) rfl k) ?_
        show own_Go _ _ _ _ T202 (mkF m 113 #[.val (.int p_1), .val (.int p_2), .val (.int p_3), .val (.int p_4), .val (.int v2), .val (.int v4), .val (.int v6), .val (.int v8), .val (.ref b10), .val (.ref b13), .val (.ref b193), .unset] [])
        obtain ⟨T204, h204, X204, e204, E204, A204, D204, Y204, st204⟩ := newO X202 hx hZ hown (hw _ (List.mem_of_getElem? (i := 2) rfl)) (hw _ (List.mem_of_getElem? (i := 3) rfl)) (hw _ (List.mem_of_getElem? (i := 4) rfl)) e202 (g := (mkF m 113 #[.val (.int p_1), .val (.int p_2), .val (.int p_3), .val (.int p_4), .val (.int v2), .val (.int v4), .val (.int v6), .val (.int v8), .val (.ref b10), .val (.ref b13), .val (.ref b193), .unset] [])) rfl (hb hby at_113) (by decide) (by decide)
        obtain ⟨b204, g204⟩ : ∃ z, z = h202.size := ⟨_, rfl⟩
        rw [← g204] at A204 D204 Y204 st204
        have z205 := E204.1
        have lt_b204 := own_lt A204.lt
        have F_heads_b204 : Fld Z h204 b204 "com/example/kalchas/kalchas/propositional/HornClauses" "heads" "[I" .null := D204 (Or.inl (hw _ (List.mem_of_getElem? (i := 12) rfl))) (ty := (.array .int)) (by decide)
        have F_bodyStarts_b204 : Fld Z h204 b204 "com/example/kalchas/kalchas/propositional/HornClauses" "bodyStarts" "[I" .null := D204 (Or.inl (hw _ (List.mem_of_getElem? (i := 14) rfl))) (ty := (.array .int)) (by decide)
        have F_bodies_b204 : Fld Z h204 b204 "com/example/kalchas/kalchas/propositional/HornClauses" "bodies" "[I" .null := D204 (Or.inl (hw _ (List.mem_of_getElem? (i := 16) rfl))) (ty := (.array .int)) (by decide)
        have F_occurrences_b204 : Fld Z h204 b204 "com/example/kalchas/kalchas/propositional/HornClauses" "occurrences" "[I" .null := D204 (Or.inl (hw _ (List.mem_of_getElem? (i := 23) rfl))) (ty := (.array .int)) (by decide)
        have F_variableCount_b204 : Fld Z h204 b204 "com/example/kalchas/kalchas/propositional/HornClauses" "variableCount" "I" (.int (0 : Int32)) := D204 (Or.inl (hw _ (List.mem_of_getElem? (i := 25) rfl))) (ty := .int) (by decide)
        have F_clauseCount_b204 : Fld Z h204 b204 "com/example/kalchas/kalchas/propositional/HornClauses" "clauseCount" "I" (.int (0 : Int32)) := D204 (Or.inl (hw _ (List.mem_of_getElem? (i := 48) rfl))) (ty := .int) (by decide)
        refine own_go (fun _ k => st204 _ k) ?_
        show own_Go _ _ _ _ T204 (mkF m 116 #[.val (.int p_1), .val (.int p_2), .val (.int p_3), .val (.int p_4), .val (.int v2), .val (.int v4), .val (.int v6), .val (.int v8), .val (.ref b10), .val (.ref b13), .val (.ref b193), .unset] [(.ref b204)])
        refine own_go (fun _ k => XS.dup X204.here hx rfl (hb hby at_116) rfl rfl k) ?_
        show own_Go _ _ _ _ T204 (mkF m 117 #[.val (.int p_1), .val (.int p_2), .val (.int p_3), .val (.int p_4), .val (.int v2), .val (.int v4), .val (.int v6), .val (.int v8), .val (.ref b10), .val (.ref b13), .val (.ref b193), .unset] [(.ref b204), (.ref b204)])
        obtain ⟨_, _, ⟨T206, L206, k206, n206⟩, -, X206, ⟨Lc206, hQ206, l206, y206, z206⟩, st206⟩ := X204.specialBack hx (y := (⟨"com/example/kalchas/kalchas/propositional/HornClauses", "<init>", "()V"⟩ : MethodName)) rfl hown (mvT hZ (hw _ (List.mem_of_getElem? (i := 5) rfl))) (mvT hZ (hw _ (List.mem_of_getElem? (i := 6) rfl))) (mvT hZ (hw _ (List.mem_of_getElem? (i := 7) rfl))) (by decide) (backOf (W := 1) (own_rm1 l Z a0 hw [] b204 .null .null .null .null (0 : Int32) (0 : Int32) h204 n0 (by omega) A204 F_heads_b204 F_bodyStarts_b204 F_bodies_b204 F_occurrences_b204 F_variableCount_b204 F_clauseCount_b204 (by omega)) hZ (hw _ (List.mem_of_getElem? (i := 7) rfl)) (hw _ (List.mem_of_getElem? (i := 4) rfl)) (by decide) (by decide)) (g := (mkF m 117 #[.val (.int p_1), .val (.int p_2), .val (.int p_3), .val (.int p_4), .val (.int v2), .val (.int v4), .val (.int v6), .val (.int v8), .val (.ref b10), .val (.ref b13), .val (.ref b193), .unset] [(.ref b204), (.ref b204)])) rfl (by rw [hml]; rfl) (Steps.refl _) (a := b204) (argsL := []) (rest := [(.ref b204)]) (lenOf own_pd2 rfl) rfl (by show 2 * 0 + _ ≤ _; exact Nat.le_of_eq rfl) (hb hby at_117) (fun _ _ => ⟨rfl, e204, (by decide : 4 + 3 ≤ _), (by decide : 12 + 193 ≤ _)⟩)
        dsimp only [Pt.U, Pt.locs, Pt.cells, Pt.slots] at X206 l206 y206 z206 st206 hQ206
        have y206 : k206 = 7 := y206
        have z206 : n206 = 205 := z206
        obtain ⟨x_207, x_208, x_209, rfl, N206q, K206q, f210, f211, f212, f213, f214, f215, f216, f217, f218, f219, f220, f221, f222, f223⟩ := hQ206
        have N206 : Fr n0 L206 := by rw [l206]; exact Fr.app N202 N206q
        have z224 := K206q.1
        have z225 := own_lt f210.lt
        have z226 := own_lt f211.lt
        have z227 := own_lt f212.lt
        have z228 := own_lt f213.lt
        have z229 := own_lt f214.lt
        have z230 := own_lt f215.lt
        have z231 := own_lt f216.lt
        have z232 := own_lt f217.lt
        have z233 := own_lt f218.lt
        have z234 := own_lt f219.lt
        simp only [own_lts, and_true] at f223
        refine own_go (fun _ k => st206.trans k) ?_
        show own_Go _ _ _ _ T206 (mkF m 120 #[.val (.int p_1), .val (.int p_2), .val (.int p_3), .val (.int p_4), .val (.int v2), .val (.int v4), .val (.int v6), .val (.int v8), .val (.ref b10), .val (.ref b13), .val (.ref b193), .unset] [(.ref b204)])
        refine own_go (fun _ k => XS.astore X206.here hx rfl (hb hby at_120) rfl rfl (l' := #[.val (.int p_1), .val (.int p_2), .val (.int p_3), .val (.int p_4), .val (.int v2), .val (.int v4), .val (.int v6), .val (.int v8), .val (.ref b10), .val (.ref b13), .val (.ref b193), .val (.ref b204)]) rfl k) ?_
        show own_Go _ _ _ _ T206 (mkF m 122 #[.val (.int p_1), .val (.int p_2), .val (.int p_3), .val (.int p_4), .val (.int v2), .val (.int v4), .val (.int v6), .val (.int v8), .val (.ref b10), .val (.ref b13), .val (.ref b193), .val (.ref b204)] [])
        refine own_go (fun _ k => XS.aload X206.here hx rfl (hb hby at_122) rfl rfl k) ?_
        show own_Go _ _ _ _ T206 (mkF m 124 #[.val (.int p_1), .val (.int p_2), .val (.int p_3), .val (.int p_4), .val (.int v2), .val (.int v4), .val (.int v6), .val (.int v8), .val (.ref b10), .val (.ref b13), .val (.ref b193), .val (.ref b204)] [(.ref b204)])
        obtain ⟨cq235, kq235, q235a, q235b, q235c⟩ := isOf hZ rfl f210
        obtain ⟨_, _, ⟨T235, L235, k235, n235⟩, -, X235, ⟨Lc235, hQ235, l235, y235, z235⟩, st235⟩ := X206.virtualBack hx (y := (⟨"com/example/kalchas/kalchas/propositional/HornClauses", "newVariable", "()I"⟩ : MethodName)) (z := (⟨"com/example/kalchas/kalchas/propositional/HornClauses", "newVariable", "()I"⟩ : MethodName)) hown (mvT hZ (hw _ (List.mem_of_getElem? (i := 17) rfl))) (mvT hZ (hw _ (List.mem_of_getElem? (i := 18) rfl))) (notFace_of_selects (args := #[]) (mvT hZ (hw _ (List.mem_of_getElem? (i := 20) rfl)))) (mvT hZ (hw _ (List.mem_of_getElem? (i := 20) rfl))) (mvT hZ (hw _ (List.mem_of_getElem? (i := 19) rfl))) (by decide) (backOf (W := 0) (own_rm3 l Z a0 hw [] b204 (.ref x_207) (.ref x_208) (.ref x_209) .null (0 : Int32) (0 : Int32) T206.heap n0 (by omega) f210 f211 f212 f213 f214 f215 f216 (by omega)) hZ (hw _ (List.mem_of_getElem? (i := 21) rfl)) (hw _ (List.mem_of_getElem? (i := 4) rfl)) (by decide) (by decide)) q235a q235c (g := (mkF m 124 #[.val (.int p_1), .val (.int p_2), .val (.int p_3), .val (.int p_4), .val (.int v2), .val (.int v4), .val (.int v6), .val (.int v8), .val (.ref b10), .val (.ref b13), .val (.ref b193), .val (.ref b204)] [(.ref b204)])) rfl (by rw [hml]; rfl) (Steps.refl _) (argsL := []) (rest := []) (lenOf own_pd3 rfl) rfl (by show 2 * 0 + _ ≤ _; exact Nat.le_of_eq rfl) (hb hby at_124) (fun _ _ => ⟨rfl, rfl, (by show k206 + _ ≤ _; rw [y206]; decide), (by show n206 + _ ≤ _; rw [z206]; decide)⟩)
        dsimp only [Pt.U, Pt.locs, Pt.cells, Pt.slots] at X235 l235 y235 z235 st235 hQ235
        have y235 : k235 = 7 := own_addeq y235 (congrArg (fun q => q) y206) rfl
        have z235 : n235 = 205 := own_addeq z235 (congrArg (fun q => q) z206) rfl
        obtain ⟨rfl, N235q, K235q, f236, f237, f238, f239, f240, f241, f242⟩ := hQ235
        have N235 : Fr n0 L235 := by rw [l235]; exact Fr.app N206 N235q
        have z243 := K235q.1
        have z244 := own_lt f236.lt
        have z245 := own_lt f237.lt
        have z246 := own_lt f238.lt
        have z247 := own_lt f239.lt
        have z248 := own_lt f240.lt
        have f241 : Fld Z T235.heap b204 "com/example/kalchas/kalchas/propositional/HornClauses" "variableCount" "I" (.int (1 : Int32)) := f241
        have z249 := own_lt f241.lt
        have z250 := own_lt f242.lt
        refine own_go (fun _ k => st235.trans k) ?_
        show own_Go _ _ _ _ T235 (mkF m 127 #[.val (.int p_1), .val (.int p_2), .val (.int p_3), .val (.int p_4), .val (.int v2), .val (.int v4), .val (.int v6), .val (.int v8), .val (.ref b10), .val (.ref b13), .val (.ref b193), .val (.ref b204)] [(.int (0 : Int32))])
        refine own_go (fun _ k => XS.pop X235.here hx rfl (hb hby at_127) rfl rfl k) ?_
        show own_Go _ _ _ _ T235 (mkF m 128 #[.val (.int p_1), .val (.int p_2), .val (.int p_3), .val (.int p_4), .val (.int v2), .val (.int v4), .val (.int v6), .val (.int v8), .val (.ref b10), .val (.ref b13), .val (.ref b193), .val (.ref b204)] [])
        refine own_go (fun _ k => XS.aload X235.here hx rfl (hb hby at_128) rfl rfl k) ?_
        show own_Go _ _ _ _ T235 (mkF m 130 #[.val (.int p_1), .val (.int p_2), .val (.int p_3), .val (.int p_4), .val (.int v2), .val (.int v4), .val (.int v6), .val (.int v8), .val (.ref b10), .val (.ref b13), .val (.ref b193), .val (.ref b204)] [(.ref b204)])
        obtain ⟨cq251, kq251, q251a, q251b, q251c⟩ := isOf hZ rfl f236
        obtain ⟨_, _, ⟨T251, L251, k251, n251⟩, -, X251, ⟨Lc251, hQ251, l251, y251, z251⟩, st251⟩ := X235.virtualBack hx (y := (⟨"com/example/kalchas/kalchas/propositional/HornClauses", "newVariable", "()I"⟩ : MethodName)) (z := (⟨"com/example/kalchas/kalchas/propositional/HornClauses", "newVariable", "()I"⟩ : MethodName)) hown (mvT hZ (hw _ (List.mem_of_getElem? (i := 17) rfl))) (mvT hZ (hw _ (List.mem_of_getElem? (i := 18) rfl))) (notFace_of_selects (args := #[]) (mvT hZ (hw _ (List.mem_of_getElem? (i := 20) rfl)))) (mvT hZ (hw _ (List.mem_of_getElem? (i := 20) rfl))) (mvT hZ (hw _ (List.mem_of_getElem? (i := 19) rfl))) (by decide) (backOf (W := 0) (own_rm3 l Z a0 hw [] b204 (.ref x_207) (.ref x_208) (.ref x_209) .null (1 : Int32) (0 : Int32) T235.heap n0 (by omega) f236 f237 f238 f239 f240 f241 f242 (by omega)) hZ (hw _ (List.mem_of_getElem? (i := 21) rfl)) (hw _ (List.mem_of_getElem? (i := 4) rfl)) (by decide) (by decide)) q251a q251c (g := (mkF m 130 #[.val (.int p_1), .val (.int p_2), .val (.int p_3), .val (.int p_4), .val (.int v2), .val (.int v4), .val (.int v6), .val (.int v8), .val (.ref b10), .val (.ref b13), .val (.ref b193), .val (.ref b204)] [(.ref b204)])) rfl (by rw [hml]; rfl) (Steps.refl _) (argsL := []) (rest := []) (lenOf own_pd3 rfl) rfl (by show 2 * 0 + _ ≤ _; exact Nat.le_of_eq rfl) (hb hby at_130) (fun _ _ => ⟨rfl, rfl, (by show k235 + _ ≤ _; rw [y235]; decide), (by show n235 + _ ≤ _; rw [z235]; decide)⟩)
        dsimp only [Pt.U, Pt.locs, Pt.cells, Pt.slots] at X251 l251 y251 z251 st251 hQ251
        have y251 : k251 = 7 := own_addeq y251 (congrArg (fun q => q) y235) rfl
        have z251 : n251 = 205 := own_addeq z251 (congrArg (fun q => q) z235) rfl
        obtain ⟨rfl, N251q, K251q, f252, f253, f254, f255, f256, f257, f258⟩ := hQ251
        have N251 : Fr n0 L251 := by rw [l251]; exact Fr.app N235 N251q
        have z259 := K251q.1
        have z260 := own_lt f252.lt
        have z261 := own_lt f253.lt
        have z262 := own_lt f254.lt
        have z263 := own_lt f255.lt
        have z264 := own_lt f256.lt
        have f257 : Fld Z T251.heap b204 "com/example/kalchas/kalchas/propositional/HornClauses" "variableCount" "I" (.int (2 : Int32)) := f257
        have z265 := own_lt f257.lt
        have z266 := own_lt f258.lt
        refine own_go (fun _ k => st251.trans k) ?_
        show own_Go _ _ _ _ T251 (mkF m 133 #[.val (.int p_1), .val (.int p_2), .val (.int p_3), .val (.int p_4), .val (.int v2), .val (.int v4), .val (.int v6), .val (.int v8), .val (.ref b10), .val (.ref b13), .val (.ref b193), .val (.ref b204)] [(.int (1 : Int32))])
        refine own_go (fun _ k => XS.pop X251.here hx rfl (hb hby at_133) rfl rfl k) ?_
        show own_Go _ _ _ _ T251 (mkF m 134 #[.val (.int p_1), .val (.int p_2), .val (.int p_3), .val (.int p_4), .val (.int v2), .val (.int v4), .val (.int v6), .val (.int v8), .val (.ref b10), .val (.ref b13), .val (.ref b193), .val (.ref b204)] [])
        refine own_go (fun _ k => XS.aload X251.here hx rfl (hb hby at_134) rfl rfl k) ?_
        show own_Go _ _ _ _ T251 (mkF m 136 #[.val (.int p_1), .val (.int p_2), .val (.int p_3), .val (.int p_4), .val (.int v2), .val (.int v4), .val (.int v6), .val (.int v8), .val (.ref b10), .val (.ref b13), .val (.ref b193), .val (.ref b204)] [(.ref b204)])
        obtain ⟨cq267, kq267, q267a, q267b, q267c⟩ := isOf hZ rfl f252
        obtain ⟨_, _, ⟨T267, L267, k267, n267⟩, -, X267, ⟨Lc267, hQ267, l267, y267, z267⟩, st267⟩ := X251.virtualBack hx (y := (⟨"com/example/kalchas/kalchas/propositional/HornClauses", "newVariable", "()I"⟩ : MethodName)) (z := (⟨"com/example/kalchas/kalchas/propositional/HornClauses", "newVariable", "()I"⟩ : MethodName)) hown (mvT hZ (hw _ (List.mem_of_getElem? (i := 17) rfl))) (mvT hZ (hw _ (List.mem_of_getElem? (i := 18) rfl))) (notFace_of_selects (args := #[]) (mvT hZ (hw _ (List.mem_of_getElem? (i := 20) rfl)))) (mvT hZ (hw _ (List.mem_of_getElem? (i := 20) rfl))) (mvT hZ (hw _ (List.mem_of_getElem? (i := 19) rfl))) (by decide) (backOf (W := 0) (own_rm3 l Z a0 hw [] b204 (.ref x_207) (.ref x_208) (.ref x_209) .null (2 : Int32) (0 : Int32) T251.heap n0 (by omega) f252 f253 f254 f255 f256 f257 f258 (by omega)) hZ (hw _ (List.mem_of_getElem? (i := 21) rfl)) (hw _ (List.mem_of_getElem? (i := 4) rfl)) (by decide) (by decide)) q267a q267c (g := (mkF m 136 #[.val (.int p_1), .val (.int p_2), .val (.int p_3), .val (.int p_4), .val (.int v2), .val (.int v4), .val (.int v6), .val (.int v8), .val (.ref b10), .val (.ref b13), .val (.ref b193), .val (.ref b204)] [(.ref b204)])) rfl (by rw [hml]; rfl) (Steps.refl _) (argsL := []) (rest := []) (lenOf own_pd3 rfl) rfl (by show 2 * 0 + _ ≤ _; exact Nat.le_of_eq rfl) (hb hby at_136) (fun _ _ => ⟨rfl, rfl, (by show k251 + _ ≤ _; rw [y251]; decide), (by show n251 + _ ≤ _; rw [z251]; decide)⟩)
        dsimp only [Pt.U, Pt.locs, Pt.cells, Pt.slots] at X267 l267 y267 z267 st267 hQ267
        have y267 : k267 = 7 := own_addeq y267 (congrArg (fun q => q) y251) rfl
        have z267 : n267 = 205 := own_addeq z267 (congrArg (fun q => q) z251) rfl
        obtain ⟨rfl, N267q, K267q, f268, f269, f270, f271, f272, f273, f274⟩ := hQ267
        have N267 : Fr n0 L267 := by rw [l267]; exact Fr.app N251 N267q
        have z275 := K267q.1
        have z276 := own_lt f268.lt
        have z277 := own_lt f269.lt
        have z278 := own_lt f270.lt
        have z279 := own_lt f271.lt
        have z280 := own_lt f272.lt
        have f273 : Fld Z T267.heap b204 "com/example/kalchas/kalchas/propositional/HornClauses" "variableCount" "I" (.int (3 : Int32)) := f273
        have z281 := own_lt f273.lt
        have z282 := own_lt f274.lt
        refine own_go (fun _ k => st267.trans k) ?_
        show own_Go _ _ _ _ T267 (mkF m 139 #[.val (.int p_1), .val (.int p_2), .val (.int p_3), .val (.int p_4), .val (.int v2), .val (.int v4), .val (.int v6), .val (.int v8), .val (.ref b10), .val (.ref b13), .val (.ref b193), .val (.ref b204)] [(.int (2 : Int32))])
        refine own_go (fun _ k => XS.pop X267.here hx rfl (hb hby at_139) rfl rfl k) ?_
        show own_Go _ _ _ _ T267 (mkF m 140 #[.val (.int p_1), .val (.int p_2), .val (.int p_3), .val (.int p_4), .val (.int v2), .val (.int v4), .val (.int v6), .val (.int v8), .val (.ref b10), .val (.ref b13), .val (.ref b193), .val (.ref b204)] [])
        refine own_go (fun _ k => XS.aload X267.here hx rfl (hb hby at_140) rfl rfl k) ?_
        show own_Go _ _ _ _ T267 (mkF m 142 #[.val (.int p_1), .val (.int p_2), .val (.int p_3), .val (.int p_4), .val (.int v2), .val (.int v4), .val (.int v6), .val (.int v8), .val (.ref b10), .val (.ref b13), .val (.ref b193), .val (.ref b204)] [(.ref b204)])
        refine own_go (fun _ k => XS.iload X267.here hx rfl (hb hby at_142) rfl k) ?_
        show own_Go _ _ _ _ T267 (mkF m 144 #[.val (.int p_1), .val (.int p_2), .val (.int p_3), .val (.int p_4), .val (.int v2), .val (.int v4), .val (.int v6), .val (.int v8), .val (.ref b10), .val (.ref b13), .val (.ref b193), .val (.ref b204)] [(.int v2), (.ref b204)])
        refine own_go (fun _ k => XS.aload X267.here hx rfl (hb hby at_144) rfl rfl k) ?_
        show own_Go _ _ _ _ T267 (mkF m 146 #[.val (.int p_1), .val (.int p_2), .val (.int p_3), .val (.int p_4), .val (.int v2), .val (.int v4), .val (.int v6), .val (.int v8), .val (.ref b10), .val (.ref b13), .val (.ref b193), .val (.ref b204)] [(.ref b10), (.int v2), (.ref b204)])
        have f283 : own_AV Z T267.heap x_207 .int (64 : Int32) (fun _ => (.int (0 : Int32))) := (((f217.keep K235q (ninS (own_ne (by omega)) nin0)).keep K251q (ninS (own_ne (by omega)) nin0)).keep K267q (ninS (own_ne (by omega)) nin0))
        have f284 : own_AV Z T267.heap x_208 .int (65 : Int32) (fun _ => (.int (0 : Int32))) := (((f218.keep K235q (ninS (own_ne (by omega)) nin0)).keep K251q (ninS (own_ne (by omega)) nin0)).keep K267q (ninS (own_ne (by omega)) nin0))
        have f285 : own_AV Z T267.heap x_209 .int (64 : Int32) (fun _ => (.int (0 : Int32))) := (((f219.keep K235q (ninS (own_ne (by omega)) nin0)).keep K251q (ninS (own_ne (by omega)) nin0)).keep K267q (ninS (own_ne (by omega)) nin0))
        have f286 : own_AV Z T267.heap b10 .int (0 : Int32) (fun _ => (.int (0 : Int32))) := ((((((((((V_b10.ext E13).ext E193).other W196 (own_ne (by omega))).other W199 (own_ne (by omega))).other W202 (own_ne (by omega))).ext E204).keep K206q (ninS (own_ne (by omega)) nin0)).keep K235q (ninS (own_ne (by omega)) nin0)).keep K251q (ninS (own_ne (by omega)) nin0)).keep K267q (ninS (own_ne (by omega)) nin0))
        obtain ⟨cq287, kq287, q287a, q287b, q287c⟩ := isOf hZ rfl f268
        obtain ⟨_, _, ⟨T287, L287, k287, n287⟩, -, X287, hS287, gr287, ⟨Lc287, hQ287, l287, y287, z287⟩, st287⟩ := X267.virtualBackS hx (y := (⟨"com/example/kalchas/kalchas/propositional/HornClauses", "add", "(I[I)V"⟩ : MethodName)) (z := (⟨"com/example/kalchas/kalchas/propositional/HornClauses", "add", "(I[I)V"⟩ : MethodName)) hown (mvT hZ (hw _ (List.mem_of_getElem? (i := 26) rfl))) (mvT hZ (hw _ (List.mem_of_getElem? (i := 27) rfl))) (notFace_of_selects (args := #[]) (mvT hZ (hw _ (List.mem_of_getElem? (i := 29) rfl)))) (mvT hZ (hw _ (List.mem_of_getElem? (i := 29) rfl))) (mvT hZ (hw _ (List.mem_of_getElem? (i := 28) rfl))) (by decide) (backOfS (W := 0) (own_rm4_00 l Z a0 hw [] b204 v2 b10 x_207 x_208 x_209 (fun _ => (.int (0 : Int32))) (fun _ => (.int (0 : Int32))) (fun _ => (.int (0 : Int32))) (0 : Int32) .null T267.heap n0 (by omega) f268 f273 f274 f269 f270 f271 f272 f283 f284 f285 f286 (by simp only [own_lts, and_true]; omega) rfl (by decide) (fun _ => rfl) (show ¬ (v2 < 0) by first | assumption | omega | decide) (show v2 < (3 : Int32) by first | assumption | omega | decide) (by omega) (by omega) (by omega) (by omega)) hZ (hw _ (List.mem_of_getElem? (i := 30) rfl)) (hw _ (List.mem_of_getElem? (i := 4) rfl)) (by decide) (by decide)) q287a q287c (g := (mkF m 146 #[.val (.int p_1), .val (.int p_2), .val (.int p_3), .val (.int p_4), .val (.int v2), .val (.int v4), .val (.int v6), .val (.int v8), .val (.ref b10), .val (.ref b13), .val (.ref b193), .val (.ref b204)] [(.ref b10), (.int v2), (.ref b204)])) rfl (by rw [hml]; rfl) (Steps.refl _) (argsL := [(.int v2), (.ref b10)]) (rest := []) (lenOf own_pd4 rfl) rfl (by show 2 * 0 + _ ≤ _; exact Nat.le_of_eq rfl) (hb hby at_146) (fun _ _ => ⟨rfl, rfl, (by show k267 + _ ≤ _; rw [y267]; decide), (by show n267 + _ ≤ _; rw [z267]; decide)⟩)
        dsimp only [Pt.U, Pt.locs, Pt.cells, Pt.slots] at X287 l287 y287 z287 st287 hQ287 hS287 gr287
        have y287 : k287 = 9 := own_addeq y287 (congrArg (fun q => q) y267) rfl
        have z287 : n287 = 241 := own_addeq z287 (congrArg (fun q => q) z267) rfl
        have Wn287 := hS287.1
        obtain ⟨X287, hS287, hZ, hown⟩ := rebS hS0 (n1 := T267.heap.size) (by omega) X287 hS287 gr287 hZ hown
        obtain ⟨gb_288, rfl, N287q, K287q, f289, f290, f291, f292, f293, f294, f295, f296, f297, f298, f299⟩ := hQ287
        have N287 : Fr n0 L287 := by rw [l287]; exact Fr.app N267 N287q
        have z300 := K287q.1
        have z301 := own_lt f289.lt
        have z302 := own_lt f290.lt
        have z303 := own_lt f291.lt
        have z304 := own_lt f292.lt
        have z305 := own_lt f293.lt
        have z306 := own_lt f294.lt
        have z307 := own_lt f295.lt
        have z308 := own_lt f296.lt
        have z309 := own_lt f297.lt
        have z310 := own_lt f298.lt
        refine own_go (fun _ k => st287.trans k) ?_
        show own_Go _ _ _ _ T287 (mkF m 149 #[.val (.int p_1), .val (.int p_2), .val (.int p_3), .val (.int p_4), .val (.int v2), .val (.int v4), .val (.int v6), .val (.int v8), .val (.ref b10), .val (.ref b13), .val (.ref b193), .val (.ref b204)] [])
        refine own_go (fun _ k => XS.aload X287.here hx rfl (hb hby at_149) rfl rfl k) ?_
        show own_Go _ _ _ _ T287 (mkF m 151 #[.val (.int p_1), .val (.int p_2), .val (.int p_3), .val (.int p_4), .val (.int v2), .val (.int v4), .val (.int v6), .val (.int v8), .val (.ref b10), .val (.ref b13), .val (.ref b193), .val (.ref b204)] [(.ref b204)])
        refine own_go (fun _ k => XS.iload X287.here hx rfl (hb hby at_151) rfl k) ?_
        show own_Go _ _ _ _ T287 (mkF m 153 #[.val (.int p_1), .val (.int p_2), .val (.int p_3), .val (.int p_4), .val (.int v2), .val (.int v4), .val (.int v6), .val (.int v8), .val (.ref b10), .val (.ref b13), .val (.ref b193), .val (.ref b204)] [(.int v4), (.ref b204)])
        refine own_go (fun _ k => XS.aload X287.here hx rfl (hb hby at_153) rfl rfl k) ?_
        show own_Go _ _ _ _ T287 (mkF m 155 #[.val (.int p_1), .val (.int p_2), .val (.int p_3), .val (.int p_4), .val (.int v2), .val (.int v4), .val (.int v6), .val (.int v8), .val (.ref b10), .val (.ref b13), .val (.ref b193), .val (.ref b204)] [(.ref b13), (.int v4), (.ref b204)])
        have f311 : own_AV Z T287.heap b13 .int (0 : Int32) (fun _ => (.int (0 : Int32))) := ((((((((((V_b13.ext E193).other W196 (own_ne (by omega))).other W199 (own_ne (by omega))).other W202 (own_ne (by omega))).ext E204).keep K206q (ninS (own_ne (by omega)) nin0)).keep K235q (ninS (own_ne (by omega)) nin0)).keep K251q (ninS (own_ne (by omega)) nin0)).keep K267q (ninS (own_ne (by omega)) nin0)).keep K287q (ninS (own_ne (by omega)) (ninS (own_ne (by omega)) (ninS (own_ne (by omega)) (ninS (own_ne (by omega)) nin0)))))
        obtain ⟨cq312, kq312, q312a, q312b, q312c⟩ := isOf hZ rfl f289
        obtain ⟨_, _, ⟨T312, L312, k312, n312⟩, -, X312, hS312, gr312, ⟨Lc312, hQ312, l312, y312, z312⟩, st312⟩ := X287.virtualBackS hx (y := (⟨"com/example/kalchas/kalchas/propositional/HornClauses", "add", "(I[I)V"⟩ : MethodName)) (z := (⟨"com/example/kalchas/kalchas/propositional/HornClauses", "add", "(I[I)V"⟩ : MethodName)) hown (mvT hZ (hw _ (List.mem_of_getElem? (i := 26) rfl))) (mvT hZ (hw _ (List.mem_of_getElem? (i := 27) rfl))) (notFace_of_selects (args := #[]) (mvT hZ (hw _ (List.mem_of_getElem? (i := 29) rfl)))) (mvT hZ (hw _ (List.mem_of_getElem? (i := 29) rfl))) (mvT hZ (hw _ (List.mem_of_getElem? (i := 28) rfl))) (by decide) (backOfS (W := 0) (own_rm4_10 l Z a0 hw [] b204 v4 b13 x_207 x_208 x_209 (own_upd (fun _ => (.int (0 : Int32))) 0 (.int v2)) (own_upd (fun _ => (.int (0 : Int32))) 1 (.int ((0 : Int32) + (0 : Int32)))) gb_288 ((0 : Int32) + (0 : Int32)) .null T287.heap n0 (by omega) f289 f290 f291 f292 f293 f294 f295 f296 f297 f298 f311 (by simp only [own_lts, and_true]; omega) rfl (by decide) f299 (show ¬ (v4 < 0) by first | assumption | omega | decide) (show v4 < (3 : Int32) by first | assumption | omega | decide) (by omega) (by omega) (by omega) (by omega)) hZ (hw _ (List.mem_of_getElem? (i := 30) rfl)) (hw _ (List.mem_of_getElem? (i := 4) rfl)) (by decide) (by decide)) q312a q312c (g := (mkF m 155 #[.val (.int p_1), .val (.int p_2), .val (.int p_3), .val (.int p_4), .val (.int v2), .val (.int v4), .val (.int v6), .val (.int v8), .val (.ref b10), .val (.ref b13), .val (.ref b193), .val (.ref b204)] [(.ref b13), (.int v4), (.ref b204)])) rfl (by rw [hml]; rfl) (Steps.refl _) (argsL := [(.int v4), (.ref b13)]) (rest := []) (lenOf own_pd4 rfl) rfl (by show 2 * 0 + _ ≤ _; exact Nat.le_of_eq rfl) (hb hby at_155) (fun _ _ => ⟨rfl, rfl, (by show k287 + _ ≤ _; rw [y287]; decide), (by show n287 + _ ≤ _; rw [z287]; decide)⟩)
        dsimp only [Pt.U, Pt.locs, Pt.cells, Pt.slots] at X312 l312 y312 z312 st312 hQ312 hS312 gr312
        have y312 : k312 = 11 := own_addeq y312 (congrArg (fun q => q) y287) rfl
        have z312 : n312 = 277 := own_addeq z312 (congrArg (fun q => q) z287) rfl
        have Wn312 := hS312.1
        obtain ⟨X312, hS312, hZ, hown⟩ := rebS hS287 (n1 := T287.heap.size) (by omega) X312 hS312 gr312 hZ hown
        obtain ⟨gb_313, rfl, N312q, K312q, f314, f315, f316, f317, f318, f319, f320, f321, f322, f323, f324⟩ := hQ312
        have N312 : Fr n0 L312 := by rw [l312]; exact Fr.app N287 N312q
        have z325 := K312q.1
        have z326 := own_lt f314.lt
        have z327 := own_lt f315.lt
        have z328 := own_lt f316.lt
        have z329 := own_lt f317.lt
        have z330 := own_lt f318.lt
        have z331 := own_lt f319.lt
        have z332 := own_lt f320.lt
        have z333 := own_lt f321.lt
        have z334 := own_lt f322.lt
        have z335 := own_lt f323.lt
        refine own_go (fun _ k => st312.trans k) ?_
        show own_Go _ _ _ _ T312 (mkF m 158 #[.val (.int p_1), .val (.int p_2), .val (.int p_3), .val (.int p_4), .val (.int v2), .val (.int v4), .val (.int v6), .val (.int v8), .val (.ref b10), .val (.ref b13), .val (.ref b193), .val (.ref b204)] [])
        refine own_go (fun _ k => XS.aload X312.here hx rfl (hb hby at_158) rfl rfl k) ?_
        show own_Go _ _ _ _ T312 (mkF m 160 #[.val (.int p_1), .val (.int p_2), .val (.int p_3), .val (.int p_4), .val (.int v2), .val (.int v4), .val (.int v6), .val (.int v8), .val (.ref b10), .val (.ref b13), .val (.ref b193), .val (.ref b204)] [(.ref b204)])
        refine own_go (fun _ k => XS.iload X312.here hx rfl (hb hby at_160) rfl k) ?_
        show own_Go _ _ _ _ T312 (mkF m 162 #[.val (.int p_1), .val (.int p_2), .val (.int p_3), .val (.int p_4), .val (.int v2), .val (.int v4), .val (.int v6), .val (.int v8), .val (.ref b10), .val (.ref b13), .val (.ref b193), .val (.ref b204)] [(.int v6), (.ref b204)])
        refine own_go (fun _ k => XS.aload X312.here hx rfl (hb hby at_162) rfl rfl k) ?_
        show own_Go _ _ _ _ T312 (mkF m 164 #[.val (.int p_1), .val (.int p_2), .val (.int p_3), .val (.int p_4), .val (.int v2), .val (.int v4), .val (.int v6), .val (.int v8), .val (.ref b10), .val (.ref b13), .val (.ref b193), .val (.ref b204)] [(.ref b193), (.int v6), (.ref b204)])
        have f336 : own_AV Z T312.heap b193 .int (3 : Int32) (own_upd (own_upd (own_upd (fun _ => (.int (0 : Int32))) 0 (.int v4)) 1 (.int v8)) 2 (.int v2)) := (((((((V202.ext E204).keep K206q (ninS (own_ne (by omega)) nin0)).keep K235q (ninS (own_ne (by omega)) nin0)).keep K251q (ninS (own_ne (by omega)) nin0)).keep K267q (ninS (own_ne (by omega)) nin0)).keep K287q (ninS (own_ne (by omega)) (ninS (own_ne (by omega)) (ninS (own_ne (by omega)) (ninS (own_ne (by omega)) nin0))))).keep K312q (ninS (own_ne (by omega)) (ninS (own_ne (by omega)) (ninS (own_ne (by omega)) (ninS (own_ne (by omega)) nin0)))))
        obtain ⟨cq337, kq337, q337a, q337b, q337c⟩ := isOf hZ rfl f314
        obtain ⟨_, _, ⟨T337, L337, k337, n337⟩, -, X337, hS337, gr337, ⟨Lc337, hQ337, l337, y337, z337⟩, st337⟩ := X312.virtualBackS hx (y := (⟨"com/example/kalchas/kalchas/propositional/HornClauses", "add", "(I[I)V"⟩ : MethodName)) (z := (⟨"com/example/kalchas/kalchas/propositional/HornClauses", "add", "(I[I)V"⟩ : MethodName)) hown (mvT hZ (hw _ (List.mem_of_getElem? (i := 26) rfl))) (mvT hZ (hw _ (List.mem_of_getElem? (i := 27) rfl))) (notFace_of_selects (args := #[]) (mvT hZ (hw _ (List.mem_of_getElem? (i := 29) rfl)))) (mvT hZ (hw _ (List.mem_of_getElem? (i := 29) rfl))) (mvT hZ (hw _ (List.mem_of_getElem? (i := 28) rfl))) (by decide) (backOfS (W := 0) (own_rm4_23 l Z a0 hw [] b204 v6 b193 x_207 x_208 x_209 (own_upd (own_upd (fun _ => (.int (0 : Int32))) 0 (.int v2)) 1 (.int v4)) (own_upd (own_upd (fun _ => (.int (0 : Int32))) 1 (.int ((0 : Int32) + (0 : Int32)))) 2 (.int (((0 : Int32) + (0 : Int32)) + (0 : Int32)))) gb_313 (((0 : Int32) + (0 : Int32)) + (0 : Int32)) .null v4 v8 v2 T312.heap n0 (by omega) f314 f315 f316 f317 f318 f319 f320 f321 f322 f323 f336 (by simp only [own_lts, and_true]; omega) rfl (by decide) f324 (show ¬ (v6 < 0) by first | assumption | omega | decide) (show v6 < (3 : Int32) by first | assumption | omega | decide) (show ¬ (v4 < 0) by first | assumption | omega | decide) (show v4 < (3 : Int32) by first | assumption | omega | decide) (show ¬ (v8 < 0) by first | assumption | omega | decide) (show v8 < (3 : Int32) by first | assumption | omega | decide) (show ¬ (v2 < 0) by first | assumption | omega | decide) (show v2 < (3 : Int32) by first | assumption | omega | decide) (by omega) (by omega) (by omega) (by omega)) hZ (hw _ (List.mem_of_getElem? (i := 30) rfl)) (hw _ (List.mem_of_getElem? (i := 4) rfl)) (by decide) (by decide)) q337a q337c (g := (mkF m 164 #[.val (.int p_1), .val (.int p_2), .val (.int p_3), .val (.int p_4), .val (.int v2), .val (.int v4), .val (.int v6), .val (.int v8), .val (.ref b10), .val (.ref b13), .val (.ref b193), .val (.ref b204)] [(.ref b193), (.int v6), (.ref b204)])) rfl (by rw [hml]; rfl) (Steps.refl _) (argsL := [(.int v6), (.ref b193)]) (rest := []) (lenOf own_pd4 rfl) rfl (by show 2 * 0 + _ ≤ _; exact Nat.le_of_eq rfl) (hb hby at_164) (fun _ _ => ⟨rfl, rfl, (by show k312 + _ ≤ _; rw [y312]; decide), (by show n312 + _ ≤ _; rw [z312]; decide)⟩)
        dsimp only [Pt.U, Pt.locs, Pt.cells, Pt.slots] at X337 l337 y337 z337 st337 hQ337 hS337 gr337
        have y337 : k337 = 19 := own_addeq y337 (congrArg (fun q => q) y312) rfl
        have z337 : n337 = 421 := own_addeq z337 (congrArg (fun q => q) z312) rfl
        have Wn337 := hS337.1
        obtain ⟨X337, hS337, hZ, hown⟩ := rebS hS312 (n1 := T312.heap.size) (by omega) X337 hS337 gr337 hZ hown
        obtain ⟨gb_338, rfl, N337q, K337q, f339, f340, f341, f342, f343, f344, f345, f346, f347, f348, f349⟩ := hQ337
        have N337 : Fr n0 L337 := by rw [l337]; exact Fr.app N312 N337q
        have z350 := K337q.1
        have z351 := own_lt f339.lt
        have z352 := own_lt f340.lt
        have z353 := own_lt f341.lt
        have z354 := own_lt f342.lt
        have z355 := own_lt f343.lt
        have z356 := own_lt f344.lt
        have z357 := own_lt f345.lt
        have z358 := own_lt f346.lt
        have z359 := own_lt f347.lt
        have z360 := own_lt f348.lt
        refine own_go (fun _ k => st337.trans k) ?_
        show own_Go _ _ _ _ T337 (mkF m 167 #[.val (.int p_1), .val (.int p_2), .val (.int p_3), .val (.int p_4), .val (.int v2), .val (.int v4), .val (.int v6), .val (.int v8), .val (.ref b10), .val (.ref b13), .val (.ref b193), .val (.ref b204)] [])
        refine own_go (fun _ k => XS.aload X337.here hx rfl (hb hby at_167) rfl rfl k) ?_
        show own_Go _ _ _ _ T337 (mkF m 169 #[.val (.int p_1), .val (.int p_2), .val (.int p_3), .val (.int p_4), .val (.int v2), .val (.int v4), .val (.int v6), .val (.int v8), .val (.ref b10), .val (.ref b13), .val (.ref b193), .val (.ref b204)] [(.ref b204)])
        refine own_go (fun _ k => XS.iconst X337.here hx rfl (hb hby at_169) k) ?_
        show own_Go _ _ _ _ T337 (mkF m 170 #[.val (.int p_1), .val (.int p_2), .val (.int p_3), .val (.int p_4), .val (.int v2), .val (.int v4), .val (.int v6), .val (.int v8), .val (.ref b10), .val (.ref b13), .val (.ref b193), .val (.ref b204)] [(.int (0 : Int32)), (.ref b204)])
        obtain ⟨cq361, kq361, q361a, q361b, q361c⟩ := isOf hZ rfl f339
        obtain ⟨_, _, ⟨T361, L361, k361, n361⟩, -, X361, hS361, gr361, ⟨Lc361, hQ361, l361, y361, z361⟩, st361⟩ := X337.virtualBackS hx (y := (⟨"com/example/kalchas/kalchas/propositional/HornClauses", "head", "(I)I"⟩ : MethodName)) (z := (⟨"com/example/kalchas/kalchas/propositional/HornClauses", "head", "(I)I"⟩ : MethodName)) hown (mvT hZ (hw _ (List.mem_of_getElem? (i := 53) rfl))) (mvT hZ (hw _ (List.mem_of_getElem? (i := 54) rfl))) (notFace_of_selects (args := #[]) (mvT hZ (hw _ (List.mem_of_getElem? (i := 56) rfl)))) (mvT hZ (hw _ (List.mem_of_getElem? (i := 56) rfl))) (mvT hZ (hw _ (List.mem_of_getElem? (i := 55) rfl))) (by decide) (backOfS (W := 0) (own_rm7_0 l Z a0 hw [] b204 x_207 (own_upd (own_upd (own_upd (fun _ => (.int (0 : Int32))) 0 (.int v2)) 1 (.int v4)) 2 (.int v6)) v2 T337.heap n0 (by omega) f339 f342 f341 f346 rfl) hZ (hw _ (List.mem_of_getElem? (i := 57) rfl)) (hw _ (List.mem_of_getElem? (i := 4) rfl)) (by decide) (by decide)) q361a q361c (g := (mkF m 170 #[.val (.int p_1), .val (.int p_2), .val (.int p_3), .val (.int p_4), .val (.int v2), .val (.int v4), .val (.int v6), .val (.int v8), .val (.ref b10), .val (.ref b13), .val (.ref b193), .val (.ref b204)] [(.int (0 : Int32)), (.ref b204)])) rfl (by rw [hml]; rfl) (Steps.refl _) (argsL := [(.int (0 : Int32))]) (rest := []) (lenOf own_pd5 rfl) rfl (by show 2 * 0 + _ ≤ _; exact Nat.le_of_eq rfl) (hb hby at_170) (fun _ _ => ⟨rfl, rfl, (by show k337 + _ ≤ _; rw [y337]; decide), (by show n337 + _ ≤ _; rw [z337]; decide)⟩)
        dsimp only [Pt.U, Pt.locs, Pt.cells, Pt.slots] at X361 l361 y361 z361 st361 hQ361 hS361 gr361
        have y361 : k361 = 21 := own_addeq y361 (congrArg (fun q => q) y337) rfl
        have z361 : n361 = 449 := own_addeq z361 (congrArg (fun q => q) z337) rfl
        have Wn361 := hS361.1
        obtain ⟨X361, hS361, hZ, hown⟩ := rebS hS337 (n1 := T337.heap.size) (by omega) X361 hS361 gr361 hZ hown
        obtain ⟨rfl, N361q, K361q⟩ := hQ361
        have N361 : Fr n0 L361 := by rw [l361]; exact Fr.app N337 N361q
        have z362 := K361q.1
        refine own_go (fun _ k => st361.trans k) ?_
        show own_Go _ _ _ _ T361 (mkF m 173 #[.val (.int p_1), .val (.int p_2), .val (.int p_3), .val (.int p_4), .val (.int v2), .val (.int v4), .val (.int v6), .val (.int v8), .val (.ref b10), .val (.ref b13), .val (.ref b193), .val (.ref b204)] [(.int v2)])
        refine own_go (fun _ k => XS.iload X361.here hx rfl (hb hby at_173) rfl k) ?_
        show own_Go _ _ _ _ T361 (mkF m 175 #[.val (.int p_1), .val (.int p_2), .val (.int p_3), .val (.int p_4), .val (.int v2), .val (.int v4), .val (.int v6), .val (.int v8), .val (.ref b10), .val (.ref b13), .val (.ref b193), .val (.ref b204)] [(.int v2), (.int v2)])
        have hc363 : v2 = v2 := rfl
        refine own_go (fun _ k => XS.icmpNo X361.here hx rfl (hb hby at_175) rfl (Jvm.Free.XT.ii_ne_f hc363) k) ?_
        show own_Go _ _ _ _ T361 (mkF m 178 #[.val (.int p_1), .val (.int p_2), .val (.int p_3), .val (.int p_4), .val (.int v2), .val (.int v4), .val (.int v6), .val (.int v8), .val (.ref b10), .val (.ref b13), .val (.ref b193), .val (.ref b204)] [])
        refine own_go (fun _ k => XS.aload X361.here hx rfl (hb hby at_178) rfl rfl k) ?_
        show own_Go _ _ _ _ T361 (mkF m 180 #[.val (.int p_1), .val (.int p_2), .val (.int p_3), .val (.int p_4), .val (.int v2), .val (.int v4), .val (.int v6), .val (.int v8), .val (.ref b10), .val (.ref b13), .val (.ref b193), .val (.ref b204)] [(.ref b204)])
        refine own_go (fun _ k => XS.iconst X361.here hx rfl (hb hby at_180) k) ?_
        show own_Go _ _ _ _ T361 (mkF m 181 #[.val (.int p_1), .val (.int p_2), .val (.int p_3), .val (.int p_4), .val (.int v2), .val (.int v4), .val (.int v6), .val (.int v8), .val (.ref b10), .val (.ref b13), .val (.ref b193), .val (.ref b204)] [(.int (1 : Int32)), (.ref b204)])
        have f364 : Exa Z T361.heap b204 "com/example/kalchas/kalchas/propositional/HornClauses" := (f339.keep K361q)
        have f365 : Fld Z T361.heap b204 "com/example/kalchas/kalchas/propositional/HornClauses" "heads" "[I" (.ref x_207) := (f342.keep K361q nin0)
        have f366 : Fld Z T361.heap b204 "com/example/kalchas/kalchas/propositional/HornClauses" "clauseCount" "I" (.int (3 : Int32)) := (f341.keep K361q nin0)
        have f367 : own_AV Z T361.heap x_207 .int (64 : Int32) (own_upd (own_upd (own_upd (fun _ => (.int (0 : Int32))) 0 (.int v2)) 1 (.int v4)) 2 (.int v6)) := (f346.keep K361q nin0)
        obtain ⟨cq368, kq368, q368a, q368b, q368c⟩ := isOf hZ rfl f364
        obtain ⟨_, _, ⟨T368, L368, k368, n368⟩, -, X368, hS368, gr368, ⟨Lc368, hQ368, l368, y368, z368⟩, st368⟩ := X361.virtualBackS hx (y := (⟨"com/example/kalchas/kalchas/propositional/HornClauses", "head", "(I)I"⟩ : MethodName)) (z := (⟨"com/example/kalchas/kalchas/propositional/HornClauses", "head", "(I)I"⟩ : MethodName)) hown (mvT hZ (hw _ (List.mem_of_getElem? (i := 53) rfl))) (mvT hZ (hw _ (List.mem_of_getElem? (i := 54) rfl))) (notFace_of_selects (args := #[]) (mvT hZ (hw _ (List.mem_of_getElem? (i := 56) rfl)))) (mvT hZ (hw _ (List.mem_of_getElem? (i := 56) rfl))) (mvT hZ (hw _ (List.mem_of_getElem? (i := 55) rfl))) (by decide) (backOfS (W := 0) (own_rm7_1 l Z a0 hw [] b204 x_207 (own_upd (own_upd (own_upd (fun _ => (.int (0 : Int32))) 0 (.int v2)) 1 (.int v4)) 2 (.int v6)) v4 T361.heap n0 (by omega) f364 f365 f366 f367 rfl) hZ (hw _ (List.mem_of_getElem? (i := 57) rfl)) (hw _ (List.mem_of_getElem? (i := 4) rfl)) (by decide) (by decide)) q368a q368c (g := (mkF m 181 #[.val (.int p_1), .val (.int p_2), .val (.int p_3), .val (.int p_4), .val (.int v2), .val (.int v4), .val (.int v6), .val (.int v8), .val (.ref b10), .val (.ref b13), .val (.ref b193), .val (.ref b204)] [(.int (1 : Int32)), (.ref b204)])) rfl (by rw [hml]; rfl) (Steps.refl _) (argsL := [(.int (1 : Int32))]) (rest := []) (lenOf own_pd5 rfl) rfl (by show 2 * 0 + _ ≤ _; exact Nat.le_of_eq rfl) (hb hby at_181) (fun _ _ => ⟨rfl, rfl, (by show k361 + _ ≤ _; rw [y361]; decide), (by show n361 + _ ≤ _; rw [z361]; decide)⟩)
        dsimp only [Pt.U, Pt.locs, Pt.cells, Pt.slots] at X368 l368 y368 z368 st368 hQ368 hS368 gr368
        have y368 : k368 = 23 := own_addeq y368 (congrArg (fun q => q) y361) rfl
        have z368 : n368 = 477 := own_addeq z368 (congrArg (fun q => q) z361) rfl
        have Wn368 := hS368.1
        obtain ⟨X368, hS368, hZ, hown⟩ := rebS hS361 (n1 := T361.heap.size) (by omega) X368 hS368 gr368 hZ hown
        obtain ⟨rfl, N368q, K368q⟩ := hQ368
        have N368 : Fr n0 L368 := by rw [l368]; exact Fr.app N361 N368q
        have z369 := K368q.1
        refine own_go (fun _ k => st368.trans k) ?_
        show own_Go _ _ _ _ T368 (mkF m 184 #[.val (.int p_1), .val (.int p_2), .val (.int p_3), .val (.int p_4), .val (.int v2), .val (.int v4), .val (.int v6), .val (.int v8), .val (.ref b10), .val (.ref b13), .val (.ref b193), .val (.ref b204)] [(.int v4)])
        refine own_go (fun _ k => XS.iload X368.here hx rfl (hb hby at_184) rfl k) ?_
        show own_Go _ _ _ _ T368 (mkF m 186 #[.val (.int p_1), .val (.int p_2), .val (.int p_3), .val (.int p_4), .val (.int v2), .val (.int v4), .val (.int v6), .val (.int v8), .val (.ref b10), .val (.ref b13), .val (.ref b193), .val (.ref b204)] [(.int v4), (.int v4)])
        have hc370 : v4 = v4 := rfl
        refine own_go (fun _ k => XS.icmpNo X368.here hx rfl (hb hby at_186) rfl (Jvm.Free.XT.ii_ne_f hc370) k) ?_
        show own_Go _ _ _ _ T368 (mkF m 189 #[.val (.int p_1), .val (.int p_2), .val (.int p_3), .val (.int p_4), .val (.int v2), .val (.int v4), .val (.int v6), .val (.int v8), .val (.ref b10), .val (.ref b13), .val (.ref b193), .val (.ref b204)] [])
        refine own_go (fun _ k => XS.aload X368.here hx rfl (hb hby at_189) rfl rfl k) ?_
        show own_Go _ _ _ _ T368 (mkF m 191 #[.val (.int p_1), .val (.int p_2), .val (.int p_3), .val (.int p_4), .val (.int v2), .val (.int v4), .val (.int v6), .val (.int v8), .val (.ref b10), .val (.ref b13), .val (.ref b193), .val (.ref b204)] [(.ref b204)])
        refine own_go (fun _ k => XS.iconst X368.here hx rfl (hb hby at_191) k) ?_
        show own_Go _ _ _ _ T368 (mkF m 192 #[.val (.int p_1), .val (.int p_2), .val (.int p_3), .val (.int p_4), .val (.int v2), .val (.int v4), .val (.int v6), .val (.int v8), .val (.ref b10), .val (.ref b13), .val (.ref b193), .val (.ref b204)] [(.int (2 : Int32)), (.ref b204)])
        have f371 : Exa Z T368.heap b204 "com/example/kalchas/kalchas/propositional/HornClauses" := (f364.keep K368q)
        have f372 : Fld Z T368.heap b204 "com/example/kalchas/kalchas/propositional/HornClauses" "heads" "[I" (.ref x_207) := (f365.keep K368q nin0)
        have f373 : Fld Z T368.heap b204 "com/example/kalchas/kalchas/propositional/HornClauses" "clauseCount" "I" (.int (3 : Int32)) := (f366.keep K368q nin0)
        have f374 : own_AV Z T368.heap x_207 .int (64 : Int32) (own_upd (own_upd (own_upd (fun _ => (.int (0 : Int32))) 0 (.int v2)) 1 (.int v4)) 2 (.int v6)) := (f367.keep K368q nin0)
        obtain ⟨cq375, kq375, q375a, q375b, q375c⟩ := isOf hZ rfl f371
        obtain ⟨_, _, ⟨T375, L375, k375, n375⟩, -, X375, hS375, gr375, ⟨Lc375, hQ375, l375, y375, z375⟩, st375⟩ := X368.virtualBackS hx (y := (⟨"com/example/kalchas/kalchas/propositional/HornClauses", "head", "(I)I"⟩ : MethodName)) (z := (⟨"com/example/kalchas/kalchas/propositional/HornClauses", "head", "(I)I"⟩ : MethodName)) hown (mvT hZ (hw _ (List.mem_of_getElem? (i := 53) rfl))) (mvT hZ (hw _ (List.mem_of_getElem? (i := 54) rfl))) (notFace_of_selects (args := #[]) (mvT hZ (hw _ (List.mem_of_getElem? (i := 56) rfl)))) (mvT hZ (hw _ (List.mem_of_getElem? (i := 56) rfl))) (mvT hZ (hw _ (List.mem_of_getElem? (i := 55) rfl))) (by decide) (backOfS (W := 0) (own_rm7_2 l Z a0 hw [] b204 x_207 (own_upd (own_upd (own_upd (fun _ => (.int (0 : Int32))) 0 (.int v2)) 1 (.int v4)) 2 (.int v6)) v6 T368.heap n0 (by omega) f371 f372 f373 f374 rfl) hZ (hw _ (List.mem_of_getElem? (i := 57) rfl)) (hw _ (List.mem_of_getElem? (i := 4) rfl)) (by decide) (by decide)) q375a q375c (g := (mkF m 192 #[.val (.int p_1), .val (.int p_2), .val (.int p_3), .val (.int p_4), .val (.int v2), .val (.int v4), .val (.int v6), .val (.int v8), .val (.ref b10), .val (.ref b13), .val (.ref b193), .val (.ref b204)] [(.int (2 : Int32)), (.ref b204)])) rfl (by rw [hml]; rfl) (Steps.refl _) (argsL := [(.int (2 : Int32))]) (rest := []) (lenOf own_pd5 rfl) rfl (by show 2 * 0 + _ ≤ _; exact Nat.le_of_eq rfl) (hb hby at_192) (fun _ _ => ⟨rfl, rfl, (by show k368 + _ ≤ _; rw [y368]; decide), (by show n368 + _ ≤ _; rw [z368]; decide)⟩)
        dsimp only [Pt.U, Pt.locs, Pt.cells, Pt.slots] at X375 l375 y375 z375 st375 hQ375 hS375 gr375
        have y375 : k375 = 25 := own_addeq y375 (congrArg (fun q => q) y368) rfl
        have z375 : n375 = 505 := own_addeq z375 (congrArg (fun q => q) z368) rfl
        have Wn375 := hS375.1
        obtain ⟨X375, hS375, hZ, hown⟩ := rebS hS368 (n1 := T368.heap.size) (by omega) X375 hS375 gr375 hZ hown
        obtain ⟨rfl, N375q, K375q⟩ := hQ375
        have N375 : Fr n0 L375 := by rw [l375]; exact Fr.app N368 N375q
        have z376 := K375q.1
        refine own_go (fun _ k => st375.trans k) ?_
        show own_Go _ _ _ _ T375 (mkF m 195 #[.val (.int p_1), .val (.int p_2), .val (.int p_3), .val (.int p_4), .val (.int v2), .val (.int v4), .val (.int v6), .val (.int v8), .val (.ref b10), .val (.ref b13), .val (.ref b193), .val (.ref b204)] [(.int v6)])
        refine own_go (fun _ k => XS.iload X375.here hx rfl (hb hby at_195) rfl k) ?_
        show own_Go _ _ _ _ T375 (mkF m 197 #[.val (.int p_1), .val (.int p_2), .val (.int p_3), .val (.int p_4), .val (.int v2), .val (.int v4), .val (.int v6), .val (.int v8), .val (.ref b10), .val (.ref b13), .val (.ref b193), .val (.ref b204)] [(.int v6), (.int v6)])
        have hc377 : v6 = v6 := rfl
        refine own_go (fun _ k => XS.icmpNo X375.here hx rfl (hb hby at_197) rfl (Jvm.Free.XT.ii_ne_f hc377) k) ?_
        show own_Go _ _ _ _ T375 (mkF m 200 #[.val (.int p_1), .val (.int p_2), .val (.int p_3), .val (.int p_4), .val (.int v2), .val (.int v4), .val (.int v6), .val (.int v8), .val (.ref b10), .val (.ref b13), .val (.ref b193), .val (.ref b204)] [])
        refine own_go (fun _ k => XS.iconst X375.here hx rfl (hb hby at_200) k) ?_
        show own_Go _ _ _ _ T375 (mkF m 201 #[.val (.int p_1), .val (.int p_2), .val (.int p_3), .val (.int p_4), .val (.int v2), .val (.int v4), .val (.int v6), .val (.int v8), .val (.ref b10), .val (.ref b13), .val (.ref b193), .val (.ref b204)] [(.int (1 : Int32))])
        refine own_go (fun _ k => XS.goto X375.here hx rfl (pc0 := 201) (pc' := 205) rfl (hb hby at_201) (by decide) (by decide) k) ?_
        show own_Go _ _ _ _ T375 (mkF m 205 #[.val (.int p_1), .val (.int p_2), .val (.int p_3), .val (.int p_4), .val (.int v2), .val (.int v4), .val (.int v6), .val (.int v8), .val (.ref b10), .val (.ref b13), .val (.ref b193), .val (.ref b204)] [(.int (1 : Int32))])
        obtain ⟨fs, hr, hrun, hended, hRW⟩ := X375.leaveW hS375 (by omega) (v := some (.int (1 : Int32))) (fun h => by rw [Bd.returns] at h; cases h)
        refine ⟨_, _, retOut X375 hx Bd.returns rfl (Or.inl ⟨rfl, Or.inr (Or.inl rfl), _, rfl⟩) (hb hby at_205) hr, hrun, hended, _, _, rfl, ?_, own_monoW hRW (by rw [y375]; decide) (by rw [z375]; decide)⟩
        exact ⟨rfl, N375⟩
    · refine own_go (fun _ k => XS.ifNo X10.here hx rfl (hb hby at_57) rfl (Jvm.Free.XT.i0_eq_f hc12) k) ?_
      show own_Go _ _ _ _ T10 (mkF m 60 #[.val (.int p_1), .val (.int p_2), .val (.int p_3), .val (.int p_4), .val (.int v2), .val (.int v4), .val (.int v6), .val (.int v8), .val (.ref b10), .unset, .unset, .unset] [])
      refine own_go (fun _ k => XS.iconst X10.here hx rfl (hb hby at_60) k) ?_
      show own_Go _ _ _ _ T10 (mkF m 61 #[.val (.int p_1), .val (.int p_2), .val (.int p_3), .val (.int p_4), .val (.int v2), .val (.int v4), .val (.int v6), .val (.int v8), .val (.ref b10), .unset, .unset, .unset] [(.int (2 : Int32))])
      obtain ⟨T379, h379, k379, X379, e379, E379, A379, st379⟩ := newP X10 hx hZ (hw _ (List.mem_of_getElem? (i := 1) rfl)) e10 (g := (mkF m 61 #[.val (.int p_1), .val (.int p_2), .val (.int p_3), .val (.int p_4), .val (.int v2), .val (.int v4), .val (.int v6), .val (.int v8), .val (.ref b10), .unset, .unset, .unset] [(.int (2 : Int32))])) rfl (hb hby at_61) rfl (by decide) (cap := 2) (by decide) (by decide) (by decide) (by decide)
      obtain ⟨b379, g379⟩ : ∃ z, z = h10.size := ⟨_, rfl⟩
      rw [← g379] at A379 st379
      have z380 := E379.1
      have lt_b379 := own_lt A379.lt
      have V_b379 : own_AV Z h379 b379 .int (2 : Int32) (fun _ => (.int (0 : Int32))) := own_AV.new A379 (by decide)
      refine own_go (fun _ k => st379 _ k) ?_
      show own_Go _ _ _ _ T379 (mkF m 63 #[.val (.int p_1), .val (.int p_2), .val (.int p_3), .val (.int p_4), .val (.int v2), .val (.int v4), .val (.int v6), .val (.int v8), .val (.ref b10), .unset, .unset, .unset] [(.ref b379)])
      refine own_go (fun _ k => XS.dup X379.here hx rfl (hb hby at_63) rfl rfl k) ?_
      show own_Go _ _ _ _ T379 (mkF m 64 #[.val (.int p_1), .val (.int p_2), .val (.int p_3), .val (.int p_4), .val (.int v2), .val (.int v4), .val (.int v6), .val (.int v8), .val (.ref b10), .unset, .unset, .unset] [(.ref b379), (.ref b379)])
      refine own_go (fun _ k => XS.iconst X379.here hx rfl (hb hby at_64) k) ?_
      show own_Go _ _ _ _ T379 (mkF m 65 #[.val (.int p_1), .val (.int p_2), .val (.int p_3), .val (.int p_4), .val (.int v2), .val (.int v4), .val (.int v6), .val (.int v8), .val (.ref b10), .unset, .unset, .unset] [(.int (0 : Int32)), (.ref b379), (.ref b379)])
      refine own_go (fun _ k => XS.iload X379.here hx rfl (hb hby at_65) rfl k) ?_
      show own_Go _ _ _ _ T379 (mkF m 67 #[.val (.int p_1), .val (.int p_2), .val (.int p_3), .val (.int p_4), .val (.int v2), .val (.int v4), .val (.int v6), .val (.int v8), .val (.ref b10), .unset, .unset, .unset] [(.int v2), (.int (0 : Int32)), (.ref b379), (.ref b379)])
      obtain ⟨q381, c381, R381, s381, t381⟩ := id V_b379
      have hin381 : ¬ ((0 : Int32) < 0 ∨ c381.slots.size ≤ ((0 : Int32)).toNatClampNeg) := inb_of s381 ⟨by decide, by decide⟩
      obtain ⟨T382, h382, X382, e382, W382, st382⟩ := stI X379 hx hZ e379 R381 (j := (0 : Int32)) hin381 (g := (mkF m 67 #[.val (.int p_1), .val (.int p_2), .val (.int p_3), .val (.int p_4), .val (.int v2), .val (.int v4), .val (.int v6), .val (.int v8), .val (.ref b10), .unset, .unset, .unset] [(.int v2), (.int (0 : Int32)), (.ref b379), (.ref b379)])) rfl rfl (hb hby at_67)
      have V382 : own_AV Z h382 b379 .int (2 : Int32) (own_upd (fun _ => (.int (0 : Int32))) 0 (.int v2)) := own_AV.set (k := 0) V_b379 W382 (by decide)
      have z383 := W382.size
      have N382 := Fr.snoc X382 N0 (by omega : n0 ≤ b379)
      refine own_go (fun _ k => st382 _ k) ?_
      show own_Go _ _ _ _ T382 (mkF m 68 #[.val (.int p_1), .val (.int p_2), .val (.int p_3), .val (.int p_4), .val (.int v2), .val (.int v4), .val (.int v6), .val (.int v8), .val (.ref b10), .unset, .unset, .unset] [(.ref b379)])
      refine own_go (fun _ k => XS.dup X382.here hx rfl (hb hby at_68) rfl rfl k) ?_
      show own_Go _ _ _ _ T382 (mkF m 69 #[.val (.int p_1), .val (.int p_2), .val (.int p_3), .val (.int p_4), .val (.int v2), .val (.int v4), .val (.int v6), .val (.int v8), .val (.ref b10), .unset, .unset, .unset] [(.ref b379), (.ref b379)])
      refine own_go (fun _ k => XS.iconst X382.here hx rfl (hb hby at_69) k) ?_
      show own_Go _ _ _ _ T382 (mkF m 70 #[.val (.int p_1), .val (.int p_2), .val (.int p_3), .val (.int p_4), .val (.int v2), .val (.int v4), .val (.int v6), .val (.int v8), .val (.ref b10), .unset, .unset, .unset] [(.int (1 : Int32)), (.ref b379), (.ref b379)])
      refine own_go (fun _ k => XS.iload X382.here hx rfl (hb hby at_70) rfl k) ?_
      show own_Go _ _ _ _ T382 (mkF m 72 #[.val (.int p_1), .val (.int p_2), .val (.int p_3), .val (.int p_4), .val (.int v2), .val (.int v4), .val (.int v6), .val (.int v8), .val (.ref b10), .unset, .unset, .unset] [(.int v6), (.int (1 : Int32)), (.ref b379), (.ref b379)])
      obtain ⟨q384, c384, R384, s384, t384⟩ := id V382
      have hin384 : ¬ ((1 : Int32) < 0 ∨ c384.slots.size ≤ ((1 : Int32)).toNatClampNeg) := inb_of s384 ⟨by decide, by decide⟩
      obtain ⟨T385, h385, X385, e385, W385, st385⟩ := stI X382 hx hZ e382 R384 (j := (1 : Int32)) hin384 (g := (mkF m 72 #[.val (.int p_1), .val (.int p_2), .val (.int p_3), .val (.int p_4), .val (.int v2), .val (.int v4), .val (.int v6), .val (.int v8), .val (.ref b10), .unset, .unset, .unset] [(.int v6), (.int (1 : Int32)), (.ref b379), (.ref b379)])) rfl rfl (hb hby at_72)
      have V385 : own_AV Z h385 b379 .int (2 : Int32) (own_upd (own_upd (fun _ => (.int (0 : Int32))) 0 (.int v2)) 1 (.int v6)) := own_AV.set (k := 1) V382 W385 (by decide)
      have z386 := W385.size
      have N385 := Fr.snoc X385 N382 (by omega : n0 ≤ b379)
      refine own_go (fun _ k => st385 _ k) ?_
      show own_Go _ _ _ _ T385 (mkF m 73 #[.val (.int p_1), .val (.int p_2), .val (.int p_3), .val (.int p_4), .val (.int v2), .val (.int v4), .val (.int v6), .val (.int v8), .val (.ref b10), .unset, .unset, .unset] [(.ref b379)])
      refine own_go (fun _ k => XS.goto X385.here hx rfl (pc0 := 73) (pc' := 79) rfl (hb hby at_73) (by decide) (by decide) k) ?_
      show own_Go _ _ _ _ T385 (mkF m 79 #[.val (.int p_1), .val (.int p_2), .val (.int p_3), .val (.int p_4), .val (.int v2), .val (.int v4), .val (.int v6), .val (.int v8), .val (.ref b10), .unset, .unset, .unset] [(.ref b379)])
      refine own_go (fun _ k => XS.astore X385.here hx rfl (hb hby at_79) rfl rfl (l' := #[.val (.int p_1), .val (.int p_2), .val (.int p_3), .val (.int p_4), .val (.int v2), .val (.int v4), .val (.int v6), .val (.int v8), .val (.ref b10), .val (.ref b379), .unset, .unset]) rfl k) ?_
      show own_Go _ _ _ _ T385 (mkF m 81 #[.val (.int p_1), .val (.int p_2), .val (.int p_3), .val (.int p_4), .val (.int v2), .val (.int v4), .val (.int v6), .val (.int v8), .val (.ref b10), .val (.ref b379), .unset, .unset] [])
      refine own_go (fun _ k => XS.iloadN X385.here hx rfl (hb hby at_81) rfl k) ?_
      show own_Go _ _ _ _ T385 (mkF m 82 #[.val (.int p_1), .val (.int p_2), .val (.int p_3), .val (.int p_4), .val (.int v2), .val (.int v4), .val (.int v6), .val (.int v8), .val (.ref b10), .val (.ref b379), .unset, .unset] [(.int p_4)])
      refine own_go (fun _ k => XS.iconst X385.here hx rfl (hb hby at_82) k) ?_
      show own_Go _ _ _ _ T385 (mkF m 83 #[.val (.int p_1), .val (.int p_2), .val (.int p_3), .val (.int p_4), .val (.int v2), .val (.int v4), .val (.int v6), .val (.int v8), .val (.ref b10), .val (.ref b379), .unset, .unset] [(.int (4 : Int32)), (.int p_4)])
      refine own_go (fun _ k => XS.iand X385.here hx rfl (hb hby at_83) rfl k) ?_
      show own_Go _ _ _ _ T385 (mkF m 84 #[.val (.int p_1), .val (.int p_2), .val (.int p_3), .val (.int p_4), .val (.int v2), .val (.int v4), .val (.int v6), .val (.int v8), .val (.ref b10), .val (.ref b379), .unset, .unset] [(.int (p_4 &&& (4 : Int32)))])
      by_cases hc387 : (p_4 &&& (4 : Int32)) = 0
      · refine own_go (fun _ k => XS.ifYes X385.here hx rfl (pc0 := 84) (pc' := 108) rfl (hb hby at_84) rfl (Jvm.Free.XT.i0_eq_t hc387) (by decide) (by decide) k) ?_
        show own_Go _ _ _ _ T385 (mkF m 108 #[.val (.int p_1), .val (.int p_2), .val (.int p_3), .val (.int p_4), .val (.int v2), .val (.int v4), .val (.int v6), .val (.int v8), .val (.ref b10), .val (.ref b379), .unset, .unset] [])
        refine own_go (fun _ k => XS.iconst X385.here hx rfl (hb hby at_108) k) ?_
        show own_Go _ _ _ _ T385 (mkF m 109 #[.val (.int p_1), .val (.int p_2), .val (.int p_3), .val (.int p_4), .val (.int v2), .val (.int v4), .val (.int v6), .val (.int v8), .val (.ref b10), .val (.ref b379), .unset, .unset] [(.int (0 : Int32))])
        obtain ⟨T388, h388, k388, X388, e388, E388, A388, st388⟩ := newP X385 hx hZ (hw _ (List.mem_of_getElem? (i := 1) rfl)) e385 (g := (mkF m 109 #[.val (.int p_1), .val (.int p_2), .val (.int p_3), .val (.int p_4), .val (.int v2), .val (.int v4), .val (.int v6), .val (.int v8), .val (.ref b10), .val (.ref b379), .unset, .unset] [(.int (0 : Int32))])) rfl (hb hby at_109) rfl (by decide) (cap := 0) (by decide) (by decide) (by decide) (by decide)
        obtain ⟨b388, g388⟩ : ∃ z, z = h385.size := ⟨_, rfl⟩
        rw [← g388] at A388 st388
        have z389 := E388.1
        have lt_b388 := own_lt A388.lt
        have V_b388 : own_AV Z h388 b388 .int (0 : Int32) (fun _ => (.int (0 : Int32))) := own_AV.new A388 (by decide)
        refine own_go (fun _ k => st388 _ k) ?_
        show own_Go _ _ _ _ T388 (mkF m 111 #[.val (.int p_1), .val (.int p_2), .val (.int p_3), .val (.int p_4), .val (.int v2), .val (.int v4), .val (.int v6), .val (.int v8), .val (.ref b10), .val (.ref b379), .unset, .unset] [(.ref b388)])
        refine own_go (fun _ k => XS.astore X388.here hx rfl (hb hby at_111) rfl rfl (l' := #[.val (.int p_1), .val (.int p_2), .val (.int p_3), .val (.int p_4), .val (.int v2), .val (.int v4), .val (.int v6), .val (.int v8), .val (.ref b10), .val (.ref b379), .val (.ref b388), .unset]) rfl k) ?_
        show own_Go _ _ _ _ T388 (mkF m 113 #[.val (.int p_1), .val (.int p_2), .val (.int p_3), .val (.int p_4), .val (.int v2), .val (.int v4), .val (.int v6), .val (.int v8), .val (.ref b10), .val (.ref b379), .val (.ref b388), .unset] [])
        obtain ⟨T390, h390, X390, e390, E390, A390, D390, Y390, st390⟩ := newO X388 hx hZ hown (hw _ (List.mem_of_getElem? (i := 2) rfl)) (hw _ (List.mem_of_getElem? (i := 3) rfl)) (hw _ (List.mem_of_getElem? (i := 4) rfl)) e388 (g := (mkF m 113 #[.val (.int p_1), .val (.int p_2), .val (.int p_3), .val (.int p_4), .val (.int v2), .val (.int v4), .val (.int v6), .val (.int v8), .val (.ref b10), .val (.ref b379), .val (.ref b388), .unset] [])) rfl (hb hby at_113) (by decide) (by decide)
        obtain ⟨b390, g390⟩ : ∃ z, z = h388.size := ⟨_, rfl⟩
        rw [← g390] at A390 D390 Y390 st390
        have z391 := E390.1
        have lt_b390 := own_lt A390.lt
        have F_heads_b390 : Fld Z h390 b390 "com/example/kalchas/kalchas/propositional/HornClauses" "heads" "[I" .null := D390 (Or.inl (hw _ (List.mem_of_getElem? (i := 12) rfl))) (ty := (.array .int)) (by decide)
        have F_bodyStarts_b390 : Fld Z h390 b390 "com/example/kalchas/kalchas/propositional/HornClauses" "bodyStarts" "[I" .null := D390 (Or.inl (hw _ (List.mem_of_getElem? (i := 14) rfl))) (ty := (.array .int)) (by decide)
        have F_bodies_b390 : Fld Z h390 b390 "com/example/kalchas/kalchas/propositional/HornClauses" "bodies" "[I" .null := D390 (Or.inl (hw _ (List.mem_of_getElem? (i := 16) rfl))) (ty := (.array .int)) (by decide)
        have F_occurrences_b390 : Fld Z h390 b390 "com/example/kalchas/kalchas/propositional/HornClauses" "occurrences" "[I" .null := D390 (Or.inl (hw _ (List.mem_of_getElem? (i := 23) rfl))) (ty := (.array .int)) (by decide)
        have F_variableCount_b390 : Fld Z h390 b390 "com/example/kalchas/kalchas/propositional/HornClauses" "variableCount" "I" (.int (0 : Int32)) := D390 (Or.inl (hw _ (List.mem_of_getElem? (i := 25) rfl))) (ty := .int) (by decide)
        have F_clauseCount_b390 : Fld Z h390 b390 "com/example/kalchas/kalchas/propositional/HornClauses" "clauseCount" "I" (.int (0 : Int32)) := D390 (Or.inl (hw _ (List.mem_of_getElem? (i := 48) rfl))) (ty := .int) (by decide)
        refine own_go (fun _ k => st390 _ k) ?_
        show own_Go _ _ _ _ T390 (mkF m 116 #[.val (.int p_1), .val (.int p_2), .val (.int p_3), .val (.int p_4), .val (.int v2), .val (.int v4), .val (.int v6), .val (.int v8), .val (.ref b10), .val (.ref b379), .val (.ref b388), .unset] [(.ref b390)])
        refine own_go (fun _ k => XS.dup X390.here hx rfl (hb hby at_116) rfl rfl k) ?_
        show own_Go _ _ _ _ T390 (mkF m 117 #[.val (.int p_1), .val (.int p_2), .val (.int p_3), .val (.int p_4), .val (.int v2), .val (.int v4), .val (.int v6), .val (.int v8), .val (.ref b10), .val (.ref b379), .val (.ref b388), .unset] [(.ref b390), (.ref b390)])
        obtain ⟨_, _, ⟨T392, L392, k392, n392⟩, -, X392, ⟨Lc392, hQ392, l392, y392, z392⟩, st392⟩ := X390.specialBack hx (y := (⟨"com/example/kalchas/kalchas/propositional/HornClauses", "<init>", "()V"⟩ : MethodName)) rfl hown (mvT hZ (hw _ (List.mem_of_getElem? (i := 5) rfl))) (mvT hZ (hw _ (List.mem_of_getElem? (i := 6) rfl))) (mvT hZ (hw _ (List.mem_of_getElem? (i := 7) rfl))) (by decide) (backOf (W := 1) (own_rm1 l Z a0 hw [] b390 .null .null .null .null (0 : Int32) (0 : Int32) h390 n0 (by omega) A390 F_heads_b390 F_bodyStarts_b390 F_bodies_b390 F_occurrences_b390 F_variableCount_b390 F_clauseCount_b390 (by omega)) hZ (hw _ (List.mem_of_getElem? (i := 7) rfl)) (hw _ (List.mem_of_getElem? (i := 4) rfl)) (by decide) (by decide)) (g := (mkF m 117 #[.val (.int p_1), .val (.int p_2), .val (.int p_3), .val (.int p_4), .val (.int v2), .val (.int v4), .val (.int v6), .val (.int v8), .val (.ref b10), .val (.ref b379), .val (.ref b388), .unset] [(.ref b390), (.ref b390)])) rfl (by rw [hml]; rfl) (Steps.refl _) (a := b390) (argsL := []) (rest := [(.ref b390)]) (lenOf own_pd2 rfl) rfl (by show 2 * 0 + _ ≤ _; exact Nat.le_of_eq rfl) (hb hby at_117) (fun _ _ => ⟨rfl, e390, (by decide : 4 + 3 ≤ _), (by decide : 11 + 193 ≤ _)⟩)
        dsimp only [Pt.U, Pt.locs, Pt.cells, Pt.slots] at X392 l392 y392 z392 st392 hQ392
        have y392 : k392 = 7 := y392
        have z392 : n392 = 204 := z392
        obtain ⟨x_393, x_394, x_395, rfl, N392q, K392q, f396, f397, f398, f399, f400, f401, f402, f403, f404, f405, f406, f407, f408, f409⟩ := hQ392
        have N392 : Fr n0 L392 := by rw [l392]; exact Fr.app N385 N392q
        have z410 := K392q.1
        have z411 := own_lt f396.lt
        have z412 := own_lt f397.lt
        have z413 := own_lt f398.lt
        have z414 := own_lt f399.lt
        have z415 := own_lt f400.lt
        have z416 := own_lt f401.lt
        have z417 := own_lt f402.lt
        have z418 := own_lt f403.lt
        have z419 := own_lt f404.lt
        have z420 := own_lt f405.lt
        simp only [own_lts, and_true] at f409
        refine own_go (fun _ k => st392.trans k) ?_
        show own_Go _ _ _ _ T392 (mkF m 120 #[.val (.int p_1), .val (.int p_2), .val (.int p_3), .val (.int p_4), .val (.int v2), .val (.int v4), .val (.int v6), .val (.int v8), .val (.ref b10), .val (.ref b379), .val (.ref b388), .unset] [(.ref b390)])
        refine own_go (fun _ k => XS.astore X392.here hx rfl (hb hby at_120) rfl rfl (l' := #[.val (.int p_1), .val (.int p_2), .val (.int p_3), .val (.int p_4), .val (.int v2), .val (.int v4), .val (.int v6), .val (.int v8), .val (.ref b10), .val (.ref b379), .val (.ref b388), .val (.ref b390)]) rfl k) ?_
        show own_Go _ _ _ _ T392 (mkF m 122 #[.val (.int p_1), .val (.int p_2), .val (.int p_3), .val (.int p_4), .val (.int v2), .val (.int v4), .val (.int v6), .val (.int v8), .val (.ref b10), .val (.ref b379), .val (.ref b388), .val (.ref b390)] [])
        refine own_go (fun _ k => XS.aload X392.here hx rfl (hb hby at_122) rfl rfl k) ?_
        show own_Go _ _ _ _ T392 (mkF m 124 #[.val (.int p_1), .val (.int p_2), .val (.int p_3), .val (.int p_4), .val (.int v2), .val (.int v4), .val (.int v6), .val (.int v8), .val (.ref b10), .val (.ref b379), .val (.ref b388), .val (.ref b390)] [(.ref b390)])
        obtain ⟨cq421, kq421, q421a, q421b, q421c⟩ := isOf hZ rfl f396
        obtain ⟨_, _, ⟨T421, L421, k421, n421⟩, -, X421, ⟨Lc421, hQ421, l421, y421, z421⟩, st421⟩ := X392.virtualBack hx (y := (⟨"com/example/kalchas/kalchas/propositional/HornClauses", "newVariable", "()I"⟩ : MethodName)) (z := (⟨"com/example/kalchas/kalchas/propositional/HornClauses", "newVariable", "()I"⟩ : MethodName)) hown (mvT hZ (hw _ (List.mem_of_getElem? (i := 17) rfl))) (mvT hZ (hw _ (List.mem_of_getElem? (i := 18) rfl))) (notFace_of_selects (args := #[]) (mvT hZ (hw _ (List.mem_of_getElem? (i := 20) rfl)))) (mvT hZ (hw _ (List.mem_of_getElem? (i := 20) rfl))) (mvT hZ (hw _ (List.mem_of_getElem? (i := 19) rfl))) (by decide) (backOf (W := 0) (own_rm3 l Z a0 hw [] b390 (.ref x_393) (.ref x_394) (.ref x_395) .null (0 : Int32) (0 : Int32) T392.heap n0 (by omega) f396 f397 f398 f399 f400 f401 f402 (by omega)) hZ (hw _ (List.mem_of_getElem? (i := 21) rfl)) (hw _ (List.mem_of_getElem? (i := 4) rfl)) (by decide) (by decide)) q421a q421c (g := (mkF m 124 #[.val (.int p_1), .val (.int p_2), .val (.int p_3), .val (.int p_4), .val (.int v2), .val (.int v4), .val (.int v6), .val (.int v8), .val (.ref b10), .val (.ref b379), .val (.ref b388), .val (.ref b390)] [(.ref b390)])) rfl (by rw [hml]; rfl) (Steps.refl _) (argsL := []) (rest := []) (lenOf own_pd3 rfl) rfl (by show 2 * 0 + _ ≤ _; exact Nat.le_of_eq rfl) (hb hby at_124) (fun _ _ => ⟨rfl, rfl, (by show k392 + _ ≤ _; rw [y392]; decide), (by show n392 + _ ≤ _; rw [z392]; decide)⟩)
        dsimp only [Pt.U, Pt.locs, Pt.cells, Pt.slots] at X421 l421 y421 z421 st421 hQ421
        have y421 : k421 = 7 := own_addeq y421 (congrArg (fun q => q) y392) rfl
        have z421 : n421 = 204 := own_addeq z421 (congrArg (fun q => q) z392) rfl
        obtain ⟨rfl, N421q, K421q, f422, f423, f424, f425, f426, f427, f428⟩ := hQ421
        have N421 : Fr n0 L421 := by rw [l421]; exact Fr.app N392 N421q
        have z429 := K421q.1
        have z430 := own_lt f422.lt
        have z431 := own_lt f423.lt
        have z432 := own_lt f424.lt
        have z433 := own_lt f425.lt
        have z434 := own_lt f426.lt
        have f427 : Fld Z T421.heap b390 "com/example/kalchas/kalchas/propositional/HornClauses" "variableCount" "I" (.int (1 : Int32)) := f427
        have z435 := own_lt f427.lt
        have z436 := own_lt f428.lt
        refine own_go (fun _ k => st421.trans k) ?_
        show own_Go _ _ _ _ T421 (mkF m 127 #[.val (.int p_1), .val (.int p_2), .val (.int p_3), .val (.int p_4), .val (.int v2), .val (.int v4), .val (.int v6), .val (.int v8), .val (.ref b10), .val (.ref b379), .val (.ref b388), .val (.ref b390)] [(.int (0 : Int32))])
        refine own_go (fun _ k => XS.pop X421.here hx rfl (hb hby at_127) rfl rfl k) ?_
        show own_Go _ _ _ _ T421 (mkF m 128 #[.val (.int p_1), .val (.int p_2), .val (.int p_3), .val (.int p_4), .val (.int v2), .val (.int v4), .val (.int v6), .val (.int v8), .val (.ref b10), .val (.ref b379), .val (.ref b388), .val (.ref b390)] [])
        refine own_go (fun _ k => XS.aload X421.here hx rfl (hb hby at_128) rfl rfl k) ?_
        show own_Go _ _ _ _ T421 (mkF m 130 #[.val (.int p_1), .val (.int p_2), .val (.int p_3), .val (.int p_4), .val (.int v2), .val (.int v4), .val (.int v6), .val (.int v8), .val (.ref b10), .val (.ref b379), .val (.ref b388), .val (.ref b390)] [(.ref b390)])
        obtain ⟨cq437, kq437, q437a, q437b, q437c⟩ := isOf hZ rfl f422
        obtain ⟨_, _, ⟨T437, L437, k437, n437⟩, -, X437, ⟨Lc437, hQ437, l437, y437, z437⟩, st437⟩ := X421.virtualBack hx (y := (⟨"com/example/kalchas/kalchas/propositional/HornClauses", "newVariable", "()I"⟩ : MethodName)) (z := (⟨"com/example/kalchas/kalchas/propositional/HornClauses", "newVariable", "()I"⟩ : MethodName)) hown (mvT hZ (hw _ (List.mem_of_getElem? (i := 17) rfl))) (mvT hZ (hw _ (List.mem_of_getElem? (i := 18) rfl))) (notFace_of_selects (args := #[]) (mvT hZ (hw _ (List.mem_of_getElem? (i := 20) rfl)))) (mvT hZ (hw _ (List.mem_of_getElem? (i := 20) rfl))) (mvT hZ (hw _ (List.mem_of_getElem? (i := 19) rfl))) (by decide) (backOf (W := 0) (own_rm3 l Z a0 hw [] b390 (.ref x_393) (.ref x_394) (.ref x_395) .null (1 : Int32) (0 : Int32) T421.heap n0 (by omega) f422 f423 f424 f425 f426 f427 f428 (by omega)) hZ (hw _ (List.mem_of_getElem? (i := 21) rfl)) (hw _ (List.mem_of_getElem? (i := 4) rfl)) (by decide) (by decide)) q437a q437c (g := (mkF m 130 #[.val (.int p_1), .val (.int p_2), .val (.int p_3), .val (.int p_4), .val (.int v2), .val (.int v4), .val (.int v6), .val (.int v8), .val (.ref b10), .val (.ref b379), .val (.ref b388), .val (.ref b390)] [(.ref b390)])) rfl (by rw [hml]; rfl) (Steps.refl _) (argsL := []) (rest := []) (lenOf own_pd3 rfl) rfl (by show 2 * 0 + _ ≤ _; exact Nat.le_of_eq rfl) (hb hby at_130) (fun _ _ => ⟨rfl, rfl, (by show k421 + _ ≤ _; rw [y421]; decide), (by show n421 + _ ≤ _; rw [z421]; decide)⟩)
        dsimp only [Pt.U, Pt.locs, Pt.cells, Pt.slots] at X437 l437 y437 z437 st437 hQ437
        have y437 : k437 = 7 := own_addeq y437 (congrArg (fun q => q) y421) rfl
        have z437 : n437 = 204 := own_addeq z437 (congrArg (fun q => q) z421) rfl
        obtain ⟨rfl, N437q, K437q, f438, f439, f440, f441, f442, f443, f444⟩ := hQ437
        have N437 : Fr n0 L437 := by rw [l437]; exact Fr.app N421 N437q
        have z445 := K437q.1
        have z446 := own_lt f438.lt
        have z447 := own_lt f439.lt
        have z448 := own_lt f440.lt
        have z449 := own_lt f441.lt
        have z450 := own_lt f442.lt
        have f443 : Fld Z T437.heap b390 "com/example/kalchas/kalchas/propositional/HornClauses" "variableCount" "I" (.int (2 : Int32)) := f443
        have z451 := own_lt f443.lt
        have z452 := own_lt f444.lt
        refine own_go (fun _ k => st437.trans k) ?_
        show own_Go _ _ _ _ T437 (mkF m 133 #[.val (.int p_1), .val (.int p_2), .val (.int p_3), .val (.int p_4), .val (.int v2), .val (.int v4), .val (.int v6), .val (.int v8), .val (.ref b10), .val (.ref b379), .val (.ref b388), .val (.ref b390)] [(.int (1 : Int32))])
        refine own_go (fun _ k => XS.pop X437.here hx rfl (hb hby at_133) rfl rfl k) ?_
        show own_Go _ _ _ _ T437 (mkF m 134 #[.val (.int p_1), .val (.int p_2), .val (.int p_3), .val (.int p_4), .val (.int v2), .val (.int v4), .val (.int v6), .val (.int v8), .val (.ref b10), .val (.ref b379), .val (.ref b388), .val (.ref b390)] [])
        refine own_go (fun _ k => XS.aload X437.here hx rfl (hb hby at_134) rfl rfl k) ?_
        show own_Go _ _ _ _ T437 (mkF m 136 #[.val (.int p_1), .val (.int p_2), .val (.int p_3), .val (.int p_4), .val (.int v2), .val (.int v4), .val (.int v6), .val (.int v8), .val (.ref b10), .val (.ref b379), .val (.ref b388), .val (.ref b390)] [(.ref b390)])
        obtain ⟨cq453, kq453, q453a, q453b, q453c⟩ := isOf hZ rfl f438
        obtain ⟨_, _, ⟨T453, L453, k453, n453⟩, -, X453, ⟨Lc453, hQ453, l453, y453, z453⟩, st453⟩ := X437.virtualBack hx (y := (⟨"com/example/kalchas/kalchas/propositional/HornClauses", "newVariable", "()I"⟩ : MethodName)) (z := (⟨"com/example/kalchas/kalchas/propositional/HornClauses", "newVariable", "()I"⟩ : MethodName)) hown (mvT hZ (hw _ (List.mem_of_getElem? (i := 17) rfl))) (mvT hZ (hw _ (List.mem_of_getElem? (i := 18) rfl))) (notFace_of_selects (args := #[]) (mvT hZ (hw _ (List.mem_of_getElem? (i := 20) rfl)))) (mvT hZ (hw _ (List.mem_of_getElem? (i := 20) rfl))) (mvT hZ (hw _ (List.mem_of_getElem? (i := 19) rfl))) (by decide) (backOf (W := 0) (own_rm3 l Z a0 hw [] b390 (.ref x_393) (.ref x_394) (.ref x_395) .null (2 : Int32) (0 : Int32) T437.heap n0 (by omega) f438 f439 f440 f441 f442 f443 f444 (by omega)) hZ (hw _ (List.mem_of_getElem? (i := 21) rfl)) (hw _ (List.mem_of_getElem? (i := 4) rfl)) (by decide) (by decide)) q453a q453c (g := (mkF m 136 #[.val (.int p_1), .val (.int p_2), .val (.int p_3), .val (.int p_4), .val (.int v2), .val (.int v4), .val (.int v6), .val (.int v8), .val (.ref b10), .val (.ref b379), .val (.ref b388), .val (.ref b390)] [(.ref b390)])) rfl (by rw [hml]; rfl) (Steps.refl _) (argsL := []) (rest := []) (lenOf own_pd3 rfl) rfl (by show 2 * 0 + _ ≤ _; exact Nat.le_of_eq rfl) (hb hby at_136) (fun _ _ => ⟨rfl, rfl, (by show k437 + _ ≤ _; rw [y437]; decide), (by show n437 + _ ≤ _; rw [z437]; decide)⟩)
        dsimp only [Pt.U, Pt.locs, Pt.cells, Pt.slots] at X453 l453 y453 z453 st453 hQ453
        have y453 : k453 = 7 := own_addeq y453 (congrArg (fun q => q) y437) rfl
        have z453 : n453 = 204 := own_addeq z453 (congrArg (fun q => q) z437) rfl
        obtain ⟨rfl, N453q, K453q, f454, f455, f456, f457, f458, f459, f460⟩ := hQ453
        have N453 : Fr n0 L453 := by rw [l453]; exact Fr.app N437 N453q
        have z461 := K453q.1
        have z462 := own_lt f454.lt
        have z463 := own_lt f455.lt
        have z464 := own_lt f456.lt
        have z465 := own_lt f457.lt
        have z466 := own_lt f458.lt
        have f459 : Fld Z T453.heap b390 "com/example/kalchas/kalchas/propositional/HornClauses" "variableCount" "I" (.int (3 : Int32)) := f459
        have z467 := own_lt f459.lt
        have z468 := own_lt f460.lt
        refine own_go (fun _ k => st453.trans k) ?_
        show own_Go _ _ _ _ T453 (mkF m 139 #[.val (.int p_1), .val (.int p_2), .val (.int p_3), .val (.int p_4), .val (.int v2), .val (.int v4), .val (.int v6), .val (.int v8), .val (.ref b10), .val (.ref b379), .val (.ref b388), .val (.ref b390)] [(.int (2 : Int32))])
        refine own_go (fun _ k => XS.pop X453.here hx rfl (hb hby at_139) rfl rfl k) ?_
        show own_Go _ _ _ _ T453 (mkF m 140 #[.val (.int p_1), .val (.int p_2), .val (.int p_3), .val (.int p_4), .val (.int v2), .val (.int v4), .val (.int v6), .val (.int v8), .val (.ref b10), .val (.ref b379), .val (.ref b388), .val (.ref b390)] [])
        refine own_go (fun _ k => XS.aload X453.here hx rfl (hb hby at_140) rfl rfl k) ?_
        show own_Go _ _ _ _ T453 (mkF m 142 #[.val (.int p_1), .val (.int p_2), .val (.int p_3), .val (.int p_4), .val (.int v2), .val (.int v4), .val (.int v6), .val (.int v8), .val (.ref b10), .val (.ref b379), .val (.ref b388), .val (.ref b390)] [(.ref b390)])
        refine own_go (fun _ k => XS.iload X453.here hx rfl (hb hby at_142) rfl k) ?_
        show own_Go _ _ _ _ T453 (mkF m 144 #[.val (.int p_1), .val (.int p_2), .val (.int p_3), .val (.int p_4), .val (.int v2), .val (.int v4), .val (.int v6), .val (.int v8), .val (.ref b10), .val (.ref b379), .val (.ref b388), .val (.ref b390)] [(.int v2), (.ref b390)])
        refine own_go (fun _ k => XS.aload X453.here hx rfl (hb hby at_144) rfl rfl k) ?_
        show own_Go _ _ _ _ T453 (mkF m 146 #[.val (.int p_1), .val (.int p_2), .val (.int p_3), .val (.int p_4), .val (.int v2), .val (.int v4), .val (.int v6), .val (.int v8), .val (.ref b10), .val (.ref b379), .val (.ref b388), .val (.ref b390)] [(.ref b10), (.int v2), (.ref b390)])
        have f469 : own_AV Z T453.heap x_393 .int (64 : Int32) (fun _ => (.int (0 : Int32))) := (((f403.keep K421q (ninS (own_ne (by omega)) nin0)).keep K437q (ninS (own_ne (by omega)) nin0)).keep K453q (ninS (own_ne (by omega)) nin0))
        have f470 : own_AV Z T453.heap x_394 .int (65 : Int32) (fun _ => (.int (0 : Int32))) := (((f404.keep K421q (ninS (own_ne (by omega)) nin0)).keep K437q (ninS (own_ne (by omega)) nin0)).keep K453q (ninS (own_ne (by omega)) nin0))
        have f471 : own_AV Z T453.heap x_395 .int (64 : Int32) (fun _ => (.int (0 : Int32))) := (((f405.keep K421q (ninS (own_ne (by omega)) nin0)).keep K437q (ninS (own_ne (by omega)) nin0)).keep K453q (ninS (own_ne (by omega)) nin0))
        have f472 : own_AV Z T453.heap b10 .int (0 : Int32) (fun _ => (.int (0 : Int32))) := (((((((((V_b10.ext E379).other W382 (own_ne (by omega))).other W385 (own_ne (by omega))).ext E388).ext E390).keep K392q (ninS (own_ne (by omega)) nin0)).keep K421q (ninS (own_ne (by omega)) nin0)).keep K437q (ninS (own_ne (by omega)) nin0)).keep K453q (ninS (own_ne (by omega)) nin0))
        obtain ⟨cq473, kq473, q473a, q473b, q473c⟩ := isOf hZ rfl f454
        obtain ⟨_, _, ⟨T473, L473, k473, n473⟩, -, X473, hS473, gr473, ⟨Lc473, hQ473, l473, y473, z473⟩, st473⟩ := X453.virtualBackS hx (y := (⟨"com/example/kalchas/kalchas/propositional/HornClauses", "add", "(I[I)V"⟩ : MethodName)) (z := (⟨"com/example/kalchas/kalchas/propositional/HornClauses", "add", "(I[I)V"⟩ : MethodName)) hown (mvT hZ (hw _ (List.mem_of_getElem? (i := 26) rfl))) (mvT hZ (hw _ (List.mem_of_getElem? (i := 27) rfl))) (notFace_of_selects (args := #[]) (mvT hZ (hw _ (List.mem_of_getElem? (i := 29) rfl)))) (mvT hZ (hw _ (List.mem_of_getElem? (i := 29) rfl))) (mvT hZ (hw _ (List.mem_of_getElem? (i := 28) rfl))) (by decide) (backOfS (W := 0) (own_rm4_00 l Z a0 hw [] b390 v2 b10 x_393 x_394 x_395 (fun _ => (.int (0 : Int32))) (fun _ => (.int (0 : Int32))) (fun _ => (.int (0 : Int32))) (0 : Int32) .null T453.heap n0 (by omega) f454 f459 f460 f455 f456 f457 f458 f469 f470 f471 f472 (by simp only [own_lts, and_true]; omega) rfl (by decide) (fun _ => rfl) (show ¬ (v2 < 0) by first | assumption | omega | decide) (show v2 < (3 : Int32) by first | assumption | omega | decide) (by omega) (by omega) (by omega) (by omega)) hZ (hw _ (List.mem_of_getElem? (i := 30) rfl)) (hw _ (List.mem_of_getElem? (i := 4) rfl)) (by decide) (by decide)) q473a q473c (g := (mkF m 146 #[.val (.int p_1), .val (.int p_2), .val (.int p_3), .val (.int p_4), .val (.int v2), .val (.int v4), .val (.int v6), .val (.int v8), .val (.ref b10), .val (.ref b379), .val (.ref b388), .val (.ref b390)] [(.ref b10), (.int v2), (.ref b390)])) rfl (by rw [hml]; rfl) (Steps.refl _) (argsL := [(.int v2), (.ref b10)]) (rest := []) (lenOf own_pd4 rfl) rfl (by show 2 * 0 + _ ≤ _; exact Nat.le_of_eq rfl) (hb hby at_146) (fun _ _ => ⟨rfl, rfl, (by show k453 + _ ≤ _; rw [y453]; decide), (by show n453 + _ ≤ _; rw [z453]; decide)⟩)
        dsimp only [Pt.U, Pt.locs, Pt.cells, Pt.slots] at X473 l473 y473 z473 st473 hQ473 hS473 gr473
        have y473 : k473 = 9 := own_addeq y473 (congrArg (fun q => q) y453) rfl
        have z473 : n473 = 240 := own_addeq z473 (congrArg (fun q => q) z453) rfl
        have Wn473 := hS473.1
        obtain ⟨X473, hS473, hZ, hown⟩ := rebS hS0 (n1 := T453.heap.size) (by omega) X473 hS473 gr473 hZ hown
        obtain ⟨gb_474, rfl, N473q, K473q, f475, f476, f477, f478, f479, f480, f481, f482, f483, f484, f485⟩ := hQ473
        have N473 : Fr n0 L473 := by rw [l473]; exact Fr.app N453 N473q
        have z486 := K473q.1
        have z487 := own_lt f475.lt
        have z488 := own_lt f476.lt
        have z489 := own_lt f477.lt
        have z490 := own_lt f478.lt
        have z491 := own_lt f479.lt
        have z492 := own_lt f480.lt
        have z493 := own_lt f481.lt
        have z494 := own_lt f482.lt
        have z495 := own_lt f483.lt
        have z496 := own_lt f484.lt
        refine own_go (fun _ k => st473.trans k) ?_
        show own_Go _ _ _ _ T473 (mkF m 149 #[.val (.int p_1), .val (.int p_2), .val (.int p_3), .val (.int p_4), .val (.int v2), .val (.int v4), .val (.int v6), .val (.int v8), .val (.ref b10), .val (.ref b379), .val (.ref b388), .val (.ref b390)] [])
        refine own_go (fun _ k => XS.aload X473.here hx rfl (hb hby at_149) rfl rfl k) ?_
        show own_Go _ _ _ _ T473 (mkF m 151 #[.val (.int p_1), .val (.int p_2), .val (.int p_3), .val (.int p_4), .val (.int v2), .val (.int v4), .val (.int v6), .val (.int v8), .val (.ref b10), .val (.ref b379), .val (.ref b388), .val (.ref b390)] [(.ref b390)])
        refine own_go (fun _ k => XS.iload X473.here hx rfl (hb hby at_151) rfl k) ?_
        show own_Go _ _ _ _ T473 (mkF m 153 #[.val (.int p_1), .val (.int p_2), .val (.int p_3), .val (.int p_4), .val (.int v2), .val (.int v4), .val (.int v6), .val (.int v8), .val (.ref b10), .val (.ref b379), .val (.ref b388), .val (.ref b390)] [(.int v4), (.ref b390)])
        refine own_go (fun _ k => XS.aload X473.here hx rfl (hb hby at_153) rfl rfl k) ?_
        show own_Go _ _ _ _ T473 (mkF m 155 #[.val (.int p_1), .val (.int p_2), .val (.int p_3), .val (.int p_4), .val (.int v2), .val (.int v4), .val (.int v6), .val (.int v8), .val (.ref b10), .val (.ref b379), .val (.ref b388), .val (.ref b390)] [(.ref b379), (.int v4), (.ref b390)])
        have f497 : own_AV Z T473.heap b379 .int (2 : Int32) (own_upd (own_upd (fun _ => (.int (0 : Int32))) 0 (.int v2)) 1 (.int v6)) := (((((((V385.ext E388).ext E390).keep K392q (ninS (own_ne (by omega)) nin0)).keep K421q (ninS (own_ne (by omega)) nin0)).keep K437q (ninS (own_ne (by omega)) nin0)).keep K453q (ninS (own_ne (by omega)) nin0)).keep K473q (ninS (own_ne (by omega)) (ninS (own_ne (by omega)) (ninS (own_ne (by omega)) (ninS (own_ne (by omega)) nin0)))))
        obtain ⟨cq498, kq498, q498a, q498b, q498c⟩ := isOf hZ rfl f475
        obtain ⟨_, _, ⟨T498, L498, k498, n498⟩, -, X498, hS498, gr498, ⟨Lc498, hQ498, l498, y498, z498⟩, st498⟩ := X473.virtualBackS hx (y := (⟨"com/example/kalchas/kalchas/propositional/HornClauses", "add", "(I[I)V"⟩ : MethodName)) (z := (⟨"com/example/kalchas/kalchas/propositional/HornClauses", "add", "(I[I)V"⟩ : MethodName)) hown (mvT hZ (hw _ (List.mem_of_getElem? (i := 26) rfl))) (mvT hZ (hw _ (List.mem_of_getElem? (i := 27) rfl))) (notFace_of_selects (args := #[]) (mvT hZ (hw _ (List.mem_of_getElem? (i := 29) rfl)))) (mvT hZ (hw _ (List.mem_of_getElem? (i := 29) rfl))) (mvT hZ (hw _ (List.mem_of_getElem? (i := 28) rfl))) (by decide) (backOfS (W := 0) (own_rm4_12 l Z a0 hw [] b390 v4 b379 x_393 x_394 x_395 (own_upd (fun _ => (.int (0 : Int32))) 0 (.int v2)) (own_upd (fun _ => (.int (0 : Int32))) 1 (.int ((0 : Int32) + (0 : Int32)))) gb_474 ((0 : Int32) + (0 : Int32)) .null v2 v6 T473.heap n0 (by omega) f475 f476 f477 f478 f479 f480 f481 f482 f483 f484 f497 (by simp only [own_lts, and_true]; omega) rfl (by decide) f485 (show ¬ (v4 < 0) by first | assumption | omega | decide) (show v4 < (3 : Int32) by first | assumption | omega | decide) (show ¬ (v2 < 0) by first | assumption | omega | decide) (show v2 < (3 : Int32) by first | assumption | omega | decide) (show ¬ (v6 < 0) by first | assumption | omega | decide) (show v6 < (3 : Int32) by first | assumption | omega | decide) (by omega) (by omega) (by omega) (by omega)) hZ (hw _ (List.mem_of_getElem? (i := 30) rfl)) (hw _ (List.mem_of_getElem? (i := 4) rfl)) (by decide) (by decide)) q498a q498c (g := (mkF m 155 #[.val (.int p_1), .val (.int p_2), .val (.int p_3), .val (.int p_4), .val (.int v2), .val (.int v4), .val (.int v6), .val (.int v8), .val (.ref b10), .val (.ref b379), .val (.ref b388), .val (.ref b390)] [(.ref b379), (.int v4), (.ref b390)])) rfl (by rw [hml]; rfl) (Steps.refl _) (argsL := [(.int v4), (.ref b379)]) (rest := []) (lenOf own_pd4 rfl) rfl (by show 2 * 0 + _ ≤ _; exact Nat.le_of_eq rfl) (hb hby at_155) (fun _ _ => ⟨rfl, rfl, (by show k473 + _ ≤ _; rw [y473]; decide), (by show n473 + _ ≤ _; rw [z473]; decide)⟩)
        dsimp only [Pt.U, Pt.locs, Pt.cells, Pt.slots] at X498 l498 y498 z498 st498 hQ498 hS498 gr498
        have y498 : k498 = 15 := own_addeq y498 (congrArg (fun q => q) y473) rfl
        have z498 : n498 = 348 := own_addeq z498 (congrArg (fun q => q) z473) rfl
        have Wn498 := hS498.1
        obtain ⟨X498, hS498, hZ, hown⟩ := rebS hS473 (n1 := T473.heap.size) (by omega) X498 hS498 gr498 hZ hown
        obtain ⟨gb_499, rfl, N498q, K498q, f500, f501, f502, f503, f504, f505, f506, f507, f508, f509, f510⟩ := hQ498
        have N498 : Fr n0 L498 := by rw [l498]; exact Fr.app N473 N498q
        have z511 := K498q.1
        have z512 := own_lt f500.lt
        have z513 := own_lt f501.lt
        have z514 := own_lt f502.lt
        have z515 := own_lt f503.lt
        have z516 := own_lt f504.lt
        have z517 := own_lt f505.lt
        have z518 := own_lt f506.lt
        have z519 := own_lt f507.lt
        have z520 := own_lt f508.lt
        have z521 := own_lt f509.lt
        refine own_go (fun _ k => st498.trans k) ?_
        show own_Go _ _ _ _ T498 (mkF m 158 #[.val (.int p_1), .val (.int p_2), .val (.int p_3), .val (.int p_4), .val (.int v2), .val (.int v4), .val (.int v6), .val (.int v8), .val (.ref b10), .val (.ref b379), .val (.ref b388), .val (.ref b390)] [])
        refine own_go (fun _ k => XS.aload X498.here hx rfl (hb hby at_158) rfl rfl k) ?_
        show own_Go _ _ _ _ T498 (mkF m 160 #[.val (.int p_1), .val (.int p_2), .val (.int p_3), .val (.int p_4), .val (.int v2), .val (.int v4), .val (.int v6), .val (.int v8), .val (.ref b10), .val (.ref b379), .val (.ref b388), .val (.ref b390)] [(.ref b390)])
        refine own_go (fun _ k => XS.iload X498.here hx rfl (hb hby at_160) rfl k) ?_
        show own_Go _ _ _ _ T498 (mkF m 162 #[.val (.int p_1), .val (.int p_2), .val (.int p_3), .val (.int p_4), .val (.int v2), .val (.int v4), .val (.int v6), .val (.int v8), .val (.ref b10), .val (.ref b379), .val (.ref b388), .val (.ref b390)] [(.int v6), (.ref b390)])
        refine own_go (fun _ k => XS.aload X498.here hx rfl (hb hby at_162) rfl rfl k) ?_
        show own_Go _ _ _ _ T498 (mkF m 164 #[.val (.int p_1), .val (.int p_2), .val (.int p_3), .val (.int p_4), .val (.int v2), .val (.int v4), .val (.int v6), .val (.int v8), .val (.ref b10), .val (.ref b379), .val (.ref b388), .val (.ref b390)] [(.ref b388), (.int v6), (.ref b390)])
        have f522 : own_AV Z T498.heap b388 .int (0 : Int32) (fun _ => (.int (0 : Int32))) := (((((((V_b388.ext E390).keep K392q (ninS (own_ne (by omega)) nin0)).keep K421q (ninS (own_ne (by omega)) nin0)).keep K437q (ninS (own_ne (by omega)) nin0)).keep K453q (ninS (own_ne (by omega)) nin0)).keep K473q (ninS (own_ne (by omega)) (ninS (own_ne (by omega)) (ninS (own_ne (by omega)) (ninS (own_ne (by omega)) nin0))))).keep K498q (ninS (own_ne (by omega)) (ninS (own_ne (by omega)) (ninS (own_ne (by omega)) (ninS (own_ne (by omega)) nin0)))))
        obtain ⟨cq523, kq523, q523a, q523b, q523c⟩ := isOf hZ rfl f500
        obtain ⟨_, _, ⟨T523, L523, k523, n523⟩, -, X523, hS523, gr523, ⟨Lc523, hQ523, l523, y523, z523⟩, st523⟩ := X498.virtualBackS hx (y := (⟨"com/example/kalchas/kalchas/propositional/HornClauses", "add", "(I[I)V"⟩ : MethodName)) (z := (⟨"com/example/kalchas/kalchas/propositional/HornClauses", "add", "(I[I)V"⟩ : MethodName)) hown (mvT hZ (hw _ (List.mem_of_getElem? (i := 26) rfl))) (mvT hZ (hw _ (List.mem_of_getElem? (i := 27) rfl))) (notFace_of_selects (args := #[]) (mvT hZ (hw _ (List.mem_of_getElem? (i := 29) rfl)))) (mvT hZ (hw _ (List.mem_of_getElem? (i := 29) rfl))) (mvT hZ (hw _ (List.mem_of_getElem? (i := 28) rfl))) (by decide) (backOfS (W := 0) (own_rm4_20 l Z a0 hw [] b390 v6 b388 x_393 x_394 x_395 (own_upd (own_upd (fun _ => (.int (0 : Int32))) 0 (.int v2)) 1 (.int v4)) (own_upd (own_upd (fun _ => (.int (0 : Int32))) 1 (.int ((0 : Int32) + (0 : Int32)))) 2 (.int (((0 : Int32) + (0 : Int32)) + (2 : Int32)))) gb_499 (((0 : Int32) + (0 : Int32)) + (2 : Int32)) .null T498.heap n0 (by omega) f500 f501 f502 f503 f504 f505 f506 f507 f508 f509 f522 (by simp only [own_lts, and_true]; omega) rfl (by decide) f510 (show ¬ (v6 < 0) by first | assumption | omega | decide) (show v6 < (3 : Int32) by first | assumption | omega | decide) (by omega) (by omega) (by omega) (by omega)) hZ (hw _ (List.mem_of_getElem? (i := 30) rfl)) (hw _ (List.mem_of_getElem? (i := 4) rfl)) (by decide) (by decide)) q523a q523c (g := (mkF m 164 #[.val (.int p_1), .val (.int p_2), .val (.int p_3), .val (.int p_4), .val (.int v2), .val (.int v4), .val (.int v6), .val (.int v8), .val (.ref b10), .val (.ref b379), .val (.ref b388), .val (.ref b390)] [(.ref b388), (.int v6), (.ref b390)])) rfl (by rw [hml]; rfl) (Steps.refl _) (argsL := [(.int v6), (.ref b388)]) (rest := []) (lenOf own_pd4 rfl) rfl (by show 2 * 0 + _ ≤ _; exact Nat.le_of_eq rfl) (hb hby at_164) (fun _ _ => ⟨rfl, rfl, (by show k498 + _ ≤ _; rw [y498]; decide), (by show n498 + _ ≤ _; rw [z498]; decide)⟩)
        dsimp only [Pt.U, Pt.locs, Pt.cells, Pt.slots] at X523 l523 y523 z523 st523 hQ523 hS523 gr523
        have y523 : k523 = 17 := own_addeq y523 (congrArg (fun q => q) y498) rfl
        have z523 : n523 = 384 := own_addeq z523 (congrArg (fun q => q) z498) rfl
        have Wn523 := hS523.1
        obtain ⟨X523, hS523, hZ, hown⟩ := rebS hS498 (n1 := T498.heap.size) (by omega) X523 hS523 gr523 hZ hown
        obtain ⟨gb_524, rfl, N523q, K523q, f525, f526, f527, f528, f529, f530, f531, f532, f533, f534, f535⟩ := hQ523
        have N523 : Fr n0 L523 := by rw [l523]; exact Fr.app N498 N523q
        have z536 := K523q.1
        have z537 := own_lt f525.lt
        have z538 := own_lt f526.lt
        have z539 := own_lt f527.lt
        have z540 := own_lt f528.lt
        have z541 := own_lt f529.lt
        have z542 := own_lt f530.lt
        have z543 := own_lt f531.lt
        have z544 := own_lt f532.lt
        have z545 := own_lt f533.lt
        have z546 := own_lt f534.lt
        refine own_go (fun _ k => st523.trans k) ?_
        show own_Go _ _ _ _ T523 (mkF m 167 #[.val (.int p_1), .val (.int p_2), .val (.int p_3), .val (.int p_4), .val (.int v2), .val (.int v4), .val (.int v6), .val (.int v8), .val (.ref b10), .val (.ref b379), .val (.ref b388), .val (.ref b390)] [])
        refine own_go (fun _ k => XS.aload X523.here hx rfl (hb hby at_167) rfl rfl k) ?_
        show own_Go _ _ _ _ T523 (mkF m 169 #[.val (.int p_1), .val (.int p_2), .val (.int p_3), .val (.int p_4), .val (.int v2), .val (.int v4), .val (.int v6), .val (.int v8), .val (.ref b10), .val (.ref b379), .val (.ref b388), .val (.ref b390)] [(.ref b390)])
        refine own_go (fun _ k => XS.iconst X523.here hx rfl (hb hby at_169) k) ?_
        show own_Go _ _ _ _ T523 (mkF m 170 #[.val (.int p_1), .val (.int p_2), .val (.int p_3), .val (.int p_4), .val (.int v2), .val (.int v4), .val (.int v6), .val (.int v8), .val (.ref b10), .val (.ref b379), .val (.ref b388), .val (.ref b390)] [(.int (0 : Int32)), (.ref b390)])
        obtain ⟨cq547, kq547, q547a, q547b, q547c⟩ := isOf hZ rfl f525
        obtain ⟨_, _, ⟨T547, L547, k547, n547⟩, -, X547, hS547, gr547, ⟨Lc547, hQ547, l547, y547, z547⟩, st547⟩ := X523.virtualBackS hx (y := (⟨"com/example/kalchas/kalchas/propositional/HornClauses", "head", "(I)I"⟩ : MethodName)) (z := (⟨"com/example/kalchas/kalchas/propositional/HornClauses", "head", "(I)I"⟩ : MethodName)) hown (mvT hZ (hw _ (List.mem_of_getElem? (i := 53) rfl))) (mvT hZ (hw _ (List.mem_of_getElem? (i := 54) rfl))) (notFace_of_selects (args := #[]) (mvT hZ (hw _ (List.mem_of_getElem? (i := 56) rfl)))) (mvT hZ (hw _ (List.mem_of_getElem? (i := 56) rfl))) (mvT hZ (hw _ (List.mem_of_getElem? (i := 55) rfl))) (by decide) (backOfS (W := 0) (own_rm7_0 l Z a0 hw [] b390 x_393 (own_upd (own_upd (own_upd (fun _ => (.int (0 : Int32))) 0 (.int v2)) 1 (.int v4)) 2 (.int v6)) v2 T523.heap n0 (by omega) f525 f528 f527 f532 rfl) hZ (hw _ (List.mem_of_getElem? (i := 57) rfl)) (hw _ (List.mem_of_getElem? (i := 4) rfl)) (by decide) (by decide)) q547a q547c (g := (mkF m 170 #[.val (.int p_1), .val (.int p_2), .val (.int p_3), .val (.int p_4), .val (.int v2), .val (.int v4), .val (.int v6), .val (.int v8), .val (.ref b10), .val (.ref b379), .val (.ref b388), .val (.ref b390)] [(.int (0 : Int32)), (.ref b390)])) rfl (by rw [hml]; rfl) (Steps.refl _) (argsL := [(.int (0 : Int32))]) (rest := []) (lenOf own_pd5 rfl) rfl (by show 2 * 0 + _ ≤ _; exact Nat.le_of_eq rfl) (hb hby at_170) (fun _ _ => ⟨rfl, rfl, (by show k523 + _ ≤ _; rw [y523]; decide), (by show n523 + _ ≤ _; rw [z523]; decide)⟩)
        dsimp only [Pt.U, Pt.locs, Pt.cells, Pt.slots] at X547 l547 y547 z547 st547 hQ547 hS547 gr547
        have y547 : k547 = 19 := own_addeq y547 (congrArg (fun q => q) y523) rfl
        have z547 : n547 = 412 := own_addeq z547 (congrArg (fun q => q) z523) rfl
        have Wn547 := hS547.1
        obtain ⟨X547, hS547, hZ, hown⟩ := rebS hS523 (n1 := T523.heap.size) (by omega) X547 hS547 gr547 hZ hown
        obtain ⟨rfl, N547q, K547q⟩ := hQ547
        have N547 : Fr n0 L547 := by rw [l547]; exact Fr.app N523 N547q
        have z548 := K547q.1
        refine own_go (fun _ k => st547.trans k) ?_
        show own_Go _ _ _ _ T547 (mkF m 173 #[.val (.int p_1), .val (.int p_2), .val (.int p_3), .val (.int p_4), .val (.int v2), .val (.int v4), .val (.int v6), .val (.int v8), .val (.ref b10), .val (.ref b379), .val (.ref b388), .val (.ref b390)] [(.int v2)])
        refine own_go (fun _ k => XS.iload X547.here hx rfl (hb hby at_173) rfl k) ?_
        show own_Go _ _ _ _ T547 (mkF m 175 #[.val (.int p_1), .val (.int p_2), .val (.int p_3), .val (.int p_4), .val (.int v2), .val (.int v4), .val (.int v6), .val (.int v8), .val (.ref b10), .val (.ref b379), .val (.ref b388), .val (.ref b390)] [(.int v2), (.int v2)])
        have hc549 : v2 = v2 := rfl
        refine own_go (fun _ k => XS.icmpNo X547.here hx rfl (hb hby at_175) rfl (Jvm.Free.XT.ii_ne_f hc549) k) ?_
        show own_Go _ _ _ _ T547 (mkF m 178 #[.val (.int p_1), .val (.int p_2), .val (.int p_3), .val (.int p_4), .val (.int v2), .val (.int v4), .val (.int v6), .val (.int v8), .val (.ref b10), .val (.ref b379), .val (.ref b388), .val (.ref b390)] [])
        refine own_go (fun _ k => XS.aload X547.here hx rfl (hb hby at_178) rfl rfl k) ?_
        show own_Go _ _ _ _ T547 (mkF m 180 #[.val (.int p_1), .val (.int p_2), .val (.int p_3), .val (.int p_4), .val (.int v2), .val (.int v4), .val (.int v6), .val (.int v8), .val (.ref b10), .val (.ref b379), .val (.ref b388), .val (.ref b390)] [(.ref b390)])
        refine own_go (fun _ k => XS.iconst X547.here hx rfl (hb hby at_180) k) ?_
        show own_Go _ _ _ _ T547 (mkF m 181 #[.val (.int p_1), .val (.int p_2), .val (.int p_3), .val (.int p_4), .val (.int v2), .val (.int v4), .val (.int v6), .val (.int v8), .val (.ref b10), .val (.ref b379), .val (.ref b388), .val (.ref b390)] [(.int (1 : Int32)), (.ref b390)])
        have f550 : Exa Z T547.heap b390 "com/example/kalchas/kalchas/propositional/HornClauses" := (f525.keep K547q)
        have f551 : Fld Z T547.heap b390 "com/example/kalchas/kalchas/propositional/HornClauses" "heads" "[I" (.ref x_393) := (f528.keep K547q nin0)
        have f552 : Fld Z T547.heap b390 "com/example/kalchas/kalchas/propositional/HornClauses" "clauseCount" "I" (.int (3 : Int32)) := (f527.keep K547q nin0)
        have f553 : own_AV Z T547.heap x_393 .int (64 : Int32) (own_upd (own_upd (own_upd (fun _ => (.int (0 : Int32))) 0 (.int v2)) 1 (.int v4)) 2 (.int v6)) := (f532.keep K547q nin0)
        obtain ⟨cq554, kq554, q554a, q554b, q554c⟩ := isOf hZ rfl f550
        obtain ⟨_, _, ⟨T554, L554, k554, n554⟩, -, X554, hS554, gr554, ⟨Lc554, hQ554, l554, y554, z554⟩, st554⟩ := X547.virtualBackS hx (y := (⟨"com/example/kalchas/kalchas/propositional/HornClauses", "head", "(I)I"⟩ : MethodName)) (z := (⟨"com/example/kalchas/kalchas/propositional/HornClauses", "head", "(I)I"⟩ : MethodName)) hown (mvT hZ (hw _ (List.mem_of_getElem? (i := 53) rfl))) (mvT hZ (hw _ (List.mem_of_getElem? (i := 54) rfl))) (notFace_of_selects (args := #[]) (mvT hZ (hw _ (List.mem_of_getElem? (i := 56) rfl)))) (mvT hZ (hw _ (List.mem_of_getElem? (i := 56) rfl))) (mvT hZ (hw _ (List.mem_of_getElem? (i := 55) rfl))) (by decide) (backOfS (W := 0) (own_rm7_1 l Z a0 hw [] b390 x_393 (own_upd (own_upd (own_upd (fun _ => (.int (0 : Int32))) 0 (.int v2)) 1 (.int v4)) 2 (.int v6)) v4 T547.heap n0 (by omega) f550 f551 f552 f553 rfl) hZ (hw _ (List.mem_of_getElem? (i := 57) rfl)) (hw _ (List.mem_of_getElem? (i := 4) rfl)) (by decide) (by decide)) q554a q554c (g := (mkF m 181 #[.val (.int p_1), .val (.int p_2), .val (.int p_3), .val (.int p_4), .val (.int v2), .val (.int v4), .val (.int v6), .val (.int v8), .val (.ref b10), .val (.ref b379), .val (.ref b388), .val (.ref b390)] [(.int (1 : Int32)), (.ref b390)])) rfl (by rw [hml]; rfl) (Steps.refl _) (argsL := [(.int (1 : Int32))]) (rest := []) (lenOf own_pd5 rfl) rfl (by show 2 * 0 + _ ≤ _; exact Nat.le_of_eq rfl) (hb hby at_181) (fun _ _ => ⟨rfl, rfl, (by show k547 + _ ≤ _; rw [y547]; decide), (by show n547 + _ ≤ _; rw [z547]; decide)⟩)
        dsimp only [Pt.U, Pt.locs, Pt.cells, Pt.slots] at X554 l554 y554 z554 st554 hQ554 hS554 gr554
        have y554 : k554 = 21 := own_addeq y554 (congrArg (fun q => q) y547) rfl
        have z554 : n554 = 440 := own_addeq z554 (congrArg (fun q => q) z547) rfl
        have Wn554 := hS554.1
        obtain ⟨X554, hS554, hZ, hown⟩ := rebS hS547 (n1 := T547.heap.size) (by omega) X554 hS554 gr554 hZ hown
        obtain ⟨rfl, N554q, K554q⟩ := hQ554
        have N554 : Fr n0 L554 := by rw [l554]; exact Fr.app N547 N554q
        have z555 := K554q.1
        refine own_go (fun _ k => st554.trans k) ?_
        show own_Go _ _ _ _ T554 (mkF m 184 #[.val (.int p_1), .val (.int p_2), .val (.int p_3), .val (.int p_4), .val (.int v2), .val (.int v4), .val (.int v6), .val (.int v8), .val (.ref b10), .val (.ref b379), .val (.ref b388), .val (.ref b390)] [(.int v4)])
        refine own_go (fun _ k => XS.iload X554.here hx rfl (hb hby at_184) rfl k) ?_
        show own_Go _ _ _ _ T554 (mkF m 186 #[.val (.int p_1), .val (.int p_2), .val (.int p_3), .val (.int p_4), .val (.int v2), .val (.int v4), .val (.int v6), .val (.int v8), .val (.ref b10), .val (.ref b379), .val (.ref b388), .val (.ref b390)] [(.int v4), (.int v4)])
        have hc556 : v4 = v4 := rfl
        refine own_go (fun _ k => XS.icmpNo X554.here hx rfl (hb hby at_186) rfl (Jvm.Free.XT.ii_ne_f hc556) k) ?_
        show own_Go _ _ _ _ T554 (mkF m 189 #[.val (.int p_1), .val (.int p_2), .val (.int p_3), .val (.int p_4), .val (.int v2), .val (.int v4), .val (.int v6), .val (.int v8), .val (.ref b10), .val (.ref b379), .val (.ref b388), .val (.ref b390)] [])
        refine own_go (fun _ k => XS.aload X554.here hx rfl (hb hby at_189) rfl rfl k) ?_
        show own_Go _ _ _ _ T554 (mkF m 191 #[.val (.int p_1), .val (.int p_2), .val (.int p_3), .val (.int p_4), .val (.int v2), .val (.int v4), .val (.int v6), .val (.int v8), .val (.ref b10), .val (.ref b379), .val (.ref b388), .val (.ref b390)] [(.ref b390)])
        refine own_go (fun _ k => XS.iconst X554.here hx rfl (hb hby at_191) k) ?_
        show own_Go _ _ _ _ T554 (mkF m 192 #[.val (.int p_1), .val (.int p_2), .val (.int p_3), .val (.int p_4), .val (.int v2), .val (.int v4), .val (.int v6), .val (.int v8), .val (.ref b10), .val (.ref b379), .val (.ref b388), .val (.ref b390)] [(.int (2 : Int32)), (.ref b390)])
        have f557 : Exa Z T554.heap b390 "com/example/kalchas/kalchas/propositional/HornClauses" := (f550.keep K554q)
        have f558 : Fld Z T554.heap b390 "com/example/kalchas/kalchas/propositional/HornClauses" "heads" "[I" (.ref x_393) := (f551.keep K554q nin0)
        have f559 : Fld Z T554.heap b390 "com/example/kalchas/kalchas/propositional/HornClauses" "clauseCount" "I" (.int (3 : Int32)) := (f552.keep K554q nin0)
        have f560 : own_AV Z T554.heap x_393 .int (64 : Int32) (own_upd (own_upd (own_upd (fun _ => (.int (0 : Int32))) 0 (.int v2)) 1 (.int v4)) 2 (.int v6)) := (f553.keep K554q nin0)
        obtain ⟨cq561, kq561, q561a, q561b, q561c⟩ := isOf hZ rfl f557
        obtain ⟨_, _, ⟨T561, L561, k561, n561⟩, -, X561, hS561, gr561, ⟨Lc561, hQ561, l561, y561, z561⟩, st561⟩ := X554.virtualBackS hx (y := (⟨"com/example/kalchas/kalchas/propositional/HornClauses", "head", "(I)I"⟩ : MethodName)) (z := (⟨"com/example/kalchas/kalchas/propositional/HornClauses", "head", "(I)I"⟩ : MethodName)) hown (mvT hZ (hw _ (List.mem_of_getElem? (i := 53) rfl))) (mvT hZ (hw _ (List.mem_of_getElem? (i := 54) rfl))) (notFace_of_selects (args := #[]) (mvT hZ (hw _ (List.mem_of_getElem? (i := 56) rfl)))) (mvT hZ (hw _ (List.mem_of_getElem? (i := 56) rfl))) (mvT hZ (hw _ (List.mem_of_getElem? (i := 55) rfl))) (by decide) (backOfS (W := 0) (own_rm7_2 l Z a0 hw [] b390 x_393 (own_upd (own_upd (own_upd (fun _ => (.int (0 : Int32))) 0 (.int v2)) 1 (.int v4)) 2 (.int v6)) v6 T554.heap n0 (by omega) f557 f558 f559 f560 rfl) hZ (hw _ (List.mem_of_getElem? (i := 57) rfl)) (hw _ (List.mem_of_getElem? (i := 4) rfl)) (by decide) (by decide)) q561a q561c (g := (mkF m 192 #[.val (.int p_1), .val (.int p_2), .val (.int p_3), .val (.int p_4), .val (.int v2), .val (.int v4), .val (.int v6), .val (.int v8), .val (.ref b10), .val (.ref b379), .val (.ref b388), .val (.ref b390)] [(.int (2 : Int32)), (.ref b390)])) rfl (by rw [hml]; rfl) (Steps.refl _) (argsL := [(.int (2 : Int32))]) (rest := []) (lenOf own_pd5 rfl) rfl (by show 2 * 0 + _ ≤ _; exact Nat.le_of_eq rfl) (hb hby at_192) (fun _ _ => ⟨rfl, rfl, (by show k554 + _ ≤ _; rw [y554]; decide), (by show n554 + _ ≤ _; rw [z554]; decide)⟩)
        dsimp only [Pt.U, Pt.locs, Pt.cells, Pt.slots] at X561 l561 y561 z561 st561 hQ561 hS561 gr561
        have y561 : k561 = 23 := own_addeq y561 (congrArg (fun q => q) y554) rfl
        have z561 : n561 = 468 := own_addeq z561 (congrArg (fun q => q) z554) rfl
        have Wn561 := hS561.1
        obtain ⟨X561, hS561, hZ, hown⟩ := rebS hS554 (n1 := T554.heap.size) (by omega) X561 hS561 gr561 hZ hown
        obtain ⟨rfl, N561q, K561q⟩ := hQ561
        have N561 : Fr n0 L561 := by rw [l561]; exact Fr.app N554 N561q
        have z562 := K561q.1
        refine own_go (fun _ k => st561.trans k) ?_
        show own_Go _ _ _ _ T561 (mkF m 195 #[.val (.int p_1), .val (.int p_2), .val (.int p_3), .val (.int p_4), .val (.int v2), .val (.int v4), .val (.int v6), .val (.int v8), .val (.ref b10), .val (.ref b379), .val (.ref b388), .val (.ref b390)] [(.int v6)])
        refine own_go (fun _ k => XS.iload X561.here hx rfl (hb hby at_195) rfl k) ?_
        show own_Go _ _ _ _ T561 (mkF m 197 #[.val (.int p_1), .val (.int p_2), .val (.int p_3), .val (.int p_4), .val (.int v2), .val (.int v4), .val (.int v6), .val (.int v8), .val (.ref b10), .val (.ref b379), .val (.ref b388), .val (.ref b390)] [(.int v6), (.int v6)])
        have hc563 : v6 = v6 := rfl
        refine own_go (fun _ k => XS.icmpNo X561.here hx rfl (hb hby at_197) rfl (Jvm.Free.XT.ii_ne_f hc563) k) ?_
        show own_Go _ _ _ _ T561 (mkF m 200 #[.val (.int p_1), .val (.int p_2), .val (.int p_3), .val (.int p_4), .val (.int v2), .val (.int v4), .val (.int v6), .val (.int v8), .val (.ref b10), .val (.ref b379), .val (.ref b388), .val (.ref b390)] [])
        refine own_go (fun _ k => XS.iconst X561.here hx rfl (hb hby at_200) k) ?_
        show own_Go _ _ _ _ T561 (mkF m 201 #[.val (.int p_1), .val (.int p_2), .val (.int p_3), .val (.int p_4), .val (.int v2), .val (.int v4), .val (.int v6), .val (.int v8), .val (.ref b10), .val (.ref b379), .val (.ref b388), .val (.ref b390)] [(.int (1 : Int32))])
        refine own_go (fun _ k => XS.goto X561.here hx rfl (pc0 := 201) (pc' := 205) rfl (hb hby at_201) (by decide) (by decide) k) ?_
        show own_Go _ _ _ _ T561 (mkF m 205 #[.val (.int p_1), .val (.int p_2), .val (.int p_3), .val (.int p_4), .val (.int v2), .val (.int v4), .val (.int v6), .val (.int v8), .val (.ref b10), .val (.ref b379), .val (.ref b388), .val (.ref b390)] [(.int (1 : Int32))])
        obtain ⟨fs, hr, hrun, hended, hRW⟩ := X561.leaveW hS561 (by omega) (v := some (.int (1 : Int32))) (fun h => by rw [Bd.returns] at h; cases h)
        refine ⟨_, _, retOut X561 hx Bd.returns rfl (Or.inl ⟨rfl, Or.inr (Or.inl rfl), _, rfl⟩) (hb hby at_205) hr, hrun, hended, _, _, rfl, ?_, own_monoW hRW (by rw [y561]; decide) (by rw [z561]; decide)⟩
        exact ⟨rfl, N561⟩
      · refine own_go (fun _ k => XS.ifNo X385.here hx rfl (hb hby at_84) rfl (Jvm.Free.XT.i0_eq_f hc387) k) ?_
        show own_Go _ _ _ _ T385 (mkF m 87 #[.val (.int p_1), .val (.int p_2), .val (.int p_3), .val (.int p_4), .val (.int v2), .val (.int v4), .val (.int v6), .val (.int v8), .val (.ref b10), .val (.ref b379), .unset, .unset] [])
        refine own_go (fun _ k => XS.iconst X385.here hx rfl (hb hby at_87) k) ?_
        show own_Go _ _ _ _ T385 (mkF m 88 #[.val (.int p_1), .val (.int p_2), .val (.int p_3), .val (.int p_4), .val (.int v2), .val (.int v4), .val (.int v6), .val (.int v8), .val (.ref b10), .val (.ref b379), .unset, .unset] [(.int (3 : Int32))])
        obtain ⟨T565, h565, k565, X565, e565, E565, A565, st565⟩ := newP X385 hx hZ (hw _ (List.mem_of_getElem? (i := 1) rfl)) e385 (g := (mkF m 88 #[.val (.int p_1), .val (.int p_2), .val (.int p_3), .val (.int p_4), .val (.int v2), .val (.int v4), .val (.int v6), .val (.int v8), .val (.ref b10), .val (.ref b379), .unset, .unset] [(.int (3 : Int32))])) rfl (hb hby at_88) rfl (by decide) (cap := 3) (by decide) (by decide) (by decide) (by decide)
        obtain ⟨b565, g565⟩ : ∃ z, z = h385.size := ⟨_, rfl⟩
        rw [← g565] at A565 st565
        have z566 := E565.1
        have lt_b565 := own_lt A565.lt
        have V_b565 : own_AV Z h565 b565 .int (3 : Int32) (fun _ => (.int (0 : Int32))) := own_AV.new A565 (by decide)
        refine own_go (fun _ k => st565 _ k) ?_
        show own_Go _ _ _ _ T565 (mkF m 90 #[.val (.int p_1), .val (.int p_2), .val (.int p_3), .val (.int p_4), .val (.int v2), .val (.int v4), .val (.int v6), .val (.int v8), .val (.ref b10), .val (.ref b379), .unset, .unset] [(.ref b565)])
        refine own_go (fun _ k => XS.dup X565.here hx rfl (hb hby at_90) rfl rfl k) ?_
        show own_Go _ _ _ _ T565 (mkF m 91 #[.val (.int p_1), .val (.int p_2), .val (.int p_3), .val (.int p_4), .val (.int v2), .val (.int v4), .val (.int v6), .val (.int v8), .val (.ref b10), .val (.ref b379), .unset, .unset] [(.ref b565), (.ref b565)])
        refine own_go (fun _ k => XS.iconst X565.here hx rfl (hb hby at_91) k) ?_
        show own_Go _ _ _ _ T565 (mkF m 92 #[.val (.int p_1), .val (.int p_2), .val (.int p_3), .val (.int p_4), .val (.int v2), .val (.int v4), .val (.int v6), .val (.int v8), .val (.ref b10), .val (.ref b379), .unset, .unset] [(.int (0 : Int32)), (.ref b565), (.ref b565)])
        refine own_go (fun _ k => XS.iload X565.here hx rfl (hb hby at_92) rfl k) ?_
        show own_Go _ _ _ _ T565 (mkF m 94 #[.val (.int p_1), .val (.int p_2), .val (.int p_3), .val (.int p_4), .val (.int v2), .val (.int v4), .val (.int v6), .val (.int v8), .val (.ref b10), .val (.ref b379), .unset, .unset] [(.int v4), (.int (0 : Int32)), (.ref b565), (.ref b565)])
        obtain ⟨q567, c567, R567, s567, t567⟩ := id V_b565
        have hin567 : ¬ ((0 : Int32) < 0 ∨ c567.slots.size ≤ ((0 : Int32)).toNatClampNeg) := inb_of s567 ⟨by decide, by decide⟩
        obtain ⟨T568, h568, X568, e568, W568, st568⟩ := stI X565 hx hZ e565 R567 (j := (0 : Int32)) hin567 (g := (mkF m 94 #[.val (.int p_1), .val (.int p_2), .val (.int p_3), .val (.int p_4), .val (.int v2), .val (.int v4), .val (.int v6), .val (.int v8), .val (.ref b10), .val (.ref b379), .unset, .unset] [(.int v4), (.int (0 : Int32)), (.ref b565), (.ref b565)])) rfl rfl (hb hby at_94)
        have V568 : own_AV Z h568 b565 .int (3 : Int32) (own_upd (fun _ => (.int (0 : Int32))) 0 (.int v4)) := own_AV.set (k := 0) V_b565 W568 (by decide)
        have z569 := W568.size
        have N568 := Fr.snoc X568 N385 (by omega : n0 ≤ b565)
        refine own_go (fun _ k => st568 _ k) ?_
        show own_Go _ _ _ _ T568 (mkF m 95 #[.val (.int p_1), .val (.int p_2), .val (.int p_3), .val (.int p_4), .val (.int v2), .val (.int v4), .val (.int v6), .val (.int v8), .val (.ref b10), .val (.ref b379), .unset, .unset] [(.ref b565)])
        refine own_go (fun _ k => XS.dup X568.here hx rfl (hb hby at_95) rfl rfl k) ?_
        show own_Go _ _ _ _ T568 (mkF m 96 #[.val (.int p_1), .val (.int p_2), .val (.int p_3), .val (.int p_4), .val (.int v2), .val (.int v4), .val (.int v6), .val (.int v8), .val (.ref b10), .val (.ref b379), .unset, .unset] [(.ref b565), (.ref b565)])
        refine own_go (fun _ k => XS.iconst X568.here hx rfl (hb hby at_96) k) ?_
        show own_Go _ _ _ _ T568 (mkF m 97 #[.val (.int p_1), .val (.int p_2), .val (.int p_3), .val (.int p_4), .val (.int v2), .val (.int v4), .val (.int v6), .val (.int v8), .val (.ref b10), .val (.ref b379), .unset, .unset] [(.int (1 : Int32)), (.ref b565), (.ref b565)])
        refine own_go (fun _ k => XS.iload X568.here hx rfl (hb hby at_97) rfl k) ?_
        show own_Go _ _ _ _ T568 (mkF m 99 #[.val (.int p_1), .val (.int p_2), .val (.int p_3), .val (.int p_4), .val (.int v2), .val (.int v4), .val (.int v6), .val (.int v8), .val (.ref b10), .val (.ref b379), .unset, .unset] [(.int v8), (.int (1 : Int32)), (.ref b565), (.ref b565)])
        obtain ⟨q570, c570, R570, s570, t570⟩ := id V568
        have hin570 : ¬ ((1 : Int32) < 0 ∨ c570.slots.size ≤ ((1 : Int32)).toNatClampNeg) := inb_of s570 ⟨by decide, by decide⟩
        obtain ⟨T571, h571, X571, e571, W571, st571⟩ := stI X568 hx hZ e568 R570 (j := (1 : Int32)) hin570 (g := (mkF m 99 #[.val (.int p_1), .val (.int p_2), .val (.int p_3), .val (.int p_4), .val (.int v2), .val (.int v4), .val (.int v6), .val (.int v8), .val (.ref b10), .val (.ref b379), .unset, .unset] [(.int v8), (.int (1 : Int32)), (.ref b565), (.ref b565)])) rfl rfl (hb hby at_99)
        have V571 : own_AV Z h571 b565 .int (3 : Int32) (own_upd (own_upd (fun _ => (.int (0 : Int32))) 0 (.int v4)) 1 (.int v8)) := own_AV.set (k := 1) V568 W571 (by decide)
        have z572 := W571.size
        have N571 := Fr.snoc X571 N568 (by omega : n0 ≤ b565)
        refine own_go (fun _ k => st571 _ k) ?_
        show own_Go _ _ _ _ T571 (mkF m 100 #[.val (.int p_1), .val (.int p_2), .val (.int p_3), .val (.int p_4), .val (.int v2), .val (.int v4), .val (.int v6), .val (.int v8), .val (.ref b10), .val (.ref b379), .unset, .unset] [(.ref b565)])
        refine own_go (fun _ k => XS.dup X571.here hx rfl (hb hby at_100) rfl rfl k) ?_
        show own_Go _ _ _ _ T571 (mkF m 101 #[.val (.int p_1), .val (.int p_2), .val (.int p_3), .val (.int p_4), .val (.int v2), .val (.int v4), .val (.int v6), .val (.int v8), .val (.ref b10), .val (.ref b379), .unset, .unset] [(.ref b565), (.ref b565)])
        refine own_go (fun _ k => XS.iconst X571.here hx rfl (hb hby at_101) k) ?_
        show own_Go _ _ _ _ T571 (mkF m 102 #[.val (.int p_1), .val (.int p_2), .val (.int p_3), .val (.int p_4), .val (.int v2), .val (.int v4), .val (.int v6), .val (.int v8), .val (.ref b10), .val (.ref b379), .unset, .unset] [(.int (2 : Int32)), (.ref b565), (.ref b565)])
        refine own_go (fun _ k => XS.iload X571.here hx rfl (hb hby at_102) rfl k) ?_
        show own_Go _ _ _ _ T571 (mkF m 104 #[.val (.int p_1), .val (.int p_2), .val (.int p_3), .val (.int p_4), .val (.int v2), .val (.int v4), .val (.int v6), .val (.int v8), .val (.ref b10), .val (.ref b379), .unset, .unset] [(.int v2), (.int (2 : Int32)), (.ref b565), (.ref b565)])
        obtain ⟨q573, c573, R573, s573, t573⟩ := id V571
        have hin573 : ¬ ((2 : Int32) < 0 ∨ c573.slots.size ≤ ((2 : Int32)).toNatClampNeg) := inb_of s573 ⟨by decide, by decide⟩
        obtain ⟨T574, h574, X574, e574, W574, st574⟩ := stI X571 hx hZ e571 R573 (j := (2 : Int32)) hin573 (g := (mkF m 104 #[.val (.int p_1), .val (.int p_2), .val (.int p_3), .val (.int p_4), .val (.int v2), .val (.int v4), .val (.int v6), .val (.int v8), .val (.ref b10), .val (.ref b379), .unset, .unset] [(.int v2), (.int (2 : Int32)), (.ref b565), (.ref b565)])) rfl rfl (hb hby at_104)
        have V574 : own_AV Z h574 b565 .int (3 : Int32) (own_upd (own_upd (own_upd (fun _ => (.int (0 : Int32))) 0 (.int v4)) 1 (.int v8)) 2 (.int v2)) := own_AV.set (k := 2) V571 W574 (by decide)
        have z575 := W574.size
        have N574 := Fr.snoc X574 N571 (by omega : n0 ≤ b565)
        refine own_go (fun _ k => st574 _ k) ?_
        show own_Go _ _ _ _ T574 (mkF m 105 #[.val (.int p_1), .val (.int p_2), .val (.int p_3), .val (.int p_4), .val (.int v2), .val (.int v4), .val (.int v6), .val (.int v8), .val (.ref b10), .val (.ref b379), .unset, .unset] [(.ref b565)])
        refine own_go (fun _ k => XS.goto X574.here hx rfl (pc0 := 105) (pc' := 111) rfl (hb hby at_105) (by decide) (by decide) k) ?_
        show own_Go _ _ _ _ T574 (mkF m 111 #[.val (.int p_1), .val (.int p_2), .val (.int p_3), .val (.int p_4), .val (.int v2), .val (.int v4), .val (.int v6), .val (.int v8), .val (.ref b10), .val (.ref b379), .unset, .unset] [(.ref b565)])
        refine own_go (fun _ k => XS.astore X574.here hx rfl (hb hby at_111) rfl rfl (l' := #[.val (.int p_1), .val (.int p_2), .val (.int p_3), .val (.int p_4), .val (.int v2), .val (.int v4), .val (.int v6), .val (.int v8), .val (.ref b10), .val (.ref b379), .val (.ref b565), .unset]) rfl k) ?_
        show own_Go _ _ _ _ T574 (mkF m 113 #[.val (.int p_1), .val (.int p_2), .val (.int p_3), .val (.int p_4), .val (.int v2), .val (.int v4), .val (.int v6), .val (.int v8), .val (.ref b10), .val (.ref b379), .val (.ref b565), .unset] [])
        obtain ⟨T576, h576, X576, e576, E576, A576, D576, Y576, st576⟩ := newO X574 hx hZ hown (hw _ (List.mem_of_getElem? (i := 2) rfl)) (hw _ (List.mem_of_getElem? (i := 3) rfl)) (hw _ (List.mem_of_getElem? (i := 4) rfl)) e574 (g := (mkF m 113 #[.val (.int p_1), .val (.int p_2), .val (.int p_3), .val (.int p_4), .val (.int v2), .val (.int v4), .val (.int v6), .val (.int v8), .val (.ref b10), .val (.ref b379), .val (.ref b565), .unset] [])) rfl (hb hby at_113) (by decide) (by decide)
        obtain ⟨b576, g576⟩ : ∃ z, z = h574.size := ⟨_, rfl⟩
        rw [← g576] at A576 D576 Y576 st576
        have z577 := E576.1
        have lt_b576 := own_lt A576.lt
        have F_heads_b576 : Fld Z h576 b576 "com/example/kalchas/kalchas/propositional/HornClauses" "heads" "[I" .null := D576 (Or.inl (hw _ (List.mem_of_getElem? (i := 12) rfl))) (ty := (.array .int)) (by decide)
        have F_bodyStarts_b576 : Fld Z h576 b576 "com/example/kalchas/kalchas/propositional/HornClauses" "bodyStarts" "[I" .null := D576 (Or.inl (hw _ (List.mem_of_getElem? (i := 14) rfl))) (ty := (.array .int)) (by decide)
        have F_bodies_b576 : Fld Z h576 b576 "com/example/kalchas/kalchas/propositional/HornClauses" "bodies" "[I" .null := D576 (Or.inl (hw _ (List.mem_of_getElem? (i := 16) rfl))) (ty := (.array .int)) (by decide)
        have F_occurrences_b576 : Fld Z h576 b576 "com/example/kalchas/kalchas/propositional/HornClauses" "occurrences" "[I" .null := D576 (Or.inl (hw _ (List.mem_of_getElem? (i := 23) rfl))) (ty := (.array .int)) (by decide)
        have F_variableCount_b576 : Fld Z h576 b576 "com/example/kalchas/kalchas/propositional/HornClauses" "variableCount" "I" (.int (0 : Int32)) := D576 (Or.inl (hw _ (List.mem_of_getElem? (i := 25) rfl))) (ty := .int) (by decide)
        have F_clauseCount_b576 : Fld Z h576 b576 "com/example/kalchas/kalchas/propositional/HornClauses" "clauseCount" "I" (.int (0 : Int32)) := D576 (Or.inl (hw _ (List.mem_of_getElem? (i := 48) rfl))) (ty := .int) (by decide)
        refine own_go (fun _ k => st576 _ k) ?_
        show own_Go _ _ _ _ T576 (mkF m 116 #[.val (.int p_1), .val (.int p_2), .val (.int p_3), .val (.int p_4), .val (.int v2), .val (.int v4), .val (.int v6), .val (.int v8), .val (.ref b10), .val (.ref b379), .val (.ref b565), .unset] [(.ref b576)])
        refine own_go (fun _ k => XS.dup X576.here hx rfl (hb hby at_116) rfl rfl k) ?_
        show own_Go _ _ _ _ T576 (mkF m 117 #[.val (.int p_1), .val (.int p_2), .val (.int p_3), .val (.int p_4), .val (.int v2), .val (.int v4), .val (.int v6), .val (.int v8), .val (.ref b10), .val (.ref b379), .val (.ref b565), .unset] [(.ref b576), (.ref b576)])
        obtain ⟨_, _, ⟨T578, L578, k578, n578⟩, -, X578, ⟨Lc578, hQ578, l578, y578, z578⟩, st578⟩ := X576.specialBack hx (y := (⟨"com/example/kalchas/kalchas/propositional/HornClauses", "<init>", "()V"⟩ : MethodName)) rfl hown (mvT hZ (hw _ (List.mem_of_getElem? (i := 5) rfl))) (mvT hZ (hw _ (List.mem_of_getElem? (i := 6) rfl))) (mvT hZ (hw _ (List.mem_of_getElem? (i := 7) rfl))) (by decide) (backOf (W := 1) (own_rm1 l Z a0 hw [] b576 .null .null .null .null (0 : Int32) (0 : Int32) h576 n0 (by omega) A576 F_heads_b576 F_bodyStarts_b576 F_bodies_b576 F_occurrences_b576 F_variableCount_b576 F_clauseCount_b576 (by omega)) hZ (hw _ (List.mem_of_getElem? (i := 7) rfl)) (hw _ (List.mem_of_getElem? (i := 4) rfl)) (by decide) (by decide)) (g := (mkF m 117 #[.val (.int p_1), .val (.int p_2), .val (.int p_3), .val (.int p_4), .val (.int v2), .val (.int v4), .val (.int v6), .val (.int v8), .val (.ref b10), .val (.ref b379), .val (.ref b565), .unset] [(.ref b576), (.ref b576)])) rfl (by rw [hml]; rfl) (Steps.refl _) (a := b576) (argsL := []) (rest := [(.ref b576)]) (lenOf own_pd2 rfl) rfl (by show 2 * 0 + _ ≤ _; exact Nat.le_of_eq rfl) (hb hby at_117) (fun _ _ => ⟨rfl, e576, (by decide : 4 + 3 ≤ _), (by decide : 14 + 193 ≤ _)⟩)
        dsimp only [Pt.U, Pt.locs, Pt.cells, Pt.slots] at X578 l578 y578 z578 st578 hQ578
        have y578 : k578 = 7 := y578
        have z578 : n578 = 207 := z578
        obtain ⟨x_579, x_580, x_581, rfl, N578q, K578q, f582, f583, f584, f585, f586, f587, f588, f589, f590, f591, f592, f593, f594, f595⟩ := hQ578
        have N578 : Fr n0 L578 := by rw [l578]; exact Fr.app N574 N578q
        have z596 := K578q.1
        have z597 := own_lt f582.lt
        have z598 := own_lt f583.lt
        have z599 := own_lt f584.lt
        have z600 := own_lt f585.lt
        have z601 := own_lt f586.lt
        have z602 := own_lt f587.lt
        have z603 := own_lt f588.lt
        have z604 := own_lt f589.lt
        have z605 := own_lt f590.lt
        have z606 := own_lt f591.lt
        simp only [own_lts, and_true] at f595
        refine own_go (fun _ k => st578.trans k) ?_
        show own_Go _ _ _ _ T578 (mkF m 120 #[.val (.int p_1), .val (.int p_2), .val (.int p_3), .val (.int p_4), .val (.int v2), .val (.int v4), .val (.int v6), .val (.int v8), .val (.ref b10), .val (.ref b379), .val (.ref b565), .unset] [(.ref b576)])
        refine own_go (fun _ k => XS.astore X578.here hx rfl (hb hby at_120) rfl rfl (l' := #[.val (.int p_1), .val (.int p_2), .val (.int p_3), .val (.int p_4), .val (.int v2), .val (.int v4), .val (.int v6), .val (.int v8), .val (.ref b10), .val (.ref b379), .val (.ref b565), .val (.ref b576)]) rfl k) ?_
        show own_Go _ _ _ _ T578 (mkF m 122 #[.val (.int p_1), .val (.int p_2), .val (.int p_3), .val (.int p_4), .val (.int v2), .val (.int v4), .val (.int v6), .val (.int v8), .val (.ref b10), .val (.ref b379), .val (.ref b565), .val (.ref b576)] [])
        refine own_go (fun _ k => XS.aload X578.here hx rfl (hb hby at_122) rfl rfl k) ?_
        show own_Go _ _ _ _ T578 (mkF m 124 #[.val (.int p_1), .val (.int p_2), .val (.int p_3), .val (.int p_4), .val (.int v2), .val (.int v4), .val (.int v6), .val (.int v8), .val (.ref b10), .val (.ref b379), .val (.ref b565), .val (.ref b576)] [(.ref b576)])
        obtain ⟨cq607, kq607, q607a, q607b, q607c⟩ := isOf hZ rfl f582
        obtain ⟨_, _, ⟨T607, L607, k607, n607⟩, -, X607, ⟨Lc607, hQ607, l607, y607, z607⟩, st607⟩ := X578.virtualBack hx (y := (⟨"com/example/kalchas/kalchas/propositional/HornClauses", "newVariable", "()I"⟩ : MethodName)) (z := (⟨"com/example/kalchas/kalchas/propositional/HornClauses", "newVariable", "()I"⟩ : MethodName)) hown (mvT hZ (hw _ (List.mem_of_getElem? (i := 17) rfl))) (mvT hZ (hw _ (List.mem_of_getElem? (i := 18) rfl))) (notFace_of_selects (args := #[]) (mvT hZ (hw _ (List.mem_of_getElem? (i := 20) rfl)))) (mvT hZ (hw _ (List.mem_of_getElem? (i := 20) rfl))) (mvT hZ (hw _ (List.mem_of_getElem? (i := 19) rfl))) (by decide) (backOf (W := 0) (own_rm3 l Z a0 hw [] b576 (.ref x_579) (.ref x_580) (.ref x_581) .null (0 : Int32) (0 : Int32) T578.heap n0 (by omega) f582 f583 f584 f585 f586 f587 f588 (by omega)) hZ (hw _ (List.mem_of_getElem? (i := 21) rfl)) (hw _ (List.mem_of_getElem? (i := 4) rfl)) (by decide) (by decide)) q607a q607c (g := (mkF m 124 #[.val (.int p_1), .val (.int p_2), .val (.int p_3), .val (.int p_4), .val (.int v2), .val (.int v4), .val (.int v6), .val (.int v8), .val (.ref b10), .val (.ref b379), .val (.ref b565), .val (.ref b576)] [(.ref b576)])) rfl (by rw [hml]; rfl) (Steps.refl _) (argsL := []) (rest := []) (lenOf own_pd3 rfl) rfl (by show 2 * 0 + _ ≤ _; exact Nat.le_of_eq rfl) (hb hby at_124) (fun _ _ => ⟨rfl, rfl, (by show k578 + _ ≤ _; rw [y578]; decide), (by show n578 + _ ≤ _; rw [z578]; decide)⟩)
        dsimp only [Pt.U, Pt.locs, Pt.cells, Pt.slots] at X607 l607 y607 z607 st607 hQ607
        have y607 : k607 = 7 := own_addeq y607 (congrArg (fun q => q) y578) rfl
        have z607 : n607 = 207 := own_addeq z607 (congrArg (fun q => q) z578) rfl
        obtain ⟨rfl, N607q, K607q, f608, f609, f610, f611, f612, f613, f614⟩ := hQ607
        have N607 : Fr n0 L607 := by rw [l607]; exact Fr.app N578 N607q
        have z615 := K607q.1
        have z616 := own_lt f608.lt
        have z617 := own_lt f609.lt
        have z618 := own_lt f610.lt
        have z619 := own_lt f611.lt
        have z620 := own_lt f612.lt
        have f613 : Fld Z T607.heap b576 "com/example/kalchas/kalchas/propositional/HornClauses" "variableCount" "I" (.int (1 : Int32)) := f613
        have z621 := own_lt f613.lt
        have z622 := own_lt f614.lt
        refine own_go (fun _ k => st607.trans k) ?_
        show own_Go _ _ _ _ T607 (mkF m 127 #[.val (.int p_1), .val (.int p_2), .val (.int p_3), .val (.int p_4), .val (.int v2), .val (.int v4), .val (.int v6), .val (.int v8), .val (.ref b10), .val (.ref b379), .val (.ref b565), .val (.ref b576)] [(.int (0 : Int32))])
        refine own_go (fun _ k => XS.pop X607.here hx rfl (hb hby at_127) rfl rfl k) ?_
        show own_Go _ _ _ _ T607 (mkF m 128 #[.val (.int p_1), .val (.int p_2), .val (.int p_3), .val (.int p_4), .val (.int v2), .val (.int v4), .val (.int v6), .val (.int v8), .val (.ref b10), .val (.ref b379), .val (.ref b565), .val (.ref b576)] [])
        refine own_go (fun _ k => XS.aload X607.here hx rfl (hb hby at_128) rfl rfl k) ?_
        show own_Go _ _ _ _ T607 (mkF m 130 #[.val (.int p_1), .val (.int p_2), .val (.int p_3), .val (.int p_4), .val (.int v2), .val (.int v4), .val (.int v6), .val (.int v8), .val (.ref b10), .val (.ref b379), .val (.ref b565), .val (.ref b576)] [(.ref b576)])
        obtain ⟨cq623, kq623, q623a, q623b, q623c⟩ := isOf hZ rfl f608
        obtain ⟨_, _, ⟨T623, L623, k623, n623⟩, -, X623, ⟨Lc623, hQ623, l623, y623, z623⟩, st623⟩ := X607.virtualBack hx (y := (⟨"com/example/kalchas/kalchas/propositional/HornClauses", "newVariable", "()I"⟩ : MethodName)) (z := (⟨"com/example/kalchas/kalchas/propositional/HornClauses", "newVariable", "()I"⟩ : MethodName)) hown (mvT hZ (hw _ (List.mem_of_getElem? (i := 17) rfl))) (mvT hZ (hw _ (List.mem_of_getElem? (i := 18) rfl))) (notFace_of_selects (args := #[]) (mvT hZ (hw _ (List.mem_of_getElem? (i := 20) rfl)))) (mvT hZ (hw _ (List.mem_of_getElem? (i := 20) rfl))) (mvT hZ (hw _ (List.mem_of_getElem? (i := 19) rfl))) (by decide) (backOf (W := 0) (own_rm3 l Z a0 hw [] b576 (.ref x_579) (.ref x_580) (.ref x_581) .null (1 : Int32) (0 : Int32) T607.heap n0 (by omega) f608 f609 f610 f611 f612 f613 f614 (by omega)) hZ (hw _ (List.mem_of_getElem? (i := 21) rfl)) (hw _ (List.mem_of_getElem? (i := 4) rfl)) (by decide) (by decide)) q623a q623c (g := (mkF m 130 #[.val (.int p_1), .val (.int p_2), .val (.int p_3), .val (.int p_4), .val (.int v2), .val (.int v4), .val (.int v6), .val (.int v8), .val (.ref b10), .val (.ref b379), .val (.ref b565), .val (.ref b576)] [(.ref b576)])) rfl (by rw [hml]; rfl) (Steps.refl _) (argsL := []) (rest := []) (lenOf own_pd3 rfl) rfl (by show 2 * 0 + _ ≤ _; exact Nat.le_of_eq rfl) (hb hby at_130) (fun _ _ => ⟨rfl, rfl, (by show k607 + _ ≤ _; rw [y607]; decide), (by show n607 + _ ≤ _; rw [z607]; decide)⟩)
        dsimp only [Pt.U, Pt.locs, Pt.cells, Pt.slots] at X623 l623 y623 z623 st623 hQ623
        have y623 : k623 = 7 := own_addeq y623 (congrArg (fun q => q) y607) rfl
        have z623 : n623 = 207 := own_addeq z623 (congrArg (fun q => q) z607) rfl
        obtain ⟨rfl, N623q, K623q, f624, f625, f626, f627, f628, f629, f630⟩ := hQ623
        have N623 : Fr n0 L623 := by rw [l623]; exact Fr.app N607 N623q
        have z631 := K623q.1
        have z632 := own_lt f624.lt
        have z633 := own_lt f625.lt
        have z634 := own_lt f626.lt
        have z635 := own_lt f627.lt
        have z636 := own_lt f628.lt
        have f629 : Fld Z T623.heap b576 "com/example/kalchas/kalchas/propositional/HornClauses" "variableCount" "I" (.int (2 : Int32)) := f629
        have z637 := own_lt f629.lt
        have z638 := own_lt f630.lt
        refine own_go (fun _ k => st623.trans k) ?_
        show own_Go _ _ _ _ T623 (mkF m 133 #[.val (.int p_1), .val (.int p_2), .val (.int p_3), .val (.int p_4), .val (.int v2), .val (.int v4), .val (.int v6), .val (.int v8), .val (.ref b10), .val (.ref b379), .val (.ref b565), .val (.ref b576)] [(.int (1 : Int32))])
        refine own_go (fun _ k => XS.pop X623.here hx rfl (hb hby at_133) rfl rfl k) ?_
        show own_Go _ _ _ _ T623 (mkF m 134 #[.val (.int p_1), .val (.int p_2), .val (.int p_3), .val (.int p_4), .val (.int v2), .val (.int v4), .val (.int v6), .val (.int v8), .val (.ref b10), .val (.ref b379), .val (.ref b565), .val (.ref b576)] [])
        refine own_go (fun _ k => XS.aload X623.here hx rfl (hb hby at_134) rfl rfl k) ?_
        show own_Go _ _ _ _ T623 (mkF m 136 #[.val (.int p_1), .val (.int p_2), .val (.int p_3), .val (.int p_4), .val (.int v2), .val (.int v4), .val (.int v6), .val (.int v8), .val (.ref b10), .val (.ref b379), .val (.ref b565), .val (.ref b576)] [(.ref b576)])
        obtain ⟨cq639, kq639, q639a, q639b, q639c⟩ := isOf hZ rfl f624
        obtain ⟨_, _, ⟨T639, L639, k639, n639⟩, -, X639, ⟨Lc639, hQ639, l639, y639, z639⟩, st639⟩ := X623.virtualBack hx (y := (⟨"com/example/kalchas/kalchas/propositional/HornClauses", "newVariable", "()I"⟩ : MethodName)) (z := (⟨"com/example/kalchas/kalchas/propositional/HornClauses", "newVariable", "()I"⟩ : MethodName)) hown (mvT hZ (hw _ (List.mem_of_getElem? (i := 17) rfl))) (mvT hZ (hw _ (List.mem_of_getElem? (i := 18) rfl))) (notFace_of_selects (args := #[]) (mvT hZ (hw _ (List.mem_of_getElem? (i := 20) rfl)))) (mvT hZ (hw _ (List.mem_of_getElem? (i := 20) rfl))) (mvT hZ (hw _ (List.mem_of_getElem? (i := 19) rfl))) (by decide) (backOf (W := 0) (own_rm3 l Z a0 hw [] b576 (.ref x_579) (.ref x_580) (.ref x_581) .null (2 : Int32) (0 : Int32) T623.heap n0 (by omega) f624 f625 f626 f627 f628 f629 f630 (by omega)) hZ (hw _ (List.mem_of_getElem? (i := 21) rfl)) (hw _ (List.mem_of_getElem? (i := 4) rfl)) (by decide) (by decide)) q639a q639c (g := (mkF m 136 #[.val (.int p_1), .val (.int p_2), .val (.int p_3), .val (.int p_4), .val (.int v2), .val (.int v4), .val (.int v6), .val (.int v8), .val (.ref b10), .val (.ref b379), .val (.ref b565), .val (.ref b576)] [(.ref b576)])) rfl (by rw [hml]; rfl) (Steps.refl _) (argsL := []) (rest := []) (lenOf own_pd3 rfl) rfl (by show 2 * 0 + _ ≤ _; exact Nat.le_of_eq rfl) (hb hby at_136) (fun _ _ => ⟨rfl, rfl, (by show k623 + _ ≤ _; rw [y623]; decide), (by show n623 + _ ≤ _; rw [z623]; decide)⟩)
        dsimp only [Pt.U, Pt.locs, Pt.cells, Pt.slots] at X639 l639 y639 z639 st639 hQ639
        have y639 : k639 = 7 := own_addeq y639 (congrArg (fun q => q) y623) rfl
        have z639 : n639 = 207 := own_addeq z639 (congrArg (fun q => q) z623) rfl
        obtain ⟨rfl, N639q, K639q, f640, f641, f642, f643, f644, f645, f646⟩ := hQ639
        have N639 : Fr n0 L639 := by rw [l639]; exact Fr.app N623 N639q
        have z647 := K639q.1
        have z648 := own_lt f640.lt
        have z649 := own_lt f641.lt
        have z650 := own_lt f642.lt
        have z651 := own_lt f643.lt
        have z652 := own_lt f644.lt
        have f645 : Fld Z T639.heap b576 "com/example/kalchas/kalchas/propositional/HornClauses" "variableCount" "I" (.int (3 : Int32)) := f645
        have z653 := own_lt f645.lt
        have z654 := own_lt f646.lt
        refine own_go (fun _ k => st639.trans k) ?_
        show own_Go _ _ _ _ T639 (mkF m 139 #[.val (.int p_1), .val (.int p_2), .val (.int p_3), .val (.int p_4), .val (.int v2), .val (.int v4), .val (.int v6), .val (.int v8), .val (.ref b10), .val (.ref b379), .val (.ref b565), .val (.ref b576)] [(.int (2 : Int32))])
        refine own_go (fun _ k => XS.pop X639.here hx rfl (hb hby at_139) rfl rfl k) ?_
        show own_Go _ _ _ _ T639 (mkF m 140 #[.val (.int p_1), .val (.int p_2), .val (.int p_3), .val (.int p_4), .val (.int v2), .val (.int v4), .val (.int v6), .val (.int v8), .val (.ref b10), .val (.ref b379), .val (.ref b565), .val (.ref b576)] [])
        refine own_go (fun _ k => XS.aload X639.here hx rfl (hb hby at_140) rfl rfl k) ?_
        show own_Go _ _ _ _ T639 (mkF m 142 #[.val (.int p_1), .val (.int p_2), .val (.int p_3), .val (.int p_4), .val (.int v2), .val (.int v4), .val (.int v6), .val (.int v8), .val (.ref b10), .val (.ref b379), .val (.ref b565), .val (.ref b576)] [(.ref b576)])
        refine own_go (fun _ k => XS.iload X639.here hx rfl (hb hby at_142) rfl k) ?_
        show own_Go _ _ _ _ T639 (mkF m 144 #[.val (.int p_1), .val (.int p_2), .val (.int p_3), .val (.int p_4), .val (.int v2), .val (.int v4), .val (.int v6), .val (.int v8), .val (.ref b10), .val (.ref b379), .val (.ref b565), .val (.ref b576)] [(.int v2), (.ref b576)])
        refine own_go (fun _ k => XS.aload X639.here hx rfl (hb hby at_144) rfl rfl k) ?_
        show own_Go _ _ _ _ T639 (mkF m 146 #[.val (.int p_1), .val (.int p_2), .val (.int p_3), .val (.int p_4), .val (.int v2), .val (.int v4), .val (.int v6), .val (.int v8), .val (.ref b10), .val (.ref b379), .val (.ref b565), .val (.ref b576)] [(.ref b10), (.int v2), (.ref b576)])
        have f655 : own_AV Z T639.heap x_579 .int (64 : Int32) (fun _ => (.int (0 : Int32))) := (((f589.keep K607q (ninS (own_ne (by omega)) nin0)).keep K623q (ninS (own_ne (by omega)) nin0)).keep K639q (ninS (own_ne (by omega)) nin0))
        have f656 : own_AV Z T639.heap x_580 .int (65 : Int32) (fun _ => (.int (0 : Int32))) := (((f590.keep K607q (ninS (own_ne (by omega)) nin0)).keep K623q (ninS (own_ne (by omega)) nin0)).keep K639q (ninS (own_ne (by omega)) nin0))
        have f657 : own_AV Z T639.heap x_581 .int (64 : Int32) (fun _ => (.int (0 : Int32))) := (((f591.keep K607q (ninS (own_ne (by omega)) nin0)).keep K623q (ninS (own_ne (by omega)) nin0)).keep K639q (ninS (own_ne (by omega)) nin0))
        have f658 : own_AV Z T639.heap b10 .int (0 : Int32) (fun _ => (.int (0 : Int32))) := ((((((((((((V_b10.ext E379).other W382 (own_ne (by omega))).other W385 (own_ne (by omega))).ext E565).other W568 (own_ne (by omega))).other W571 (own_ne (by omega))).other W574 (own_ne (by omega))).ext E576).keep K578q (ninS (own_ne (by omega)) nin0)).keep K607q (ninS (own_ne (by omega)) nin0)).keep K623q (ninS (own_ne (by omega)) nin0)).keep K639q (ninS (own_ne (by omega)) nin0))
        obtain ⟨cq659, kq659, q659a, q659b, q659c⟩ := isOf hZ rfl f640
        obtain ⟨_, _, ⟨T659, L659, k659, n659⟩, -, X659, hS659, gr659, ⟨Lc659, hQ659, l659, y659, z659⟩, st659⟩ := X639.virtualBackS hx (y := (⟨"com/example/kalchas/kalchas/propositional/HornClauses", "add", "(I[I)V"⟩ : MethodName)) (z := (⟨"com/example/kalchas/kalchas/propositional/HornClauses", "add", "(I[I)V"⟩ : MethodName)) hown (mvT hZ (hw _ (List.mem_of_getElem? (i := 26) rfl))) (mvT hZ (hw _ (List.mem_of_getElem? (i := 27) rfl))) (notFace_of_selects (args := #[]) (mvT hZ (hw _ (List.mem_of_getElem? (i := 29) rfl)))) (mvT hZ (hw _ (List.mem_of_getElem? (i := 29) rfl))) (mvT hZ (hw _ (List.mem_of_getElem? (i := 28) rfl))) (by decide) (backOfS (W := 0) (own_rm4_00 l Z a0 hw [] b576 v2 b10 x_579 x_580 x_581 (fun _ => (.int (0 : Int32))) (fun _ => (.int (0 : Int32))) (fun _ => (.int (0 : Int32))) (0 : Int32) .null T639.heap n0 (by omega) f640 f645 f646 f641 f642 f643 f644 f655 f656 f657 f658 (by simp only [own_lts, and_true]; omega) rfl (by decide) (fun _ => rfl) (show ¬ (v2 < 0) by first | assumption | omega | decide) (show v2 < (3 : Int32) by first | assumption | omega | decide) (by omega) (by omega) (by omega) (by omega)) hZ (hw _ (List.mem_of_getElem? (i := 30) rfl)) (hw _ (List.mem_of_getElem? (i := 4) rfl)) (by decide) (by decide)) q659a q659c (g := (mkF m 146 #[.val (.int p_1), .val (.int p_2), .val (.int p_3), .val (.int p_4), .val (.int v2), .val (.int v4), .val (.int v6), .val (.int v8), .val (.ref b10), .val (.ref b379), .val (.ref b565), .val (.ref b576)] [(.ref b10), (.int v2), (.ref b576)])) rfl (by rw [hml]; rfl) (Steps.refl _) (argsL := [(.int v2), (.ref b10)]) (rest := []) (lenOf own_pd4 rfl) rfl (by show 2 * 0 + _ ≤ _; exact Nat.le_of_eq rfl) (hb hby at_146) (fun _ _ => ⟨rfl, rfl, (by show k639 + _ ≤ _; rw [y639]; decide), (by show n639 + _ ≤ _; rw [z639]; decide)⟩)
        dsimp only [Pt.U, Pt.locs, Pt.cells, Pt.slots] at X659 l659 y659 z659 st659 hQ659 hS659 gr659
        have y659 : k659 = 9 := own_addeq y659 (congrArg (fun q => q) y639) rfl
        have z659 : n659 = 243 := own_addeq z659 (congrArg (fun q => q) z639) rfl
        have Wn659 := hS659.1
        obtain ⟨X659, hS659, hZ, hown⟩ := rebS hS0 (n1 := T639.heap.size) (by omega) X659 hS659 gr659 hZ hown
        obtain ⟨gb_660, rfl, N659q, K659q, f661, f662, f663, f664, f665, f666, f667, f668, f669, f670, f671⟩ := hQ659
        have N659 : Fr n0 L659 := by rw [l659]; exact Fr.app N639 N659q
        have z672 := K659q.1
        have z673 := own_lt f661.lt
        have z674 := own_lt f662.lt
        have z675 := own_lt f663.lt
        have z676 := own_lt f664.lt
        have z677 := own_lt f665.lt
        have z678 := own_lt f666.lt
        have z679 := own_lt f667.lt
        have z680 := own_lt f668.lt
        have z681 := own_lt f669.lt
        have z682 := own_lt f670.lt
        refine own_go (fun _ k => st659.trans k) ?_
        show own_Go _ _ _ _ T659 (mkF m 149 #[.val (.int p_1), .val (.int p_2), .val (.int p_3), .val (.int p_4), .val (.int v2), .val (.int v4), .val (.int v6), .val (.int v8), .val (.ref b10), .val (.ref b379), .val (.ref b565), .val (.ref b576)] [])
        refine own_go (fun _ k => XS.aload X659.here hx rfl (hb hby at_149) rfl rfl k) ?_
        show own_Go _ _ _ _ T659 (mkF m 151 #[.val (.int p_1), .val (.int p_2), .val (.int p_3), .val (.int p_4), .val (.int v2), .val (.int v4), .val (.int v6), .val (.int v8), .val (.ref b10), .val (.ref b379), .val (.ref b565), .val (.ref b576)] [(.ref b576)])
        refine own_go (fun _ k => XS.iload X659.here hx rfl (hb hby at_151) rfl k) ?_
        show own_Go _ _ _ _ T659 (mkF m 153 #[.val (.int p_1), .val (.int p_2), .val (.int p_3), .val (.int p_4), .val (.int v2), .val (.int v4), .val (.int v6), .val (.int v8), .val (.ref b10), .val (.ref b379), .val (.ref b565), .val (.ref b576)] [(.int v4), (.ref b576)])
        refine own_go (fun _ k => XS.aload X659.here hx rfl (hb hby at_153) rfl rfl k) ?_
        show own_Go _ _ _ _ T659 (mkF m 155 #[.val (.int p_1), .val (.int p_2), .val (.int p_3), .val (.int p_4), .val (.int v2), .val (.int v4), .val (.int v6), .val (.int v8), .val (.ref b10), .val (.ref b379), .val (.ref b565), .val (.ref b576)] [(.ref b379), (.int v4), (.ref b576)])
        have f683 : own_AV Z T659.heap b379 .int (2 : Int32) (own_upd (own_upd (fun _ => (.int (0 : Int32))) 0 (.int v2)) 1 (.int v6)) := ((((((((((V385.ext E565).other W568 (own_ne (by omega))).other W571 (own_ne (by omega))).other W574 (own_ne (by omega))).ext E576).keep K578q (ninS (own_ne (by omega)) nin0)).keep K607q (ninS (own_ne (by omega)) nin0)).keep K623q (ninS (own_ne (by omega)) nin0)).keep K639q (ninS (own_ne (by omega)) nin0)).keep K659q (ninS (own_ne (by omega)) (ninS (own_ne (by omega)) (ninS (own_ne (by omega)) (ninS (own_ne (by omega)) nin0)))))
        obtain ⟨cq684, kq684, q684a, q684b, q684c⟩ := isOf hZ rfl f661
        obtain ⟨_, _, ⟨T684, L684, k684, n684⟩, -, X684, hS684, gr684, ⟨Lc684, hQ684, l684, y684, z684⟩, st684⟩ := X659.virtualBackS hx (y := (⟨"com/example/kalchas/kalchas/propositional/HornClauses", "add", "(I[I)V"⟩ : MethodName)) (z := (⟨"com/example/kalchas/kalchas/propositional/HornClauses", "add", "(I[I)V"⟩ : MethodName)) hown (mvT hZ (hw _ (List.mem_of_getElem? (i := 26) rfl))) (mvT hZ (hw _ (List.mem_of_getElem? (i := 27) rfl))) (notFace_of_selects (args := #[]) (mvT hZ (hw _ (List.mem_of_getElem? (i := 29) rfl)))) (mvT hZ (hw _ (List.mem_of_getElem? (i := 29) rfl))) (mvT hZ (hw _ (List.mem_of_getElem? (i := 28) rfl))) (by decide) (backOfS (W := 0) (own_rm4_12 l Z a0 hw [] b576 v4 b379 x_579 x_580 x_581 (own_upd (fun _ => (.int (0 : Int32))) 0 (.int v2)) (own_upd (fun _ => (.int (0 : Int32))) 1 (.int ((0 : Int32) + (0 : Int32)))) gb_660 ((0 : Int32) + (0 : Int32)) .null v2 v6 T659.heap n0 (by omega) f661 f662 f663 f664 f665 f666 f667 f668 f669 f670 f683 (by simp only [own_lts, and_true]; omega) rfl (by decide) f671 (show ¬ (v4 < 0) by first | assumption | omega | decide) (show v4 < (3 : Int32) by first | assumption | omega | decide) (show ¬ (v2 < 0) by first | assumption | omega | decide) (show v2 < (3 : Int32) by first | assumption | omega | decide) (show ¬ (v6 < 0) by first | assumption | omega | decide) (show v6 < (3 : Int32) by first | assumption | omega | decide) (by omega) (by omega) (by omega) (by omega)) hZ (hw _ (List.mem_of_getElem? (i := 30) rfl)) (hw _ (List.mem_of_getElem? (i := 4) rfl)) (by decide) (by decide)) q684a q684c (g := (mkF m 155 #[.val (.int p_1), .val (.int p_2), .val (.int p_3), .val (.int p_4), .val (.int v2), .val (.int v4), .val (.int v6), .val (.int v8), .val (.ref b10), .val (.ref b379), .val (.ref b565), .val (.ref b576)] [(.ref b379), (.int v4), (.ref b576)])) rfl (by rw [hml]; rfl) (Steps.refl _) (argsL := [(.int v4), (.ref b379)]) (rest := []) (lenOf own_pd4 rfl) rfl (by show 2 * 0 + _ ≤ _; exact Nat.le_of_eq rfl) (hb hby at_155) (fun _ _ => ⟨rfl, rfl, (by show k659 + _ ≤ _; rw [y659]; decide), (by show n659 + _ ≤ _; rw [z659]; decide)⟩)
        dsimp only [Pt.U, Pt.locs, Pt.cells, Pt.slots] at X684 l684 y684 z684 st684 hQ684 hS684 gr684
        have y684 : k684 = 15 := own_addeq y684 (congrArg (fun q => q) y659) rfl
        have z684 : n684 = 351 := own_addeq z684 (congrArg (fun q => q) z659) rfl
        have Wn684 := hS684.1
        obtain ⟨X684, hS684, hZ, hown⟩ := rebS hS659 (n1 := T659.heap.size) (by omega) X684 hS684 gr684 hZ hown
        obtain ⟨gb_685, rfl, N684q, K684q, f686, f687, f688, f689, f690, f691, f692, f693, f694, f695, f696⟩ := hQ684
        have N684 : Fr n0 L684 := by rw [l684]; exact Fr.app N659 N684q
        have z697 := K684q.1
        have z698 := own_lt f686.lt
        have z699 := own_lt f687.lt
        have z700 := own_lt f688.lt
        have z701 := own_lt f689.lt
        have z702 := own_lt f690.lt
        have z703 := own_lt f691.lt
        have z704 := own_lt f692.lt
        have z705 := own_lt f693.lt
        have z706 := own_lt f694.lt
        have z707 := own_lt f695.lt
        refine own_go (fun _ k => st684.trans k) ?_
        show own_Go _ _ _ _ T684 (mkF m 158 #[.val (.int p_1), .val (.int p_2), .val (.int p_3), .val (.int p_4), .val (.int v2), .val (.int v4), .val (.int v6), .val (.int v8), .val (.ref b10), .val (.ref b379), .val (.ref b565), .val (.ref b576)] [])
        refine own_go (fun _ k => XS.aload X684.here hx rfl (hb hby at_158) rfl rfl k) ?_
        show own_Go _ _ _ _ T684 (mkF m 160 #[.val (.int p_1), .val (.int p_2), .val (.int p_3), .val (.int p_4), .val (.int v2), .val (.int v4), .val (.int v6), .val (.int v8), .val (.ref b10), .val (.ref b379), .val (.ref b565), .val (.ref b576)] [(.ref b576)])
        refine own_go (fun _ k => XS.iload X684.here hx rfl (hb hby at_160) rfl k) ?_
        show own_Go _ _ _ _ T684 (mkF m 162 #[.val (.int p_1), .val (.int p_2), .val (.int p_3), .val (.int p_4), .val (.int v2), .val (.int v4), .val (.int v6), .val (.int v8), .val (.ref b10), .val (.ref b379), .val (.ref b565), .val (.ref b576)] [(.int v6), (.ref b576)])
        refine own_go (fun _ k => XS.aload X684.here hx rfl (hb hby at_162) rfl rfl k) ?_
        show own_Go _ _ _ _ T684 (mkF m 164 #[.val (.int p_1), .val (.int p_2), .val (.int p_3), .val (.int p_4), .val (.int v2), .val (.int v4), .val (.int v6), .val (.int v8), .val (.ref b10), .val (.ref b379), .val (.ref b565), .val (.ref b576)] [(.ref b565), (.int v6), (.ref b576)])
        have f708 : own_AV Z T684.heap b565 .int (3 : Int32) (own_upd (own_upd (own_upd (fun _ => (.int (0 : Int32))) 0 (.int v4)) 1 (.int v8)) 2 (.int v2)) := (((((((V574.ext E576).keep K578q (ninS (own_ne (by omega)) nin0)).keep K607q (ninS (own_ne (by omega)) nin0)).keep K623q (ninS (own_ne (by omega)) nin0)).keep K639q (ninS (own_ne (by omega)) nin0)).keep K659q (ninS (own_ne (by omega)) (ninS (own_ne (by omega)) (ninS (own_ne (by omega)) (ninS (own_ne (by omega)) nin0))))).keep K684q (ninS (own_ne (by omega)) (ninS (own_ne (by omega)) (ninS (own_ne (by omega)) (ninS (own_ne (by omega)) nin0)))))
        obtain ⟨cq709, kq709, q709a, q709b, q709c⟩ := isOf hZ rfl f686
        obtain ⟨_, _, ⟨T709, L709, k709, n709⟩, -, X709, hS709, gr709, ⟨Lc709, hQ709, l709, y709, z709⟩, st709⟩ := X684.virtualBackS hx (y := (⟨"com/example/kalchas/kalchas/propositional/HornClauses", "add", "(I[I)V"⟩ : MethodName)) (z := (⟨"com/example/kalchas/kalchas/propositional/HornClauses", "add", "(I[I)V"⟩ : MethodName)) hown (mvT hZ (hw _ (List.mem_of_getElem? (i := 26) rfl))) (mvT hZ (hw _ (List.mem_of_getElem? (i := 27) rfl))) (notFace_of_selects (args := #[]) (mvT hZ (hw _ (List.mem_of_getElem? (i := 29) rfl)))) (mvT hZ (hw _ (List.mem_of_getElem? (i := 29) rfl))) (mvT hZ (hw _ (List.mem_of_getElem? (i := 28) rfl))) (by decide) (backOfS (W := 0) (own_rm4_23 l Z a0 hw [] b576 v6 b565 x_579 x_580 x_581 (own_upd (own_upd (fun _ => (.int (0 : Int32))) 0 (.int v2)) 1 (.int v4)) (own_upd (own_upd (fun _ => (.int (0 : Int32))) 1 (.int ((0 : Int32) + (0 : Int32)))) 2 (.int (((0 : Int32) + (0 : Int32)) + (2 : Int32)))) gb_685 (((0 : Int32) + (0 : Int32)) + (2 : Int32)) .null v4 v8 v2 T684.heap n0 (by omega) f686 f687 f688 f689 f690 f691 f692 f693 f694 f695 f708 (by simp only [own_lts, and_true]; omega) rfl (by decide) f696 (show ¬ (v6 < 0) by first | assumption | omega | decide) (show v6 < (3 : Int32) by first | assumption | omega | decide) (show ¬ (v4 < 0) by first | assumption | omega | decide) (show v4 < (3 : Int32) by first | assumption | omega | decide) (show ¬ (v8 < 0) by first | assumption | omega | decide) (show v8 < (3 : Int32) by first | assumption | omega | decide) (show ¬ (v2 < 0) by first | assumption | omega | decide) (show v2 < (3 : Int32) by first | assumption | omega | decide) (by omega) (by omega) (by omega) (by omega)) hZ (hw _ (List.mem_of_getElem? (i := 30) rfl)) (hw _ (List.mem_of_getElem? (i := 4) rfl)) (by decide) (by decide)) q709a q709c (g := (mkF m 164 #[.val (.int p_1), .val (.int p_2), .val (.int p_3), .val (.int p_4), .val (.int v2), .val (.int v4), .val (.int v6), .val (.int v8), .val (.ref b10), .val (.ref b379), .val (.ref b565), .val (.ref b576)] [(.ref b565), (.int v6), (.ref b576)])) rfl (by rw [hml]; rfl) (Steps.refl _) (argsL := [(.int v6), (.ref b565)]) (rest := []) (lenOf own_pd4 rfl) rfl (by show 2 * 0 + _ ≤ _; exact Nat.le_of_eq rfl) (hb hby at_164) (fun _ _ => ⟨rfl, rfl, (by show k684 + _ ≤ _; rw [y684]; decide), (by show n684 + _ ≤ _; rw [z684]; decide)⟩)
        dsimp only [Pt.U, Pt.locs, Pt.cells, Pt.slots] at X709 l709 y709 z709 st709 hQ709 hS709 gr709
        have y709 : k709 = 23 := own_addeq y709 (congrArg (fun q => q) y684) rfl
        have z709 : n709 = 495 := own_addeq z709 (congrArg (fun q => q) z684) rfl
        have Wn709 := hS709.1
        obtain ⟨X709, hS709, hZ, hown⟩ := rebS hS684 (n1 := T684.heap.size) (by omega) X709 hS709 gr709 hZ hown
        obtain ⟨gb_710, rfl, N709q, K709q, f711, f712, f713, f714, f715, f716, f717, f718, f719, f720, f721⟩ := hQ709
        have N709 : Fr n0 L709 := by rw [l709]; exact Fr.app N684 N709q
        have z722 := K709q.1
        have z723 := own_lt f711.lt
        have z724 := own_lt f712.lt
        have z725 := own_lt f713.lt
        have z726 := own_lt f714.lt
        have z727 := own_lt f715.lt
        have z728 := own_lt f716.lt
        have z729 := own_lt f717.lt
        have z730 := own_lt f718.lt
        have z731 := own_lt f719.lt
        have z732 := own_lt f720.lt
        refine own_go (fun _ k => st709.trans k) ?_
        show own_Go _ _ _ _ T709 (mkF m 167 #[.val (.int p_1), .val (.int p_2), .val (.int p_3), .val (.int p_4), .val (.int v2), .val (.int v4), .val (.int v6), .val (.int v8), .val (.ref b10), .val (.ref b379), .val (.ref b565), .val (.ref b576)] [])
        refine own_go (fun _ k => XS.aload X709.here hx rfl (hb hby at_167) rfl rfl k) ?_
        show own_Go _ _ _ _ T709 (mkF m 169 #[.val (.int p_1), .val (.int p_2), .val (.int p_3), .val (.int p_4), .val (.int v2), .val (.int v4), .val (.int v6), .val (.int v8), .val (.ref b10), .val (.ref b379), .val (.ref b565), .val (.ref b576)] [(.ref b576)])
        refine own_go (fun _ k => XS.iconst X709.here hx rfl (hb hby at_169) k) ?_
        show own_Go _ _ _ _ T709 (mkF m 170 #[.val (.int p_1), .val (.int p_2), .val (.int p_3), .val (.int p_4), .val (.int v2), .val (.int v4), .val (.int v6), .val (.int v8), .val (.ref b10), .val (.ref b379), .val (.ref b565), .val (.ref b576)] [(.int (0 : Int32)), (.ref b576)])
        obtain ⟨cq733, kq733, q733a, q733b, q733c⟩ := isOf hZ rfl f711
        obtain ⟨_, _, ⟨T733, L733, k733, n733⟩, -, X733, hS733, gr733, ⟨Lc733, hQ733, l733, y733, z733⟩, st733⟩ := X709.virtualBackS hx (y := (⟨"com/example/kalchas/kalchas/propositional/HornClauses", "head", "(I)I"⟩ : MethodName)) (z := (⟨"com/example/kalchas/kalchas/propositional/HornClauses", "head", "(I)I"⟩ : MethodName)) hown (mvT hZ (hw _ (List.mem_of_getElem? (i := 53) rfl))) (mvT hZ (hw _ (List.mem_of_getElem? (i := 54) rfl))) (notFace_of_selects (args := #[]) (mvT hZ (hw _ (List.mem_of_getElem? (i := 56) rfl)))) (mvT hZ (hw _ (List.mem_of_getElem? (i := 56) rfl))) (mvT hZ (hw _ (List.mem_of_getElem? (i := 55) rfl))) (by decide) (backOfS (W := 0) (own_rm7_0 l Z a0 hw [] b576 x_579 (own_upd (own_upd (own_upd (fun _ => (.int (0 : Int32))) 0 (.int v2)) 1 (.int v4)) 2 (.int v6)) v2 T709.heap n0 (by omega) f711 f714 f713 f718 rfl) hZ (hw _ (List.mem_of_getElem? (i := 57) rfl)) (hw _ (List.mem_of_getElem? (i := 4) rfl)) (by decide) (by decide)) q733a q733c (g := (mkF m 170 #[.val (.int p_1), .val (.int p_2), .val (.int p_3), .val (.int p_4), .val (.int v2), .val (.int v4), .val (.int v6), .val (.int v8), .val (.ref b10), .val (.ref b379), .val (.ref b565), .val (.ref b576)] [(.int (0 : Int32)), (.ref b576)])) rfl (by rw [hml]; rfl) (Steps.refl _) (argsL := [(.int (0 : Int32))]) (rest := []) (lenOf own_pd5 rfl) rfl (by show 2 * 0 + _ ≤ _; exact Nat.le_of_eq rfl) (hb hby at_170) (fun _ _ => ⟨rfl, rfl, (by show k709 + _ ≤ _; rw [y709]; decide), (by show n709 + _ ≤ _; rw [z709]; decide)⟩)
        dsimp only [Pt.U, Pt.locs, Pt.cells, Pt.slots] at X733 l733 y733 z733 st733 hQ733 hS733 gr733
        have y733 : k733 = 25 := own_addeq y733 (congrArg (fun q => q) y709) rfl
        have z733 : n733 = 523 := own_addeq z733 (congrArg (fun q => q) z709) rfl
        have Wn733 := hS733.1
        obtain ⟨X733, hS733, hZ, hown⟩ := rebS hS709 (n1 := T709.heap.size) (by omega) X733 hS733 gr733 hZ hown
        obtain ⟨rfl, N733q, K733q⟩ := hQ733
        have N733 : Fr n0 L733 := by rw [l733]; exact Fr.app N709 N733q
        have z734 := K733q.1
        refine own_go (fun _ k => st733.trans k) ?_
        show own_Go _ _ _ _ T733 (mkF m 173 #[.val (.int p_1), .val (.int p_2), .val (.int p_3), .val (.int p_4), .val (.int v2), .val (.int v4), .val (.int v6), .val (.int v8), .val (.ref b10), .val (.ref b379), .val (.ref b565), .val (.ref b576)] [(.int v2)])
        refine own_go (fun _ k => XS.iload X733.here hx rfl (hb hby at_173) rfl k) ?_
        show own_Go _ _ _ _ T733 (mkF m 175 #[.val (.int p_1), .val (.int p_2), .val (.int p_3), .val (.int p_4), .val (.int v2), .val (.int v4), .val (.int v6), .val (.int v8), .val (.ref b10), .val (.ref b379), .val (.ref b565), .val (.ref b576)] [(.int v2), (.int v2)])
        have hc735 : v2 = v2 := rfl
        refine own_go (fun _ k => XS.icmpNo X733.here hx rfl (hb hby at_175) rfl (Jvm.Free.XT.ii_ne_f hc735) k) ?_
        show own_Go _ _ _ _ T733 (mkF m 178 #[.val (.int p_1), .val (.int p_2), .val (.int p_3), .val (.int p_4), .val (.int v2), .val (.int v4), .val (.int v6), .val (.int v8), .val (.ref b10), .val (.ref b379), .val (.ref b565), .val (.ref b576)] [])
        refine own_go (fun _ k => XS.aload X733.here hx rfl (hb hby at_178) rfl rfl k) ?_
        show own_Go _ _ _ _ T733 (mkF m 180 #[.val (.int p_1), .val (.int p_2), .val (.int p_3), .val (.int p_4), .val (.int v2), .val (.int v4), .val (.int v6), .val (.int v8), .val (.ref b10), .val (.ref b379), .val (.ref b565), .val (.ref b576)] [(.ref b576)])
        refine own_go (fun _ k => XS.iconst X733.here hx rfl (hb hby at_180) k) ?_
        show own_Go _ _ _ _ T733 (mkF m 181 #[.val (.int p_1), .val (.int p_2), .val (.int p_3), .val (.int p_4), .val (.int v2), .val (.int v4), .val (.int v6), .val (.int v8), .val (.ref b10), .val (.ref b379), .val (.ref b565), .val (.ref b576)] [(.int (1 : Int32)), (.ref b576)])
        have f736 : Exa Z T733.heap b576 "com/example/kalchas/kalchas/propositional/HornClauses" := (f711.keep K733q)
        have f737 : Fld Z T733.heap b576 "com/example/kalchas/kalchas/propositional/HornClauses" "heads" "[I" (.ref x_579) := (f714.keep K733q nin0)
        have f738 : Fld Z T733.heap b576 "com/example/kalchas/kalchas/propositional/HornClauses" "clauseCount" "I" (.int (3 : Int32)) := (f713.keep K733q nin0)
        have f739 : own_AV Z T733.heap x_579 .int (64 : Int32) (own_upd (own_upd (own_upd (fun _ => (.int (0 : Int32))) 0 (.int v2)) 1 (.int v4)) 2 (.int v6)) := (f718.keep K733q nin0)
        obtain ⟨cq740, kq740, q740a, q740b, q740c⟩ := isOf hZ rfl f736
        obtain ⟨_, _, ⟨T740, L740, k740, n740⟩, -, X740, hS740, gr740, ⟨Lc740, hQ740, l740, y740, z740⟩, st740⟩ := X733.virtualBackS hx (y := (⟨"com/example/kalchas/kalchas/propositional/HornClauses", "head", "(I)I"⟩ : MethodName)) (z := (⟨"com/example/kalchas/kalchas/propositional/HornClauses", "head", "(I)I"⟩ : MethodName)) hown (mvT hZ (hw _ (List.mem_of_getElem? (i := 53) rfl))) (mvT hZ (hw _ (List.mem_of_getElem? (i := 54) rfl))) (notFace_of_selects (args := #[]) (mvT hZ (hw _ (List.mem_of_getElem? (i := 56) rfl)))) (mvT hZ (hw _ (List.mem_of_getElem? (i := 56) rfl))) (mvT hZ (hw _ (List.mem_of_getElem? (i := 55) rfl))) (by decide) (backOfS (W := 0) (own_rm7_1 l Z a0 hw [] b576 x_579 (own_upd (own_upd (own_upd (fun _ => (.int (0 : Int32))) 0 (.int v2)) 1 (.int v4)) 2 (.int v6)) v4 T733.heap n0 (by omega) f736 f737 f738 f739 rfl) hZ (hw _ (List.mem_of_getElem? (i := 57) rfl)) (hw _ (List.mem_of_getElem? (i := 4) rfl)) (by decide) (by decide)) q740a q740c (g := (mkF m 181 #[.val (.int p_1), .val (.int p_2), .val (.int p_3), .val (.int p_4), .val (.int v2), .val (.int v4), .val (.int v6), .val (.int v8), .val (.ref b10), .val (.ref b379), .val (.ref b565), .val (.ref b576)] [(.int (1 : Int32)), (.ref b576)])) rfl (by rw [hml]; rfl) (Steps.refl _) (argsL := [(.int (1 : Int32))]) (rest := []) (lenOf own_pd5 rfl) rfl (by show 2 * 0 + _ ≤ _; exact Nat.le_of_eq rfl) (hb hby at_181) (fun _ _ => ⟨rfl, rfl, (by show k733 + _ ≤ _; rw [y733]; decide), (by show n733 + _ ≤ _; rw [z733]; decide)⟩)
        dsimp only [Pt.U, Pt.locs, Pt.cells, Pt.slots] at X740 l740 y740 z740 st740 hQ740 hS740 gr740
        have y740 : k740 = 27 := own_addeq y740 (congrArg (fun q => q) y733) rfl
        have z740 : n740 = 551 := own_addeq z740 (congrArg (fun q => q) z733) rfl
        have Wn740 := hS740.1
        obtain ⟨X740, hS740, hZ, hown⟩ := rebS hS733 (n1 := T733.heap.size) (by omega) X740 hS740 gr740 hZ hown
        obtain ⟨rfl, N740q, K740q⟩ := hQ740
        have N740 : Fr n0 L740 := by rw [l740]; exact Fr.app N733 N740q
        have z741 := K740q.1
        refine own_go (fun _ k => st740.trans k) ?_
        show own_Go _ _ _ _ T740 (mkF m 184 #[.val (.int p_1), .val (.int p_2), .val (.int p_3), .val (.int p_4), .val (.int v2), .val (.int v4), .val (.int v6), .val (.int v8), .val (.ref b10), .val (.ref b379), .val (.ref b565), .val (.ref b576)] [(.int v4)])
        refine own_go (fun _ k => XS.iload X740.here hx rfl (hb hby at_184) rfl k) ?_
        show own_Go _ _ _ _ T740 (mkF m 186 #[.val (.int p_1), .val (.int p_2), .val (.int p_3), .val (.int p_4), .val (.int v2), .val (.int v4), .val (.int v6), .val (.int v8), .val (.ref b10), .val (.ref b379), .val (.ref b565), .val (.ref b576)] [(.int v4), (.int v4)])
        have hc742 : v4 = v4 := rfl
        refine own_go (fun _ k => XS.icmpNo X740.here hx rfl (hb hby at_186) rfl (Jvm.Free.XT.ii_ne_f hc742) k) ?_
        show own_Go _ _ _ _ T740 (mkF m 189 #[.val (.int p_1), .val (.int p_2), .val (.int p_3), .val (.int p_4), .val (.int v2), .val (.int v4), .val (.int v6), .val (.int v8), .val (.ref b10), .val (.ref b379), .val (.ref b565), .val (.ref b576)] [])
        refine own_go (fun _ k => XS.aload X740.here hx rfl (hb hby at_189) rfl rfl k) ?_
        show own_Go _ _ _ _ T740 (mkF m 191 #[.val (.int p_1), .val (.int p_2), .val (.int p_3), .val (.int p_4), .val (.int v2), .val (.int v4), .val (.int v6), .val (.int v8), .val (.ref b10), .val (.ref b379), .val (.ref b565), .val (.ref b576)] [(.ref b576)])
        refine own_go (fun _ k => XS.iconst X740.here hx rfl (hb hby at_191) k) ?_
        show own_Go _ _ _ _ T740 (mkF m 192 #[.val (.int p_1), .val (.int p_2), .val (.int p_3), .val (.int p_4), .val (.int v2), .val (.int v4), .val (.int v6), .val (.int v8), .val (.ref b10), .val (.ref b379), .val (.ref b565), .val (.ref b576)] [(.int (2 : Int32)), (.ref b576)])
        have f743 : Exa Z T740.heap b576 "com/example/kalchas/kalchas/propositional/HornClauses" := (f736.keep K740q)
        have f744 : Fld Z T740.heap b576 "com/example/kalchas/kalchas/propositional/HornClauses" "heads" "[I" (.ref x_579) := (f737.keep K740q nin0)
        have f745 : Fld Z T740.heap b576 "com/example/kalchas/kalchas/propositional/HornClauses" "clauseCount" "I" (.int (3 : Int32)) := (f738.keep K740q nin0)
        have f746 : own_AV Z T740.heap x_579 .int (64 : Int32) (own_upd (own_upd (own_upd (fun _ => (.int (0 : Int32))) 0 (.int v2)) 1 (.int v4)) 2 (.int v6)) := (f739.keep K740q nin0)
        obtain ⟨cq747, kq747, q747a, q747b, q747c⟩ := isOf hZ rfl f743
        obtain ⟨_, _, ⟨T747, L747, k747, n747⟩, -, X747, hS747, gr747, ⟨Lc747, hQ747, l747, y747, z747⟩, st747⟩ := X740.virtualBackS hx (y := (⟨"com/example/kalchas/kalchas/propositional/HornClauses", "head", "(I)I"⟩ : MethodName)) (z := (⟨"com/example/kalchas/kalchas/propositional/HornClauses", "head", "(I)I"⟩ : MethodName)) hown (mvT hZ (hw _ (List.mem_of_getElem? (i := 53) rfl))) (mvT hZ (hw _ (List.mem_of_getElem? (i := 54) rfl))) (notFace_of_selects (args := #[]) (mvT hZ (hw _ (List.mem_of_getElem? (i := 56) rfl)))) (mvT hZ (hw _ (List.mem_of_getElem? (i := 56) rfl))) (mvT hZ (hw _ (List.mem_of_getElem? (i := 55) rfl))) (by decide) (backOfS (W := 0) (own_rm7_2 l Z a0 hw [] b576 x_579 (own_upd (own_upd (own_upd (fun _ => (.int (0 : Int32))) 0 (.int v2)) 1 (.int v4)) 2 (.int v6)) v6 T740.heap n0 (by omega) f743 f744 f745 f746 rfl) hZ (hw _ (List.mem_of_getElem? (i := 57) rfl)) (hw _ (List.mem_of_getElem? (i := 4) rfl)) (by decide) (by decide)) q747a q747c (g := (mkF m 192 #[.val (.int p_1), .val (.int p_2), .val (.int p_3), .val (.int p_4), .val (.int v2), .val (.int v4), .val (.int v6), .val (.int v8), .val (.ref b10), .val (.ref b379), .val (.ref b565), .val (.ref b576)] [(.int (2 : Int32)), (.ref b576)])) rfl (by rw [hml]; rfl) (Steps.refl _) (argsL := [(.int (2 : Int32))]) (rest := []) (lenOf own_pd5 rfl) rfl (by show 2 * 0 + _ ≤ _; exact Nat.le_of_eq rfl) (hb hby at_192) (fun _ _ => ⟨rfl, rfl, (by show k740 + _ ≤ _; rw [y740]; decide), (by show n740 + _ ≤ _; rw [z740]; decide)⟩)
        dsimp only [Pt.U, Pt.locs, Pt.cells, Pt.slots] at X747 l747 y747 z747 st747 hQ747 hS747 gr747
        have y747 : k747 = 29 := own_addeq y747 (congrArg (fun q => q) y740) rfl
        have z747 : n747 = 579 := own_addeq z747 (congrArg (fun q => q) z740) rfl
        have Wn747 := hS747.1
        obtain ⟨X747, hS747, hZ, hown⟩ := rebS hS740 (n1 := T740.heap.size) (by omega) X747 hS747 gr747 hZ hown
        obtain ⟨rfl, N747q, K747q⟩ := hQ747
        have N747 : Fr n0 L747 := by rw [l747]; exact Fr.app N740 N747q
        have z748 := K747q.1
        refine own_go (fun _ k => st747.trans k) ?_
        show own_Go _ _ _ _ T747 (mkF m 195 #[.val (.int p_1), .val (.int p_2), .val (.int p_3), .val (.int p_4), .val (.int v2), .val (.int v4), .val (.int v6), .val (.int v8), .val (.ref b10), .val (.ref b379), .val (.ref b565), .val (.ref b576)] [(.int v6)])
        refine own_go (fun _ k => XS.iload X747.here hx rfl (hb hby at_195) rfl k) ?_
        show own_Go _ _ _ _ T747 (mkF m 197 #[.val (.int p_1), .val (.int p_2), .val (.int p_3), .val (.int p_4), .val (.int v2), .val (.int v4), .val (.int v6), .val (.int v8), .val (.ref b10), .val (.ref b379), .val (.ref b565), .val (.ref b576)] [(.int v6), (.int v6)])
        have hc749 : v6 = v6 := rfl
        refine own_go (fun _ k => XS.icmpNo X747.here hx rfl (hb hby at_197) rfl (Jvm.Free.XT.ii_ne_f hc749) k) ?_
        show own_Go _ _ _ _ T747 (mkF m 200 #[.val (.int p_1), .val (.int p_2), .val (.int p_3), .val (.int p_4), .val (.int v2), .val (.int v4), .val (.int v6), .val (.int v8), .val (.ref b10), .val (.ref b379), .val (.ref b565), .val (.ref b576)] [])
        refine own_go (fun _ k => XS.iconst X747.here hx rfl (hb hby at_200) k) ?_
        show own_Go _ _ _ _ T747 (mkF m 201 #[.val (.int p_1), .val (.int p_2), .val (.int p_3), .val (.int p_4), .val (.int v2), .val (.int v4), .val (.int v6), .val (.int v8), .val (.ref b10), .val (.ref b379), .val (.ref b565), .val (.ref b576)] [(.int (1 : Int32))])
        refine own_go (fun _ k => XS.goto X747.here hx rfl (pc0 := 201) (pc' := 205) rfl (hb hby at_201) (by decide) (by decide) k) ?_
        show own_Go _ _ _ _ T747 (mkF m 205 #[.val (.int p_1), .val (.int p_2), .val (.int p_3), .val (.int p_4), .val (.int v2), .val (.int v4), .val (.int v6), .val (.int v8), .val (.ref b10), .val (.ref b379), .val (.ref b565), .val (.ref b576)] [(.int (1 : Int32))])
        obtain ⟨fs, hr, hrun, hended, hRW⟩ := X747.leaveW hS747 (by omega) (v := some (.int (1 : Int32))) (fun h => by rw [Bd.returns] at h; cases h)
        refine ⟨_, _, retOut X747 hx Bd.returns rfl (Or.inl ⟨rfl, Or.inr (Or.inl rfl), _, rfl⟩) (hb hby at_205) hr, hrun, hended, _, _, rfl, ?_, own_monoW hRW (by rw [y747]; decide) (by rw [z747]; decide)⟩
        exact ⟨rfl, N747⟩
  · refine own_go (fun _ k => XS.ifNo X0.here hx rfl (hb hby at_35) rfl (Jvm.Free.XT.i0_eq_f hc9) k) ?_
    show own_Go _ _ _ _ s₁ (mkF m 38 #[.val (.int p_1), .val (.int p_2), .val (.int p_3), .val (.int p_4), .val (.int v2), .val (.int v4), .val (.int v6), .val (.int v8), .unset, .unset, .unset, .unset] [])
    refine own_go (fun _ k => XS.iconst X0.here hx rfl (hb hby at_38) k) ?_
    show own_Go _ _ _ _ s₁ (mkF m 39 #[.val (.int p_1), .val (.int p_2), .val (.int p_3), .val (.int p_4), .val (.int v2), .val (.int v4), .val (.int v6), .val (.int v8), .unset, .unset, .unset, .unset] [(.int (1 : Int32))])
    obtain ⟨T751, h751, k751, X751, e751, E751, A751, st751⟩ := newP X0 hx hZ (hw _ (List.mem_of_getElem? (i := 1) rfl)) e0 (g := (mkF m 39 #[.val (.int p_1), .val (.int p_2), .val (.int p_3), .val (.int p_4), .val (.int v2), .val (.int v4), .val (.int v6), .val (.int v8), .unset, .unset, .unset, .unset] [(.int (1 : Int32))])) rfl (hb hby at_39) rfl (by decide) (cap := 1) (by decide) (by decide) (by decide) (by decide)
    obtain ⟨b751, g751⟩ : ∃ z, z = h0.size := ⟨_, rfl⟩
    rw [← g751] at A751 st751
    have z752 := E751.1
    have lt_b751 := own_lt A751.lt
    have V_b751 : own_AV Z h751 b751 .int (1 : Int32) (fun _ => (.int (0 : Int32))) := own_AV.new A751 (by decide)
    refine own_go (fun _ k => st751 _ k) ?_
    show own_Go _ _ _ _ T751 (mkF m 41 #[.val (.int p_1), .val (.int p_2), .val (.int p_3), .val (.int p_4), .val (.int v2), .val (.int v4), .val (.int v6), .val (.int v8), .unset, .unset, .unset, .unset] [(.ref b751)])
    refine own_go (fun _ k => XS.dup X751.here hx rfl (hb hby at_41) rfl rfl k) ?_
    show own_Go _ _ _ _ T751 (mkF m 42 #[.val (.int p_1), .val (.int p_2), .val (.int p_3), .val (.int p_4), .val (.int v2), .val (.int v4), .val (.int v6), .val (.int v8), .unset, .unset, .unset, .unset] [(.ref b751), (.ref b751)])
    refine own_go (fun _ k => XS.iconst X751.here hx rfl (hb hby at_42) k) ?_
    show own_Go _ _ _ _ T751 (mkF m 43 #[.val (.int p_1), .val (.int p_2), .val (.int p_3), .val (.int p_4), .val (.int v2), .val (.int v4), .val (.int v6), .val (.int v8), .unset, .unset, .unset, .unset] [(.int (0 : Int32)), (.ref b751), (.ref b751)])
    refine own_go (fun _ k => XS.iload X751.here hx rfl (hb hby at_43) rfl k) ?_
    show own_Go _ _ _ _ T751 (mkF m 45 #[.val (.int p_1), .val (.int p_2), .val (.int p_3), .val (.int p_4), .val (.int v2), .val (.int v4), .val (.int v6), .val (.int v8), .unset, .unset, .unset, .unset] [(.int v8), (.int (0 : Int32)), (.ref b751), (.ref b751)])
    obtain ⟨q753, c753, R753, s753, t753⟩ := id V_b751
    have hin753 : ¬ ((0 : Int32) < 0 ∨ c753.slots.size ≤ ((0 : Int32)).toNatClampNeg) := inb_of s753 ⟨by decide, by decide⟩
    obtain ⟨T754, h754, X754, e754, W754, st754⟩ := stI X751 hx hZ e751 R753 (j := (0 : Int32)) hin753 (g := (mkF m 45 #[.val (.int p_1), .val (.int p_2), .val (.int p_3), .val (.int p_4), .val (.int v2), .val (.int v4), .val (.int v6), .val (.int v8), .unset, .unset, .unset, .unset] [(.int v8), (.int (0 : Int32)), (.ref b751), (.ref b751)])) rfl rfl (hb hby at_45)
    have V754 : own_AV Z h754 b751 .int (1 : Int32) (own_upd (fun _ => (.int (0 : Int32))) 0 (.int v8)) := own_AV.set (k := 0) V_b751 W754 (by decide)
    have z755 := W754.size
    have N754 := Fr.snoc X754 N0 (by omega : n0 ≤ b751)
    refine own_go (fun _ k => st754 _ k) ?_
    show own_Go _ _ _ _ T754 (mkF m 46 #[.val (.int p_1), .val (.int p_2), .val (.int p_3), .val (.int p_4), .val (.int v2), .val (.int v4), .val (.int v6), .val (.int v8), .unset, .unset, .unset, .unset] [(.ref b751)])
    refine own_go (fun _ k => XS.goto X754.here hx rfl (pc0 := 46) (pc' := 52) rfl (hb hby at_46) (by decide) (by decide) k) ?_
    show own_Go _ _ _ _ T754 (mkF m 52 #[.val (.int p_1), .val (.int p_2), .val (.int p_3), .val (.int p_4), .val (.int v2), .val (.int v4), .val (.int v6), .val (.int v8), .unset, .unset, .unset, .unset] [(.ref b751)])
    refine own_go (fun _ k => XS.astore X754.here hx rfl (hb hby at_52) rfl rfl (l' := #[.val (.int p_1), .val (.int p_2), .val (.int p_3), .val (.int p_4), .val (.int v2), .val (.int v4), .val (.int v6), .val (.int v8), .val (.ref b751), .unset, .unset, .unset]) rfl k) ?_
    show own_Go _ _ _ _ T754 (mkF m 54 #[.val (.int p_1), .val (.int p_2), .val (.int p_3), .val (.int p_4), .val (.int v2), .val (.int v4), .val (.int v6), .val (.int v8), .val (.ref b751), .unset, .unset, .unset] [])
    refine own_go (fun _ k => XS.iloadN X754.here hx rfl (hb hby at_54) rfl k) ?_
    show own_Go _ _ _ _ T754 (mkF m 55 #[.val (.int p_1), .val (.int p_2), .val (.int p_3), .val (.int p_4), .val (.int v2), .val (.int v4), .val (.int v6), .val (.int v8), .val (.ref b751), .unset, .unset, .unset] [(.int p_4)])
    refine own_go (fun _ k => XS.iconst X754.here hx rfl (hb hby at_55) k) ?_
    show own_Go _ _ _ _ T754 (mkF m 56 #[.val (.int p_1), .val (.int p_2), .val (.int p_3), .val (.int p_4), .val (.int v2), .val (.int v4), .val (.int v6), .val (.int v8), .val (.ref b751), .unset, .unset, .unset] [(.int (2 : Int32)), (.int p_4)])
    refine own_go (fun _ k => XS.iand X754.here hx rfl (hb hby at_56) rfl k) ?_
    show own_Go _ _ _ _ T754 (mkF m 57 #[.val (.int p_1), .val (.int p_2), .val (.int p_3), .val (.int p_4), .val (.int v2), .val (.int v4), .val (.int v6), .val (.int v8), .val (.ref b751), .unset, .unset, .unset] [(.int (p_4 &&& (2 : Int32)))])
    by_cases hc756 : (p_4 &&& (2 : Int32)) = 0
    · refine own_go (fun _ k => XS.ifYes X754.here hx rfl (pc0 := 57) (pc' := 76) rfl (hb hby at_57) rfl (Jvm.Free.XT.i0_eq_t hc756) (by decide) (by decide) k) ?_
      show own_Go _ _ _ _ T754 (mkF m 76 #[.val (.int p_1), .val (.int p_2), .val (.int p_3), .val (.int p_4), .val (.int v2), .val (.int v4), .val (.int v6), .val (.int v8), .val (.ref b751), .unset, .unset, .unset] [])
      refine own_go (fun _ k => XS.iconst X754.here hx rfl (hb hby at_76) k) ?_
      show own_Go _ _ _ _ T754 (mkF m 77 #[.val (.int p_1), .val (.int p_2), .val (.int p_3), .val (.int p_4), .val (.int v2), .val (.int v4), .val (.int v6), .val (.int v8), .val (.ref b751), .unset, .unset, .unset] [(.int (0 : Int32))])
      obtain ⟨T757, h757, k757, X757, e757, E757, A757, st757⟩ := newP X754 hx hZ (hw _ (List.mem_of_getElem? (i := 1) rfl)) e754 (g := (mkF m 77 #[.val (.int p_1), .val (.int p_2), .val (.int p_3), .val (.int p_4), .val (.int v2), .val (.int v4), .val (.int v6), .val (.int v8), .val (.ref b751), .unset, .unset, .unset] [(.int (0 : Int32))])) rfl (hb hby at_77) rfl (by decide) (cap := 0) (by decide) (by decide) (by decide) (by decide)
      obtain ⟨b757, g757⟩ : ∃ z, z = h754.size := ⟨_, rfl⟩
      rw [← g757] at A757 st757
      have z758 := E757.1
      have lt_b757 := own_lt A757.lt
      have V_b757 : own_AV Z h757 b757 .int (0 : Int32) (fun _ => (.int (0 : Int32))) := own_AV.new A757 (by decide)
      refine own_go (fun _ k => st757 _ k) ?_
      show own_Go _ _ _ _ T757 (mkF m 79 #[.val (.int p_1), .val (.int p_2), .val (.int p_3), .val (.int p_4), .val (.int v2), .val (.int v4), .val (.int v6), .val (.int v8), .val (.ref b751), .unset, .unset, .unset] [(.ref b757)])
      refine own_go (fun _ k => XS.astore X757.here hx rfl (hb hby at_79) rfl rfl (l' := #[.val (.int p_1), .val (.int p_2), .val (.int p_3), .val (.int p_4), .val (.int v2), .val (.int v4), .val (.int v6), .val (.int v8), .val (.ref b751), .val (.ref b757), .unset, .unset]) rfl k) ?_
      show own_Go _ _ _ _ T757 (mkF m 81 #[.val (.int p_1), .val (.int p_2), .val (.int p_3), .val (.int p_4), .val (.int v2), .val (.int v4), .val (.int v6), .val (.int v8), .val (.ref b751), .val (.ref b757), .unset, .unset] [])
      refine own_go (fun _ k => XS.iloadN X757.here hx rfl (hb hby at_81) rfl k) ?_
      show own_Go _ _ _ _ T757 (mkF m 82 #[.val (.int p_1), .val (.int p_2), .val (.int p_3), .val (.int p_4), .val (.int v2), .val (.int v4), .val (.int v6), .val (.int v8), .val (.ref b751), .val (.ref b757), .unset, .unset] [(.int p_4)])
      refine own_go (fun _ k => XS.iconst X757.here hx rfl (hb hby at_82) k) ?_
      show own_Go _ _ _ _ T757 (mkF m 83 #[.val (.int p_1), .val (.int p_2), .val (.int p_3), .val (.int p_4), .val (.int v2), .val (.int v4), .val (.int v6), .val (.int v8), .val (.ref b751), .val (.ref b757), .unset, .unset] [(.int (4 : Int32)), (.int p_4)])
      refine own_go (fun _ k => XS.iand X757.here hx rfl (hb hby at_83) rfl k) ?_
      show own_Go _ _ _ _ T757 (mkF m 84 #[.val (.int p_1), .val (.int p_2), .val (.int p_3), .val (.int p_4), .val (.int v2), .val (.int v4), .val (.int v6), .val (.int v8), .val (.ref b751), .val (.ref b757), .unset, .unset] [(.int (p_4 &&& (4 : Int32)))])
      by_cases hc759 : (p_4 &&& (4 : Int32)) = 0
      · refine own_go (fun _ k => XS.ifYes X757.here hx rfl (pc0 := 84) (pc' := 108) rfl (hb hby at_84) rfl (Jvm.Free.XT.i0_eq_t hc759) (by decide) (by decide) k) ?_
        show own_Go _ _ _ _ T757 (mkF m 108 #[.val (.int p_1), .val (.int p_2), .val (.int p_3), .val (.int p_4), .val (.int v2), .val (.int v4), .val (.int v6), .val (.int v8), .val (.ref b751), .val (.ref b757), .unset, .unset] [])
        refine own_go (fun _ k => XS.iconst X757.here hx rfl (hb hby at_108) k) ?_
        show own_Go _ _ _ _ T757 (mkF m 109 #[.val (.int p_1), .val (.int p_2), .val (.int p_3), .val (.int p_4), .val (.int v2), .val (.int v4), .val (.int v6), .val (.int v8), .val (.ref b751), .val (.ref b757), .unset, .unset] [(.int (0 : Int32))])
        obtain ⟨T760, h760, k760, X760, e760, E760, A760, st760⟩ := newP X757 hx hZ (hw _ (List.mem_of_getElem? (i := 1) rfl)) e757 (g := (mkF m 109 #[.val (.int p_1), .val (.int p_2), .val (.int p_3), .val (.int p_4), .val (.int v2), .val (.int v4), .val (.int v6), .val (.int v8), .val (.ref b751), .val (.ref b757), .unset, .unset] [(.int (0 : Int32))])) rfl (hb hby at_109) rfl (by decide) (cap := 0) (by decide) (by decide) (by decide) (by decide)
        obtain ⟨b760, g760⟩ : ∃ z, z = h757.size := ⟨_, rfl⟩
        rw [← g760] at A760 st760
        have z761 := E760.1
        have lt_b760 := own_lt A760.lt
        have V_b760 : own_AV Z h760 b760 .int (0 : Int32) (fun _ => (.int (0 : Int32))) := own_AV.new A760 (by decide)
        refine own_go (fun _ k => st760 _ k) ?_
        show own_Go _ _ _ _ T760 (mkF m 111 #[.val (.int p_1), .val (.int p_2), .val (.int p_3), .val (.int p_4), .val (.int v2), .val (.int v4), .val (.int v6), .val (.int v8), .val (.ref b751), .val (.ref b757), .unset, .unset] [(.ref b760)])
        refine own_go (fun _ k => XS.astore X760.here hx rfl (hb hby at_111) rfl rfl (l' := #[.val (.int p_1), .val (.int p_2), .val (.int p_3), .val (.int p_4), .val (.int v2), .val (.int v4), .val (.int v6), .val (.int v8), .val (.ref b751), .val (.ref b757), .val (.ref b760), .unset]) rfl k) ?_
        show own_Go _ _ _ _ T760 (mkF m 113 #[.val (.int p_1), .val (.int p_2), .val (.int p_3), .val (.int p_4), .val (.int v2), .val (.int v4), .val (.int v6), .val (.int v8), .val (.ref b751), .val (.ref b757), .val (.ref b760), .unset] [])
        obtain ⟨T762, h762, X762, e762, E762, A762, D762, Y762, st762⟩ := newO X760 hx hZ hown (hw _ (List.mem_of_getElem? (i := 2) rfl)) (hw _ (List.mem_of_getElem? (i := 3) rfl)) (hw _ (List.mem_of_getElem? (i := 4) rfl)) e760 (g := (mkF m 113 #[.val (.int p_1), .val (.int p_2), .val (.int p_3), .val (.int p_4), .val (.int v2), .val (.int v4), .val (.int v6), .val (.int v8), .val (.ref b751), .val (.ref b757), .val (.ref b760), .unset] [])) rfl (hb hby at_113) (by decide) (by decide)
        obtain ⟨b762, g762⟩ : ∃ z, z = h760.size := ⟨_, rfl⟩
        rw [← g762] at A762 D762 Y762 st762
        have z763 := E762.1
        have lt_b762 := own_lt A762.lt
        have F_heads_b762 : Fld Z h762 b762 "com/example/kalchas/kalchas/propositional/HornClauses" "heads" "[I" .null := D762 (Or.inl (hw _ (List.mem_of_getElem? (i := 12) rfl))) (ty := (.array .int)) (by decide)
        have F_bodyStarts_b762 : Fld Z h762 b762 "com/example/kalchas/kalchas/propositional/HornClauses" "bodyStarts" "[I" .null := D762 (Or.inl (hw _ (List.mem_of_getElem? (i := 14) rfl))) (ty := (.array .int)) (by decide)
        have F_bodies_b762 : Fld Z h762 b762 "com/example/kalchas/kalchas/propositional/HornClauses" "bodies" "[I" .null := D762 (Or.inl (hw _ (List.mem_of_getElem? (i := 16) rfl))) (ty := (.array .int)) (by decide)
        have F_occurrences_b762 : Fld Z h762 b762 "com/example/kalchas/kalchas/propositional/HornClauses" "occurrences" "[I" .null := D762 (Or.inl (hw _ (List.mem_of_getElem? (i := 23) rfl))) (ty := (.array .int)) (by decide)
        have F_variableCount_b762 : Fld Z h762 b762 "com/example/kalchas/kalchas/propositional/HornClauses" "variableCount" "I" (.int (0 : Int32)) := D762 (Or.inl (hw _ (List.mem_of_getElem? (i := 25) rfl))) (ty := .int) (by decide)
        have F_clauseCount_b762 : Fld Z h762 b762 "com/example/kalchas/kalchas/propositional/HornClauses" "clauseCount" "I" (.int (0 : Int32)) := D762 (Or.inl (hw _ (List.mem_of_getElem? (i := 48) rfl))) (ty := .int) (by decide)
        refine own_go (fun _ k => st762 _ k) ?_
        show own_Go _ _ _ _ T762 (mkF m 116 #[.val (.int p_1), .val (.int p_2), .val (.int p_3), .val (.int p_4), .val (.int v2), .val (.int v4), .val (.int v6), .val (.int v8), .val (.ref b751), .val (.ref b757), .val (.ref b760), .unset] [(.ref b762)])
        refine own_go (fun _ k => XS.dup X762.here hx rfl (hb hby at_116) rfl rfl k) ?_
        show own_Go _ _ _ _ T762 (mkF m 117 #[.val (.int p_1), .val (.int p_2), .val (.int p_3), .val (.int p_4), .val (.int v2), .val (.int v4), .val (.int v6), .val (.int v8), .val (.ref b751), .val (.ref b757), .val (.ref b760), .unset] [(.ref b762), (.ref b762)])
        obtain ⟨_, _, ⟨T764, L764, k764, n764⟩, -, X764, ⟨Lc764, hQ764, l764, y764, z764⟩, st764⟩ := X762.specialBack hx (y := (⟨"com/example/kalchas/kalchas/propositional/HornClauses", "<init>", "()V"⟩ : MethodName)) rfl hown (mvT hZ (hw _ (List.mem_of_getElem? (i := 5) rfl))) (mvT hZ (hw _ (List.mem_of_getElem? (i := 6) rfl))) (mvT hZ (hw _ (List.mem_of_getElem? (i := 7) rfl))) (by decide) (backOf (W := 1) (own_rm1 l Z a0 hw [] b762 .null .null .null .null (0 : Int32) (0 : Int32) h762 n0 (by omega) A762 F_heads_b762 F_bodyStarts_b762 F_bodies_b762 F_occurrences_b762 F_variableCount_b762 F_clauseCount_b762 (by omega)) hZ (hw _ (List.mem_of_getElem? (i := 7) rfl)) (hw _ (List.mem_of_getElem? (i := 4) rfl)) (by decide) (by decide)) (g := (mkF m 117 #[.val (.int p_1), .val (.int p_2), .val (.int p_3), .val (.int p_4), .val (.int v2), .val (.int v4), .val (.int v6), .val (.int v8), .val (.ref b751), .val (.ref b757), .val (.ref b760), .unset] [(.ref b762), (.ref b762)])) rfl (by rw [hml]; rfl) (Steps.refl _) (a := b762) (argsL := []) (rest := [(.ref b762)]) (lenOf own_pd2 rfl) rfl (by show 2 * 0 + _ ≤ _; exact Nat.le_of_eq rfl) (hb hby at_117) (fun _ _ => ⟨rfl, e762, (by decide : 4 + 3 ≤ _), (by decide : 10 + 193 ≤ _)⟩)
        dsimp only [Pt.U, Pt.locs, Pt.cells, Pt.slots] at X764 l764 y764 z764 st764 hQ764
        have y764 : k764 = 7 := y764
        have z764 : n764 = 203 := z764
        obtain ⟨x_765, x_766, x_767, rfl, N764q, K764q, f768, f769, f770, f771, f772, f773, f774, f775, f776, f777, f778, f779, f780, f781⟩ := hQ764
        have N764 : Fr n0 L764 := by rw [l764]; exact Fr.app N754 N764q
        have z782 := K764q.1
        have z783 := own_lt f768.lt
        have z784 := own_lt f769.lt
        have z785 := own_lt f770.lt
        have z786 := own_lt f771.lt
        have z787 := own_lt f772.lt
        have z788 := own_lt f773.lt
        have z789 := own_lt f774.lt
        have z790 := own_lt f775.lt
        have z791 := own_lt f776.lt
        have z792 := own_lt f777.lt
        simp only [own_lts, and_true] at f781
        refine own_go (fun _ k => st764.trans k) ?_
        show own_Go _ _ _ _ T764 (mkF m 120 #[.val (.int p_1), .val (.int p_2), .val (.int p_3), .val (.int p_4), .val (.int v2), .val (.int v4), .val (.int v6), .val (.int v8), .val (.ref b751), .val (.ref b757), .val (.ref b760), .unset] [(.ref b762)])
        refine own_go (fun _ k => XS.astore X764.here hx rfl (hb hby at_120) rfl rfl (l' := #[.val (.int p_1), .val (.int p_2), .val (.int p_3), .val (.int p_4), .val (.int v2), .val (.int v4), .val (.int v6), .val (.int v8), .val (.ref b751), .val (.ref b757), .val (.ref b760), .val (.ref b762)]) rfl k) ?_
        show own_Go _ _ _ _ T764 (mkF m 122 #[.val (.int p_1), .val (.int p_2), .val (.int p_3), .val (.int p_4), .val (.int v2), .val (.int v4), .val (.int v6), .val (.int v8), .val (.ref b751), .val (.ref b757), .val (.ref b760), .val (.ref b762)] [])
        refine own_go (fun _ k => XS.aload X764.here hx rfl (hb hby at_122) rfl rfl k) ?_
        show own_Go _ _ _ _ T764 (mkF m 124 #[.val (.int p_1), .val (.int p_2), .val (.int p_3), .val (.int p_4), .val (.int v2), .val (.int v4), .val (.int v6), .val (.int v8), .val (.ref b751), .val (.ref b757), .val (.ref b760), .val (.ref b762)] [(.ref b762)])
        obtain ⟨cq793, kq793, q793a, q793b, q793c⟩ := isOf hZ rfl f768
        obtain ⟨_, _, ⟨T793, L793, k793, n793⟩, -, X793, ⟨Lc793, hQ793, l793, y793, z793⟩, st793⟩ := X764.virtualBack hx (y := (⟨"com/example/kalchas/kalchas/propositional/HornClauses", "newVariable", "()I"⟩ : MethodName)) (z := (⟨"com/example/kalchas/kalchas/propositional/HornClauses", "newVariable", "()I"⟩ : MethodName)) hown (mvT hZ (hw _ (List.mem_of_getElem? (i := 17) rfl))) (mvT hZ (hw _ (List.mem_of_getElem? (i := 18) rfl))) (notFace_of_selects (args := #[]) (mvT hZ (hw _ (List.mem_of_getElem? (i := 20) rfl)))) (mvT hZ (hw _ (List.mem_of_getElem? (i := 20) rfl))) (mvT hZ (hw _ (List.mem_of_getElem? (i := 19) rfl))) (by decide) (backOf (W := 0) (own_rm3 l Z a0 hw [] b762 (.ref x_765) (.ref x_766) (.ref x_767) .null (0 : Int32) (0 : Int32) T764.heap n0 (by omega) f768 f769 f770 f771 f772 f773 f774 (by omega)) hZ (hw _ (List.mem_of_getElem? (i := 21) rfl)) (hw _ (List.mem_of_getElem? (i := 4) rfl)) (by decide) (by decide)) q793a q793c (g := (mkF m 124 #[.val (.int p_1), .val (.int p_2), .val (.int p_3), .val (.int p_4), .val (.int v2), .val (.int v4), .val (.int v6), .val (.int v8), .val (.ref b751), .val (.ref b757), .val (.ref b760), .val (.ref b762)] [(.ref b762)])) rfl (by rw [hml]; rfl) (Steps.refl _) (argsL := []) (rest := []) (lenOf own_pd3 rfl) rfl (by show 2 * 0 + _ ≤ _; exact Nat.le_of_eq rfl) (hb hby at_124) (fun _ _ => ⟨rfl, rfl, (by show k764 + _ ≤ _; rw [y764]; decide), (by show n764 + _ ≤ _; rw [z764]; decide)⟩)
        dsimp only [Pt.U, Pt.locs, Pt.cells, Pt.slots] at X793 l793 y793 z793 st793 hQ793
        have y793 : k793 = 7 := own_addeq y793 (congrArg (fun q => q) y764) rfl
        have z793 : n793 = 203 := own_addeq z793 (congrArg (fun q => q) z764) rfl
        obtain ⟨rfl, N793q, K793q, f794, f795, f796, f797, f798, f799, f800⟩ := hQ793
        have N793 : Fr n0 L793 := by rw [l793]; exact Fr.app N764 N793q
        have z801 := K793q.1
        have z802 := own_lt f794.lt
        have z803 := own_lt f795.lt
        have z804 := own_lt f796.lt
        have z805 := own_lt f797.lt
        have z806 := own_lt f798.lt
        have f799 : Fld Z T793.heap b762 "com/example/kalchas/kalchas/propositional/HornClauses" "variableCount" "I" (.int (1 : Int32)) := f799
        have z807 := own_lt f799.lt
        have z808 := own_lt f800.lt
        refine own_go (fun _ k => st793.trans k) ?_
        show own_Go _ _ _ _ T793 (mkF m 127 #[.val (.int p_1), .val (.int p_2), .val (.int p_3), .val (.int p_4), .val (.int v2), .val (.int v4), .val (.int v6), .val (.int v8), .val (.ref b751), .val (.ref b757), .val (.ref b760), .val (.ref b762)] [(.int (0 : Int32))])
        refine own_go (fun _ k => XS.pop X793.here hx rfl (hb hby at_127) rfl rfl k) ?_
        show own_Go _ _ _ _ T793 (mkF m 128 #[.val (.int p_1), .val (.int p_2), .val (.int p_3), .val (.int p_4), .val (.int v2), .val (.int v4), .val (.int v6), .val (.int v8), .val (.ref b751), .val (.ref b757), .val (.ref b760), .val (.ref b762)] [])
        refine own_go (fun _ k => XS.aload X793.here hx rfl (hb hby at_128) rfl rfl k) ?_
        show own_Go _ _ _ _ T793 (mkF m 130 #[.val (.int p_1), .val (.int p_2), .val (.int p_3), .val (.int p_4), .val (.int v2), .val (.int v4), .val (.int v6), .val (.int v8), .val (.ref b751), .val (.ref b757), .val (.ref b760), .val (.ref b762)] [(.ref b762)])
        obtain ⟨cq809, kq809, q809a, q809b, q809c⟩ := isOf hZ rfl f794
        obtain ⟨_, _, ⟨T809, L809, k809, n809⟩, -, X809, ⟨Lc809, hQ809, l809, y809, z809⟩, st809⟩ := X793.virtualBack hx (y := (⟨"com/example/kalchas/kalchas/propositional/HornClauses", "newVariable", "()I"⟩ : MethodName)) (z := (⟨"com/example/kalchas/kalchas/propositional/HornClauses", "newVariable", "()I"⟩ : MethodName)) hown (mvT hZ (hw _ (List.mem_of_getElem? (i := 17) rfl))) (mvT hZ (hw _ (List.mem_of_getElem? (i := 18) rfl))) (notFace_of_selects (args := #[]) (mvT hZ (hw _ (List.mem_of_getElem? (i := 20) rfl)))) (mvT hZ (hw _ (List.mem_of_getElem? (i := 20) rfl))) (mvT hZ (hw _ (List.mem_of_getElem? (i := 19) rfl))) (by decide) (backOf (W := 0) (own_rm3 l Z a0 hw [] b762 (.ref x_765) (.ref x_766) (.ref x_767) .null (1 : Int32) (0 : Int32) T793.heap n0 (by omega) f794 f795 f796 f797 f798 f799 f800 (by omega)) hZ (hw _ (List.mem_of_getElem? (i := 21) rfl)) (hw _ (List.mem_of_getElem? (i := 4) rfl)) (by decide) (by decide)) q809a q809c (g := (mkF m 130 #[.val (.int p_1), .val (.int p_2), .val (.int p_3), .val (.int p_4), .val (.int v2), .val (.int v4), .val (.int v6), .val (.int v8), .val (.ref b751), .val (.ref b757), .val (.ref b760), .val (.ref b762)] [(.ref b762)])) rfl (by rw [hml]; rfl) (Steps.refl _) (argsL := []) (rest := []) (lenOf own_pd3 rfl) rfl (by show 2 * 0 + _ ≤ _; exact Nat.le_of_eq rfl) (hb hby at_130) (fun _ _ => ⟨rfl, rfl, (by show k793 + _ ≤ _; rw [y793]; decide), (by show n793 + _ ≤ _; rw [z793]; decide)⟩)
        dsimp only [Pt.U, Pt.locs, Pt.cells, Pt.slots] at X809 l809 y809 z809 st809 hQ809
        have y809 : k809 = 7 := own_addeq y809 (congrArg (fun q => q) y793) rfl
        have z809 : n809 = 203 := own_addeq z809 (congrArg (fun q => q) z793) rfl
        obtain ⟨rfl, N809q, K809q, f810, f811, f812, f813, f814, f815, f816⟩ := hQ809
        have N809 : Fr n0 L809 := by rw [l809]; exact Fr.app N793 N809q
        have z817 := K809q.1
        have z818 := own_lt f810.lt
        have z819 := own_lt f811.lt
        have z820 := own_lt f812.lt
        have z821 := own_lt f813.lt
        have z822 := own_lt f814.lt
        have f815 : Fld Z T809.heap b762 "com/example/kalchas/kalchas/propositional/HornClauses" "variableCount" "I" (.int (2 : Int32)) := f815
        have z823 := own_lt f815.lt
        have z824 := own_lt f816.lt
        refine own_go (fun _ k => st809.trans k) ?_
        show own_Go _ _ _ _ T809 (mkF m 133 #[.val (.int p_1), .val (.int p_2), .val (.int p_3), .val (.int p_4), .val (.int v2), .val (.int v4), .val (.int v6), .val (.int v8), .val (.ref b751), .val (.ref b757), .val (.ref b760), .val (.ref b762)] [(.int (1 : Int32))])
        refine own_go (fun _ k => XS.pop X809.here hx rfl (hb hby at_133) rfl rfl k) ?_
        show own_Go _ _ _ _ T809 (mkF m 134 #[.val (.int p_1), .val (.int p_2), .val (.int p_3), .val (.int p_4), .val (.int v2), .val (.int v4), .val (.int v6), .val (.int v8), .val (.ref b751), .val (.ref b757), .val (.ref b760), .val (.ref b762)] [])
        refine own_go (fun _ k => XS.aload X809.here hx rfl (hb hby at_134) rfl rfl k) ?_
        show own_Go _ _ _ _ T809 (mkF m 136 #[.val (.int p_1), .val (.int p_2), .val (.int p_3), .val (.int p_4), .val (.int v2), .val (.int v4), .val (.int v6), .val (.int v8), .val (.ref b751), .val (.ref b757), .val (.ref b760), .val (.ref b762)] [(.ref b762)])
        obtain ⟨cq825, kq825, q825a, q825b, q825c⟩ := isOf hZ rfl f810
        obtain ⟨_, _, ⟨T825, L825, k825, n825⟩, -, X825, ⟨Lc825, hQ825, l825, y825, z825⟩, st825⟩ := X809.virtualBack hx (y := (⟨"com/example/kalchas/kalchas/propositional/HornClauses", "newVariable", "()I"⟩ : MethodName)) (z := (⟨"com/example/kalchas/kalchas/propositional/HornClauses", "newVariable", "()I"⟩ : MethodName)) hown (mvT hZ (hw _ (List.mem_of_getElem? (i := 17) rfl))) (mvT hZ (hw _ (List.mem_of_getElem? (i := 18) rfl))) (notFace_of_selects (args := #[]) (mvT hZ (hw _ (List.mem_of_getElem? (i := 20) rfl)))) (mvT hZ (hw _ (List.mem_of_getElem? (i := 20) rfl))) (mvT hZ (hw _ (List.mem_of_getElem? (i := 19) rfl))) (by decide) (backOf (W := 0) (own_rm3 l Z a0 hw [] b762 (.ref x_765) (.ref x_766) (.ref x_767) .null (2 : Int32) (0 : Int32) T809.heap n0 (by omega) f810 f811 f812 f813 f814 f815 f816 (by omega)) hZ (hw _ (List.mem_of_getElem? (i := 21) rfl)) (hw _ (List.mem_of_getElem? (i := 4) rfl)) (by decide) (by decide)) q825a q825c (g := (mkF m 136 #[.val (.int p_1), .val (.int p_2), .val (.int p_3), .val (.int p_4), .val (.int v2), .val (.int v4), .val (.int v6), .val (.int v8), .val (.ref b751), .val (.ref b757), .val (.ref b760), .val (.ref b762)] [(.ref b762)])) rfl (by rw [hml]; rfl) (Steps.refl _) (argsL := []) (rest := []) (lenOf own_pd3 rfl) rfl (by show 2 * 0 + _ ≤ _; exact Nat.le_of_eq rfl) (hb hby at_136) (fun _ _ => ⟨rfl, rfl, (by show k809 + _ ≤ _; rw [y809]; decide), (by show n809 + _ ≤ _; rw [z809]; decide)⟩)
        dsimp only [Pt.U, Pt.locs, Pt.cells, Pt.slots] at X825 l825 y825 z825 st825 hQ825
        have y825 : k825 = 7 := own_addeq y825 (congrArg (fun q => q) y809) rfl
        have z825 : n825 = 203 := own_addeq z825 (congrArg (fun q => q) z809) rfl
        obtain ⟨rfl, N825q, K825q, f826, f827, f828, f829, f830, f831, f832⟩ := hQ825
        have N825 : Fr n0 L825 := by rw [l825]; exact Fr.app N809 N825q
        have z833 := K825q.1
        have z834 := own_lt f826.lt
        have z835 := own_lt f827.lt
        have z836 := own_lt f828.lt
        have z837 := own_lt f829.lt
        have z838 := own_lt f830.lt
        have f831 : Fld Z T825.heap b762 "com/example/kalchas/kalchas/propositional/HornClauses" "variableCount" "I" (.int (3 : Int32)) := f831
        have z839 := own_lt f831.lt
        have z840 := own_lt f832.lt
        refine own_go (fun _ k => st825.trans k) ?_
        show own_Go _ _ _ _ T825 (mkF m 139 #[.val (.int p_1), .val (.int p_2), .val (.int p_3), .val (.int p_4), .val (.int v2), .val (.int v4), .val (.int v6), .val (.int v8), .val (.ref b751), .val (.ref b757), .val (.ref b760), .val (.ref b762)] [(.int (2 : Int32))])
        refine own_go (fun _ k => XS.pop X825.here hx rfl (hb hby at_139) rfl rfl k) ?_
        show own_Go _ _ _ _ T825 (mkF m 140 #[.val (.int p_1), .val (.int p_2), .val (.int p_3), .val (.int p_4), .val (.int v2), .val (.int v4), .val (.int v6), .val (.int v8), .val (.ref b751), .val (.ref b757), .val (.ref b760), .val (.ref b762)] [])
        refine own_go (fun _ k => XS.aload X825.here hx rfl (hb hby at_140) rfl rfl k) ?_
        show own_Go _ _ _ _ T825 (mkF m 142 #[.val (.int p_1), .val (.int p_2), .val (.int p_3), .val (.int p_4), .val (.int v2), .val (.int v4), .val (.int v6), .val (.int v8), .val (.ref b751), .val (.ref b757), .val (.ref b760), .val (.ref b762)] [(.ref b762)])
        refine own_go (fun _ k => XS.iload X825.here hx rfl (hb hby at_142) rfl k) ?_
        show own_Go _ _ _ _ T825 (mkF m 144 #[.val (.int p_1), .val (.int p_2), .val (.int p_3), .val (.int p_4), .val (.int v2), .val (.int v4), .val (.int v6), .val (.int v8), .val (.ref b751), .val (.ref b757), .val (.ref b760), .val (.ref b762)] [(.int v2), (.ref b762)])
        refine own_go (fun _ k => XS.aload X825.here hx rfl (hb hby at_144) rfl rfl k) ?_
        show own_Go _ _ _ _ T825 (mkF m 146 #[.val (.int p_1), .val (.int p_2), .val (.int p_3), .val (.int p_4), .val (.int v2), .val (.int v4), .val (.int v6), .val (.int v8), .val (.ref b751), .val (.ref b757), .val (.ref b760), .val (.ref b762)] [(.ref b751), (.int v2), (.ref b762)])
        have f841 : own_AV Z T825.heap x_765 .int (64 : Int32) (fun _ => (.int (0 : Int32))) := (((f775.keep K793q (ninS (own_ne (by omega)) nin0)).keep K809q (ninS (own_ne (by omega)) nin0)).keep K825q (ninS (own_ne (by omega)) nin0))
        have f842 : own_AV Z T825.heap x_766 .int (65 : Int32) (fun _ => (.int (0 : Int32))) := (((f776.keep K793q (ninS (own_ne (by omega)) nin0)).keep K809q (ninS (own_ne (by omega)) nin0)).keep K825q (ninS (own_ne (by omega)) nin0))
        have f843 : own_AV Z T825.heap x_767 .int (64 : Int32) (fun _ => (.int (0 : Int32))) := (((f777.keep K793q (ninS (own_ne (by omega)) nin0)).keep K809q (ninS (own_ne (by omega)) nin0)).keep K825q (ninS (own_ne (by omega)) nin0))
        have f844 : own_AV Z T825.heap b751 .int (1 : Int32) (own_upd (fun _ => (.int (0 : Int32))) 0 (.int v8)) := (((((((V754.ext E757).ext E760).ext E762).keep K764q (ninS (own_ne (by omega)) nin0)).keep K793q (ninS (own_ne (by omega)) nin0)).keep K809q (ninS (own_ne (by omega)) nin0)).keep K825q (ninS (own_ne (by omega)) nin0))
        obtain ⟨cq845, kq845, q845a, q845b, q845c⟩ := isOf hZ rfl f826
        obtain ⟨_, _, ⟨T845, L845, k845, n845⟩, -, X845, hS845, gr845, ⟨Lc845, hQ845, l845, y845, z845⟩, st845⟩ := X825.virtualBackS hx (y := (⟨"com/example/kalchas/kalchas/propositional/HornClauses", "add", "(I[I)V"⟩ : MethodName)) (z := (⟨"com/example/kalchas/kalchas/propositional/HornClauses", "add", "(I[I)V"⟩ : MethodName)) hown (mvT hZ (hw _ (List.mem_of_getElem? (i := 26) rfl))) (mvT hZ (hw _ (List.mem_of_getElem? (i := 27) rfl))) (notFace_of_selects (args := #[]) (mvT hZ (hw _ (List.mem_of_getElem? (i := 29) rfl)))) (mvT hZ (hw _ (List.mem_of_getElem? (i := 29) rfl))) (mvT hZ (hw _ (List.mem_of_getElem? (i := 28) rfl))) (by decide) (backOfS (W := 0) (own_rm4_01 l Z a0 hw [] b762 v2 b751 x_765 x_766 x_767 (fun _ => (.int (0 : Int32))) (fun _ => (.int (0 : Int32))) (fun _ => (.int (0 : Int32))) (0 : Int32) .null v8 T825.heap n0 (by omega) f826 f831 f832 f827 f828 f829 f830 f841 f842 f843 f844 (by simp only [own_lts, and_true]; omega) rfl (by decide) (fun _ => rfl) (show ¬ (v2 < 0) by first | assumption | omega | decide) (show v2 < (3 : Int32) by first | assumption | omega | decide) (show ¬ (v8 < 0) by first | assumption | omega | decide) (show v8 < (3 : Int32) by first | assumption | omega | decide) (by omega) (by omega) (by omega) (by omega)) hZ (hw _ (List.mem_of_getElem? (i := 30) rfl)) (hw _ (List.mem_of_getElem? (i := 4) rfl)) (by decide) (by decide)) q845a q845c (g := (mkF m 146 #[.val (.int p_1), .val (.int p_2), .val (.int p_3), .val (.int p_4), .val (.int v2), .val (.int v4), .val (.int v6), .val (.int v8), .val (.ref b751), .val (.ref b757), .val (.ref b760), .val (.ref b762)] [(.ref b751), (.int v2), (.ref b762)])) rfl (by rw [hml]; rfl) (Steps.refl _) (argsL := [(.int v2), (.ref b751)]) (rest := []) (lenOf own_pd4 rfl) rfl (by show 2 * 0 + _ ≤ _; exact Nat.le_of_eq rfl) (hb hby at_146) (fun _ _ => ⟨rfl, rfl, (by show k825 + _ ≤ _; rw [y825]; decide), (by show n825 + _ ≤ _; rw [z825]; decide)⟩)
        dsimp only [Pt.U, Pt.locs, Pt.cells, Pt.slots] at X845 l845 y845 z845 st845 hQ845 hS845 gr845
        have y845 : k845 = 11 := own_addeq y845 (congrArg (fun q => q) y825) rfl
        have z845 : n845 = 275 := own_addeq z845 (congrArg (fun q => q) z825) rfl
        have Wn845 := hS845.1
        obtain ⟨X845, hS845, hZ, hown⟩ := rebS hS0 (n1 := T825.heap.size) (by omega) X845 hS845 gr845 hZ hown
        obtain ⟨gb_846, rfl, N845q, K845q, f847, f848, f849, f850, f851, f852, f853, f854, f855, f856, f857⟩ := hQ845
        have N845 : Fr n0 L845 := by rw [l845]; exact Fr.app N825 N845q
        have z858 := K845q.1
        have z859 := own_lt f847.lt
        have z860 := own_lt f848.lt
        have z861 := own_lt f849.lt
        have z862 := own_lt f850.lt
        have z863 := own_lt f851.lt
        have z864 := own_lt f852.lt
        have z865 := own_lt f853.lt
        have z866 := own_lt f854.lt
        have z867 := own_lt f855.lt
        have z868 := own_lt f856.lt
        refine own_go (fun _ k => st845.trans k) ?_
        show own_Go _ _ _ _ T845 (mkF m 149 #[.val (.int p_1), .val (.int p_2), .val (.int p_3), .val (.int p_4), .val (.int v2), .val (.int v4), .val (.int v6), .val (.int v8), .val (.ref b751), .val (.ref b757), .val (.ref b760), .val (.ref b762)] [])
        refine own_go (fun _ k => XS.aload X845.here hx rfl (hb hby at_149) rfl rfl k) ?_
        show own_Go _ _ _ _ T845 (mkF m 151 #[.val (.int p_1), .val (.int p_2), .val (.int p_3), .val (.int p_4), .val (.int v2), .val (.int v4), .val (.int v6), .val (.int v8), .val (.ref b751), .val (.ref b757), .val (.ref b760), .val (.ref b762)] [(.ref b762)])
        refine own_go (fun _ k => XS.iload X845.here hx rfl (hb hby at_151) rfl k) ?_
        show own_Go _ _ _ _ T845 (mkF m 153 #[.val (.int p_1), .val (.int p_2), .val (.int p_3), .val (.int p_4), .val (.int v2), .val (.int v4), .val (.int v6), .val (.int v8), .val (.ref b751), .val (.ref b757), .val (.ref b760), .val (.ref b762)] [(.int v4), (.ref b762)])
        refine own_go (fun _ k => XS.aload X845.here hx rfl (hb hby at_153) rfl rfl k) ?_
        show own_Go _ _ _ _ T845 (mkF m 155 #[.val (.int p_1), .val (.int p_2), .val (.int p_3), .val (.int p_4), .val (.int v2), .val (.int v4), .val (.int v6), .val (.int v8), .val (.ref b751), .val (.ref b757), .val (.ref b760), .val (.ref b762)] [(.ref b757), (.int v4), (.ref b762)])
        have f869 : own_AV Z T845.heap b757 .int (0 : Int32) (fun _ => (.int (0 : Int32))) := (((((((V_b757.ext E760).ext E762).keep K764q (ninS (own_ne (by omega)) nin0)).keep K793q (ninS (own_ne (by omega)) nin0)).keep K809q (ninS (own_ne (by omega)) nin0)).keep K825q (ninS (own_ne (by omega)) nin0)).keep K845q (ninS (own_ne (by omega)) (ninS (own_ne (by omega)) (ninS (own_ne (by omega)) (ninS (own_ne (by omega)) nin0)))))
        obtain ⟨cq870, kq870, q870a, q870b, q870c⟩ := isOf hZ rfl f847
        obtain ⟨_, _, ⟨T870, L870, k870, n870⟩, -, X870, hS870, gr870, ⟨Lc870, hQ870, l870, y870, z870⟩, st870⟩ := X845.virtualBackS hx (y := (⟨"com/example/kalchas/kalchas/propositional/HornClauses", "add", "(I[I)V"⟩ : MethodName)) (z := (⟨"com/example/kalchas/kalchas/propositional/HornClauses", "add", "(I[I)V"⟩ : MethodName)) hown (mvT hZ (hw _ (List.mem_of_getElem? (i := 26) rfl))) (mvT hZ (hw _ (List.mem_of_getElem? (i := 27) rfl))) (notFace_of_selects (args := #[]) (mvT hZ (hw _ (List.mem_of_getElem? (i := 29) rfl)))) (mvT hZ (hw _ (List.mem_of_getElem? (i := 29) rfl))) (mvT hZ (hw _ (List.mem_of_getElem? (i := 28) rfl))) (by decide) (backOfS (W := 0) (own_rm4_10 l Z a0 hw [] b762 v4 b757 x_765 x_766 x_767 (own_upd (fun _ => (.int (0 : Int32))) 0 (.int v2)) (own_upd (fun _ => (.int (0 : Int32))) 1 (.int ((0 : Int32) + (1 : Int32)))) gb_846 ((0 : Int32) + (1 : Int32)) .null T845.heap n0 (by omega) f847 f848 f849 f850 f851 f852 f853 f854 f855 f856 f869 (by simp only [own_lts, and_true]; omega) rfl (by decide) f857 (show ¬ (v4 < 0) by first | assumption | omega | decide) (show v4 < (3 : Int32) by first | assumption | omega | decide) (by omega) (by omega) (by omega) (by omega)) hZ (hw _ (List.mem_of_getElem? (i := 30) rfl)) (hw _ (List.mem_of_getElem? (i := 4) rfl)) (by decide) (by decide)) q870a q870c (g := (mkF m 155 #[.val (.int p_1), .val (.int p_2), .val (.int p_3), .val (.int p_4), .val (.int v2), .val (.int v4), .val (.int v6), .val (.int v8), .val (.ref b751), .val (.ref b757), .val (.ref b760), .val (.ref b762)] [(.ref b757), (.int v4), (.ref b762)])) rfl (by rw [hml]; rfl) (Steps.refl _) (argsL := [(.int v4), (.ref b757)]) (rest := []) (lenOf own_pd4 rfl) rfl (by show 2 * 0 + _ ≤ _; exact Nat.le_of_eq rfl) (hb hby at_155) (fun _ _ => ⟨rfl, rfl, (by show k845 + _ ≤ _; rw [y845]; decide), (by show n845 + _ ≤ _; rw [z845]; decide)⟩)
        dsimp only [Pt.U, Pt.locs, Pt.cells, Pt.slots] at X870 l870 y870 z870 st870 hQ870 hS870 gr870
        have y870 : k870 = 13 := own_addeq y870 (congrArg (fun q => q) y845) rfl
        have z870 : n870 = 311 := own_addeq z870 (congrArg (fun q => q) z845) rfl
        have Wn870 := hS870.1
        obtain ⟨X870, hS870, hZ, hown⟩ := rebS hS845 (n1 := T845.heap.size) (by omega) X870 hS870 gr870 hZ hown
        obtain ⟨gb_871, rfl, N870q, K870q, f872, f873, f874, f875, f876, f877, f878, f879, f880, f881, f882⟩ := hQ870
        have N870 : Fr n0 L870 := by rw [l870]; exact Fr.app N845 N870q
        have z883 := K870q.1
        have z884 := own_lt f872.lt
        have z885 := own_lt f873.lt
        have z886 := own_lt f874.lt
        have z887 := own_lt f875.lt
        have z888 := own_lt f876.lt
        have z889 := own_lt f877.lt
        have z890 := own_lt f878.lt
        have z891 := own_lt f879.lt
        have z892 := own_lt f880.lt
        have z893 := own_lt f881.lt
        refine own_go (fun _ k => st870.trans k) ?_
        show own_Go _ _ _ _ T870 (mkF m 158 #[.val (.int p_1), .val (.int p_2), .val (.int p_3), .val (.int p_4), .val (.int v2), .val (.int v4), .val (.int v6), .val (.int v8), .val (.ref b751), .val (.ref b757), .val (.ref b760), .val (.ref b762)] [])
        refine own_go (fun _ k => XS.aload X870.here hx rfl (hb hby at_158) rfl rfl k) ?_
        show own_Go _ _ _ _ T870 (mkF m 160 #[.val (.int p_1), .val (.int p_2), .val (.int p_3), .val (.int p_4), .val (.int v2), .val (.int v4), .val (.int v6), .val (.int v8), .val (.ref b751), .val (.ref b757), .val (.ref b760), .val (.ref b762)] [(.ref b762)])
        refine own_go (fun _ k => XS.iload X870.here hx rfl (hb hby at_160) rfl k) ?_
        show own_Go _ _ _ _ T870 (mkF m 162 #[.val (.int p_1), .val (.int p_2), .val (.int p_3), .val (.int p_4), .val (.int v2), .val (.int v4), .val (.int v6), .val (.int v8), .val (.ref b751), .val (.ref b757), .val (.ref b760), .val (.ref b762)] [(.int v6), (.ref b762)])
        refine own_go (fun _ k => XS.aload X870.here hx rfl (hb hby at_162) rfl rfl k) ?_
        show own_Go _ _ _ _ T870 (mkF m 164 #[.val (.int p_1), .val (.int p_2), .val (.int p_3), .val (.int p_4), .val (.int v2), .val (.int v4), .val (.int v6), .val (.int v8), .val (.ref b751), .val (.ref b757), .val (.ref b760), .val (.ref b762)] [(.ref b760), (.int v6), (.ref b762)])
        have f894 : own_AV Z T870.heap b760 .int (0 : Int32) (fun _ => (.int (0 : Int32))) := (((((((V_b760.ext E762).keep K764q (ninS (own_ne (by omega)) nin0)).keep K793q (ninS (own_ne (by omega)) nin0)).keep K809q (ninS (own_ne (by omega)) nin0)).keep K825q (ninS (own_ne (by omega)) nin0)).keep K845q (ninS (own_ne (by omega)) (ninS (own_ne (by omega)) (ninS (own_ne (by omega)) (ninS (own_ne (by omega)) nin0))))).keep K870q (ninS (own_ne (by omega)) (ninS (own_ne (by omega)) (ninS (own_ne (by omega)) (ninS (own_ne (by omega)) nin0)))))
        obtain ⟨cq895, kq895, q895a, q895b, q895c⟩ := isOf hZ rfl f872
        obtain ⟨_, _, ⟨T895, L895, k895, n895⟩, -, X895, hS895, gr895, ⟨Lc895, hQ895, l895, y895, z895⟩, st895⟩ := X870.virtualBackS hx (y := (⟨"com/example/kalchas/kalchas/propositional/HornClauses", "add", "(I[I)V"⟩ : MethodName)) (z := (⟨"com/example/kalchas/kalchas/propositional/HornClauses", "add", "(I[I)V"⟩ : MethodName)) hown (mvT hZ (hw _ (List.mem_of_getElem? (i := 26) rfl))) (mvT hZ (hw _ (List.mem_of_getElem? (i := 27) rfl))) (notFace_of_selects (args := #[]) (mvT hZ (hw _ (List.mem_of_getElem? (i := 29) rfl)))) (mvT hZ (hw _ (List.mem_of_getElem? (i := 29) rfl))) (mvT hZ (hw _ (List.mem_of_getElem? (i := 28) rfl))) (by decide) (backOfS (W := 0) (own_rm4_20 l Z a0 hw [] b762 v6 b760 x_765 x_766 x_767 (own_upd (own_upd (fun _ => (.int (0 : Int32))) 0 (.int v2)) 1 (.int v4)) (own_upd (own_upd (fun _ => (.int (0 : Int32))) 1 (.int ((0 : Int32) + (1 : Int32)))) 2 (.int (((0 : Int32) + (1 : Int32)) + (0 : Int32)))) gb_871 (((0 : Int32) + (1 : Int32)) + (0 : Int32)) .null T870.heap n0 (by omega) f872 f873 f874 f875 f876 f877 f878 f879 f880 f881 f894 (by simp only [own_lts, and_true]; omega) rfl (by decide) f882 (show ¬ (v6 < 0) by first | assumption | omega | decide) (show v6 < (3 : Int32) by first | assumption | omega | decide) (by omega) (by omega) (by omega) (by omega)) hZ (hw _ (List.mem_of_getElem? (i := 30) rfl)) (hw _ (List.mem_of_getElem? (i := 4) rfl)) (by decide) (by decide)) q895a q895c (g := (mkF m 164 #[.val (.int p_1), .val (.int p_2), .val (.int p_3), .val (.int p_4), .val (.int v2), .val (.int v4), .val (.int v6), .val (.int v8), .val (.ref b751), .val (.ref b757), .val (.ref b760), .val (.ref b762)] [(.ref b760), (.int v6), (.ref b762)])) rfl (by rw [hml]; rfl) (Steps.refl _) (argsL := [(.int v6), (.ref b760)]) (rest := []) (lenOf own_pd4 rfl) rfl (by show 2 * 0 + _ ≤ _; exact Nat.le_of_eq rfl) (hb hby at_164) (fun _ _ => ⟨rfl, rfl, (by show k870 + _ ≤ _; rw [y870]; decide), (by show n870 + _ ≤ _; rw [z870]; decide)⟩)
        dsimp only [Pt.U, Pt.locs, Pt.cells, Pt.slots] at X895 l895 y895 z895 st895 hQ895 hS895 gr895
        have y895 : k895 = 15 := own_addeq y895 (congrArg (fun q => q) y870) rfl
        have z895 : n895 = 347 := own_addeq z895 (congrArg (fun q => q) z870) rfl
        have Wn895 := hS895.1
        obtain ⟨X895, hS895, hZ, hown⟩ := rebS hS870 (n1 := T870.heap.size) (by omega) X895 hS895 gr895 hZ hown
        obtain ⟨gb_896, rfl, N895q, K895q, f897, f898, f899, f900, f901, f902, f903, f904, f905, f906, f907⟩ := hQ895
        have N895 : Fr n0 L895 := by rw [l895]; exact Fr.app N870 N895q
        have z908 := K895q.1
        have z909 := own_lt f897.lt
        have z910 := own_lt f898.lt
        have z911 := own_lt f899.lt
        have z912 := own_lt f900.lt
        have z913 := own_lt f901.lt
        have z914 := own_lt f902.lt
        have z915 := own_lt f903.lt
        have z916 := own_lt f904.lt
        have z917 := own_lt f905.lt
        have z918 := own_lt f906.lt
        refine own_go (fun _ k => st895.trans k) ?_
        show own_Go _ _ _ _ T895 (mkF m 167 #[.val (.int p_1), .val (.int p_2), .val (.int p_3), .val (.int p_4), .val (.int v2), .val (.int v4), .val (.int v6), .val (.int v8), .val (.ref b751), .val (.ref b757), .val (.ref b760), .val (.ref b762)] [])
        refine own_go (fun _ k => XS.aload X895.here hx rfl (hb hby at_167) rfl rfl k) ?_
        show own_Go _ _ _ _ T895 (mkF m 169 #[.val (.int p_1), .val (.int p_2), .val (.int p_3), .val (.int p_4), .val (.int v2), .val (.int v4), .val (.int v6), .val (.int v8), .val (.ref b751), .val (.ref b757), .val (.ref b760), .val (.ref b762)] [(.ref b762)])
        refine own_go (fun _ k => XS.iconst X895.here hx rfl (hb hby at_169) k) ?_
        show own_Go _ _ _ _ T895 (mkF m 170 #[.val (.int p_1), .val (.int p_2), .val (.int p_3), .val (.int p_4), .val (.int v2), .val (.int v4), .val (.int v6), .val (.int v8), .val (.ref b751), .val (.ref b757), .val (.ref b760), .val (.ref b762)] [(.int (0 : Int32)), (.ref b762)])
        obtain ⟨cq919, kq919, q919a, q919b, q919c⟩ := isOf hZ rfl f897
        obtain ⟨_, _, ⟨T919, L919, k919, n919⟩, -, X919, hS919, gr919, ⟨Lc919, hQ919, l919, y919, z919⟩, st919⟩ := X895.virtualBackS hx (y := (⟨"com/example/kalchas/kalchas/propositional/HornClauses", "head", "(I)I"⟩ : MethodName)) (z := (⟨"com/example/kalchas/kalchas/propositional/HornClauses", "head", "(I)I"⟩ : MethodName)) hown (mvT hZ (hw _ (List.mem_of_getElem? (i := 53) rfl))) (mvT hZ (hw _ (List.mem_of_getElem? (i := 54) rfl))) (notFace_of_selects (args := #[]) (mvT hZ (hw _ (List.mem_of_getElem? (i := 56) rfl)))) (mvT hZ (hw _ (List.mem_of_getElem? (i := 56) rfl))) (mvT hZ (hw _ (List.mem_of_getElem? (i := 55) rfl))) (by decide) (backOfS (W := 0) (own_rm7_0 l Z a0 hw [] b762 x_765 (own_upd (own_upd (own_upd (fun _ => (.int (0 : Int32))) 0 (.int v2)) 1 (.int v4)) 2 (.int v6)) v2 T895.heap n0 (by omega) f897 f900 f899 f904 rfl) hZ (hw _ (List.mem_of_getElem? (i := 57) rfl)) (hw _ (List.mem_of_getElem? (i := 4) rfl)) (by decide) (by decide)) q919a q919c (g := (mkF m 170 #[.val (.int p_1), .val (.int p_2), .val (.int p_3), .val (.int p_4), .val (.int v2), .val (.int v4), .val (.int v6), .val (.int v8), .val (.ref b751), .val (.ref b757), .val (.ref b760), .val (.ref b762)] [(.int (0 : Int32)), (.ref b762)])) rfl (by rw [hml]; rfl) (Steps.refl _) (argsL := [(.int (0 : Int32))]) (rest := []) (lenOf own_pd5 rfl) rfl (by show 2 * 0 + _ ≤ _; exact Nat.le_of_eq rfl) (hb hby at_170) (fun _ _ => ⟨rfl, rfl, (by show k895 + _ ≤ _; rw [y895]; decide), (by show n895 + _ ≤ _; rw [z895]; decide)⟩)
        dsimp only [Pt.U, Pt.locs, Pt.cells, Pt.slots] at X919 l919 y919 z919 st919 hQ919 hS919 gr919
        have y919 : k919 = 17 := own_addeq y919 (congrArg (fun q => q) y895) rfl
        have z919 : n919 = 375 := own_addeq z919 (congrArg (fun q => q) z895) rfl
        have Wn919 := hS919.1
        obtain ⟨X919, hS919, hZ, hown⟩ := rebS hS895 (n1 := T895.heap.size) (by omega) X919 hS919 gr919 hZ hown
        obtain ⟨rfl, N919q, K919q⟩ := hQ919
        have N919 : Fr n0 L919 := by rw [l919]; exact Fr.app N895 N919q
        have z920 := K919q.1
        refine own_go (fun _ k => st919.trans k) ?_
        show own_Go _ _ _ _ T919 (mkF m 173 #[.val (.int p_1), .val (.int p_2), .val (.int p_3), .val (.int p_4), .val (.int v2), .val (.int v4), .val (.int v6), .val (.int v8), .val (.ref b751), .val (.ref b757), .val (.ref b760), .val (.ref b762)] [(.int v2)])
        refine own_go (fun _ k => XS.iload X919.here hx rfl (hb hby at_173) rfl k) ?_
        show own_Go _ _ _ _ T919 (mkF m 175 #[.val (.int p_1), .val (.int p_2), .val (.int p_3), .val (.int p_4), .val (.int v2), .val (.int v4), .val (.int v6), .val (.int v8), .val (.ref b751), .val (.ref b757), .val (.ref b760), .val (.ref b762)] [(.int v2), (.int v2)])
        have hc921 : v2 = v2 := rfl
        refine own_go (fun _ k => XS.icmpNo X919.here hx rfl (hb hby at_175) rfl (Jvm.Free.XT.ii_ne_f hc921) k) ?_
        show own_Go _ _ _ _ T919 (mkF m 178 #[.val (.int p_1), .val (.int p_2), .val (.int p_3), .val (.int p_4), .val (.int v2), .val (.int v4), .val (.int v6), .val (.int v8), .val (.ref b751), .val (.ref b757), .val (.ref b760), .val (.ref b762)] [])
        refine own_go (fun _ k => XS.aload X919.here hx rfl (hb hby at_178) rfl rfl k) ?_
        show own_Go _ _ _ _ T919 (mkF m 180 #[.val (.int p_1), .val (.int p_2), .val (.int p_3), .val (.int p_4), .val (.int v2), .val (.int v4), .val (.int v6), .val (.int v8), .val (.ref b751), .val (.ref b757), .val (.ref b760), .val (.ref b762)] [(.ref b762)])
        refine own_go (fun _ k => XS.iconst X919.here hx rfl (hb hby at_180) k) ?_
        show own_Go _ _ _ _ T919 (mkF m 181 #[.val (.int p_1), .val (.int p_2), .val (.int p_3), .val (.int p_4), .val (.int v2), .val (.int v4), .val (.int v6), .val (.int v8), .val (.ref b751), .val (.ref b757), .val (.ref b760), .val (.ref b762)] [(.int (1 : Int32)), (.ref b762)])
        have f922 : Exa Z T919.heap b762 "com/example/kalchas/kalchas/propositional/HornClauses" := (f897.keep K919q)
        have f923 : Fld Z T919.heap b762 "com/example/kalchas/kalchas/propositional/HornClauses" "heads" "[I" (.ref x_765) := (f900.keep K919q nin0)
        have f924 : Fld Z T919.heap b762 "com/example/kalchas/kalchas/propositional/HornClauses" "clauseCount" "I" (.int (3 : Int32)) := (f899.keep K919q nin0)
        have f925 : own_AV Z T919.heap x_765 .int (64 : Int32) (own_upd (own_upd (own_upd (fun _ => (.int (0 : Int32))) 0 (.int v2)) 1 (.int v4)) 2 (.int v6)) := (f904.keep K919q nin0)
        obtain ⟨cq926, kq926, q926a, q926b, q926c⟩ := isOf hZ rfl f922
        obtain ⟨_, _, ⟨T926, L926, k926, n926⟩, -, X926, hS926, gr926, ⟨Lc926, hQ926, l926, y926, z926⟩, st926⟩ := X919.virtualBackS hx (y := (⟨"com/example/kalchas/kalchas/propositional/HornClauses", "head", "(I)I"⟩ : MethodName)) (z := (⟨"com/example/kalchas/kalchas/propositional/HornClauses", "head", "(I)I"⟩ : MethodName)) hown (mvT hZ (hw _ (List.mem_of_getElem? (i := 53) rfl))) (mvT hZ (hw _ (List.mem_of_getElem? (i := 54) rfl))) (notFace_of_selects (args := #[]) (mvT hZ (hw _ (List.mem_of_getElem? (i := 56) rfl)))) (mvT hZ (hw _ (List.mem_of_getElem? (i := 56) rfl))) (mvT hZ (hw _ (List.mem_of_getElem? (i := 55) rfl))) (by decide) (backOfS (W := 0) (own_rm7_1 l Z a0 hw [] b762 x_765 (own_upd (own_upd (own_upd (fun _ => (.int (0 : Int32))) 0 (.int v2)) 1 (.int v4)) 2 (.int v6)) v4 T919.heap n0 (by omega) f922 f923 f924 f925 rfl) hZ (hw _ (List.mem_of_getElem? (i := 57) rfl)) (hw _ (List.mem_of_getElem? (i := 4) rfl)) (by decide) (by decide)) q926a q926c (g := (mkF m 181 #[.val (.int p_1), .val (.int p_2), .val (.int p_3), .val (.int p_4), .val (.int v2), .val (.int v4), .val (.int v6), .val (.int v8), .val (.ref b751), .val (.ref b757), .val (.ref b760), .val (.ref b762)] [(.int (1 : Int32)), (.ref b762)])) rfl (by rw [hml]; rfl) (Steps.refl _) (argsL := [(.int (1 : Int32))]) (rest := []) (lenOf own_pd5 rfl) rfl (by show 2 * 0 + _ ≤ _; exact Nat.le_of_eq rfl) (hb hby at_181) (fun _ _ => ⟨rfl, rfl, (by show k919 + _ ≤ _; rw [y919]; decide), (by show n919 + _ ≤ _; rw [z919]; decide)⟩)
        dsimp only [Pt.U, Pt.locs, Pt.cells, Pt.slots] at X926 l926 y926 z926 st926 hQ926 hS926 gr926
        have y926 : k926 = 19 := own_addeq y926 (congrArg (fun q => q) y919) rfl
        have z926 : n926 = 403 := own_addeq z926 (congrArg (fun q => q) z919) rfl
        have Wn926 := hS926.1
        obtain ⟨X926, hS926, hZ, hown⟩ := rebS hS919 (n1 := T919.heap.size) (by omega) X926 hS926 gr926 hZ hown
        obtain ⟨rfl, N926q, K926q⟩ := hQ926
        have N926 : Fr n0 L926 := by rw [l926]; exact Fr.app N919 N926q
        have z927 := K926q.1
        refine own_go (fun _ k => st926.trans k) ?_
        show own_Go _ _ _ _ T926 (mkF m 184 #[.val (.int p_1), .val (.int p_2), .val (.int p_3), .val (.int p_4), .val (.int v2), .val (.int v4), .val (.int v6), .val (.int v8), .val (.ref b751), .val (.ref b757), .val (.ref b760), .val (.ref b762)] [(.int v4)])
        refine own_go (fun _ k => XS.iload X926.here hx rfl (hb hby at_184) rfl k) ?_
        show own_Go _ _ _ _ T926 (mkF m 186 #[.val (.int p_1), .val (.int p_2), .val (.int p_3), .val (.int p_4), .val (.int v2), .val (.int v4), .val (.int v6), .val (.int v8), .val (.ref b751), .val (.ref b757), .val (.ref b760), .val (.ref b762)] [(.int v4), (.int v4)])
        have hc928 : v4 = v4 := rfl
        refine own_go (fun _ k => XS.icmpNo X926.here hx rfl (hb hby at_186) rfl (Jvm.Free.XT.ii_ne_f hc928) k) ?_
        show own_Go _ _ _ _ T926 (mkF m 189 #[.val (.int p_1), .val (.int p_2), .val (.int p_3), .val (.int p_4), .val (.int v2), .val (.int v4), .val (.int v6), .val (.int v8), .val (.ref b751), .val (.ref b757), .val (.ref b760), .val (.ref b762)] [])
        refine own_go (fun _ k => XS.aload X926.here hx rfl (hb hby at_189) rfl rfl k) ?_
        show own_Go _ _ _ _ T926 (mkF m 191 #[.val (.int p_1), .val (.int p_2), .val (.int p_3), .val (.int p_4), .val (.int v2), .val (.int v4), .val (.int v6), .val (.int v8), .val (.ref b751), .val (.ref b757), .val (.ref b760), .val (.ref b762)] [(.ref b762)])
        refine own_go (fun _ k => XS.iconst X926.here hx rfl (hb hby at_191) k) ?_
        show own_Go _ _ _ _ T926 (mkF m 192 #[.val (.int p_1), .val (.int p_2), .val (.int p_3), .val (.int p_4), .val (.int v2), .val (.int v4), .val (.int v6), .val (.int v8), .val (.ref b751), .val (.ref b757), .val (.ref b760), .val (.ref b762)] [(.int (2 : Int32)), (.ref b762)])
        have f929 : Exa Z T926.heap b762 "com/example/kalchas/kalchas/propositional/HornClauses" := (f922.keep K926q)
        have f930 : Fld Z T926.heap b762 "com/example/kalchas/kalchas/propositional/HornClauses" "heads" "[I" (.ref x_765) := (f923.keep K926q nin0)
        have f931 : Fld Z T926.heap b762 "com/example/kalchas/kalchas/propositional/HornClauses" "clauseCount" "I" (.int (3 : Int32)) := (f924.keep K926q nin0)
        have f932 : own_AV Z T926.heap x_765 .int (64 : Int32) (own_upd (own_upd (own_upd (fun _ => (.int (0 : Int32))) 0 (.int v2)) 1 (.int v4)) 2 (.int v6)) := (f925.keep K926q nin0)
        obtain ⟨cq933, kq933, q933a, q933b, q933c⟩ := isOf hZ rfl f929
        obtain ⟨_, _, ⟨T933, L933, k933, n933⟩, -, X933, hS933, gr933, ⟨Lc933, hQ933, l933, y933, z933⟩, st933⟩ := X926.virtualBackS hx (y := (⟨"com/example/kalchas/kalchas/propositional/HornClauses", "head", "(I)I"⟩ : MethodName)) (z := (⟨"com/example/kalchas/kalchas/propositional/HornClauses", "head", "(I)I"⟩ : MethodName)) hown (mvT hZ (hw _ (List.mem_of_getElem? (i := 53) rfl))) (mvT hZ (hw _ (List.mem_of_getElem? (i := 54) rfl))) (notFace_of_selects (args := #[]) (mvT hZ (hw _ (List.mem_of_getElem? (i := 56) rfl)))) (mvT hZ (hw _ (List.mem_of_getElem? (i := 56) rfl))) (mvT hZ (hw _ (List.mem_of_getElem? (i := 55) rfl))) (by decide) (backOfS (W := 0) (own_rm7_2 l Z a0 hw [] b762 x_765 (own_upd (own_upd (own_upd (fun _ => (.int (0 : Int32))) 0 (.int v2)) 1 (.int v4)) 2 (.int v6)) v6 T926.heap n0 (by omega) f929 f930 f931 f932 rfl) hZ (hw _ (List.mem_of_getElem? (i := 57) rfl)) (hw _ (List.mem_of_getElem? (i := 4) rfl)) (by decide) (by decide)) q933a q933c (g := (mkF m 192 #[.val (.int p_1), .val (.int p_2), .val (.int p_3), .val (.int p_4), .val (.int v2), .val (.int v4), .val (.int v6), .val (.int v8), .val (.ref b751), .val (.ref b757), .val (.ref b760), .val (.ref b762)] [(.int (2 : Int32)), (.ref b762)])) rfl (by rw [hml]; rfl) (Steps.refl _) (argsL := [(.int (2 : Int32))]) (rest := []) (lenOf own_pd5 rfl) rfl (by show 2 * 0 + _ ≤ _; exact Nat.le_of_eq rfl) (hb hby at_192) (fun _ _ => ⟨rfl, rfl, (by show k926 + _ ≤ _; rw [y926]; decide), (by show n926 + _ ≤ _; rw [z926]; decide)⟩)
        dsimp only [Pt.U, Pt.locs, Pt.cells, Pt.slots] at X933 l933 y933 z933 st933 hQ933 hS933 gr933
        have y933 : k933 = 21 := own_addeq y933 (congrArg (fun q => q) y926) rfl
        have z933 : n933 = 431 := own_addeq z933 (congrArg (fun q => q) z926) rfl
        have Wn933 := hS933.1
        obtain ⟨X933, hS933, hZ, hown⟩ := rebS hS926 (n1 := T926.heap.size) (by omega) X933 hS933 gr933 hZ hown
        obtain ⟨rfl, N933q, K933q⟩ := hQ933
        have N933 : Fr n0 L933 := by rw [l933]; exact Fr.app N926 N933q
        have z934 := K933q.1
        refine own_go (fun _ k => st933.trans k) ?_
        show own_Go _ _ _ _ T933 (mkF m 195 #[.val (.int p_1), .val (.int p_2), .val (.int p_3), .val (.int p_4), .val (.int v2), .val (.int v4), .val (.int v6), .val (.int v8), .val (.ref b751), .val (.ref b757), .val (.ref b760), .val (.ref b762)] [(.int v6)])
        refine own_go (fun _ k => XS.iload X933.here hx rfl (hb hby at_195) rfl k) ?_
        show own_Go _ _ _ _ T933 (mkF m 197 #[.val (.int p_1), .val (.int p_2), .val (.int p_3), .val (.int p_4), .val (.int v2), .val (.int v4), .val (.int v6), .val (.int v8), .val (.ref b751), .val (.ref b757), .val (.ref b760), .val (.ref b762)] [(.int v6), (.int v6)])
        have hc935 : v6 = v6 := rfl
        refine own_go (fun _ k => XS.icmpNo X933.here hx rfl (hb hby at_197) rfl (Jvm.Free.XT.ii_ne_f hc935) k) ?_
        show own_Go _ _ _ _ T933 (mkF m 200 #[.val (.int p_1), .val (.int p_2), .val (.int p_3), .val (.int p_4), .val (.int v2), .val (.int v4), .val (.int v6), .val (.int v8), .val (.ref b751), .val (.ref b757), .val (.ref b760), .val (.ref b762)] [])
        refine own_go (fun _ k => XS.iconst X933.here hx rfl (hb hby at_200) k) ?_
        show own_Go _ _ _ _ T933 (mkF m 201 #[.val (.int p_1), .val (.int p_2), .val (.int p_3), .val (.int p_4), .val (.int v2), .val (.int v4), .val (.int v6), .val (.int v8), .val (.ref b751), .val (.ref b757), .val (.ref b760), .val (.ref b762)] [(.int (1 : Int32))])
        refine own_go (fun _ k => XS.goto X933.here hx rfl (pc0 := 201) (pc' := 205) rfl (hb hby at_201) (by decide) (by decide) k) ?_
        show own_Go _ _ _ _ T933 (mkF m 205 #[.val (.int p_1), .val (.int p_2), .val (.int p_3), .val (.int p_4), .val (.int v2), .val (.int v4), .val (.int v6), .val (.int v8), .val (.ref b751), .val (.ref b757), .val (.ref b760), .val (.ref b762)] [(.int (1 : Int32))])
        obtain ⟨fs, hr, hrun, hended, hRW⟩ := X933.leaveW hS933 (by omega) (v := some (.int (1 : Int32))) (fun h => by rw [Bd.returns] at h; cases h)
        refine ⟨_, _, retOut X933 hx Bd.returns rfl (Or.inl ⟨rfl, Or.inr (Or.inl rfl), _, rfl⟩) (hb hby at_205) hr, hrun, hended, _, _, rfl, ?_, own_monoW hRW (by rw [y933]; decide) (by rw [z933]; decide)⟩
        exact ⟨rfl, N933⟩
      · refine own_go (fun _ k => XS.ifNo X757.here hx rfl (hb hby at_84) rfl (Jvm.Free.XT.i0_eq_f hc759) k) ?_
        show own_Go _ _ _ _ T757 (mkF m 87 #[.val (.int p_1), .val (.int p_2), .val (.int p_3), .val (.int p_4), .val (.int v2), .val (.int v4), .val (.int v6), .val (.int v8), .val (.ref b751), .val (.ref b757), .unset, .unset] [])
        refine own_go (fun _ k => XS.iconst X757.here hx rfl (hb hby at_87) k) ?_
        show own_Go _ _ _ _ T757 (mkF m 88 #[.val (.int p_1), .val (.int p_2), .val (.int p_3), .val (.int p_4), .val (.int v2), .val (.int v4), .val (.int v6), .val (.int v8), .val (.ref b751), .val (.ref b757), .unset, .unset] [(.int (3 : Int32))])
        obtain ⟨T937, h937, k937, X937, e937, E937, A937, st937⟩ := newP X757 hx hZ (hw _ (List.mem_of_getElem? (i := 1) rfl)) e757 (g := (mkF m 88 #[.val (.int p_1), .val (.int p_2), .val (.int p_3), .val (.int p_4), .val (.int v2), .val (.int v4), .val (.int v6), .val (.int v8), .val (.ref b751), .val (.ref b757), .unset, .unset] [(.int (3 : Int32))])) rfl (hb hby at_88) rfl (by decide) (cap := 3) (by decide) (by decide) (by decide) (by decide)
        obtain ⟨b937, g937⟩ : ∃ z, z = h757.size := ⟨_, rfl⟩
        rw [← g937] at A937 st937
        have z938 := E937.1
        have lt_b937 := own_lt A937.lt
        have V_b937 : own_AV Z h937 b937 .int (3 : Int32) (fun _ => (.int (0 : Int32))) := own_AV.new A937 (by decide)
        refine own_go (fun _ k => st937 _ k) ?_
        show own_Go _ _ _ _ T937 (mkF m 90 #[.val (.int p_1), .val (.int p_2), .val (.int p_3), .val (.int p_4), .val (.int v2), .val (.int v4), .val (.int v6), .val (.int v8), .val (.ref b751), .val (.ref b757), .unset, .unset] [(.ref b937)])
        refine own_go (fun _ k => XS.dup X937.here hx rfl (hb hby at_90) rfl rfl k) ?_
        show own_Go _ _ _ _ T937 (mkF m 91 #[.val (.int p_1), .val (.int p_2), .val (.int p_3), .val (.int p_4), .val (.int v2), .val (.int v4), .val (.int v6), .val (.int v8), .val (.ref b751), .val (.ref b757), .unset, .unset] [(.ref b937), (.ref b937)])
        refine own_go (fun _ k => XS.iconst X937.here hx rfl (hb hby at_91) k) ?_
        show own_Go _ _ _ _ T937 (mkF m 92 #[.val (.int p_1), .val (.int p_2), .val (.int p_3), .val (.int p_4), .val (.int v2), .val (.int v4), .val (.int v6), .val (.int v8), .val (.ref b751), .val (.ref b757), .unset, .unset] [(.int (0 : Int32)), (.ref b937), (.ref b937)])
        refine own_go (fun _ k => XS.iload X937.here hx rfl (hb hby at_92) rfl k) ?_
        show own_Go _ _ _ _ T937 (mkF m 94 #[.val (.int p_1), .val (.int p_2), .val (.int p_3), .val (.int p_4), .val (.int v2), .val (.int v4), .val (.int v6), .val (.int v8), .val (.ref b751), .val (.ref b757), .unset, .unset] [(.int v4), (.int (0 : Int32)), (.ref b937), (.ref b937)])
        obtain ⟨q939, c939, R939, s939, t939⟩ := id V_b937
        have hin939 : ¬ ((0 : Int32) < 0 ∨ c939.slots.size ≤ ((0 : Int32)).toNatClampNeg) := inb_of s939 ⟨by decide, by decide⟩
        obtain ⟨T940, h940, X940, e940, W940, st940⟩ := stI X937 hx hZ e937 R939 (j := (0 : Int32)) hin939 (g := (mkF m 94 #[.val (.int p_1), .val (.int p_2), .val (.int p_3), .val (.int p_4), .val (.int v2), .val (.int v4), .val (.int v6), .val (.int v8), .val (.ref b751), .val (.ref b757), .unset, .unset] [(.int v4), (.int (0 : Int32)), (.ref b937), (.ref b937)])) rfl rfl (hb hby at_94)
        have V940 : own_AV Z h940 b937 .int (3 : Int32) (own_upd (fun _ => (.int (0 : Int32))) 0 (.int v4)) := own_AV.set (k := 0) V_b937 W940 (by decide)
        have z941 := W940.size
        have N940 := Fr.snoc X940 N754 (by omega : n0 ≤ b937)
        refine own_go (fun _ k => st940 _ k) ?_
        show own_Go _ _ _ _ T940 (mkF m 95 #[.val (.int p_1), .val (.int p_2), .val (.int p_3), .val (.int p_4), .val (.int v2), .val (.int v4), .val (.int v6), .val (.int v8), .val (.ref b751), .val (.ref b757), .unset, .unset] [(.ref b937)])
        refine own_go (fun _ k => XS.dup X940.here hx rfl (hb hby at_95) rfl rfl k) ?_
        show own_Go _ _ _ _ T940 (mkF m 96 #[.val (.int p_1), .val (.int p_2), .val (.int p_3), .val (.int p_4), .val (.int v2), .val (.int v4), .val (.int v6), .val (.int v8), .val (.ref b751), .val (.ref b757), .unset, .unset] [(.ref b937), (.ref b937)])
        refine own_go (fun _ k => XS.iconst X940.here hx rfl (hb hby at_96) k) ?_
        show own_Go _ _ _ _ T940 (mkF m 97 #[.val (.int p_1), .val (.int p_2), .val (.int p_3), .val (.int p_4), .val (.int v2), .val (.int v4), .val (.int v6), .val (.int v8), .val (.ref b751), .val (.ref b757), .unset, .unset] [(.int (1 : Int32)), (.ref b937), (.ref b937)])
        refine own_go (fun _ k => XS.iload X940.here hx rfl (hb hby at_97) rfl k) ?_
        show own_Go _ _ _ _ T940 (mkF m 99 #[.val (.int p_1), .val (.int p_2), .val (.int p_3), .val (.int p_4), .val (.int v2), .val (.int v4), .val (.int v6), .val (.int v8), .val (.ref b751), .val (.ref b757), .unset, .unset] [(.int v8), (.int (1 : Int32)), (.ref b937), (.ref b937)])
        obtain ⟨q942, c942, R942, s942, t942⟩ := id V940
        have hin942 : ¬ ((1 : Int32) < 0 ∨ c942.slots.size ≤ ((1 : Int32)).toNatClampNeg) := inb_of s942 ⟨by decide, by decide⟩
        obtain ⟨T943, h943, X943, e943, W943, st943⟩ := stI X940 hx hZ e940 R942 (j := (1 : Int32)) hin942 (g := (mkF m 99 #[.val (.int p_1), .val (.int p_2), .val (.int p_3), .val (.int p_4), .val (.int v2), .val (.int v4), .val (.int v6), .val (.int v8), .val (.ref b751), .val (.ref b757), .unset, .unset] [(.int v8), (.int (1 : Int32)), (.ref b937), (.ref b937)])) rfl rfl (hb hby at_99)
        have V943 : own_AV Z h943 b937 .int (3 : Int32) (own_upd (own_upd (fun _ => (.int (0 : Int32))) 0 (.int v4)) 1 (.int v8)) := own_AV.set (k := 1) V940 W943 (by decide)
        have z944 := W943.size
        have N943 := Fr.snoc X943 N940 (by omega : n0 ≤ b937)
        refine own_go (fun _ k => st943 _ k) ?_
        show own_Go _ _ _ _ T943 (mkF m 100 #[.val (.int p_1), .val (.int p_2), .val (.int p_3), .val (.int p_4), .val (.int v2), .val (.int v4), .val (.int v6), .val (.int v8), .val (.ref b751), .val (.ref b757), .unset, .unset] [(.ref b937)])
        refine own_go (fun _ k => XS.dup X943.here hx rfl (hb hby at_100) rfl rfl k) ?_
        show own_Go _ _ _ _ T943 (mkF m 101 #[.val (.int p_1), .val (.int p_2), .val (.int p_3), .val (.int p_4), .val (.int v2), .val (.int v4), .val (.int v6), .val (.int v8), .val (.ref b751), .val (.ref b757), .unset, .unset] [(.ref b937), (.ref b937)])
        refine own_go (fun _ k => XS.iconst X943.here hx rfl (hb hby at_101) k) ?_
        show own_Go _ _ _ _ T943 (mkF m 102 #[.val (.int p_1), .val (.int p_2), .val (.int p_3), .val (.int p_4), .val (.int v2), .val (.int v4), .val (.int v6), .val (.int v8), .val (.ref b751), .val (.ref b757), .unset, .unset] [(.int (2 : Int32)), (.ref b937), (.ref b937)])
        refine own_go (fun _ k => XS.iload X943.here hx rfl (hb hby at_102) rfl k) ?_
        show own_Go _ _ _ _ T943 (mkF m 104 #[.val (.int p_1), .val (.int p_2), .val (.int p_3), .val (.int p_4), .val (.int v2), .val (.int v4), .val (.int v6), .val (.int v8), .val (.ref b751), .val (.ref b757), .unset, .unset] [(.int v2), (.int (2 : Int32)), (.ref b937), (.ref b937)])
        obtain ⟨q945, c945, R945, s945, t945⟩ := id V943
        have hin945 : ¬ ((2 : Int32) < 0 ∨ c945.slots.size ≤ ((2 : Int32)).toNatClampNeg) := inb_of s945 ⟨by decide, by decide⟩
        obtain ⟨T946, h946, X946, e946, W946, st946⟩ := stI X943 hx hZ e943 R945 (j := (2 : Int32)) hin945 (g := (mkF m 104 #[.val (.int p_1), .val (.int p_2), .val (.int p_3), .val (.int p_4), .val (.int v2), .val (.int v4), .val (.int v6), .val (.int v8), .val (.ref b751), .val (.ref b757), .unset, .unset] [(.int v2), (.int (2 : Int32)), (.ref b937), (.ref b937)])) rfl rfl (hb hby at_104)
        have V946 : own_AV Z h946 b937 .int (3 : Int32) (own_upd (own_upd (own_upd (fun _ => (.int (0 : Int32))) 0 (.int v4)) 1 (.int v8)) 2 (.int v2)) := own_AV.set (k := 2) V943 W946 (by decide)
        have z947 := W946.size
        have N946 := Fr.snoc X946 N943 (by omega : n0 ≤ b937)
        refine own_go (fun _ k => st946 _ k) ?_
        show own_Go _ _ _ _ T946 (mkF m 105 #[.val (.int p_1), .val (.int p_2), .val (.int p_3), .val (.int p_4), .val (.int v2), .val (.int v4), .val (.int v6), .val (.int v8), .val (.ref b751), .val (.ref b757), .unset, .unset] [(.ref b937)])
        refine own_go (fun _ k => XS.goto X946.here hx rfl (pc0 := 105) (pc' := 111) rfl (hb hby at_105) (by decide) (by decide) k) ?_
        show own_Go _ _ _ _ T946 (mkF m 111 #[.val (.int p_1), .val (.int p_2), .val (.int p_3), .val (.int p_4), .val (.int v2), .val (.int v4), .val (.int v6), .val (.int v8), .val (.ref b751), .val (.ref b757), .unset, .unset] [(.ref b937)])
        refine own_go (fun _ k => XS.astore X946.here hx rfl (hb hby at_111) rfl rfl (l' := #[.val (.int p_1), .val (.int p_2), .val (.int p_3), .val (.int p_4), .val (.int v2), .val (.int v4), .val (.int v6), .val (.int v8), .val (.ref b751), .val (.ref b757), .val (.ref b937), .unset]) rfl k) ?_
        show own_Go _ _ _ _ T946 (mkF m 113 #[.val (.int p_1), .val (.int p_2), .val (.int p_3), .val (.int p_4), .val (.int v2), .val (.int v4), .val (.int v6), .val (.int v8), .val (.ref b751), .val (.ref b757), .val (.ref b937), .unset] [])
        obtain ⟨T948, h948, X948, e948, E948, A948, D948, Y948, st948⟩ := newO X946 hx hZ hown (hw _ (List.mem_of_getElem? (i := 2) rfl)) (hw _ (List.mem_of_getElem? (i := 3) rfl)) (hw _ (List.mem_of_getElem? (i := 4) rfl)) e946 (g := (mkF m 113 #[.val (.int p_1), .val (.int p_2), .val (.int p_3), .val (.int p_4), .val (.int v2), .val (.int v4), .val (.int v6), .val (.int v8), .val (.ref b751), .val (.ref b757), .val (.ref b937), .unset] [])) rfl (hb hby at_113) (by decide) (by decide)
        obtain ⟨b948, g948⟩ : ∃ z, z = h946.size := ⟨_, rfl⟩
        rw [← g948] at A948 D948 Y948 st948
        have z949 := E948.1
        have lt_b948 := own_lt A948.lt
        have F_heads_b948 : Fld Z h948 b948 "com/example/kalchas/kalchas/propositional/HornClauses" "heads" "[I" .null := D948 (Or.inl (hw _ (List.mem_of_getElem? (i := 12) rfl))) (ty := (.array .int)) (by decide)
        have F_bodyStarts_b948 : Fld Z h948 b948 "com/example/kalchas/kalchas/propositional/HornClauses" "bodyStarts" "[I" .null := D948 (Or.inl (hw _ (List.mem_of_getElem? (i := 14) rfl))) (ty := (.array .int)) (by decide)
        have F_bodies_b948 : Fld Z h948 b948 "com/example/kalchas/kalchas/propositional/HornClauses" "bodies" "[I" .null := D948 (Or.inl (hw _ (List.mem_of_getElem? (i := 16) rfl))) (ty := (.array .int)) (by decide)
        have F_occurrences_b948 : Fld Z h948 b948 "com/example/kalchas/kalchas/propositional/HornClauses" "occurrences" "[I" .null := D948 (Or.inl (hw _ (List.mem_of_getElem? (i := 23) rfl))) (ty := (.array .int)) (by decide)
        have F_variableCount_b948 : Fld Z h948 b948 "com/example/kalchas/kalchas/propositional/HornClauses" "variableCount" "I" (.int (0 : Int32)) := D948 (Or.inl (hw _ (List.mem_of_getElem? (i := 25) rfl))) (ty := .int) (by decide)
        have F_clauseCount_b948 : Fld Z h948 b948 "com/example/kalchas/kalchas/propositional/HornClauses" "clauseCount" "I" (.int (0 : Int32)) := D948 (Or.inl (hw _ (List.mem_of_getElem? (i := 48) rfl))) (ty := .int) (by decide)
        refine own_go (fun _ k => st948 _ k) ?_
        show own_Go _ _ _ _ T948 (mkF m 116 #[.val (.int p_1), .val (.int p_2), .val (.int p_3), .val (.int p_4), .val (.int v2), .val (.int v4), .val (.int v6), .val (.int v8), .val (.ref b751), .val (.ref b757), .val (.ref b937), .unset] [(.ref b948)])
        refine own_go (fun _ k => XS.dup X948.here hx rfl (hb hby at_116) rfl rfl k) ?_
        show own_Go _ _ _ _ T948 (mkF m 117 #[.val (.int p_1), .val (.int p_2), .val (.int p_3), .val (.int p_4), .val (.int v2), .val (.int v4), .val (.int v6), .val (.int v8), .val (.ref b751), .val (.ref b757), .val (.ref b937), .unset] [(.ref b948), (.ref b948)])
        obtain ⟨_, _, ⟨T950, L950, k950, n950⟩, -, X950, ⟨Lc950, hQ950, l950, y950, z950⟩, st950⟩ := X948.specialBack hx (y := (⟨"com/example/kalchas/kalchas/propositional/HornClauses", "<init>", "()V"⟩ : MethodName)) rfl hown (mvT hZ (hw _ (List.mem_of_getElem? (i := 5) rfl))) (mvT hZ (hw _ (List.mem_of_getElem? (i := 6) rfl))) (mvT hZ (hw _ (List.mem_of_getElem? (i := 7) rfl))) (by decide) (backOf (W := 1) (own_rm1 l Z a0 hw [] b948 .null .null .null .null (0 : Int32) (0 : Int32) h948 n0 (by omega) A948 F_heads_b948 F_bodyStarts_b948 F_bodies_b948 F_occurrences_b948 F_variableCount_b948 F_clauseCount_b948 (by omega)) hZ (hw _ (List.mem_of_getElem? (i := 7) rfl)) (hw _ (List.mem_of_getElem? (i := 4) rfl)) (by decide) (by decide)) (g := (mkF m 117 #[.val (.int p_1), .val (.int p_2), .val (.int p_3), .val (.int p_4), .val (.int v2), .val (.int v4), .val (.int v6), .val (.int v8), .val (.ref b751), .val (.ref b757), .val (.ref b937), .unset] [(.ref b948), (.ref b948)])) rfl (by rw [hml]; rfl) (Steps.refl _) (a := b948) (argsL := []) (rest := [(.ref b948)]) (lenOf own_pd2 rfl) rfl (by show 2 * 0 + _ ≤ _; exact Nat.le_of_eq rfl) (hb hby at_117) (fun _ _ => ⟨rfl, e948, (by decide : 4 + 3 ≤ _), (by decide : 13 + 193 ≤ _)⟩)
        dsimp only [Pt.U, Pt.locs, Pt.cells, Pt.slots] at X950 l950 y950 z950 st950 hQ950
        have y950 : k950 = 7 := y950
        have z950 : n950 = 206 := z950
        obtain ⟨x_951, x_952, x_953, rfl, N950q, K950q, f954, f955, f956, f957, f958, f959, f960, f961, f962, f963, f964, f965, f966, f967⟩ := hQ950
        have N950 : Fr n0 L950 := by rw [l950]; exact Fr.app N946 N950q
        have z968 := K950q.1
        have z969 := own_lt f954.lt
        have z970 := own_lt f955.lt
        have z971 := own_lt f956.lt
        have z972 := own_lt f957.lt
        have z973 := own_lt f958.lt
        have z974 := own_lt f959.lt
        have z975 := own_lt f960.lt
        have z976 := own_lt f961.lt
        have z977 := own_lt f962.lt
        have z978 := own_lt f963.lt
        simp only [own_lts, and_true] at f967
        refine own_go (fun _ k => st950.trans k) ?_
        show own_Go _ _ _ _ T950 (mkF m 120 #[.val (.int p_1), .val (.int p_2), .val (.int p_3), .val (.int p_4), .val (.int v2), .val (.int v4), .val (.int v6), .val (.int v8), .val (.ref b751), .val (.ref b757), .val (.ref b937), .unset] [(.ref b948)])
        refine own_go (fun _ k => XS.astore X950.here hx rfl (hb hby at_120) rfl rfl (l' := #[.val (.int p_1), .val (.int p_2), .val (.int p_3), .val (.int p_4), .val (.int v2), .val (.int v4), .val (.int v6), .val (.int v8), .val (.ref b751), .val (.ref b757), .val (.ref b937), .val (.ref b948)]) rfl k) ?_
        show own_Go _ _ _ _ T950 (mkF m 122 #[.val (.int p_1), .val (.int p_2), .val (.int p_3), .val (.int p_4), .val (.int v2), .val (.int v4), .val (.int v6), .val (.int v8), .val (.ref b751), .val (.ref b757), .val (.ref b937), .val (.ref b948)] [])
        refine own_go (fun _ k => XS.aload X950.here hx rfl (hb hby at_122) rfl rfl k) ?_
        show own_Go _ _ _ _ T950 (mkF m 124 #[.val (.int p_1), .val (.int p_2), .val (.int p_3), .val (.int p_4), .val (.int v2), .val (.int v4), .val (.int v6), .val (.int v8), .val (.ref b751), .val (.ref b757), .val (.ref b937), .val (.ref b948)] [(.ref b948)])
        obtain ⟨cq979, kq979, q979a, q979b, q979c⟩ := isOf hZ rfl f954
        obtain ⟨_, _, ⟨T979, L979, k979, n979⟩, -, X979, ⟨Lc979, hQ979, l979, y979, z979⟩, st979⟩ := X950.virtualBack hx (y := (⟨"com/example/kalchas/kalchas/propositional/HornClauses", "newVariable", "()I"⟩ : MethodName)) (z := (⟨"com/example/kalchas/kalchas/propositional/HornClauses", "newVariable", "()I"⟩ : MethodName)) hown (mvT hZ (hw _ (List.mem_of_getElem? (i := 17) rfl))) (mvT hZ (hw _ (List.mem_of_getElem? (i := 18) rfl))) (notFace_of_selects (args := #[]) (mvT hZ (hw _ (List.mem_of_getElem? (i := 20) rfl)))) (mvT hZ (hw _ (List.mem_of_getElem? (i := 20) rfl))) (mvT hZ (hw _ (List.mem_of_getElem? (i := 19) rfl))) (by decide) (backOf (W := 0) (own_rm3 l Z a0 hw [] b948 (.ref x_951) (.ref x_952) (.ref x_953) .null (0 : Int32) (0 : Int32) T950.heap n0 (by omega) f954 f955 f956 f957 f958 f959 f960 (by omega)) hZ (hw _ (List.mem_of_getElem? (i := 21) rfl)) (hw _ (List.mem_of_getElem? (i := 4) rfl)) (by decide) (by decide)) q979a q979c (g := (mkF m 124 #[.val (.int p_1), .val (.int p_2), .val (.int p_3), .val (.int p_4), .val (.int v2), .val (.int v4), .val (.int v6), .val (.int v8), .val (.ref b751), .val (.ref b757), .val (.ref b937), .val (.ref b948)] [(.ref b948)])) rfl (by rw [hml]; rfl) (Steps.refl _) (argsL := []) (rest := []) (lenOf own_pd3 rfl) rfl (by show 2 * 0 + _ ≤ _; exact Nat.le_of_eq rfl) (hb hby at_124) (fun _ _ => ⟨rfl, rfl, (by show k950 + _ ≤ _; rw [y950]; decide), (by show n950 + _ ≤ _; rw [z950]; decide)⟩)
        dsimp only [Pt.U, Pt.locs, Pt.cells, Pt.slots] at X979 l979 y979 z979 st979 hQ979
        have y979 : k979 = 7 := own_addeq y979 (congrArg (fun q => q) y950) rfl
        have z979 : n979 = 206 := own_addeq z979 (congrArg (fun q => q) z950) rfl
        obtain ⟨rfl, N979q, K979q, f980, f981, f982, f983, f984, f985, f986⟩ := hQ979
        have N979 : Fr n0 L979 := by rw [l979]; exact Fr.app N950 N979q
        have z987 := K979q.1
        have z988 := own_lt f980.lt
        have z989 := own_lt f981.lt
        have z990 := own_lt f982.lt
        have z991 := own_lt f983.lt
        have z992 := own_lt f984.lt
        have f985 : Fld Z T979.heap b948 "com/example/kalchas/kalchas/propositional/HornClauses" "variableCount" "I" (.int (1 : Int32)) := f985
        have z993 := own_lt f985.lt
        have z994 := own_lt f986.lt
        refine own_go (fun _ k => st979.trans k) ?_
        show own_Go _ _ _ _ T979 (mkF m 127 #[.val (.int p_1), .val (.int p_2), .val (.int p_3), .val (.int p_4), .val (.int v2), .val (.int v4), .val (.int v6), .val (.int v8), .val (.ref b751), .val (.ref b757), .val (.ref b937), .val (.ref b948)] [(.int (0 : Int32))])
        refine own_go (fun _ k => XS.pop X979.here hx rfl (hb hby at_127) rfl rfl k) ?_
        show own_Go _ _ _ _ T979 (mkF m 128 #[.val (.int p_1), .val (.int p_2), .val (.int p_3), .val (.int p_4), .val (.int v2), .val (.int v4), .val (.int v6), .val (.int v8), .val (.ref b751), .val (.ref b757), .val (.ref b937), .val (.ref b948)] [])
        refine own_go (fun _ k => XS.aload X979.here hx rfl (hb hby at_128) rfl rfl k) ?_
        show own_Go _ _ _ _ T979 (mkF m 130 #[.val (.int p_1), .val (.int p_2), .val (.int p_3), .val (.int p_4), .val (.int v2), .val (.int v4), .val (.int v6), .val (.int v8), .val (.ref b751), .val (.ref b757), .val (.ref b937), .val (.ref b948)] [(.ref b948)])
        obtain ⟨cq995, kq995, q995a, q995b, q995c⟩ := isOf hZ rfl f980
        obtain ⟨_, _, ⟨T995, L995, k995, n995⟩, -, X995, ⟨Lc995, hQ995, l995, y995, z995⟩, st995⟩ := X979.virtualBack hx (y := (⟨"com/example/kalchas/kalchas/propositional/HornClauses", "newVariable", "()I"⟩ : MethodName)) (z := (⟨"com/example/kalchas/kalchas/propositional/HornClauses", "newVariable", "()I"⟩ : MethodName)) hown (mvT hZ (hw _ (List.mem_of_getElem? (i := 17) rfl))) (mvT hZ (hw _ (List.mem_of_getElem? (i := 18) rfl))) (notFace_of_selects (args := #[]) (mvT hZ (hw _ (List.mem_of_getElem? (i := 20) rfl)))) (mvT hZ (hw _ (List.mem_of_getElem? (i := 20) rfl))) (mvT hZ (hw _ (List.mem_of_getElem? (i := 19) rfl))) (by decide) (backOf (W := 0) (own_rm3 l Z a0 hw [] b948 (.ref x_951) (.ref x_952) (.ref x_953) .null (1 : Int32) (0 : Int32) T979.heap n0 (by omega) f980 f981 f982 f983 f984 f985 f986 (by omega)) hZ (hw _ (List.mem_of_getElem? (i := 21) rfl)) (hw _ (List.mem_of_getElem? (i := 4) rfl)) (by decide) (by decide)) q995a q995c (g := (mkF m 130 #[.val (.int p_1), .val (.int p_2), .val (.int p_3), .val (.int p_4), .val (.int v2), .val (.int v4), .val (.int v6), .val (.int v8), .val (.ref b751), .val (.ref b757), .val (.ref b937), .val (.ref b948)] [(.ref b948)])) rfl (by rw [hml]; rfl) (Steps.refl _) (argsL := []) (rest := []) (lenOf own_pd3 rfl) rfl (by show 2 * 0 + _ ≤ _; exact Nat.le_of_eq rfl) (hb hby at_130) (fun _ _ => ⟨rfl, rfl, (by show k979 + _ ≤ _; rw [y979]; decide), (by show n979 + _ ≤ _; rw [z979]; decide)⟩)
        dsimp only [Pt.U, Pt.locs, Pt.cells, Pt.slots] at X995 l995 y995 z995 st995 hQ995
        have y995 : k995 = 7 := own_addeq y995 (congrArg (fun q => q) y979) rfl
        have z995 : n995 = 206 := own_addeq z995 (congrArg (fun q => q) z979) rfl
        obtain ⟨rfl, N995q, K995q, f996, f997, f998, f999, f1000, f1001, f1002⟩ := hQ995
        have N995 : Fr n0 L995 := by rw [l995]; exact Fr.app N979 N995q
        have z1003 := K995q.1
        have z1004 := own_lt f996.lt
        have z1005 := own_lt f997.lt
        have z1006 := own_lt f998.lt
        have z1007 := own_lt f999.lt
        have z1008 := own_lt f1000.lt
        have f1001 : Fld Z T995.heap b948 "com/example/kalchas/kalchas/propositional/HornClauses" "variableCount" "I" (.int (2 : Int32)) := f1001
        have z1009 := own_lt f1001.lt
        have z1010 := own_lt f1002.lt
        refine own_go (fun _ k => st995.trans k) ?_
        show own_Go _ _ _ _ T995 (mkF m 133 #[.val (.int p_1), .val (.int p_2), .val (.int p_3), .val (.int p_4), .val (.int v2), .val (.int v4), .val (.int v6), .val (.int v8), .val (.ref b751), .val (.ref b757), .val (.ref b937), .val (.ref b948)] [(.int (1 : Int32))])
        refine own_go (fun _ k => XS.pop X995.here hx rfl (hb hby at_133) rfl rfl k) ?_
        show own_Go _ _ _ _ T995 (mkF m 134 #[.val (.int p_1), .val (.int p_2), .val (.int p_3), .val (.int p_4), .val (.int v2), .val (.int v4), .val (.int v6), .val (.int v8), .val (.ref b751), .val (.ref b757), .val (.ref b937), .val (.ref b948)] [])
        refine own_go (fun _ k => XS.aload X995.here hx rfl (hb hby at_134) rfl rfl k) ?_
        show own_Go _ _ _ _ T995 (mkF m 136 #[.val (.int p_1), .val (.int p_2), .val (.int p_3), .val (.int p_4), .val (.int v2), .val (.int v4), .val (.int v6), .val (.int v8), .val (.ref b751), .val (.ref b757), .val (.ref b937), .val (.ref b948)] [(.ref b948)])
        obtain ⟨cq1011, kq1011, q1011a, q1011b, q1011c⟩ := isOf hZ rfl f996
        obtain ⟨_, _, ⟨T1011, L1011, k1011, n1011⟩, -, X1011, ⟨Lc1011, hQ1011, l1011, y1011, z1011⟩, st1011⟩ := X995.virtualBack hx (y := (⟨"com/example/kalchas/kalchas/propositional/HornClauses", "newVariable", "()I"⟩ : MethodName)) (z := (⟨"com/example/kalchas/kalchas/propositional/HornClauses", "newVariable", "()I"⟩ : MethodName)) hown (mvT hZ (hw _ (List.mem_of_getElem? (i := 17) rfl))) (mvT hZ (hw _ (List.mem_of_getElem? (i := 18) rfl))) (notFace_of_selects (args := #[]) (mvT hZ (hw _ (List.mem_of_getElem? (i := 20) rfl)))) (mvT hZ (hw _ (List.mem_of_getElem? (i := 20) rfl))) (mvT hZ (hw _ (List.mem_of_getElem? (i := 19) rfl))) (by decide) (backOf (W := 0) (own_rm3 l Z a0 hw [] b948 (.ref x_951) (.ref x_952) (.ref x_953) .null (2 : Int32) (0 : Int32) T995.heap n0 (by omega) f996 f997 f998 f999 f1000 f1001 f1002 (by omega)) hZ (hw _ (List.mem_of_getElem? (i := 21) rfl)) (hw _ (List.mem_of_getElem? (i := 4) rfl)) (by decide) (by decide)) q1011a q1011c (g := (mkF m 136 #[.val (.int p_1), .val (.int p_2), .val (.int p_3), .val (.int p_4), .val (.int v2), .val (.int v4), .val (.int v6), .val (.int v8), .val (.ref b751), .val (.ref b757), .val (.ref b937), .val (.ref b948)] [(.ref b948)])) rfl (by rw [hml]; rfl) (Steps.refl _) (argsL := []) (rest := []) (lenOf own_pd3 rfl) rfl (by show 2 * 0 + _ ≤ _; exact Nat.le_of_eq rfl) (hb hby at_136) (fun _ _ => ⟨rfl, rfl, (by show k995 + _ ≤ _; rw [y995]; decide), (by show n995 + _ ≤ _; rw [z995]; decide)⟩)
        dsimp only [Pt.U, Pt.locs, Pt.cells, Pt.slots] at X1011 l1011 y1011 z1011 st1011 hQ1011
        have y1011 : k1011 = 7 := own_addeq y1011 (congrArg (fun q => q) y995) rfl
        have z1011 : n1011 = 206 := own_addeq z1011 (congrArg (fun q => q) z995) rfl
        obtain ⟨rfl, N1011q, K1011q, f1012, f1013, f1014, f1015, f1016, f1017, f1018⟩ := hQ1011
        have N1011 : Fr n0 L1011 := by rw [l1011]; exact Fr.app N995 N1011q
        have z1019 := K1011q.1
        have z1020 := own_lt f1012.lt
        have z1021 := own_lt f1013.lt
        have z1022 := own_lt f1014.lt
        have z1023 := own_lt f1015.lt
        have z1024 := own_lt f1016.lt
        have f1017 : Fld Z T1011.heap b948 "com/example/kalchas/kalchas/propositional/HornClauses" "variableCount" "I" (.int (3 : Int32)) := f1017
        have z1025 := own_lt f1017.lt
        have z1026 := own_lt f1018.lt
        refine own_go (fun _ k => st1011.trans k) ?_
        show own_Go _ _ _ _ T1011 (mkF m 139 #[.val (.int p_1), .val (.int p_2), .val (.int p_3), .val (.int p_4), .val (.int v2), .val (.int v4), .val (.int v6), .val (.int v8), .val (.ref b751), .val (.ref b757), .val (.ref b937), .val (.ref b948)] [(.int (2 : Int32))])
        refine own_go (fun _ k => XS.pop X1011.here hx rfl (hb hby at_139) rfl rfl k) ?_
        show own_Go _ _ _ _ T1011 (mkF m 140 #[.val (.int p_1), .val (.int p_2), .val (.int p_3), .val (.int p_4), .val (.int v2), .val (.int v4), .val (.int v6), .val (.int v8), .val (.ref b751), .val (.ref b757), .val (.ref b937), .val (.ref b948)] [])
        refine own_go (fun _ k => XS.aload X1011.here hx rfl (hb hby at_140) rfl rfl k) ?_
        show own_Go _ _ _ _ T1011 (mkF m 142 #[.val (.int p_1), .val (.int p_2), .val (.int p_3), .val (.int p_4), .val (.int v2), .val (.int v4), .val (.int v6), .val (.int v8), .val (.ref b751), .val (.ref b757), .val (.ref b937), .val (.ref b948)] [(.ref b948)])
        refine own_go (fun _ k => XS.iload X1011.here hx rfl (hb hby at_142) rfl k) ?_
        show own_Go _ _ _ _ T1011 (mkF m 144 #[.val (.int p_1), .val (.int p_2), .val (.int p_3), .val (.int p_4), .val (.int v2), .val (.int v4), .val (.int v6), .val (.int v8), .val (.ref b751), .val (.ref b757), .val (.ref b937), .val (.ref b948)] [(.int v2), (.ref b948)])
        refine own_go (fun _ k => XS.aload X1011.here hx rfl (hb hby at_144) rfl rfl k) ?_
        show own_Go _ _ _ _ T1011 (mkF m 146 #[.val (.int p_1), .val (.int p_2), .val (.int p_3), .val (.int p_4), .val (.int v2), .val (.int v4), .val (.int v6), .val (.int v8), .val (.ref b751), .val (.ref b757), .val (.ref b937), .val (.ref b948)] [(.ref b751), (.int v2), (.ref b948)])
        have f1027 : own_AV Z T1011.heap x_951 .int (64 : Int32) (fun _ => (.int (0 : Int32))) := (((f961.keep K979q (ninS (own_ne (by omega)) nin0)).keep K995q (ninS (own_ne (by omega)) nin0)).keep K1011q (ninS (own_ne (by omega)) nin0))
        have f1028 : own_AV Z T1011.heap x_952 .int (65 : Int32) (fun _ => (.int (0 : Int32))) := (((f962.keep K979q (ninS (own_ne (by omega)) nin0)).keep K995q (ninS (own_ne (by omega)) nin0)).keep K1011q (ninS (own_ne (by omega)) nin0))
        have f1029 : own_AV Z T1011.heap x_953 .int (64 : Int32) (fun _ => (.int (0 : Int32))) := (((f963.keep K979q (ninS (own_ne (by omega)) nin0)).keep K995q (ninS (own_ne (by omega)) nin0)).keep K1011q (ninS (own_ne (by omega)) nin0))
        have f1030 : own_AV Z T1011.heap b751 .int (1 : Int32) (own_upd (fun _ => (.int (0 : Int32))) 0 (.int v8)) := ((((((((((V754.ext E757).ext E937).other W940 (own_ne (by omega))).other W943 (own_ne (by omega))).other W946 (own_ne (by omega))).ext E948).keep K950q (ninS (own_ne (by omega)) nin0)).keep K979q (ninS (own_ne (by omega)) nin0)).keep K995q (ninS (own_ne (by omega)) nin0)).keep K1011q (ninS (own_ne (by omega)) nin0))
        obtain ⟨cq1031, kq1031, q1031a, q1031b, q1031c⟩ := isOf hZ rfl f1012
        obtain ⟨_, _, ⟨T1031, L1031, k1031, n1031⟩, -, X1031, hS1031, gr1031, ⟨Lc1031, hQ1031, l1031, y1031, z1031⟩, st1031⟩ := X1011.virtualBackS hx (y := (⟨"com/example/kalchas/kalchas/propositional/HornClauses", "add", "(I[I)V"⟩ : MethodName)) (z := (⟨"com/example/kalchas/kalchas/propositional/HornClauses", "add", "(I[I)V"⟩ : MethodName)) hown (mvT hZ (hw _ (List.mem_of_getElem? (i := 26) rfl))) (mvT hZ (hw _ (List.mem_of_getElem? (i := 27) rfl))) (notFace_of_selects (args := #[]) (mvT hZ (hw _ (List.mem_of_getElem? (i := 29) rfl)))) (mvT hZ (hw _ (List.mem_of_getElem? (i := 29) rfl))) (mvT hZ (hw _ (List.mem_of_getElem? (i := 28) rfl))) (by decide) (backOfS (W := 0) (own_rm4_01 l Z a0 hw [] b948 v2 b751 x_951 x_952 x_953 (fun _ => (.int (0 : Int32))) (fun _ => (.int (0 : Int32))) (fun _ => (.int (0 : Int32))) (0 : Int32) .null v8 T1011.heap n0 (by omega) f1012 f1017 f1018 f1013 f1014 f1015 f1016 f1027 f1028 f1029 f1030 (by simp only [own_lts, and_true]; omega) rfl (by decide) (fun _ => rfl) (show ¬ (v2 < 0) by first | assumption | omega | decide) (show v2 < (3 : Int32) by first | assumption | omega | decide) (show ¬ (v8 < 0) by first | assumption | omega | decide) (show v8 < (3 : Int32) by first | assumption | omega | decide) (by omega) (by omega) (by omega) (by omega)) hZ (hw _ (List.mem_of_getElem? (i := 30) rfl)) (hw _ (List.mem_of_getElem? (i := 4) rfl)) (by decide) (by decide)) q1031a q1031c (g := (mkF m 146 #[.val (.int p_1), .val (.int p_2), .val (.int p_3), .val (.int p_4), .val (.int v2), .val (.int v4), .val (.int v6), .val (.int v8), .val (.ref b751), .val (.ref b757), .val (.ref b937), .val (.ref b948)] [(.ref b751), (.int v2), (.ref b948)])) rfl (by rw [hml]; rfl) (Steps.refl _) (argsL := [(.int v2), (.ref b751)]) (rest := []) (lenOf own_pd4 rfl) rfl (by show 2 * 0 + _ ≤ _; exact Nat.le_of_eq rfl) (hb hby at_146) (fun _ _ => ⟨rfl, rfl, (by show k1011 + _ ≤ _; rw [y1011]; decide), (by show n1011 + _ ≤ _; rw [z1011]; decide)⟩)
        dsimp only [Pt.U, Pt.locs, Pt.cells, Pt.slots] at X1031 l1031 y1031 z1031 st1031 hQ1031 hS1031 gr1031
        have y1031 : k1031 = 11 := own_addeq y1031 (congrArg (fun q => q) y1011) rfl
        have z1031 : n1031 = 278 := own_addeq z1031 (congrArg (fun q => q) z1011) rfl
        have Wn1031 := hS1031.1
        obtain ⟨X1031, hS1031, hZ, hown⟩ := rebS hS0 (n1 := T1011.heap.size) (by omega) X1031 hS1031 gr1031 hZ hown
        obtain ⟨gb_1032, rfl, N1031q, K1031q, f1033, f1034, f1035, f1036, f1037, f1038, f1039, f1040, f1041, f1042, f1043⟩ := hQ1031
        have N1031 : Fr n0 L1031 := by rw [l1031]; exact Fr.app N1011 N1031q
        have z1044 := K1031q.1
        have z1045 := own_lt f1033.lt
        have z1046 := own_lt f1034.lt
        have z1047 := own_lt f1035.lt
        have z1048 := own_lt f1036.lt
        have z1049 := own_lt f1037.lt
        have z1050 := own_lt f1038.lt
        have z1051 := own_lt f1039.lt
        have z1052 := own_lt f1040.lt
        have z1053 := own_lt f1041.lt
        have z1054 := own_lt f1042.lt
        refine own_go (fun _ k => st1031.trans k) ?_
        show own_Go _ _ _ _ T1031 (mkF m 149 #[.val (.int p_1), .val (.int p_2), .val (.int p_3), .val (.int p_4), .val (.int v2), .val (.int v4), .val (.int v6), .val (.int v8), .val (.ref b751), .val (.ref b757), .val (.ref b937), .val (.ref b948)] [])
        refine own_go (fun _ k => XS.aload X1031.here hx rfl (hb hby at_149) rfl rfl k) ?_
        show own_Go _ _ _ _ T1031 (mkF m 151 #[.val (.int p_1), .val (.int p_2), .val (.int p_3), .val (.int p_4), .val (.int v2), .val (.int v4), .val (.int v6), .val (.int v8), .val (.ref b751), .val (.ref b757), .val (.ref b937), .val (.ref b948)] [(.ref b948)])
        refine own_go (fun _ k => XS.iload X1031.here hx rfl (hb hby at_151) rfl k) ?_
        show own_Go _ _ _ _ T1031 (mkF m 153 #[.val (.int p_1), .val (.int p_2), .val (.int p_3), .val (.int p_4), .val (.int v2), .val (.int v4), .val (.int v6), .val (.int v8), .val (.ref b751), .val (.ref b757), .val (.ref b937), .val (.ref b948)] [(.int v4), (.ref b948)])
        refine own_go (fun _ k => XS.aload X1031.here hx rfl (hb hby at_153) rfl rfl k) ?_
        show own_Go _ _ _ _ T1031 (mkF m 155 #[.val (.int p_1), .val (.int p_2), .val (.int p_3), .val (.int p_4), .val (.int v2), .val (.int v4), .val (.int v6), .val (.int v8), .val (.ref b751), .val (.ref b757), .val (.ref b937), .val (.ref b948)] [(.ref b757), (.int v4), (.ref b948)])
        have f1055 : own_AV Z T1031.heap b757 .int (0 : Int32) (fun _ => (.int (0 : Int32))) := ((((((((((V_b757.ext E937).other W940 (own_ne (by omega))).other W943 (own_ne (by omega))).other W946 (own_ne (by omega))).ext E948).keep K950q (ninS (own_ne (by omega)) nin0)).keep K979q (ninS (own_ne (by omega)) nin0)).keep K995q (ninS (own_ne (by omega)) nin0)).keep K1011q (ninS (own_ne (by omega)) nin0)).keep K1031q (ninS (own_ne (by omega)) (ninS (own_ne (by omega)) (ninS (own_ne (by omega)) (ninS (own_ne (by omega)) nin0)))))
        obtain ⟨cq1056, kq1056, q1056a, q1056b, q1056c⟩ := isOf hZ rfl f1033
        obtain ⟨_, _, ⟨T1056, L1056, k1056, n1056⟩, -, X1056, hS1056, gr1056, ⟨Lc1056, hQ1056, l1056, y1056, z1056⟩, st1056⟩ := X1031.virtualBackS hx (y := (⟨"com/example/kalchas/kalchas/propositional/HornClauses", "add", "(I[I)V"⟩ : MethodName)) (z := (⟨"com/example/kalchas/kalchas/propositional/HornClauses", "add", "(I[I)V"⟩ : MethodName)) hown (mvT hZ (hw _ (List.mem_of_getElem? (i := 26) rfl))) (mvT hZ (hw _ (List.mem_of_getElem? (i := 27) rfl))) (notFace_of_selects (args := #[]) (mvT hZ (hw _ (List.mem_of_getElem? (i := 29) rfl)))) (mvT hZ (hw _ (List.mem_of_getElem? (i := 29) rfl))) (mvT hZ (hw _ (List.mem_of_getElem? (i := 28) rfl))) (by decide) (backOfS (W := 0) (own_rm4_10 l Z a0 hw [] b948 v4 b757 x_951 x_952 x_953 (own_upd (fun _ => (.int (0 : Int32))) 0 (.int v2)) (own_upd (fun _ => (.int (0 : Int32))) 1 (.int ((0 : Int32) + (1 : Int32)))) gb_1032 ((0 : Int32) + (1 : Int32)) .null T1031.heap n0 (by omega) f1033 f1034 f1035 f1036 f1037 f1038 f1039 f1040 f1041 f1042 f1055 (by simp only [own_lts, and_true]; omega) rfl (by decide) f1043 (show ¬ (v4 < 0) by first | assumption | omega | decide) (show v4 < (3 : Int32) by first | assumption | omega | decide) (by omega) (by omega) (by omega) (by omega)) hZ (hw _ (List.mem_of_getElem? (i := 30) rfl)) (hw _ (List.mem_of_getElem? (i := 4) rfl)) (by decide) (by decide)) q1056a q1056c (g := (mkF m 155 #[.val (.int p_1), .val (.int p_2), .val (.int p_3), .val (.int p_4), .val (.int v2), .val (.int v4), .val (.int v6), .val (.int v8), .val (.ref b751), .val (.ref b757), .val (.ref b937), .val (.ref b948)] [(.ref b757), (.int v4), (.ref b948)])) rfl (by rw [hml]; rfl) (Steps.refl _) (argsL := [(.int v4), (.ref b757)]) (rest := []) (lenOf own_pd4 rfl) rfl (by show 2 * 0 + _ ≤ _; exact Nat.le_of_eq rfl) (hb hby at_155) (fun _ _ => ⟨rfl, rfl, (by show k1031 + _ ≤ _; rw [y1031]; decide), (by show n1031 + _ ≤ _; rw [z1031]; decide)⟩)
        dsimp only [Pt.U, Pt.locs, Pt.cells, Pt.slots] at X1056 l1056 y1056 z1056 st1056 hQ1056 hS1056 gr1056
        have y1056 : k1056 = 13 := own_addeq y1056 (congrArg (fun q => q) y1031) rfl
        have z1056 : n1056 = 314 := own_addeq z1056 (congrArg (fun q => q) z1031) rfl
        have Wn1056 := hS1056.1
        obtain ⟨X1056, hS1056, hZ, hown⟩ := rebS hS1031 (n1 := T1031.heap.size) (by omega) X1056 hS1056 gr1056 hZ hown
        obtain ⟨gb_1057, rfl, N1056q, K1056q, f1058, f1059, f1060, f1061, f1062, f1063, f1064, f1065, f1066, f1067, f1068⟩ := hQ1056
        have N1056 : Fr n0 L1056 := by rw [l1056]; exact Fr.app N1031 N1056q
        have z1069 := K1056q.1
        have z1070 := own_lt f1058.lt
        have z1071 := own_lt f1059.lt
        have z1072 := own_lt f1060.lt
        have z1073 := own_lt f1061.lt
        have z1074 := own_lt f1062.lt
        have z1075 := own_lt f1063.lt
        have z1076 := own_lt f1064.lt
        have z1077 := own_lt f1065.lt
        have z1078 := own_lt f1066.lt
        have z1079 := own_lt f1067.lt
        refine own_go (fun _ k => st1056.trans k) ?_
        show own_Go _ _ _ _ T1056 (mkF m 158 #[.val (.int p_1), .val (.int p_2), .val (.int p_3), .val (.int p_4), .val (.int v2), .val (.int v4), .val (.int v6), .val (.int v8), .val (.ref b751), .val (.ref b757), .val (.ref b937), .val (.ref b948)] [])
        refine own_go (fun _ k => XS.aload X1056.here hx rfl (hb hby at_158) rfl rfl k) ?_
        show own_Go _ _ _ _ T1056 (mkF m 160 #[.val (.int p_1), .val (.int p_2), .val (.int p_3), .val (.int p_4), .val (.int v2), .val (.int v4), .val (.int v6), .val (.int v8), .val (.ref b751), .val (.ref b757), .val (.ref b937), .val (.ref b948)] [(.ref b948)])
        refine own_go (fun _ k => XS.iload X1056.here hx rfl (hb hby at_160) rfl k) ?_
        show own_Go _ _ _ _ T1056 (mkF m 162 #[.val (.int p_1), .val (.int p_2), .val (.int p_3), .val (.int p_4), .val (.int v2), .val (.int v4), .val (.int v6), .val (.int v8), .val (.ref b751), .val (.ref b757), .val (.ref b937), .val (.ref b948)] [(.int v6), (.ref b948)])
        refine own_go (fun _ k => XS.aload X1056.here hx rfl (hb hby at_162) rfl rfl k) ?_
        show own_Go _ _ _ _ T1056 (mkF m 164 #[.val (.int p_1), .val (.int p_2), .val (.int p_3), .val (.int p_4), .val (.int v2), .val (.int v4), .val (.int v6), .val (.int v8), .val (.ref b751), .val (.ref b757), .val (.ref b937), .val (.ref b948)] [(.ref b937), (.int v6), (.ref b948)])
        have f1080 : own_AV Z T1056.heap b937 .int (3 : Int32) (own_upd (own_upd (own_upd (fun _ => (.int (0 : Int32))) 0 (.int v4)) 1 (.int v8)) 2 (.int v2)) := (((((((V946.ext E948).keep K950q (ninS (own_ne (by omega)) nin0)).keep K979q (ninS (own_ne (by omega)) nin0)).keep K995q (ninS (own_ne (by omega)) nin0)).keep K1011q (ninS (own_ne (by omega)) nin0)).keep K1031q (ninS (own_ne (by omega)) (ninS (own_ne (by omega)) (ninS (own_ne (by omega)) (ninS (own_ne (by omega)) nin0))))).keep K1056q (ninS (own_ne (by omega)) (ninS (own_ne (by omega)) (ninS (own_ne (by omega)) (ninS (own_ne (by omega)) nin0)))))
        obtain ⟨cq1081, kq1081, q1081a, q1081b, q1081c⟩ := isOf hZ rfl f1058
        obtain ⟨_, _, ⟨T1081, L1081, k1081, n1081⟩, -, X1081, hS1081, gr1081, ⟨Lc1081, hQ1081, l1081, y1081, z1081⟩, st1081⟩ := X1056.virtualBackS hx (y := (⟨"com/example/kalchas/kalchas/propositional/HornClauses", "add", "(I[I)V"⟩ : MethodName)) (z := (⟨"com/example/kalchas/kalchas/propositional/HornClauses", "add", "(I[I)V"⟩ : MethodName)) hown (mvT hZ (hw _ (List.mem_of_getElem? (i := 26) rfl))) (mvT hZ (hw _ (List.mem_of_getElem? (i := 27) rfl))) (notFace_of_selects (args := #[]) (mvT hZ (hw _ (List.mem_of_getElem? (i := 29) rfl)))) (mvT hZ (hw _ (List.mem_of_getElem? (i := 29) rfl))) (mvT hZ (hw _ (List.mem_of_getElem? (i := 28) rfl))) (by decide) (backOfS (W := 0) (own_rm4_23 l Z a0 hw [] b948 v6 b937 x_951 x_952 x_953 (own_upd (own_upd (fun _ => (.int (0 : Int32))) 0 (.int v2)) 1 (.int v4)) (own_upd (own_upd (fun _ => (.int (0 : Int32))) 1 (.int ((0 : Int32) + (1 : Int32)))) 2 (.int (((0 : Int32) + (1 : Int32)) + (0 : Int32)))) gb_1057 (((0 : Int32) + (1 : Int32)) + (0 : Int32)) .null v4 v8 v2 T1056.heap n0 (by omega) f1058 f1059 f1060 f1061 f1062 f1063 f1064 f1065 f1066 f1067 f1080 (by simp only [own_lts, and_true]; omega) rfl (by decide) f1068 (show ¬ (v6 < 0) by first | assumption | omega | decide) (show v6 < (3 : Int32) by first | assumption | omega | decide) (show ¬ (v4 < 0) by first | assumption | omega | decide) (show v4 < (3 : Int32) by first | assumption | omega | decide) (show ¬ (v8 < 0) by first | assumption | omega | decide) (show v8 < (3 : Int32) by first | assumption | omega | decide) (show ¬ (v2 < 0) by first | assumption | omega | decide) (show v2 < (3 : Int32) by first | assumption | omega | decide) (by omega) (by omega) (by omega) (by omega)) hZ (hw _ (List.mem_of_getElem? (i := 30) rfl)) (hw _ (List.mem_of_getElem? (i := 4) rfl)) (by decide) (by decide)) q1081a q1081c (g := (mkF m 164 #[.val (.int p_1), .val (.int p_2), .val (.int p_3), .val (.int p_4), .val (.int v2), .val (.int v4), .val (.int v6), .val (.int v8), .val (.ref b751), .val (.ref b757), .val (.ref b937), .val (.ref b948)] [(.ref b937), (.int v6), (.ref b948)])) rfl (by rw [hml]; rfl) (Steps.refl _) (argsL := [(.int v6), (.ref b937)]) (rest := []) (lenOf own_pd4 rfl) rfl (by show 2 * 0 + _ ≤ _; exact Nat.le_of_eq rfl) (hb hby at_164) (fun _ _ => ⟨rfl, rfl, (by show k1056 + _ ≤ _; rw [y1056]; decide), (by show n1056 + _ ≤ _; rw [z1056]; decide)⟩)
        dsimp only [Pt.U, Pt.locs, Pt.cells, Pt.slots] at X1081 l1081 y1081 z1081 st1081 hQ1081 hS1081 gr1081
        have y1081 : k1081 = 21 := own_addeq y1081 (congrArg (fun q => q) y1056) rfl
        have z1081 : n1081 = 458 := own_addeq z1081 (congrArg (fun q => q) z1056) rfl
        have Wn1081 := hS1081.1
        obtain ⟨X1081, hS1081, hZ, hown⟩ := rebS hS1056 (n1 := T1056.heap.size) (by omega) X1081 hS1081 gr1081 hZ hown
        obtain ⟨gb_1082, rfl, N1081q, K1081q, f1083, f1084, f1085, f1086, f1087, f1088, f1089, f1090, f1091, f1092, f1093⟩ := hQ1081
        have N1081 : Fr n0 L1081 := by rw [l1081]; exact Fr.app N1056 N1081q
        have z1094 := K1081q.1
        have z1095 := own_lt f1083.lt
        have z1096 := own_lt f1084.lt
        have z1097 := own_lt f1085.lt
        have z1098 := own_lt f1086.lt
        have z1099 := own_lt f1087.lt
        have z1100 := own_lt f1088.lt
        have z1101 := own_lt f1089.lt
        have z1102 := own_lt f1090.lt
        have z1103 := own_lt f1091.lt
        have z1104 := own_lt f1092.lt
        refine own_go (fun _ k => st1081.trans k) ?_
        show own_Go _ _ _ _ T1081 (mkF m 167 #[.val (.int p_1), .val (.int p_2), .val (.int p_3), .val (.int p_4), .val (.int v2), .val (.int v4), .val (.int v6), .val (.int v8), .val (.ref b751), .val (.ref b757), .val (.ref b937), .val (.ref b948)] [])
        refine own_go (fun _ k => XS.aload X1081.here hx rfl (hb hby at_167) rfl rfl k) ?_
        show own_Go _ _ _ _ T1081 (mkF m 169 #[.val (.int p_1), .val (.int p_2), .val (.int p_3), .val (.int p_4), .val (.int v2), .val (.int v4), .val (.int v6), .val (.int v8), .val (.ref b751), .val (.ref b757), .val (.ref b937), .val (.ref b948)] [(.ref b948)])
        refine own_go (fun _ k => XS.iconst X1081.here hx rfl (hb hby at_169) k) ?_
        show own_Go _ _ _ _ T1081 (mkF m 170 #[.val (.int p_1), .val (.int p_2), .val (.int p_3), .val (.int p_4), .val (.int v2), .val (.int v4), .val (.int v6), .val (.int v8), .val (.ref b751), .val (.ref b757), .val (.ref b937), .val (.ref b948)] [(.int (0 : Int32)), (.ref b948)])
        obtain ⟨cq1105, kq1105, q1105a, q1105b, q1105c⟩ := isOf hZ rfl f1083
        obtain ⟨_, _, ⟨T1105, L1105, k1105, n1105⟩, -, X1105, hS1105, gr1105, ⟨Lc1105, hQ1105, l1105, y1105, z1105⟩, st1105⟩ := X1081.virtualBackS hx (y := (⟨"com/example/kalchas/kalchas/propositional/HornClauses", "head", "(I)I"⟩ : MethodName)) (z := (⟨"com/example/kalchas/kalchas/propositional/HornClauses", "head", "(I)I"⟩ : MethodName)) hown (mvT hZ (hw _ (List.mem_of_getElem? (i := 53) rfl))) (mvT hZ (hw _ (List.mem_of_getElem? (i := 54) rfl))) (notFace_of_selects (args := #[]) (mvT hZ (hw _ (List.mem_of_getElem? (i := 56) rfl)))) (mvT hZ (hw _ (List.mem_of_getElem? (i := 56) rfl))) (mvT hZ (hw _ (List.mem_of_getElem? (i := 55) rfl))) (by decide) (backOfS (W := 0) (own_rm7_0 l Z a0 hw [] b948 x_951 (own_upd (own_upd (own_upd (fun _ => (.int (0 : Int32))) 0 (.int v2)) 1 (.int v4)) 2 (.int v6)) v2 T1081.heap n0 (by omega) f1083 f1086 f1085 f1090 rfl) hZ (hw _ (List.mem_of_getElem? (i := 57) rfl)) (hw _ (List.mem_of_getElem? (i := 4) rfl)) (by decide) (by decide)) q1105a q1105c (g := (mkF m 170 #[.val (.int p_1), .val (.int p_2), .val (.int p_3), .val (.int p_4), .val (.int v2), .val (.int v4), .val (.int v6), .val (.int v8), .val (.ref b751), .val (.ref b757), .val (.ref b937), .val (.ref b948)] [(.int (0 : Int32)), (.ref b948)])) rfl (by rw [hml]; rfl) (Steps.refl _) (argsL := [(.int (0 : Int32))]) (rest := []) (lenOf own_pd5 rfl) rfl (by show 2 * 0 + _ ≤ _; exact Nat.le_of_eq rfl) (hb hby at_170) (fun _ _ => ⟨rfl, rfl, (by show k1081 + _ ≤ _; rw [y1081]; decide), (by show n1081 + _ ≤ _; rw [z1081]; decide)⟩)
        dsimp only [Pt.U, Pt.locs, Pt.cells, Pt.slots] at X1105 l1105 y1105 z1105 st1105 hQ1105 hS1105 gr1105
        have y1105 : k1105 = 23 := own_addeq y1105 (congrArg (fun q => q) y1081) rfl
        have z1105 : n1105 = 486 := own_addeq z1105 (congrArg (fun q => q) z1081) rfl
        have Wn1105 := hS1105.1
        obtain ⟨X1105, hS1105, hZ, hown⟩ := rebS hS1081 (n1 := T1081.heap.size) (by omega) X1105 hS1105 gr1105 hZ hown
        obtain ⟨rfl, N1105q, K1105q⟩ := hQ1105
        have N1105 : Fr n0 L1105 := by rw [l1105]; exact Fr.app N1081 N1105q
        have z1106 := K1105q.1
        refine own_go (fun _ k => st1105.trans k) ?_
        show own_Go _ _ _ _ T1105 (mkF m 173 #[.val (.int p_1), .val (.int p_2), .val (.int p_3), .val (.int p_4), .val (.int v2), .val (.int v4), .val (.int v6), .val (.int v8), .val (.ref b751), .val (.ref b757), .val (.ref b937), .val (.ref b948)] [(.int v2)])
        refine own_go (fun _ k => XS.iload X1105.here hx rfl (hb hby at_173) rfl k) ?_
        show own_Go _ _ _ _ T1105 (mkF m 175 #[.val (.int p_1), .val (.int p_2), .val (.int p_3), .val (.int p_4), .val (.int v2), .val (.int v4), .val (.int v6), .val (.int v8), .val (.ref b751), .val (.ref b757), .val (.ref b937), .val (.ref b948)] [(.int v2), (.int v2)])
        have hc1107 : v2 = v2 := rfl
        refine own_go (fun _ k => XS.icmpNo X1105.here hx rfl (hb hby at_175) rfl (Jvm.Free.XT.ii_ne_f hc1107) k) ?_
        show own_Go _ _ _ _ T1105 (mkF m 178 #[.val (.int p_1), .val (.int p_2), .val (.int p_3), .val (.int p_4), .val (.int v2), .val (.int v4), .val (.int v6), .val (.int v8), .val (.ref b751), .val (.ref b757), .val (.ref b937), .val (.ref b948)] [])
        refine own_go (fun _ k => XS.aload X1105.here hx rfl (hb hby at_178) rfl rfl k) ?_
        show own_Go _ _ _ _ T1105 (mkF m 180 #[.val (.int p_1), .val (.int p_2), .val (.int p_3), .val (.int p_4), .val (.int v2), .val (.int v4), .val (.int v6), .val (.int v8), .val (.ref b751), .val (.ref b757), .val (.ref b937), .val (.ref b948)] [(.ref b948)])
        refine own_go (fun _ k => XS.iconst X1105.here hx rfl (hb hby at_180) k) ?_
        show own_Go _ _ _ _ T1105 (mkF m 181 #[.val (.int p_1), .val (.int p_2), .val (.int p_3), .val (.int p_4), .val (.int v2), .val (.int v4), .val (.int v6), .val (.int v8), .val (.ref b751), .val (.ref b757), .val (.ref b937), .val (.ref b948)] [(.int (1 : Int32)), (.ref b948)])
        have f1108 : Exa Z T1105.heap b948 "com/example/kalchas/kalchas/propositional/HornClauses" := (f1083.keep K1105q)
        have f1109 : Fld Z T1105.heap b948 "com/example/kalchas/kalchas/propositional/HornClauses" "heads" "[I" (.ref x_951) := (f1086.keep K1105q nin0)
        have f1110 : Fld Z T1105.heap b948 "com/example/kalchas/kalchas/propositional/HornClauses" "clauseCount" "I" (.int (3 : Int32)) := (f1085.keep K1105q nin0)
        have f1111 : own_AV Z T1105.heap x_951 .int (64 : Int32) (own_upd (own_upd (own_upd (fun _ => (.int (0 : Int32))) 0 (.int v2)) 1 (.int v4)) 2 (.int v6)) := (f1090.keep K1105q nin0)
        obtain ⟨cq1112, kq1112, q1112a, q1112b, q1112c⟩ := isOf hZ rfl f1108
        obtain ⟨_, _, ⟨T1112, L1112, k1112, n1112⟩, -, X1112, hS1112, gr1112, ⟨Lc1112, hQ1112, l1112, y1112, z1112⟩, st1112⟩ := X1105.virtualBackS hx (y := (⟨"com/example/kalchas/kalchas/propositional/HornClauses", "head", "(I)I"⟩ : MethodName)) (z := (⟨"com/example/kalchas/kalchas/propositional/HornClauses", "head", "(I)I"⟩ : MethodName)) hown (mvT hZ (hw _ (List.mem_of_getElem? (i := 53) rfl))) (mvT hZ (hw _ (List.mem_of_getElem? (i := 54) rfl))) (notFace_of_selects (args := #[]) (mvT hZ (hw _ (List.mem_of_getElem? (i := 56) rfl)))) (mvT hZ (hw _ (List.mem_of_getElem? (i := 56) rfl))) (mvT hZ (hw _ (List.mem_of_getElem? (i := 55) rfl))) (by decide) (backOfS (W := 0) (own_rm7_1 l Z a0 hw [] b948 x_951 (own_upd (own_upd (own_upd (fun _ => (.int (0 : Int32))) 0 (.int v2)) 1 (.int v4)) 2 (.int v6)) v4 T1105.heap n0 (by omega) f1108 f1109 f1110 f1111 rfl) hZ (hw _ (List.mem_of_getElem? (i := 57) rfl)) (hw _ (List.mem_of_getElem? (i := 4) rfl)) (by decide) (by decide)) q1112a q1112c (g := (mkF m 181 #[.val (.int p_1), .val (.int p_2), .val (.int p_3), .val (.int p_4), .val (.int v2), .val (.int v4), .val (.int v6), .val (.int v8), .val (.ref b751), .val (.ref b757), .val (.ref b937), .val (.ref b948)] [(.int (1 : Int32)), (.ref b948)])) rfl (by rw [hml]; rfl) (Steps.refl _) (argsL := [(.int (1 : Int32))]) (rest := []) (lenOf own_pd5 rfl) rfl (by show 2 * 0 + _ ≤ _; exact Nat.le_of_eq rfl) (hb hby at_181) (fun _ _ => ⟨rfl, rfl, (by show k1105 + _ ≤ _; rw [y1105]; decide), (by show n1105 + _ ≤ _; rw [z1105]; decide)⟩)
        dsimp only [Pt.U, Pt.locs, Pt.cells, Pt.slots] at X1112 l1112 y1112 z1112 st1112 hQ1112 hS1112 gr1112
        have y1112 : k1112 = 25 := own_addeq y1112 (congrArg (fun q => q) y1105) rfl
        have z1112 : n1112 = 514 := own_addeq z1112 (congrArg (fun q => q) z1105) rfl
        have Wn1112 := hS1112.1
        obtain ⟨X1112, hS1112, hZ, hown⟩ := rebS hS1105 (n1 := T1105.heap.size) (by omega) X1112 hS1112 gr1112 hZ hown
        obtain ⟨rfl, N1112q, K1112q⟩ := hQ1112
        have N1112 : Fr n0 L1112 := by rw [l1112]; exact Fr.app N1105 N1112q
        have z1113 := K1112q.1
        refine own_go (fun _ k => st1112.trans k) ?_
        show own_Go _ _ _ _ T1112 (mkF m 184 #[.val (.int p_1), .val (.int p_2), .val (.int p_3), .val (.int p_4), .val (.int v2), .val (.int v4), .val (.int v6), .val (.int v8), .val (.ref b751), .val (.ref b757), .val (.ref b937), .val (.ref b948)] [(.int v4)])
        refine own_go (fun _ k => XS.iload X1112.here hx rfl (hb hby at_184) rfl k) ?_
        show own_Go _ _ _ _ T1112 (mkF m 186 #[.val (.int p_1), .val (.int p_2), .val (.int p_3), .val (.int p_4), .val (.int v2), .val (.int v4), .val (.int v6), .val (.int v8), .val (.ref b751), .val (.ref b757), .val (.ref b937), .val (.ref b948)] [(.int v4), (.int v4)])
        have hc1114 : v4 = v4 := rfl
        refine own_go (fun _ k => XS.icmpNo X1112.here hx rfl (hb hby at_186) rfl (Jvm.Free.XT.ii_ne_f hc1114) k) ?_
        show own_Go _ _ _ _ T1112 (mkF m 189 #[.val (.int p_1), .val (.int p_2), .val (.int p_3), .val (.int p_4), .val (.int v2), .val (.int v4), .val (.int v6), .val (.int v8), .val (.ref b751), .val (.ref b757), .val (.ref b937), .val (.ref b948)] [])
        refine own_go (fun _ k => XS.aload X1112.here hx rfl (hb hby at_189) rfl rfl k) ?_
        show own_Go _ _ _ _ T1112 (mkF m 191 #[.val (.int p_1), .val (.int p_2), .val (.int p_3), .val (.int p_4), .val (.int v2), .val (.int v4), .val (.int v6), .val (.int v8), .val (.ref b751), .val (.ref b757), .val (.ref b937), .val (.ref b948)] [(.ref b948)])
        refine own_go (fun _ k => XS.iconst X1112.here hx rfl (hb hby at_191) k) ?_
        show own_Go _ _ _ _ T1112 (mkF m 192 #[.val (.int p_1), .val (.int p_2), .val (.int p_3), .val (.int p_4), .val (.int v2), .val (.int v4), .val (.int v6), .val (.int v8), .val (.ref b751), .val (.ref b757), .val (.ref b937), .val (.ref b948)] [(.int (2 : Int32)), (.ref b948)])
        have f1115 : Exa Z T1112.heap b948 "com/example/kalchas/kalchas/propositional/HornClauses" := (f1108.keep K1112q)
        have f1116 : Fld Z T1112.heap b948 "com/example/kalchas/kalchas/propositional/HornClauses" "heads" "[I" (.ref x_951) := (f1109.keep K1112q nin0)
        have f1117 : Fld Z T1112.heap b948 "com/example/kalchas/kalchas/propositional/HornClauses" "clauseCount" "I" (.int (3 : Int32)) := (f1110.keep K1112q nin0)
        have f1118 : own_AV Z T1112.heap x_951 .int (64 : Int32) (own_upd (own_upd (own_upd (fun _ => (.int (0 : Int32))) 0 (.int v2)) 1 (.int v4)) 2 (.int v6)) := (f1111.keep K1112q nin0)
        obtain ⟨cq1119, kq1119, q1119a, q1119b, q1119c⟩ := isOf hZ rfl f1115
        obtain ⟨_, _, ⟨T1119, L1119, k1119, n1119⟩, -, X1119, hS1119, gr1119, ⟨Lc1119, hQ1119, l1119, y1119, z1119⟩, st1119⟩ := X1112.virtualBackS hx (y := (⟨"com/example/kalchas/kalchas/propositional/HornClauses", "head", "(I)I"⟩ : MethodName)) (z := (⟨"com/example/kalchas/kalchas/propositional/HornClauses", "head", "(I)I"⟩ : MethodName)) hown (mvT hZ (hw _ (List.mem_of_getElem? (i := 53) rfl))) (mvT hZ (hw _ (List.mem_of_getElem? (i := 54) rfl))) (notFace_of_selects (args := #[]) (mvT hZ (hw _ (List.mem_of_getElem? (i := 56) rfl)))) (mvT hZ (hw _ (List.mem_of_getElem? (i := 56) rfl))) (mvT hZ (hw _ (List.mem_of_getElem? (i := 55) rfl))) (by decide) (backOfS (W := 0) (own_rm7_2 l Z a0 hw [] b948 x_951 (own_upd (own_upd (own_upd (fun _ => (.int (0 : Int32))) 0 (.int v2)) 1 (.int v4)) 2 (.int v6)) v6 T1112.heap n0 (by omega) f1115 f1116 f1117 f1118 rfl) hZ (hw _ (List.mem_of_getElem? (i := 57) rfl)) (hw _ (List.mem_of_getElem? (i := 4) rfl)) (by decide) (by decide)) q1119a q1119c (g := (mkF m 192 #[.val (.int p_1), .val (.int p_2), .val (.int p_3), .val (.int p_4), .val (.int v2), .val (.int v4), .val (.int v6), .val (.int v8), .val (.ref b751), .val (.ref b757), .val (.ref b937), .val (.ref b948)] [(.int (2 : Int32)), (.ref b948)])) rfl (by rw [hml]; rfl) (Steps.refl _) (argsL := [(.int (2 : Int32))]) (rest := []) (lenOf own_pd5 rfl) rfl (by show 2 * 0 + _ ≤ _; exact Nat.le_of_eq rfl) (hb hby at_192) (fun _ _ => ⟨rfl, rfl, (by show k1112 + _ ≤ _; rw [y1112]; decide), (by show n1112 + _ ≤ _; rw [z1112]; decide)⟩)
        dsimp only [Pt.U, Pt.locs, Pt.cells, Pt.slots] at X1119 l1119 y1119 z1119 st1119 hQ1119 hS1119 gr1119
        have y1119 : k1119 = 27 := own_addeq y1119 (congrArg (fun q => q) y1112) rfl
        have z1119 : n1119 = 542 := own_addeq z1119 (congrArg (fun q => q) z1112) rfl
        have Wn1119 := hS1119.1
        obtain ⟨X1119, hS1119, hZ, hown⟩ := rebS hS1112 (n1 := T1112.heap.size) (by omega) X1119 hS1119 gr1119 hZ hown
        obtain ⟨rfl, N1119q, K1119q⟩ := hQ1119
        have N1119 : Fr n0 L1119 := by rw [l1119]; exact Fr.app N1112 N1119q
        have z1120 := K1119q.1
        refine own_go (fun _ k => st1119.trans k) ?_
        show own_Go _ _ _ _ T1119 (mkF m 195 #[.val (.int p_1), .val (.int p_2), .val (.int p_3), .val (.int p_4), .val (.int v2), .val (.int v4), .val (.int v6), .val (.int v8), .val (.ref b751), .val (.ref b757), .val (.ref b937), .val (.ref b948)] [(.int v6)])
        refine own_go (fun _ k => XS.iload X1119.here hx rfl (hb hby at_195) rfl k) ?_
        show own_Go _ _ _ _ T1119 (mkF m 197 #[.val (.int p_1), .val (.int p_2), .val (.int p_3), .val (.int p_4), .val (.int v2), .val (.int v4), .val (.int v6), .val (.int v8), .val (.ref b751), .val (.ref b757), .val (.ref b937), .val (.ref b948)] [(.int v6), (.int v6)])
        have hc1121 : v6 = v6 := rfl
        refine own_go (fun _ k => XS.icmpNo X1119.here hx rfl (hb hby at_197) rfl (Jvm.Free.XT.ii_ne_f hc1121) k) ?_
        show own_Go _ _ _ _ T1119 (mkF m 200 #[.val (.int p_1), .val (.int p_2), .val (.int p_3), .val (.int p_4), .val (.int v2), .val (.int v4), .val (.int v6), .val (.int v8), .val (.ref b751), .val (.ref b757), .val (.ref b937), .val (.ref b948)] [])
        refine own_go (fun _ k => XS.iconst X1119.here hx rfl (hb hby at_200) k) ?_
        show own_Go _ _ _ _ T1119 (mkF m 201 #[.val (.int p_1), .val (.int p_2), .val (.int p_3), .val (.int p_4), .val (.int v2), .val (.int v4), .val (.int v6), .val (.int v8), .val (.ref b751), .val (.ref b757), .val (.ref b937), .val (.ref b948)] [(.int (1 : Int32))])
        refine own_go (fun _ k => XS.goto X1119.here hx rfl (pc0 := 201) (pc' := 205) rfl (hb hby at_201) (by decide) (by decide) k) ?_
        show own_Go _ _ _ _ T1119 (mkF m 205 #[.val (.int p_1), .val (.int p_2), .val (.int p_3), .val (.int p_4), .val (.int v2), .val (.int v4), .val (.int v6), .val (.int v8), .val (.ref b751), .val (.ref b757), .val (.ref b937), .val (.ref b948)] [(.int (1 : Int32))])
        obtain ⟨fs, hr, hrun, hended, hRW⟩ := X1119.leaveW hS1119 (by omega) (v := some (.int (1 : Int32))) (fun h => by rw [Bd.returns] at h; cases h)
        refine ⟨_, _, retOut X1119 hx Bd.returns rfl (Or.inl ⟨rfl, Or.inr (Or.inl rfl), _, rfl⟩) (hb hby at_205) hr, hrun, hended, _, _, rfl, ?_, own_monoW hRW (by rw [y1119]; decide) (by rw [z1119]; decide)⟩
        exact ⟨rfl, N1119⟩
    · refine own_go (fun _ k => XS.ifNo X754.here hx rfl (hb hby at_57) rfl (Jvm.Free.XT.i0_eq_f hc756) k) ?_
      show own_Go _ _ _ _ T754 (mkF m 60 #[.val (.int p_1), .val (.int p_2), .val (.int p_3), .val (.int p_4), .val (.int v2), .val (.int v4), .val (.int v6), .val (.int v8), .val (.ref b751), .unset, .unset, .unset] [])
      refine own_go (fun _ k => XS.iconst X754.here hx rfl (hb hby at_60) k) ?_
      show own_Go _ _ _ _ T754 (mkF m 61 #[.val (.int p_1), .val (.int p_2), .val (.int p_3), .val (.int p_4), .val (.int v2), .val (.int v4), .val (.int v6), .val (.int v8), .val (.ref b751), .unset, .unset, .unset] [(.int (2 : Int32))])
      obtain ⟨T1123, h1123, k1123, X1123, e1123, E1123, A1123, st1123⟩ := newP X754 hx hZ (hw _ (List.mem_of_getElem? (i := 1) rfl)) e754 (g := (mkF m 61 #[.val (.int p_1), .val (.int p_2), .val (.int p_3), .val (.int p_4), .val (.int v2), .val (.int v4), .val (.int v6), .val (.int v8), .val (.ref b751), .unset, .unset, .unset] [(.int (2 : Int32))])) rfl (hb hby at_61) rfl (by decide) (cap := 2) (by decide) (by decide) (by decide) (by decide)
      obtain ⟨b1123, g1123⟩ : ∃ z, z = h754.size := ⟨_, rfl⟩
      rw [← g1123] at A1123 st1123
      have z1124 := E1123.1
      have lt_b1123 := own_lt A1123.lt
      have V_b1123 : own_AV Z h1123 b1123 .int (2 : Int32) (fun _ => (.int (0 : Int32))) := own_AV.new A1123 (by decide)
      refine own_go (fun _ k => st1123 _ k) ?_
      show own_Go _ _ _ _ T1123 (mkF m 63 #[.val (.int p_1), .val (.int p_2), .val (.int p_3), .val (.int p_4), .val (.int v2), .val (.int v4), .val (.int v6), .val (.int v8), .val (.ref b751), .unset, .unset, .unset] [(.ref b1123)])
      refine own_go (fun _ k => XS.dup X1123.here hx rfl (hb hby at_63) rfl rfl k) ?_
      show own_Go _ _ _ _ T1123 (mkF m 64 #[.val (.int p_1), .val (.int p_2), .val (.int p_3), .val (.int p_4), .val (.int v2), .val (.int v4), .val (.int v6), .val (.int v8), .val (.ref b751), .unset, .unset, .unset] [(.ref b1123), (.ref b1123)])
      refine own_go (fun _ k => XS.iconst X1123.here hx rfl (hb hby at_64) k) ?_
      show own_Go _ _ _ _ T1123 (mkF m 65 #[.val (.int p_1), .val (.int p_2), .val (.int p_3), .val (.int p_4), .val (.int v2), .val (.int v4), .val (.int v6), .val (.int v8), .val (.ref b751), .unset, .unset, .unset] [(.int (0 : Int32)), (.ref b1123), (.ref b1123)])
      refine own_go (fun _ k => XS.iload X1123.here hx rfl (hb hby at_65) rfl k) ?_
      show own_Go _ _ _ _ T1123 (mkF m 67 #[.val (.int p_1), .val (.int p_2), .val (.int p_3), .val (.int p_4), .val (.int v2), .val (.int v4), .val (.int v6), .val (.int v8), .val (.ref b751), .unset, .unset, .unset] [(.int v2), (.int (0 : Int32)), (.ref b1123), (.ref b1123)])
      obtain ⟨q1125, c1125, R1125, s1125, t1125⟩ := id V_b1123
      have hin1125 : ¬ ((0 : Int32) < 0 ∨ c1125.slots.size ≤ ((0 : Int32)).toNatClampNeg) := inb_of s1125 ⟨by decide, by decide⟩
      obtain ⟨T1126, h1126, X1126, e1126, W1126, st1126⟩ := stI X1123 hx hZ e1123 R1125 (j := (0 : Int32)) hin1125 (g := (mkF m 67 #[.val (.int p_1), .val (.int p_2), .val (.int p_3), .val (.int p_4), .val (.int v2), .val (.int v4), .val (.int v6), .val (.int v8), .val (.ref b751), .unset, .unset, .unset] [(.int v2), (.int (0 : Int32)), (.ref b1123), (.ref b1123)])) rfl rfl (hb hby at_67)
      have V1126 : own_AV Z h1126 b1123 .int (2 : Int32) (own_upd (fun _ => (.int (0 : Int32))) 0 (.int v2)) := own_AV.set (k := 0) V_b1123 W1126 (by decide)
      have z1127 := W1126.size
      have N1126 := Fr.snoc X1126 N754 (by omega : n0 ≤ b1123)
      refine own_go (fun _ k => st1126 _ k) ?_
      show own_Go _ _ _ _ T1126 (mkF m 68 #[.val (.int p_1), .val (.int p_2), .val (.int p_3), .val (.int p_4), .val (.int v2), .val (.int v4), .val (.int v6), .val (.int v8), .val (.ref b751), .unset, .unset, .unset] [(.ref b1123)])
      refine own_go (fun _ k => XS.dup X1126.here hx rfl (hb hby at_68) rfl rfl k) ?_
      show own_Go _ _ _ _ T1126 (mkF m 69 #[.val (.int p_1), .val (.int p_2), .val (.int p_3), .val (.int p_4), .val (.int v2), .val (.int v4), .val (.int v6), .val (.int v8), .val (.ref b751), .unset, .unset, .unset] [(.ref b1123), (.ref b1123)])
      refine own_go (fun _ k => XS.iconst X1126.here hx rfl (hb hby at_69) k) ?_
      show own_Go _ _ _ _ T1126 (mkF m 70 #[.val (.int p_1), .val (.int p_2), .val (.int p_3), .val (.int p_4), .val (.int v2), .val (.int v4), .val (.int v6), .val (.int v8), .val (.ref b751), .unset, .unset, .unset] [(.int (1 : Int32)), (.ref b1123), (.ref b1123)])
      refine own_go (fun _ k => XS.iload X1126.here hx rfl (hb hby at_70) rfl k) ?_
      show own_Go _ _ _ _ T1126 (mkF m 72 #[.val (.int p_1), .val (.int p_2), .val (.int p_3), .val (.int p_4), .val (.int v2), .val (.int v4), .val (.int v6), .val (.int v8), .val (.ref b751), .unset, .unset, .unset] [(.int v6), (.int (1 : Int32)), (.ref b1123), (.ref b1123)])
      obtain ⟨q1128, c1128, R1128, s1128, t1128⟩ := id V1126
      have hin1128 : ¬ ((1 : Int32) < 0 ∨ c1128.slots.size ≤ ((1 : Int32)).toNatClampNeg) := inb_of s1128 ⟨by decide, by decide⟩
      obtain ⟨T1129, h1129, X1129, e1129, W1129, st1129⟩ := stI X1126 hx hZ e1126 R1128 (j := (1 : Int32)) hin1128 (g := (mkF m 72 #[.val (.int p_1), .val (.int p_2), .val (.int p_3), .val (.int p_4), .val (.int v2), .val (.int v4), .val (.int v6), .val (.int v8), .val (.ref b751), .unset, .unset, .unset] [(.int v6), (.int (1 : Int32)), (.ref b1123), (.ref b1123)])) rfl rfl (hb hby at_72)
      have V1129 : own_AV Z h1129 b1123 .int (2 : Int32) (own_upd (own_upd (fun _ => (.int (0 : Int32))) 0 (.int v2)) 1 (.int v6)) := own_AV.set (k := 1) V1126 W1129 (by decide)
      have z1130 := W1129.size
      have N1129 := Fr.snoc X1129 N1126 (by omega : n0 ≤ b1123)
      refine own_go (fun _ k => st1129 _ k) ?_
      show own_Go _ _ _ _ T1129 (mkF m 73 #[.val (.int p_1), .val (.int p_2), .val (.int p_3), .val (.int p_4), .val (.int v2), .val (.int v4), .val (.int v6), .val (.int v8), .val (.ref b751), .unset, .unset, .unset] [(.ref b1123)])
      refine own_go (fun _ k => XS.goto X1129.here hx rfl (pc0 := 73) (pc' := 79) rfl (hb hby at_73) (by decide) (by decide) k) ?_
      show own_Go _ _ _ _ T1129 (mkF m 79 #[.val (.int p_1), .val (.int p_2), .val (.int p_3), .val (.int p_4), .val (.int v2), .val (.int v4), .val (.int v6), .val (.int v8), .val (.ref b751), .unset, .unset, .unset] [(.ref b1123)])
      refine own_go (fun _ k => XS.astore X1129.here hx rfl (hb hby at_79) rfl rfl (l' := #[.val (.int p_1), .val (.int p_2), .val (.int p_3), .val (.int p_4), .val (.int v2), .val (.int v4), .val (.int v6), .val (.int v8), .val (.ref b751), .val (.ref b1123), .unset, .unset]) rfl k) ?_
      show own_Go _ _ _ _ T1129 (mkF m 81 #[.val (.int p_1), .val (.int p_2), .val (.int p_3), .val (.int p_4), .val (.int v2), .val (.int v4), .val (.int v6), .val (.int v8), .val (.ref b751), .val (.ref b1123), .unset, .unset] [])
      refine own_go (fun _ k => XS.iloadN X1129.here hx rfl (hb hby at_81) rfl k) ?_
      show own_Go _ _ _ _ T1129 (mkF m 82 #[.val (.int p_1), .val (.int p_2), .val (.int p_3), .val (.int p_4), .val (.int v2), .val (.int v4), .val (.int v6), .val (.int v8), .val (.ref b751), .val (.ref b1123), .unset, .unset] [(.int p_4)])
      refine own_go (fun _ k => XS.iconst X1129.here hx rfl (hb hby at_82) k) ?_
      show own_Go _ _ _ _ T1129 (mkF m 83 #[.val (.int p_1), .val (.int p_2), .val (.int p_3), .val (.int p_4), .val (.int v2), .val (.int v4), .val (.int v6), .val (.int v8), .val (.ref b751), .val (.ref b1123), .unset, .unset] [(.int (4 : Int32)), (.int p_4)])
      refine own_go (fun _ k => XS.iand X1129.here hx rfl (hb hby at_83) rfl k) ?_
      show own_Go _ _ _ _ T1129 (mkF m 84 #[.val (.int p_1), .val (.int p_2), .val (.int p_3), .val (.int p_4), .val (.int v2), .val (.int v4), .val (.int v6), .val (.int v8), .val (.ref b751), .val (.ref b1123), .unset, .unset] [(.int (p_4 &&& (4 : Int32)))])
      by_cases hc1131 : (p_4 &&& (4 : Int32)) = 0
      · refine own_go (fun _ k => XS.ifYes X1129.here hx rfl (pc0 := 84) (pc' := 108) rfl (hb hby at_84) rfl (Jvm.Free.XT.i0_eq_t hc1131) (by decide) (by decide) k) ?_
        show own_Go _ _ _ _ T1129 (mkF m 108 #[.val (.int p_1), .val (.int p_2), .val (.int p_3), .val (.int p_4), .val (.int v2), .val (.int v4), .val (.int v6), .val (.int v8), .val (.ref b751), .val (.ref b1123), .unset, .unset] [])
        refine own_go (fun _ k => XS.iconst X1129.here hx rfl (hb hby at_108) k) ?_
        show own_Go _ _ _ _ T1129 (mkF m 109 #[.val (.int p_1), .val (.int p_2), .val (.int p_3), .val (.int p_4), .val (.int v2), .val (.int v4), .val (.int v6), .val (.int v8), .val (.ref b751), .val (.ref b1123), .unset, .unset] [(.int (0 : Int32))])
        obtain ⟨T1132, h1132, k1132, X1132, e1132, E1132, A1132, st1132⟩ := newP X1129 hx hZ (hw _ (List.mem_of_getElem? (i := 1) rfl)) e1129 (g := (mkF m 109 #[.val (.int p_1), .val (.int p_2), .val (.int p_3), .val (.int p_4), .val (.int v2), .val (.int v4), .val (.int v6), .val (.int v8), .val (.ref b751), .val (.ref b1123), .unset, .unset] [(.int (0 : Int32))])) rfl (hb hby at_109) rfl (by decide) (cap := 0) (by decide) (by decide) (by decide) (by decide)
        obtain ⟨b1132, g1132⟩ : ∃ z, z = h1129.size := ⟨_, rfl⟩
        rw [← g1132] at A1132 st1132
        have z1133 := E1132.1
        have lt_b1132 := own_lt A1132.lt
        have V_b1132 : own_AV Z h1132 b1132 .int (0 : Int32) (fun _ => (.int (0 : Int32))) := own_AV.new A1132 (by decide)
        refine own_go (fun _ k => st1132 _ k) ?_
        show own_Go _ _ _ _ T1132 (mkF m 111 #[.val (.int p_1), .val (.int p_2), .val (.int p_3), .val (.int p_4), .val (.int v2), .val (.int v4), .val (.int v6), .val (.int v8), .val (.ref b751), .val (.ref b1123), .unset, .unset] [(.ref b1132)])
        refine own_go (fun _ k => XS.astore X1132.here hx rfl (hb hby at_111) rfl rfl (l' := #[.val (.int p_1), .val (.int p_2), .val (.int p_3), .val (.int p_4), .val (.int v2), .val (.int v4), .val (.int v6), .val (.int v8), .val (.ref b751), .val (.ref b1123), .val (.ref b1132), .unset]) rfl k) ?_
        show own_Go _ _ _ _ T1132 (mkF m 113 #[.val (.int p_1), .val (.int p_2), .val (.int p_3), .val (.int p_4), .val (.int v2), .val (.int v4), .val (.int v6), .val (.int v8), .val (.ref b751), .val (.ref b1123), .val (.ref b1132), .unset] [])
        obtain ⟨T1134, h1134, X1134, e1134, E1134, A1134, D1134, Y1134, st1134⟩ := newO X1132 hx hZ hown (hw _ (List.mem_of_getElem? (i := 2) rfl)) (hw _ (List.mem_of_getElem? (i := 3) rfl)) (hw _ (List.mem_of_getElem? (i := 4) rfl)) e1132 (g := (mkF m 113 #[.val (.int p_1), .val (.int p_2), .val (.int p_3), .val (.int p_4), .val (.int v2), .val (.int v4), .val (.int v6), .val (.int v8), .val (.ref b751), .val (.ref b1123), .val (.ref b1132), .unset] [])) rfl (hb hby at_113) (by decide) (by decide)
        obtain ⟨b1134, g1134⟩ : ∃ z, z = h1132.size := ⟨_, rfl⟩
        rw [← g1134] at A1134 D1134 Y1134 st1134
        have z1135 := E1134.1
        have lt_b1134 := own_lt A1134.lt
        have F_heads_b1134 : Fld Z h1134 b1134 "com/example/kalchas/kalchas/propositional/HornClauses" "heads" "[I" .null := D1134 (Or.inl (hw _ (List.mem_of_getElem? (i := 12) rfl))) (ty := (.array .int)) (by decide)
        have F_bodyStarts_b1134 : Fld Z h1134 b1134 "com/example/kalchas/kalchas/propositional/HornClauses" "bodyStarts" "[I" .null := D1134 (Or.inl (hw _ (List.mem_of_getElem? (i := 14) rfl))) (ty := (.array .int)) (by decide)
        have F_bodies_b1134 : Fld Z h1134 b1134 "com/example/kalchas/kalchas/propositional/HornClauses" "bodies" "[I" .null := D1134 (Or.inl (hw _ (List.mem_of_getElem? (i := 16) rfl))) (ty := (.array .int)) (by decide)
        have F_occurrences_b1134 : Fld Z h1134 b1134 "com/example/kalchas/kalchas/propositional/HornClauses" "occurrences" "[I" .null := D1134 (Or.inl (hw _ (List.mem_of_getElem? (i := 23) rfl))) (ty := (.array .int)) (by decide)
        have F_variableCount_b1134 : Fld Z h1134 b1134 "com/example/kalchas/kalchas/propositional/HornClauses" "variableCount" "I" (.int (0 : Int32)) := D1134 (Or.inl (hw _ (List.mem_of_getElem? (i := 25) rfl))) (ty := .int) (by decide)
        have F_clauseCount_b1134 : Fld Z h1134 b1134 "com/example/kalchas/kalchas/propositional/HornClauses" "clauseCount" "I" (.int (0 : Int32)) := D1134 (Or.inl (hw _ (List.mem_of_getElem? (i := 48) rfl))) (ty := .int) (by decide)
        refine own_go (fun _ k => st1134 _ k) ?_
        show own_Go _ _ _ _ T1134 (mkF m 116 #[.val (.int p_1), .val (.int p_2), .val (.int p_3), .val (.int p_4), .val (.int v2), .val (.int v4), .val (.int v6), .val (.int v8), .val (.ref b751), .val (.ref b1123), .val (.ref b1132), .unset] [(.ref b1134)])
        refine own_go (fun _ k => XS.dup X1134.here hx rfl (hb hby at_116) rfl rfl k) ?_
        show own_Go _ _ _ _ T1134 (mkF m 117 #[.val (.int p_1), .val (.int p_2), .val (.int p_3), .val (.int p_4), .val (.int v2), .val (.int v4), .val (.int v6), .val (.int v8), .val (.ref b751), .val (.ref b1123), .val (.ref b1132), .unset] [(.ref b1134), (.ref b1134)])
        obtain ⟨_, _, ⟨T1136, L1136, k1136, n1136⟩, -, X1136, ⟨Lc1136, hQ1136, l1136, y1136, z1136⟩, st1136⟩ := X1134.specialBack hx (y := (⟨"com/example/kalchas/kalchas/propositional/HornClauses", "<init>", "()V"⟩ : MethodName)) rfl hown (mvT hZ (hw _ (List.mem_of_getElem? (i := 5) rfl))) (mvT hZ (hw _ (List.mem_of_getElem? (i := 6) rfl))) (mvT hZ (hw _ (List.mem_of_getElem? (i := 7) rfl))) (by decide) (backOf (W := 1) (own_rm1 l Z a0 hw [] b1134 .null .null .null .null (0 : Int32) (0 : Int32) h1134 n0 (by omega) A1134 F_heads_b1134 F_bodyStarts_b1134 F_bodies_b1134 F_occurrences_b1134 F_variableCount_b1134 F_clauseCount_b1134 (by omega)) hZ (hw _ (List.mem_of_getElem? (i := 7) rfl)) (hw _ (List.mem_of_getElem? (i := 4) rfl)) (by decide) (by decide)) (g := (mkF m 117 #[.val (.int p_1), .val (.int p_2), .val (.int p_3), .val (.int p_4), .val (.int v2), .val (.int v4), .val (.int v6), .val (.int v8), .val (.ref b751), .val (.ref b1123), .val (.ref b1132), .unset] [(.ref b1134), (.ref b1134)])) rfl (by rw [hml]; rfl) (Steps.refl _) (a := b1134) (argsL := []) (rest := [(.ref b1134)]) (lenOf own_pd2 rfl) rfl (by show 2 * 0 + _ ≤ _; exact Nat.le_of_eq rfl) (hb hby at_117) (fun _ _ => ⟨rfl, e1134, (by decide : 4 + 3 ≤ _), (by decide : 12 + 193 ≤ _)⟩)
        dsimp only [Pt.U, Pt.locs, Pt.cells, Pt.slots] at X1136 l1136 y1136 z1136 st1136 hQ1136
        have y1136 : k1136 = 7 := y1136
        have z1136 : n1136 = 205 := z1136
        obtain ⟨x_1137, x_1138, x_1139, rfl, N1136q, K1136q, f1140, f1141, f1142, f1143, f1144, f1145, f1146, f1147, f1148, f1149, f1150, f1151, f1152, f1153⟩ := hQ1136
        have N1136 : Fr n0 L1136 := by rw [l1136]; exact Fr.app N1129 N1136q
        have z1154 := K1136q.1
        have z1155 := own_lt f1140.lt
        have z1156 := own_lt f1141.lt
        have z1157 := own_lt f1142.lt
        have z1158 := own_lt f1143.lt
        have z1159 := own_lt f1144.lt
        have z1160 := own_lt f1145.lt
        have z1161 := own_lt f1146.lt
        have z1162 := own_lt f1147.lt
        have z1163 := own_lt f1148.lt
        have z1164 := own_lt f1149.lt
        simp only [own_lts, and_true] at f1153
        refine own_go (fun _ k => st1136.trans k) ?_
        show own_Go _ _ _ _ T1136 (mkF m 120 #[.val (.int p_1), .val (.int p_2), .val (.int p_3), .val (.int p_4), .val (.int v2), .val (.int v4), .val (.int v6), .val (.int v8), .val (.ref b751), .val (.ref b1123), .val (.ref b1132), .unset] [(.ref b1134)])
        refine own_go (fun _ k => XS.astore X1136.here hx rfl (hb hby at_120) rfl rfl (l' := #[.val (.int p_1), .val (.int p_2), .val (.int p_3), .val (.int p_4), .val (.int v2), .val (.int v4), .val (.int v6), .val (.int v8), .val (.ref b751), .val (.ref b1123), .val (.ref b1132), .val (.ref b1134)]) rfl k) ?_
        show own_Go _ _ _ _ T1136 (mkF m 122 #[.val (.int p_1), .val (.int p_2), .val (.int p_3), .val (.int p_4), .val (.int v2), .val (.int v4), .val (.int v6), .val (.int v8), .val (.ref b751), .val (.ref b1123), .val (.ref b1132), .val (.ref b1134)] [])
        refine own_go (fun _ k => XS.aload X1136.here hx rfl (hb hby at_122) rfl rfl k) ?_
        show own_Go _ _ _ _ T1136 (mkF m 124 #[.val (.int p_1), .val (.int p_2), .val (.int p_3), .val (.int p_4), .val (.int v2), .val (.int v4), .val (.int v6), .val (.int v8), .val (.ref b751), .val (.ref b1123), .val (.ref b1132), .val (.ref b1134)] [(.ref b1134)])
        obtain ⟨cq1165, kq1165, q1165a, q1165b, q1165c⟩ := isOf hZ rfl f1140
        obtain ⟨_, _, ⟨T1165, L1165, k1165, n1165⟩, -, X1165, ⟨Lc1165, hQ1165, l1165, y1165, z1165⟩, st1165⟩ := X1136.virtualBack hx (y := (⟨"com/example/kalchas/kalchas/propositional/HornClauses", "newVariable", "()I"⟩ : MethodName)) (z := (⟨"com/example/kalchas/kalchas/propositional/HornClauses", "newVariable", "()I"⟩ : MethodName)) hown (mvT hZ (hw _ (List.mem_of_getElem? (i := 17) rfl))) (mvT hZ (hw _ (List.mem_of_getElem? (i := 18) rfl))) (notFace_of_selects (args := #[]) (mvT hZ (hw _ (List.mem_of_getElem? (i := 20) rfl)))) (mvT hZ (hw _ (List.mem_of_getElem? (i := 20) rfl))) (mvT hZ (hw _ (List.mem_of_getElem? (i := 19) rfl))) (by decide) (backOf (W := 0) (own_rm3 l Z a0 hw [] b1134 (.ref x_1137) (.ref x_1138) (.ref x_1139) .null (0 : Int32) (0 : Int32) T1136.heap n0 (by omega) f1140 f1141 f1142 f1143 f1144 f1145 f1146 (by omega)) hZ (hw _ (List.mem_of_getElem? (i := 21) rfl)) (hw _ (List.mem_of_getElem? (i := 4) rfl)) (by decide) (by decide)) q1165a q1165c (g := (mkF m 124 #[.val (.int p_1), .val (.int p_2), .val (.int p_3), .val (.int p_4), .val (.int v2), .val (.int v4), .val (.int v6), .val (.int v8), .val (.ref b751), .val (.ref b1123), .val (.ref b1132), .val (.ref b1134)] [(.ref b1134)])) rfl (by rw [hml]; rfl) (Steps.refl _) (argsL := []) (rest := []) (lenOf own_pd3 rfl) rfl (by show 2 * 0 + _ ≤ _; exact Nat.le_of_eq rfl) (hb hby at_124) (fun _ _ => ⟨rfl, rfl, (by show k1136 + _ ≤ _; rw [y1136]; decide), (by show n1136 + _ ≤ _; rw [z1136]; decide)⟩)
        dsimp only [Pt.U, Pt.locs, Pt.cells, Pt.slots] at X1165 l1165 y1165 z1165 st1165 hQ1165
        have y1165 : k1165 = 7 := own_addeq y1165 (congrArg (fun q => q) y1136) rfl
        have z1165 : n1165 = 205 := own_addeq z1165 (congrArg (fun q => q) z1136) rfl
        obtain ⟨rfl, N1165q, K1165q, f1166, f1167, f1168, f1169, f1170, f1171, f1172⟩ := hQ1165
        have N1165 : Fr n0 L1165 := by rw [l1165]; exact Fr.app N1136 N1165q
        have z1173 := K1165q.1
        have z1174 := own_lt f1166.lt
        have z1175 := own_lt f1167.lt
        have z1176 := own_lt f1168.lt
        have z1177 := own_lt f1169.lt
        have z1178 := own_lt f1170.lt
        have f1171 : Fld Z T1165.heap b1134 "com/example/kalchas/kalchas/propositional/HornClauses" "variableCount" "I" (.int (1 : Int32)) := f1171
        have z1179 := own_lt f1171.lt
        have z1180 := own_lt f1172.lt
        refine own_go (fun _ k => st1165.trans k) ?_
        show own_Go _ _ _ _ T1165 (mkF m 127 #[.val (.int p_1), .val (.int p_2), .val (.int p_3), .val (.int p_4), .val (.int v2), .val (.int v4), .val (.int v6), .val (.int v8), .val (.ref b751), .val (.ref b1123), .val (.ref b1132), .val (.ref b1134)] [(.int (0 : Int32))])
        refine own_go (fun _ k => XS.pop X1165.here hx rfl (hb hby at_127) rfl rfl k) ?_
        show own_Go _ _ _ _ T1165 (mkF m 128 #[.val (.int p_1), .val (.int p_2), .val (.int p_3), .val (.int p_4), .val (.int v2), .val (.int v4), .val (.int v6), .val (.int v8), .val (.ref b751), .val (.ref b1123), .val (.ref b1132), .val (.ref b1134)] [])
        refine own_go (fun _ k => XS.aload X1165.here hx rfl (hb hby at_128) rfl rfl k) ?_
        show own_Go _ _ _ _ T1165 (mkF m 130 #[.val (.int p_1), .val (.int p_2), .val (.int p_3), .val (.int p_4), .val (.int v2), .val (.int v4), .val (.int v6), .val (.int v8), .val (.ref b751), .val (.ref b1123), .val (.ref b1132), .val (.ref b1134)] [(.ref b1134)])
        obtain ⟨cq1181, kq1181, q1181a, q1181b, q1181c⟩ := isOf hZ rfl f1166
        obtain ⟨_, _, ⟨T1181, L1181, k1181, n1181⟩, -, X1181, ⟨Lc1181, hQ1181, l1181, y1181, z1181⟩, st1181⟩ := X1165.virtualBack hx (y := (⟨"com/example/kalchas/kalchas/propositional/HornClauses", "newVariable", "()I"⟩ : MethodName)) (z := (⟨"com/example/kalchas/kalchas/propositional/HornClauses", "newVariable", "()I"⟩ : MethodName)) hown (mvT hZ (hw _ (List.mem_of_getElem? (i := 17) rfl))) (mvT hZ (hw _ (List.mem_of_getElem? (i := 18) rfl))) (notFace_of_selects (args := #[]) (mvT hZ (hw _ (List.mem_of_getElem? (i := 20) rfl)))) (mvT hZ (hw _ (List.mem_of_getElem? (i := 20) rfl))) (mvT hZ (hw _ (List.mem_of_getElem? (i := 19) rfl))) (by decide) (backOf (W := 0) (own_rm3 l Z a0 hw [] b1134 (.ref x_1137) (.ref x_1138) (.ref x_1139) .null (1 : Int32) (0 : Int32) T1165.heap n0 (by omega) f1166 f1167 f1168 f1169 f1170 f1171 f1172 (by omega)) hZ (hw _ (List.mem_of_getElem? (i := 21) rfl)) (hw _ (List.mem_of_getElem? (i := 4) rfl)) (by decide) (by decide)) q1181a q1181c (g := (mkF m 130 #[.val (.int p_1), .val (.int p_2), .val (.int p_3), .val (.int p_4), .val (.int v2), .val (.int v4), .val (.int v6), .val (.int v8), .val (.ref b751), .val (.ref b1123), .val (.ref b1132), .val (.ref b1134)] [(.ref b1134)])) rfl (by rw [hml]; rfl) (Steps.refl _) (argsL := []) (rest := []) (lenOf own_pd3 rfl) rfl (by show 2 * 0 + _ ≤ _; exact Nat.le_of_eq rfl) (hb hby at_130) (fun _ _ => ⟨rfl, rfl, (by show k1165 + _ ≤ _; rw [y1165]; decide), (by show n1165 + _ ≤ _; rw [z1165]; decide)⟩)
        dsimp only [Pt.U, Pt.locs, Pt.cells, Pt.slots] at X1181 l1181 y1181 z1181 st1181 hQ1181
        have y1181 : k1181 = 7 := own_addeq y1181 (congrArg (fun q => q) y1165) rfl
        have z1181 : n1181 = 205 := own_addeq z1181 (congrArg (fun q => q) z1165) rfl
        obtain ⟨rfl, N1181q, K1181q, f1182, f1183, f1184, f1185, f1186, f1187, f1188⟩ := hQ1181
        have N1181 : Fr n0 L1181 := by rw [l1181]; exact Fr.app N1165 N1181q
        have z1189 := K1181q.1
        have z1190 := own_lt f1182.lt
        have z1191 := own_lt f1183.lt
        have z1192 := own_lt f1184.lt
        have z1193 := own_lt f1185.lt
        have z1194 := own_lt f1186.lt
        have f1187 : Fld Z T1181.heap b1134 "com/example/kalchas/kalchas/propositional/HornClauses" "variableCount" "I" (.int (2 : Int32)) := f1187
        have z1195 := own_lt f1187.lt
        have z1196 := own_lt f1188.lt
        refine own_go (fun _ k => st1181.trans k) ?_
        show own_Go _ _ _ _ T1181 (mkF m 133 #[.val (.int p_1), .val (.int p_2), .val (.int p_3), .val (.int p_4), .val (.int v2), .val (.int v4), .val (.int v6), .val (.int v8), .val (.ref b751), .val (.ref b1123), .val (.ref b1132), .val (.ref b1134)] [(.int (1 : Int32))])
        refine own_go (fun _ k => XS.pop X1181.here hx rfl (hb hby at_133) rfl rfl k) ?_
        show own_Go _ _ _ _ T1181 (mkF m 134 #[.val (.int p_1), .val (.int p_2), .val (.int p_3), .val (.int p_4), .val (.int v2), .val (.int v4), .val (.int v6), .val (.int v8), .val (.ref b751), .val (.ref b1123), .val (.ref b1132), .val (.ref b1134)] [])
        refine own_go (fun _ k => XS.aload X1181.here hx rfl (hb hby at_134) rfl rfl k) ?_
        show own_Go _ _ _ _ T1181 (mkF m 136 #[.val (.int p_1), .val (.int p_2), .val (.int p_3), .val (.int p_4), .val (.int v2), .val (.int v4), .val (.int v6), .val (.int v8), .val (.ref b751), .val (.ref b1123), .val (.ref b1132), .val (.ref b1134)] [(.ref b1134)])
        obtain ⟨cq1197, kq1197, q1197a, q1197b, q1197c⟩ := isOf hZ rfl f1182
        obtain ⟨_, _, ⟨T1197, L1197, k1197, n1197⟩, -, X1197, ⟨Lc1197, hQ1197, l1197, y1197, z1197⟩, st1197⟩ := X1181.virtualBack hx (y := (⟨"com/example/kalchas/kalchas/propositional/HornClauses", "newVariable", "()I"⟩ : MethodName)) (z := (⟨"com/example/kalchas/kalchas/propositional/HornClauses", "newVariable", "()I"⟩ : MethodName)) hown (mvT hZ (hw _ (List.mem_of_getElem? (i := 17) rfl))) (mvT hZ (hw _ (List.mem_of_getElem? (i := 18) rfl))) (notFace_of_selects (args := #[]) (mvT hZ (hw _ (List.mem_of_getElem? (i := 20) rfl)))) (mvT hZ (hw _ (List.mem_of_getElem? (i := 20) rfl))) (mvT hZ (hw _ (List.mem_of_getElem? (i := 19) rfl))) (by decide) (backOf (W := 0) (own_rm3 l Z a0 hw [] b1134 (.ref x_1137) (.ref x_1138) (.ref x_1139) .null (2 : Int32) (0 : Int32) T1181.heap n0 (by omega) f1182 f1183 f1184 f1185 f1186 f1187 f1188 (by omega)) hZ (hw _ (List.mem_of_getElem? (i := 21) rfl)) (hw _ (List.mem_of_getElem? (i := 4) rfl)) (by decide) (by decide)) q1197a q1197c (g := (mkF m 136 #[.val (.int p_1), .val (.int p_2), .val (.int p_3), .val (.int p_4), .val (.int v2), .val (.int v4), .val (.int v6), .val (.int v8), .val (.ref b751), .val (.ref b1123), .val (.ref b1132), .val (.ref b1134)] [(.ref b1134)])) rfl (by rw [hml]; rfl) (Steps.refl _) (argsL := []) (rest := []) (lenOf own_pd3 rfl) rfl (by show 2 * 0 + _ ≤ _; exact Nat.le_of_eq rfl) (hb hby at_136) (fun _ _ => ⟨rfl, rfl, (by show k1181 + _ ≤ _; rw [y1181]; decide), (by show n1181 + _ ≤ _; rw [z1181]; decide)⟩)
        dsimp only [Pt.U, Pt.locs, Pt.cells, Pt.slots] at X1197 l1197 y1197 z1197 st1197 hQ1197
        have y1197 : k1197 = 7 := own_addeq y1197 (congrArg (fun q => q) y1181) rfl
        have z1197 : n1197 = 205 := own_addeq z1197 (congrArg (fun q => q) z1181) rfl
        obtain ⟨rfl, N1197q, K1197q, f1198, f1199, f1200, f1201, f1202, f1203, f1204⟩ := hQ1197
        have N1197 : Fr n0 L1197 := by rw [l1197]; exact Fr.app N1181 N1197q
        have z1205 := K1197q.1
        have z1206 := own_lt f1198.lt
        have z1207 := own_lt f1199.lt
        have z1208 := own_lt f1200.lt
        have z1209 := own_lt f1201.lt
        have z1210 := own_lt f1202.lt
        have f1203 : Fld Z T1197.heap b1134 "com/example/kalchas/kalchas/propositional/HornClauses" "variableCount" "I" (.int (3 : Int32)) := f1203
        have z1211 := own_lt f1203.lt
        have z1212 := own_lt f1204.lt
        refine own_go (fun _ k => st1197.trans k) ?_
        show own_Go _ _ _ _ T1197 (mkF m 139 #[.val (.int p_1), .val (.int p_2), .val (.int p_3), .val (.int p_4), .val (.int v2), .val (.int v4), .val (.int v6), .val (.int v8), .val (.ref b751), .val (.ref b1123), .val (.ref b1132), .val (.ref b1134)] [(.int (2 : Int32))])
        refine own_go (fun _ k => XS.pop X1197.here hx rfl (hb hby at_139) rfl rfl k) ?_
        show own_Go _ _ _ _ T1197 (mkF m 140 #[.val (.int p_1), .val (.int p_2), .val (.int p_3), .val (.int p_4), .val (.int v2), .val (.int v4), .val (.int v6), .val (.int v8), .val (.ref b751), .val (.ref b1123), .val (.ref b1132), .val (.ref b1134)] [])
        refine own_go (fun _ k => XS.aload X1197.here hx rfl (hb hby at_140) rfl rfl k) ?_
        show own_Go _ _ _ _ T1197 (mkF m 142 #[.val (.int p_1), .val (.int p_2), .val (.int p_3), .val (.int p_4), .val (.int v2), .val (.int v4), .val (.int v6), .val (.int v8), .val (.ref b751), .val (.ref b1123), .val (.ref b1132), .val (.ref b1134)] [(.ref b1134)])
        refine own_go (fun _ k => XS.iload X1197.here hx rfl (hb hby at_142) rfl k) ?_
        show own_Go _ _ _ _ T1197 (mkF m 144 #[.val (.int p_1), .val (.int p_2), .val (.int p_3), .val (.int p_4), .val (.int v2), .val (.int v4), .val (.int v6), .val (.int v8), .val (.ref b751), .val (.ref b1123), .val (.ref b1132), .val (.ref b1134)] [(.int v2), (.ref b1134)])
        refine own_go (fun _ k => XS.aload X1197.here hx rfl (hb hby at_144) rfl rfl k) ?_
        show own_Go _ _ _ _ T1197 (mkF m 146 #[.val (.int p_1), .val (.int p_2), .val (.int p_3), .val (.int p_4), .val (.int v2), .val (.int v4), .val (.int v6), .val (.int v8), .val (.ref b751), .val (.ref b1123), .val (.ref b1132), .val (.ref b1134)] [(.ref b751), (.int v2), (.ref b1134)])
        have f1213 : own_AV Z T1197.heap x_1137 .int (64 : Int32) (fun _ => (.int (0 : Int32))) := (((f1147.keep K1165q (ninS (own_ne (by omega)) nin0)).keep K1181q (ninS (own_ne (by omega)) nin0)).keep K1197q (ninS (own_ne (by omega)) nin0))
        have f1214 : own_AV Z T1197.heap x_1138 .int (65 : Int32) (fun _ => (.int (0 : Int32))) := (((f1148.keep K1165q (ninS (own_ne (by omega)) nin0)).keep K1181q (ninS (own_ne (by omega)) nin0)).keep K1197q (ninS (own_ne (by omega)) nin0))
        have f1215 : own_AV Z T1197.heap x_1139 .int (64 : Int32) (fun _ => (.int (0 : Int32))) := (((f1149.keep K1165q (ninS (own_ne (by omega)) nin0)).keep K1181q (ninS (own_ne (by omega)) nin0)).keep K1197q (ninS (own_ne (by omega)) nin0))
        have f1216 : own_AV Z T1197.heap b751 .int (1 : Int32) (own_upd (fun _ => (.int (0 : Int32))) 0 (.int v8)) := (((((((((V754.ext E1123).other W1126 (own_ne (by omega))).other W1129 (own_ne (by omega))).ext E1132).ext E1134).keep K1136q (ninS (own_ne (by omega)) nin0)).keep K1165q (ninS (own_ne (by omega)) nin0)).keep K1181q (ninS (own_ne (by omega)) nin0)).keep K1197q (ninS (own_ne (by omega)) nin0))
        obtain ⟨cq1217, kq1217, q1217a, q1217b, q1217c⟩ := isOf hZ rfl f1198
        obtain ⟨_, _, ⟨T1217, L1217, k1217, n1217⟩, -, X1217, hS1217, gr1217, ⟨Lc1217, hQ1217, l1217, y1217, z1217⟩, st1217⟩ := X1197.virtualBackS hx (y := (⟨"com/example/kalchas/kalchas/propositional/HornClauses", "add", "(I[I)V"⟩ : MethodName)) (z := (⟨"com/example/kalchas/kalchas/propositional/HornClauses", "add", "(I[I)V"⟩ : MethodName)) hown (mvT hZ (hw _ (List.mem_of_getElem? (i := 26) rfl))) (mvT hZ (hw _ (List.mem_of_getElem? (i := 27) rfl))) (notFace_of_selects (args := #[]) (mvT hZ (hw _ (List.mem_of_getElem? (i := 29) rfl)))) (mvT hZ (hw _ (List.mem_of_getElem? (i := 29) rfl))) (mvT hZ (hw _ (List.mem_of_getElem? (i := 28) rfl))) (by decide) (backOfS (W := 0) (own_rm4_01 l Z a0 hw [] b1134 v2 b751 x_1137 x_1138 x_1139 (fun _ => (.int (0 : Int32))) (fun _ => (.int (0 : Int32))) (fun _ => (.int (0 : Int32))) (0 : Int32) .null v8 T1197.heap n0 (by omega) f1198 f1203 f1204 f1199 f1200 f1201 f1202 f1213 f1214 f1215 f1216 (by simp only [own_lts, and_true]; omega) rfl (by decide) (fun _ => rfl) (show ¬ (v2 < 0) by first | assumption | omega | decide) (show v2 < (3 : Int32) by first | assumption | omega | decide) (show ¬ (v8 < 0) by first | assumption | omega | decide) (show v8 < (3 : Int32) by first | assumption | omega | decide) (by omega) (by omega) (by omega) (by omega)) hZ (hw _ (List.mem_of_getElem? (i := 30) rfl)) (hw _ (List.mem_of_getElem? (i := 4) rfl)) (by decide) (by decide)) q1217a q1217c (g := (mkF m 146 #[.val (.int p_1), .val (.int p_2), .val (.int p_3), .val (.int p_4), .val (.int v2), .val (.int v4), .val (.int v6), .val (.int v8), .val (.ref b751), .val (.ref b1123), .val (.ref b1132), .val (.ref b1134)] [(.ref b751), (.int v2), (.ref b1134)])) rfl (by rw [hml]; rfl) (Steps.refl _) (argsL := [(.int v2), (.ref b751)]) (rest := []) (lenOf own_pd4 rfl) rfl (by show 2 * 0 + _ ≤ _; exact Nat.le_of_eq rfl) (hb hby at_146) (fun _ _ => ⟨rfl, rfl, (by show k1197 + _ ≤ _; rw [y1197]; decide), (by show n1197 + _ ≤ _; rw [z1197]; decide)⟩)
        dsimp only [Pt.U, Pt.locs, Pt.cells, Pt.slots] at X1217 l1217 y1217 z1217 st1217 hQ1217 hS1217 gr1217
        have y1217 : k1217 = 11 := own_addeq y1217 (congrArg (fun q => q) y1197) rfl
        have z1217 : n1217 = 277 := own_addeq z1217 (congrArg (fun q => q) z1197) rfl
        have Wn1217 := hS1217.1
        obtain ⟨X1217, hS1217, hZ, hown⟩ := rebS hS0 (n1 := T1197.heap.size) (by omega) X1217 hS1217 gr1217 hZ hown
        obtain ⟨gb_1218, rfl, N1217q, K1217q, f1219, f1220, f1221, f1222, f1223, f1224, f1225, f1226, f1227, f1228, f1229⟩ := hQ1217
        have N1217 : Fr n0 L1217 := by rw [l1217]; exact Fr.app N1197 N1217q
        have z1230 := K1217q.1
        have z1231 := own_lt f1219.lt
        have z1232 := own_lt f1220.lt
        have z1233 := own_lt f1221.lt
        have z1234 := own_lt f1222.lt
        have z1235 := own_lt f1223.lt
        have z1236 := own_lt f1224.lt
        have z1237 := own_lt f1225.lt
        have z1238 := own_lt f1226.lt
        have z1239 := own_lt f1227.lt
        have z1240 := own_lt f1228.lt
        refine own_go (fun _ k => st1217.trans k) ?_
        show own_Go _ _ _ _ T1217 (mkF m 149 #[.val (.int p_1), .val (.int p_2), .val (.int p_3), .val (.int p_4), .val (.int v2), .val (.int v4), .val (.int v6), .val (.int v8), .val (.ref b751), .val (.ref b1123), .val (.ref b1132), .val (.ref b1134)] [])
        refine own_go (fun _ k => XS.aload X1217.here hx rfl (hb hby at_149) rfl rfl k) ?_
        show own_Go _ _ _ _ T1217 (mkF m 151 #[.val (.int p_1), .val (.int p_2), .val (.int p_3), .val (.int p_4), .val (.int v2), .val (.int v4), .val (.int v6), .val (.int v8), .val (.ref b751), .val (.ref b1123), .val (.ref b1132), .val (.ref b1134)] [(.ref b1134)])
        refine own_go (fun _ k => XS.iload X1217.here hx rfl (hb hby at_151) rfl k) ?_
        show own_Go _ _ _ _ T1217 (mkF m 153 #[.val (.int p_1), .val (.int p_2), .val (.int p_3), .val (.int p_4), .val (.int v2), .val (.int v4), .val (.int v6), .val (.int v8), .val (.ref b751), .val (.ref b1123), .val (.ref b1132), .val (.ref b1134)] [(.int v4), (.ref b1134)])
        refine own_go (fun _ k => XS.aload X1217.here hx rfl (hb hby at_153) rfl rfl k) ?_
        show own_Go _ _ _ _ T1217 (mkF m 155 #[.val (.int p_1), .val (.int p_2), .val (.int p_3), .val (.int p_4), .val (.int v2), .val (.int v4), .val (.int v6), .val (.int v8), .val (.ref b751), .val (.ref b1123), .val (.ref b1132), .val (.ref b1134)] [(.ref b1123), (.int v4), (.ref b1134)])
        have f1241 : own_AV Z T1217.heap b1123 .int (2 : Int32) (own_upd (own_upd (fun _ => (.int (0 : Int32))) 0 (.int v2)) 1 (.int v6)) := (((((((V1129.ext E1132).ext E1134).keep K1136q (ninS (own_ne (by omega)) nin0)).keep K1165q (ninS (own_ne (by omega)) nin0)).keep K1181q (ninS (own_ne (by omega)) nin0)).keep K1197q (ninS (own_ne (by omega)) nin0)).keep K1217q (ninS (own_ne (by omega)) (ninS (own_ne (by omega)) (ninS (own_ne (by omega)) (ninS (own_ne (by omega)) nin0)))))
        obtain ⟨cq1242, kq1242, q1242a, q1242b, q1242c⟩ := isOf hZ rfl f1219
        obtain ⟨_, _, ⟨T1242, L1242, k1242, n1242⟩, -, X1242, hS1242, gr1242, ⟨Lc1242, hQ1242, l1242, y1242, z1242⟩, st1242⟩ := X1217.virtualBackS hx (y := (⟨"com/example/kalchas/kalchas/propositional/HornClauses", "add", "(I[I)V"⟩ : MethodName)) (z := (⟨"com/example/kalchas/kalchas/propositional/HornClauses", "add", "(I[I)V"⟩ : MethodName)) hown (mvT hZ (hw _ (List.mem_of_getElem? (i := 26) rfl))) (mvT hZ (hw _ (List.mem_of_getElem? (i := 27) rfl))) (notFace_of_selects (args := #[]) (mvT hZ (hw _ (List.mem_of_getElem? (i := 29) rfl)))) (mvT hZ (hw _ (List.mem_of_getElem? (i := 29) rfl))) (mvT hZ (hw _ (List.mem_of_getElem? (i := 28) rfl))) (by decide) (backOfS (W := 0) (own_rm4_12 l Z a0 hw [] b1134 v4 b1123 x_1137 x_1138 x_1139 (own_upd (fun _ => (.int (0 : Int32))) 0 (.int v2)) (own_upd (fun _ => (.int (0 : Int32))) 1 (.int ((0 : Int32) + (1 : Int32)))) gb_1218 ((0 : Int32) + (1 : Int32)) .null v2 v6 T1217.heap n0 (by omega) f1219 f1220 f1221 f1222 f1223 f1224 f1225 f1226 f1227 f1228 f1241 (by simp only [own_lts, and_true]; omega) rfl (by decide) f1229 (show ¬ (v4 < 0) by first | assumption | omega | decide) (show v4 < (3 : Int32) by first | assumption | omega | decide) (show ¬ (v2 < 0) by first | assumption | omega | decide) (show v2 < (3 : Int32) by first | assumption | omega | decide) (show ¬ (v6 < 0) by first | assumption | omega | decide) (show v6 < (3 : Int32) by first | assumption | omega | decide) (by omega) (by omega) (by omega) (by omega)) hZ (hw _ (List.mem_of_getElem? (i := 30) rfl)) (hw _ (List.mem_of_getElem? (i := 4) rfl)) (by decide) (by decide)) q1242a q1242c (g := (mkF m 155 #[.val (.int p_1), .val (.int p_2), .val (.int p_3), .val (.int p_4), .val (.int v2), .val (.int v4), .val (.int v6), .val (.int v8), .val (.ref b751), .val (.ref b1123), .val (.ref b1132), .val (.ref b1134)] [(.ref b1123), (.int v4), (.ref b1134)])) rfl (by rw [hml]; rfl) (Steps.refl _) (argsL := [(.int v4), (.ref b1123)]) (rest := []) (lenOf own_pd4 rfl) rfl (by show 2 * 0 + _ ≤ _; exact Nat.le_of_eq rfl) (hb hby at_155) (fun _ _ => ⟨rfl, rfl, (by show k1217 + _ ≤ _; rw [y1217]; decide), (by show n1217 + _ ≤ _; rw [z1217]; decide)⟩)
        dsimp only [Pt.U, Pt.locs, Pt.cells, Pt.slots] at X1242 l1242 y1242 z1242 st1242 hQ1242 hS1242 gr1242
        have y1242 : k1242 = 17 := own_addeq y1242 (congrArg (fun q => q) y1217) rfl
        have z1242 : n1242 = 385 := own_addeq z1242 (congrArg (fun q => q) z1217) rfl
        have Wn1242 := hS1242.1
        obtain ⟨X1242, hS1242, hZ, hown⟩ := rebS hS1217 (n1 := T1217.heap.size) (by omega) X1242 hS1242 gr1242 hZ hown
        obtain ⟨gb_1243, rfl, N1242q, K1242q, f1244, f1245, f1246, f1247, f1248, f1249, f1250, f1251, f1252, f1253, f1254⟩ := hQ1242
        have N1242 : Fr n0 L1242 := by rw [l1242]; exact Fr.app N1217 N1242q
        have z1255 := K1242q.1
        have z1256 := own_lt f1244.lt
        have z1257 := own_lt f1245.lt
        have z1258 := own_lt f1246.lt
        have z1259 := own_lt f1247.lt
        have z1260 := own_lt f1248.lt
        have z1261 := own_lt f1249.lt
        have z1262 := own_lt f1250.lt
        have z1263 := own_lt f1251.lt
        have z1264 := own_lt f1252.lt
        have z1265 := own_lt f1253.lt
        refine own_go (fun _ k => st1242.trans k) ?_
        show own_Go _ _ _ _ T1242 (mkF m 158 #[.val (.int p_1), .val (.int p_2), .val (.int p_3), .val (.int p_4), .val (.int v2), .val (.int v4), .val (.int v6), .val (.int v8), .val (.ref b751), .val (.ref b1123), .val (.ref b1132), .val (.ref b1134)] [])
        refine own_go (fun _ k => XS.aload X1242.here hx rfl (hb hby at_158) rfl rfl k) ?_
        show own_Go _ _ _ _ T1242 (mkF m 160 #[.val (.int p_1), .val (.int p_2), .val (.int p_3), .val (.int p_4), .val (.int v2), .val (.int v4), .val (.int v6), .val (.int v8), .val (.ref b751), .val (.ref b1123), .val (.ref b1132), .val (.ref b1134)] [(.ref b1134)])
        refine own_go (fun _ k => XS.iload X1242.here hx rfl (hb hby at_160) rfl k) ?_
        show own_Go _ _ _ _ T1242 (mkF m 162 #[.val (.int p_1), .val (.int p_2), .val (.int p_3), .val (.int p_4), .val (.int v2), .val (.int v4), .val (.int v6), .val (.int v8), .val (.ref b751), .val (.ref b1123), .val (.ref b1132), .val (.ref b1134)] [(.int v6), (.ref b1134)])
        refine own_go (fun _ k => XS.aload X1242.here hx rfl (hb hby at_162) rfl rfl k) ?_
        show own_Go _ _ _ _ T1242 (mkF m 164 #[.val (.int p_1), .val (.int p_2), .val (.int p_3), .val (.int p_4), .val (.int v2), .val (.int v4), .val (.int v6), .val (.int v8), .val (.ref b751), .val (.ref b1123), .val (.ref b1132), .val (.ref b1134)] [(.ref b1132), (.int v6), (.ref b1134)])
        have f1266 : own_AV Z T1242.heap b1132 .int (0 : Int32) (fun _ => (.int (0 : Int32))) := (((((((V_b1132.ext E1134).keep K1136q (ninS (own_ne (by omega)) nin0)).keep K1165q (ninS (own_ne (by omega)) nin0)).keep K1181q (ninS (own_ne (by omega)) nin0)).keep K1197q (ninS (own_ne (by omega)) nin0)).keep K1217q (ninS (own_ne (by omega)) (ninS (own_ne (by omega)) (ninS (own_ne (by omega)) (ninS (own_ne (by omega)) nin0))))).keep K1242q (ninS (own_ne (by omega)) (ninS (own_ne (by omega)) (ninS (own_ne (by omega)) (ninS (own_ne (by omega)) nin0)))))
        obtain ⟨cq1267, kq1267, q1267a, q1267b, q1267c⟩ := isOf hZ rfl f1244
        obtain ⟨_, _, ⟨T1267, L1267, k1267, n1267⟩, -, X1267, hS1267, gr1267, ⟨Lc1267, hQ1267, l1267, y1267, z1267⟩, st1267⟩ := X1242.virtualBackS hx (y := (⟨"com/example/kalchas/kalchas/propositional/HornClauses", "add", "(I[I)V"⟩ : MethodName)) (z := (⟨"com/example/kalchas/kalchas/propositional/HornClauses", "add", "(I[I)V"⟩ : MethodName)) hown (mvT hZ (hw _ (List.mem_of_getElem? (i := 26) rfl))) (mvT hZ (hw _ (List.mem_of_getElem? (i := 27) rfl))) (notFace_of_selects (args := #[]) (mvT hZ (hw _ (List.mem_of_getElem? (i := 29) rfl)))) (mvT hZ (hw _ (List.mem_of_getElem? (i := 29) rfl))) (mvT hZ (hw _ (List.mem_of_getElem? (i := 28) rfl))) (by decide) (backOfS (W := 0) (own_rm4_20 l Z a0 hw [] b1134 v6 b1132 x_1137 x_1138 x_1139 (own_upd (own_upd (fun _ => (.int (0 : Int32))) 0 (.int v2)) 1 (.int v4)) (own_upd (own_upd (fun _ => (.int (0 : Int32))) 1 (.int ((0 : Int32) + (1 : Int32)))) 2 (.int (((0 : Int32) + (1 : Int32)) + (2 : Int32)))) gb_1243 (((0 : Int32) + (1 : Int32)) + (2 : Int32)) .null T1242.heap n0 (by omega) f1244 f1245 f1246 f1247 f1248 f1249 f1250 f1251 f1252 f1253 f1266 (by simp only [own_lts, and_true]; omega) rfl (by decide) f1254 (show ¬ (v6 < 0) by first | assumption | omega | decide) (show v6 < (3 : Int32) by first | assumption | omega | decide) (by omega) (by omega) (by omega) (by omega)) hZ (hw _ (List.mem_of_getElem? (i := 30) rfl)) (hw _ (List.mem_of_getElem? (i := 4) rfl)) (by decide) (by decide)) q1267a q1267c (g := (mkF m 164 #[.val (.int p_1), .val (.int p_2), .val (.int p_3), .val (.int p_4), .val (.int v2), .val (.int v4), .val (.int v6), .val (.int v8), .val (.ref b751), .val (.ref b1123), .val (.ref b1132), .val (.ref b1134)] [(.ref b1132), (.int v6), (.ref b1134)])) rfl (by rw [hml]; rfl) (Steps.refl _) (argsL := [(.int v6), (.ref b1132)]) (rest := []) (lenOf own_pd4 rfl) rfl (by show 2 * 0 + _ ≤ _; exact Nat.le_of_eq rfl) (hb hby at_164) (fun _ _ => ⟨rfl, rfl, (by show k1242 + _ ≤ _; rw [y1242]; decide), (by show n1242 + _ ≤ _; rw [z1242]; decide)⟩)
        dsimp only [Pt.U, Pt.locs, Pt.cells, Pt.slots] at X1267 l1267 y1267 z1267 st1267 hQ1267 hS1267 gr1267
        have y1267 : k1267 = 19 := own_addeq y1267 (congrArg (fun q => q) y1242) rfl
        have z1267 : n1267 = 421 := own_addeq z1267 (congrArg (fun q => q) z1242) rfl
        have Wn1267 := hS1267.1
        obtain ⟨X1267, hS1267, hZ, hown⟩ := rebS hS1242 (n1 := T1242.heap.size) (by omega) X1267 hS1267 gr1267 hZ hown
        obtain ⟨gb_1268, rfl, N1267q, K1267q, f1269, f1270, f1271, f1272, f1273, f1274, f1275, f1276, f1277, f1278, f1279⟩ := hQ1267
        have N1267 : Fr n0 L1267 := by rw [l1267]; exact Fr.app N1242 N1267q
        have z1280 := K1267q.1
        have z1281 := own_lt f1269.lt
        have z1282 := own_lt f1270.lt
        have z1283 := own_lt f1271.lt
        have z1284 := own_lt f1272.lt
        have z1285 := own_lt f1273.lt
        have z1286 := own_lt f1274.lt
        have z1287 := own_lt f1275.lt
        have z1288 := own_lt f1276.lt
        have z1289 := own_lt f1277.lt
        have z1290 := own_lt f1278.lt
        refine own_go (fun _ k => st1267.trans k) ?_
        show own_Go _ _ _ _ T1267 (mkF m 167 #[.val (.int p_1), .val (.int p_2), .val (.int p_3), .val (.int p_4), .val (.int v2), .val (.int v4), .val (.int v6), .val (.int v8), .val (.ref b751), .val (.ref b1123), .val (.ref b1132), .val (.ref b1134)] [])
        refine own_go (fun _ k => XS.aload X1267.here hx rfl (hb hby at_167) rfl rfl k) ?_
        show own_Go _ _ _ _ T1267 (mkF m 169 #[.val (.int p_1), .val (.int p_2), .val (.int p_3), .val (.int p_4), .val (.int v2), .val (.int v4), .val (.int v6), .val (.int v8), .val (.ref b751), .val (.ref b1123), .val (.ref b1132), .val (.ref b1134)] [(.ref b1134)])
        refine own_go (fun _ k => XS.iconst X1267.here hx rfl (hb hby at_169) k) ?_
        show own_Go _ _ _ _ T1267 (mkF m 170 #[.val (.int p_1), .val (.int p_2), .val (.int p_3), .val (.int p_4), .val (.int v2), .val (.int v4), .val (.int v6), .val (.int v8), .val (.ref b751), .val (.ref b1123), .val (.ref b1132), .val (.ref b1134)] [(.int (0 : Int32)), (.ref b1134)])
        obtain ⟨cq1291, kq1291, q1291a, q1291b, q1291c⟩ := isOf hZ rfl f1269
        obtain ⟨_, _, ⟨T1291, L1291, k1291, n1291⟩, -, X1291, hS1291, gr1291, ⟨Lc1291, hQ1291, l1291, y1291, z1291⟩, st1291⟩ := X1267.virtualBackS hx (y := (⟨"com/example/kalchas/kalchas/propositional/HornClauses", "head", "(I)I"⟩ : MethodName)) (z := (⟨"com/example/kalchas/kalchas/propositional/HornClauses", "head", "(I)I"⟩ : MethodName)) hown (mvT hZ (hw _ (List.mem_of_getElem? (i := 53) rfl))) (mvT hZ (hw _ (List.mem_of_getElem? (i := 54) rfl))) (notFace_of_selects (args := #[]) (mvT hZ (hw _ (List.mem_of_getElem? (i := 56) rfl)))) (mvT hZ (hw _ (List.mem_of_getElem? (i := 56) rfl))) (mvT hZ (hw _ (List.mem_of_getElem? (i := 55) rfl))) (by decide) (backOfS (W := 0) (own_rm7_0 l Z a0 hw [] b1134 x_1137 (own_upd (own_upd (own_upd (fun _ => (.int (0 : Int32))) 0 (.int v2)) 1 (.int v4)) 2 (.int v6)) v2 T1267.heap n0 (by omega) f1269 f1272 f1271 f1276 rfl) hZ (hw _ (List.mem_of_getElem? (i := 57) rfl)) (hw _ (List.mem_of_getElem? (i := 4) rfl)) (by decide) (by decide)) q1291a q1291c (g := (mkF m 170 #[.val (.int p_1), .val (.int p_2), .val (.int p_3), .val (.int p_4), .val (.int v2), .val (.int v4), .val (.int v6), .val (.int v8), .val (.ref b751), .val (.ref b1123), .val (.ref b1132), .val (.ref b1134)] [(.int (0 : Int32)), (.ref b1134)])) rfl (by rw [hml]; rfl) (Steps.refl _) (argsL := [(.int (0 : Int32))]) (rest := []) (lenOf own_pd5 rfl) rfl (by show 2 * 0 + _ ≤ _; exact Nat.le_of_eq rfl) (hb hby at_170) (fun _ _ => ⟨rfl, rfl, (by show k1267 + _ ≤ _; rw [y1267]; decide), (by show n1267 + _ ≤ _; rw [z1267]; decide)⟩)
        dsimp only [Pt.U, Pt.locs, Pt.cells, Pt.slots] at X1291 l1291 y1291 z1291 st1291 hQ1291 hS1291 gr1291
        have y1291 : k1291 = 21 := own_addeq y1291 (congrArg (fun q => q) y1267) rfl
        have z1291 : n1291 = 449 := own_addeq z1291 (congrArg (fun q => q) z1267) rfl
        have Wn1291 := hS1291.1
        obtain ⟨X1291, hS1291, hZ, hown⟩ := rebS hS1267 (n1 := T1267.heap.size) (by omega) X1291 hS1291 gr1291 hZ hown
        obtain ⟨rfl, N1291q, K1291q⟩ := hQ1291
        have N1291 : Fr n0 L1291 := by rw [l1291]; exact Fr.app N1267 N1291q
        have z1292 := K1291q.1
        refine own_go (fun _ k => st1291.trans k) ?_
        show own_Go _ _ _ _ T1291 (mkF m 173 #[.val (.int p_1), .val (.int p_2), .val (.int p_3), .val (.int p_4), .val (.int v2), .val (.int v4), .val (.int v6), .val (.int v8), .val (.ref b751), .val (.ref b1123), .val (.ref b1132), .val (.ref b1134)] [(.int v2)])
        refine own_go (fun _ k => XS.iload X1291.here hx rfl (hb hby at_173) rfl k) ?_
        show own_Go _ _ _ _ T1291 (mkF m 175 #[.val (.int p_1), .val (.int p_2), .val (.int p_3), .val (.int p_4), .val (.int v2), .val (.int v4), .val (.int v6), .val (.int v8), .val (.ref b751), .val (.ref b1123), .val (.ref b1132), .val (.ref b1134)] [(.int v2), (.int v2)])
        have hc1293 : v2 = v2 := rfl
        refine own_go (fun _ k => XS.icmpNo X1291.here hx rfl (hb hby at_175) rfl (Jvm.Free.XT.ii_ne_f hc1293) k) ?_
        show own_Go _ _ _ _ T1291 (mkF m 178 #[.val (.int p_1), .val (.int p_2), .val (.int p_3), .val (.int p_4), .val (.int v2), .val (.int v4), .val (.int v6), .val (.int v8), .val (.ref b751), .val (.ref b1123), .val (.ref b1132), .val (.ref b1134)] [])
        refine own_go (fun _ k => XS.aload X1291.here hx rfl (hb hby at_178) rfl rfl k) ?_
        show own_Go _ _ _ _ T1291 (mkF m 180 #[.val (.int p_1), .val (.int p_2), .val (.int p_3), .val (.int p_4), .val (.int v2), .val (.int v4), .val (.int v6), .val (.int v8), .val (.ref b751), .val (.ref b1123), .val (.ref b1132), .val (.ref b1134)] [(.ref b1134)])
        refine own_go (fun _ k => XS.iconst X1291.here hx rfl (hb hby at_180) k) ?_
        show own_Go _ _ _ _ T1291 (mkF m 181 #[.val (.int p_1), .val (.int p_2), .val (.int p_3), .val (.int p_4), .val (.int v2), .val (.int v4), .val (.int v6), .val (.int v8), .val (.ref b751), .val (.ref b1123), .val (.ref b1132), .val (.ref b1134)] [(.int (1 : Int32)), (.ref b1134)])
        have f1294 : Exa Z T1291.heap b1134 "com/example/kalchas/kalchas/propositional/HornClauses" := (f1269.keep K1291q)
        have f1295 : Fld Z T1291.heap b1134 "com/example/kalchas/kalchas/propositional/HornClauses" "heads" "[I" (.ref x_1137) := (f1272.keep K1291q nin0)
        have f1296 : Fld Z T1291.heap b1134 "com/example/kalchas/kalchas/propositional/HornClauses" "clauseCount" "I" (.int (3 : Int32)) := (f1271.keep K1291q nin0)
        have f1297 : own_AV Z T1291.heap x_1137 .int (64 : Int32) (own_upd (own_upd (own_upd (fun _ => (.int (0 : Int32))) 0 (.int v2)) 1 (.int v4)) 2 (.int v6)) := (f1276.keep K1291q nin0)
        obtain ⟨cq1298, kq1298, q1298a, q1298b, q1298c⟩ := isOf hZ rfl f1294
        obtain ⟨_, _, ⟨T1298, L1298, k1298, n1298⟩, -, X1298, hS1298, gr1298, ⟨Lc1298, hQ1298, l1298, y1298, z1298⟩, st1298⟩ := X1291.virtualBackS hx (y := (⟨"com/example/kalchas/kalchas/propositional/HornClauses", "head", "(I)I"⟩ : MethodName)) (z := (⟨"com/example/kalchas/kalchas/propositional/HornClauses", "head", "(I)I"⟩ : MethodName)) hown (mvT hZ (hw _ (List.mem_of_getElem? (i := 53) rfl))) (mvT hZ (hw _ (List.mem_of_getElem? (i := 54) rfl))) (notFace_of_selects (args := #[]) (mvT hZ (hw _ (List.mem_of_getElem? (i := 56) rfl)))) (mvT hZ (hw _ (List.mem_of_getElem? (i := 56) rfl))) (mvT hZ (hw _ (List.mem_of_getElem? (i := 55) rfl))) (by decide) (backOfS (W := 0) (own_rm7_1 l Z a0 hw [] b1134 x_1137 (own_upd (own_upd (own_upd (fun _ => (.int (0 : Int32))) 0 (.int v2)) 1 (.int v4)) 2 (.int v6)) v4 T1291.heap n0 (by omega) f1294 f1295 f1296 f1297 rfl) hZ (hw _ (List.mem_of_getElem? (i := 57) rfl)) (hw _ (List.mem_of_getElem? (i := 4) rfl)) (by decide) (by decide)) q1298a q1298c (g := (mkF m 181 #[.val (.int p_1), .val (.int p_2), .val (.int p_3), .val (.int p_4), .val (.int v2), .val (.int v4), .val (.int v6), .val (.int v8), .val (.ref b751), .val (.ref b1123), .val (.ref b1132), .val (.ref b1134)] [(.int (1 : Int32)), (.ref b1134)])) rfl (by rw [hml]; rfl) (Steps.refl _) (argsL := [(.int (1 : Int32))]) (rest := []) (lenOf own_pd5 rfl) rfl (by show 2 * 0 + _ ≤ _; exact Nat.le_of_eq rfl) (hb hby at_181) (fun _ _ => ⟨rfl, rfl, (by show k1291 + _ ≤ _; rw [y1291]; decide), (by show n1291 + _ ≤ _; rw [z1291]; decide)⟩)
        dsimp only [Pt.U, Pt.locs, Pt.cells, Pt.slots] at X1298 l1298 y1298 z1298 st1298 hQ1298 hS1298 gr1298
        have y1298 : k1298 = 23 := own_addeq y1298 (congrArg (fun q => q) y1291) rfl
        have z1298 : n1298 = 477 := own_addeq z1298 (congrArg (fun q => q) z1291) rfl
        have Wn1298 := hS1298.1
        obtain ⟨X1298, hS1298, hZ, hown⟩ := rebS hS1291 (n1 := T1291.heap.size) (by omega) X1298 hS1298 gr1298 hZ hown
        obtain ⟨rfl, N1298q, K1298q⟩ := hQ1298
        have N1298 : Fr n0 L1298 := by rw [l1298]; exact Fr.app N1291 N1298q
        have z1299 := K1298q.1
        refine own_go (fun _ k => st1298.trans k) ?_
        show own_Go _ _ _ _ T1298 (mkF m 184 #[.val (.int p_1), .val (.int p_2), .val (.int p_3), .val (.int p_4), .val (.int v2), .val (.int v4), .val (.int v6), .val (.int v8), .val (.ref b751), .val (.ref b1123), .val (.ref b1132), .val (.ref b1134)] [(.int v4)])
        refine own_go (fun _ k => XS.iload X1298.here hx rfl (hb hby at_184) rfl k) ?_
        show own_Go _ _ _ _ T1298 (mkF m 186 #[.val (.int p_1), .val (.int p_2), .val (.int p_3), .val (.int p_4), .val (.int v2), .val (.int v4), .val (.int v6), .val (.int v8), .val (.ref b751), .val (.ref b1123), .val (.ref b1132), .val (.ref b1134)] [(.int v4), (.int v4)])
        have hc1300 : v4 = v4 := rfl
        refine own_go (fun _ k => XS.icmpNo X1298.here hx rfl (hb hby at_186) rfl (Jvm.Free.XT.ii_ne_f hc1300) k) ?_
        show own_Go _ _ _ _ T1298 (mkF m 189 #[.val (.int p_1), .val (.int p_2), .val (.int p_3), .val (.int p_4), .val (.int v2), .val (.int v4), .val (.int v6), .val (.int v8), .val (.ref b751), .val (.ref b1123), .val (.ref b1132), .val (.ref b1134)] [])
        refine own_go (fun _ k => XS.aload X1298.here hx rfl (hb hby at_189) rfl rfl k) ?_
        show own_Go _ _ _ _ T1298 (mkF m 191 #[.val (.int p_1), .val (.int p_2), .val (.int p_3), .val (.int p_4), .val (.int v2), .val (.int v4), .val (.int v6), .val (.int v8), .val (.ref b751), .val (.ref b1123), .val (.ref b1132), .val (.ref b1134)] [(.ref b1134)])
        refine own_go (fun _ k => XS.iconst X1298.here hx rfl (hb hby at_191) k) ?_
        show own_Go _ _ _ _ T1298 (mkF m 192 #[.val (.int p_1), .val (.int p_2), .val (.int p_3), .val (.int p_4), .val (.int v2), .val (.int v4), .val (.int v6), .val (.int v8), .val (.ref b751), .val (.ref b1123), .val (.ref b1132), .val (.ref b1134)] [(.int (2 : Int32)), (.ref b1134)])
        have f1301 : Exa Z T1298.heap b1134 "com/example/kalchas/kalchas/propositional/HornClauses" := (f1294.keep K1298q)
        have f1302 : Fld Z T1298.heap b1134 "com/example/kalchas/kalchas/propositional/HornClauses" "heads" "[I" (.ref x_1137) := (f1295.keep K1298q nin0)
        have f1303 : Fld Z T1298.heap b1134 "com/example/kalchas/kalchas/propositional/HornClauses" "clauseCount" "I" (.int (3 : Int32)) := (f1296.keep K1298q nin0)
        have f1304 : own_AV Z T1298.heap x_1137 .int (64 : Int32) (own_upd (own_upd (own_upd (fun _ => (.int (0 : Int32))) 0 (.int v2)) 1 (.int v4)) 2 (.int v6)) := (f1297.keep K1298q nin0)
        obtain ⟨cq1305, kq1305, q1305a, q1305b, q1305c⟩ := isOf hZ rfl f1301
        obtain ⟨_, _, ⟨T1305, L1305, k1305, n1305⟩, -, X1305, hS1305, gr1305, ⟨Lc1305, hQ1305, l1305, y1305, z1305⟩, st1305⟩ := X1298.virtualBackS hx (y := (⟨"com/example/kalchas/kalchas/propositional/HornClauses", "head", "(I)I"⟩ : MethodName)) (z := (⟨"com/example/kalchas/kalchas/propositional/HornClauses", "head", "(I)I"⟩ : MethodName)) hown (mvT hZ (hw _ (List.mem_of_getElem? (i := 53) rfl))) (mvT hZ (hw _ (List.mem_of_getElem? (i := 54) rfl))) (notFace_of_selects (args := #[]) (mvT hZ (hw _ (List.mem_of_getElem? (i := 56) rfl)))) (mvT hZ (hw _ (List.mem_of_getElem? (i := 56) rfl))) (mvT hZ (hw _ (List.mem_of_getElem? (i := 55) rfl))) (by decide) (backOfS (W := 0) (own_rm7_2 l Z a0 hw [] b1134 x_1137 (own_upd (own_upd (own_upd (fun _ => (.int (0 : Int32))) 0 (.int v2)) 1 (.int v4)) 2 (.int v6)) v6 T1298.heap n0 (by omega) f1301 f1302 f1303 f1304 rfl) hZ (hw _ (List.mem_of_getElem? (i := 57) rfl)) (hw _ (List.mem_of_getElem? (i := 4) rfl)) (by decide) (by decide)) q1305a q1305c (g := (mkF m 192 #[.val (.int p_1), .val (.int p_2), .val (.int p_3), .val (.int p_4), .val (.int v2), .val (.int v4), .val (.int v6), .val (.int v8), .val (.ref b751), .val (.ref b1123), .val (.ref b1132), .val (.ref b1134)] [(.int (2 : Int32)), (.ref b1134)])) rfl (by rw [hml]; rfl) (Steps.refl _) (argsL := [(.int (2 : Int32))]) (rest := []) (lenOf own_pd5 rfl) rfl (by show 2 * 0 + _ ≤ _; exact Nat.le_of_eq rfl) (hb hby at_192) (fun _ _ => ⟨rfl, rfl, (by show k1298 + _ ≤ _; rw [y1298]; decide), (by show n1298 + _ ≤ _; rw [z1298]; decide)⟩)
        dsimp only [Pt.U, Pt.locs, Pt.cells, Pt.slots] at X1305 l1305 y1305 z1305 st1305 hQ1305 hS1305 gr1305
        have y1305 : k1305 = 25 := own_addeq y1305 (congrArg (fun q => q) y1298) rfl
        have z1305 : n1305 = 505 := own_addeq z1305 (congrArg (fun q => q) z1298) rfl
        have Wn1305 := hS1305.1
        obtain ⟨X1305, hS1305, hZ, hown⟩ := rebS hS1298 (n1 := T1298.heap.size) (by omega) X1305 hS1305 gr1305 hZ hown
        obtain ⟨rfl, N1305q, K1305q⟩ := hQ1305
        have N1305 : Fr n0 L1305 := by rw [l1305]; exact Fr.app N1298 N1305q
        have z1306 := K1305q.1
        refine own_go (fun _ k => st1305.trans k) ?_
        show own_Go _ _ _ _ T1305 (mkF m 195 #[.val (.int p_1), .val (.int p_2), .val (.int p_3), .val (.int p_4), .val (.int v2), .val (.int v4), .val (.int v6), .val (.int v8), .val (.ref b751), .val (.ref b1123), .val (.ref b1132), .val (.ref b1134)] [(.int v6)])
        refine own_go (fun _ k => XS.iload X1305.here hx rfl (hb hby at_195) rfl k) ?_
        show own_Go _ _ _ _ T1305 (mkF m 197 #[.val (.int p_1), .val (.int p_2), .val (.int p_3), .val (.int p_4), .val (.int v2), .val (.int v4), .val (.int v6), .val (.int v8), .val (.ref b751), .val (.ref b1123), .val (.ref b1132), .val (.ref b1134)] [(.int v6), (.int v6)])
        have hc1307 : v6 = v6 := rfl
        refine own_go (fun _ k => XS.icmpNo X1305.here hx rfl (hb hby at_197) rfl (Jvm.Free.XT.ii_ne_f hc1307) k) ?_
        show own_Go _ _ _ _ T1305 (mkF m 200 #[.val (.int p_1), .val (.int p_2), .val (.int p_3), .val (.int p_4), .val (.int v2), .val (.int v4), .val (.int v6), .val (.int v8), .val (.ref b751), .val (.ref b1123), .val (.ref b1132), .val (.ref b1134)] [])
        refine own_go (fun _ k => XS.iconst X1305.here hx rfl (hb hby at_200) k) ?_
        show own_Go _ _ _ _ T1305 (mkF m 201 #[.val (.int p_1), .val (.int p_2), .val (.int p_3), .val (.int p_4), .val (.int v2), .val (.int v4), .val (.int v6), .val (.int v8), .val (.ref b751), .val (.ref b1123), .val (.ref b1132), .val (.ref b1134)] [(.int (1 : Int32))])
        refine own_go (fun _ k => XS.goto X1305.here hx rfl (pc0 := 201) (pc' := 205) rfl (hb hby at_201) (by decide) (by decide) k) ?_
        show own_Go _ _ _ _ T1305 (mkF m 205 #[.val (.int p_1), .val (.int p_2), .val (.int p_3), .val (.int p_4), .val (.int v2), .val (.int v4), .val (.int v6), .val (.int v8), .val (.ref b751), .val (.ref b1123), .val (.ref b1132), .val (.ref b1134)] [(.int (1 : Int32))])
        obtain ⟨fs, hr, hrun, hended, hRW⟩ := X1305.leaveW hS1305 (by omega) (v := some (.int (1 : Int32))) (fun h => by rw [Bd.returns] at h; cases h)
        refine ⟨_, _, retOut X1305 hx Bd.returns rfl (Or.inl ⟨rfl, Or.inr (Or.inl rfl), _, rfl⟩) (hb hby at_205) hr, hrun, hended, _, _, rfl, ?_, own_monoW hRW (by rw [y1305]; decide) (by rw [z1305]; decide)⟩
        exact ⟨rfl, N1305⟩
      · refine own_go (fun _ k => XS.ifNo X1129.here hx rfl (hb hby at_84) rfl (Jvm.Free.XT.i0_eq_f hc1131) k) ?_
        show own_Go _ _ _ _ T1129 (mkF m 87 #[.val (.int p_1), .val (.int p_2), .val (.int p_3), .val (.int p_4), .val (.int v2), .val (.int v4), .val (.int v6), .val (.int v8), .val (.ref b751), .val (.ref b1123), .unset, .unset] [])
        refine own_go (fun _ k => XS.iconst X1129.here hx rfl (hb hby at_87) k) ?_
        show own_Go _ _ _ _ T1129 (mkF m 88 #[.val (.int p_1), .val (.int p_2), .val (.int p_3), .val (.int p_4), .val (.int v2), .val (.int v4), .val (.int v6), .val (.int v8), .val (.ref b751), .val (.ref b1123), .unset, .unset] [(.int (3 : Int32))])
        obtain ⟨T1309, h1309, k1309, X1309, e1309, E1309, A1309, st1309⟩ := newP X1129 hx hZ (hw _ (List.mem_of_getElem? (i := 1) rfl)) e1129 (g := (mkF m 88 #[.val (.int p_1), .val (.int p_2), .val (.int p_3), .val (.int p_4), .val (.int v2), .val (.int v4), .val (.int v6), .val (.int v8), .val (.ref b751), .val (.ref b1123), .unset, .unset] [(.int (3 : Int32))])) rfl (hb hby at_88) rfl (by decide) (cap := 3) (by decide) (by decide) (by decide) (by decide)
        obtain ⟨b1309, g1309⟩ : ∃ z, z = h1129.size := ⟨_, rfl⟩
        rw [← g1309] at A1309 st1309
        have z1310 := E1309.1
        have lt_b1309 := own_lt A1309.lt
        have V_b1309 : own_AV Z h1309 b1309 .int (3 : Int32) (fun _ => (.int (0 : Int32))) := own_AV.new A1309 (by decide)
        refine own_go (fun _ k => st1309 _ k) ?_
        show own_Go _ _ _ _ T1309 (mkF m 90 #[.val (.int p_1), .val (.int p_2), .val (.int p_3), .val (.int p_4), .val (.int v2), .val (.int v4), .val (.int v6), .val (.int v8), .val (.ref b751), .val (.ref b1123), .unset, .unset] [(.ref b1309)])
        refine own_go (fun _ k => XS.dup X1309.here hx rfl (hb hby at_90) rfl rfl k) ?_
        show own_Go _ _ _ _ T1309 (mkF m 91 #[.val (.int p_1), .val (.int p_2), .val (.int p_3), .val (.int p_4), .val (.int v2), .val (.int v4), .val (.int v6), .val (.int v8), .val (.ref b751), .val (.ref b1123), .unset, .unset] [(.ref b1309), (.ref b1309)])
        refine own_go (fun _ k => XS.iconst X1309.here hx rfl (hb hby at_91) k) ?_
        show own_Go _ _ _ _ T1309 (mkF m 92 #[.val (.int p_1), .val (.int p_2), .val (.int p_3), .val (.int p_4), .val (.int v2), .val (.int v4), .val (.int v6), .val (.int v8), .val (.ref b751), .val (.ref b1123), .unset, .unset] [(.int (0 : Int32)), (.ref b1309), (.ref b1309)])
        refine own_go (fun _ k => XS.iload X1309.here hx rfl (hb hby at_92) rfl k) ?_
        show own_Go _ _ _ _ T1309 (mkF m 94 #[.val (.int p_1), .val (.int p_2), .val (.int p_3), .val (.int p_4), .val (.int v2), .val (.int v4), .val (.int v6), .val (.int v8), .val (.ref b751), .val (.ref b1123), .unset, .unset] [(.int v4), (.int (0 : Int32)), (.ref b1309), (.ref b1309)])
        obtain ⟨q1311, c1311, R1311, s1311, t1311⟩ := id V_b1309
        have hin1311 : ¬ ((0 : Int32) < 0 ∨ c1311.slots.size ≤ ((0 : Int32)).toNatClampNeg) := inb_of s1311 ⟨by decide, by decide⟩
        obtain ⟨T1312, h1312, X1312, e1312, W1312, st1312⟩ := stI X1309 hx hZ e1309 R1311 (j := (0 : Int32)) hin1311 (g := (mkF m 94 #[.val (.int p_1), .val (.int p_2), .val (.int p_3), .val (.int p_4), .val (.int v2), .val (.int v4), .val (.int v6), .val (.int v8), .val (.ref b751), .val (.ref b1123), .unset, .unset] [(.int v4), (.int (0 : Int32)), (.ref b1309), (.ref b1309)])) rfl rfl (hb hby at_94)
        have V1312 : own_AV Z h1312 b1309 .int (3 : Int32) (own_upd (fun _ => (.int (0 : Int32))) 0 (.int v4)) := own_AV.set (k := 0) V_b1309 W1312 (by decide)
        have z1313 := W1312.size
        have N1312 := Fr.snoc X1312 N1129 (by omega : n0 ≤ b1309)
        refine own_go (fun _ k => st1312 _ k) ?_
        show own_Go _ _ _ _ T1312 (mkF m 95 #[.val (.int p_1), .val (.int p_2), .val (.int p_3), .val (.int p_4), .val (.int v2), .val (.int v4), .val (.int v6), .val (.int v8), .val (.ref b751), .val (.ref b1123), .unset, .unset] [(.ref b1309)])
        refine own_go (fun _ k => XS.dup X1312.here hx rfl (hb hby at_95) rfl rfl k) ?_
        show own_Go _ _ _ _ T1312 (mkF m 96 #[.val (.int p_1), .val (.int p_2), .val (.int p_3), .val (.int p_4), .val (.int v2), .val (.int v4), .val (.int v6), .val (.int v8), .val (.ref b751), .val (.ref b1123), .unset, .unset] [(.ref b1309), (.ref b1309)])
        refine own_go (fun _ k => XS.iconst X1312.here hx rfl (hb hby at_96) k) ?_
        show own_Go _ _ _ _ T1312 (mkF m 97 #[.val (.int p_1), .val (.int p_2), .val (.int p_3), .val (.int p_4), .val (.int v2), .val (.int v4), .val (.int v6), .val (.int v8), .val (.ref b751), .val (.ref b1123), .unset, .unset] [(.int (1 : Int32)), (.ref b1309), (.ref b1309)])
        refine own_go (fun _ k => XS.iload X1312.here hx rfl (hb hby at_97) rfl k) ?_
        show own_Go _ _ _ _ T1312 (mkF m 99 #[.val (.int p_1), .val (.int p_2), .val (.int p_3), .val (.int p_4), .val (.int v2), .val (.int v4), .val (.int v6), .val (.int v8), .val (.ref b751), .val (.ref b1123), .unset, .unset] [(.int v8), (.int (1 : Int32)), (.ref b1309), (.ref b1309)])
        obtain ⟨q1314, c1314, R1314, s1314, t1314⟩ := id V1312
        have hin1314 : ¬ ((1 : Int32) < 0 ∨ c1314.slots.size ≤ ((1 : Int32)).toNatClampNeg) := inb_of s1314 ⟨by decide, by decide⟩
        obtain ⟨T1315, h1315, X1315, e1315, W1315, st1315⟩ := stI X1312 hx hZ e1312 R1314 (j := (1 : Int32)) hin1314 (g := (mkF m 99 #[.val (.int p_1), .val (.int p_2), .val (.int p_3), .val (.int p_4), .val (.int v2), .val (.int v4), .val (.int v6), .val (.int v8), .val (.ref b751), .val (.ref b1123), .unset, .unset] [(.int v8), (.int (1 : Int32)), (.ref b1309), (.ref b1309)])) rfl rfl (hb hby at_99)
        have V1315 : own_AV Z h1315 b1309 .int (3 : Int32) (own_upd (own_upd (fun _ => (.int (0 : Int32))) 0 (.int v4)) 1 (.int v8)) := own_AV.set (k := 1) V1312 W1315 (by decide)
        have z1316 := W1315.size
        have N1315 := Fr.snoc X1315 N1312 (by omega : n0 ≤ b1309)
        refine own_go (fun _ k => st1315 _ k) ?_
        show own_Go _ _ _ _ T1315 (mkF m 100 #[.val (.int p_1), .val (.int p_2), .val (.int p_3), .val (.int p_4), .val (.int v2), .val (.int v4), .val (.int v6), .val (.int v8), .val (.ref b751), .val (.ref b1123), .unset, .unset] [(.ref b1309)])
        refine own_go (fun _ k => XS.dup X1315.here hx rfl (hb hby at_100) rfl rfl k) ?_
        show own_Go _ _ _ _ T1315 (mkF m 101 #[.val (.int p_1), .val (.int p_2), .val (.int p_3), .val (.int p_4), .val (.int v2), .val (.int v4), .val (.int v6), .val (.int v8), .val (.ref b751), .val (.ref b1123), .unset, .unset] [(.ref b1309), (.ref b1309)])
        refine own_go (fun _ k => XS.iconst X1315.here hx rfl (hb hby at_101) k) ?_
        show own_Go _ _ _ _ T1315 (mkF m 102 #[.val (.int p_1), .val (.int p_2), .val (.int p_3), .val (.int p_4), .val (.int v2), .val (.int v4), .val (.int v6), .val (.int v8), .val (.ref b751), .val (.ref b1123), .unset, .unset] [(.int (2 : Int32)), (.ref b1309), (.ref b1309)])
        refine own_go (fun _ k => XS.iload X1315.here hx rfl (hb hby at_102) rfl k) ?_
        show own_Go _ _ _ _ T1315 (mkF m 104 #[.val (.int p_1), .val (.int p_2), .val (.int p_3), .val (.int p_4), .val (.int v2), .val (.int v4), .val (.int v6), .val (.int v8), .val (.ref b751), .val (.ref b1123), .unset, .unset] [(.int v2), (.int (2 : Int32)), (.ref b1309), (.ref b1309)])
        obtain ⟨q1317, c1317, R1317, s1317, t1317⟩ := id V1315
        have hin1317 : ¬ ((2 : Int32) < 0 ∨ c1317.slots.size ≤ ((2 : Int32)).toNatClampNeg) := inb_of s1317 ⟨by decide, by decide⟩
        obtain ⟨T1318, h1318, X1318, e1318, W1318, st1318⟩ := stI X1315 hx hZ e1315 R1317 (j := (2 : Int32)) hin1317 (g := (mkF m 104 #[.val (.int p_1), .val (.int p_2), .val (.int p_3), .val (.int p_4), .val (.int v2), .val (.int v4), .val (.int v6), .val (.int v8), .val (.ref b751), .val (.ref b1123), .unset, .unset] [(.int v2), (.int (2 : Int32)), (.ref b1309), (.ref b1309)])) rfl rfl (hb hby at_104)
        have V1318 : own_AV Z h1318 b1309 .int (3 : Int32) (own_upd (own_upd (own_upd (fun _ => (.int (0 : Int32))) 0 (.int v4)) 1 (.int v8)) 2 (.int v2)) := own_AV.set (k := 2) V1315 W1318 (by decide)
        have z1319 := W1318.size
        have N1318 := Fr.snoc X1318 N1315 (by omega : n0 ≤ b1309)
        refine own_go (fun _ k => st1318 _ k) ?_
        show own_Go _ _ _ _ T1318 (mkF m 105 #[.val (.int p_1), .val (.int p_2), .val (.int p_3), .val (.int p_4), .val (.int v2), .val (.int v4), .val (.int v6), .val (.int v8), .val (.ref b751), .val (.ref b1123), .unset, .unset] [(.ref b1309)])
        refine own_go (fun _ k => XS.goto X1318.here hx rfl (pc0 := 105) (pc' := 111) rfl (hb hby at_105) (by decide) (by decide) k) ?_
        show own_Go _ _ _ _ T1318 (mkF m 111 #[.val (.int p_1), .val (.int p_2), .val (.int p_3), .val (.int p_4), .val (.int v2), .val (.int v4), .val (.int v6), .val (.int v8), .val (.ref b751), .val (.ref b1123), .unset, .unset] [(.ref b1309)])
        refine own_go (fun _ k => XS.astore X1318.here hx rfl (hb hby at_111) rfl rfl (l' := #[.val (.int p_1), .val (.int p_2), .val (.int p_3), .val (.int p_4), .val (.int v2), .val (.int v4), .val (.int v6), .val (.int v8), .val (.ref b751), .val (.ref b1123), .val (.ref b1309), .unset]) rfl k) ?_
        show own_Go _ _ _ _ T1318 (mkF m 113 #[.val (.int p_1), .val (.int p_2), .val (.int p_3), .val (.int p_4), .val (.int v2), .val (.int v4), .val (.int v6), .val (.int v8), .val (.ref b751), .val (.ref b1123), .val (.ref b1309), .unset] [])
        obtain ⟨T1320, h1320, X1320, e1320, E1320, A1320, D1320, Y1320, st1320⟩ := newO X1318 hx hZ hown (hw _ (List.mem_of_getElem? (i := 2) rfl)) (hw _ (List.mem_of_getElem? (i := 3) rfl)) (hw _ (List.mem_of_getElem? (i := 4) rfl)) e1318 (g := (mkF m 113 #[.val (.int p_1), .val (.int p_2), .val (.int p_3), .val (.int p_4), .val (.int v2), .val (.int v4), .val (.int v6), .val (.int v8), .val (.ref b751), .val (.ref b1123), .val (.ref b1309), .unset] [])) rfl (hb hby at_113) (by decide) (by decide)
        obtain ⟨b1320, g1320⟩ : ∃ z, z = h1318.size := ⟨_, rfl⟩
        rw [← g1320] at A1320 D1320 Y1320 st1320
        have z1321 := E1320.1
        have lt_b1320 := own_lt A1320.lt
        have F_heads_b1320 : Fld Z h1320 b1320 "com/example/kalchas/kalchas/propositional/HornClauses" "heads" "[I" .null := D1320 (Or.inl (hw _ (List.mem_of_getElem? (i := 12) rfl))) (ty := (.array .int)) (by decide)
        have F_bodyStarts_b1320 : Fld Z h1320 b1320 "com/example/kalchas/kalchas/propositional/HornClauses" "bodyStarts" "[I" .null := D1320 (Or.inl (hw _ (List.mem_of_getElem? (i := 14) rfl))) (ty := (.array .int)) (by decide)
        have F_bodies_b1320 : Fld Z h1320 b1320 "com/example/kalchas/kalchas/propositional/HornClauses" "bodies" "[I" .null := D1320 (Or.inl (hw _ (List.mem_of_getElem? (i := 16) rfl))) (ty := (.array .int)) (by decide)
        have F_occurrences_b1320 : Fld Z h1320 b1320 "com/example/kalchas/kalchas/propositional/HornClauses" "occurrences" "[I" .null := D1320 (Or.inl (hw _ (List.mem_of_getElem? (i := 23) rfl))) (ty := (.array .int)) (by decide)
        have F_variableCount_b1320 : Fld Z h1320 b1320 "com/example/kalchas/kalchas/propositional/HornClauses" "variableCount" "I" (.int (0 : Int32)) := D1320 (Or.inl (hw _ (List.mem_of_getElem? (i := 25) rfl))) (ty := .int) (by decide)
        have F_clauseCount_b1320 : Fld Z h1320 b1320 "com/example/kalchas/kalchas/propositional/HornClauses" "clauseCount" "I" (.int (0 : Int32)) := D1320 (Or.inl (hw _ (List.mem_of_getElem? (i := 48) rfl))) (ty := .int) (by decide)
        refine own_go (fun _ k => st1320 _ k) ?_
        show own_Go _ _ _ _ T1320 (mkF m 116 #[.val (.int p_1), .val (.int p_2), .val (.int p_3), .val (.int p_4), .val (.int v2), .val (.int v4), .val (.int v6), .val (.int v8), .val (.ref b751), .val (.ref b1123), .val (.ref b1309), .unset] [(.ref b1320)])
        refine own_go (fun _ k => XS.dup X1320.here hx rfl (hb hby at_116) rfl rfl k) ?_
        show own_Go _ _ _ _ T1320 (mkF m 117 #[.val (.int p_1), .val (.int p_2), .val (.int p_3), .val (.int p_4), .val (.int v2), .val (.int v4), .val (.int v6), .val (.int v8), .val (.ref b751), .val (.ref b1123), .val (.ref b1309), .unset] [(.ref b1320), (.ref b1320)])
        obtain ⟨_, _, ⟨T1322, L1322, k1322, n1322⟩, -, X1322, ⟨Lc1322, hQ1322, l1322, y1322, z1322⟩, st1322⟩ := X1320.specialBack hx (y := (⟨"com/example/kalchas/kalchas/propositional/HornClauses", "<init>", "()V"⟩ : MethodName)) rfl hown (mvT hZ (hw _ (List.mem_of_getElem? (i := 5) rfl))) (mvT hZ (hw _ (List.mem_of_getElem? (i := 6) rfl))) (mvT hZ (hw _ (List.mem_of_getElem? (i := 7) rfl))) (by decide) (backOf (W := 1) (own_rm1 l Z a0 hw [] b1320 .null .null .null .null (0 : Int32) (0 : Int32) h1320 n0 (by omega) A1320 F_heads_b1320 F_bodyStarts_b1320 F_bodies_b1320 F_occurrences_b1320 F_variableCount_b1320 F_clauseCount_b1320 (by omega)) hZ (hw _ (List.mem_of_getElem? (i := 7) rfl)) (hw _ (List.mem_of_getElem? (i := 4) rfl)) (by decide) (by decide)) (g := (mkF m 117 #[.val (.int p_1), .val (.int p_2), .val (.int p_3), .val (.int p_4), .val (.int v2), .val (.int v4), .val (.int v6), .val (.int v8), .val (.ref b751), .val (.ref b1123), .val (.ref b1309), .unset] [(.ref b1320), (.ref b1320)])) rfl (by rw [hml]; rfl) (Steps.refl _) (a := b1320) (argsL := []) (rest := [(.ref b1320)]) (lenOf own_pd2 rfl) rfl (by show 2 * 0 + _ ≤ _; exact Nat.le_of_eq rfl) (hb hby at_117) (fun _ _ => ⟨rfl, e1320, (by decide : 4 + 3 ≤ _), (by decide : 15 + 193 ≤ _)⟩)
        dsimp only [Pt.U, Pt.locs, Pt.cells, Pt.slots] at X1322 l1322 y1322 z1322 st1322 hQ1322
        have y1322 : k1322 = 7 := y1322
        have z1322 : n1322 = 208 := z1322
        obtain ⟨x_1323, x_1324, x_1325, rfl, N1322q, K1322q, f1326, f1327, f1328, f1329, f1330, f1331, f1332, f1333, f1334, f1335, f1336, f1337, f1338, f1339⟩ := hQ1322
        have N1322 : Fr n0 L1322 := by rw [l1322]; exact Fr.app N1318 N1322q
        have z1340 := K1322q.1
        have z1341 := own_lt f1326.lt
        have z1342 := own_lt f1327.lt
        have z1343 := own_lt f1328.lt
        have z1344 := own_lt f1329.lt
        have z1345 := own_lt f1330.lt
        have z1346 := own_lt f1331.lt
        have z1347 := own_lt f1332.lt
        have z1348 := own_lt f1333.lt
        have z1349 := own_lt f1334.lt
        have z1350 := own_lt f1335.lt
        simp only [own_lts, and_true] at f1339
        refine own_go (fun _ k => st1322.trans k) ?_
        show own_Go _ _ _ _ T1322 (mkF m 120 #[.val (.int p_1), .val (.int p_2), .val (.int p_3), .val (.int p_4), .val (.int v2), .val (.int v4), .val (.int v6), .val (.int v8), .val (.ref b751), .val (.ref b1123), .val (.ref b1309), .unset] [(.ref b1320)])
        refine own_go (fun _ k => XS.astore X1322.here hx rfl (hb hby at_120) rfl rfl (l' := #[.val (.int p_1), .val (.int p_2), .val (.int p_3), .val (.int p_4), .val (.int v2), .val (.int v4), .val (.int v6), .val (.int v8), .val (.ref b751), .val (.ref b1123), .val (.ref b1309), .val (.ref b1320)]) rfl k) ?_
        show own_Go _ _ _ _ T1322 (mkF m 122 #[.val (.int p_1), .val (.int p_2), .val (.int p_3), .val (.int p_4), .val (.int v2), .val (.int v4), .val (.int v6), .val (.int v8), .val (.ref b751), .val (.ref b1123), .val (.ref b1309), .val (.ref b1320)] [])
        refine own_go (fun _ k => XS.aload X1322.here hx rfl (hb hby at_122) rfl rfl k) ?_
        show own_Go _ _ _ _ T1322 (mkF m 124 #[.val (.int p_1), .val (.int p_2), .val (.int p_3), .val (.int p_4), .val (.int v2), .val (.int v4), .val (.int v6), .val (.int v8), .val (.ref b751), .val (.ref b1123), .val (.ref b1309), .val (.ref b1320)] [(.ref b1320)])
        obtain ⟨cq1351, kq1351, q1351a, q1351b, q1351c⟩ := isOf hZ rfl f1326
        obtain ⟨_, _, ⟨T1351, L1351, k1351, n1351⟩, -, X1351, ⟨Lc1351, hQ1351, l1351, y1351, z1351⟩, st1351⟩ := X1322.virtualBack hx (y := (⟨"com/example/kalchas/kalchas/propositional/HornClauses", "newVariable", "()I"⟩ : MethodName)) (z := (⟨"com/example/kalchas/kalchas/propositional/HornClauses", "newVariable", "()I"⟩ : MethodName)) hown (mvT hZ (hw _ (List.mem_of_getElem? (i := 17) rfl))) (mvT hZ (hw _ (List.mem_of_getElem? (i := 18) rfl))) (notFace_of_selects (args := #[]) (mvT hZ (hw _ (List.mem_of_getElem? (i := 20) rfl)))) (mvT hZ (hw _ (List.mem_of_getElem? (i := 20) rfl))) (mvT hZ (hw _ (List.mem_of_getElem? (i := 19) rfl))) (by decide) (backOf (W := 0) (own_rm3 l Z a0 hw [] b1320 (.ref x_1323) (.ref x_1324) (.ref x_1325) .null (0 : Int32) (0 : Int32) T1322.heap n0 (by omega) f1326 f1327 f1328 f1329 f1330 f1331 f1332 (by omega)) hZ (hw _ (List.mem_of_getElem? (i := 21) rfl)) (hw _ (List.mem_of_getElem? (i := 4) rfl)) (by decide) (by decide)) q1351a q1351c (g := (mkF m 124 #[.val (.int p_1), .val (.int p_2), .val (.int p_3), .val (.int p_4), .val (.int v2), .val (.int v4), .val (.int v6), .val (.int v8), .val (.ref b751), .val (.ref b1123), .val (.ref b1309), .val (.ref b1320)] [(.ref b1320)])) rfl (by rw [hml]; rfl) (Steps.refl _) (argsL := []) (rest := []) (lenOf own_pd3 rfl) rfl (by show 2 * 0 + _ ≤ _; exact Nat.le_of_eq rfl) (hb hby at_124) (fun _ _ => ⟨rfl, rfl, (by show k1322 + _ ≤ _; rw [y1322]; decide), (by show n1322 + _ ≤ _; rw [z1322]; decide)⟩)
        dsimp only [Pt.U, Pt.locs, Pt.cells, Pt.slots] at X1351 l1351 y1351 z1351 st1351 hQ1351
        have y1351 : k1351 = 7 := own_addeq y1351 (congrArg (fun q => q) y1322) rfl
        have z1351 : n1351 = 208 := own_addeq z1351 (congrArg (fun q => q) z1322) rfl
        obtain ⟨rfl, N1351q, K1351q, f1352, f1353, f1354, f1355, f1356, f1357, f1358⟩ := hQ1351
        have N1351 : Fr n0 L1351 := by rw [l1351]; exact Fr.app N1322 N1351q
        have z1359 := K1351q.1
        have z1360 := own_lt f1352.lt
        have z1361 := own_lt f1353.lt
        have z1362 := own_lt f1354.lt
        have z1363 := own_lt f1355.lt
        have z1364 := own_lt f1356.lt
        have f1357 : Fld Z T1351.heap b1320 "com/example/kalchas/kalchas/propositional/HornClauses" "variableCount" "I" (.int (1 : Int32)) := f1357
        have z1365 := own_lt f1357.lt
        have z1366 := own_lt f1358.lt
        refine own_go (fun _ k => st1351.trans k) ?_
        show own_Go _ _ _ _ T1351 (mkF m 127 #[.val (.int p_1), .val (.int p_2), .val (.int p_3), .val (.int p_4), .val (.int v2), .val (.int v4), .val (.int v6), .val (.int v8), .val (.ref b751), .val (.ref b1123), .val (.ref b1309), .val (.ref b1320)] [(.int (0 : Int32))])
        refine own_go (fun _ k => XS.pop X1351.here hx rfl (hb hby at_127) rfl rfl k) ?_
        show own_Go _ _ _ _ T1351 (mkF m 128 #[.val (.int p_1), .val (.int p_2), .val (.int p_3), .val (.int p_4), .val (.int v2), .val (.int v4), .val (.int v6), .val (.int v8), .val (.ref b751), .val (.ref b1123), .val (.ref b1309), .val (.ref b1320)] [])
        refine own_go (fun _ k => XS.aload X1351.here hx rfl (hb hby at_128) rfl rfl k) ?_
        show own_Go _ _ _ _ T1351 (mkF m 130 #[.val (.int p_1), .val (.int p_2), .val (.int p_3), .val (.int p_4), .val (.int v2), .val (.int v4), .val (.int v6), .val (.int v8), .val (.ref b751), .val (.ref b1123), .val (.ref b1309), .val (.ref b1320)] [(.ref b1320)])
        obtain ⟨cq1367, kq1367, q1367a, q1367b, q1367c⟩ := isOf hZ rfl f1352
        obtain ⟨_, _, ⟨T1367, L1367, k1367, n1367⟩, -, X1367, ⟨Lc1367, hQ1367, l1367, y1367, z1367⟩, st1367⟩ := X1351.virtualBack hx (y := (⟨"com/example/kalchas/kalchas/propositional/HornClauses", "newVariable", "()I"⟩ : MethodName)) (z := (⟨"com/example/kalchas/kalchas/propositional/HornClauses", "newVariable", "()I"⟩ : MethodName)) hown (mvT hZ (hw _ (List.mem_of_getElem? (i := 17) rfl))) (mvT hZ (hw _ (List.mem_of_getElem? (i := 18) rfl))) (notFace_of_selects (args := #[]) (mvT hZ (hw _ (List.mem_of_getElem? (i := 20) rfl)))) (mvT hZ (hw _ (List.mem_of_getElem? (i := 20) rfl))) (mvT hZ (hw _ (List.mem_of_getElem? (i := 19) rfl))) (by decide) (backOf (W := 0) (own_rm3 l Z a0 hw [] b1320 (.ref x_1323) (.ref x_1324) (.ref x_1325) .null (1 : Int32) (0 : Int32) T1351.heap n0 (by omega) f1352 f1353 f1354 f1355 f1356 f1357 f1358 (by omega)) hZ (hw _ (List.mem_of_getElem? (i := 21) rfl)) (hw _ (List.mem_of_getElem? (i := 4) rfl)) (by decide) (by decide)) q1367a q1367c (g := (mkF m 130 #[.val (.int p_1), .val (.int p_2), .val (.int p_3), .val (.int p_4), .val (.int v2), .val (.int v4), .val (.int v6), .val (.int v8), .val (.ref b751), .val (.ref b1123), .val (.ref b1309), .val (.ref b1320)] [(.ref b1320)])) rfl (by rw [hml]; rfl) (Steps.refl _) (argsL := []) (rest := []) (lenOf own_pd3 rfl) rfl (by show 2 * 0 + _ ≤ _; exact Nat.le_of_eq rfl) (hb hby at_130) (fun _ _ => ⟨rfl, rfl, (by show k1351 + _ ≤ _; rw [y1351]; decide), (by show n1351 + _ ≤ _; rw [z1351]; decide)⟩)
        dsimp only [Pt.U, Pt.locs, Pt.cells, Pt.slots] at X1367 l1367 y1367 z1367 st1367 hQ1367
        have y1367 : k1367 = 7 := own_addeq y1367 (congrArg (fun q => q) y1351) rfl
        have z1367 : n1367 = 208 := own_addeq z1367 (congrArg (fun q => q) z1351) rfl
        obtain ⟨rfl, N1367q, K1367q, f1368, f1369, f1370, f1371, f1372, f1373, f1374⟩ := hQ1367
        have N1367 : Fr n0 L1367 := by rw [l1367]; exact Fr.app N1351 N1367q
        have z1375 := K1367q.1
        have z1376 := own_lt f1368.lt
        have z1377 := own_lt f1369.lt
        have z1378 := own_lt f1370.lt
        have z1379 := own_lt f1371.lt
        have z1380 := own_lt f1372.lt
        have f1373 : Fld Z T1367.heap b1320 "com/example/kalchas/kalchas/propositional/HornClauses" "variableCount" "I" (.int (2 : Int32)) := f1373
        have z1381 := own_lt f1373.lt
        have z1382 := own_lt f1374.lt
        refine own_go (fun _ k => st1367.trans k) ?_
        show own_Go _ _ _ _ T1367 (mkF m 133 #[.val (.int p_1), .val (.int p_2), .val (.int p_3), .val (.int p_4), .val (.int v2), .val (.int v4), .val (.int v6), .val (.int v8), .val (.ref b751), .val (.ref b1123), .val (.ref b1309), .val (.ref b1320)] [(.int (1 : Int32))])
        refine own_go (fun _ k => XS.pop X1367.here hx rfl (hb hby at_133) rfl rfl k) ?_
        show own_Go _ _ _ _ T1367 (mkF m 134 #[.val (.int p_1), .val (.int p_2), .val (.int p_3), .val (.int p_4), .val (.int v2), .val (.int v4), .val (.int v6), .val (.int v8), .val (.ref b751), .val (.ref b1123), .val (.ref b1309), .val (.ref b1320)] [])
        refine own_go (fun _ k => XS.aload X1367.here hx rfl (hb hby at_134) rfl rfl k) ?_
        show own_Go _ _ _ _ T1367 (mkF m 136 #[.val (.int p_1), .val (.int p_2), .val (.int p_3), .val (.int p_4), .val (.int v2), .val (.int v4), .val (.int v6), .val (.int v8), .val (.ref b751), .val (.ref b1123), .val (.ref b1309), .val (.ref b1320)] [(.ref b1320)])
        obtain ⟨cq1383, kq1383, q1383a, q1383b, q1383c⟩ := isOf hZ rfl f1368
        obtain ⟨_, _, ⟨T1383, L1383, k1383, n1383⟩, -, X1383, ⟨Lc1383, hQ1383, l1383, y1383, z1383⟩, st1383⟩ := X1367.virtualBack hx (y := (⟨"com/example/kalchas/kalchas/propositional/HornClauses", "newVariable", "()I"⟩ : MethodName)) (z := (⟨"com/example/kalchas/kalchas/propositional/HornClauses", "newVariable", "()I"⟩ : MethodName)) hown (mvT hZ (hw _ (List.mem_of_getElem? (i := 17) rfl))) (mvT hZ (hw _ (List.mem_of_getElem? (i := 18) rfl))) (notFace_of_selects (args := #[]) (mvT hZ (hw _ (List.mem_of_getElem? (i := 20) rfl)))) (mvT hZ (hw _ (List.mem_of_getElem? (i := 20) rfl))) (mvT hZ (hw _ (List.mem_of_getElem? (i := 19) rfl))) (by decide) (backOf (W := 0) (own_rm3 l Z a0 hw [] b1320 (.ref x_1323) (.ref x_1324) (.ref x_1325) .null (2 : Int32) (0 : Int32) T1367.heap n0 (by omega) f1368 f1369 f1370 f1371 f1372 f1373 f1374 (by omega)) hZ (hw _ (List.mem_of_getElem? (i := 21) rfl)) (hw _ (List.mem_of_getElem? (i := 4) rfl)) (by decide) (by decide)) q1383a q1383c (g := (mkF m 136 #[.val (.int p_1), .val (.int p_2), .val (.int p_3), .val (.int p_4), .val (.int v2), .val (.int v4), .val (.int v6), .val (.int v8), .val (.ref b751), .val (.ref b1123), .val (.ref b1309), .val (.ref b1320)] [(.ref b1320)])) rfl (by rw [hml]; rfl) (Steps.refl _) (argsL := []) (rest := []) (lenOf own_pd3 rfl) rfl (by show 2 * 0 + _ ≤ _; exact Nat.le_of_eq rfl) (hb hby at_136) (fun _ _ => ⟨rfl, rfl, (by show k1367 + _ ≤ _; rw [y1367]; decide), (by show n1367 + _ ≤ _; rw [z1367]; decide)⟩)
        dsimp only [Pt.U, Pt.locs, Pt.cells, Pt.slots] at X1383 l1383 y1383 z1383 st1383 hQ1383
        have y1383 : k1383 = 7 := own_addeq y1383 (congrArg (fun q => q) y1367) rfl
        have z1383 : n1383 = 208 := own_addeq z1383 (congrArg (fun q => q) z1367) rfl
        obtain ⟨rfl, N1383q, K1383q, f1384, f1385, f1386, f1387, f1388, f1389, f1390⟩ := hQ1383
        have N1383 : Fr n0 L1383 := by rw [l1383]; exact Fr.app N1367 N1383q
        have z1391 := K1383q.1
        have z1392 := own_lt f1384.lt
        have z1393 := own_lt f1385.lt
        have z1394 := own_lt f1386.lt
        have z1395 := own_lt f1387.lt
        have z1396 := own_lt f1388.lt
        have f1389 : Fld Z T1383.heap b1320 "com/example/kalchas/kalchas/propositional/HornClauses" "variableCount" "I" (.int (3 : Int32)) := f1389
        have z1397 := own_lt f1389.lt
        have z1398 := own_lt f1390.lt
        refine own_go (fun _ k => st1383.trans k) ?_
        show own_Go _ _ _ _ T1383 (mkF m 139 #[.val (.int p_1), .val (.int p_2), .val (.int p_3), .val (.int p_4), .val (.int v2), .val (.int v4), .val (.int v6), .val (.int v8), .val (.ref b751), .val (.ref b1123), .val (.ref b1309), .val (.ref b1320)] [(.int (2 : Int32))])
        refine own_go (fun _ k => XS.pop X1383.here hx rfl (hb hby at_139) rfl rfl k) ?_
        show own_Go _ _ _ _ T1383 (mkF m 140 #[.val (.int p_1), .val (.int p_2), .val (.int p_3), .val (.int p_4), .val (.int v2), .val (.int v4), .val (.int v6), .val (.int v8), .val (.ref b751), .val (.ref b1123), .val (.ref b1309), .val (.ref b1320)] [])
        refine own_go (fun _ k => XS.aload X1383.here hx rfl (hb hby at_140) rfl rfl k) ?_
        show own_Go _ _ _ _ T1383 (mkF m 142 #[.val (.int p_1), .val (.int p_2), .val (.int p_3), .val (.int p_4), .val (.int v2), .val (.int v4), .val (.int v6), .val (.int v8), .val (.ref b751), .val (.ref b1123), .val (.ref b1309), .val (.ref b1320)] [(.ref b1320)])
        refine own_go (fun _ k => XS.iload X1383.here hx rfl (hb hby at_142) rfl k) ?_
        show own_Go _ _ _ _ T1383 (mkF m 144 #[.val (.int p_1), .val (.int p_2), .val (.int p_3), .val (.int p_4), .val (.int v2), .val (.int v4), .val (.int v6), .val (.int v8), .val (.ref b751), .val (.ref b1123), .val (.ref b1309), .val (.ref b1320)] [(.int v2), (.ref b1320)])
        refine own_go (fun _ k => XS.aload X1383.here hx rfl (hb hby at_144) rfl rfl k) ?_
        show own_Go _ _ _ _ T1383 (mkF m 146 #[.val (.int p_1), .val (.int p_2), .val (.int p_3), .val (.int p_4), .val (.int v2), .val (.int v4), .val (.int v6), .val (.int v8), .val (.ref b751), .val (.ref b1123), .val (.ref b1309), .val (.ref b1320)] [(.ref b751), (.int v2), (.ref b1320)])
        have f1399 : own_AV Z T1383.heap x_1323 .int (64 : Int32) (fun _ => (.int (0 : Int32))) := (((f1333.keep K1351q (ninS (own_ne (by omega)) nin0)).keep K1367q (ninS (own_ne (by omega)) nin0)).keep K1383q (ninS (own_ne (by omega)) nin0))
        have f1400 : own_AV Z T1383.heap x_1324 .int (65 : Int32) (fun _ => (.int (0 : Int32))) := (((f1334.keep K1351q (ninS (own_ne (by omega)) nin0)).keep K1367q (ninS (own_ne (by omega)) nin0)).keep K1383q (ninS (own_ne (by omega)) nin0))
        have f1401 : own_AV Z T1383.heap x_1325 .int (64 : Int32) (fun _ => (.int (0 : Int32))) := (((f1335.keep K1351q (ninS (own_ne (by omega)) nin0)).keep K1367q (ninS (own_ne (by omega)) nin0)).keep K1383q (ninS (own_ne (by omega)) nin0))
        have f1402 : own_AV Z T1383.heap b751 .int (1 : Int32) (own_upd (fun _ => (.int (0 : Int32))) 0 (.int v8)) := ((((((((((((V754.ext E1123).other W1126 (own_ne (by omega))).other W1129 (own_ne (by omega))).ext E1309).other W1312 (own_ne (by omega))).other W1315 (own_ne (by omega))).other W1318 (own_ne (by omega))).ext E1320).keep K1322q (ninS (own_ne (by omega)) nin0)).keep K1351q (ninS (own_ne (by omega)) nin0)).keep K1367q (ninS (own_ne (by omega)) nin0)).keep K1383q (ninS (own_ne (by omega)) nin0))
        obtain ⟨cq1403, kq1403, q1403a, q1403b, q1403c⟩ := isOf hZ rfl f1384
        obtain ⟨_, _, ⟨T1403, L1403, k1403, n1403⟩, -, X1403, hS1403, gr1403, ⟨Lc1403, hQ1403, l1403, y1403, z1403⟩, st1403⟩ := X1383.virtualBackS hx (y := (⟨"com/example/kalchas/kalchas/propositional/HornClauses", "add", "(I[I)V"⟩ : MethodName)) (z := (⟨"com/example/kalchas/kalchas/propositional/HornClauses", "add", "(I[I)V"⟩ : MethodName)) hown (mvT hZ (hw _ (List.mem_of_getElem? (i := 26) rfl))) (mvT hZ (hw _ (List.mem_of_getElem? (i := 27) rfl))) (notFace_of_selects (args := #[]) (mvT hZ (hw _ (List.mem_of_getElem? (i := 29) rfl)))) (mvT hZ (hw _ (List.mem_of_getElem? (i := 29) rfl))) (mvT hZ (hw _ (List.mem_of_getElem? (i := 28) rfl))) (by decide) (backOfS (W := 0) (own_rm4_01 l Z a0 hw [] b1320 v2 b751 x_1323 x_1324 x_1325 (fun _ => (.int (0 : Int32))) (fun _ => (.int (0 : Int32))) (fun _ => (.int (0 : Int32))) (0 : Int32) .null v8 T1383.heap n0 (by omega) f1384 f1389 f1390 f1385 f1386 f1387 f1388 f1399 f1400 f1401 f1402 (by simp only [own_lts, and_true]; omega) rfl (by decide) (fun _ => rfl) (show ¬ (v2 < 0) by first | assumption | omega | decide) (show v2 < (3 : Int32) by first | assumption | omega | decide) (show ¬ (v8 < 0) by first | assumption | omega | decide) (show v8 < (3 : Int32) by first | assumption | omega | decide) (by omega) (by omega) (by omega) (by omega)) hZ (hw _ (List.mem_of_getElem? (i := 30) rfl)) (hw _ (List.mem_of_getElem? (i := 4) rfl)) (by decide) (by decide)) q1403a q1403c (g := (mkF m 146 #[.val (.int p_1), .val (.int p_2), .val (.int p_3), .val (.int p_4), .val (.int v2), .val (.int v4), .val (.int v6), .val (.int v8), .val (.ref b751), .val (.ref b1123), .val (.ref b1309), .val (.ref b1320)] [(.ref b751), (.int v2), (.ref b1320)])) rfl (by rw [hml]; rfl) (Steps.refl _) (argsL := [(.int v2), (.ref b751)]) (rest := []) (lenOf own_pd4 rfl) rfl (by show 2 * 0 + _ ≤ _; exact Nat.le_of_eq rfl) (hb hby at_146) (fun _ _ => ⟨rfl, rfl, (by show k1383 + _ ≤ _; rw [y1383]; decide), (by show n1383 + _ ≤ _; rw [z1383]; decide)⟩)
        dsimp only [Pt.U, Pt.locs, Pt.cells, Pt.slots] at X1403 l1403 y1403 z1403 st1403 hQ1403 hS1403 gr1403
        have y1403 : k1403 = 11 := own_addeq y1403 (congrArg (fun q => q) y1383) rfl
        have z1403 : n1403 = 280 := own_addeq z1403 (congrArg (fun q => q) z1383) rfl
        have Wn1403 := hS1403.1
        obtain ⟨X1403, hS1403, hZ, hown⟩ := rebS hS0 (n1 := T1383.heap.size) (by omega) X1403 hS1403 gr1403 hZ hown
        obtain ⟨gb_1404, rfl, N1403q, K1403q, f1405, f1406, f1407, f1408, f1409, f1410, f1411, f1412, f1413, f1414, f1415⟩ := hQ1403
        have N1403 : Fr n0 L1403 := by rw [l1403]; exact Fr.app N1383 N1403q
        have z1416 := K1403q.1
        have z1417 := own_lt f1405.lt
        have z1418 := own_lt f1406.lt
        have z1419 := own_lt f1407.lt
        have z1420 := own_lt f1408.lt
        have z1421 := own_lt f1409.lt
        have z1422 := own_lt f1410.lt
        have z1423 := own_lt f1411.lt
        have z1424 := own_lt f1412.lt
        have z1425 := own_lt f1413.lt
        have z1426 := own_lt f1414.lt
        refine own_go (fun _ k => st1403.trans k) ?_
        show own_Go _ _ _ _ T1403 (mkF m 149 #[.val (.int p_1), .val (.int p_2), .val (.int p_3), .val (.int p_4), .val (.int v2), .val (.int v4), .val (.int v6), .val (.int v8), .val (.ref b751), .val (.ref b1123), .val (.ref b1309), .val (.ref b1320)] [])
        refine own_go (fun _ k => XS.aload X1403.here hx rfl (hb hby at_149) rfl rfl k) ?_
        show own_Go _ _ _ _ T1403 (mkF m 151 #[.val (.int p_1), .val (.int p_2), .val (.int p_3), .val (.int p_4), .val (.int v2), .val (.int v4), .val (.int v6), .val (.int v8), .val (.ref b751), .val (.ref b1123), .val (.ref b1309), .val (.ref b1320)] [(.ref b1320)])
        refine own_go (fun _ k => XS.iload X1403.here hx rfl (hb hby at_151) rfl k) ?_
        show own_Go _ _ _ _ T1403 (mkF m 153 #[.val (.int p_1), .val (.int p_2), .val (.int p_3), .val (.int p_4), .val (.int v2), .val (.int v4), .val (.int v6), .val (.int v8), .val (.ref b751), .val (.ref b1123), .val (.ref b1309), .val (.ref b1320)] [(.int v4), (.ref b1320)])
        refine own_go (fun _ k => XS.aload X1403.here hx rfl (hb hby at_153) rfl rfl k) ?_
        show own_Go _ _ _ _ T1403 (mkF m 155 #[.val (.int p_1), .val (.int p_2), .val (.int p_3), .val (.int p_4), .val (.int v2), .val (.int v4), .val (.int v6), .val (.int v8), .val (.ref b751), .val (.ref b1123), .val (.ref b1309), .val (.ref b1320)] [(.ref b1123), (.int v4), (.ref b1320)])
        have f1427 : own_AV Z T1403.heap b1123 .int (2 : Int32) (own_upd (own_upd (fun _ => (.int (0 : Int32))) 0 (.int v2)) 1 (.int v6)) := ((((((((((V1129.ext E1309).other W1312 (own_ne (by omega))).other W1315 (own_ne (by omega))).other W1318 (own_ne (by omega))).ext E1320).keep K1322q (ninS (own_ne (by omega)) nin0)).keep K1351q (ninS (own_ne (by omega)) nin0)).keep K1367q (ninS (own_ne (by omega)) nin0)).keep K1383q (ninS (own_ne (by omega)) nin0)).keep K1403q (ninS (own_ne (by omega)) (ninS (own_ne (by omega)) (ninS (own_ne (by omega)) (ninS (own_ne (by omega)) nin0)))))
        obtain ⟨cq1428, kq1428, q1428a, q1428b, q1428c⟩ := isOf hZ rfl f1405
        obtain ⟨_, _, ⟨T1428, L1428, k1428, n1428⟩, -, X1428, hS1428, gr1428, ⟨Lc1428, hQ1428, l1428, y1428, z1428⟩, st1428⟩ := X1403.virtualBackS hx (y := (⟨"com/example/kalchas/kalchas/propositional/HornClauses", "add", "(I[I)V"⟩ : MethodName)) (z := (⟨"com/example/kalchas/kalchas/propositional/HornClauses", "add", "(I[I)V"⟩ : MethodName)) hown (mvT hZ (hw _ (List.mem_of_getElem? (i := 26) rfl))) (mvT hZ (hw _ (List.mem_of_getElem? (i := 27) rfl))) (notFace_of_selects (args := #[]) (mvT hZ (hw _ (List.mem_of_getElem? (i := 29) rfl)))) (mvT hZ (hw _ (List.mem_of_getElem? (i := 29) rfl))) (mvT hZ (hw _ (List.mem_of_getElem? (i := 28) rfl))) (by decide) (backOfS (W := 0) (own_rm4_12 l Z a0 hw [] b1320 v4 b1123 x_1323 x_1324 x_1325 (own_upd (fun _ => (.int (0 : Int32))) 0 (.int v2)) (own_upd (fun _ => (.int (0 : Int32))) 1 (.int ((0 : Int32) + (1 : Int32)))) gb_1404 ((0 : Int32) + (1 : Int32)) .null v2 v6 T1403.heap n0 (by omega) f1405 f1406 f1407 f1408 f1409 f1410 f1411 f1412 f1413 f1414 f1427 (by simp only [own_lts, and_true]; omega) rfl (by decide) f1415 (show ¬ (v4 < 0) by first | assumption | omega | decide) (show v4 < (3 : Int32) by first | assumption | omega | decide) (show ¬ (v2 < 0) by first | assumption | omega | decide) (show v2 < (3 : Int32) by first | assumption | omega | decide) (show ¬ (v6 < 0) by first | assumption | omega | decide) (show v6 < (3 : Int32) by first | assumption | omega | decide) (by omega) (by omega) (by omega) (by omega)) hZ (hw _ (List.mem_of_getElem? (i := 30) rfl)) (hw _ (List.mem_of_getElem? (i := 4) rfl)) (by decide) (by decide)) q1428a q1428c (g := (mkF m 155 #[.val (.int p_1), .val (.int p_2), .val (.int p_3), .val (.int p_4), .val (.int v2), .val (.int v4), .val (.int v6), .val (.int v8), .val (.ref b751), .val (.ref b1123), .val (.ref b1309), .val (.ref b1320)] [(.ref b1123), (.int v4), (.ref b1320)])) rfl (by rw [hml]; rfl) (Steps.refl _) (argsL := [(.int v4), (.ref b1123)]) (rest := []) (lenOf own_pd4 rfl) rfl (by show 2 * 0 + _ ≤ _; exact Nat.le_of_eq rfl) (hb hby at_155) (fun _ _ => ⟨rfl, rfl, (by show k1403 + _ ≤ _; rw [y1403]; decide), (by show n1403 + _ ≤ _; rw [z1403]; decide)⟩)
        dsimp only [Pt.U, Pt.locs, Pt.cells, Pt.slots] at X1428 l1428 y1428 z1428 st1428 hQ1428 hS1428 gr1428
        have y1428 : k1428 = 17 := own_addeq y1428 (congrArg (fun q => q) y1403) rfl
        have z1428 : n1428 = 388 := own_addeq z1428 (congrArg (fun q => q) z1403) rfl
        have Wn1428 := hS1428.1
        obtain ⟨X1428, hS1428, hZ, hown⟩ := rebS hS1403 (n1 := T1403.heap.size) (by omega) X1428 hS1428 gr1428 hZ hown
        obtain ⟨gb_1429, rfl, N1428q, K1428q, f1430, f1431, f1432, f1433, f1434, f1435, f1436, f1437, f1438, f1439, f1440⟩ := hQ1428
        have N1428 : Fr n0 L1428 := by rw [l1428]; exact Fr.app N1403 N1428q
        have z1441 := K1428q.1
        have z1442 := own_lt f1430.lt
        have z1443 := own_lt f1431.lt
        have z1444 := own_lt f1432.lt
        have z1445 := own_lt f1433.lt
        have z1446 := own_lt f1434.lt
        have z1447 := own_lt f1435.lt
        have z1448 := own_lt f1436.lt
        have z1449 := own_lt f1437.lt
        have z1450 := own_lt f1438.lt
        have z1451 := own_lt f1439.lt
        refine own_go (fun _ k => st1428.trans k) ?_
        show own_Go _ _ _ _ T1428 (mkF m 158 #[.val (.int p_1), .val (.int p_2), .val (.int p_3), .val (.int p_4), .val (.int v2), .val (.int v4), .val (.int v6), .val (.int v8), .val (.ref b751), .val (.ref b1123), .val (.ref b1309), .val (.ref b1320)] [])
        refine own_go (fun _ k => XS.aload X1428.here hx rfl (hb hby at_158) rfl rfl k) ?_
        show own_Go _ _ _ _ T1428 (mkF m 160 #[.val (.int p_1), .val (.int p_2), .val (.int p_3), .val (.int p_4), .val (.int v2), .val (.int v4), .val (.int v6), .val (.int v8), .val (.ref b751), .val (.ref b1123), .val (.ref b1309), .val (.ref b1320)] [(.ref b1320)])
        refine own_go (fun _ k => XS.iload X1428.here hx rfl (hb hby at_160) rfl k) ?_
        show own_Go _ _ _ _ T1428 (mkF m 162 #[.val (.int p_1), .val (.int p_2), .val (.int p_3), .val (.int p_4), .val (.int v2), .val (.int v4), .val (.int v6), .val (.int v8), .val (.ref b751), .val (.ref b1123), .val (.ref b1309), .val (.ref b1320)] [(.int v6), (.ref b1320)])
        refine own_go (fun _ k => XS.aload X1428.here hx rfl (hb hby at_162) rfl rfl k) ?_
        show own_Go _ _ _ _ T1428 (mkF m 164 #[.val (.int p_1), .val (.int p_2), .val (.int p_3), .val (.int p_4), .val (.int v2), .val (.int v4), .val (.int v6), .val (.int v8), .val (.ref b751), .val (.ref b1123), .val (.ref b1309), .val (.ref b1320)] [(.ref b1309), (.int v6), (.ref b1320)])
        have f1452 : own_AV Z T1428.heap b1309 .int (3 : Int32) (own_upd (own_upd (own_upd (fun _ => (.int (0 : Int32))) 0 (.int v4)) 1 (.int v8)) 2 (.int v2)) := (((((((V1318.ext E1320).keep K1322q (ninS (own_ne (by omega)) nin0)).keep K1351q (ninS (own_ne (by omega)) nin0)).keep K1367q (ninS (own_ne (by omega)) nin0)).keep K1383q (ninS (own_ne (by omega)) nin0)).keep K1403q (ninS (own_ne (by omega)) (ninS (own_ne (by omega)) (ninS (own_ne (by omega)) (ninS (own_ne (by omega)) nin0))))).keep K1428q (ninS (own_ne (by omega)) (ninS (own_ne (by omega)) (ninS (own_ne (by omega)) (ninS (own_ne (by omega)) nin0)))))
        obtain ⟨cq1453, kq1453, q1453a, q1453b, q1453c⟩ := isOf hZ rfl f1430
        obtain ⟨_, _, ⟨T1453, L1453, k1453, n1453⟩, -, X1453, hS1453, gr1453, ⟨Lc1453, hQ1453, l1453, y1453, z1453⟩, st1453⟩ := X1428.virtualBackS hx (y := (⟨"com/example/kalchas/kalchas/propositional/HornClauses", "add", "(I[I)V"⟩ : MethodName)) (z := (⟨"com/example/kalchas/kalchas/propositional/HornClauses", "add", "(I[I)V"⟩ : MethodName)) hown (mvT hZ (hw _ (List.mem_of_getElem? (i := 26) rfl))) (mvT hZ (hw _ (List.mem_of_getElem? (i := 27) rfl))) (notFace_of_selects (args := #[]) (mvT hZ (hw _ (List.mem_of_getElem? (i := 29) rfl)))) (mvT hZ (hw _ (List.mem_of_getElem? (i := 29) rfl))) (mvT hZ (hw _ (List.mem_of_getElem? (i := 28) rfl))) (by decide) (backOfS (W := 0) (own_rm4_23 l Z a0 hw [] b1320 v6 b1309 x_1323 x_1324 x_1325 (own_upd (own_upd (fun _ => (.int (0 : Int32))) 0 (.int v2)) 1 (.int v4)) (own_upd (own_upd (fun _ => (.int (0 : Int32))) 1 (.int ((0 : Int32) + (1 : Int32)))) 2 (.int (((0 : Int32) + (1 : Int32)) + (2 : Int32)))) gb_1429 (((0 : Int32) + (1 : Int32)) + (2 : Int32)) .null v4 v8 v2 T1428.heap n0 (by omega) f1430 f1431 f1432 f1433 f1434 f1435 f1436 f1437 f1438 f1439 f1452 (by simp only [own_lts, and_true]; omega) rfl (by decide) f1440 (show ¬ (v6 < 0) by first | assumption | omega | decide) (show v6 < (3 : Int32) by first | assumption | omega | decide) (show ¬ (v4 < 0) by first | assumption | omega | decide) (show v4 < (3 : Int32) by first | assumption | omega | decide) (show ¬ (v8 < 0) by first | assumption | omega | decide) (show v8 < (3 : Int32) by first | assumption | omega | decide) (show ¬ (v2 < 0) by first | assumption | omega | decide) (show v2 < (3 : Int32) by first | assumption | omega | decide) (by omega) (by omega) (by omega) (by omega)) hZ (hw _ (List.mem_of_getElem? (i := 30) rfl)) (hw _ (List.mem_of_getElem? (i := 4) rfl)) (by decide) (by decide)) q1453a q1453c (g := (mkF m 164 #[.val (.int p_1), .val (.int p_2), .val (.int p_3), .val (.int p_4), .val (.int v2), .val (.int v4), .val (.int v6), .val (.int v8), .val (.ref b751), .val (.ref b1123), .val (.ref b1309), .val (.ref b1320)] [(.ref b1309), (.int v6), (.ref b1320)])) rfl (by rw [hml]; rfl) (Steps.refl _) (argsL := [(.int v6), (.ref b1309)]) (rest := []) (lenOf own_pd4 rfl) rfl (by show 2 * 0 + _ ≤ _; exact Nat.le_of_eq rfl) (hb hby at_164) (fun _ _ => ⟨rfl, rfl, (by show k1428 + _ ≤ _; rw [y1428]; decide), (by show n1428 + _ ≤ _; rw [z1428]; decide)⟩)
        dsimp only [Pt.U, Pt.locs, Pt.cells, Pt.slots] at X1453 l1453 y1453 z1453 st1453 hQ1453 hS1453 gr1453
        have y1453 : k1453 = 25 := own_addeq y1453 (congrArg (fun q => q) y1428) rfl
        have z1453 : n1453 = 532 := own_addeq z1453 (congrArg (fun q => q) z1428) rfl
        have Wn1453 := hS1453.1
        obtain ⟨X1453, hS1453, hZ, hown⟩ := rebS hS1428 (n1 := T1428.heap.size) (by omega) X1453 hS1453 gr1453 hZ hown
        obtain ⟨gb_1454, rfl, N1453q, K1453q, f1455, f1456, f1457, f1458, f1459, f1460, f1461, f1462, f1463, f1464, f1465⟩ := hQ1453
        have N1453 : Fr n0 L1453 := by rw [l1453]; exact Fr.app N1428 N1453q
        have z1466 := K1453q.1
        have z1467 := own_lt f1455.lt
        have z1468 := own_lt f1456.lt
        have z1469 := own_lt f1457.lt
        have z1470 := own_lt f1458.lt
        have z1471 := own_lt f1459.lt
        have z1472 := own_lt f1460.lt
        have z1473 := own_lt f1461.lt
        have z1474 := own_lt f1462.lt
        have z1475 := own_lt f1463.lt
        have z1476 := own_lt f1464.lt
        refine own_go (fun _ k => st1453.trans k) ?_
        show own_Go _ _ _ _ T1453 (mkF m 167 #[.val (.int p_1), .val (.int p_2), .val (.int p_3), .val (.int p_4), .val (.int v2), .val (.int v4), .val (.int v6), .val (.int v8), .val (.ref b751), .val (.ref b1123), .val (.ref b1309), .val (.ref b1320)] [])
        refine own_go (fun _ k => XS.aload X1453.here hx rfl (hb hby at_167) rfl rfl k) ?_
        show own_Go _ _ _ _ T1453 (mkF m 169 #[.val (.int p_1), .val (.int p_2), .val (.int p_3), .val (.int p_4), .val (.int v2), .val (.int v4), .val (.int v6), .val (.int v8), .val (.ref b751), .val (.ref b1123), .val (.ref b1309), .val (.ref b1320)] [(.ref b1320)])
        refine own_go (fun _ k => XS.iconst X1453.here hx rfl (hb hby at_169) k) ?_
        show own_Go _ _ _ _ T1453 (mkF m 170 #[.val (.int p_1), .val (.int p_2), .val (.int p_3), .val (.int p_4), .val (.int v2), .val (.int v4), .val (.int v6), .val (.int v8), .val (.ref b751), .val (.ref b1123), .val (.ref b1309), .val (.ref b1320)] [(.int (0 : Int32)), (.ref b1320)])
        obtain ⟨cq1477, kq1477, q1477a, q1477b, q1477c⟩ := isOf hZ rfl f1455
        obtain ⟨_, _, ⟨T1477, L1477, k1477, n1477⟩, -, X1477, hS1477, gr1477, ⟨Lc1477, hQ1477, l1477, y1477, z1477⟩, st1477⟩ := X1453.virtualBackS hx (y := (⟨"com/example/kalchas/kalchas/propositional/HornClauses", "head", "(I)I"⟩ : MethodName)) (z := (⟨"com/example/kalchas/kalchas/propositional/HornClauses", "head", "(I)I"⟩ : MethodName)) hown (mvT hZ (hw _ (List.mem_of_getElem? (i := 53) rfl))) (mvT hZ (hw _ (List.mem_of_getElem? (i := 54) rfl))) (notFace_of_selects (args := #[]) (mvT hZ (hw _ (List.mem_of_getElem? (i := 56) rfl)))) (mvT hZ (hw _ (List.mem_of_getElem? (i := 56) rfl))) (mvT hZ (hw _ (List.mem_of_getElem? (i := 55) rfl))) (by decide) (backOfS (W := 0) (own_rm7_0 l Z a0 hw [] b1320 x_1323 (own_upd (own_upd (own_upd (fun _ => (.int (0 : Int32))) 0 (.int v2)) 1 (.int v4)) 2 (.int v6)) v2 T1453.heap n0 (by omega) f1455 f1458 f1457 f1462 rfl) hZ (hw _ (List.mem_of_getElem? (i := 57) rfl)) (hw _ (List.mem_of_getElem? (i := 4) rfl)) (by decide) (by decide)) q1477a q1477c (g := (mkF m 170 #[.val (.int p_1), .val (.int p_2), .val (.int p_3), .val (.int p_4), .val (.int v2), .val (.int v4), .val (.int v6), .val (.int v8), .val (.ref b751), .val (.ref b1123), .val (.ref b1309), .val (.ref b1320)] [(.int (0 : Int32)), (.ref b1320)])) rfl (by rw [hml]; rfl) (Steps.refl _) (argsL := [(.int (0 : Int32))]) (rest := []) (lenOf own_pd5 rfl) rfl (by show 2 * 0 + _ ≤ _; exact Nat.le_of_eq rfl) (hb hby at_170) (fun _ _ => ⟨rfl, rfl, (by show k1453 + _ ≤ _; rw [y1453]; decide), (by show n1453 + _ ≤ _; rw [z1453]; decide)⟩)
        dsimp only [Pt.U, Pt.locs, Pt.cells, Pt.slots] at X1477 l1477 y1477 z1477 st1477 hQ1477 hS1477 gr1477
        have y1477 : k1477 = 27 := own_addeq y1477 (congrArg (fun q => q) y1453) rfl
        have z1477 : n1477 = 560 := own_addeq z1477 (congrArg (fun q => q) z1453) rfl
        have Wn1477 := hS1477.1
        obtain ⟨X1477, hS1477, hZ, hown⟩ := rebS hS1453 (n1 := T1453.heap.size) (by omega) X1477 hS1477 gr1477 hZ hown
        obtain ⟨rfl, N1477q, K1477q⟩ := hQ1477
        have N1477 : Fr n0 L1477 := by rw [l1477]; exact Fr.app N1453 N1477q
        have z1478 := K1477q.1
        refine own_go (fun _ k => st1477.trans k) ?_
        show own_Go _ _ _ _ T1477 (mkF m 173 #[.val (.int p_1), .val (.int p_2), .val (.int p_3), .val (.int p_4), .val (.int v2), .val (.int v4), .val (.int v6), .val (.int v8), .val (.ref b751), .val (.ref b1123), .val (.ref b1309), .val (.ref b1320)] [(.int v2)])
        refine own_go (fun _ k => XS.iload X1477.here hx rfl (hb hby at_173) rfl k) ?_
        show own_Go _ _ _ _ T1477 (mkF m 175 #[.val (.int p_1), .val (.int p_2), .val (.int p_3), .val (.int p_4), .val (.int v2), .val (.int v4), .val (.int v6), .val (.int v8), .val (.ref b751), .val (.ref b1123), .val (.ref b1309), .val (.ref b1320)] [(.int v2), (.int v2)])
        have hc1479 : v2 = v2 := rfl
        refine own_go (fun _ k => XS.icmpNo X1477.here hx rfl (hb hby at_175) rfl (Jvm.Free.XT.ii_ne_f hc1479) k) ?_
        show own_Go _ _ _ _ T1477 (mkF m 178 #[.val (.int p_1), .val (.int p_2), .val (.int p_3), .val (.int p_4), .val (.int v2), .val (.int v4), .val (.int v6), .val (.int v8), .val (.ref b751), .val (.ref b1123), .val (.ref b1309), .val (.ref b1320)] [])
        refine own_go (fun _ k => XS.aload X1477.here hx rfl (hb hby at_178) rfl rfl k) ?_
        show own_Go _ _ _ _ T1477 (mkF m 180 #[.val (.int p_1), .val (.int p_2), .val (.int p_3), .val (.int p_4), .val (.int v2), .val (.int v4), .val (.int v6), .val (.int v8), .val (.ref b751), .val (.ref b1123), .val (.ref b1309), .val (.ref b1320)] [(.ref b1320)])
        refine own_go (fun _ k => XS.iconst X1477.here hx rfl (hb hby at_180) k) ?_
        show own_Go _ _ _ _ T1477 (mkF m 181 #[.val (.int p_1), .val (.int p_2), .val (.int p_3), .val (.int p_4), .val (.int v2), .val (.int v4), .val (.int v6), .val (.int v8), .val (.ref b751), .val (.ref b1123), .val (.ref b1309), .val (.ref b1320)] [(.int (1 : Int32)), (.ref b1320)])
        have f1480 : Exa Z T1477.heap b1320 "com/example/kalchas/kalchas/propositional/HornClauses" := (f1455.keep K1477q)
        have f1481 : Fld Z T1477.heap b1320 "com/example/kalchas/kalchas/propositional/HornClauses" "heads" "[I" (.ref x_1323) := (f1458.keep K1477q nin0)
        have f1482 : Fld Z T1477.heap b1320 "com/example/kalchas/kalchas/propositional/HornClauses" "clauseCount" "I" (.int (3 : Int32)) := (f1457.keep K1477q nin0)
        have f1483 : own_AV Z T1477.heap x_1323 .int (64 : Int32) (own_upd (own_upd (own_upd (fun _ => (.int (0 : Int32))) 0 (.int v2)) 1 (.int v4)) 2 (.int v6)) := (f1462.keep K1477q nin0)
        obtain ⟨cq1484, kq1484, q1484a, q1484b, q1484c⟩ := isOf hZ rfl f1480
        obtain ⟨_, _, ⟨T1484, L1484, k1484, n1484⟩, -, X1484, hS1484, gr1484, ⟨Lc1484, hQ1484, l1484, y1484, z1484⟩, st1484⟩ := X1477.virtualBackS hx (y := (⟨"com/example/kalchas/kalchas/propositional/HornClauses", "head", "(I)I"⟩ : MethodName)) (z := (⟨"com/example/kalchas/kalchas/propositional/HornClauses", "head", "(I)I"⟩ : MethodName)) hown (mvT hZ (hw _ (List.mem_of_getElem? (i := 53) rfl))) (mvT hZ (hw _ (List.mem_of_getElem? (i := 54) rfl))) (notFace_of_selects (args := #[]) (mvT hZ (hw _ (List.mem_of_getElem? (i := 56) rfl)))) (mvT hZ (hw _ (List.mem_of_getElem? (i := 56) rfl))) (mvT hZ (hw _ (List.mem_of_getElem? (i := 55) rfl))) (by decide) (backOfS (W := 0) (own_rm7_1 l Z a0 hw [] b1320 x_1323 (own_upd (own_upd (own_upd (fun _ => (.int (0 : Int32))) 0 (.int v2)) 1 (.int v4)) 2 (.int v6)) v4 T1477.heap n0 (by omega) f1480 f1481 f1482 f1483 rfl) hZ (hw _ (List.mem_of_getElem? (i := 57) rfl)) (hw _ (List.mem_of_getElem? (i := 4) rfl)) (by decide) (by decide)) q1484a q1484c (g := (mkF m 181 #[.val (.int p_1), .val (.int p_2), .val (.int p_3), .val (.int p_4), .val (.int v2), .val (.int v4), .val (.int v6), .val (.int v8), .val (.ref b751), .val (.ref b1123), .val (.ref b1309), .val (.ref b1320)] [(.int (1 : Int32)), (.ref b1320)])) rfl (by rw [hml]; rfl) (Steps.refl _) (argsL := [(.int (1 : Int32))]) (rest := []) (lenOf own_pd5 rfl) rfl (by show 2 * 0 + _ ≤ _; exact Nat.le_of_eq rfl) (hb hby at_181) (fun _ _ => ⟨rfl, rfl, (by show k1477 + _ ≤ _; rw [y1477]; decide), (by show n1477 + _ ≤ _; rw [z1477]; decide)⟩)
        dsimp only [Pt.U, Pt.locs, Pt.cells, Pt.slots] at X1484 l1484 y1484 z1484 st1484 hQ1484 hS1484 gr1484
        have y1484 : k1484 = 29 := own_addeq y1484 (congrArg (fun q => q) y1477) rfl
        have z1484 : n1484 = 588 := own_addeq z1484 (congrArg (fun q => q) z1477) rfl
        have Wn1484 := hS1484.1
        obtain ⟨X1484, hS1484, hZ, hown⟩ := rebS hS1477 (n1 := T1477.heap.size) (by omega) X1484 hS1484 gr1484 hZ hown
        obtain ⟨rfl, N1484q, K1484q⟩ := hQ1484
        have N1484 : Fr n0 L1484 := by rw [l1484]; exact Fr.app N1477 N1484q
        have z1485 := K1484q.1
        refine own_go (fun _ k => st1484.trans k) ?_
        show own_Go _ _ _ _ T1484 (mkF m 184 #[.val (.int p_1), .val (.int p_2), .val (.int p_3), .val (.int p_4), .val (.int v2), .val (.int v4), .val (.int v6), .val (.int v8), .val (.ref b751), .val (.ref b1123), .val (.ref b1309), .val (.ref b1320)] [(.int v4)])
        refine own_go (fun _ k => XS.iload X1484.here hx rfl (hb hby at_184) rfl k) ?_
        show own_Go _ _ _ _ T1484 (mkF m 186 #[.val (.int p_1), .val (.int p_2), .val (.int p_3), .val (.int p_4), .val (.int v2), .val (.int v4), .val (.int v6), .val (.int v8), .val (.ref b751), .val (.ref b1123), .val (.ref b1309), .val (.ref b1320)] [(.int v4), (.int v4)])
        have hc1486 : v4 = v4 := rfl
        refine own_go (fun _ k => XS.icmpNo X1484.here hx rfl (hb hby at_186) rfl (Jvm.Free.XT.ii_ne_f hc1486) k) ?_
        show own_Go _ _ _ _ T1484 (mkF m 189 #[.val (.int p_1), .val (.int p_2), .val (.int p_3), .val (.int p_4), .val (.int v2), .val (.int v4), .val (.int v6), .val (.int v8), .val (.ref b751), .val (.ref b1123), .val (.ref b1309), .val (.ref b1320)] [])
        refine own_go (fun _ k => XS.aload X1484.here hx rfl (hb hby at_189) rfl rfl k) ?_
        show own_Go _ _ _ _ T1484 (mkF m 191 #[.val (.int p_1), .val (.int p_2), .val (.int p_3), .val (.int p_4), .val (.int v2), .val (.int v4), .val (.int v6), .val (.int v8), .val (.ref b751), .val (.ref b1123), .val (.ref b1309), .val (.ref b1320)] [(.ref b1320)])
        refine own_go (fun _ k => XS.iconst X1484.here hx rfl (hb hby at_191) k) ?_
        show own_Go _ _ _ _ T1484 (mkF m 192 #[.val (.int p_1), .val (.int p_2), .val (.int p_3), .val (.int p_4), .val (.int v2), .val (.int v4), .val (.int v6), .val (.int v8), .val (.ref b751), .val (.ref b1123), .val (.ref b1309), .val (.ref b1320)] [(.int (2 : Int32)), (.ref b1320)])
        have f1487 : Exa Z T1484.heap b1320 "com/example/kalchas/kalchas/propositional/HornClauses" := (f1480.keep K1484q)
        have f1488 : Fld Z T1484.heap b1320 "com/example/kalchas/kalchas/propositional/HornClauses" "heads" "[I" (.ref x_1323) := (f1481.keep K1484q nin0)
        have f1489 : Fld Z T1484.heap b1320 "com/example/kalchas/kalchas/propositional/HornClauses" "clauseCount" "I" (.int (3 : Int32)) := (f1482.keep K1484q nin0)
        have f1490 : own_AV Z T1484.heap x_1323 .int (64 : Int32) (own_upd (own_upd (own_upd (fun _ => (.int (0 : Int32))) 0 (.int v2)) 1 (.int v4)) 2 (.int v6)) := (f1483.keep K1484q nin0)
        obtain ⟨cq1491, kq1491, q1491a, q1491b, q1491c⟩ := isOf hZ rfl f1487
        obtain ⟨_, _, ⟨T1491, L1491, k1491, n1491⟩, -, X1491, hS1491, gr1491, ⟨Lc1491, hQ1491, l1491, y1491, z1491⟩, st1491⟩ := X1484.virtualBackS hx (y := (⟨"com/example/kalchas/kalchas/propositional/HornClauses", "head", "(I)I"⟩ : MethodName)) (z := (⟨"com/example/kalchas/kalchas/propositional/HornClauses", "head", "(I)I"⟩ : MethodName)) hown (mvT hZ (hw _ (List.mem_of_getElem? (i := 53) rfl))) (mvT hZ (hw _ (List.mem_of_getElem? (i := 54) rfl))) (notFace_of_selects (args := #[]) (mvT hZ (hw _ (List.mem_of_getElem? (i := 56) rfl)))) (mvT hZ (hw _ (List.mem_of_getElem? (i := 56) rfl))) (mvT hZ (hw _ (List.mem_of_getElem? (i := 55) rfl))) (by decide) (backOfS (W := 0) (own_rm7_2 l Z a0 hw [] b1320 x_1323 (own_upd (own_upd (own_upd (fun _ => (.int (0 : Int32))) 0 (.int v2)) 1 (.int v4)) 2 (.int v6)) v6 T1484.heap n0 (by omega) f1487 f1488 f1489 f1490 rfl) hZ (hw _ (List.mem_of_getElem? (i := 57) rfl)) (hw _ (List.mem_of_getElem? (i := 4) rfl)) (by decide) (by decide)) q1491a q1491c (g := (mkF m 192 #[.val (.int p_1), .val (.int p_2), .val (.int p_3), .val (.int p_4), .val (.int v2), .val (.int v4), .val (.int v6), .val (.int v8), .val (.ref b751), .val (.ref b1123), .val (.ref b1309), .val (.ref b1320)] [(.int (2 : Int32)), (.ref b1320)])) rfl (by rw [hml]; rfl) (Steps.refl _) (argsL := [(.int (2 : Int32))]) (rest := []) (lenOf own_pd5 rfl) rfl (by show 2 * 0 + _ ≤ _; exact Nat.le_of_eq rfl) (hb hby at_192) (fun _ _ => ⟨rfl, rfl, (by show k1484 + _ ≤ _; rw [y1484]; decide), (by show n1484 + _ ≤ _; rw [z1484]; decide)⟩)
        dsimp only [Pt.U, Pt.locs, Pt.cells, Pt.slots] at X1491 l1491 y1491 z1491 st1491 hQ1491 hS1491 gr1491
        have y1491 : k1491 = 31 := own_addeq y1491 (congrArg (fun q => q) y1484) rfl
        have z1491 : n1491 = 616 := own_addeq z1491 (congrArg (fun q => q) z1484) rfl
        have Wn1491 := hS1491.1
        obtain ⟨X1491, hS1491, hZ, hown⟩ := rebS hS1484 (n1 := T1484.heap.size) (by omega) X1491 hS1491 gr1491 hZ hown
        obtain ⟨rfl, N1491q, K1491q⟩ := hQ1491
        have N1491 : Fr n0 L1491 := by rw [l1491]; exact Fr.app N1484 N1491q
        have z1492 := K1491q.1
        refine own_go (fun _ k => st1491.trans k) ?_
        show own_Go _ _ _ _ T1491 (mkF m 195 #[.val (.int p_1), .val (.int p_2), .val (.int p_3), .val (.int p_4), .val (.int v2), .val (.int v4), .val (.int v6), .val (.int v8), .val (.ref b751), .val (.ref b1123), .val (.ref b1309), .val (.ref b1320)] [(.int v6)])
        refine own_go (fun _ k => XS.iload X1491.here hx rfl (hb hby at_195) rfl k) ?_
        show own_Go _ _ _ _ T1491 (mkF m 197 #[.val (.int p_1), .val (.int p_2), .val (.int p_3), .val (.int p_4), .val (.int v2), .val (.int v4), .val (.int v6), .val (.int v8), .val (.ref b751), .val (.ref b1123), .val (.ref b1309), .val (.ref b1320)] [(.int v6), (.int v6)])
        have hc1493 : v6 = v6 := rfl
        refine own_go (fun _ k => XS.icmpNo X1491.here hx rfl (hb hby at_197) rfl (Jvm.Free.XT.ii_ne_f hc1493) k) ?_
        show own_Go _ _ _ _ T1491 (mkF m 200 #[.val (.int p_1), .val (.int p_2), .val (.int p_3), .val (.int p_4), .val (.int v2), .val (.int v4), .val (.int v6), .val (.int v8), .val (.ref b751), .val (.ref b1123), .val (.ref b1309), .val (.ref b1320)] [])
        refine own_go (fun _ k => XS.iconst X1491.here hx rfl (hb hby at_200) k) ?_
        show own_Go _ _ _ _ T1491 (mkF m 201 #[.val (.int p_1), .val (.int p_2), .val (.int p_3), .val (.int p_4), .val (.int v2), .val (.int v4), .val (.int v6), .val (.int v8), .val (.ref b751), .val (.ref b1123), .val (.ref b1309), .val (.ref b1320)] [(.int (1 : Int32))])
        refine own_go (fun _ k => XS.goto X1491.here hx rfl (pc0 := 201) (pc' := 205) rfl (hb hby at_201) (by decide) (by decide) k) ?_
        show own_Go _ _ _ _ T1491 (mkF m 205 #[.val (.int p_1), .val (.int p_2), .val (.int p_3), .val (.int p_4), .val (.int v2), .val (.int v4), .val (.int v6), .val (.int v8), .val (.ref b751), .val (.ref b1123), .val (.ref b1309), .val (.ref b1320)] [(.int (1 : Int32))])
        obtain ⟨fs, hr, hrun, hended, hRW⟩ := X1491.leaveW hS1491 (by omega) (v := some (.int (1 : Int32))) (fun h => by rw [Bd.returns] at h; cases h)
        refine ⟨_, _, retOut X1491 hx Bd.returns rfl (Or.inl ⟨rfl, Or.inr (Or.inl rfl), _, rfl⟩) (hb hby at_205) hr, hrun, hended, _, _, rfl, ?_, own_monoW hRW (by rw [y1491]; decide) (by rw [z1491]; decide)⟩
        exact ⟨rfl, N1491⟩
set_option maxRecDepth 65536 in
set_option maxHeartbeats 40000000 in
theorem comes_1 {Post : Tables → Env → Array Value → State → Outcome → State → Prop} (hpost : ∀ tb e args s v u, (limb_1_1.after args s (.returned v) u = true ∧ limb_1_2.after args s (.returned v) u = true ∧ True) → ReturnedEndW s (.returned v) u (Jvm.fieldLocs frame_1_writes args s ++ Jvm.arrayLocs frame_1_arrays args s ++ Jvm.staticLocs frame_1_statics s) 32 2560 → Post tb e args s (.returned v) u) :
    ArmFor flags0 classFile x code maxLocals ret World_1 tables_1 room_1 Calls_1 rest_1 Pre_1 Post := by
  intro l hfl _ _ p e ha hc hk s m args below hf hA hF happ hP
  obtain ⟨hcalls, hrest, hpre⟩ := hP
  obtain ⟨-, -, -, hnamed, -, -, -, hat⟩ := (Spec.applies_iff hf).mp happ
  obtain ⟨hg, hn⟩ := and_e (Cond.before_iff.mp (show (Jvm.Cond.and given_1 narrow_1).before args s = true from hpre))
  obtain ⟨g1, g2⟩ := and_e hg
  obtain ⟨g3, g4⟩ := and_e g2
  obtain ⟨g5, g6⟩ := and_e g4
  obtain ⟨g7, g8⟩ := and_e g6
  obtain ⟨w0, w1, w2, w3, rfl⟩ : ∃ w0 w1 w2 w3 : Value, args = #[w0, w1, w2, w3] := by
    have hs : args.size = 4 := by simpa [Cond.value, given_1] using g1
    obtain ⟨L⟩ := args
    match L, hs with
    | [w0, w1, w2, w3], _ => exact ⟨w0, w1, w2, w3, rfl⟩
  have hw := fun d (hd : d ∈ tables_1) => atoms_spec (ws := Jvm.Cond.code x code maxLocals ret :: tables_1) hat d (List.mem_cons_of_mem _ hd)
  have hfit : Fit s := fun {y c} hc i hi => by
    obtain ⟨ha, rfl⟩ := Array.getElem?_eq_some_iff.mp hc
    have q := List.all_eq_true.mp ((Array.all_eq_true_iff_forall_mem.mp hF) _ (Array.getElem_mem ha)) i (List.mem_range.mpr hi)
    simpa [Array.getElem?_eq_getElem hi] using q
  obtain ⟨i0, ei0⟩ := is_v g3
  obtain rfl : w0 = (.int i0) := Option.some.inj ei0
  obtain ⟨i1, ei1⟩ := is_v g5
  obtain rfl : w1 = (.int i1) := Option.some.inj ei1
  obtain ⟨i2, ei2⟩ := is_v g7
  obtain rfl : w2 = (.int i2) := Option.some.inj ei2
  obtain ⟨i3, ei3⟩ := is_v g8
  obtain rfl : w3 = (.int i3) := Option.some.inj ei3
  obtain ⟨n, o, h1, h2, h3, _, L, rfl, ⟨rfl, N⟩, hq⟩ := own_rm0 l s _ hw tables_1 i0 i1 i2 i3  s.heap s.heap.size (Nat.le_refl _)  p e ha hc hk s m _ below hf ((Spec.applies_iff_loose hf).mp happ).1 ⟨rfl, State.Warmed39.refl s, rfl⟩ trivial
  refine ⟨n, _, h1, h2, h3, hpost _ _ _ _ _ _ ⟨Cond.after_iff.mpr rfl, Cond.after_iff.mpr (eq_i res_at (Term.int_eval (1)) rfl), trivial⟩ ⟨hq.1, hq.2.1, hq.2.2.1, (hq.2.2.2.sift fun y hy => Or.inr (N y hy)).mono (by decide) (by decide)⟩⟩
theorem main_1_1 : Claimed_1_1 := comes_1 fun _ _ _ _ _ _ h hF => ⟨h.1, hF⟩
theorem main_1_2 : Claimed_1_2 := comes_1 fun _ _ _ _ _ _ h hF => ⟨h.2.1, hF⟩
end Jvm.Pilot.@@N@@
namespace Jvm.Pilot.@@N@@
open Jvm Jvm.ClassFile Sem Op Lib Jvm.Free Jvm.Stand Jvm.Pilot.@@N@@.Jvm.D
/-! MADE BY PROGRAM (witnessworld.py) out of the Statement's table words and the real class files: 15 classes; the members and pool entries that the words name. The judged class is class 1, her method 1. -/
namespace start1
open Jvm.ClassFile
def u (s : String) : CpInfo := .utf8 (stringToUtf16 s)
/-- a pool by its gaps: so many unusable entries, then the entry; so many at the end -/
def gap : Nat → List CpInfo → List CpInfo
  | 0, r => r
  | n + 1, r => .unusable :: gap n r
def poolList (es : List (Nat × CpInfo)) (last : Nat) : List CpInfo := es.foldr (fun e r => gap e.1 (e.2 :: r)) (gap last [])
def pool (es : List (Nat × CpInfo)) (last : Nat) : Array CpInfo := ⟨poolList es last⟩
def fileOf (pool : Array CpInfo) (this : Nat) (attrs : Array Attribute := #[]) (ms : Array MethodInfo := #[]) (fl : Nat := 33) (sup : Nat := 0) (ifs : Array Nat := #[]) (fds : Array FieldInfo := #[]) : ClassFile where
  minorVersion := 0
  majorVersion := 65
  constantPool := pool
  accessFlags := fl
  thisClass := this
  superClass := sup
  interfaces := ifs
  fields := fds
  methods := ms
  attributes := attrs
def plain (name : String) (sup : Option ClassId) : Class where
  name := name
  kind := .ordinary
  loader := none
  accessFlags := 33
  super := sup
  interfaces := #[]
  cf := none
  fields := #[]
  methods := #[]
  instanceTypes := #[]
  staticTypes := #[]
  resolved := #[]
  callSites := []
  init := .initialized
  statics := none
  mirror := none

def pool0 : Array CpInfo := pool [(5, u "<init>"), (0, u "()V"), (1, .class_ 10), (1, u "java/lang/Object")] 113

def k0c0 : Code := { maxStack := 0, maxLocals := 1, code := object_method_1_code, exceptionTable := #[], attributes := #[] }
def k0m0 : Method := { name := "<init>", desc := "()V", sig := { parameters := [], returnType := none }, accessFlags := 1, code := some k0c0 }
/-- java/lang/Object -/
def k0 : Class := { plain "java/lang/Object" none with
  accessFlags := 33
  interfaces := #[]
  cf := some (fileOf pool0 8 #[] #[{ accessFlags := 1, nameIndex := 5, descriptorIndex := 6, attributes := #[] }] 33 0 #[] #[])
  fields := #[]
  methods := #[k0m0]
  instanceTypes := #[]
  staticTypes := #[]
  resolved := Array.replicate 124 none
  statics := none }

def pool1 : Array CpInfo := pool [(2, .class_ 4), (0, .nameAndType 5 6), (0, u "java/lang/Object"), (0, u "<init>"), (0, u "()V"), (0, .integer 2147483647), (0, .class_ 9), (0, u "com/example/kalchas/kalchas/propositional/HornClauses"), (0, .methodref 8 3), (0, .methodref 8 12), (0, .nameAndType 13 14), (0, u "newVariable"), (0, u "()I"), (0, .methodref 8 16), (0, .nameAndType 17 18), (0, u "add"), (0, u "(I[I)V"), (0, .methodref 8 20), (0, .nameAndType 21 22), (0, u "head"), (0, u "(I)I"), (0, .class_ 24), (0, u "com/example/kalchas/kalchas/propositional/HornClausesHeadPinLaw"), (2, u "law"), (0, u "(IIII)Z")] 5

def k1m0 : Method := { name := "<init>", desc := "()V", sig := { parameters := [], returnType := none }, accessFlags := 1, code := none }
def k1c1 : Code := { maxStack := 4, maxLocals := 12, code := code, exceptionTable := #[], attributes := #[] }
def k1m1 : Method := { name := "law", desc := "(IIII)Z", sig := { parameters := [.int, .int, .int, .int], returnType := some .boolean }, accessFlags := 9, code := some k1c1 }
/-- com/example/kalchas/kalchas/propositional/HornClausesHeadPinLaw -/
def k1 : Class := { plain "com/example/kalchas/kalchas/propositional/HornClausesHeadPinLaw" (some 0) with
  accessFlags := 49
  interfaces := #[]
  cf := some (fileOf pool1 23 #[] #[{ accessFlags := 1, nameIndex := 5, descriptorIndex := 6, attributes := #[] }, { accessFlags := 9, nameIndex := 27, descriptorIndex := 28, attributes := #[] }] 49 2 #[] #[])
  fields := #[]
  methods := #[k1m0, k1m1]
  instanceTypes := #[]
  staticTypes := #[]
  resolved := Array.replicate 34 none
  statics := none }

def pool2 : Array CpInfo := pool [(1, .methodref 2 3), (0, .class_ 4), (0, .nameAndType 5 6), (0, u "java/lang/Object"), (0, u "<init>"), (0, u "()V"), (0, .class_ 8), (0, u "com/example/kalchas/kalchas/propositional/HornClauses"), (0, .fieldref 7 10), (0, .nameAndType 11 12), (0, u "heads"), (0, u "[I"), (0, .fieldref 7 14), (0, .nameAndType 15 12), (0, u "bodyStarts"), (0, .fieldref 7 17), (0, .nameAndType 18 12), (0, u "bodies"), (0, .fieldref 7 20), (0, .nameAndType 21 12), (0, u "occurrences"), (0, .fieldref 7 23), (0, .nameAndType 24 25), (0, u "variableCount"), (0, u "I"), (0, .methodref 7 27), (0, .nameAndType 28 29), (0, u "checkVariable"), (0, u "(I)V"), (0, .fieldref 7 31), (0, .nameAndType 32 25), (0, u "clauseCount"), (12, .methodref 46 47), (0, .class_ 48), (0, .nameAndType 49 50), (0, u "java/lang/System"), (0, u "arraycopy"), (0, u "(Ljava/lang/Object;ILjava/lang/Object;II)V"), (0, .methodref 7 52), (0, .nameAndType 53 29), (0, u "checkClause"), (23, u "add"), (15, u "()I"), (2, u "derivationStarts"), (2, u "derivations"), (5, .class_ 107), (1, u "com/example/kalchas/kalchas/propositional/HornClauses$Trail"), (29, u "(I)I"), (39, u "occurrenceStarts"), (0, .string 179), (0, u "variable"), (0, .methodref 7 181), (0, .nameAndType 182 183), (0, u "checkNumber"), (0, u "(Ljava/lang/String;II)V"), (0, .string 185), (0, u "clause"), (28, u "INITIAL_CAPACITY"), (2, u "ASSUMED"), (3, u "newVariable"), (0, u "(I[I)V"), (1, u "head")] 48

def k2c0 : Code := { maxStack := 2, maxLocals := 1, code := prog_6_method_1_code, exceptionTable := #[], attributes := #[] }
def k2m0 : Method := { name := "<init>", desc := "()V", sig := { parameters := [], returnType := none }, accessFlags := 1, code := some k2c0 }
def k2c1 : Code := { maxStack := 3, maxLocals := 2, code := prog_6_method_2_code, exceptionTable := #[], attributes := #[] }
def k2m1 : Method := { name := "newVariable", desc := "()I", sig := { parameters := [], returnType := some .int }, accessFlags := 1, code := some k2c1 }
def k2c2 : Code := { maxStack := 5, maxLocals := 7, code := prog_6_method_4_code, exceptionTable := #[], attributes := #[] }
def k2m2 : Method := { name := "add", desc := "(I[I)V", sig := { parameters := [.int, (.array .int)], returnType := none }, accessFlags := 129, code := some k2c2 }
def k2c3 : Code := { maxStack := 2, maxLocals := 2, code := prog_6_method_5_code, exceptionTable := #[], attributes := #[] }
def k2m3 : Method := { name := "head", desc := "(I)I", sig := { parameters := [.int], returnType := some .int }, accessFlags := 1, code := some k2c3 }
def k2c4 : Code := { maxStack := 3, maxLocals := 2, code := prog_6_method_14_code, exceptionTable := #[], attributes := #[] }
def k2m4 : Method := { name := "checkVariable", desc := "(I)V", sig := { parameters := [.int], returnType := none }, accessFlags := 1, code := some k2c4 }
def k2c5 : Code := { maxStack := 3, maxLocals := 2, code := prog_6_method_15_code, exceptionTable := #[], attributes := #[] }
def k2m5 : Method := { name := "checkClause", desc := "(I)V", sig := { parameters := [.int], returnType := none }, accessFlags := 2, code := some k2c5 }
def k2c6 : Code := { maxStack := 5, maxLocals := 3, code := prog_6_method_16_code, exceptionTable := #[], attributes := #[] }
def k2m6 : Method := { name := "checkNumber", desc := "(Ljava/lang/String;II)V", sig := { parameters := [(.object "java/lang/String"), .int, .int], returnType := none }, accessFlags := 10, code := some k2c6 }
/-- com/example/kalchas/kalchas/propositional/HornClauses -/
def k2 : Class := { plain "com/example/kalchas/kalchas/propositional/HornClauses" (some 0) with
  accessFlags := 33
  interfaces := #[]
  cf := some (fileOf pool2 7 #[.nestMembers #[105]] #[{ accessFlags := 1, nameIndex := 5, descriptorIndex := 6, attributes := #[] }, { accessFlags := 1, nameIndex := 221, descriptorIndex := 93, attributes := #[] }, { accessFlags := 129, nameIndex := 77, descriptorIndex := 222, attributes := #[] }, { accessFlags := 1, nameIndex := 224, descriptorIndex := 137, attributes := #[] }, { accessFlags := 1, nameIndex := 28, descriptorIndex := 29, attributes := #[] }, { accessFlags := 2, nameIndex := 53, descriptorIndex := 29, attributes := #[] }, { accessFlags := 10, nameIndex := 182, descriptorIndex := 183, attributes := #[] }] 33 2 #[] #[{ accessFlags := 26, nameIndex := 214, descriptorIndex := 25, attributes := #[] }, { accessFlags := 26, nameIndex := 217, descriptorIndex := 25, attributes := #[] }, { accessFlags := 2, nameIndex := 24, descriptorIndex := 25, attributes := #[] }, { accessFlags := 2, nameIndex := 32, descriptorIndex := 25, attributes := #[] }, { accessFlags := 2, nameIndex := 11, descriptorIndex := 12, attributes := #[] }, { accessFlags := 2, nameIndex := 15, descriptorIndex := 12, attributes := #[] }, { accessFlags := 2, nameIndex := 18, descriptorIndex := 12, attributes := #[] }, { accessFlags := 2, nameIndex := 177, descriptorIndex := 12, attributes := #[] }, { accessFlags := 2, nameIndex := 21, descriptorIndex := 12, attributes := #[] }, { accessFlags := 2, nameIndex := 96, descriptorIndex := 12, attributes := #[] }, { accessFlags := 2, nameIndex := 99, descriptorIndex := 12, attributes := #[] }])
  fields := #[{ name := "INITIAL_CAPACITY", type := .int, accessFlags := 26, slot := 0, constantValue := 0 }, { name := "ASSUMED", type := .int, accessFlags := 26, slot := 1, constantValue := 0 }, { name := "variableCount", type := .int, accessFlags := 2, slot := 0, constantValue := 0 }, { name := "clauseCount", type := .int, accessFlags := 2, slot := 1, constantValue := 0 }, { name := "heads", type := (.array .int), accessFlags := 2, slot := 2, constantValue := 0 }, { name := "bodyStarts", type := (.array .int), accessFlags := 2, slot := 3, constantValue := 0 }, { name := "bodies", type := (.array .int), accessFlags := 2, slot := 4, constantValue := 0 }, { name := "occurrenceStarts", type := (.array .int), accessFlags := 2, slot := 5, constantValue := 0 }, { name := "occurrences", type := (.array .int), accessFlags := 2, slot := 6, constantValue := 0 }, { name := "derivationStarts", type := (.array .int), accessFlags := 2, slot := 7, constantValue := 0 }, { name := "derivations", type := (.array .int), accessFlags := 2, slot := 8, constantValue := 0 }]
  methods := #[k2m0, k2m1, k2m2, k2m3, k2m4, k2m5, k2m6]
  instanceTypes := #[.int, .int, (.array .int), (.array .int), (.array .int), (.array .int), (.array .int), (.array .int), (.array .int)]
  staticTypes := #[.int, .int]
  resolved := Array.replicate 273 none
  statics := none }

def pool3 : Array CpInfo := pool [(1, .class_ 2), (0, u "java/io/Serializable"), (0, .class_ 4), (0, u "java/lang/Object")] 2

/-- java/io/Serializable -/
def k3 : Class := { plain "java/io/Serializable" (some 0) with
  accessFlags := 1537
  interfaces := #[]
  cf := some (fileOf pool3 1 #[] #[] 1537 3 #[] #[])
  fields := #[]
  methods := #[]
  instanceTypes := #[]
  staticTypes := #[]
  resolved := Array.replicate 7 none
  statics := none }

def pool4 : Array CpInfo := pool [(1, .class_ 2), (0, u "java/lang/Comparable"), (0, .class_ 4), (0, u "java/lang/Object")] 7

/-- java/lang/Comparable -/
def k4 : Class := { plain "java/lang/Comparable" (some 0) with
  accessFlags := 1537
  interfaces := #[]
  cf := some (fileOf pool4 1 #[] #[] 1537 3 #[] #[])
  fields := #[]
  methods := #[]
  instanceTypes := #[]
  staticTypes := #[]
  resolved := Array.replicate 12 none
  statics := none }

def pool5 : Array CpInfo := pool [(2, .class_ 4), (1, u "java/lang/CharSequence"), (42, .class_ 48), (0, u "java/lang/CharSequence$1CodePointIterator"), (10, .class_ 60), (0, u "java/lang/CharSequence$1CharIterator"), (5, .class_ 67), (0, u "java/lang/Object")] 63

/-- java/lang/CharSequence -/
def k5 : Class := { plain "java/lang/CharSequence" (some 0) with
  accessFlags := 1537
  interfaces := #[]
  cf := some (fileOf pool5 2 #[.nestMembers #[47, 59]] #[] 1537 66 #[] #[])
  fields := #[]
  methods := #[]
  instanceTypes := #[]
  staticTypes := #[]
  resolved := Array.replicate 131 none
  statics := none }

def pool6 : Array CpInfo := pool [(1, .class_ 2), (0, u "java/lang/constant/Constable"), (0, .class_ 4), (0, u "java/lang/Object")] 6

/-- java/lang/constant/Constable -/
def k6 : Class := { plain "java/lang/constant/Constable" (some 0) with
  accessFlags := 1537
  interfaces := #[]
  cf := some (fileOf pool6 1 #[] #[] 1537 3 #[] #[])
  fields := #[]
  methods := #[]
  instanceTypes := #[]
  staticTypes := #[]
  resolved := Array.replicate 11 none
  statics := none }

def pool7 : Array CpInfo := pool [(1, .class_ 2), (0, u "java/lang/constant/ConstantDesc"), (0, .class_ 4), (0, u "java/lang/Object")] 32

/-- java/lang/constant/ConstantDesc -/
def k7 : Class := { plain "java/lang/constant/ConstantDesc" (some 0) with
  accessFlags := 1537
  interfaces := #[]
  cf := some (fileOf pool7 1 #[] #[] 1537 3 #[] #[])
  fields := #[]
  methods := #[]
  instanceTypes := #[]
  staticTypes := #[]
  resolved := Array.replicate 37 none
  statics := none }

def pool8 : Array CpInfo := pool [(2, .class_ 4), (1, u "java/lang/Object"), (0, u "<init>"), (0, u "()V"), (3, .class_ 12), (1, u "java/lang/String"), (0, u "value"), (0, u "[B"), (2, u "coder"), (0, u "B"), (2, u "hash"), (0, u "I"), (2, u "hashIsZero"), (0, u "Z"), (13, u "COMPACT_STRINGS"), (534, .class_ 576), (0, u "java/lang/CharSequence"), (22, u "CASE_INSENSITIVE_ORDER"), (0, u "Ljava/util/Comparator;"), (500, u "serialPersistentFields"), (0, u "[Ljava/io/ObjectStreamField;"), (0, .class_ 1104), (0, u "java/lang/String$CaseInsensitiveComparator"), (1, .class_ 1107), (0, u "java/io/Serializable"), (0, .class_ 1109), (0, u "java/lang/Comparable"), (0, .class_ 1111), (0, u "java/lang/constant/Constable"), (0, .class_ 1113), (0, u "java/lang/constant/ConstantDesc"), (2, u "serialVersionUID"), (0, u "J"), (3, u "REPL"), (0, u "C"), (2, u "LATIN1"), (1, u "UTF16")] 323

def k8m0 : Method := { name := "<init>", desc := "()V", sig := { parameters := [], returnType := none }, accessFlags := 1, code := none }
/-- java/lang/String -/
def k8 : Class := { plain "java/lang/String" (some 0) with
  accessFlags := 49
  interfaces := #[3, 4, 5, 6, 7]
  cf := some (fileOf pool8 10 #[.nestMembers #[1103]] #[{ accessFlags := 1, nameIndex := 5, descriptorIndex := 6, attributes := #[] }] 49 2 #[1106, 1108, 575, 1110, 1112] #[{ accessFlags := 18, nameIndex := 13, descriptorIndex := 14, attributes := #[] }, { accessFlags := 18, nameIndex := 17, descriptorIndex := 18, attributes := #[] }, { accessFlags := 2, nameIndex := 21, descriptorIndex := 22, attributes := #[] }, { accessFlags := 2, nameIndex := 25, descriptorIndex := 26, attributes := #[] }, { accessFlags := 26, nameIndex := 1116, descriptorIndex := 1117, attributes := #[] }, { accessFlags := 24, nameIndex := 40, descriptorIndex := 26, attributes := #[] }, { accessFlags := 26, nameIndex := 1101, descriptorIndex := 1102, attributes := #[] }, { accessFlags := 26, nameIndex := 1121, descriptorIndex := 1122, attributes := #[] }, { accessFlags := 25, nameIndex := 599, descriptorIndex := 600, attributes := #[] }, { accessFlags := 24, nameIndex := 1125, descriptorIndex := 18, attributes := #[] }, { accessFlags := 24, nameIndex := 1127, descriptorIndex := 18, attributes := #[] }])
  fields := #[{ name := "value", type := (.array .byte), accessFlags := 18, slot := 0, constantValue := 0 }, { name := "coder", type := .byte, accessFlags := 18, slot := 1, constantValue := 0 }, { name := "hash", type := .int, accessFlags := 2, slot := 2, constantValue := 0 }, { name := "hashIsZero", type := .boolean, accessFlags := 2, slot := 3, constantValue := 0 }, { name := "serialVersionUID", type := .long, accessFlags := 26, slot := 0, constantValue := 0 }, { name := "COMPACT_STRINGS", type := .boolean, accessFlags := 24, slot := 1, constantValue := 0 }, { name := "serialPersistentFields", type := (.array (.object "java/io/ObjectStreamField")), accessFlags := 26, slot := 2, constantValue := 0 }, { name := "REPL", type := .char, accessFlags := 26, slot := 3, constantValue := 0 }, { name := "CASE_INSENSITIVE_ORDER", type := (.object "java/util/Comparator"), accessFlags := 25, slot := 4, constantValue := 0 }, { name := "LATIN1", type := .byte, accessFlags := 24, slot := 5, constantValue := 0 }, { name := "UTF16", type := .byte, accessFlags := 24, slot := 6, constantValue := 0 }]
  methods := #[k8m0]
  instanceTypes := #[(.array .byte), .byte, .int, .boolean]
  staticTypes := #[.long, .boolean, (.array (.object "java/io/ObjectStreamField")), .char, (.object "java/util/Comparator"), .byte, .byte]
  resolved := Array.replicate 1451 none
  statics := none }

def pool9 : Array CpInfo := pool [(2, .class_ 4), (1, u "java/lang/Object"), (0, u "<init>"), (0, u "()V"), (1, .class_ 10), (1, u "java/lang/System"), (0, u "allowSecurityManager"), (0, u "I"), (16, u "cons"), (0, u "Ljava/io/Console;"), (77, .class_ 110), (1, u "java/lang/System$CallersHolder"), (43, u "initialErrStream"), (0, u "Ljava/io/PrintStream;"), (19, u "security"), (0, u "Ljava/lang/SecurityManager;"), (31, .class_ 209), (0, u "java/lang/System$1"), (7, u "props"), (0, u "Ljava/util/Properties;"), (2, u "lineSeparator"), (0, u "Ljava/lang/String;"), (96, .class_ 321), (1, u "java/lang/System$LoggerFinder"), (5, .class_ 328), (0, u "java/lang/System$Logger"), (67, u "err"), (2, u "out"), (91, u "notSupportedJnuEncoding"), (15, u "in"), (17, u "initialIn"), (0, u "Ljava/io/InputStream;"), (35, u "bootLayer"), (0, u "Ljava/lang/ModuleLayer;"), (99, .class_ 664), (0, u "java/lang/System$2"), (9, u "NEVER"), (2, u "MAYBE"), (49, u "arraycopy"), (0, u "(Ljava/lang/Object;ILjava/lang/Object;II)V"), (72, .class_ 802), (0, u "java/lang/System$Logger$Level")] 31

def k9m0 : Method := { name := "<init>", desc := "()V", sig := { parameters := [], returnType := none }, accessFlags := 2, code := none }
def k9m1 : Method := { name := "arraycopy", desc := "(Ljava/lang/Object;ILjava/lang/Object;II)V", sig := { parameters := [(.object "java/lang/Object"), .int, (.object "java/lang/Object"), .int, .int], returnType := none }, accessFlags := 265, code := none }
/-- java/lang/System -/
def k9 : Class := { plain "java/lang/System" (some 0) with
  accessFlags := 49
  interfaces := #[]
  cf := some (fileOf pool9 8 #[.nestMembers #[319, 327, 801, 108, 663, 208]] #[{ accessFlags := 2, nameIndex := 5, descriptorIndex := 6, attributes := #[] }, { accessFlags := 265, nameIndex := 727, descriptorIndex := 728, attributes := #[] }] 49 2 #[] #[{ accessFlags := 25, nameIndex := 507, descriptorIndex := 526, attributes := #[] }, { accessFlags := 25, nameIndex := 399, descriptorIndex := 155, attributes := #[] }, { accessFlags := 25, nameIndex := 396, descriptorIndex := 155, attributes := #[] }, { accessFlags := 10, nameIndex := 525, descriptorIndex := 526, attributes := #[] }, { accessFlags := 26, nameIndex := 674, descriptorIndex := 12, attributes := #[] }, { accessFlags := 26, nameIndex := 677, descriptorIndex := 12, attributes := #[] }, { accessFlags := 10, nameIndex := 11, descriptorIndex := 12, attributes := #[] }, { accessFlags := 74, nameIndex := 175, descriptorIndex := 176, attributes := #[] }, { accessFlags := 10, nameIndex := 491, descriptorIndex := 222, attributes := #[] }, { accessFlags := 74, nameIndex := 29, descriptorIndex := 30, attributes := #[] }, { accessFlags := 74, nameIndex := 154, descriptorIndex := 155, attributes := #[] }, { accessFlags := 10, nameIndex := 217, descriptorIndex := 218, attributes := #[] }, { accessFlags := 10, nameIndex := 221, descriptorIndex := 222, attributes := #[] }, { accessFlags := 8, nameIndex := 562, descriptorIndex := 563, attributes := #[] }])
  fields := #[{ name := "in", type := (.object "java/io/InputStream"), accessFlags := 25, slot := 0, constantValue := 0 }, { name := "out", type := (.object "java/io/PrintStream"), accessFlags := 25, slot := 1, constantValue := 0 }, { name := "err", type := (.object "java/io/PrintStream"), accessFlags := 25, slot := 2, constantValue := 0 }, { name := "initialIn", type := (.object "java/io/InputStream"), accessFlags := 10, slot := 3, constantValue := 0 }, { name := "NEVER", type := .int, accessFlags := 26, slot := 4, constantValue := 0 }, { name := "MAYBE", type := .int, accessFlags := 26, slot := 5, constantValue := 0 }, { name := "allowSecurityManager", type := .int, accessFlags := 10, slot := 6, constantValue := 0 }, { name := "security", type := (.object "java/lang/SecurityManager"), accessFlags := 74, slot := 7, constantValue := 0 }, { name := "notSupportedJnuEncoding", type := (.object "java/lang/String"), accessFlags := 10, slot := 8, constantValue := 0 }, { name := "cons", type := (.object "java/io/Console"), accessFlags := 74, slot := 9, constantValue := 0 }, { name := "initialErrStream", type := (.object "java/io/PrintStream"), accessFlags := 74, slot := 10, constantValue := 0 }, { name := "props", type := (.object "java/util/Properties"), accessFlags := 10, slot := 11, constantValue := 0 }, { name := "lineSeparator", type := (.object "java/lang/String"), accessFlags := 10, slot := 12, constantValue := 0 }, { name := "bootLayer", type := (.object "java/lang/ModuleLayer"), accessFlags := 8, slot := 13, constantValue := 0 }]
  methods := #[k9m0, k9m1]
  instanceTypes := #[]
  staticTypes := #[(.object "java/io/InputStream"), (.object "java/io/PrintStream"), (.object "java/io/PrintStream"), (.object "java/io/InputStream"), .int, .int, .int, (.object "java/lang/SecurityManager"), (.object "java/lang/String"), (.object "java/io/Console"), (.object "java/io/PrintStream"), (.object "java/util/Properties"), (.object "java/lang/String"), (.object "java/lang/ModuleLayer")]
  resolved := Array.replicate 834 none
  statics := none }

def pool10 : Array CpInfo := pool [(1, u "java/lang/Cloneable"), (0, .class_ 1), (0, u "java/lang/Object"), (0, .class_ 3)] 3

/-- java/lang/Cloneable -/
def k10 : Class := { plain "java/lang/Cloneable" (some 0) with
  accessFlags := 1537
  interfaces := #[]
  cf := some (fileOf pool10 2 #[] #[] 1537 4 #[] #[])
  fields := #[]
  methods := #[]
  instanceTypes := #[]
  staticTypes := #[]
  resolved := Array.replicate 8 none
  statics := none }

/-- the primitive byte -/
def k11 : Class := { plain "byte" none with kind := .primitive 'B', accessFlags := 0x411 }
/-- [B -/
def k12 : Class := { plain "[B" (some 0) with kind := .array 11 .byte, interfaces := #[10, 3], accessFlags := 1041 }

/-- the primitive int -/
def k13 : Class := { plain "int" none with kind := .primitive 'I', accessFlags := 0x411 }
/-- [I -/
def k14 : Class := { plain "[I" (some 0) with kind := .array 13 .int, interfaces := #[10, 3], accessFlags := 1041 }

def heap : Heap := #[]
def classes : Array Class := #[k0, k1, k2, k3, k4, k5, k6, k7, k8, k9, k10, k11, k12, k13, k14]
def interned : List (Array UInt16 × Addr) := []
def slotsUsed : Nat := 0
def theMethod : MethodId := ⟨1, 1⟩
def args0 : Array Value := #[.int 1, .int 2, .int 3, .int 4]
def aboutOver (below : List Frame) : State where
  vm := { classes := classes, interned := interned.toArray }
  heap := heap
  slotsUsed := slotsUsed
  threads := #[{ frames := .invoking theMethod args0 :: below }]
def below0 : List Frame := [.native { method := ⟨0, 0⟩, args := #[] }]
def about1 : State := aboutOver below0
def p0 : Program := .bare "" "" ""
def e0 : Env := launch0.env 0 0 0
theorem w_frames : about1.frames = Frame.invoking theMethod args0 :: below0 := rfl
set_option maxRecDepth 65536 in
theorem w_args : argsFit about1.vm theMethod args0 = true := by decide +kernel
set_option maxRecDepth 65536 in
theorem w_heap : heapFits about1 = true := by decide +kernel
set_option maxRecDepth 65536 in
theorem w_runnable : about1.curStatus? = some .runnable := by decide +kernel
set_option maxRecDepth 65536 in
theorem w_alone : about1.alone = true := by decide +kernel
set_option maxRecDepth 65536 in
theorem w_named : about1.methodNamed? x = some theMethod := by decide +kernel
set_option maxRecDepth 65536 in
theorem w_hears : about1.hears theMethod below0 = true := by decide +kernel
set_option maxRecDepth 65536 in
theorem w_ripe : about1.ripe theMethod args0 below0 = true := by decide +kernel
theorem w_running : about1.status = .running := rfl
set_option maxRecDepth 65536 in
theorem w_room : about1.hasRoom e0.platform room_1 = true :=
  launch0.hasRoom_least _ room_1 (by decide +kernel) (by decide +kernel) (by decide +kernel) (by decide +kernel) (by decide +kernel) (by decide +kernel)
theorem allAtoms_all (ts : List Jvm.Cond) (a : Array Jvm.Value) (st : Jvm.State) : (allAtoms ts).before a st = ts.all (fun c => c.before a st) := by
  induction ts with
  | nil => rfl
  | cons c t ih =>
    show (Jvm.Cond.and c (allAtoms t)).before a st = _
    rw [Jvm.Cond.before_and, ih, List.all_cons]
def words1 : List Jvm.Cond := Jvm.Cond.code x code maxLocals ret :: tables_1
/-- a 'code' word, met by the world's own term for the bytes: nothing is compared byte by byte -/
theorem code_word {y : MethodName} {bytes : ByteArray} {mx : Nat} {rt : Option FieldType} {a : Array Value} {s : State} {m : MethodId} {meth : Method} {c : Code} (h1 : s.methodNamed? y = some m) (h2 : s.vm.method? m = some meth) (h3 : meth.code = some c) (h4 : c.code = bytes)
    (h5 : (c.maxLocals == mx && c.exceptionTable.isEmpty && decide (c.maxStack ≤ mostOperands) && decide (meth.sig.returnType = rt) && !meth.locks && decide (parseMethodDescriptor y.desc = some meth.sig)) = true) : (Jvm.Cond.code y bytes mx rt).before a s = true := by
  simp only [Bool.and_eq_true, beq_iff_eq, Bool.not_eq_true', decide_eq_true_eq] at h5
  obtain ⟨⟨⟨⟨⟨g1, g2⟩, g3⟩, g4⟩, g5⟩, g6⟩ := h5
  simp [Cond.before, Cond.holds, Cond.value, h1, h2, h3, h4, g1, g2, g3, g4, g5, g6]
def isCode : Jvm.Cond → Bool
  | .code _ _ _ _ => true
  | _ => false
theorem all_split {L : List Jvm.Cond} {P : Jvm.Cond → Bool} (h1 : L.all (fun c => isCode c || P c) = true) (h2 : ∀ c ∈ L.filter isCode, P c = true) : L.all P = true := by
  refine List.all_eq_true.mpr fun c hc => ?_
  have h := List.all_eq_true.mp h1 c hc
  rcases Bool.eq_false_or_eq_true (isCode c) with hi | hi
  · exact h2 c (List.mem_filter.mpr ⟨hc, hi⟩)
  · simpa [hi] using h
set_option maxRecDepth 65536 in
theorem w_c0 : (Jvm.Cond.code x code maxLocals ret).before args0 about1 = true := code_word (m := ⟨1, 1⟩) (meth := k1m1) (c := k1c1) (by decide +kernel) rfl rfl rfl (by decide +kernel)
set_option maxRecDepth 65536 in
theorem w_c1 : (Jvm.Cond.code ({ cls := "com/example/kalchas/kalchas/propositional/HornClauses", name := "<init>", desc := "()V" } : Jvm.MethodName) prog_6_method_1_code (1 : Nat) (Option.none : Option Jvm.ClassFile.FieldType)).before args0 about1 = true := code_word (m := ⟨2, 0⟩) (meth := k2m0) (c := k2c0) (by decide +kernel) rfl rfl rfl (by decide +kernel)
set_option maxRecDepth 65536 in
theorem w_c2 : (Jvm.Cond.code ({ cls := "java/lang/Object", name := "<init>", desc := "()V" } : Jvm.MethodName) object_method_1_code (1 : Nat) (Option.none : Option Jvm.ClassFile.FieldType)).before args0 about1 = true := code_word (m := ⟨0, 0⟩) (meth := k0m0) (c := k0c0) (by decide +kernel) rfl rfl rfl (by decide +kernel)
set_option maxRecDepth 65536 in
theorem w_c3 : (Jvm.Cond.code ({ cls := "com/example/kalchas/kalchas/propositional/HornClauses", name := "newVariable", desc := "()I" } : Jvm.MethodName) prog_6_method_2_code (2 : Nat) (Option.some Jvm.ClassFile.FieldType.int)).before args0 about1 = true := code_word (m := ⟨2, 1⟩) (meth := k2m1) (c := k2c1) (by decide +kernel) rfl rfl rfl (by decide +kernel)
set_option maxRecDepth 65536 in
theorem w_c4 : (Jvm.Cond.code ({ cls := "com/example/kalchas/kalchas/propositional/HornClauses", name := "add", desc := "(I[I)V" } : Jvm.MethodName) prog_6_method_4_code (7 : Nat) (Option.none : Option Jvm.ClassFile.FieldType)).before args0 about1 = true := code_word (m := ⟨2, 2⟩) (meth := k2m2) (c := k2c2) (by decide +kernel) rfl rfl rfl (by decide +kernel)
set_option maxRecDepth 65536 in
theorem w_c5 : (Jvm.Cond.code ({ cls := "com/example/kalchas/kalchas/propositional/HornClauses", name := "checkVariable", desc := "(I)V" } : Jvm.MethodName) prog_6_method_14_code (2 : Nat) (Option.none : Option Jvm.ClassFile.FieldType)).before args0 about1 = true := code_word (m := ⟨2, 4⟩) (meth := k2m4) (c := k2c4) (by decide +kernel) rfl rfl rfl (by decide +kernel)
set_option maxRecDepth 65536 in
theorem w_c6 : (Jvm.Cond.code ({ cls := "com/example/kalchas/kalchas/propositional/HornClauses", name := "checkNumber", desc := "(Ljava/lang/String;II)V" } : Jvm.MethodName) prog_6_method_16_code (3 : Nat) (Option.none : Option Jvm.ClassFile.FieldType)).before args0 about1 = true := code_word (m := ⟨2, 6⟩) (meth := k2m6) (c := k2c6) (by decide +kernel) rfl rfl rfl (by decide +kernel)
set_option maxRecDepth 65536 in
theorem w_c7 : (Jvm.Cond.code ({ cls := "com/example/kalchas/kalchas/propositional/HornClauses", name := "head", desc := "(I)I" } : Jvm.MethodName) prog_6_method_5_code (2 : Nat) (Option.some Jvm.ClassFile.FieldType.int)).before args0 about1 = true := code_word (m := ⟨2, 3⟩) (meth := k2m3) (c := k2c3) (by decide +kernel) rfl rfl rfl (by decide +kernel)
set_option maxRecDepth 65536 in
theorem w_c8 : (Jvm.Cond.code ({ cls := "com/example/kalchas/kalchas/propositional/HornClauses", name := "checkClause", desc := "(I)V" } : Jvm.MethodName) prog_6_method_15_code (2 : Nat) (Option.none : Option Jvm.ClassFile.FieldType)).before args0 about1 = true := code_word (m := ⟨2, 5⟩) (meth := k2m5) (c := k2c5) (by decide +kernel) rfl rfl rfl (by decide +kernel)
def codes1 : List Jvm.Cond := [Jvm.Cond.code x code maxLocals ret, Jvm.Cond.code ({ cls := "com/example/kalchas/kalchas/propositional/HornClauses", name := "<init>", desc := "()V" } : Jvm.MethodName) prog_6_method_1_code (1 : Nat) (Option.none : Option Jvm.ClassFile.FieldType), Jvm.Cond.code ({ cls := "java/lang/Object", name := "<init>", desc := "()V" } : Jvm.MethodName) object_method_1_code (1 : Nat) (Option.none : Option Jvm.ClassFile.FieldType), Jvm.Cond.code ({ cls := "com/example/kalchas/kalchas/propositional/HornClauses", name := "newVariable", desc := "()I" } : Jvm.MethodName) prog_6_method_2_code (2 : Nat) (Option.some Jvm.ClassFile.FieldType.int), Jvm.Cond.code ({ cls := "com/example/kalchas/kalchas/propositional/HornClauses", name := "add", desc := "(I[I)V" } : Jvm.MethodName) prog_6_method_4_code (7 : Nat) (Option.none : Option Jvm.ClassFile.FieldType), Jvm.Cond.code ({ cls := "com/example/kalchas/kalchas/propositional/HornClauses", name := "checkVariable", desc := "(I)V" } : Jvm.MethodName) prog_6_method_14_code (2 : Nat) (Option.none : Option Jvm.ClassFile.FieldType), Jvm.Cond.code ({ cls := "com/example/kalchas/kalchas/propositional/HornClauses", name := "checkNumber", desc := "(Ljava/lang/String;II)V" } : Jvm.MethodName) prog_6_method_16_code (3 : Nat) (Option.none : Option Jvm.ClassFile.FieldType), Jvm.Cond.code ({ cls := "com/example/kalchas/kalchas/propositional/HornClauses", name := "head", desc := "(I)I" } : Jvm.MethodName) prog_6_method_5_code (2 : Nat) (Option.some Jvm.ClassFile.FieldType.int), Jvm.Cond.code ({ cls := "com/example/kalchas/kalchas/propositional/HornClauses", name := "checkClause", desc := "(I)V" } : Jvm.MethodName) prog_6_method_15_code (2 : Nat) (Option.none : Option Jvm.ClassFile.FieldType)]
set_option maxRecDepth 65536 in
theorem codes_eq : words1.filter isCode = codes1 := rfl
theorem w_codes : ∀ c ∈ words1.filter isCode, c.before args0 about1 = true := by
  rw [codes_eq]
  intro c hc
  simp only [codes1, List.mem_cons, List.not_mem_nil, or_false] at hc
  rcases hc with rfl | rfl | rfl | rfl | rfl | rfl | rfl | rfl | rfl
  · exact w_c0
  · exact w_c1
  · exact w_c2
  · exact w_c3
  · exact w_c4
  · exact w_c5
  · exact w_c6
  · exact w_c7
  · exact w_c8
set_option maxRecDepth 65536 in
theorem w_t1 : (words1.take 24).all (fun c => isCode c || c.before args0 about1) = true := by decide +kernel
set_option maxRecDepth 65536 in
theorem w_t2 : ((words1.drop 24).take 24).all (fun c => isCode c || c.before args0 about1) = true := by decide +kernel
set_option maxRecDepth 65536 in
theorem w_t3 : ((words1.drop 24).drop 24).all (fun c => isCode c || c.before args0 about1) = true := by decide +kernel
theorem w_tables : (allAtoms (Jvm.Cond.code x code maxLocals ret :: tables_1)).before args0 about1 = true := by
  rw [allAtoms_all]
  show words1.all (fun c => c.before args0 about1) = true
  refine all_split ?_ w_codes
  rw [← List.take_append_drop 24 words1, List.all_append, w_t1, ← List.take_append_drop 24 (words1.drop 24), List.all_append, w_t2, w_t3]
  rfl
set_option maxRecDepth 65536 in
theorem w_case : (Jvm.Cond.and given_1 narrow_1).before args0 about1 = true := by decide +kernel
theorem w_applies : (headSpec (Jvm.Cond.code x code maxLocals ret :: tables_1) room_1).applies x e0.platform about1 = true :=
  (Spec.applies_iff w_frames).mpr ⟨w_running, w_runnable, w_alone, w_named, w_hears, w_ripe, w_room, w_tables⟩
theorem atStart : AtStart classFile x code maxLocals ret World_1 tables_1 room_1 Calls_1 rest_1 Pre_1 launch0 p0 e0 about1 theMethod args0 below0 :=
  ⟨lists_1, trivial, launch0.admits_env _ _ _, launch0.least_env, fairChoices_fair.cas, fairChoices_fair.clock, w_frames, w_args, w_heap, w_applies, trivial, trivial, w_case⟩
end start1
theorem witness_1 : WitnessClaimed_1 := ⟨start1.p0, start1.e0, start1.about1, start1.theMethod, start1.args0, start1.below0, start1.atStart⟩
end Jvm.Pilot.@@N@@
