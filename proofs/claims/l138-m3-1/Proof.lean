import JvmDerived
import JvmDerived.Pilot.@@N@@Statement
import JvmDerived.Pilot.@@N@@Code
set_option linter.unusedVariables false
set_option linter.unusedSimpArgs false
namespace Jvm.Pilot.@@N@@
open Jvm Jvm.ClassFile Sem Op Lib Jvm.Free Jvm.Stand Jvm.LawKit Jvm.RoadKit Bundle Jvm.Pilot.@@N@@.Jvm.D
def own_Go (tb : Tables) (e : Env) (below : List Frame) (P : State → Outcome → Prop) (T : State) (g : JFrame) : Prop := ∃ t o, Steps tb e below (T.setTop g) t ∧ P t o
theorem own_go {tb : Tables} {e : Env} {below : List Frame} {P : State → Outcome → Prop} {T T' : State} {g g' : JFrame} (k : ∀ target, Steps tb e below (T'.setTop g') target → Steps tb e below (T.setTop g) target) (h : own_Go tb e below P T' g') : own_Go tb e below P T g := by
  obtain ⟨t, o, a, b⟩ := h
  exact ⟨t, o, k t a, b⟩
theorem own_cast {P Q : Prop} (h : P = Q) (p : P) : Q := h ▸ p
def own_upd (f : Nat → Value) (k : Nat) (v : Value) : Nat → Value := fun i => if i = k then v else f i
/-- an array of length z at a, its element i being f i -/
def own_AV (Z : State) (h : Heap) (a : Addr) (ty : FieldType) (z : Int32) (f : Nat → Value) : Prop := ¬ z < 0 ∧ ∃ c : Cell, Arr Z h a c ty ∧ c.slots.size = z.toNatClampNeg ∧ ∀ i, i < c.slots.size → c.slots[i]? = some (f i)
section
variable {Z : State} {h h' : Heap} {a b : Addr} {ty : FieldType} {z j : Int32} {f : Nat → Value} {v w : Value} {sl k : Nat} {ws : List Addr} {cA : ClassId}
theorem own_AV.lt (F : own_AV Z h a ty z f) : a < h.size := by obtain ⟨_, c, A, -⟩ := F; exact A.lt
theorem own_AV.ext (F : own_AV Z h a ty z f) (E : Ext h h') : own_AV Z h' a ty z f := by obtain ⟨q, c, A, r⟩ := F; exact ⟨q, c, A.ext E, r⟩
theorem own_AV.other (F : own_AV Z h b ty z f) (W : Wr h h' a sl v) (q : b ≠ a) : own_AV Z h' b ty z f := by obtain ⟨q1, c, A, r⟩ := F; exact ⟨q1, c, A.other W q, r⟩
theorem own_AV.keep (F : own_AV Z h a ty z f) (K : Keep h h' ws) (q : a ∉ ws) : own_AV Z h' a ty z f := by obtain ⟨q1, c, A, r⟩ := F; exact ⟨q1, c, ⟨K.2.1 a c A.1 q, A.2⟩, r⟩
theorem own_AV.new (A : Arr Z h a (newA cA ty z) ty) (q : ¬ z < 0) : own_AV Z h a ty z (fun _ => defaultValue ty) :=
  ⟨q, _, A, sz_new _ _ _, fun i hi => by
    rw [sz_new] at hi
    simp [newA, hi]⟩
theorem own_AV.set (F : own_AV Z h a ty z f) (W : Wr h h' a j.toNatClampNeg v) (hk : j.toNatClampNeg = k) : own_AV Z h' a ty z (own_upd f k v) := by
  obtain ⟨q, c, A, s, t⟩ := F
  subst hk
  refine ⟨q, _, A.same W, by rw [sz_set]; exact s, fun i hi => ?_⟩
  rw [sz_set] at hi
  by_cases e : i = j.toNatClampNeg
  · subst e; simp [own_upd, Cell.setSlot, hi]
  · simp only [own_upd, if_neg e, Cell.setSlot]
    rw [Array.getElem?_setIfInBounds_ne (Ne.symm e)]; exact t i hi
theorem own_at {c : Cell} (t : ∀ i, i < c.slots.size → c.slots[i]? = some (f i)) (s : c.slots.size = z.toNatClampNeg) (hin : ¬ (j < 0 ∨ c.slots.size ≤ j.toNatClampNeg)) (hk : j.toNatClampNeg = k) (hv : f k = v) : c.slots[j.toNatClampNeg]? = some v := by
  rw [t _ (Nat.lt_of_not_le fun q => hin (Or.inr q)), hk, hv]
theorem own_sta_keep {C n d : String} (F : Sta Z h C n d w) (K : Keep h h' ws) (q : ∀ x ∈ ws, ∀ c : Cell, h[x]? = some c → c.vm.isStatics = false) : Sta Z h' C n d w := by
  obtain ⟨cf, i, k, f, st, cell, h1, h2, h3, h4, h5, h6, h7⟩ := F
  exact ⟨cf, i, k, f, st, cell, h1, h2, h3, h4, K.2.1 st cell h5 (fun m => by rw [q st m cell h5] at h6; cases h6), h6, h7⟩
theorem own_exa_plain {C : String} (F : Exa Z h a C) : ∀ c : Cell, h[a]? = some c → c.vm.isStatics = false := fun c hc => by
  obtain ⟨c1, k, h1, -, -, h4, -⟩ := F; cases h1.symm.trans hc; exact h4
theorem own_AV.plain (F : own_AV Z h a ty z f) : ∀ c : Cell, h[a]? = some c → c.vm.isStatics = false := fun c hc => by
  obtain ⟨_, c1, A, -⟩ := F; cases A.1.symm.trans hc; exact A.plain
end
theorem own_narb {x : Int32} (h : x = 0 ∨ x = 1) : nar .boolean x = x := by rcases h with rfl | rfl <;> rfl
theorem own_exa_ref {args : Array Value} {s : State} {t : Term} {C : String} (hx : (Jvm.Cond.exactly t C).value args s none s [] = some true) : ∃ a, t.eval args s none [] s = some (.ref a) ∧ Exa s s.heap a C := by
  obtain ⟨a', c', cell, k, e1, -⟩ := Cond.exactly_spec (Cond.before_iff.mpr hx)
  exact ⟨a', e1, Exa.start e1 hx⟩
theorem own_eq_int {args : Array Value} {s : State} {t : Term} {k : Int32} (h : (Jvm.Cond.eq t (Jvm.Term.int k)).value args s none s [] = some true) : t.eval args s none [] s = some (.int k) := by
  cases hv : t.eval args s none [] s with
  | none => simp [Cond.value, hv] at h
  | some v => cases v <;> simp [Cond.value, hv, Term.eval] at h <;> simp [h]
theorem own_fld_int {args : Array Value} {s : State} {t : Term} {C n d : String} {a : Addr} {k : Int32} (ev : t.eval args s none [] s = some (.ref a)) (h : (Jvm.Cond.eq (Jvm.Term.field t C n d) (Jvm.Term.int k)).value args s none s [] = some true) : Fld s s.heap a C n d (.int k) :=
  Fld.start ((fld_at ev).symm.trans (own_eq_int h))
theorem own_nar_c (x : Int32) : nar .char (x.toUInt32.toUInt16.toUInt32.toInt32) = x.toUInt32.toUInt16.toUInt32.toInt32 := Value.int.inj (Jvm.Free.XT.narrow_c x)
theorem own_nar_b (x : Int32) : nar .byte (x.toInt8.toInt32) = x.toInt8.toInt32 := Value.int.inj (Jvm.Free.XT.narrow_b x)
theorem own_NSroot {Z : State} {a0 : Array Value} {O K : String} {n : Nat} (w : (Jvm.Cond.noSuperclass O).before a0 Z = true) (wk : (Jvm.Cond.instantiable K n).before a0 Z = true) (hn : O ≠ K) : NS Z O K := by
  obtain ⟨c, k, h1, h2, h3, -, -⟩ := Cond.noSuperclass_spec w
  obtain ⟨t, kt, g1, -⟩ := Cond.instantiable_spec wk
  have ne := ids_ne h1 g1 hn
  refine ⟨c, t, h1, g1, fun fuel => ?_⟩
  cases fuel with
  | zero => rfl
  | succ f => simp [Vm.isSubclassAux, ne, h2, h3]
theorem own_NSno {Z : State} {a0 : Array Value} {C S K : String} {m : Nat} (w : (Jvm.Cond.superclass C S).before a0 Z = true) (wk : (Jvm.Cond.instantiable K m).before a0 Z = true) (n : NS Z C K) (hn : C ≠ K) : ∃ c t, Z.vm.findClass C = some c ∧ Z.vm.findClass K = some t ∧ Z.vm.assignable c t = false := by
  obtain ⟨c, t, h0, g0, n3⟩ := n
  obtain ⟨p, k, kp, h1, h2, h3, h4, h5, -, h7⟩ := Cond.superclass_spec h0 w
  obtain ⟨t', k', g1, g2, g5, g7, -⟩ := Cond.instantiable_spec wk
  cases g0.symm.trans g1
  have g8 : k'.isInterface = false := by
    cases hi : k'.isInterface <;> simp [hi] at g7 ⊢
  have ne := ids_ne h0 g0 hn
  refine ⟨c, t, h0, g0, ?_⟩
  show Z.vm.assignableAux (255 + 1) c t = false
  simp [Vm.assignableAux, ne, h2, g2, h5, g5, g8, Vm.isSubclass, n3]
theorem own_monoW {s t : State} {o : Outcome} {L : List Loc} {k n k' n' : Nat} (h : ReturnedEndW s o t L k n) (hk : k ≤ k') (hn : n ≤ n') : ReturnedEndW s o t L k' n' := ⟨h.1, h.2.1, h.2.2.1, h.2.2.2.mono hk hn⟩
theorem own_ldcSL {p : Program} {l : Launch} {e : Env} {R : Room} {s : State} {vm0 : Vm} {m : MethodId} {args : Array Value} {below : List Frame} {meth : Method} {c : Code} {T : State} {locs : List Loc} {cells slots : Nat} {Z : State} {a0 : Array Value} {h : Heap}
    (X : Stand p l e R (s.setVm vm0) m args below meth c T locs cells slots) (hx : p.tables.exec = Jvm.exec) (hZ : Z.Warmed39 vm0) {own text : String} {index : Nat} (hown : vm0.findClass own = some m.cls) (w : (Jvm.Cond.stringLink own index text).before a0 Z = true) (wS : ∀ a ∈ Bundle.stringAtoms, a.before a0 Z = true)
    (eT : T.heap = h) {k0 : Nat} (hS : s.Since vm0 k0) (hk : k0 ≤ h.size) {g : JFrame} (hg : g.method = m) (hd : decode c.code g.pc = .ok (.ldc index, 2)) {n : Nat} (hn : 4 * text.toList.length ≤ n) (hbig : n ≤ 536870912) (hc : cells + 2 ≤ R.cells) (hl : slots + (n + 4) ≤ R.slots) :
    ∃ (a : Addr) (T' : State) (h' : Heap) (k1 : Nat), Stand p l e R (s.setVm T'.vm) m args below meth c T' locs (cells + 2) (slots + (n + 4)) ∧ T'.heap = h' ∧ Ext h h' ∧ s.Since T'.vm k1 ∧ k1 ≤ h'.size ∧ Z.Warmed39 (s.setVm T'.vm).vm ∧ (s.setVm T'.vm).vm.findClass own = some m.cls ∧ Lit (s.setVm T'.vm) own index a ∧ (s.setVm vm0).Warmed39 T'.vm ∧
      ∀ target, Steps p.tables e below (T'.setTop { g with pc := g.pc + 2, stack := .ref a :: g.stack }) target → Steps p.tables e below (T.setTop g) target := by
  have wS' : ∀ d ∈ Bundle.stringAtoms, d.before args (s.setVm vm0) = true := fun d hd => by
    have q := wS d hd
    simp only [Bundle.stringAtoms, List.mem_cons, List.not_mem_nil, or_false] at hd
    rcases hd with rfl | rfl | rfl | rfl | rfl | rfl | rfl
    · exact mv (s := s.setVm vm0) hZ q
    · exact mv (s := s.setVm vm0) hZ q
    · exact mvA (s := s.setVm vm0) hZ q
    · exact mv (s := s.setVm vm0) hZ q
    · exact mv (s := s.setVm vm0) hZ q
    · exact mv (s := s.setVm vm0) hZ q
    · exact mv (s := s.setVm vm0) hZ q
  obtain ⟨a, T', X', hS', ⟨kk, hkk, hrr⟩, hb, -, st⟩ := X.ldcStringCold hx (own := own) hown (mvS hZ w) wS' hg hd hn hbig hc hl
  subst eT
  have hf : T'.vm.findClass own = some m.cls := by rw [hS'.1.alike.findClass]; exact hown
  exact ⟨a, T', _, _, X', rfl, ext_of hb, hS.trans hS' (Nat.le_trans hk (ext_of hb).1), Nat.le_refl _, State.Warmed39.trans (t := s.setVm vm0) hZ hS'.1, hf, by simp [Lit, State.resolvedAt?, hf, hkk, hrr], hS'.1, st⟩
theorem own_selfsel {Z s : State} {a0 args : Array Value} {y : MethodName} {n : Nat} (hZ : Z.Warmed39 s.vm) (wi : (Jvm.Cond.instantiable y.cls n).before a0 Z = true) (wm : (Jvm.Cond.instanceMethod y).before a0 Z = true) (wp : (Jvm.Cond.privateMethod y).before a0 Z = true) (hy : y.cls ≠ "java/lang/invoke/MethodHandle" ∧ y.cls ≠ "java/lang/invoke/VarHandle") : (Jvm.Cond.selects y.cls y y).before args s = true := by
  obtain ⟨c, k, h1, h2, -, h4, -⟩ := Cond.instantiable_spec (mvT (args := args) hZ wi)
  have g8 : k.isInterface = false := by
    cases hi : k.isInterface <;> simp [hi] at h4 ⊢
  exact selects_self_of_private h1 h2 g8 (Cond.privateMethod_at (mvP hZ wp (args := #[]))) (mvT hZ wm) hy
theorem own_addeq {k a b m n : Nat} (h : k = a + b) (h1 : a = m) (h2 : m + b = n) : k = n := by subst h1; exact h.trans h2
theorem own_lt {a b : Nat} (h : a < b) : a < b := h
theorem own_ne {a b : Nat} (h : a < b ∨ b < a) : a ≠ b := by omega
def own_lts : List Nat → Prop
  | a :: b :: r => a < b ∧ own_lts (b :: r)
  | _ => True

theorem own_pn0 : plainName "com/example/kalchas/kalchas/propositional/HornClausesBodyPinLaw" = true := by first | (simp [plainName, overriddenIn]; done) | decide +kernel
theorem own_pn1 : plainName "com/example/kalchas/kalchas/propositional/HornClauses" = true := by first | (simp [plainName, overriddenIn]; done) | decide +kernel
theorem own_pn2 : plainName "java/util/Arrays" = true := by first | (simp [plainName, overriddenIn]; done) | decide +kernel
theorem own_pd0 : parseMethodDescriptor "(Ljava/lang/String;II)V" = some ⟨[(.object "java/lang/String"), .int, .int], none⟩ := by decide +kernel
theorem own_pd1 : parseMethodDescriptor "(I)V" = some ⟨[.int], none⟩ := by decide +kernel
theorem own_pd2 : parseMethodDescriptor "(II)V" = some ⟨[.int, .int], none⟩ := by decide +kernel
theorem own_pd3 : parseMethodDescriptor "(II)I" = some ⟨[.int, .int], some .int⟩ := by decide +kernel
theorem own_pd4 : parseMethodDescriptor "([III)[I" = some ⟨[(.array .int), .int, .int], some (.array .int)⟩ := by decide +kernel
theorem own_pd5 : parseMethodDescriptor "(IIII)[I" = some ⟨[.int, .int, .int, .int], some (.array .int)⟩ := by decide +kernel
theorem own_pd6 : parseMethodDescriptor "()V" = some ⟨[], none⟩ := by decide +kernel
theorem own_pd7 : parseMethodDescriptor "()I" = some ⟨[], some .int⟩ := by decide +kernel
theorem own_pd8 : parseMethodDescriptor "(I[I)V" = some ⟨[.int, (.array .int)], none⟩ := by decide +kernel
theorem own_pd9 : parseMethodDescriptor "(I)[I" = some ⟨[.int], some (.array .int)⟩ := by decide +kernel
theorem own_pd10 : parseMethodDescriptor "([IIIII)Z" = some ⟨[(.array .int), .int, .int, .int, .int], some .boolean⟩ := by decide +kernel
theorem own_wS {Z : State} {a0 : Array Value} (hw : ∀ d ∈ tables_1, d.before a0 Z = true) : ∀ a ∈ Bundle.stringAtoms, a.before a0 Z = true := fun d hd => by
  simp only [Bundle.stringAtoms, List.mem_cons, List.not_mem_nil, or_false] at hd
  rcases hd with rfl | rfl | rfl | rfl | rfl | rfl | rfl
  · exact hw _ (List.mem_of_getElem? (i := 43) rfl)
  · exact hw _ (List.mem_of_getElem? (i := 44) rfl)
  · exact hw _ (List.mem_of_getElem? (i := 45) rfl)
  · exact hw _ (List.mem_of_getElem? (i := 46) rfl)
  · exact hw _ (List.mem_of_getElem? (i := 47) rfl)
  · exact hw _ (List.mem_of_getElem? (i := 48) rfl)
  · exact hw _ (List.mem_of_getElem? (i := 49) rfl)
theorem own_updf {ty : FieldType} {f : Nat → Value} {k : Nat} {v : Value} (hf : ∀ i, fits ty (f i) = true) (hv : fits ty v = true) : ∀ i, fits ty (own_upd f k v i) = true := fun i => by
  unfold own_upd; split
  · exact hv
  · exact hf i
def own_cpf (f : Nat → Value) (sp : Nat) (g : Nat → Value) (dp nn : Nat) : Nat → Value := fun i => if dp ≤ i ∧ i < dp + nn then f (sp + (i - dp)) else g i
theorem own_cpff {ty : FieldType} {f g : Nat → Value} {sp dp nn : Nat} (hf : ∀ i, fits ty (f i) = true) (hg : ∀ i, fits ty (g i) = true) : ∀ i, fits ty (own_cpf f sp g dp nn i) = true := fun i => by
  unfold own_cpf; split
  · exact hf _
  · exact hg i
theorem own_AV.arv {Z : State} {h : Heap} {a : Addr} {ty : FieldType} {z : Int32} {f : Nat → Value} {d : Value} (F : own_AV Z h a ty z f) (hf : ∀ i, fits ty (f i) = true) : ∃ k, Arv Z h a k ty z ((List.range z.toNatClampNeg).map f) d := by
  obtain ⟨q, c, A, s, t⟩ := F
  refine ⟨c.cls, c, A, rfl, s, q, fun i hi => ?_, fun i hi => ?_⟩
  · rw [t i hi]; rw [s] at hi; simp [List.getD, hi]
  · rw [s] at hi; simp [List.getD, hi, hf i]
theorem own_AV.of_arv {Z : State} {h : Heap} {a : Addr} {k : ClassId} {ty : FieldType} {z : Int32} {vs : List Value} {d : Value} {f : Nat → Value} (F : Arv Z h a k ty z vs d) (hf : ∀ i, i < z.toNatClampNeg → vs.getD i d = f i) : own_AV Z h a ty z f := by
  obtain ⟨c, A, -, s, q, H, -⟩ := F
  exact ⟨q, c, A, s, fun i hi => by rw [H i hi, hf i (by rw [← s]; exact hi)]⟩
section
variable {p : Program} {l : Launch} {e : Env} {R : Room} {s : State} {m : MethodId} {args : Array Value} {below : List Frame} {meth : Method} {c : Code} {T : State} {locs : List Loc} {cells slots : Nat} {Z : State} {h : Heap} {a b : Addr}
theorem own_cp (X : Stand p l e R s m args below meth c T locs cells slots) (hx : p.tables.exec = Jvm.exec) (hZ : Z.Warmed39 s.vm) {a0 : Array Value} {own : String} {index : Nat} (hown : s.vm.findClass own = some m.cls)
    (w1 : (Jvm.Cond.methodLink own index Jvm.Stand.acN).before a0 Z = true) (w2 : (Jvm.Cond.native Jvm.Stand.acN).before a0 Z = true) (w3 : (Jvm.Cond.static Jvm.Stand.acN).before a0 Z = true) (w4 : (Jvm.Cond.initialized "java/lang/System").before a0 Z = true) (eT : T.heap = h)
    {z z' sp dp nn : Int32} {f g' : Nat → Value} (A : own_AV Z h a .int z f) (B : own_AV Z h b .int z' g') (fA : ∀ i, fits .int (f i) = true) (fB : ∀ i, fits .int (g' i) = true)
    (h1 : ¬ sp < 0) (h2 : ¬ dp < 0) (h3 : ¬ nn < 0) (h4 : sp.toNatClampNeg + nn.toNatClampNeg ≤ z.toNatClampNeg) (h5 : dp.toNatClampNeg + nn.toNatClampNeg ≤ z'.toNatClampNeg) {n0 : Nat} (N : Fr n0 locs) (ge : n0 ≤ b)
    {g : JFrame} (hg : g.method = m) (hsize : g.locals.size = c.maxLocals) {rest : List Value} (hs : g.stack = .int nn :: .int dp :: .ref b :: .int sp :: .ref a :: rest) (hd : decode c.code g.pc = .ok (.invokestatic index, 3))
    (hf : 1 ≤ R.frames) {W : Nat} (hW : 2 * g.monitorRoom + (rest.map fun v => v.category).sum ≤ W) (hlo : W + (nativeFrameWords "java/lang/System" "arraycopy" 5 + 11) ≤ R.locals) :
    ∃ T' h' L, Stand p l e R s m args below meth c T' L cells slots ∧ T'.heap = h' ∧ Fr n0 L ∧ Keep h h' [b] ∧ own_AV Z h' b .int z' (own_cpf f sp.toNatClampNeg g' dp.toNatClampNeg nn.toNatClampNeg) ∧
      ∀ target, Steps p.tables e below (T'.setTop { g with pc := g.pc + 3, stack := rest }) target → Steps p.tables e below (T.setTop g) target := by
  obtain ⟨k1, A'⟩ := A.arv (d := .int 0) fA
  obtain ⟨k2, B'⟩ := B.arv (d := .int 0) fB
  obtain ⟨T', h', L, X', e', N', K', V', st⟩ := cpA X hx hZ hown w1 w2 w3 w4 eT A' B' (Or.inl ⟨rfl, rfl⟩) h1 h2 h3 h4 h5 rfl (by simpa using h5) N ge hg hsize hs hd hf hW hlo
  refine ⟨T', h', L, X', e', N', K', own_AV.of_arv V' fun i hi => ?_, st⟩
  unfold own_cpf
  generalize sp.toNatClampNeg = sp' at *
  generalize dp.toNatClampNeg = dp' at *
  generalize nn.toNatClampNeg = nn' at *
  generalize z.toNatClampNeg = zz at *
  generalize z'.toNatClampNeg = zz' at *
  have hl : (List.map g' (List.range zz')).length = zz' := by simp
  simp only [List.getD]
  by_cases c1 : i < dp'
  · rw [if_neg (by omega)]
    rw [List.append_assoc, List.getElem?_append_left (by simp; omega)]
    simp [List.getElem?_take, c1, hi]
  · by_cases c2 : i < dp' + nn'
    · rw [if_pos (by omega)]
      rw [List.append_assoc, List.getElem?_append_right (by simp; omega), List.getElem?_append_left (by simp; omega)]
      have q1 : i - (List.take dp' (List.map g' (List.range zz'))).length = i - dp' := by simp; omega
      rw [q1]
      have q2 : i - dp' < nn' := by omega
      have q3 : sp' + (i - dp') < zz := by omega
      simp [q2, q3]
    · rw [if_neg (by omega)]
      rw [List.getElem?_append_right (by simp; omega)]
      have q1 : i - (List.take dp' (List.map g' (List.range zz')) ++ List.map (fun i => ((List.map f (List.range zz)).getD (sp' + i) (.int 0))) (List.range nn')).length = i - (dp' + nn') := by simp; omega
      simp only [List.getD] at q1
      rw [q1, List.getElem?_drop]
      have q2 : dp' + nn' + (i - (dp' + nn')) = i := by omega
      rw [q2]; simp [hi]
end
/-- the entry is resolved in these tables -/
def own_LP (Z : State) (own : String) (index : Nat) (vm : Vm) : Prop := ∃ a, Lit (Z.setVm vm) own index a
theorem own_backL {p : Program} {l : Launch} {e : Env} {R : Room} {s : State} {args : Array Value} {below : List Frame} {Z : State} {a0 : Array Value} {h : Heap} {y : MethodName} {bytes : ByteArray} {maxL : Nat} {ret : Option FieldType} {rm : Room} {len W : Nat} {as' : Array Value} {Q : Option Value → Heap → List Loc → Prop} {PV QV : Vm → Prop}
    (hM : MetFree l y (head1 [Jvm.Cond.code y bytes maxL ret] rm) (fun a U => a = as' ∧ Z.Warmed39 U.vm ∧ U.heap = h ∧ PV U.vm) (fun _ _ _ _ _ => True) (fun _ U o U' => ∃ v L, o = .returned v ∧ (Q v U'.heap L ∧ QV U'.vm) ∧ ReturnedEndW U o U' L rm.cells rm.slots))
    (hZ : Z.Warmed39 s.vm) (wc : (Jvm.Cond.code y bytes maxL ret).before a0 Z = true) (wz : (Jvm.Cond.initialized y.cls).before a0 Z = true) (hf : rm.frames + 1 ≤ R.frames) (hl : W + (maxL + 11) + rm.locals ≤ R.locals) (hPV : ∀ vm, s.Warmed39 vm → PV vm) :
    BackS l R p e below s args y len W (fun A a => a = as' ∧ A.U.heap = h ∧ A.cells + rm.cells ≤ R.cells ∧ A.slots + rm.slots ≤ R.slots)
      (fun A _ v B => ∃ L, (Q v B.U.heap L ∧ QV B.U.vm) ∧ B.locs = A.locs ++ L ∧ B.cells = A.cells + rm.cells ∧ B.slots = A.slots + rm.slots) := by
  refine BackS.of_freeW (bytes := bytes) (maxL := maxL) (ret := ret) (E := fun _ _ o t L k n => k = rm.cells ∧ n = rm.slots ∧ ∃ v, o = .returned v ∧ Q v t.heap L ∧ QV t.vm) hM hf hl ?_ ?_ (fun _ _ _ _ _ _ _ _ _ => trivial) ?_ ?_
  · intro m meth c A a Y hp
    have hU : Z.Warmed39 A.U.vm := wtrans hZ Y.warmed
    exact ⟨by show (Jvm.Cond.and _ .tt).before a A.U = true; rw [Cond.before_and, mv hU wc]; rfl, mv hU wc, mv hU wz, hp.2.2.1, hp.2.2.2⟩
  · intro m meth c A a g mk Y hp
    exact ⟨hp.1, wtrans hZ Y.warmed, hp.2.1, hPV _ Y.warmed.wide⟩
  · rintro a first o t ⟨v, L, h1, h2, h3⟩
    exact ⟨L, _, _, h3, rfl, rfl, v, h1, h2⟩
  · rintro m meth c A a g mk v t L k n Y hp - - ⟨rfl, rfl, v', h1, h2⟩
    cases h1
    exact ⟨L, h2, rfl, rfl, rfl⟩
theorem own_litW {s : State} {vm0 vm1 : Vm} {own : String} {index : Nat} {a : Addr} (L : Lit (s.setVm vm0) own index a) (hW : (s.setVm vm0).Warmed39 vm1) {u : State} : Lit (u.setVm vm1) own index a := State.resolvedAt?_warmed39 (s := s.setVm vm0) hW L
theorem own_AV.congr {Z : State} {h : Heap} {a : Addr} {ty : FieldType} {z : Int32} {f g : Nat → Value} (F : own_AV Z h a ty z f) (e : ∀ i, i < z.toNatClampNeg → f i = g i) : own_AV Z h a ty z g := by
  obtain ⟨q, c, A, s, t⟩ := F
  exact ⟨q, c, A, s, fun i hi => by rw [t i hi, e i (by rw [← s]; exact hi)]⟩

def own_n3 (a b c : Int32) : Nat → Value := fun i => .int (if i = 0 then a else if i = 1 then b else c)
def own_sh (g : Nat → Value) (k : Nat) : Nat → Value := fun i => g (k + i)
theorem own_n3c0 (a b c : Int32) : ∀ i, i < ((0 : Int32)).toNatClampNeg → (fun _ => (.int (0 : Int32))) i = own_n3 a b c i := fun i hi => by
  have hi : i < 0 := hi
  match i, hi with
  | (j + 0), q => exact absurd q (by omega)
theorem own_n3c1 (a b c : Int32) : ∀ i, i < ((1 : Int32)).toNatClampNeg → (own_upd (fun _ => (.int (0 : Int32))) 0 (.int a)) i = own_n3 a b c i := fun i hi => by
  have hi : i < 1 := hi
  match i, hi with
  | 0, _ => rfl
  | (j + 1), q => exact absurd q (by omega)
theorem own_n3c2 (a b c : Int32) : ∀ i, i < ((2 : Int32)).toNatClampNeg → (own_upd (own_upd (fun _ => (.int (0 : Int32))) 0 (.int a)) 1 (.int b)) i = own_n3 a b c i := fun i hi => by
  have hi : i < 2 := hi
  match i, hi with
  | 0, _ => rfl
  | 1, _ => rfl
  | (j + 2), q => exact absurd q (by omega)
theorem own_n3c3 (a b c : Int32) : ∀ i, i < ((3 : Int32)).toNatClampNeg → (own_upd (own_upd (own_upd (fun _ => (.int (0 : Int32))) 0 (.int a)) 1 (.int b)) 2 (.int c)) i = own_n3 a b c i := fun i hi => by
  have hi : i < 3 := hi
  match i, hi with
  | 0, _ => rfl
  | 1, _ => rfl
  | 2, _ => rfl
  | (j + 3), q => exact absurd q (by omega)
theorem own_cpf_sh {g f0 : Nat → Value} {sp dp nn : Nat} (hd : dp = 0) : ∀ i, i < nn → own_cpf g sp f0 dp nn i = own_sh g sp i := fun i hi => by
  unfold own_cpf own_sh
  rw [if_pos (by omega)]
  congr 1; omega
theorem own_cpf_in {f g : Nat → Value} {sp dp nn i : Nat} (h1 : dp ≤ i) (h2 : i < dp + nn) : own_cpf f sp g dp nn i = f (sp + (i - dp)) := by unfold own_cpf; rw [if_pos ⟨h1, h2⟩]
theorem own_cpf_out {f g : Nat → Value} {sp dp nn i : Nat} (h : i < dp ∨ dp + nn ≤ i) : own_cpf f sp g dp nn i = g i := by unfold own_cpf; rw [if_neg (by omega)]
theorem own_pick0 {f0 f1 f2 g : Nat → Value} {s0 z0 n0 n1 n2 d1 d2 lo : Nat} (hs : s0 = 0) (hz : z0 = 0) (h1 : d1 = n0) (h2 : d2 = n0 + n1) (hl : lo = 0) : ∀ i, i < n0 → own_sh (own_cpf f2 s0 (own_cpf f1 s0 (own_cpf f0 s0 g z0 n0) d1 n1) d2 n2) lo i = f0 i := fun i hi => by
  subst hs hz h1 h2 hl
  unfold own_sh
  rw [own_cpf_out (by omega), own_cpf_out (by omega), own_cpf_in (by omega) (by omega)]
  congr 1; omega
theorem own_pick1 {f0 f1 f2 g : Nat → Value} {s0 z0 n0 n1 n2 d1 d2 lo : Nat} (hs : s0 = 0) (h2 : d2 = d1 + n1) (hl : lo = d1) : ∀ i, i < n1 → own_sh (own_cpf f2 s0 (own_cpf f1 s0 (own_cpf f0 s0 g z0 n0) d1 n1) d2 n2) lo i = f1 i := fun i hi => by
  subst hs h2 hl
  unfold own_sh
  rw [own_cpf_out (by omega), own_cpf_in (by omega) (by omega)]
  congr 1; omega
theorem own_pick2 {f0 f1 f2 g : Nat → Value} {s0 z0 n0 n1 n2 d1 d2 lo : Nat} (hs : s0 = 0) (hl : lo = d2) : ∀ i, i < n2 → own_sh (own_cpf f2 s0 (own_cpf f1 s0 (own_cpf f0 s0 g z0 n0) d1 n1) d2 n2) lo i = f2 i := fun i hi => by
  subst hs hl
  unfold own_sh
  rw [own_cpf_in (by omega) (by omega)]
  congr 1; omega
theorem own_nat {x : Int32} (h : 0 ≤ x.toInt) : (x.toNatClampNeg : Int) = x.toInt := by
  have q : ¬ x < 0 := by rw [Int32.lt_iff_toInt_lt]; show ¬ x.toInt < 0; omega
  have := nat_of q
  omega
theorem own_addx (x y : Int32) (h1 : -2147483648 ≤ x.toInt + y.toInt) (h2 : x.toInt + y.toInt < 2147483648) : (x + y).toInt = x.toInt + y.toInt := by
  have a := c_iadd x y
  have b := rng32 (x + y)
  omega
theorem own_subx (x y : Int32) (h1 : -2147483648 ≤ x.toInt - y.toInt) (h2 : x.toInt - y.toInt < 2147483648) : (x - y).toInt = x.toInt - y.toInt := by
  have a := c_isub x y
  have b := rng32 (x - y)
  omega
theorem own_r4 {x : Int32} (h : x = (0 : Int32) ∨ x = (1 : Int32) ∨ x = (2 : Int32) ∨ x = (3 : Int32)) : 0 ≤ x.toInt ∧ x.toInt ≤ 3 := by rcases h with rfl | rfl | rfl | rfl <;> decide
theorem own_0i : (0 : Int32).toInt = 0 := by decide
theorem own_cl5 {d : Int32} {n : Nat} {a b : Int32} (h : 0 ≤ d.toInt ∧ d.toInt ≤ (n : Int)) (hab : n + a.toNatClampNeg ≤ b.toNatClampNeg := by decide) : d.toNatClampNeg + a.toNatClampNeg ≤ b.toNatClampNeg := by
  have := own_nat h.1
  omega
theorem own_d1_0 : decode method_4_code 0 = .ok (.iload_n 0, 1) := by decide +kernel
theorem own_d1_1 : decode method_4_code 1 = .ok (.iload_n 1, 1) := by decide +kernel
theorem own_d1_2 : decode method_4_code 2 = .ok (.iushr, 1) := by decide +kernel
theorem own_d1_3 : decode method_4_code 3 = .ok (.sipush 1023, 3) := by decide +kernel
theorem own_d1_6 : decode method_4_code 6 = .ok (.iand, 1) := by decide +kernel
theorem own_d1_7 : decode method_4_code 7 = .ok (.iconst 3, 1) := by decide +kernel
theorem own_d1_8 : decode method_4_code 8 = .ok (.irem, 1) := by decide +kernel
theorem own_d1_9 : decode method_4_code 9 = .ok (.ireturn, 1) := by decide +kernel
theorem own_ef_own_rm1 (m : MethodId) (x0 : Int32) (x1 : Int32) : entryFrame m #[(.int x0), (.int x1)] 2 = mkF m 0 #[.val (.int x0), .val (.int x1)] [] := by first | (simp [entryFrame, mkF, argsToLocals, Value.category]; done) | rfl
set_option maxRecDepth 65536 in
set_option maxHeartbeats 4000000 in
theorem own_t1_0 (p_1 : Int32) (p_2 : Int32)  : ¬ (((((p_1.toUInt32 >>> (p_2 &&& 31).toUInt32).toInt32) &&& (1023 : Int32)) % (3 : Int32)) < 0) := by
  have a := c_mask ((p_1.toUInt32 >>> (p_2 &&& 31).toUInt32).toInt32) 1023 10 (by decide) (by decide)
  have b := (c_irem (((p_1.toUInt32 >>> (p_2 &&& 31).toUInt32).toInt32) &&& (1023 : Int32)) 3 3 (by decide)).1 (by omega)
  have e0 : (0 : Int32).toInt = 0 := by decide
  have e3 : (3 : Int32).toInt = 3 := by decide
  simp only [Int32.lt_iff_toInt_lt, e0, e3]
  omega
set_option maxRecDepth 65536 in
set_option maxHeartbeats 4000000 in
theorem own_t1_1 (p_1 : Int32) (p_2 : Int32)  : ((((p_1.toUInt32 >>> (p_2 &&& 31).toUInt32).toInt32) &&& (1023 : Int32)) % (3 : Int32)) < (3 : Int32) := by
  have a := c_mask ((p_1.toUInt32 >>> (p_2 &&& 31).toUInt32).toInt32) 1023 10 (by decide) (by decide)
  have b := (c_irem (((p_1.toUInt32 >>> (p_2 &&& 31).toUInt32).toInt32) &&& (1023 : Int32)) 3 3 (by decide)).1 (by omega)
  have e0 : (0 : Int32).toInt = 0 := by decide
  have e3 : (3 : Int32).toInt = 3 := by decide
  simp only [Int32.lt_iff_toInt_lt, e0, e3]
  omega
def own_Q1 (Z : State) (p_1 : Int32) (p_2 : Int32) (h0 : Heap) (n0 : Nat) (v : Option Value) (h : Heap) (L : List Loc) : Prop := ∃ (r : Int32), v = some (.int r) ∧ Fr n0 L ∧ h = h0 ∧ (¬ (r < 0)) ∧ (r < (3 : Int32))
set_option maxRecDepth 65536 in
set_option maxHeartbeats 40000000 in
theorem own_rm1 (l : Launch) (Z : State) (a0 : Array Value) (hw : ∀ d ∈ tables_1, d.before a0 Z = true) (ws : List Jvm.Cond) (p_1 : Int32) (p_2 : Int32) (h0 : Heap) (n0 : Nat) (Z0 : n0 ≤ h0.size) :
    MetFree l (⟨"com/example/kalchas/kalchas/propositional/HornClausesBodyPinLaw", "e", "(II)I"⟩ : MethodName) (head1 (Jvm.Cond.code (⟨"com/example/kalchas/kalchas/propositional/HornClausesBodyPinLaw", "e", "(II)I"⟩ : MethodName) method_4_code 2 (some .int) :: ws) ({ frames := 0, cells := 0, slots := 0, locals := 0 } : Room)) (fun a U => a = #[(.int p_1), (.int p_2)] ∧ Z.Warmed39 U.vm ∧ U.heap = h0) (fun _ _ _ _ _ => True) (fun _ U o U' => ∃ v L, o = .returned v ∧ own_Q1 Z p_1 p_2 h0 n0 v U'.heap L ∧ FrameEnd U o U' L ({ frames := 0, cells := 0, slots := 0, locals := 0 } : Room).cells ({ frames := 0, cells := 0, slots := 0, locals := 0 } : Room).slots) := by
  refine MetFree.of_bodySF (plainFor_of_name own_pn0) hisR ?_
  intro p e s m args below meth c s₁ Bd hml0 hP hK
  obtain ⟨rfl, hZ, hh⟩ := hP
  have hx := Bd.exec
  have hby := Bd.bytes
  have hml : c.maxLocals = 2 := hml0
  have hown : s.vm.findClass "com/example/kalchas/kalchas/propositional/HornClausesBodyPinLaw" = some m.cls := findClass_of_methodNamed Bd.named
  have hnm := (name_of_methodNamed Bd.named Bd.method).1
  have X0 : Stand p l e ({ frames := 0, cells := 0, slots := 0, locals := 0 } : Room) s m #[(.int p_1), (.int p_2)] below meth c s₁ [] 0 0 := Stand.of_body Bd
  have e0 : s₁.heap = h0 := by rw [← hh, Bd.state]; rfl
  have N0 := Fr.nil n0
  have z0 : n0 ≤ h0.size := Z0
  show own_Go p.tables e below (fun t o => t.status = .running ∧ Ended t below o ∧ ∃ v L, o = .returned v ∧ own_Q1 Z p_1 p_2 h0 n0 v t.heap L ∧ FrameEnd s o t L ({ frames := 0, cells := 0, slots := 0, locals := 0 } : Room).cells ({ frames := 0, cells := 0, slots := 0, locals := 0 } : Room).slots) s₁ (entryFrame m #[(.int p_1), (.int p_2)] 2)
  rw [own_ef_own_rm1 m p_1 p_2]
  show own_Go _ _ _ _ s₁ (mkF m 0 #[.val (.int p_1), .val (.int p_2)] [])
  refine own_go (fun _ k => XS.iloadN X0.here hx rfl (hb hby own_d1_0) rfl k) ?_
  show own_Go _ _ _ _ s₁ (mkF m 1 #[.val (.int p_1), .val (.int p_2)] [(.int p_1)])
  refine own_go (fun _ k => XS.iloadN X0.here hx rfl (hb hby own_d1_1) rfl k) ?_
  show own_Go _ _ _ _ s₁ (mkF m 2 #[.val (.int p_1), .val (.int p_2)] [(.int p_2), (.int p_1)])
  refine own_go (fun _ k => XS.iushr X0.here hx rfl (hb hby own_d1_2) rfl k) ?_
  show own_Go _ _ _ _ s₁ (mkF m 3 #[.val (.int p_1), .val (.int p_2)] [(.int ((p_1.toUInt32 >>> (p_2 &&& 31).toUInt32).toInt32))])
  refine own_go (fun _ k => XS.sipush X0.here hx rfl (hb hby own_d1_3) k) ?_
  show own_Go _ _ _ _ s₁ (mkF m 6 #[.val (.int p_1), .val (.int p_2)] [(.int (1023 : Int32)), (.int ((p_1.toUInt32 >>> (p_2 &&& 31).toUInt32).toInt32))])
  refine own_go (fun _ k => XS.iand X0.here hx rfl (hb hby own_d1_6) rfl k) ?_
  show own_Go _ _ _ _ s₁ (mkF m 7 #[.val (.int p_1), .val (.int p_2)] [(.int (((p_1.toUInt32 >>> (p_2 &&& 31).toUInt32).toInt32) &&& (1023 : Int32)))])
  refine own_go (fun _ k => XS.iconst X0.here hx rfl (hb hby own_d1_7) k) ?_
  show own_Go _ _ _ _ s₁ (mkF m 8 #[.val (.int p_1), .val (.int p_2)] [(.int (3 : Int32)), (.int (((p_1.toUInt32 >>> (p_2 &&& 31).toUInt32).toInt32) &&& (1023 : Int32)))])
  have nz1 : (3 : Int32) ≠ 0 := by decide
  refine own_go (fun _ k => iremM X0 hx rfl (hb hby own_d1_8) rfl nz1 k) ?_
  show own_Go _ _ _ _ s₁ (mkF m 9 #[.val (.int p_1), .val (.int p_2)] [(.int ((((p_1.toUInt32 >>> (p_2 &&& 31).toUInt32).toInt32) &&& (1023 : Int32)) % (3 : Int32)))])
  obtain ⟨fs, hr, hrun, hended, hW, hsame⟩ := X0.leave (v := some (.int ((((p_1.toUInt32 >>> (p_2 &&& 31).toUInt32).toInt32) &&& (1023 : Int32)) % (3 : Int32)))) (fun h => by rw [Bd.returns] at h; cases h)
  refine ⟨_, _, retOut X0 hx Bd.returns rfl (Or.inl ⟨rfl, Or.inl rfl, _, rfl⟩) (hb hby own_d1_9) hr, hrun, hended, _, _, rfl, ?_, ⟨_, rfl⟩, hW, hsame.mono (by decide) (by decide)⟩
  show own_Q1 Z p_1 p_2 h0 n0 _ s₁.heap _
  rw [e0]
  exact ⟨((((p_1.toUInt32 >>> (p_2 &&& 31).toUInt32).toInt32) &&& (1023 : Int32)) % (3 : Int32)), rfl, N0, rfl, (own_t1_0 p_1 p_2 ), (own_t1_1 p_1 p_2 )⟩
theorem own_d2_0 : decode method_2_code 0 = .ok (.iload_n 0, 1) := by decide +kernel
theorem own_d2_1 : decode method_2_code 1 = .ok (.ifCond .ne 7, 3) := by decide +kernel
theorem own_d2_4 : decode method_2_code 4 = .ok (.iconst 0, 1) := by decide +kernel
theorem own_d2_5 : decode method_2_code 5 = .ok (.newarray .int, 2) := by decide +kernel
theorem own_d2_7 : decode method_2_code 7 = .ok (.areturn, 1) := by decide +kernel
theorem own_d2_8 : decode method_2_code 8 = .ok (.iload_n 0, 1) := by decide +kernel
theorem own_d2_9 : decode method_2_code 9 = .ok (.iconst 1, 1) := by decide +kernel
theorem own_d2_10 : decode method_2_code 10 = .ok (.if_icmp .ne 11, 3) := by decide +kernel
theorem own_d2_13 : decode method_2_code 13 = .ok (.iconst 1, 1) := by decide +kernel
theorem own_d2_14 : decode method_2_code 14 = .ok (.newarray .int, 2) := by decide +kernel
theorem own_d2_16 : decode method_2_code 16 = .ok (.dup, 1) := by decide +kernel
theorem own_d2_17 : decode method_2_code 17 = .ok (.iconst 0, 1) := by decide +kernel
theorem own_d2_18 : decode method_2_code 18 = .ok (.iload_n 1, 1) := by decide +kernel
theorem own_d2_19 : decode method_2_code 19 = .ok (.iastore, 1) := by decide +kernel
theorem own_d2_20 : decode method_2_code 20 = .ok (.areturn, 1) := by decide +kernel
theorem own_d2_21 : decode method_2_code 21 = .ok (.iload_n 0, 1) := by decide +kernel
theorem own_d2_22 : decode method_2_code 22 = .ok (.iconst 2, 1) := by decide +kernel
theorem own_d2_23 : decode method_2_code 23 = .ok (.if_icmp .ne 15, 3) := by decide +kernel
theorem own_d2_26 : decode method_2_code 26 = .ok (.iconst 2, 1) := by decide +kernel
theorem own_d2_27 : decode method_2_code 27 = .ok (.newarray .int, 2) := by decide +kernel
theorem own_d2_29 : decode method_2_code 29 = .ok (.dup, 1) := by decide +kernel
theorem own_d2_30 : decode method_2_code 30 = .ok (.iconst 0, 1) := by decide +kernel
theorem own_d2_31 : decode method_2_code 31 = .ok (.iload_n 1, 1) := by decide +kernel
theorem own_d2_32 : decode method_2_code 32 = .ok (.iastore, 1) := by decide +kernel
theorem own_d2_33 : decode method_2_code 33 = .ok (.dup, 1) := by decide +kernel
theorem own_d2_34 : decode method_2_code 34 = .ok (.iconst 1, 1) := by decide +kernel
theorem own_d2_35 : decode method_2_code 35 = .ok (.iload_n 2, 1) := by decide +kernel
theorem own_d2_36 : decode method_2_code 36 = .ok (.iastore, 1) := by decide +kernel
theorem own_d2_37 : decode method_2_code 37 = .ok (.areturn, 1) := by decide +kernel
theorem own_d2_38 : decode method_2_code 38 = .ok (.iconst 3, 1) := by decide +kernel
theorem own_d2_39 : decode method_2_code 39 = .ok (.newarray .int, 2) := by decide +kernel
theorem own_d2_41 : decode method_2_code 41 = .ok (.dup, 1) := by decide +kernel
theorem own_d2_42 : decode method_2_code 42 = .ok (.iconst 0, 1) := by decide +kernel
theorem own_d2_43 : decode method_2_code 43 = .ok (.iload_n 1, 1) := by decide +kernel
theorem own_d2_44 : decode method_2_code 44 = .ok (.iastore, 1) := by decide +kernel
theorem own_d2_45 : decode method_2_code 45 = .ok (.dup, 1) := by decide +kernel
theorem own_d2_46 : decode method_2_code 46 = .ok (.iconst 1, 1) := by decide +kernel
theorem own_d2_47 : decode method_2_code 47 = .ok (.iload_n 2, 1) := by decide +kernel
theorem own_d2_48 : decode method_2_code 48 = .ok (.iastore, 1) := by decide +kernel
theorem own_d2_49 : decode method_2_code 49 = .ok (.dup, 1) := by decide +kernel
theorem own_d2_50 : decode method_2_code 50 = .ok (.iconst 2, 1) := by decide +kernel
theorem own_d2_51 : decode method_2_code 51 = .ok (.iload_n 3, 1) := by decide +kernel
theorem own_d2_52 : decode method_2_code 52 = .ok (.iastore, 1) := by decide +kernel
theorem own_d2_53 : decode method_2_code 53 = .ok (.areturn, 1) := by decide +kernel
theorem own_ef_own_rm2 (m : MethodId) (x0 : Int32) (x1 : Int32) (x2 : Int32) (x3 : Int32) : entryFrame m #[(.int x0), (.int x1), (.int x2), (.int x3)] 4 = mkF m 0 #[.val (.int x0), .val (.int x1), .val (.int x2), .val (.int x3)] [] := by first | (simp [entryFrame, mkF, argsToLocals, Value.category]; done) | rfl
set_option maxRecDepth 65536 in
set_option maxHeartbeats 4000000 in
theorem own_t2_0 (p_1 : Int32) (hl : p_1 = (0 : Int32) ∨ p_1 = (1 : Int32) ∨ p_1 = (2 : Int32) ∨ p_1 = (3 : Int32)) : p_1 = (0 : Int32) ∨ p_1 = (1 : Int32) ∨ p_1 = (2 : Int32) ∨ p_1 = (3 : Int32) := by
  exact hl
def own_Q2 (Z : State) (p_1 : Int32) (p_2 : Int32) (p_3 : Int32) (p_4 : Int32) (h0 : Heap) (n0 : Nat) (v : Option Value) (h : Heap) (L : List Loc) : Prop := ∃ (x : Addr), v = some (.ref x) ∧ Fr n0 L ∧ Keep h0 h [] ∧ own_AV Z h x .int p_1 (own_n3 p_2 p_3 p_4) ∧ (h0.size ≤ x)
set_option maxRecDepth 65536 in
set_option maxHeartbeats 40000000 in
theorem own_rm2 (l : Launch) (Z : State) (a0 : Array Value) (hw : ∀ d ∈ tables_1, d.before a0 Z = true) (ws : List Jvm.Cond) (p_1 : Int32) (p_2 : Int32) (p_3 : Int32) (p_4 : Int32) (h0 : Heap) (n0 : Nat) (Z0 : n0 ≤ h0.size) (hl : p_1 = (0 : Int32) ∨ p_1 = (1 : Int32) ∨ p_1 = (2 : Int32) ∨ p_1 = (3 : Int32)) :
    MetFree l (⟨"com/example/kalchas/kalchas/propositional/HornClausesBodyPinLaw", "mk", "(IIII)[I"⟩ : MethodName) (head1 (Jvm.Cond.code (⟨"com/example/kalchas/kalchas/propositional/HornClausesBodyPinLaw", "mk", "(IIII)[I"⟩ : MethodName) method_2_code 4 (some (.array .int)) :: ws) ({ frames := 0, cells := 1, slots := 3, locals := 0 } : Room)) (fun a U => a = #[(.int p_1), (.int p_2), (.int p_3), (.int p_4)] ∧ Z.Warmed39 U.vm ∧ U.heap = h0) (fun _ _ _ _ _ => True) (fun _ U o U' => ∃ v L, o = .returned v ∧ own_Q2 Z p_1 p_2 p_3 p_4 h0 n0 v U'.heap L ∧ FrameEnd U o U' L ({ frames := 0, cells := 1, slots := 3, locals := 0 } : Room).cells ({ frames := 0, cells := 1, slots := 3, locals := 0 } : Room).slots) := by
  refine MetFree.of_bodySF (plainFor_of_name own_pn0) hisR ?_
  intro p e s m args below meth c s₁ Bd hml0 hP hK
  obtain ⟨rfl, hZ, hh⟩ := hP
  have hx := Bd.exec
  have hby := Bd.bytes
  have hml : c.maxLocals = 4 := hml0
  have hown : s.vm.findClass "com/example/kalchas/kalchas/propositional/HornClausesBodyPinLaw" = some m.cls := findClass_of_methodNamed Bd.named
  have hnm := (name_of_methodNamed Bd.named Bd.method).1
  have X0 : Stand p l e ({ frames := 0, cells := 1, slots := 3, locals := 0 } : Room) s m #[(.int p_1), (.int p_2), (.int p_3), (.int p_4)] below meth c s₁ [] 0 0 := Stand.of_body Bd
  have e0 : s₁.heap = h0 := by rw [← hh, Bd.state]; rfl
  have N0 := Fr.nil n0
  have z0 : n0 ≤ h0.size := Z0
  have K0 : Keep h0 h0 [] := Keep.refl h0 _
  show own_Go p.tables e below (fun t o => t.status = .running ∧ Ended t below o ∧ ∃ v L, o = .returned v ∧ own_Q2 Z p_1 p_2 p_3 p_4 h0 n0 v t.heap L ∧ FrameEnd s o t L ({ frames := 0, cells := 1, slots := 3, locals := 0 } : Room).cells ({ frames := 0, cells := 1, slots := 3, locals := 0 } : Room).slots) s₁ (entryFrame m #[(.int p_1), (.int p_2), (.int p_3), (.int p_4)] 4)
  rw [own_ef_own_rm2 m p_1 p_2 p_3 p_4]
  show own_Go _ _ _ _ s₁ (mkF m 0 #[.val (.int p_1), .val (.int p_2), .val (.int p_3), .val (.int p_4)] [])
  have hs1 : p_1 = (0 : Int32) ∨ p_1 = (1 : Int32) ∨ p_1 = (2 : Int32) ∨ p_1 = (3 : Int32) := own_t2_0 p_1 hl
  rcases hs1 with hs1 | hs1 | hs1 | hs1
  · subst hs1
    show own_Go _ _ _ _ s₁ (mkF m 0 #[.val (.int (0 : Int32)), .val (.int p_2), .val (.int p_3), .val (.int p_4)] [])
    refine own_go (fun _ k => XS.iloadN X0.here hx rfl (hb hby own_d2_0) rfl k) ?_
    show own_Go _ _ _ _ s₁ (mkF m 1 #[.val (.int (0 : Int32)), .val (.int p_2), .val (.int p_3), .val (.int p_4)] [(.int (0 : Int32))])
    have hc2 : (0 : Int32) = 0 := by decide
    refine own_go (fun _ k => XS.ifNo X0.here hx rfl (hb hby own_d2_1) rfl (Jvm.Free.XT.i0_ne_f hc2) k) ?_
    show own_Go _ _ _ _ s₁ (mkF m 4 #[.val (.int (0 : Int32)), .val (.int p_2), .val (.int p_3), .val (.int p_4)] [])
    refine own_go (fun _ k => XS.iconst X0.here hx rfl (hb hby own_d2_4) k) ?_
    show own_Go _ _ _ _ s₁ (mkF m 5 #[.val (.int (0 : Int32)), .val (.int p_2), .val (.int p_3), .val (.int p_4)] [(.int (0 : Int32))])
    obtain ⟨T3, h3, k3, X3, e3, E3, A3, st3⟩ := newP X0 hx hZ (hw _ (List.mem_of_getElem? (i := 7) rfl)) e0 (g := (mkF m 5 #[.val (.int (0 : Int32)), .val (.int p_2), .val (.int p_3), .val (.int p_4)] [(.int (0 : Int32))])) rfl (hb hby own_d2_5) rfl (by decide) (cap := 0) (by decide) (by decide) (by decide) (by decide)
    obtain ⟨b3, g3⟩ : ∃ z, z = h0.size := ⟨_, rfl⟩
    rw [← g3] at A3 st3
    have z4 := E3.1
    have lt_b3 := own_lt A3.lt
    have K3 : Keep h0 h3 [] := K0.ext E3
    have V_b3 : own_AV Z h3 b3 .int (0 : Int32) (fun _ => (.int (0 : Int32))) := own_AV.new A3 (by decide)
    refine own_go (fun _ k => st3 _ k) ?_
    show own_Go _ _ _ _ T3 (mkF m 7 #[.val (.int (0 : Int32)), .val (.int p_2), .val (.int p_3), .val (.int p_4)] [(.ref b3)])
    obtain ⟨fs, hr, hrun, hended, hW, hsame⟩ := X3.leave (v := some (.ref b3)) (fun h => by rw [Bd.returns] at h; cases h)
    refine ⟨_, _, retOut X3 hx Bd.returns rfl (Or.inr (Or.inr (Or.inr (Or.inr ⟨rfl, rfl, rfl⟩)))) (hb hby own_d2_7) hr, hrun, hended, _, _, rfl, ?_, ⟨_, rfl⟩, hW, hsame.mono (by decide) (by decide)⟩
    show own_Q2 Z (0 : Int32) p_2 p_3 p_4 h0 n0 _ T3.heap _
    rw [e3]
    exact ⟨b3, rfl, N0, K3, (own_AV.congr V_b3 (own_n3c0 p_2 p_3 p_4)), (by omega)⟩
  · subst hs1
    show own_Go _ _ _ _ s₁ (mkF m 0 #[.val (.int (1 : Int32)), .val (.int p_2), .val (.int p_3), .val (.int p_4)] [])
    refine own_go (fun _ k => XS.iloadN X0.here hx rfl (hb hby own_d2_0) rfl k) ?_
    show own_Go _ _ _ _ s₁ (mkF m 1 #[.val (.int (1 : Int32)), .val (.int p_2), .val (.int p_3), .val (.int p_4)] [(.int (1 : Int32))])
    have hc6 : ¬ ((1 : Int32) = 0) := by decide
    refine own_go (fun _ k => XS.ifYes X0.here hx rfl (pc0 := 1) (pc' := 8) rfl (hb hby own_d2_1) rfl (Jvm.Free.XT.i0_ne_t hc6) (by decide) (by decide) k) ?_
    show own_Go _ _ _ _ s₁ (mkF m 8 #[.val (.int (1 : Int32)), .val (.int p_2), .val (.int p_3), .val (.int p_4)] [])
    refine own_go (fun _ k => XS.iloadN X0.here hx rfl (hb hby own_d2_8) rfl k) ?_
    show own_Go _ _ _ _ s₁ (mkF m 9 #[.val (.int (1 : Int32)), .val (.int p_2), .val (.int p_3), .val (.int p_4)] [(.int (1 : Int32))])
    refine own_go (fun _ k => XS.iconst X0.here hx rfl (hb hby own_d2_9) k) ?_
    show own_Go _ _ _ _ s₁ (mkF m 10 #[.val (.int (1 : Int32)), .val (.int p_2), .val (.int p_3), .val (.int p_4)] [(.int (1 : Int32)), (.int (1 : Int32))])
    have hc7 : (1 : Int32) = (1 : Int32) := by decide
    refine own_go (fun _ k => XS.icmpNo X0.here hx rfl (hb hby own_d2_10) rfl (Jvm.Free.XT.ii_ne_f hc7) k) ?_
    show own_Go _ _ _ _ s₁ (mkF m 13 #[.val (.int (1 : Int32)), .val (.int p_2), .val (.int p_3), .val (.int p_4)] [])
    refine own_go (fun _ k => XS.iconst X0.here hx rfl (hb hby own_d2_13) k) ?_
    show own_Go _ _ _ _ s₁ (mkF m 14 #[.val (.int (1 : Int32)), .val (.int p_2), .val (.int p_3), .val (.int p_4)] [(.int (1 : Int32))])
    obtain ⟨T8, h8, k8, X8, e8, E8, A8, st8⟩ := newP X0 hx hZ (hw _ (List.mem_of_getElem? (i := 7) rfl)) e0 (g := (mkF m 14 #[.val (.int (1 : Int32)), .val (.int p_2), .val (.int p_3), .val (.int p_4)] [(.int (1 : Int32))])) rfl (hb hby own_d2_14) rfl (by decide) (cap := 1) (by decide) (by decide) (by decide) (by decide)
    obtain ⟨b8, g8⟩ : ∃ z, z = h0.size := ⟨_, rfl⟩
    rw [← g8] at A8 st8
    have z9 := E8.1
    have lt_b8 := own_lt A8.lt
    have K8 : Keep h0 h8 [] := K0.ext E8
    have V_b8 : own_AV Z h8 b8 .int (1 : Int32) (fun _ => (.int (0 : Int32))) := own_AV.new A8 (by decide)
    refine own_go (fun _ k => st8 _ k) ?_
    show own_Go _ _ _ _ T8 (mkF m 16 #[.val (.int (1 : Int32)), .val (.int p_2), .val (.int p_3), .val (.int p_4)] [(.ref b8)])
    refine own_go (fun _ k => XS.dup X8.here hx rfl (hb hby own_d2_16) rfl rfl k) ?_
    show own_Go _ _ _ _ T8 (mkF m 17 #[.val (.int (1 : Int32)), .val (.int p_2), .val (.int p_3), .val (.int p_4)] [(.ref b8), (.ref b8)])
    refine own_go (fun _ k => XS.iconst X8.here hx rfl (hb hby own_d2_17) k) ?_
    show own_Go _ _ _ _ T8 (mkF m 18 #[.val (.int (1 : Int32)), .val (.int p_2), .val (.int p_3), .val (.int p_4)] [(.int (0 : Int32)), (.ref b8), (.ref b8)])
    refine own_go (fun _ k => XS.iloadN X8.here hx rfl (hb hby own_d2_18) rfl k) ?_
    show own_Go _ _ _ _ T8 (mkF m 19 #[.val (.int (1 : Int32)), .val (.int p_2), .val (.int p_3), .val (.int p_4)] [(.int p_2), (.int (0 : Int32)), (.ref b8), (.ref b8)])
    obtain ⟨q10, c10, R10, s10, t10⟩ := id V_b8
    have hin10 : ¬ ((0 : Int32) < 0 ∨ c10.slots.size ≤ ((0 : Int32)).toNatClampNeg) := inb_of s10 ⟨by decide, by decide⟩
    obtain ⟨T11, h11, X11, e11, W11, st11⟩ := stI X8 hx hZ e8 R10 (j := (0 : Int32)) hin10 (g := (mkF m 19 #[.val (.int (1 : Int32)), .val (.int p_2), .val (.int p_3), .val (.int p_4)] [(.int p_2), (.int (0 : Int32)), (.ref b8), (.ref b8)])) rfl rfl (hb hby own_d2_19)
    have V11 : own_AV Z h11 b8 .int (1 : Int32) (own_upd (fun _ => (.int (0 : Int32))) 0 (.int p_2)) := own_AV.set (k := 0) V_b8 W11 (by decide)
    have z12 := W11.size
    have K11 : Keep h0 h11 [] := K8.wr W11 (Or.inr (by omega))
    have N11 := Fr.snoc X11 N0 (by omega : n0 ≤ b8)
    refine own_go (fun _ k => st11 _ k) ?_
    show own_Go _ _ _ _ T11 (mkF m 20 #[.val (.int (1 : Int32)), .val (.int p_2), .val (.int p_3), .val (.int p_4)] [(.ref b8)])
    obtain ⟨fs, hr, hrun, hended, hW, hsame⟩ := X11.leave (v := some (.ref b8)) (fun h => by rw [Bd.returns] at h; cases h)
    refine ⟨_, _, retOut X11 hx Bd.returns rfl (Or.inr (Or.inr (Or.inr (Or.inr ⟨rfl, rfl, rfl⟩)))) (hb hby own_d2_20) hr, hrun, hended, _, _, rfl, ?_, ⟨_, rfl⟩, hW, hsame.mono (by decide) (by decide)⟩
    show own_Q2 Z (1 : Int32) p_2 p_3 p_4 h0 n0 _ T11.heap _
    rw [e11]
    exact ⟨b8, rfl, N11, K11, (own_AV.congr V11 (own_n3c1 p_2 p_3 p_4)), (by omega)⟩
  · subst hs1
    show own_Go _ _ _ _ s₁ (mkF m 0 #[.val (.int (2 : Int32)), .val (.int p_2), .val (.int p_3), .val (.int p_4)] [])
    refine own_go (fun _ k => XS.iloadN X0.here hx rfl (hb hby own_d2_0) rfl k) ?_
    show own_Go _ _ _ _ s₁ (mkF m 1 #[.val (.int (2 : Int32)), .val (.int p_2), .val (.int p_3), .val (.int p_4)] [(.int (2 : Int32))])
    have hc14 : ¬ ((2 : Int32) = 0) := by decide
    refine own_go (fun _ k => XS.ifYes X0.here hx rfl (pc0 := 1) (pc' := 8) rfl (hb hby own_d2_1) rfl (Jvm.Free.XT.i0_ne_t hc14) (by decide) (by decide) k) ?_
    show own_Go _ _ _ _ s₁ (mkF m 8 #[.val (.int (2 : Int32)), .val (.int p_2), .val (.int p_3), .val (.int p_4)] [])
    refine own_go (fun _ k => XS.iloadN X0.here hx rfl (hb hby own_d2_8) rfl k) ?_
    show own_Go _ _ _ _ s₁ (mkF m 9 #[.val (.int (2 : Int32)), .val (.int p_2), .val (.int p_3), .val (.int p_4)] [(.int (2 : Int32))])
    refine own_go (fun _ k => XS.iconst X0.here hx rfl (hb hby own_d2_9) k) ?_
    show own_Go _ _ _ _ s₁ (mkF m 10 #[.val (.int (2 : Int32)), .val (.int p_2), .val (.int p_3), .val (.int p_4)] [(.int (1 : Int32)), (.int (2 : Int32))])
    have hc15 : ¬ ((2 : Int32) = (1 : Int32)) := by decide
    refine own_go (fun _ k => XS.icmpYes X0.here hx rfl (pc0 := 10) (pc' := 21) rfl (hb hby own_d2_10) rfl (Jvm.Free.XT.ii_ne_t hc15) (by decide) (by decide) k) ?_
    show own_Go _ _ _ _ s₁ (mkF m 21 #[.val (.int (2 : Int32)), .val (.int p_2), .val (.int p_3), .val (.int p_4)] [])
    refine own_go (fun _ k => XS.iloadN X0.here hx rfl (hb hby own_d2_21) rfl k) ?_
    show own_Go _ _ _ _ s₁ (mkF m 22 #[.val (.int (2 : Int32)), .val (.int p_2), .val (.int p_3), .val (.int p_4)] [(.int (2 : Int32))])
    refine own_go (fun _ k => XS.iconst X0.here hx rfl (hb hby own_d2_22) k) ?_
    show own_Go _ _ _ _ s₁ (mkF m 23 #[.val (.int (2 : Int32)), .val (.int p_2), .val (.int p_3), .val (.int p_4)] [(.int (2 : Int32)), (.int (2 : Int32))])
    have hc16 : (2 : Int32) = (2 : Int32) := by decide
    refine own_go (fun _ k => XS.icmpNo X0.here hx rfl (hb hby own_d2_23) rfl (Jvm.Free.XT.ii_ne_f hc16) k) ?_
    show own_Go _ _ _ _ s₁ (mkF m 26 #[.val (.int (2 : Int32)), .val (.int p_2), .val (.int p_3), .val (.int p_4)] [])
    refine own_go (fun _ k => XS.iconst X0.here hx rfl (hb hby own_d2_26) k) ?_
    show own_Go _ _ _ _ s₁ (mkF m 27 #[.val (.int (2 : Int32)), .val (.int p_2), .val (.int p_3), .val (.int p_4)] [(.int (2 : Int32))])
    obtain ⟨T17, h17, k17, X17, e17, E17, A17, st17⟩ := newP X0 hx hZ (hw _ (List.mem_of_getElem? (i := 7) rfl)) e0 (g := (mkF m 27 #[.val (.int (2 : Int32)), .val (.int p_2), .val (.int p_3), .val (.int p_4)] [(.int (2 : Int32))])) rfl (hb hby own_d2_27) rfl (by decide) (cap := 2) (by decide) (by decide) (by decide) (by decide)
    obtain ⟨b17, g17⟩ : ∃ z, z = h0.size := ⟨_, rfl⟩
    rw [← g17] at A17 st17
    have z18 := E17.1
    have lt_b17 := own_lt A17.lt
    have K17 : Keep h0 h17 [] := K0.ext E17
    have V_b17 : own_AV Z h17 b17 .int (2 : Int32) (fun _ => (.int (0 : Int32))) := own_AV.new A17 (by decide)
    refine own_go (fun _ k => st17 _ k) ?_
    show own_Go _ _ _ _ T17 (mkF m 29 #[.val (.int (2 : Int32)), .val (.int p_2), .val (.int p_3), .val (.int p_4)] [(.ref b17)])
    refine own_go (fun _ k => XS.dup X17.here hx rfl (hb hby own_d2_29) rfl rfl k) ?_
    show own_Go _ _ _ _ T17 (mkF m 30 #[.val (.int (2 : Int32)), .val (.int p_2), .val (.int p_3), .val (.int p_4)] [(.ref b17), (.ref b17)])
    refine own_go (fun _ k => XS.iconst X17.here hx rfl (hb hby own_d2_30) k) ?_
    show own_Go _ _ _ _ T17 (mkF m 31 #[.val (.int (2 : Int32)), .val (.int p_2), .val (.int p_3), .val (.int p_4)] [(.int (0 : Int32)), (.ref b17), (.ref b17)])
    refine own_go (fun _ k => XS.iloadN X17.here hx rfl (hb hby own_d2_31) rfl k) ?_
    show own_Go _ _ _ _ T17 (mkF m 32 #[.val (.int (2 : Int32)), .val (.int p_2), .val (.int p_3), .val (.int p_4)] [(.int p_2), (.int (0 : Int32)), (.ref b17), (.ref b17)])
    obtain ⟨q19, c19, R19, s19, t19⟩ := id V_b17
    have hin19 : ¬ ((0 : Int32) < 0 ∨ c19.slots.size ≤ ((0 : Int32)).toNatClampNeg) := inb_of s19 ⟨by decide, by decide⟩
    obtain ⟨T20, h20, X20, e20, W20, st20⟩ := stI X17 hx hZ e17 R19 (j := (0 : Int32)) hin19 (g := (mkF m 32 #[.val (.int (2 : Int32)), .val (.int p_2), .val (.int p_3), .val (.int p_4)] [(.int p_2), (.int (0 : Int32)), (.ref b17), (.ref b17)])) rfl rfl (hb hby own_d2_32)
    have V20 : own_AV Z h20 b17 .int (2 : Int32) (own_upd (fun _ => (.int (0 : Int32))) 0 (.int p_2)) := own_AV.set (k := 0) V_b17 W20 (by decide)
    have z21 := W20.size
    have K20 : Keep h0 h20 [] := K17.wr W20 (Or.inr (by omega))
    have N20 := Fr.snoc X20 N0 (by omega : n0 ≤ b17)
    refine own_go (fun _ k => st20 _ k) ?_
    show own_Go _ _ _ _ T20 (mkF m 33 #[.val (.int (2 : Int32)), .val (.int p_2), .val (.int p_3), .val (.int p_4)] [(.ref b17)])
    refine own_go (fun _ k => XS.dup X20.here hx rfl (hb hby own_d2_33) rfl rfl k) ?_
    show own_Go _ _ _ _ T20 (mkF m 34 #[.val (.int (2 : Int32)), .val (.int p_2), .val (.int p_3), .val (.int p_4)] [(.ref b17), (.ref b17)])
    refine own_go (fun _ k => XS.iconst X20.here hx rfl (hb hby own_d2_34) k) ?_
    show own_Go _ _ _ _ T20 (mkF m 35 #[.val (.int (2 : Int32)), .val (.int p_2), .val (.int p_3), .val (.int p_4)] [(.int (1 : Int32)), (.ref b17), (.ref b17)])
    refine own_go (fun _ k => XS.iloadN X20.here hx rfl (hb hby own_d2_35) rfl k) ?_
    show own_Go _ _ _ _ T20 (mkF m 36 #[.val (.int (2 : Int32)), .val (.int p_2), .val (.int p_3), .val (.int p_4)] [(.int p_3), (.int (1 : Int32)), (.ref b17), (.ref b17)])
    obtain ⟨q22, c22, R22, s22, t22⟩ := id V20
    have hin22 : ¬ ((1 : Int32) < 0 ∨ c22.slots.size ≤ ((1 : Int32)).toNatClampNeg) := inb_of s22 ⟨by decide, by decide⟩
    obtain ⟨T23, h23, X23, e23, W23, st23⟩ := stI X20 hx hZ e20 R22 (j := (1 : Int32)) hin22 (g := (mkF m 36 #[.val (.int (2 : Int32)), .val (.int p_2), .val (.int p_3), .val (.int p_4)] [(.int p_3), (.int (1 : Int32)), (.ref b17), (.ref b17)])) rfl rfl (hb hby own_d2_36)
    have V23 : own_AV Z h23 b17 .int (2 : Int32) (own_upd (own_upd (fun _ => (.int (0 : Int32))) 0 (.int p_2)) 1 (.int p_3)) := own_AV.set (k := 1) V20 W23 (by decide)
    have z24 := W23.size
    have K23 : Keep h0 h23 [] := K20.wr W23 (Or.inr (by omega))
    have N23 := Fr.snoc X23 N20 (by omega : n0 ≤ b17)
    refine own_go (fun _ k => st23 _ k) ?_
    show own_Go _ _ _ _ T23 (mkF m 37 #[.val (.int (2 : Int32)), .val (.int p_2), .val (.int p_3), .val (.int p_4)] [(.ref b17)])
    obtain ⟨fs, hr, hrun, hended, hW, hsame⟩ := X23.leave (v := some (.ref b17)) (fun h => by rw [Bd.returns] at h; cases h)
    refine ⟨_, _, retOut X23 hx Bd.returns rfl (Or.inr (Or.inr (Or.inr (Or.inr ⟨rfl, rfl, rfl⟩)))) (hb hby own_d2_37) hr, hrun, hended, _, _, rfl, ?_, ⟨_, rfl⟩, hW, hsame.mono (by decide) (by decide)⟩
    show own_Q2 Z (2 : Int32) p_2 p_3 p_4 h0 n0 _ T23.heap _
    rw [e23]
    exact ⟨b17, rfl, N23, K23, (own_AV.congr V23 (own_n3c2 p_2 p_3 p_4)), (by omega)⟩
  · subst hs1
    show own_Go _ _ _ _ s₁ (mkF m 0 #[.val (.int (3 : Int32)), .val (.int p_2), .val (.int p_3), .val (.int p_4)] [])
    refine own_go (fun _ k => XS.iloadN X0.here hx rfl (hb hby own_d2_0) rfl k) ?_
    show own_Go _ _ _ _ s₁ (mkF m 1 #[.val (.int (3 : Int32)), .val (.int p_2), .val (.int p_3), .val (.int p_4)] [(.int (3 : Int32))])
    have hc26 : ¬ ((3 : Int32) = 0) := by decide
    refine own_go (fun _ k => XS.ifYes X0.here hx rfl (pc0 := 1) (pc' := 8) rfl (hb hby own_d2_1) rfl (Jvm.Free.XT.i0_ne_t hc26) (by decide) (by decide) k) ?_
    show own_Go _ _ _ _ s₁ (mkF m 8 #[.val (.int (3 : Int32)), .val (.int p_2), .val (.int p_3), .val (.int p_4)] [])
    refine own_go (fun _ k => XS.iloadN X0.here hx rfl (hb hby own_d2_8) rfl k) ?_
    show own_Go _ _ _ _ s₁ (mkF m 9 #[.val (.int (3 : Int32)), .val (.int p_2), .val (.int p_3), .val (.int p_4)] [(.int (3 : Int32))])
    refine own_go (fun _ k => XS.iconst X0.here hx rfl (hb hby own_d2_9) k) ?_
    show own_Go _ _ _ _ s₁ (mkF m 10 #[.val (.int (3 : Int32)), .val (.int p_2), .val (.int p_3), .val (.int p_4)] [(.int (1 : Int32)), (.int (3 : Int32))])
    have hc27 : ¬ ((3 : Int32) = (1 : Int32)) := by decide
    refine own_go (fun _ k => XS.icmpYes X0.here hx rfl (pc0 := 10) (pc' := 21) rfl (hb hby own_d2_10) rfl (Jvm.Free.XT.ii_ne_t hc27) (by decide) (by decide) k) ?_
    show own_Go _ _ _ _ s₁ (mkF m 21 #[.val (.int (3 : Int32)), .val (.int p_2), .val (.int p_3), .val (.int p_4)] [])
    refine own_go (fun _ k => XS.iloadN X0.here hx rfl (hb hby own_d2_21) rfl k) ?_
    show own_Go _ _ _ _ s₁ (mkF m 22 #[.val (.int (3 : Int32)), .val (.int p_2), .val (.int p_3), .val (.int p_4)] [(.int (3 : Int32))])
    refine own_go (fun _ k => XS.iconst X0.here hx rfl (hb hby own_d2_22) k) ?_
    show own_Go _ _ _ _ s₁ (mkF m 23 #[.val (.int (3 : Int32)), .val (.int p_2), .val (.int p_3), .val (.int p_4)] [(.int (2 : Int32)), (.int (3 : Int32))])
    have hc28 : ¬ ((3 : Int32) = (2 : Int32)) := by decide
    refine own_go (fun _ k => XS.icmpYes X0.here hx rfl (pc0 := 23) (pc' := 38) rfl (hb hby own_d2_23) rfl (Jvm.Free.XT.ii_ne_t hc28) (by decide) (by decide) k) ?_
    show own_Go _ _ _ _ s₁ (mkF m 38 #[.val (.int (3 : Int32)), .val (.int p_2), .val (.int p_3), .val (.int p_4)] [])
    refine own_go (fun _ k => XS.iconst X0.here hx rfl (hb hby own_d2_38) k) ?_
    show own_Go _ _ _ _ s₁ (mkF m 39 #[.val (.int (3 : Int32)), .val (.int p_2), .val (.int p_3), .val (.int p_4)] [(.int (3 : Int32))])
    obtain ⟨T29, h29, k29, X29, e29, E29, A29, st29⟩ := newP X0 hx hZ (hw _ (List.mem_of_getElem? (i := 7) rfl)) e0 (g := (mkF m 39 #[.val (.int (3 : Int32)), .val (.int p_2), .val (.int p_3), .val (.int p_4)] [(.int (3 : Int32))])) rfl (hb hby own_d2_39) rfl (by decide) (cap := 3) (by decide) (by decide) (by decide) (by decide)
    obtain ⟨b29, g29⟩ : ∃ z, z = h0.size := ⟨_, rfl⟩
    rw [← g29] at A29 st29
    have z30 := E29.1
    have lt_b29 := own_lt A29.lt
    have K29 : Keep h0 h29 [] := K0.ext E29
    have V_b29 : own_AV Z h29 b29 .int (3 : Int32) (fun _ => (.int (0 : Int32))) := own_AV.new A29 (by decide)
    refine own_go (fun _ k => st29 _ k) ?_
    show own_Go _ _ _ _ T29 (mkF m 41 #[.val (.int (3 : Int32)), .val (.int p_2), .val (.int p_3), .val (.int p_4)] [(.ref b29)])
    refine own_go (fun _ k => XS.dup X29.here hx rfl (hb hby own_d2_41) rfl rfl k) ?_
    show own_Go _ _ _ _ T29 (mkF m 42 #[.val (.int (3 : Int32)), .val (.int p_2), .val (.int p_3), .val (.int p_4)] [(.ref b29), (.ref b29)])
    refine own_go (fun _ k => XS.iconst X29.here hx rfl (hb hby own_d2_42) k) ?_
    show own_Go _ _ _ _ T29 (mkF m 43 #[.val (.int (3 : Int32)), .val (.int p_2), .val (.int p_3), .val (.int p_4)] [(.int (0 : Int32)), (.ref b29), (.ref b29)])
    refine own_go (fun _ k => XS.iloadN X29.here hx rfl (hb hby own_d2_43) rfl k) ?_
    show own_Go _ _ _ _ T29 (mkF m 44 #[.val (.int (3 : Int32)), .val (.int p_2), .val (.int p_3), .val (.int p_4)] [(.int p_2), (.int (0 : Int32)), (.ref b29), (.ref b29)])
    obtain ⟨q31, c31, R31, s31, t31⟩ := id V_b29
    have hin31 : ¬ ((0 : Int32) < 0 ∨ c31.slots.size ≤ ((0 : Int32)).toNatClampNeg) := inb_of s31 ⟨by decide, by decide⟩
    obtain ⟨T32, h32, X32, e32, W32, st32⟩ := stI X29 hx hZ e29 R31 (j := (0 : Int32)) hin31 (g := (mkF m 44 #[.val (.int (3 : Int32)), .val (.int p_2), .val (.int p_3), .val (.int p_4)] [(.int p_2), (.int (0 : Int32)), (.ref b29), (.ref b29)])) rfl rfl (hb hby own_d2_44)
    have V32 : own_AV Z h32 b29 .int (3 : Int32) (own_upd (fun _ => (.int (0 : Int32))) 0 (.int p_2)) := own_AV.set (k := 0) V_b29 W32 (by decide)
    have z33 := W32.size
    have K32 : Keep h0 h32 [] := K29.wr W32 (Or.inr (by omega))
    have N32 := Fr.snoc X32 N0 (by omega : n0 ≤ b29)
    refine own_go (fun _ k => st32 _ k) ?_
    show own_Go _ _ _ _ T32 (mkF m 45 #[.val (.int (3 : Int32)), .val (.int p_2), .val (.int p_3), .val (.int p_4)] [(.ref b29)])
    refine own_go (fun _ k => XS.dup X32.here hx rfl (hb hby own_d2_45) rfl rfl k) ?_
    show own_Go _ _ _ _ T32 (mkF m 46 #[.val (.int (3 : Int32)), .val (.int p_2), .val (.int p_3), .val (.int p_4)] [(.ref b29), (.ref b29)])
    refine own_go (fun _ k => XS.iconst X32.here hx rfl (hb hby own_d2_46) k) ?_
    show own_Go _ _ _ _ T32 (mkF m 47 #[.val (.int (3 : Int32)), .val (.int p_2), .val (.int p_3), .val (.int p_4)] [(.int (1 : Int32)), (.ref b29), (.ref b29)])
    refine own_go (fun _ k => XS.iloadN X32.here hx rfl (hb hby own_d2_47) rfl k) ?_
    show own_Go _ _ _ _ T32 (mkF m 48 #[.val (.int (3 : Int32)), .val (.int p_2), .val (.int p_3), .val (.int p_4)] [(.int p_3), (.int (1 : Int32)), (.ref b29), (.ref b29)])
    obtain ⟨q34, c34, R34, s34, t34⟩ := id V32
    have hin34 : ¬ ((1 : Int32) < 0 ∨ c34.slots.size ≤ ((1 : Int32)).toNatClampNeg) := inb_of s34 ⟨by decide, by decide⟩
    obtain ⟨T35, h35, X35, e35, W35, st35⟩ := stI X32 hx hZ e32 R34 (j := (1 : Int32)) hin34 (g := (mkF m 48 #[.val (.int (3 : Int32)), .val (.int p_2), .val (.int p_3), .val (.int p_4)] [(.int p_3), (.int (1 : Int32)), (.ref b29), (.ref b29)])) rfl rfl (hb hby own_d2_48)
    have V35 : own_AV Z h35 b29 .int (3 : Int32) (own_upd (own_upd (fun _ => (.int (0 : Int32))) 0 (.int p_2)) 1 (.int p_3)) := own_AV.set (k := 1) V32 W35 (by decide)
    have z36 := W35.size
    have K35 : Keep h0 h35 [] := K32.wr W35 (Or.inr (by omega))
    have N35 := Fr.snoc X35 N32 (by omega : n0 ≤ b29)
    refine own_go (fun _ k => st35 _ k) ?_
    show own_Go _ _ _ _ T35 (mkF m 49 #[.val (.int (3 : Int32)), .val (.int p_2), .val (.int p_3), .val (.int p_4)] [(.ref b29)])
    refine own_go (fun _ k => XS.dup X35.here hx rfl (hb hby own_d2_49) rfl rfl k) ?_
    show own_Go _ _ _ _ T35 (mkF m 50 #[.val (.int (3 : Int32)), .val (.int p_2), .val (.int p_3), .val (.int p_4)] [(.ref b29), (.ref b29)])
    refine own_go (fun _ k => XS.iconst X35.here hx rfl (hb hby own_d2_50) k) ?_
    show own_Go _ _ _ _ T35 (mkF m 51 #[.val (.int (3 : Int32)), .val (.int p_2), .val (.int p_3), .val (.int p_4)] [(.int (2 : Int32)), (.ref b29), (.ref b29)])
    refine own_go (fun _ k => XS.iloadN X35.here hx rfl (hb hby own_d2_51) rfl k) ?_
    show own_Go _ _ _ _ T35 (mkF m 52 #[.val (.int (3 : Int32)), .val (.int p_2), .val (.int p_3), .val (.int p_4)] [(.int p_4), (.int (2 : Int32)), (.ref b29), (.ref b29)])
    obtain ⟨q37, c37, R37, s37, t37⟩ := id V35
    have hin37 : ¬ ((2 : Int32) < 0 ∨ c37.slots.size ≤ ((2 : Int32)).toNatClampNeg) := inb_of s37 ⟨by decide, by decide⟩
    obtain ⟨T38, h38, X38, e38, W38, st38⟩ := stI X35 hx hZ e35 R37 (j := (2 : Int32)) hin37 (g := (mkF m 52 #[.val (.int (3 : Int32)), .val (.int p_2), .val (.int p_3), .val (.int p_4)] [(.int p_4), (.int (2 : Int32)), (.ref b29), (.ref b29)])) rfl rfl (hb hby own_d2_52)
    have V38 : own_AV Z h38 b29 .int (3 : Int32) (own_upd (own_upd (own_upd (fun _ => (.int (0 : Int32))) 0 (.int p_2)) 1 (.int p_3)) 2 (.int p_4)) := own_AV.set (k := 2) V35 W38 (by decide)
    have z39 := W38.size
    have K38 : Keep h0 h38 [] := K35.wr W38 (Or.inr (by omega))
    have N38 := Fr.snoc X38 N35 (by omega : n0 ≤ b29)
    refine own_go (fun _ k => st38 _ k) ?_
    show own_Go _ _ _ _ T38 (mkF m 53 #[.val (.int (3 : Int32)), .val (.int p_2), .val (.int p_3), .val (.int p_4)] [(.ref b29)])
    obtain ⟨fs, hr, hrun, hended, hW, hsame⟩ := X38.leave (v := some (.ref b29)) (fun h => by rw [Bd.returns] at h; cases h)
    refine ⟨_, _, retOut X38 hx Bd.returns rfl (Or.inr (Or.inr (Or.inr (Or.inr ⟨rfl, rfl, rfl⟩)))) (hb hby own_d2_53) hr, hrun, hended, _, _, rfl, ?_, ⟨_, rfl⟩, hW, hsame.mono (by decide) (by decide)⟩
    show own_Q2 Z (3 : Int32) p_2 p_3 p_4 h0 n0 _ T38.heap _
    rw [e38]
    exact ⟨b29, rfl, N38, K38, (own_AV.congr V38 (own_n3c3 p_2 p_3 p_4)), (by omega)⟩
theorem own_d3_0 : decode prog_6_method_1_code 0 = .ok (.aload_n 0, 1) := by decide +kernel
theorem own_d3_1 : decode prog_6_method_1_code 1 = .ok (.invokespecial 1, 3) := by decide +kernel
theorem own_d3_4 : decode prog_6_method_1_code 4 = .ok (.aload_n 0, 1) := by decide +kernel
theorem own_d3_5 : decode prog_6_method_1_code 5 = .ok (.bipush 64, 2) := by decide +kernel
theorem own_d3_7 : decode prog_6_method_1_code 7 = .ok (.newarray .int, 2) := by decide +kernel
theorem own_d3_9 : decode prog_6_method_1_code 9 = .ok (.putfield 9, 3) := by decide +kernel
theorem own_d3_12 : decode prog_6_method_1_code 12 = .ok (.aload_n 0, 1) := by decide +kernel
theorem own_d3_13 : decode prog_6_method_1_code 13 = .ok (.bipush 65, 2) := by decide +kernel
theorem own_d3_15 : decode prog_6_method_1_code 15 = .ok (.newarray .int, 2) := by decide +kernel
theorem own_d3_17 : decode prog_6_method_1_code 17 = .ok (.putfield 13, 3) := by decide +kernel
theorem own_d3_20 : decode prog_6_method_1_code 20 = .ok (.aload_n 0, 1) := by decide +kernel
theorem own_d3_21 : decode prog_6_method_1_code 21 = .ok (.bipush 64, 2) := by decide +kernel
theorem own_d3_23 : decode prog_6_method_1_code 23 = .ok (.newarray .int, 2) := by decide +kernel
theorem own_d3_25 : decode prog_6_method_1_code 25 = .ok (.putfield 16, 3) := by decide +kernel
theorem own_d3_28 : decode prog_6_method_1_code 28 = .ok (.return_, 1) := by decide +kernel
theorem own_ef_own_rm3 (m : MethodId) (x0 : Addr) : entryFrame m #[(.ref x0)] 1 = mkF m 0 #[.val (.ref x0)] [] := by first | (simp [entryFrame, mkF, argsToLocals, Value.category]; done) | rfl
def own_Q3 (Z : State) (a_1 : Addr) (w_heads_a_1 : Value) (w_bodyStarts_a_1 : Value) (w_bodies_a_1 : Value) (w_occurrences_a_1 : Value) (w_variableCount_a_1 : Int32) (w_clauseCount_a_1 : Int32) (h0 : Heap) (n0 : Nat) (v : Option Value) (h : Heap) (L : List Loc) : Prop := ∃ (x_0 : Addr) (x_1 : Addr) (x_2 : Addr), v = none ∧ Fr n0 L ∧ Keep h0 h [a_1] ∧ Exa Z h a_1 "com/example/kalchas/kalchas/propositional/HornClauses" ∧ Fld Z h a_1 "com/example/kalchas/kalchas/propositional/HornClauses" "heads" "[I" (.ref x_0) ∧ Fld Z h a_1 "com/example/kalchas/kalchas/propositional/HornClauses" "bodyStarts" "[I" (.ref x_1) ∧ Fld Z h a_1 "com/example/kalchas/kalchas/propositional/HornClauses" "bodies" "[I" (.ref x_2) ∧ Fld Z h a_1 "com/example/kalchas/kalchas/propositional/HornClauses" "occurrences" "[I" w_occurrences_a_1 ∧ Fld Z h a_1 "com/example/kalchas/kalchas/propositional/HornClauses" "variableCount" "I" (.int w_variableCount_a_1) ∧ Fld Z h a_1 "com/example/kalchas/kalchas/propositional/HornClauses" "clauseCount" "I" (.int w_clauseCount_a_1) ∧ own_AV Z h x_0 .int (64 : Int32) (fun _ => (.int (0 : Int32))) ∧ own_AV Z h x_1 .int (65 : Int32) (fun _ => (.int (0 : Int32))) ∧ own_AV Z h x_2 .int (64 : Int32) (fun _ => (.int (0 : Int32))) ∧ (h0.size ≤ x_0) ∧ (h0.size ≤ x_1) ∧ (h0.size ≤ x_2) ∧ (own_lts [a_1, x_0, x_1, x_2])
set_option maxRecDepth 65536 in
set_option maxHeartbeats 40000000 in
theorem own_rm3 (l : Launch) (Z : State) (a0 : Array Value) (hw : ∀ d ∈ tables_1, d.before a0 Z = true) (ws : List Jvm.Cond) (a_1 : Addr) (w_heads_a_1 : Value) (w_bodyStarts_a_1 : Value) (w_bodies_a_1 : Value) (w_occurrences_a_1 : Value) (w_variableCount_a_1 : Int32) (w_clauseCount_a_1 : Int32) (h0 : Heap) (n0 : Nat) (Z0 : n0 ≤ h0.size) (pr_E_a_1 : Exa Z h0 a_1 "com/example/kalchas/kalchas/propositional/HornClauses") (pr_F_a_1_heads : Fld Z h0 a_1 "com/example/kalchas/kalchas/propositional/HornClauses" "heads" "[I" w_heads_a_1) (pr_F_a_1_bodyStarts : Fld Z h0 a_1 "com/example/kalchas/kalchas/propositional/HornClauses" "bodyStarts" "[I" w_bodyStarts_a_1) (pr_F_a_1_bodies : Fld Z h0 a_1 "com/example/kalchas/kalchas/propositional/HornClauses" "bodies" "[I" w_bodies_a_1) (pr_F_a_1_occurrences : Fld Z h0 a_1 "com/example/kalchas/kalchas/propositional/HornClauses" "occurrences" "[I" w_occurrences_a_1) (pr_F_a_1_variableCount : Fld Z h0 a_1 "com/example/kalchas/kalchas/propositional/HornClauses" "variableCount" "I" (.int w_variableCount_a_1)) (pr_F_a_1_clauseCount : Fld Z h0 a_1 "com/example/kalchas/kalchas/propositional/HornClauses" "clauseCount" "I" (.int w_clauseCount_a_1)) (gw_a_1 : n0 ≤ a_1) :
    MetFree l (⟨"com/example/kalchas/kalchas/propositional/HornClauses", "<init>", "()V"⟩ : MethodName) (head1 (Jvm.Cond.code (⟨"com/example/kalchas/kalchas/propositional/HornClauses", "<init>", "()V"⟩ : MethodName) prog_6_method_1_code 1 none :: ws) ({ frames := 1, cells := 3, slots := 193, locals := 12 } : Room)) (fun a U => a = #[(.ref a_1)] ∧ Z.Warmed39 U.vm ∧ U.heap = h0) (fun _ _ _ _ _ => True) (fun _ U o U' => ∃ v L, o = .returned v ∧ own_Q3 Z a_1 w_heads_a_1 w_bodyStarts_a_1 w_bodies_a_1 w_occurrences_a_1 w_variableCount_a_1 w_clauseCount_a_1 h0 n0 v U'.heap L ∧ FrameEnd U o U' L ({ frames := 1, cells := 3, slots := 193, locals := 12 } : Room).cells ({ frames := 1, cells := 3, slots := 193, locals := 12 } : Room).slots) := by
  refine MetFree.of_bodySF (plainFor_of_name own_pn1) hisR ?_
  intro p e s m args below meth c s₁ Bd hml0 hP hK
  obtain ⟨rfl, hZ, hh⟩ := hP
  have hx := Bd.exec
  have hby := Bd.bytes
  have hml : c.maxLocals = 1 := hml0
  have hown : s.vm.findClass "com/example/kalchas/kalchas/propositional/HornClauses" = some m.cls := findClass_of_methodNamed Bd.named
  have hnm := (name_of_methodNamed Bd.named Bd.method).1
  have X0 : Stand p l e ({ frames := 1, cells := 3, slots := 193, locals := 12 } : Room) s m #[(.ref a_1)] below meth c s₁ [] 0 0 := Stand.of_body Bd
  have e0 : s₁.heap = h0 := by rw [← hh, Bd.state]; rfl
  have N0 := Fr.nil n0
  have z0 : n0 ≤ h0.size := Z0
  have z1 := own_lt pr_E_a_1.lt
  have z2 := own_lt pr_F_a_1_heads.lt
  have z3 := own_lt pr_F_a_1_bodyStarts.lt
  have z4 := own_lt pr_F_a_1_bodies.lt
  have z5 := own_lt pr_F_a_1_occurrences.lt
  have z6 := own_lt pr_F_a_1_variableCount.lt
  have z7 := own_lt pr_F_a_1_clauseCount.lt
  have K0 : Keep h0 h0 [a_1] := Keep.refl h0 _
  show own_Go p.tables e below (fun t o => t.status = .running ∧ Ended t below o ∧ ∃ v L, o = .returned v ∧ own_Q3 Z a_1 w_heads_a_1 w_bodyStarts_a_1 w_bodies_a_1 w_occurrences_a_1 w_variableCount_a_1 w_clauseCount_a_1 h0 n0 v t.heap L ∧ FrameEnd s o t L ({ frames := 1, cells := 3, slots := 193, locals := 12 } : Room).cells ({ frames := 1, cells := 3, slots := 193, locals := 12 } : Room).slots) s₁ (entryFrame m #[(.ref a_1)] 1)
  rw [own_ef_own_rm3 m a_1]
  show own_Go _ _ _ _ s₁ (mkF m 0 #[.val (.ref a_1)] [])
  refine own_go (fun _ k => XS.aloadN X0.here hx rfl (hb hby own_d3_0) rfl rfl k) ?_
  show own_Go _ _ _ _ s₁ (mkF m 1 #[.val (.ref a_1)] [(.ref a_1)])
  obtain ⟨T8, X8, e8, st8⟩ := initO X0 hx hZ hown (hw _ (List.mem_of_getElem? (i := 14) rfl)) (hw _ (List.mem_of_getElem? (i := 15) rfl)) (hw _ (List.mem_of_getElem? (i := 16) rfl)) e0 (g := (mkF m 1 #[.val (.ref a_1)] [(.ref a_1)])) rfl (by rw [hml]; rfl) rfl (hb hby own_d3_1) (by decide) (W := 0) (by show 2 * 0 + _ ≤ _; exact Nat.le_of_eq rfl) (by decide)
  refine own_go (fun _ k => st8 _ k) ?_
  show own_Go _ _ _ _ T8 (mkF m 4 #[.val (.ref a_1)] [])
  refine own_go (fun _ k => XS.aloadN X8.here hx rfl (hb hby own_d3_4) rfl rfl k) ?_
  show own_Go _ _ _ _ T8 (mkF m 5 #[.val (.ref a_1)] [(.ref a_1)])
  refine own_go (fun _ k => XS.bipush X8.here hx rfl (hb hby own_d3_5) k) ?_
  show own_Go _ _ _ _ T8 (mkF m 7 #[.val (.ref a_1)] [(.int (64 : Int32)), (.ref a_1)])
  obtain ⟨T9, h9, k9, X9, e9, E9, A9, st9⟩ := newP X8 hx hZ (hw _ (List.mem_of_getElem? (i := 7) rfl)) e8 (g := (mkF m 7 #[.val (.ref a_1)] [(.int (64 : Int32)), (.ref a_1)])) rfl (hb hby own_d3_7) rfl (by decide) (cap := 64) (by decide) (by decide) (by decide) (by decide)
  obtain ⟨b9, g9⟩ : ∃ z, z = h0.size := ⟨_, rfl⟩
  rw [← g9] at A9 st9
  have z10 := E9.1
  have lt_b9 := own_lt A9.lt
  have K9 : Keep h0 h9 [a_1] := K0.ext E9
  have V_b9 : own_AV Z h9 b9 .int (64 : Int32) (fun _ => (.int (0 : Int32))) := own_AV.new A9 (by decide)
  refine own_go (fun _ k => st9 _ k) ?_
  show own_Go _ _ _ _ T9 (mkF m 9 #[.val (.ref a_1)] [(.ref b9), (.ref a_1)])
  have f11 : Exa Z h9 a_1 "com/example/kalchas/kalchas/propositional/HornClauses" := (pr_E_a_1.ext E9)
  have f12 : Fld Z h9 a_1 "com/example/kalchas/kalchas/propositional/HornClauses" "heads" "[I" w_heads_a_1 := (pr_F_a_1_heads.ext E9)
  obtain ⟨T13, h13, X13, e13, W13, st13⟩ := putF X9 hx hZ hown (host := "") (Or.inl (hw _ (List.mem_of_getElem? (i := 17) rfl))) Via.refl e9 f12 f11 (Or.inl (hw _ (List.mem_of_getElem? (i := 18) rfl))) (hw _ (List.mem_of_getElem? (i := 9) rfl)) (ty := (.array .int)) (by decide) rfl rfl (g := (mkF m 9 #[.val (.ref a_1)] [(.ref b9), (.ref a_1)])) rfl rfl (hb hby own_d3_9)
  have z14 := W13.size
  have K13 : Keep h0 h13 [a_1] := K9.wr W13 (Or.inl (List.mem_of_getElem? (i := 0) rfl))
  have N13 := Fr.snoc X13 N0 (by omega : n0 ≤ a_1)
  have Fw13 : Fld Z h13 a_1 "com/example/kalchas/kalchas/propositional/HornClauses" "heads" "[I" (.ref b9) := Fld.same W13 f12
  refine own_go (fun _ k => st13 _ k) ?_
  show own_Go _ _ _ _ T13 (mkF m 12 #[.val (.ref a_1)] [])
  refine own_go (fun _ k => XS.aloadN X13.here hx rfl (hb hby own_d3_12) rfl rfl k) ?_
  show own_Go _ _ _ _ T13 (mkF m 13 #[.val (.ref a_1)] [(.ref a_1)])
  refine own_go (fun _ k => XS.bipush X13.here hx rfl (hb hby own_d3_13) k) ?_
  show own_Go _ _ _ _ T13 (mkF m 15 #[.val (.ref a_1)] [(.int (65 : Int32)), (.ref a_1)])
  obtain ⟨T15, h15, k15, X15, e15, E15, A15, st15⟩ := newP X13 hx hZ (hw _ (List.mem_of_getElem? (i := 7) rfl)) e13 (g := (mkF m 15 #[.val (.ref a_1)] [(.int (65 : Int32)), (.ref a_1)])) rfl (hb hby own_d3_15) rfl (by decide) (cap := 65) (by decide) (by decide) (by decide) (by decide)
  obtain ⟨b15, g15⟩ : ∃ z, z = h13.size := ⟨_, rfl⟩
  rw [← g15] at A15 st15
  have z16 := E15.1
  have lt_b15 := own_lt A15.lt
  have K15 : Keep h0 h15 [a_1] := K13.ext E15
  have V_b15 : own_AV Z h15 b15 .int (65 : Int32) (fun _ => (.int (0 : Int32))) := own_AV.new A15 (by decide)
  refine own_go (fun _ k => st15 _ k) ?_
  show own_Go _ _ _ _ T15 (mkF m 17 #[.val (.ref a_1)] [(.ref b15), (.ref a_1)])
  have f17 : Exa Z h15 a_1 "com/example/kalchas/kalchas/propositional/HornClauses" := ((f11.wr W13).ext E15)
  have f18 : Fld Z h15 a_1 "com/example/kalchas/kalchas/propositional/HornClauses" "bodyStarts" "[I" w_bodyStarts_a_1 := (((pr_F_a_1_bodyStarts.ext E9).other W13 (Or.inr (slot_ne (Or.inl (hw _ (List.mem_of_getElem? (i := 20) rfl))) (Or.inl (hw _ (List.mem_of_getElem? (i := 18) rfl))) (by decide) (t := (.array .int)) (t' := (.array .int)) (by decide) (by decide)))).ext E15)
  obtain ⟨T19, h19, X19, e19, W19, st19⟩ := putF X15 hx hZ hown (host := "") (Or.inl (hw _ (List.mem_of_getElem? (i := 19) rfl))) Via.refl e15 f18 f17 (Or.inl (hw _ (List.mem_of_getElem? (i := 20) rfl))) (hw _ (List.mem_of_getElem? (i := 9) rfl)) (ty := (.array .int)) (by decide) rfl rfl (g := (mkF m 17 #[.val (.ref a_1)] [(.ref b15), (.ref a_1)])) rfl rfl (hb hby own_d3_17)
  have z20 := W19.size
  have K19 : Keep h0 h19 [a_1] := K15.wr W19 (Or.inl (List.mem_of_getElem? (i := 0) rfl))
  have N19 := Fr.snoc X19 N13 (by omega : n0 ≤ a_1)
  have Fw19 : Fld Z h19 a_1 "com/example/kalchas/kalchas/propositional/HornClauses" "bodyStarts" "[I" (.ref b15) := Fld.same W19 f18
  refine own_go (fun _ k => st19 _ k) ?_
  show own_Go _ _ _ _ T19 (mkF m 20 #[.val (.ref a_1)] [])
  refine own_go (fun _ k => XS.aloadN X19.here hx rfl (hb hby own_d3_20) rfl rfl k) ?_
  show own_Go _ _ _ _ T19 (mkF m 21 #[.val (.ref a_1)] [(.ref a_1)])
  refine own_go (fun _ k => XS.bipush X19.here hx rfl (hb hby own_d3_21) k) ?_
  show own_Go _ _ _ _ T19 (mkF m 23 #[.val (.ref a_1)] [(.int (64 : Int32)), (.ref a_1)])
  obtain ⟨T21, h21, k21, X21, e21, E21, A21, st21⟩ := newP X19 hx hZ (hw _ (List.mem_of_getElem? (i := 7) rfl)) e19 (g := (mkF m 23 #[.val (.ref a_1)] [(.int (64 : Int32)), (.ref a_1)])) rfl (hb hby own_d3_23) rfl (by decide) (cap := 64) (by decide) (by decide) (by decide) (by decide)
  obtain ⟨b21, g21⟩ : ∃ z, z = h19.size := ⟨_, rfl⟩
  rw [← g21] at A21 st21
  have z22 := E21.1
  have lt_b21 := own_lt A21.lt
  have K21 : Keep h0 h21 [a_1] := K19.ext E21
  have V_b21 : own_AV Z h21 b21 .int (64 : Int32) (fun _ => (.int (0 : Int32))) := own_AV.new A21 (by decide)
  refine own_go (fun _ k => st21 _ k) ?_
  show own_Go _ _ _ _ T21 (mkF m 25 #[.val (.ref a_1)] [(.ref b21), (.ref a_1)])
  have f23 : Exa Z h21 a_1 "com/example/kalchas/kalchas/propositional/HornClauses" := ((f17.wr W19).ext E21)
  have f24 : Fld Z h21 a_1 "com/example/kalchas/kalchas/propositional/HornClauses" "bodies" "[I" w_bodies_a_1 := (((((pr_F_a_1_bodies.ext E9).other W13 (Or.inr (slot_ne (Or.inl (hw _ (List.mem_of_getElem? (i := 22) rfl))) (Or.inl (hw _ (List.mem_of_getElem? (i := 18) rfl))) (by decide) (t := (.array .int)) (t' := (.array .int)) (by decide) (by decide)))).ext E15).other W19 (Or.inr (slot_ne (Or.inl (hw _ (List.mem_of_getElem? (i := 22) rfl))) (Or.inl (hw _ (List.mem_of_getElem? (i := 20) rfl))) (by decide) (t := (.array .int)) (t' := (.array .int)) (by decide) (by decide)))).ext E21)
  obtain ⟨T25, h25, X25, e25, W25, st25⟩ := putF X21 hx hZ hown (host := "") (Or.inl (hw _ (List.mem_of_getElem? (i := 21) rfl))) Via.refl e21 f24 f23 (Or.inl (hw _ (List.mem_of_getElem? (i := 22) rfl))) (hw _ (List.mem_of_getElem? (i := 9) rfl)) (ty := (.array .int)) (by decide) rfl rfl (g := (mkF m 25 #[.val (.ref a_1)] [(.ref b21), (.ref a_1)])) rfl rfl (hb hby own_d3_25)
  have z26 := W25.size
  have K25 : Keep h0 h25 [a_1] := K21.wr W25 (Or.inl (List.mem_of_getElem? (i := 0) rfl))
  have N25 := Fr.snoc X25 N19 (by omega : n0 ≤ a_1)
  have Fw25 : Fld Z h25 a_1 "com/example/kalchas/kalchas/propositional/HornClauses" "bodies" "[I" (.ref b21) := Fld.same W25 f24
  refine own_go (fun _ k => st25 _ k) ?_
  show own_Go _ _ _ _ T25 (mkF m 28 #[.val (.ref a_1)] [])
  obtain ⟨fs, hr, hrun, hended, hW, hsame⟩ := X25.leave (v := none) (fun _ => rfl)
  refine ⟨_, _, X25.returnOut hx Bd.returns (hb hby own_d3_28) hr, hrun, hended, _, _, rfl, ?_, ⟨_, rfl⟩, hW, hsame.mono (by decide) (by decide)⟩
  show own_Q3 Z a_1 w_heads_a_1 w_bodyStarts_a_1 w_bodies_a_1 w_occurrences_a_1 w_variableCount_a_1 w_clauseCount_a_1 h0 n0 _ T25.heap _
  rw [e25]
  have f28 : Exa Z h25 a_1 "com/example/kalchas/kalchas/propositional/HornClauses" := (f23.wr W25)
  have f29 : Fld Z h25 a_1 "com/example/kalchas/kalchas/propositional/HornClauses" "heads" "[I" (.ref b9) := ((((Fw13.ext E15).other W19 (Or.inr (slot_ne (Or.inl (hw _ (List.mem_of_getElem? (i := 18) rfl))) (Or.inl (hw _ (List.mem_of_getElem? (i := 20) rfl))) (by decide) (t := (.array .int)) (t' := (.array .int)) (by decide) (by decide)))).ext E21).other W25 (Or.inr (slot_ne (Or.inl (hw _ (List.mem_of_getElem? (i := 18) rfl))) (Or.inl (hw _ (List.mem_of_getElem? (i := 22) rfl))) (by decide) (t := (.array .int)) (t' := (.array .int)) (by decide) (by decide))))
  have f30 : Fld Z h25 a_1 "com/example/kalchas/kalchas/propositional/HornClauses" "bodyStarts" "[I" (.ref b15) := ((Fw19.ext E21).other W25 (Or.inr (slot_ne (Or.inl (hw _ (List.mem_of_getElem? (i := 20) rfl))) (Or.inl (hw _ (List.mem_of_getElem? (i := 22) rfl))) (by decide) (t := (.array .int)) (t' := (.array .int)) (by decide) (by decide))))
  have f31 : Fld Z h25 a_1 "com/example/kalchas/kalchas/propositional/HornClauses" "occurrences" "[I" w_occurrences_a_1 := ((((((pr_F_a_1_occurrences.ext E9).other W13 (Or.inr (slot_ne (Or.inl (hw _ (List.mem_of_getElem? (i := 29) rfl))) (Or.inl (hw _ (List.mem_of_getElem? (i := 18) rfl))) (by decide) (t := (.array .int)) (t' := (.array .int)) (by decide) (by decide)))).ext E15).other W19 (Or.inr (slot_ne (Or.inl (hw _ (List.mem_of_getElem? (i := 29) rfl))) (Or.inl (hw _ (List.mem_of_getElem? (i := 20) rfl))) (by decide) (t := (.array .int)) (t' := (.array .int)) (by decide) (by decide)))).ext E21).other W25 (Or.inr (slot_ne (Or.inl (hw _ (List.mem_of_getElem? (i := 29) rfl))) (Or.inl (hw _ (List.mem_of_getElem? (i := 22) rfl))) (by decide) (t := (.array .int)) (t' := (.array .int)) (by decide) (by decide))))
  have f32 : Fld Z h25 a_1 "com/example/kalchas/kalchas/propositional/HornClauses" "variableCount" "I" (.int w_variableCount_a_1) := ((((((pr_F_a_1_variableCount.ext E9).other W13 (Or.inr (slot_ne (Or.inl (hw _ (List.mem_of_getElem? (i := 31) rfl))) (Or.inl (hw _ (List.mem_of_getElem? (i := 18) rfl))) (by decide) (t := .int) (t' := (.array .int)) (by decide) (by decide)))).ext E15).other W19 (Or.inr (slot_ne (Or.inl (hw _ (List.mem_of_getElem? (i := 31) rfl))) (Or.inl (hw _ (List.mem_of_getElem? (i := 20) rfl))) (by decide) (t := .int) (t' := (.array .int)) (by decide) (by decide)))).ext E21).other W25 (Or.inr (slot_ne (Or.inl (hw _ (List.mem_of_getElem? (i := 31) rfl))) (Or.inl (hw _ (List.mem_of_getElem? (i := 22) rfl))) (by decide) (t := .int) (t' := (.array .int)) (by decide) (by decide))))
  have f33 : Fld Z h25 a_1 "com/example/kalchas/kalchas/propositional/HornClauses" "clauseCount" "I" (.int w_clauseCount_a_1) := ((((((pr_F_a_1_clauseCount.ext E9).other W13 (Or.inr (slot_ne (Or.inl (hw _ (List.mem_of_getElem? (i := 54) rfl))) (Or.inl (hw _ (List.mem_of_getElem? (i := 18) rfl))) (by decide) (t := .int) (t' := (.array .int)) (by decide) (by decide)))).ext E15).other W19 (Or.inr (slot_ne (Or.inl (hw _ (List.mem_of_getElem? (i := 54) rfl))) (Or.inl (hw _ (List.mem_of_getElem? (i := 20) rfl))) (by decide) (t := .int) (t' := (.array .int)) (by decide) (by decide)))).ext E21).other W25 (Or.inr (slot_ne (Or.inl (hw _ (List.mem_of_getElem? (i := 54) rfl))) (Or.inl (hw _ (List.mem_of_getElem? (i := 22) rfl))) (by decide) (t := .int) (t' := (.array .int)) (by decide) (by decide))))
  have f34 : own_AV Z h25 b9 .int (64 : Int32) (fun _ => (.int (0 : Int32))) := (((((V_b9.other W13 (own_ne (by omega))).ext E15).other W19 (own_ne (by omega))).ext E21).other W25 (own_ne (by omega)))
  have f35 : own_AV Z h25 b15 .int (65 : Int32) (fun _ => (.int (0 : Int32))) := (((V_b15.other W19 (own_ne (by omega))).ext E21).other W25 (own_ne (by omega)))
  have f36 : own_AV Z h25 b21 .int (64 : Int32) (fun _ => (.int (0 : Int32))) := (V_b21.other W25 (own_ne (by omega)))
  exact ⟨b9, b15, b21, rfl, N25, K25, f28, f29, f30, Fw25, f31, f32, f33, f34, f35, f36, (by omega), (by omega), (by omega), (by simp only [own_lts, and_true]; omega)⟩
theorem own_d5_0 : decode prog_6_method_2_code 0 = .ok (.aload_n 0, 1) := by decide +kernel
theorem own_d5_1 : decode prog_6_method_2_code 1 = .ok (.aconst_null, 1) := by decide +kernel
theorem own_d5_2 : decode prog_6_method_2_code 2 = .ok (.putfield 19, 3) := by decide +kernel
theorem own_d5_5 : decode prog_6_method_2_code 5 = .ok (.aload_n 0, 1) := by decide +kernel
theorem own_d5_6 : decode prog_6_method_2_code 6 = .ok (.getfield 22, 3) := by decide +kernel
theorem own_d5_9 : decode prog_6_method_2_code 9 = .ok (.istore_n 1, 1) := by decide +kernel
theorem own_d5_10 : decode prog_6_method_2_code 10 = .ok (.aload_n 0, 1) := by decide +kernel
theorem own_d5_11 : decode prog_6_method_2_code 11 = .ok (.dup, 1) := by decide +kernel
theorem own_d5_12 : decode prog_6_method_2_code 12 = .ok (.getfield 22, 3) := by decide +kernel
theorem own_d5_15 : decode prog_6_method_2_code 15 = .ok (.iconst 1, 1) := by decide +kernel
theorem own_d5_16 : decode prog_6_method_2_code 16 = .ok (.iadd, 1) := by decide +kernel
theorem own_d5_17 : decode prog_6_method_2_code 17 = .ok (.putfield 22, 3) := by decide +kernel
theorem own_d5_20 : decode prog_6_method_2_code 20 = .ok (.iload_n 1, 1) := by decide +kernel
theorem own_d5_21 : decode prog_6_method_2_code 21 = .ok (.ireturn, 1) := by decide +kernel
theorem own_ef_own_rm5 (m : MethodId) (x0 : Addr) : entryFrame m #[(.ref x0)] 2 = mkF m 0 #[.val (.ref x0), .unset] [] := by first | (simp [entryFrame, mkF, argsToLocals, Value.category]; done) | rfl
def own_Q5 (Z : State) (a_1 : Addr) (w_heads_a_1 : Value) (w_bodyStarts_a_1 : Value) (w_bodies_a_1 : Value) (w_occurrences_a_1 : Value) (w_variableCount_a_1 : Int32) (w_clauseCount_a_1 : Int32) (h0 : Heap) (n0 : Nat) (v : Option Value) (h : Heap) (L : List Loc) : Prop := v = some (.int w_variableCount_a_1) ∧ Fr n0 L ∧ Keep h0 h [a_1] ∧ Exa Z h a_1 "com/example/kalchas/kalchas/propositional/HornClauses" ∧ Fld Z h a_1 "com/example/kalchas/kalchas/propositional/HornClauses" "heads" "[I" w_heads_a_1 ∧ Fld Z h a_1 "com/example/kalchas/kalchas/propositional/HornClauses" "bodyStarts" "[I" w_bodyStarts_a_1 ∧ Fld Z h a_1 "com/example/kalchas/kalchas/propositional/HornClauses" "bodies" "[I" w_bodies_a_1 ∧ Fld Z h a_1 "com/example/kalchas/kalchas/propositional/HornClauses" "occurrences" "[I" .null ∧ Fld Z h a_1 "com/example/kalchas/kalchas/propositional/HornClauses" "variableCount" "I" (.int (w_variableCount_a_1 + (1 : Int32))) ∧ Fld Z h a_1 "com/example/kalchas/kalchas/propositional/HornClauses" "clauseCount" "I" (.int w_clauseCount_a_1)
set_option maxRecDepth 65536 in
set_option maxHeartbeats 40000000 in
theorem own_rm5 (l : Launch) (Z : State) (a0 : Array Value) (hw : ∀ d ∈ tables_1, d.before a0 Z = true) (ws : List Jvm.Cond) (a_1 : Addr) (w_heads_a_1 : Value) (w_bodyStarts_a_1 : Value) (w_bodies_a_1 : Value) (w_occurrences_a_1 : Value) (w_variableCount_a_1 : Int32) (w_clauseCount_a_1 : Int32) (h0 : Heap) (n0 : Nat) (Z0 : n0 ≤ h0.size) (pr_E_a_1 : Exa Z h0 a_1 "com/example/kalchas/kalchas/propositional/HornClauses") (pr_F_a_1_heads : Fld Z h0 a_1 "com/example/kalchas/kalchas/propositional/HornClauses" "heads" "[I" w_heads_a_1) (pr_F_a_1_bodyStarts : Fld Z h0 a_1 "com/example/kalchas/kalchas/propositional/HornClauses" "bodyStarts" "[I" w_bodyStarts_a_1) (pr_F_a_1_bodies : Fld Z h0 a_1 "com/example/kalchas/kalchas/propositional/HornClauses" "bodies" "[I" w_bodies_a_1) (pr_F_a_1_occurrences : Fld Z h0 a_1 "com/example/kalchas/kalchas/propositional/HornClauses" "occurrences" "[I" w_occurrences_a_1) (pr_F_a_1_variableCount : Fld Z h0 a_1 "com/example/kalchas/kalchas/propositional/HornClauses" "variableCount" "I" (.int w_variableCount_a_1)) (pr_F_a_1_clauseCount : Fld Z h0 a_1 "com/example/kalchas/kalchas/propositional/HornClauses" "clauseCount" "I" (.int w_clauseCount_a_1)) (gw_a_1 : n0 ≤ a_1) :
    MetFree l (⟨"com/example/kalchas/kalchas/propositional/HornClauses", "newVariable", "()I"⟩ : MethodName) (head1 (Jvm.Cond.code (⟨"com/example/kalchas/kalchas/propositional/HornClauses", "newVariable", "()I"⟩ : MethodName) prog_6_method_2_code 2 (some .int) :: ws) ({ frames := 0, cells := 0, slots := 0, locals := 0 } : Room)) (fun a U => a = #[(.ref a_1)] ∧ Z.Warmed39 U.vm ∧ U.heap = h0) (fun _ _ _ _ _ => True) (fun _ U o U' => ∃ v L, o = .returned v ∧ own_Q5 Z a_1 w_heads_a_1 w_bodyStarts_a_1 w_bodies_a_1 w_occurrences_a_1 w_variableCount_a_1 w_clauseCount_a_1 h0 n0 v U'.heap L ∧ FrameEnd U o U' L ({ frames := 0, cells := 0, slots := 0, locals := 0 } : Room).cells ({ frames := 0, cells := 0, slots := 0, locals := 0 } : Room).slots) := by
  refine MetFree.of_bodySF (plainFor_of_name own_pn1) hisR ?_
  intro p e s m args below meth c s₁ Bd hml0 hP hK
  obtain ⟨rfl, hZ, hh⟩ := hP
  have hx := Bd.exec
  have hby := Bd.bytes
  have hml : c.maxLocals = 2 := hml0
  have hown : s.vm.findClass "com/example/kalchas/kalchas/propositional/HornClauses" = some m.cls := findClass_of_methodNamed Bd.named
  have hnm := (name_of_methodNamed Bd.named Bd.method).1
  have X0 : Stand p l e ({ frames := 0, cells := 0, slots := 0, locals := 0 } : Room) s m #[(.ref a_1)] below meth c s₁ [] 0 0 := Stand.of_body Bd
  have e0 : s₁.heap = h0 := by rw [← hh, Bd.state]; rfl
  have N0 := Fr.nil n0
  have z0 : n0 ≤ h0.size := Z0
  have z1 := own_lt pr_E_a_1.lt
  have z2 := own_lt pr_F_a_1_heads.lt
  have z3 := own_lt pr_F_a_1_bodyStarts.lt
  have z4 := own_lt pr_F_a_1_bodies.lt
  have z5 := own_lt pr_F_a_1_occurrences.lt
  have z6 := own_lt pr_F_a_1_variableCount.lt
  have z7 := own_lt pr_F_a_1_clauseCount.lt
  have K0 : Keep h0 h0 [a_1] := Keep.refl h0 _
  show own_Go p.tables e below (fun t o => t.status = .running ∧ Ended t below o ∧ ∃ v L, o = .returned v ∧ own_Q5 Z a_1 w_heads_a_1 w_bodyStarts_a_1 w_bodies_a_1 w_occurrences_a_1 w_variableCount_a_1 w_clauseCount_a_1 h0 n0 v t.heap L ∧ FrameEnd s o t L ({ frames := 0, cells := 0, slots := 0, locals := 0 } : Room).cells ({ frames := 0, cells := 0, slots := 0, locals := 0 } : Room).slots) s₁ (entryFrame m #[(.ref a_1)] 2)
  rw [own_ef_own_rm5 m a_1]
  show own_Go _ _ _ _ s₁ (mkF m 0 #[.val (.ref a_1), .unset] [])
  refine own_go (fun _ k => XS.aloadN X0.here hx rfl (hb hby own_d5_0) rfl rfl k) ?_
  show own_Go _ _ _ _ s₁ (mkF m 1 #[.val (.ref a_1), .unset] [(.ref a_1)])
  refine own_go (fun _ k => XS.aconstNull X0.here hx rfl (hb hby own_d5_1) k) ?_
  show own_Go _ _ _ _ s₁ (mkF m 2 #[.val (.ref a_1), .unset] [.null, (.ref a_1)])
  obtain ⟨T8, h8, X8, e8, W8, st8⟩ := putF X0 hx hZ hown (host := "") (Or.inl (hw _ (List.mem_of_getElem? (i := 28) rfl))) Via.refl e0 pr_F_a_1_occurrences pr_E_a_1 (Or.inl (hw _ (List.mem_of_getElem? (i := 29) rfl))) (hw _ (List.mem_of_getElem? (i := 9) rfl)) (ty := (.array .int)) (by decide) rfl rfl (g := (mkF m 2 #[.val (.ref a_1), .unset] [.null, (.ref a_1)])) rfl rfl (hb hby own_d5_2)
  have z9 := W8.size
  have K8 : Keep h0 h8 [a_1] := K0.wr W8 (Or.inl (List.mem_of_getElem? (i := 0) rfl))
  have N8 := Fr.snoc X8 N0 (by omega : n0 ≤ a_1)
  have Fw8 : Fld Z h8 a_1 "com/example/kalchas/kalchas/propositional/HornClauses" "occurrences" "[I" .null := Fld.same W8 pr_F_a_1_occurrences
  refine own_go (fun _ k => st8 _ k) ?_
  show own_Go _ _ _ _ T8 (mkF m 5 #[.val (.ref a_1), .unset] [])
  refine own_go (fun _ k => XS.aloadN X8.here hx rfl (hb hby own_d5_5) rfl rfl k) ?_
  show own_Go _ _ _ _ T8 (mkF m 6 #[.val (.ref a_1), .unset] [(.ref a_1)])
  have f10 : Fld Z h8 a_1 "com/example/kalchas/kalchas/propositional/HornClauses" "variableCount" "I" (.int w_variableCount_a_1) := (pr_F_a_1_variableCount.other W8 (Or.inr (slot_ne (Or.inl (hw _ (List.mem_of_getElem? (i := 31) rfl))) (Or.inl (hw _ (List.mem_of_getElem? (i := 29) rfl))) (by decide) (t := .int) (t' := (.array .int)) (by decide) (by decide))))
  obtain ⟨T11, X11, e11, st11⟩ := getF X8 hx hZ hown (host := "") (Or.inl (hw _ (List.mem_of_getElem? (i := 30) rfl))) Via.refl e8 f10 (g := (mkF m 6 #[.val (.ref a_1), .unset] [(.ref a_1)])) rfl rfl (hb hby own_d5_6)
  refine own_go (fun _ k => st11 _ k) ?_
  show own_Go _ _ _ _ T11 (mkF m 9 #[.val (.ref a_1), .unset] [(.int w_variableCount_a_1)])
  refine own_go (fun _ k => XS.istoreN X11.here hx rfl (hb hby own_d5_9) rfl (l' := #[.val (.ref a_1), .val (.int w_variableCount_a_1)]) rfl k) ?_
  show own_Go _ _ _ _ T11 (mkF m 10 #[.val (.ref a_1), .val (.int w_variableCount_a_1)] [])
  refine own_go (fun _ k => XS.aloadN X11.here hx rfl (hb hby own_d5_10) rfl rfl k) ?_
  show own_Go _ _ _ _ T11 (mkF m 11 #[.val (.ref a_1), .val (.int w_variableCount_a_1)] [(.ref a_1)])
  refine own_go (fun _ k => XS.dup X11.here hx rfl (hb hby own_d5_11) rfl rfl k) ?_
  show own_Go _ _ _ _ T11 (mkF m 12 #[.val (.ref a_1), .val (.int w_variableCount_a_1)] [(.ref a_1), (.ref a_1)])
  obtain ⟨T12, X12, e12, st12⟩ := getF X11 hx hZ hown (host := "") (Or.inl (hw _ (List.mem_of_getElem? (i := 30) rfl))) Via.refl e11 f10 (g := (mkF m 12 #[.val (.ref a_1), .val (.int w_variableCount_a_1)] [(.ref a_1), (.ref a_1)])) rfl rfl (hb hby own_d5_12)
  refine own_go (fun _ k => st12 _ k) ?_
  show own_Go _ _ _ _ T12 (mkF m 15 #[.val (.ref a_1), .val (.int w_variableCount_a_1)] [(.int w_variableCount_a_1), (.ref a_1)])
  refine own_go (fun _ k => XS.iconst X12.here hx rfl (hb hby own_d5_15) k) ?_
  show own_Go _ _ _ _ T12 (mkF m 16 #[.val (.ref a_1), .val (.int w_variableCount_a_1)] [(.int (1 : Int32)), (.int w_variableCount_a_1), (.ref a_1)])
  refine own_go (fun _ k => XS.iadd X12.here hx rfl (hb hby own_d5_16) rfl k) ?_
  show own_Go _ _ _ _ T12 (mkF m 17 #[.val (.ref a_1), .val (.int w_variableCount_a_1)] [(.int (w_variableCount_a_1 + (1 : Int32))), (.ref a_1)])
  have f13 : Exa Z h8 a_1 "com/example/kalchas/kalchas/propositional/HornClauses" := (pr_E_a_1.wr W8)
  obtain ⟨T14, h14, X14, e14, W14, st14⟩ := putF X12 hx hZ hown (host := "") (Or.inl (hw _ (List.mem_of_getElem? (i := 30) rfl))) Via.refl e12 f10 f13 (Or.inl (hw _ (List.mem_of_getElem? (i := 31) rfl))) (hw _ (List.mem_of_getElem? (i := 9) rfl)) (ty := .int) (by decide) rfl rfl (g := (mkF m 17 #[.val (.ref a_1), .val (.int w_variableCount_a_1)] [(.int (w_variableCount_a_1 + (1 : Int32))), (.ref a_1)])) rfl rfl (hb hby own_d5_17)
  have z15 := W14.size
  have K14 : Keep h0 h14 [a_1] := K8.wr W14 (Or.inl (List.mem_of_getElem? (i := 0) rfl))
  have N14 := Fr.snoc X14 N8 (by omega : n0 ≤ a_1)
  have Fw14 : Fld Z h14 a_1 "com/example/kalchas/kalchas/propositional/HornClauses" "variableCount" "I" (.int (w_variableCount_a_1 + (1 : Int32))) := Fld.same W14 f10
  refine own_go (fun _ k => st14 _ k) ?_
  show own_Go _ _ _ _ T14 (mkF m 20 #[.val (.ref a_1), .val (.int w_variableCount_a_1)] [])
  refine own_go (fun _ k => XS.iloadN X14.here hx rfl (hb hby own_d5_20) rfl k) ?_
  show own_Go _ _ _ _ T14 (mkF m 21 #[.val (.ref a_1), .val (.int w_variableCount_a_1)] [(.int w_variableCount_a_1)])
  obtain ⟨fs, hr, hrun, hended, hW, hsame⟩ := X14.leave (v := some (.int w_variableCount_a_1)) (fun h => by rw [Bd.returns] at h; cases h)
  refine ⟨_, _, retOut X14 hx Bd.returns rfl (Or.inl ⟨rfl, Or.inl rfl, _, rfl⟩) (hb hby own_d5_21) hr, hrun, hended, _, _, rfl, ?_, ⟨_, rfl⟩, hW, hsame.mono (by decide) (by decide)⟩
  show own_Q5 Z a_1 w_heads_a_1 w_bodyStarts_a_1 w_bodies_a_1 w_occurrences_a_1 w_variableCount_a_1 w_clauseCount_a_1 h0 n0 _ T14.heap _
  rw [e14]
  have f17 : Exa Z h14 a_1 "com/example/kalchas/kalchas/propositional/HornClauses" := (f13.wr W14)
  have f18 : Fld Z h14 a_1 "com/example/kalchas/kalchas/propositional/HornClauses" "heads" "[I" w_heads_a_1 := ((pr_F_a_1_heads.other W8 (Or.inr (slot_ne (Or.inl (hw _ (List.mem_of_getElem? (i := 18) rfl))) (Or.inl (hw _ (List.mem_of_getElem? (i := 29) rfl))) (by decide) (t := (.array .int)) (t' := (.array .int)) (by decide) (by decide)))).other W14 (Or.inr (slot_ne (Or.inl (hw _ (List.mem_of_getElem? (i := 18) rfl))) (Or.inl (hw _ (List.mem_of_getElem? (i := 31) rfl))) (by decide) (t := (.array .int)) (t' := .int) (by decide) (by decide))))
  have f19 : Fld Z h14 a_1 "com/example/kalchas/kalchas/propositional/HornClauses" "bodyStarts" "[I" w_bodyStarts_a_1 := ((pr_F_a_1_bodyStarts.other W8 (Or.inr (slot_ne (Or.inl (hw _ (List.mem_of_getElem? (i := 20) rfl))) (Or.inl (hw _ (List.mem_of_getElem? (i := 29) rfl))) (by decide) (t := (.array .int)) (t' := (.array .int)) (by decide) (by decide)))).other W14 (Or.inr (slot_ne (Or.inl (hw _ (List.mem_of_getElem? (i := 20) rfl))) (Or.inl (hw _ (List.mem_of_getElem? (i := 31) rfl))) (by decide) (t := (.array .int)) (t' := .int) (by decide) (by decide))))
  have f20 : Fld Z h14 a_1 "com/example/kalchas/kalchas/propositional/HornClauses" "bodies" "[I" w_bodies_a_1 := ((pr_F_a_1_bodies.other W8 (Or.inr (slot_ne (Or.inl (hw _ (List.mem_of_getElem? (i := 22) rfl))) (Or.inl (hw _ (List.mem_of_getElem? (i := 29) rfl))) (by decide) (t := (.array .int)) (t' := (.array .int)) (by decide) (by decide)))).other W14 (Or.inr (slot_ne (Or.inl (hw _ (List.mem_of_getElem? (i := 22) rfl))) (Or.inl (hw _ (List.mem_of_getElem? (i := 31) rfl))) (by decide) (t := (.array .int)) (t' := .int) (by decide) (by decide))))
  have f21 : Fld Z h14 a_1 "com/example/kalchas/kalchas/propositional/HornClauses" "occurrences" "[I" .null := (Fw8.other W14 (Or.inr (slot_ne (Or.inl (hw _ (List.mem_of_getElem? (i := 29) rfl))) (Or.inl (hw _ (List.mem_of_getElem? (i := 31) rfl))) (by decide) (t := (.array .int)) (t' := .int) (by decide) (by decide))))
  have f22 : Fld Z h14 a_1 "com/example/kalchas/kalchas/propositional/HornClauses" "clauseCount" "I" (.int w_clauseCount_a_1) := ((pr_F_a_1_clauseCount.other W8 (Or.inr (slot_ne (Or.inl (hw _ (List.mem_of_getElem? (i := 54) rfl))) (Or.inl (hw _ (List.mem_of_getElem? (i := 29) rfl))) (by decide) (t := .int) (t' := (.array .int)) (by decide) (by decide)))).other W14 (Or.inr (slot_ne (Or.inl (hw _ (List.mem_of_getElem? (i := 54) rfl))) (Or.inl (hw _ (List.mem_of_getElem? (i := 31) rfl))) (by decide) (t := .int) (t' := .int) (by decide) (by decide))))
  exact ⟨rfl, N14, K14, f17, f18, f19, f20, f21, Fw14, f22⟩
theorem own_d8_0 : decode prog_6_method_16_code 0 = .ok (.iload_n 1, 1) := by decide +kernel
theorem own_d8_1 : decode prog_6_method_16_code 1 = .ok (.ifCond .lt 8, 3) := by decide +kernel
theorem own_d8_4 : decode prog_6_method_16_code 4 = .ok (.iload_n 1, 1) := by decide +kernel
theorem own_d8_5 : decode prog_6_method_16_code 5 = .ok (.iload_n 2, 1) := by decide +kernel
theorem own_d8_6 : decode prog_6_method_16_code 6 = .ok (.if_icmp .lt 19, 3) := by decide +kernel
theorem own_d8_25 : decode prog_6_method_16_code 25 = .ok (.return_, 1) := by decide +kernel
theorem own_ef_own_rm8 (m : MethodId) (x0 : Addr) (x1 : Int32) (x2 : Int32) : entryFrame m #[(.ref x0), (.int x1), (.int x2)] 3 = mkF m 0 #[.val (.ref x0), .val (.int x1), .val (.int x2)] [] := by first | (simp [entryFrame, mkF, argsToLocals, Value.category]; done) | rfl
def own_Q8 (Z : State) (a_1 : Addr) (p_2 : Int32) (p_3 : Int32) (h0 : Heap) (n0 : Nat) (v : Option Value) (h : Heap) (L : List Loc) : Prop := v = none ∧ Fr n0 L ∧ h = h0
set_option maxRecDepth 65536 in
set_option maxHeartbeats 40000000 in
theorem own_rm8 (l : Launch) (Z : State) (a0 : Array Value) (hw : ∀ d ∈ tables_1, d.before a0 Z = true) (ws : List Jvm.Cond) (a_1 : Addr) (p_2 : Int32) (p_3 : Int32) (h0 : Heap) (n0 : Nat) (Z0 : n0 ≤ h0.size) (h1 : ¬ (p_2 < 0)) (h2 : p_2 < p_3) :
    MetFree l (⟨"com/example/kalchas/kalchas/propositional/HornClauses", "checkNumber", "(Ljava/lang/String;II)V"⟩ : MethodName) (head1 (Jvm.Cond.code (⟨"com/example/kalchas/kalchas/propositional/HornClauses", "checkNumber", "(Ljava/lang/String;II)V"⟩ : MethodName) prog_6_method_16_code 3 none :: ws) ({ frames := 0, cells := 0, slots := 0, locals := 0 } : Room)) (fun a U => a = #[(.ref a_1), (.int p_2), (.int p_3)] ∧ Z.Warmed39 U.vm ∧ U.heap = h0) (fun _ _ _ _ _ => True) (fun _ U o U' => ∃ v L, o = .returned v ∧ own_Q8 Z a_1 p_2 p_3 h0 n0 v U'.heap L ∧ FrameEnd U o U' L ({ frames := 0, cells := 0, slots := 0, locals := 0 } : Room).cells ({ frames := 0, cells := 0, slots := 0, locals := 0 } : Room).slots) := by
  refine MetFree.of_bodySF (plainFor_of_name own_pn1) hisR ?_
  intro p e s m args below meth c s₁ Bd hml0 hP hK
  obtain ⟨rfl, hZ, hh⟩ := hP
  have hx := Bd.exec
  have hby := Bd.bytes
  have hml : c.maxLocals = 3 := hml0
  have hown : s.vm.findClass "com/example/kalchas/kalchas/propositional/HornClauses" = some m.cls := findClass_of_methodNamed Bd.named
  have hnm := (name_of_methodNamed Bd.named Bd.method).1
  have X0 : Stand p l e ({ frames := 0, cells := 0, slots := 0, locals := 0 } : Room) s m #[(.ref a_1), (.int p_2), (.int p_3)] below meth c s₁ [] 0 0 := Stand.of_body Bd
  have e0 : s₁.heap = h0 := by rw [← hh, Bd.state]; rfl
  have N0 := Fr.nil n0
  have z0 : n0 ≤ h0.size := Z0
  show own_Go p.tables e below (fun t o => t.status = .running ∧ Ended t below o ∧ ∃ v L, o = .returned v ∧ own_Q8 Z a_1 p_2 p_3 h0 n0 v t.heap L ∧ FrameEnd s o t L ({ frames := 0, cells := 0, slots := 0, locals := 0 } : Room).cells ({ frames := 0, cells := 0, slots := 0, locals := 0 } : Room).slots) s₁ (entryFrame m #[(.ref a_1), (.int p_2), (.int p_3)] 3)
  rw [own_ef_own_rm8 m a_1 p_2 p_3]
  show own_Go _ _ _ _ s₁ (mkF m 0 #[.val (.ref a_1), .val (.int p_2), .val (.int p_3)] [])
  refine own_go (fun _ k => XS.iloadN X0.here hx rfl (hb hby own_d8_0) rfl k) ?_
  show own_Go _ _ _ _ s₁ (mkF m 1 #[.val (.ref a_1), .val (.int p_2), .val (.int p_3)] [(.int p_2)])
  refine own_go (fun _ k => XS.ifNo X0.here hx rfl (hb hby own_d8_1) rfl (Jvm.Free.XT.i0_lt_f h1) k) ?_
  show own_Go _ _ _ _ s₁ (mkF m 4 #[.val (.ref a_1), .val (.int p_2), .val (.int p_3)] [])
  refine own_go (fun _ k => XS.iloadN X0.here hx rfl (hb hby own_d8_4) rfl k) ?_
  show own_Go _ _ _ _ s₁ (mkF m 5 #[.val (.ref a_1), .val (.int p_2), .val (.int p_3)] [(.int p_2)])
  refine own_go (fun _ k => XS.iloadN X0.here hx rfl (hb hby own_d8_5) rfl k) ?_
  show own_Go _ _ _ _ s₁ (mkF m 6 #[.val (.ref a_1), .val (.int p_2), .val (.int p_3)] [(.int p_3), (.int p_2)])
  refine own_go (fun _ k => XS.icmpYes X0.here hx rfl (pc0 := 6) (pc' := 25) rfl (hb hby own_d8_6) rfl (Jvm.Free.XT.ii_lt_t h2) (by decide) (by decide) k) ?_
  show own_Go _ _ _ _ s₁ (mkF m 25 #[.val (.ref a_1), .val (.int p_2), .val (.int p_3)] [])
  obtain ⟨fs, hr, hrun, hended, hW, hsame⟩ := X0.leave (v := none) (fun _ => rfl)
  refine ⟨_, _, X0.returnOut hx Bd.returns (hb hby own_d8_25) hr, hrun, hended, _, _, rfl, ?_, ⟨_, rfl⟩, hW, hsame.mono (by decide) (by decide)⟩
  show own_Q8 Z a_1 p_2 p_3 h0 n0 _ s₁.heap _
  rw [e0]
  exact ⟨rfl, N0, rfl⟩
theorem own_d7_0 : decode prog_6_method_14_code 0 = .ok (.ldc 178, 2) := by decide +kernel
theorem own_d7_2 : decode prog_6_method_14_code 2 = .ok (.iload_n 1, 1) := by decide +kernel
theorem own_d7_3 : decode prog_6_method_14_code 3 = .ok (.aload_n 0, 1) := by decide +kernel
theorem own_d7_4 : decode prog_6_method_14_code 4 = .ok (.getfield 22, 3) := by decide +kernel
theorem own_d7_7 : decode prog_6_method_14_code 7 = .ok (.invokestatic 180, 3) := by decide +kernel
theorem own_d7_10 : decode prog_6_method_14_code 10 = .ok (.return_, 1) := by decide +kernel
theorem own_ef_own_rm7c (m : MethodId) (x0 : Addr) (x1 : Int32) : entryFrame m #[(.ref x0), (.int x1)] 2 = mkF m 0 #[.val (.ref x0), .val (.int x1)] [] := by first | (simp [entryFrame, mkF, argsToLocals, Value.category]; done) | rfl
def own_Q7c (Z : State) (a_1 : Addr) (p_2 : Int32) (w_variableCount_a_1 : Int32) (h0 : Heap) (n0 : Nat) (v : Option Value) (h : Heap) (L : List Loc) : Prop := v = none ∧ Fr n0 L ∧ Keep h0 h []
set_option maxRecDepth 65536 in
set_option maxHeartbeats 40000000 in
theorem own_rm7c (l : Launch) (Z : State) (a0 : Array Value) (hw : ∀ d ∈ tables_1, d.before a0 Z = true) (ws : List Jvm.Cond) (a_1 : Addr) (p_2 : Int32) (w_variableCount_a_1 : Int32) (h0 : Heap) (n0 : Nat) (Z0 : n0 ≤ h0.size) (h1 : ¬ (p_2 < 0)) (h2 : p_2 < w_variableCount_a_1) (pr_F_a_1_variableCount : Fld Z h0 a_1 "com/example/kalchas/kalchas/propositional/HornClauses" "variableCount" "I" (.int w_variableCount_a_1)) :
    MetFree l (⟨"com/example/kalchas/kalchas/propositional/HornClauses", "checkVariable", "(I)V"⟩ : MethodName) (head1 (Jvm.Cond.code (⟨"com/example/kalchas/kalchas/propositional/HornClauses", "checkVariable", "(I)V"⟩ : MethodName) prog_6_method_14_code 2 none :: ws) ({ frames := 1, cells := 2, slots := 36, locals := 14 } : Room)) (fun a U => a = #[(.ref a_1), (.int p_2)] ∧ Z.Warmed39 U.vm ∧ U.heap = h0 ∧ (fun _ : Vm => True) U.vm) (fun _ _ _ _ _ => True) (fun _ U o U' => ∃ v L, o = .returned v ∧ (own_Q7c Z a_1 p_2 w_variableCount_a_1 h0 n0 v U'.heap L ∧ (own_LP Z "com/example/kalchas/kalchas/propositional/HornClauses" 178) U'.vm) ∧ ReturnedEndW U o U' L ({ frames := 1, cells := 2, slots := 36, locals := 14 } : Room).cells ({ frames := 1, cells := 2, slots := 36, locals := 14 } : Room).slots) := by
  refine MetFree.of_bodySF (plainFor_of_name own_pn1) hisR ?_
  intro p e s m args below meth c s₁ Bd hml0 hP hK
  obtain ⟨rfl, hZ, hh, -⟩ := hP
  have hx := Bd.exec
  have hby := Bd.bytes
  have hml : c.maxLocals = 2 := hml0
  have hown : s.vm.findClass "com/example/kalchas/kalchas/propositional/HornClauses" = some m.cls := findClass_of_methodNamed Bd.named
  have hnm := (name_of_methodNamed Bd.named Bd.method).1
  have X0 : Stand p l e ({ frames := 1, cells := 2, slots := 36, locals := 14 } : Room) s m #[(.ref a_1), (.int p_2)] below meth c s₁ [] 0 0 := Stand.of_body Bd
  have e0 : s₁.heap = h0 := by rw [← hh, Bd.state]; rfl
  have N0 := Fr.nil n0
  have X0 : Stand p l e ({ frames := 1, cells := 2, slots := 36, locals := 14 } : Room) (s.setVm s.vm) m #[(.ref a_1), (.int p_2)] below meth c s₁ [] 0 0 := X0
  have hZ : Z.Warmed39 (s.setVm s.vm).vm := hZ
  have hown : (s.setVm s.vm).vm.findClass "com/example/kalchas/kalchas/propositional/HornClauses" = some m.cls := hown
  have hS0 : s.Since s.vm 0 := (State.WarmedH.refl s).since 0
  have z0 : n0 ≤ h0.size := Z0
  have z1 := own_lt pr_F_a_1_variableCount.lt
  have K0 : Keep h0 h0 [] := Keep.refl h0 _
  show own_Go p.tables e below (fun t o => t.status = .running ∧ Ended t below o ∧ ∃ v L, o = .returned v ∧ (own_Q7c Z a_1 p_2 w_variableCount_a_1 h0 n0 v t.heap L ∧ (own_LP Z "com/example/kalchas/kalchas/propositional/HornClauses" 178) t.vm) ∧ ReturnedEndW s o t L ({ frames := 1, cells := 2, slots := 36, locals := 14 } : Room).cells ({ frames := 1, cells := 2, slots := 36, locals := 14 } : Room).slots) s₁ (entryFrame m #[(.ref a_1), (.int p_2)] 2)
  rw [own_ef_own_rm7c m a_1 p_2]
  show own_Go _ _ _ _ s₁ (mkF m 0 #[.val (.ref a_1), .val (.int p_2)] [])
  obtain ⟨b2, T2, h2, k2, X2, e2, E2, hS2, g2, hZ, hown, Li2, Wn2, st2⟩ := own_ldcSL X0 hx hZ hown (hw _ (List.mem_of_getElem? (i := 42) rfl)) (own_wS hw) e0 hS0 (by omega) (g := (mkF m 0 #[.val (.ref a_1), .val (.int p_2)] [])) rfl (hb hby own_d7_0) (n := 32) (by decide +kernel) (by decide) (by decide) (by decide)
  have z3 := E2.1
  have K2 : Keep h0 h2 [] := K0.ext E2
  refine own_go (fun _ k => st2 _ k) ?_
  show own_Go _ _ _ _ T2 (mkF m 2 #[.val (.ref a_1), .val (.int p_2)] [(.ref b2)])
  refine own_go (fun _ k => XS.iloadN X2.here hx rfl (hb hby own_d7_2) rfl k) ?_
  show own_Go _ _ _ _ T2 (mkF m 3 #[.val (.ref a_1), .val (.int p_2)] [(.int p_2), (.ref b2)])
  refine own_go (fun _ k => XS.aloadN X2.here hx rfl (hb hby own_d7_3) rfl rfl k) ?_
  show own_Go _ _ _ _ T2 (mkF m 4 #[.val (.ref a_1), .val (.int p_2)] [(.ref a_1), (.int p_2), (.ref b2)])
  have f4 : Fld Z h2 a_1 "com/example/kalchas/kalchas/propositional/HornClauses" "variableCount" "I" (.int w_variableCount_a_1) := (pr_F_a_1_variableCount.ext E2)
  obtain ⟨T5, X5, e5, st5⟩ := getF X2 hx hZ hown (host := "") (Or.inl (hw _ (List.mem_of_getElem? (i := 30) rfl))) Via.refl e2 f4 (g := (mkF m 4 #[.val (.ref a_1), .val (.int p_2)] [(.ref a_1), (.int p_2), (.ref b2)])) rfl rfl (hb hby own_d7_4)
  refine own_go (fun _ k => st5 _ k) ?_
  show own_Go _ _ _ _ T5 (mkF m 7 #[.val (.ref a_1), .val (.int p_2)] [(.int w_variableCount_a_1), (.int p_2), (.ref b2)])
  obtain ⟨_, _, ⟨T6, L6, k6, n6⟩, -, X6, ⟨Lc6, hQ6, l6, y6, z6⟩, st6⟩ := Jvm.LawKit.callS X5 hx (y := (⟨"com/example/kalchas/kalchas/propositional/HornClauses", "checkNumber", "(Ljava/lang/String;II)V"⟩ : MethodName)) hown (mvT hZ (hw _ (List.mem_of_getElem? (i := 50) rfl))) (mvT hZ (hw _ (List.mem_of_getElem? (i := 51) rfl))) (mvT hZ (hw _ (List.mem_of_getElem? (i := 10) rfl))) (mvT hZ (hw _ (List.mem_of_getElem? (i := 52) rfl))) (by decide) (backOf (W := 0) (own_rm8 l Z a0 hw [] b2 p_2 w_variableCount_a_1  h2 n0 (by omega) (show ¬ (p_2 < 0) by first | assumption | omega | decide) (show p_2 < w_variableCount_a_1 by first | assumption | omega | decide)) hZ (hw _ (List.mem_of_getElem? (i := 52) rfl)) (hw _ (List.mem_of_getElem? (i := 10) rfl)) (by decide) (by decide)) (g := (mkF m 7 #[.val (.ref a_1), .val (.int p_2)] [(.int w_variableCount_a_1), (.int p_2), (.ref b2)])) rfl (by rw [hml]; rfl) (argsL := [(.ref b2), (.int p_2), (.int w_variableCount_a_1)]) (rest := []) (lenOf own_pd0 rfl) rfl (by show 2 * 0 + _ ≤ _; exact Nat.le_of_eq rfl) (hb hby own_d7_7) (fun _ _ => ⟨rfl, e5, (by decide : 2 + 0 ≤ _), (by decide : 36 + 0 ≤ _)⟩)
  dsimp only [Pt.U, Pt.locs, Pt.cells, Pt.slots] at X6 l6 y6 z6 st6 hQ6
  have y6 : k6 = 2 := y6
  have z6 : n6 = 36 := z6
  obtain ⟨rfl, N6q, e6⟩ := hQ6
  have N6 : Fr n0 L6 := by rw [l6]; exact Fr.app N0 N6q
  refine own_go (fun _ k => st6 _ k) ?_
  show own_Go _ _ _ _ T6 (mkF m 10 #[.val (.ref a_1), .val (.int p_2)] [])
  obtain ⟨fs, hr, hrun, hended, hRW⟩ := X6.leaveW hS2 (by rw [e6]; omega) (v := none) (fun _ => rfl)
  refine ⟨_, _, X6.returnOut hx Bd.returns (hb hby own_d7_10) hr, hrun, hended, _, _, rfl, ?_, own_monoW hRW (by rw [y6]; decide) (by rw [z6]; decide)⟩
  refine ⟨?_, ⟨_, own_litW Li2 X6.warmed.wide⟩⟩
  show own_Q7c Z a_1 p_2 w_variableCount_a_1 h0 n0 _ T6.heap _
  rw [e6]
  exact ⟨rfl, N6, K2⟩
theorem own_ef_own_rm7w (m : MethodId) (x0 : Addr) (x1 : Int32) : entryFrame m #[(.ref x0), (.int x1)] 2 = mkF m 0 #[.val (.ref x0), .val (.int x1)] [] := by first | (simp [entryFrame, mkF, argsToLocals, Value.category]; done) | rfl
def own_Q7w (Z : State) (a_1 : Addr) (p_2 : Int32) (w_variableCount_a_1 : Int32) (h0 : Heap) (n0 : Nat) (v : Option Value) (h : Heap) (L : List Loc) : Prop := v = none ∧ Fr n0 L ∧ h = h0
set_option maxRecDepth 65536 in
set_option maxHeartbeats 40000000 in
theorem own_rm7w (l : Launch) (Z : State) (a0 : Array Value) (hw : ∀ d ∈ tables_1, d.before a0 Z = true) (ws : List Jvm.Cond) (a_1 : Addr) (p_2 : Int32) (w_variableCount_a_1 : Int32) (h0 : Heap) (n0 : Nat) (Z0 : n0 ≤ h0.size) (h1 : ¬ (p_2 < 0)) (h2 : p_2 < w_variableCount_a_1) (pr_F_a_1_variableCount : Fld Z h0 a_1 "com/example/kalchas/kalchas/propositional/HornClauses" "variableCount" "I" (.int w_variableCount_a_1)) :
    MetFree l (⟨"com/example/kalchas/kalchas/propositional/HornClauses", "checkVariable", "(I)V"⟩ : MethodName) (head1 (Jvm.Cond.code (⟨"com/example/kalchas/kalchas/propositional/HornClauses", "checkVariable", "(I)V"⟩ : MethodName) prog_6_method_14_code 2 none :: ws) ({ frames := 1, cells := 0, slots := 0, locals := 14 } : Room)) (fun a U => a = #[(.ref a_1), (.int p_2)] ∧ Z.Warmed39 U.vm ∧ U.heap = h0 ∧ (own_LP Z "com/example/kalchas/kalchas/propositional/HornClauses" 178) U.vm) (fun _ _ _ _ _ => True) (fun _ U o U' => ∃ v L, o = .returned v ∧ (own_Q7w Z a_1 p_2 w_variableCount_a_1 h0 n0 v U'.heap L ∧ (fun _ : Vm => True) U'.vm) ∧ ReturnedEndW U o U' L ({ frames := 1, cells := 0, slots := 0, locals := 14 } : Room).cells ({ frames := 1, cells := 0, slots := 0, locals := 14 } : Room).slots) := by
  refine MetFree.of_bodySF (plainFor_of_name own_pn1) hisR ?_
  intro p e s m args below meth c s₁ Bd hml0 hP hK
  obtain ⟨rfl, hZ, hh, ⟨bP, LP⟩⟩ := hP
  have hx := Bd.exec
  have hby := Bd.bytes
  have hml : c.maxLocals = 2 := hml0
  have hown : s.vm.findClass "com/example/kalchas/kalchas/propositional/HornClauses" = some m.cls := findClass_of_methodNamed Bd.named
  have hnm := (name_of_methodNamed Bd.named Bd.method).1
  have X0 : Stand p l e ({ frames := 1, cells := 0, slots := 0, locals := 14 } : Room) s m #[(.ref a_1), (.int p_2)] below meth c s₁ [] 0 0 := Stand.of_body Bd
  have e0 : s₁.heap = h0 := by rw [← hh, Bd.state]; rfl
  have N0 := Fr.nil n0
  have X0 : Stand p l e ({ frames := 1, cells := 0, slots := 0, locals := 14 } : Room) (s.setVm s.vm) m #[(.ref a_1), (.int p_2)] below meth c s₁ [] 0 0 := X0
  have hZ : Z.Warmed39 (s.setVm s.vm).vm := hZ
  have hown : (s.setVm s.vm).vm.findClass "com/example/kalchas/kalchas/propositional/HornClauses" = some m.cls := hown
  have hS0 : s.Since s.vm 0 := (State.WarmedH.refl s).since 0
  have LP : Lit (s.setVm s.vm) "com/example/kalchas/kalchas/propositional/HornClauses" 178 bP := LP
  have z0 : n0 ≤ h0.size := Z0
  have z1 := own_lt pr_F_a_1_variableCount.lt
  show own_Go p.tables e below (fun t o => t.status = .running ∧ Ended t below o ∧ ∃ v L, o = .returned v ∧ (own_Q7w Z a_1 p_2 w_variableCount_a_1 h0 n0 v t.heap L ∧ (fun _ : Vm => True) t.vm) ∧ ReturnedEndW s o t L ({ frames := 1, cells := 0, slots := 0, locals := 14 } : Room).cells ({ frames := 1, cells := 0, slots := 0, locals := 14 } : Room).slots) s₁ (entryFrame m #[(.ref a_1), (.int p_2)] 2)
  rw [own_ef_own_rm7w m a_1 p_2]
  show own_Go _ _ _ _ s₁ (mkF m 0 #[.val (.ref a_1), .val (.int p_2)] [])
  refine own_go (fun _ k => ldcAgain X0 hx hZ hown (hw _ (List.mem_of_getElem? (i := 42) rfl)) LP (g := (mkF m 0 #[.val (.ref a_1), .val (.int p_2)] [])) rfl (hb hby own_d7_0) _ k) ?_
  show own_Go _ _ _ _ s₁ (mkF m 2 #[.val (.ref a_1), .val (.int p_2)] [(.ref bP)])
  refine own_go (fun _ k => XS.iloadN X0.here hx rfl (hb hby own_d7_2) rfl k) ?_
  show own_Go _ _ _ _ s₁ (mkF m 3 #[.val (.ref a_1), .val (.int p_2)] [(.int p_2), (.ref bP)])
  refine own_go (fun _ k => XS.aloadN X0.here hx rfl (hb hby own_d7_3) rfl rfl k) ?_
  show own_Go _ _ _ _ s₁ (mkF m 4 #[.val (.ref a_1), .val (.int p_2)] [(.ref a_1), (.int p_2), (.ref bP)])
  obtain ⟨T3, X3, e3, st3⟩ := getF X0 hx hZ hown (host := "") (Or.inl (hw _ (List.mem_of_getElem? (i := 30) rfl))) Via.refl e0 pr_F_a_1_variableCount (g := (mkF m 4 #[.val (.ref a_1), .val (.int p_2)] [(.ref a_1), (.int p_2), (.ref bP)])) rfl rfl (hb hby own_d7_4)
  refine own_go (fun _ k => st3 _ k) ?_
  show own_Go _ _ _ _ T3 (mkF m 7 #[.val (.ref a_1), .val (.int p_2)] [(.int w_variableCount_a_1), (.int p_2), (.ref bP)])
  obtain ⟨_, _, ⟨T4, L4, k4, n4⟩, -, X4, ⟨Lc4, hQ4, l4, y4, z4⟩, st4⟩ := Jvm.LawKit.callS X3 hx (y := (⟨"com/example/kalchas/kalchas/propositional/HornClauses", "checkNumber", "(Ljava/lang/String;II)V"⟩ : MethodName)) hown (mvT hZ (hw _ (List.mem_of_getElem? (i := 50) rfl))) (mvT hZ (hw _ (List.mem_of_getElem? (i := 51) rfl))) (mvT hZ (hw _ (List.mem_of_getElem? (i := 10) rfl))) (mvT hZ (hw _ (List.mem_of_getElem? (i := 52) rfl))) (by decide) (backOf (W := 0) (own_rm8 l Z a0 hw [] bP p_2 w_variableCount_a_1  h0 n0 (by omega) (show ¬ (p_2 < 0) by first | assumption | omega | decide) (show p_2 < w_variableCount_a_1 by first | assumption | omega | decide)) hZ (hw _ (List.mem_of_getElem? (i := 52) rfl)) (hw _ (List.mem_of_getElem? (i := 10) rfl)) (by decide) (by decide)) (g := (mkF m 7 #[.val (.ref a_1), .val (.int p_2)] [(.int w_variableCount_a_1), (.int p_2), (.ref bP)])) rfl (by rw [hml]; rfl) (argsL := [(.ref bP), (.int p_2), (.int w_variableCount_a_1)]) (rest := []) (lenOf own_pd0 rfl) rfl (by show 2 * 0 + _ ≤ _; exact Nat.le_of_eq rfl) (hb hby own_d7_7) (fun _ _ => ⟨rfl, e3, (by decide : 0 + 0 ≤ _), (by decide : 0 + 0 ≤ _)⟩)
  dsimp only [Pt.U, Pt.locs, Pt.cells, Pt.slots] at X4 l4 y4 z4 st4 hQ4
  have y4 : k4 = 0 := y4
  have z4 : n4 = 0 := z4
  obtain ⟨rfl, N4q, e4⟩ := hQ4
  have N4 : Fr n0 L4 := by rw [l4]; exact Fr.app N0 N4q
  refine own_go (fun _ k => st4 _ k) ?_
  show own_Go _ _ _ _ T4 (mkF m 10 #[.val (.ref a_1), .val (.int p_2)] [])
  obtain ⟨fs, hr, hrun, hended, hRW⟩ := X4.leaveW hS0 (by rw [e4]; omega) (v := none) (fun _ => rfl)
  refine ⟨_, _, X4.returnOut hx Bd.returns (hb hby own_d7_10) hr, hrun, hended, _, _, rfl, ?_, own_monoW hRW (by rw [y4]; decide) (by rw [z4]; decide)⟩
  refine ⟨?_, trivial⟩
  show own_Q7w Z a_1 p_2 w_variableCount_a_1 h0 n0 _ T4.heap _
  rw [e4]
  exact ⟨rfl, N4, rfl⟩
theorem own_d10_0 : decode prog_6_method_15_code 0 = .ok (.ldc 184, 2) := by decide +kernel
theorem own_d10_2 : decode prog_6_method_15_code 2 = .ok (.iload_n 1, 1) := by decide +kernel
theorem own_d10_3 : decode prog_6_method_15_code 3 = .ok (.aload_n 0, 1) := by decide +kernel
theorem own_d10_4 : decode prog_6_method_15_code 4 = .ok (.getfield 30, 3) := by decide +kernel
theorem own_d10_7 : decode prog_6_method_15_code 7 = .ok (.invokestatic 180, 3) := by decide +kernel
theorem own_d10_10 : decode prog_6_method_15_code 10 = .ok (.return_, 1) := by decide +kernel
theorem own_ef_own_rm10 (m : MethodId) (x0 : Addr) (x1 : Int32) : entryFrame m #[(.ref x0), (.int x1)] 2 = mkF m 0 #[.val (.ref x0), .val (.int x1)] [] := by first | (simp [entryFrame, mkF, argsToLocals, Value.category]; done) | rfl
def own_Q10 (Z : State) (a_1 : Addr) (p_2 : Int32) (w_clauseCount_a_1 : Int32) (h0 : Heap) (n0 : Nat) (v : Option Value) (h : Heap) (L : List Loc) : Prop := v = none ∧ Fr n0 L ∧ Keep h0 h []
set_option maxRecDepth 65536 in
set_option maxHeartbeats 40000000 in
theorem own_rm10 (l : Launch) (Z : State) (a0 : Array Value) (hw : ∀ d ∈ tables_1, d.before a0 Z = true) (ws : List Jvm.Cond) (a_1 : Addr) (p_2 : Int32) (w_clauseCount_a_1 : Int32) (h0 : Heap) (n0 : Nat) (Z0 : n0 ≤ h0.size) (h1 : ¬ (p_2 < 0)) (h2 : p_2 < w_clauseCount_a_1) (pr_F_a_1_clauseCount : Fld Z h0 a_1 "com/example/kalchas/kalchas/propositional/HornClauses" "clauseCount" "I" (.int w_clauseCount_a_1)) :
    MetFree l (⟨"com/example/kalchas/kalchas/propositional/HornClauses", "checkClause", "(I)V"⟩ : MethodName) (head1 (Jvm.Cond.code (⟨"com/example/kalchas/kalchas/propositional/HornClauses", "checkClause", "(I)V"⟩ : MethodName) prog_6_method_15_code 2 none :: ws) ({ frames := 1, cells := 2, slots := 28, locals := 14 } : Room)) (fun a U => a = #[(.ref a_1), (.int p_2)] ∧ Z.Warmed39 U.vm ∧ U.heap = h0) (fun _ _ _ _ _ => True) (fun _ U o U' => ∃ v L, o = .returned v ∧ own_Q10 Z a_1 p_2 w_clauseCount_a_1 h0 n0 v U'.heap L ∧ ReturnedEndW U o U' L ({ frames := 1, cells := 2, slots := 28, locals := 14 } : Room).cells ({ frames := 1, cells := 2, slots := 28, locals := 14 } : Room).slots) := by
  refine MetFree.of_bodySF (plainFor_of_name own_pn1) hisR ?_
  intro p e s m args below meth c s₁ Bd hml0 hP hK
  obtain ⟨rfl, hZ, hh⟩ := hP
  have hx := Bd.exec
  have hby := Bd.bytes
  have hml : c.maxLocals = 2 := hml0
  have hown : s.vm.findClass "com/example/kalchas/kalchas/propositional/HornClauses" = some m.cls := findClass_of_methodNamed Bd.named
  have hnm := (name_of_methodNamed Bd.named Bd.method).1
  have X0 : Stand p l e ({ frames := 1, cells := 2, slots := 28, locals := 14 } : Room) s m #[(.ref a_1), (.int p_2)] below meth c s₁ [] 0 0 := Stand.of_body Bd
  have e0 : s₁.heap = h0 := by rw [← hh, Bd.state]; rfl
  have N0 := Fr.nil n0
  have X0 : Stand p l e ({ frames := 1, cells := 2, slots := 28, locals := 14 } : Room) (s.setVm s.vm) m #[(.ref a_1), (.int p_2)] below meth c s₁ [] 0 0 := X0
  have hZ : Z.Warmed39 (s.setVm s.vm).vm := hZ
  have hown : (s.setVm s.vm).vm.findClass "com/example/kalchas/kalchas/propositional/HornClauses" = some m.cls := hown
  have hS0 : s.Since s.vm 0 := (State.WarmedH.refl s).since 0
  have z0 : n0 ≤ h0.size := Z0
  have z1 := own_lt pr_F_a_1_clauseCount.lt
  have K0 : Keep h0 h0 [] := Keep.refl h0 _
  show own_Go p.tables e below (fun t o => t.status = .running ∧ Ended t below o ∧ ∃ v L, o = .returned v ∧ own_Q10 Z a_1 p_2 w_clauseCount_a_1 h0 n0 v t.heap L ∧ ReturnedEndW s o t L ({ frames := 1, cells := 2, slots := 28, locals := 14 } : Room).cells ({ frames := 1, cells := 2, slots := 28, locals := 14 } : Room).slots) s₁ (entryFrame m #[(.ref a_1), (.int p_2)] 2)
  rw [own_ef_own_rm10 m a_1 p_2]
  show own_Go _ _ _ _ s₁ (mkF m 0 #[.val (.ref a_1), .val (.int p_2)] [])
  obtain ⟨b2, T2, h2, k2, X2, e2, E2, hS2, g2, hZ, hown, Li2, Wn2, st2⟩ := own_ldcSL X0 hx hZ hown (hw _ (List.mem_of_getElem? (i := 68) rfl)) (own_wS hw) e0 hS0 (by omega) (g := (mkF m 0 #[.val (.ref a_1), .val (.int p_2)] [])) rfl (hb hby own_d10_0) (n := 24) (by decide +kernel) (by decide) (by decide) (by decide)
  have z3 := E2.1
  have K2 : Keep h0 h2 [] := K0.ext E2
  refine own_go (fun _ k => st2 _ k) ?_
  show own_Go _ _ _ _ T2 (mkF m 2 #[.val (.ref a_1), .val (.int p_2)] [(.ref b2)])
  refine own_go (fun _ k => XS.iloadN X2.here hx rfl (hb hby own_d10_2) rfl k) ?_
  show own_Go _ _ _ _ T2 (mkF m 3 #[.val (.ref a_1), .val (.int p_2)] [(.int p_2), (.ref b2)])
  refine own_go (fun _ k => XS.aloadN X2.here hx rfl (hb hby own_d10_3) rfl rfl k) ?_
  show own_Go _ _ _ _ T2 (mkF m 4 #[.val (.ref a_1), .val (.int p_2)] [(.ref a_1), (.int p_2), (.ref b2)])
  have f4 : Fld Z h2 a_1 "com/example/kalchas/kalchas/propositional/HornClauses" "clauseCount" "I" (.int w_clauseCount_a_1) := (pr_F_a_1_clauseCount.ext E2)
  obtain ⟨T5, X5, e5, st5⟩ := getF X2 hx hZ hown (host := "") (Or.inl (hw _ (List.mem_of_getElem? (i := 53) rfl))) Via.refl e2 f4 (g := (mkF m 4 #[.val (.ref a_1), .val (.int p_2)] [(.ref a_1), (.int p_2), (.ref b2)])) rfl rfl (hb hby own_d10_4)
  refine own_go (fun _ k => st5 _ k) ?_
  show own_Go _ _ _ _ T5 (mkF m 7 #[.val (.ref a_1), .val (.int p_2)] [(.int w_clauseCount_a_1), (.int p_2), (.ref b2)])
  obtain ⟨_, _, ⟨T6, L6, k6, n6⟩, -, X6, ⟨Lc6, hQ6, l6, y6, z6⟩, st6⟩ := Jvm.LawKit.callS X5 hx (y := (⟨"com/example/kalchas/kalchas/propositional/HornClauses", "checkNumber", "(Ljava/lang/String;II)V"⟩ : MethodName)) hown (mvT hZ (hw _ (List.mem_of_getElem? (i := 50) rfl))) (mvT hZ (hw _ (List.mem_of_getElem? (i := 51) rfl))) (mvT hZ (hw _ (List.mem_of_getElem? (i := 10) rfl))) (mvT hZ (hw _ (List.mem_of_getElem? (i := 52) rfl))) (by decide) (backOf (W := 0) (own_rm8 l Z a0 hw [] b2 p_2 w_clauseCount_a_1  h2 n0 (by omega) (show ¬ (p_2 < 0) by first | assumption | omega | decide) (show p_2 < w_clauseCount_a_1 by first | assumption | omega | decide)) hZ (hw _ (List.mem_of_getElem? (i := 52) rfl)) (hw _ (List.mem_of_getElem? (i := 10) rfl)) (by decide) (by decide)) (g := (mkF m 7 #[.val (.ref a_1), .val (.int p_2)] [(.int w_clauseCount_a_1), (.int p_2), (.ref b2)])) rfl (by rw [hml]; rfl) (argsL := [(.ref b2), (.int p_2), (.int w_clauseCount_a_1)]) (rest := []) (lenOf own_pd0 rfl) rfl (by show 2 * 0 + _ ≤ _; exact Nat.le_of_eq rfl) (hb hby own_d10_7) (fun _ _ => ⟨rfl, e5, (by decide : 2 + 0 ≤ _), (by decide : 28 + 0 ≤ _)⟩)
  dsimp only [Pt.U, Pt.locs, Pt.cells, Pt.slots] at X6 l6 y6 z6 st6 hQ6
  have y6 : k6 = 2 := y6
  have z6 : n6 = 28 := z6
  obtain ⟨rfl, N6q, e6⟩ := hQ6
  have N6 : Fr n0 L6 := by rw [l6]; exact Fr.app N0 N6q
  refine own_go (fun _ k => st6 _ k) ?_
  show own_Go _ _ _ _ T6 (mkF m 10 #[.val (.ref a_1), .val (.int p_2)] [])
  obtain ⟨fs, hr, hrun, hended, hRW⟩ := X6.leaveW hS2 (by rw [e6]; omega) (v := none) (fun _ => rfl)
  refine ⟨_, _, X6.returnOut hx Bd.returns (hb hby own_d10_10) hr, hrun, hended, _, _, rfl, ?_, own_monoW hRW (by rw [y6]; decide) (by rw [z6]; decide)⟩
  show own_Q10 Z a_1 p_2 w_clauseCount_a_1 h0 n0 _ T6.heap _
  rw [e6]
  exact ⟨rfl, N6, K2⟩
theorem own_d6_0 : decode prog_6_method_4_code 0 = .ok (.aload_n 0, 1) := by decide +kernel
theorem own_d6_1 : decode prog_6_method_4_code 1 = .ok (.iload_n 1, 1) := by decide +kernel
theorem own_d6_2 : decode prog_6_method_4_code 2 = .ok (.invokevirtual 26, 3) := by decide +kernel
theorem own_d6_5 : decode prog_6_method_4_code 5 = .ok (.aload_n 2, 1) := by decide +kernel
theorem own_d6_6 : decode prog_6_method_4_code 6 = .ok (.astore_n 3, 1) := by decide +kernel
theorem own_d6_7 : decode prog_6_method_4_code 7 = .ok (.aload_n 3, 1) := by decide +kernel
theorem own_d6_8 : decode prog_6_method_4_code 8 = .ok (.arraylength, 1) := by decide +kernel
theorem own_d6_9 : decode prog_6_method_4_code 9 = .ok (.istore 4, 2) := by decide +kernel
theorem own_d6_11 : decode prog_6_method_4_code 11 = .ok (.iconst 0, 1) := by decide +kernel
theorem own_d6_12 : decode prog_6_method_4_code 12 = .ok (.istore 5, 2) := by decide +kernel
theorem own_d6_14 : decode prog_6_method_4_code 14 = .ok (.iload 5, 2) := by decide +kernel
theorem own_d6_16 : decode prog_6_method_4_code 16 = .ok (.iload 4, 2) := by decide +kernel
theorem own_d6_18 : decode prog_6_method_4_code 18 = .ok (.if_icmp .ge 21, 3) := by decide +kernel
theorem own_d6_21 : decode prog_6_method_4_code 21 = .ok (.aload_n 3, 1) := by decide +kernel
theorem own_d6_22 : decode prog_6_method_4_code 22 = .ok (.iload 5, 2) := by decide +kernel
theorem own_d6_24 : decode prog_6_method_4_code 24 = .ok (.iaload, 1) := by decide +kernel
theorem own_d6_25 : decode prog_6_method_4_code 25 = .ok (.istore 6, 2) := by decide +kernel
theorem own_d6_27 : decode prog_6_method_4_code 27 = .ok (.aload_n 0, 1) := by decide +kernel
theorem own_d6_28 : decode prog_6_method_4_code 28 = .ok (.iload 6, 2) := by decide +kernel
theorem own_d6_30 : decode prog_6_method_4_code 30 = .ok (.invokevirtual 26, 3) := by decide +kernel
theorem own_d6_33 : decode prog_6_method_4_code 33 = .ok (.iinc 5 1, 3) := by decide +kernel
theorem own_d6_36 : decode prog_6_method_4_code 36 = .ok (.goto (-22), 3) := by decide +kernel
theorem own_d6_39 : decode prog_6_method_4_code 39 = .ok (.aload_n 0, 1) := by decide +kernel
theorem own_d6_40 : decode prog_6_method_4_code 40 = .ok (.getfield 30, 3) := by decide +kernel
theorem own_d6_43 : decode prog_6_method_4_code 43 = .ok (.aload_n 0, 1) := by decide +kernel
theorem own_d6_44 : decode prog_6_method_4_code 44 = .ok (.getfield 9, 3) := by decide +kernel
theorem own_d6_47 : decode prog_6_method_4_code 47 = .ok (.arraylength, 1) := by decide +kernel
theorem own_d6_48 : decode prog_6_method_4_code 48 = .ok (.if_icmp .ne 37, 3) := by decide +kernel
theorem own_d6_85 : decode prog_6_method_4_code 85 = .ok (.aload_n 0, 1) := by decide +kernel
theorem own_d6_86 : decode prog_6_method_4_code 86 = .ok (.getfield 13, 3) := by decide +kernel
theorem own_d6_89 : decode prog_6_method_4_code 89 = .ok (.aload_n 0, 1) := by decide +kernel
theorem own_d6_90 : decode prog_6_method_4_code 90 = .ok (.getfield 30, 3) := by decide +kernel
theorem own_d6_93 : decode prog_6_method_4_code 93 = .ok (.iaload, 1) := by decide +kernel
theorem own_d6_94 : decode prog_6_method_4_code 94 = .ok (.istore_n 3, 1) := by decide +kernel
theorem own_d6_95 : decode prog_6_method_4_code 95 = .ok (.iload_n 3, 1) := by decide +kernel
theorem own_d6_96 : decode prog_6_method_4_code 96 = .ok (.aload_n 2, 1) := by decide +kernel
theorem own_d6_97 : decode prog_6_method_4_code 97 = .ok (.arraylength, 1) := by decide +kernel
theorem own_d6_98 : decode prog_6_method_4_code 98 = .ok (.iadd, 1) := by decide +kernel
theorem own_d6_99 : decode prog_6_method_4_code 99 = .ok (.aload_n 0, 1) := by decide +kernel
theorem own_d6_100 : decode prog_6_method_4_code 100 = .ok (.getfield 16, 3) := by decide +kernel
theorem own_d6_103 : decode prog_6_method_4_code 103 = .ok (.arraylength, 1) := by decide +kernel
theorem own_d6_104 : decode prog_6_method_4_code 104 = .ok (.if_icmp .le 28, 3) := by decide +kernel
theorem own_d6_132 : decode prog_6_method_4_code 132 = .ok (.aload_n 2, 1) := by decide +kernel
theorem own_d6_133 : decode prog_6_method_4_code 133 = .ok (.iconst 0, 1) := by decide +kernel
theorem own_d6_134 : decode prog_6_method_4_code 134 = .ok (.aload_n 0, 1) := by decide +kernel
theorem own_d6_135 : decode prog_6_method_4_code 135 = .ok (.getfield 16, 3) := by decide +kernel
theorem own_d6_138 : decode prog_6_method_4_code 138 = .ok (.iload_n 3, 1) := by decide +kernel
theorem own_d6_139 : decode prog_6_method_4_code 139 = .ok (.aload_n 2, 1) := by decide +kernel
theorem own_d6_140 : decode prog_6_method_4_code 140 = .ok (.arraylength, 1) := by decide +kernel
theorem own_d6_141 : decode prog_6_method_4_code 141 = .ok (.invokestatic 45, 3) := by decide +kernel
theorem own_d6_144 : decode prog_6_method_4_code 144 = .ok (.aload_n 0, 1) := by decide +kernel
theorem own_d6_145 : decode prog_6_method_4_code 145 = .ok (.getfield 9, 3) := by decide +kernel
theorem own_d6_148 : decode prog_6_method_4_code 148 = .ok (.aload_n 0, 1) := by decide +kernel
theorem own_d6_149 : decode prog_6_method_4_code 149 = .ok (.getfield 30, 3) := by decide +kernel
theorem own_d6_152 : decode prog_6_method_4_code 152 = .ok (.iload_n 1, 1) := by decide +kernel
theorem own_d6_153 : decode prog_6_method_4_code 153 = .ok (.iastore, 1) := by decide +kernel
theorem own_d6_154 : decode prog_6_method_4_code 154 = .ok (.aload_n 0, 1) := by decide +kernel
theorem own_d6_155 : decode prog_6_method_4_code 155 = .ok (.getfield 13, 3) := by decide +kernel
theorem own_d6_158 : decode prog_6_method_4_code 158 = .ok (.aload_n 0, 1) := by decide +kernel
theorem own_d6_159 : decode prog_6_method_4_code 159 = .ok (.getfield 30, 3) := by decide +kernel
theorem own_d6_162 : decode prog_6_method_4_code 162 = .ok (.iconst 1, 1) := by decide +kernel
theorem own_d6_163 : decode prog_6_method_4_code 163 = .ok (.iadd, 1) := by decide +kernel
theorem own_d6_164 : decode prog_6_method_4_code 164 = .ok (.iload_n 3, 1) := by decide +kernel
theorem own_d6_165 : decode prog_6_method_4_code 165 = .ok (.aload_n 2, 1) := by decide +kernel
theorem own_d6_166 : decode prog_6_method_4_code 166 = .ok (.arraylength, 1) := by decide +kernel
theorem own_d6_167 : decode prog_6_method_4_code 167 = .ok (.iadd, 1) := by decide +kernel
theorem own_d6_168 : decode prog_6_method_4_code 168 = .ok (.iastore, 1) := by decide +kernel
theorem own_d6_169 : decode prog_6_method_4_code 169 = .ok (.aload_n 0, 1) := by decide +kernel
theorem own_d6_170 : decode prog_6_method_4_code 170 = .ok (.dup, 1) := by decide +kernel
theorem own_d6_171 : decode prog_6_method_4_code 171 = .ok (.getfield 30, 3) := by decide +kernel
theorem own_d6_174 : decode prog_6_method_4_code 174 = .ok (.iconst 1, 1) := by decide +kernel
theorem own_d6_175 : decode prog_6_method_4_code 175 = .ok (.iadd, 1) := by decide +kernel
theorem own_d6_176 : decode prog_6_method_4_code 176 = .ok (.putfield 30, 3) := by decide +kernel
theorem own_d6_179 : decode prog_6_method_4_code 179 = .ok (.aload_n 0, 1) := by decide +kernel
theorem own_d6_180 : decode prog_6_method_4_code 180 = .ok (.aconst_null, 1) := by decide +kernel
theorem own_d6_181 : decode prog_6_method_4_code 181 = .ok (.putfield 19, 3) := by decide +kernel
theorem own_d6_184 : decode prog_6_method_4_code 184 = .ok (.return_, 1) := by decide +kernel
theorem own_ef_own_rm6_0 (m : MethodId) (x0 : Addr) (x1 : Int32) (x2 : Addr) : entryFrame m #[(.ref x0), (.int x1), (.ref x2)] 7 = mkF m 0 #[.val (.ref x0), .val (.int x1), .val (.ref x2), .unset, .unset, .unset, .unset] [] := by first | (simp [entryFrame, mkF, argsToLocals, Value.category]; done) | rfl
set_option maxRecDepth 65536 in
set_option maxHeartbeats 4000000 in
theorem own_t6_0_0 (bs : Int32) (hbs : 0 ≤ bs.toInt ∧ bs.toInt ≤ 6) : ¬ ((64 : Int32) < (bs + (0 : Int32))) := by
  have el0 : (0 : Int32).toInt = 0 := by decide
  have el1 : (64 : Int32).toInt = 64 := by decide
  have rv_bs := rng32 bs
  have fa3 := c_iadd bs (0 : Int32)
  have fa4 := rng32 (bs + (0 : Int32))
  have own0 : (0 : Int32).toInt = 0 := by decide
  simp only [← Int32.toInt_inj, Int32.lt_iff_toInt_lt, implies_true, and_true, true_and, own0, el0, el1] at *
  omega
set_option maxRecDepth 65536 in
set_option maxHeartbeats 4000000 in
theorem own_t6_0_1 (bs : Int32) (hbs : 0 ≤ bs.toInt ∧ bs.toInt ≤ 6) (hc36 : ¬ ((64 : Int32) < (bs + (0 : Int32)))) : ¬ bs < 0 := by
  have el0 : (0 : Int32).toInt = 0 := by decide
  have el1 : (64 : Int32).toInt = 64 := by decide
  have rv_bs := rng32 bs
  have fa3 := c_iadd bs (0 : Int32)
  have fa4 := rng32 (bs + (0 : Int32))
  have own0 : (0 : Int32).toInt = 0 := by decide
  simp only [← Int32.toInt_inj, Int32.lt_iff_toInt_lt, implies_true, and_true, true_and, own0, el0, el1] at *
  omega
set_option maxRecDepth 65536 in
set_option maxHeartbeats 4000000 in
theorem own_t6_0_2 (bs : Int32) (hbs : 0 ≤ bs.toInt ∧ bs.toInt ≤ 6) (hc36 : ¬ ((64 : Int32) < (bs + (0 : Int32)))) : 0 ≤ bs.toInt ∧ bs.toInt ≤ 64 := by
  have el0 : (0 : Int32).toInt = 0 := by decide
  have el1 : (64 : Int32).toInt = 64 := by decide
  have rv_bs := rng32 bs
  have fa3 := c_iadd bs (0 : Int32)
  have fa4 := rng32 (bs + (0 : Int32))
  have own0 : (0 : Int32).toInt = 0 := by decide
  simp only [← Int32.toInt_inj, Int32.lt_iff_toInt_lt, implies_true, and_true, true_and, own0, el0, el1] at *
  omega
set_option maxRecDepth 65536 in
set_option maxHeartbeats 4000000 in
theorem own_t6_0_3 (bs : Int32) (hbs : 0 ≤ bs.toInt ∧ bs.toInt ≤ 6) : ¬ ((64 : Int32) < (bs + (1 : Int32))) := by
  have el0 : (1 : Int32).toInt = 1 := by decide
  have el1 : (64 : Int32).toInt = 64 := by decide
  have rv_bs := rng32 bs
  have fa3 := c_iadd bs (1 : Int32)
  have fa4 := rng32 (bs + (1 : Int32))
  have own0 : (0 : Int32).toInt = 0 := by decide
  simp only [← Int32.toInt_inj, Int32.lt_iff_toInt_lt, implies_true, and_true, true_and, own0, el0, el1] at *
  omega
set_option maxRecDepth 65536 in
set_option maxHeartbeats 4000000 in
theorem own_t6_0_4 (bs : Int32) (hbs : 0 ≤ bs.toInt ∧ bs.toInt ≤ 6) (hc107 : ¬ ((64 : Int32) < (bs + (1 : Int32)))) : ¬ bs < 0 := by
  have el0 : (1 : Int32).toInt = 1 := by decide
  have el1 : (64 : Int32).toInt = 64 := by decide
  have rv_bs := rng32 bs
  have fa3 := c_iadd bs (1 : Int32)
  have fa4 := rng32 (bs + (1 : Int32))
  have own0 : (0 : Int32).toInt = 0 := by decide
  simp only [← Int32.toInt_inj, Int32.lt_iff_toInt_lt, implies_true, and_true, true_and, own0, el0, el1] at *
  omega
set_option maxRecDepth 65536 in
set_option maxHeartbeats 4000000 in
theorem own_t6_0_5 (bs : Int32) (hbs : 0 ≤ bs.toInt ∧ bs.toInt ≤ 6) (hc107 : ¬ ((64 : Int32) < (bs + (1 : Int32)))) : 0 ≤ bs.toInt ∧ bs.toInt ≤ 63 := by
  have el0 : (1 : Int32).toInt = 1 := by decide
  have el1 : (64 : Int32).toInt = 64 := by decide
  have rv_bs := rng32 bs
  have fa3 := c_iadd bs (1 : Int32)
  have fa4 := rng32 (bs + (1 : Int32))
  have own0 : (0 : Int32).toInt = 0 := by decide
  simp only [← Int32.toInt_inj, Int32.lt_iff_toInt_lt, implies_true, and_true, true_and, own0, el0, el1] at *
  omega
set_option maxRecDepth 65536 in
set_option maxHeartbeats 4000000 in
theorem own_t6_0_6 (bs : Int32) (hbs : 0 ≤ bs.toInt ∧ bs.toInt ≤ 6) : ¬ ((64 : Int32) < (bs + (2 : Int32))) := by
  have el0 : (2 : Int32).toInt = 2 := by decide
  have el1 : (64 : Int32).toInt = 64 := by decide
  have rv_bs := rng32 bs
  have fa3 := c_iadd bs (2 : Int32)
  have fa4 := rng32 (bs + (2 : Int32))
  have own0 : (0 : Int32).toInt = 0 := by decide
  simp only [← Int32.toInt_inj, Int32.lt_iff_toInt_lt, implies_true, and_true, true_and, own0, el0, el1] at *
  omega
set_option maxRecDepth 65536 in
set_option maxHeartbeats 4000000 in
theorem own_t6_0_7 (bs : Int32) (hbs : 0 ≤ bs.toInt ∧ bs.toInt ≤ 6) (hc183 : ¬ ((64 : Int32) < (bs + (2 : Int32)))) : ¬ bs < 0 := by
  have el0 : (2 : Int32).toInt = 2 := by decide
  have el1 : (64 : Int32).toInt = 64 := by decide
  have rv_bs := rng32 bs
  have fa3 := c_iadd bs (2 : Int32)
  have fa4 := rng32 (bs + (2 : Int32))
  have own0 : (0 : Int32).toInt = 0 := by decide
  simp only [← Int32.toInt_inj, Int32.lt_iff_toInt_lt, implies_true, and_true, true_and, own0, el0, el1] at *
  omega
set_option maxRecDepth 65536 in
set_option maxHeartbeats 4000000 in
theorem own_t6_0_8 (bs : Int32) (hbs : 0 ≤ bs.toInt ∧ bs.toInt ≤ 6) (hc183 : ¬ ((64 : Int32) < (bs + (2 : Int32)))) : 0 ≤ bs.toInt ∧ bs.toInt ≤ 62 := by
  have el0 : (2 : Int32).toInt = 2 := by decide
  have el1 : (64 : Int32).toInt = 64 := by decide
  have rv_bs := rng32 bs
  have fa3 := c_iadd bs (2 : Int32)
  have fa4 := rng32 (bs + (2 : Int32))
  have own0 : (0 : Int32).toInt = 0 := by decide
  simp only [← Int32.toInt_inj, Int32.lt_iff_toInt_lt, implies_true, and_true, true_and, own0, el0, el1] at *
  omega
set_option maxRecDepth 65536 in
set_option maxHeartbeats 4000000 in
theorem own_t6_0_9 (bs : Int32) (hbs : 0 ≤ bs.toInt ∧ bs.toInt ≤ 6) : ¬ ((64 : Int32) < (bs + (3 : Int32))) := by
  have el0 : (3 : Int32).toInt = 3 := by decide
  have el1 : (64 : Int32).toInt = 64 := by decide
  have rv_bs := rng32 bs
  have fa3 := c_iadd bs (3 : Int32)
  have fa4 := rng32 (bs + (3 : Int32))
  have own0 : (0 : Int32).toInt = 0 := by decide
  simp only [← Int32.toInt_inj, Int32.lt_iff_toInt_lt, implies_true, and_true, true_and, own0, el0, el1] at *
  omega
set_option maxRecDepth 65536 in
set_option maxHeartbeats 4000000 in
theorem own_t6_0_10 (bs : Int32) (hbs : 0 ≤ bs.toInt ∧ bs.toInt ≤ 6) (hc264 : ¬ ((64 : Int32) < (bs + (3 : Int32)))) : ¬ bs < 0 := by
  have el0 : (3 : Int32).toInt = 3 := by decide
  have el1 : (64 : Int32).toInt = 64 := by decide
  have rv_bs := rng32 bs
  have fa3 := c_iadd bs (3 : Int32)
  have fa4 := rng32 (bs + (3 : Int32))
  have own0 : (0 : Int32).toInt = 0 := by decide
  simp only [← Int32.toInt_inj, Int32.lt_iff_toInt_lt, implies_true, and_true, true_and, own0, el0, el1] at *
  omega
set_option maxRecDepth 65536 in
set_option maxHeartbeats 4000000 in
theorem own_t6_0_11 (bs : Int32) (hbs : 0 ≤ bs.toInt ∧ bs.toInt ≤ 6) (hc264 : ¬ ((64 : Int32) < (bs + (3 : Int32)))) : 0 ≤ bs.toInt ∧ bs.toInt ≤ 61 := by
  have el0 : (3 : Int32).toInt = 3 := by decide
  have el1 : (64 : Int32).toInt = 64 := by decide
  have rv_bs := rng32 bs
  have fa3 := c_iadd bs (3 : Int32)
  have fa4 := rng32 (bs + (3 : Int32))
  have own0 : (0 : Int32).toInt = 0 := by decide
  simp only [← Int32.toInt_inj, Int32.lt_iff_toInt_lt, implies_true, and_true, true_and, own0, el0, el1] at *
  omega
def own_Q6_0 (Z : State) (a_1 : Addr) (p_2 : Int32) (a_3 : Addr) (wh : Addr) (wst : Addr) (wb : Addr) (gh : Nat → Value) (gs : Nat → Value) (gb : Nat → Value) (bs : Int32) (w_occ : Value) (z : Int32) (y0 : Int32) (y1 : Int32) (y2 : Int32) (h0 : Heap) (n0 : Nat) (v : Option Value) (h : Heap) (L : List Loc) : Prop := v = none ∧ Fr n0 L ∧ Keep h0 h [a_1, wh, wst, wb] ∧ Exa Z h a_1 "com/example/kalchas/kalchas/propositional/HornClauses" ∧ Fld Z h a_1 "com/example/kalchas/kalchas/propositional/HornClauses" "variableCount" "I" (.int (3 : Int32)) ∧ Fld Z h a_1 "com/example/kalchas/kalchas/propositional/HornClauses" "clauseCount" "I" (.int (1 : Int32)) ∧ Fld Z h a_1 "com/example/kalchas/kalchas/propositional/HornClauses" "heads" "[I" (.ref wh) ∧ Fld Z h a_1 "com/example/kalchas/kalchas/propositional/HornClauses" "bodyStarts" "[I" (.ref wst) ∧ Fld Z h a_1 "com/example/kalchas/kalchas/propositional/HornClauses" "bodies" "[I" (.ref wb) ∧ Fld Z h a_1 "com/example/kalchas/kalchas/propositional/HornClauses" "occurrences" "[I" .null ∧ own_AV Z h wh .int (64 : Int32) (own_upd gh 0 (.int p_2)) ∧ own_AV Z h wst .int (65 : Int32) (own_upd gs 1 (.int (bs + z))) ∧ own_AV Z h wb .int (64 : Int32) (own_cpf (own_n3 y0 y1 y2) ((0 : Int32)).toNatClampNeg gb (bs).toNatClampNeg (z).toNatClampNeg)
set_option maxRecDepth 65536 in
set_option maxHeartbeats 40000000 in
theorem own_rm6_0 (l : Launch) (Z : State) (a0 : Array Value) (hw : ∀ d ∈ tables_1, d.before a0 Z = true) (ws : List Jvm.Cond) (a_1 : Addr) (p_2 : Int32) (a_3 : Addr) (wh : Addr) (wst : Addr) (wb : Addr) (gh : Nat → Value) (gs : Nat → Value) (gb : Nat → Value) (bs : Int32) (w_occ : Value) (z : Int32) (y0 : Int32) (y1 : Int32) (y2 : Int32) (h0 : Heap) (n0 : Nat) (Z0 : n0 ≤ h0.size) (pr_E_a_1 : Exa Z h0 a_1 "com/example/kalchas/kalchas/propositional/HornClauses") (pr_F_a_1_variableCount : Fld Z h0 a_1 "com/example/kalchas/kalchas/propositional/HornClauses" "variableCount" "I" (.int (3 : Int32))) (pr_F_a_1_clauseCount : Fld Z h0 a_1 "com/example/kalchas/kalchas/propositional/HornClauses" "clauseCount" "I" (.int (0 : Int32))) (pr_F_a_1_heads : Fld Z h0 a_1 "com/example/kalchas/kalchas/propositional/HornClauses" "heads" "[I" (.ref wh)) (pr_F_a_1_bodyStarts : Fld Z h0 a_1 "com/example/kalchas/kalchas/propositional/HornClauses" "bodyStarts" "[I" (.ref wst)) (pr_F_a_1_bodies : Fld Z h0 a_1 "com/example/kalchas/kalchas/propositional/HornClauses" "bodies" "[I" (.ref wb)) (pr_F_a_1_occurrences : Fld Z h0 a_1 "com/example/kalchas/kalchas/propositional/HornClauses" "occurrences" "[I" w_occ) (pr_A_wh : own_AV Z h0 wh .int (64 : Int32) gh) (pr_A_wst : own_AV Z h0 wst .int (65 : Int32) gs) (pr_A_wb : own_AV Z h0 wb .int (64 : Int32) gb) (pr_A_a_3 : own_AV Z h0 a_3 .int z (own_n3 y0 y1 y2)) (hord : own_lts [a_3, a_1, wh, wst, wb]) (hgs : gs 0 = .int bs) (hbs : 0 ≤ bs.toInt ∧ bs.toInt ≤ 6) (hfb : ∀ i, fits .int (gb i) = true) (hp1 : ¬ (p_2 < 0)) (hp2 : p_2 < (3 : Int32)) (hl : z = (0 : Int32) ∨ z = (1 : Int32) ∨ z = (2 : Int32) ∨ z = (3 : Int32)) (hy0a : ¬ (y0 < 0)) (hy0b : y0 < (3 : Int32)) (hy1a : ¬ (y1 < 0)) (hy1b : y1 < (3 : Int32)) (hy2a : ¬ (y2 < 0)) (hy2b : y2 < (3 : Int32)) (gw_a_1 : n0 ≤ a_1) (gw_wh : n0 ≤ wh) (gw_wst : n0 ≤ wst) (gw_wb : n0 ≤ wb) :
    MetFree l (⟨"com/example/kalchas/kalchas/propositional/HornClauses", "add", "(I[I)V"⟩ : MethodName) (head1 (Jvm.Cond.code (⟨"com/example/kalchas/kalchas/propositional/HornClauses", "add", "(I[I)V"⟩ : MethodName) prog_6_method_4_code 7 none :: ws) ({ frames := 2, cells := 2, slots := 36, locals := 40 } : Room)) (fun a U => a = #[(.ref a_1), (.int p_2), (.ref a_3)] ∧ Z.Warmed39 U.vm ∧ U.heap = h0 ∧ (fun _ : Vm => True) U.vm) (fun _ _ _ _ _ => True) (fun _ U o U' => ∃ v L, o = .returned v ∧ (own_Q6_0 Z a_1 p_2 a_3 wh wst wb gh gs gb bs w_occ z y0 y1 y2 h0 n0 v U'.heap L ∧ (own_LP Z "com/example/kalchas/kalchas/propositional/HornClauses" 178) U'.vm) ∧ ReturnedEndW U o U' L ({ frames := 2, cells := 2, slots := 36, locals := 40 } : Room).cells ({ frames := 2, cells := 2, slots := 36, locals := 40 } : Room).slots) := by
  refine MetFree.of_bodySF (plainFor_of_name own_pn1) hisR ?_
  intro p e s m args below meth c s₁ Bd hml0 hP hK
  obtain ⟨rfl, hZ, hh, -⟩ := hP
  have hx := Bd.exec
  have hby := Bd.bytes
  have hml : c.maxLocals = 7 := hml0
  have hown : s.vm.findClass "com/example/kalchas/kalchas/propositional/HornClauses" = some m.cls := findClass_of_methodNamed Bd.named
  have hnm := (name_of_methodNamed Bd.named Bd.method).1
  have X0 : Stand p l e ({ frames := 2, cells := 2, slots := 36, locals := 40 } : Room) s m #[(.ref a_1), (.int p_2), (.ref a_3)] below meth c s₁ [] 0 0 := Stand.of_body Bd
  have e0 : s₁.heap = h0 := by rw [← hh, Bd.state]; rfl
  have N0 := Fr.nil n0
  have X0 : Stand p l e ({ frames := 2, cells := 2, slots := 36, locals := 40 } : Room) (s.setVm s.vm) m #[(.ref a_1), (.int p_2), (.ref a_3)] below meth c s₁ [] 0 0 := X0
  have hZ : Z.Warmed39 (s.setVm s.vm).vm := hZ
  have hown : (s.setVm s.vm).vm.findClass "com/example/kalchas/kalchas/propositional/HornClauses" = some m.cls := hown
  have hS0 : s.Since s.vm 0 := (State.WarmedH.refl s).since 0
  have w_9 := hw _ (List.mem_of_getElem? (i := 9) rfl)
  have w_10 := hw _ (List.mem_of_getElem? (i := 10) rfl)
  have w_17 := hw _ (List.mem_of_getElem? (i := 17) rfl)
  have w_18 := hw _ (List.mem_of_getElem? (i := 18) rfl)
  have w_19 := hw _ (List.mem_of_getElem? (i := 19) rfl)
  have w_20 := hw _ (List.mem_of_getElem? (i := 20) rfl)
  have w_21 := hw _ (List.mem_of_getElem? (i := 21) rfl)
  have w_22 := hw _ (List.mem_of_getElem? (i := 22) rfl)
  have w_28 := hw _ (List.mem_of_getElem? (i := 28) rfl)
  have w_29 := hw _ (List.mem_of_getElem? (i := 29) rfl)
  have w_31 := hw _ (List.mem_of_getElem? (i := 31) rfl)
  have w_37 := hw _ (List.mem_of_getElem? (i := 37) rfl)
  have w_38 := hw _ (List.mem_of_getElem? (i := 38) rfl)
  have w_39 := hw _ (List.mem_of_getElem? (i := 39) rfl)
  have w_40 := hw _ (List.mem_of_getElem? (i := 40) rfl)
  have w_41 := hw _ (List.mem_of_getElem? (i := 41) rfl)
  have w_53 := hw _ (List.mem_of_getElem? (i := 53) rfl)
  have w_54 := hw _ (List.mem_of_getElem? (i := 54) rfl)
  have w_55 := hw _ (List.mem_of_getElem? (i := 55) rfl)
  have w_56 := hw _ (List.mem_of_getElem? (i := 56) rfl)
  have w_57 := hw _ (List.mem_of_getElem? (i := 57) rfl)
  have w_58 := hw _ (List.mem_of_getElem? (i := 58) rfl)
  have z0 : n0 ≤ h0.size := Z0
  have z1 := own_lt pr_E_a_1.lt
  have z2 := own_lt pr_F_a_1_variableCount.lt
  have z3 := own_lt pr_F_a_1_clauseCount.lt
  have z4 := own_lt pr_F_a_1_heads.lt
  have z5 := own_lt pr_F_a_1_bodyStarts.lt
  have z6 := own_lt pr_F_a_1_bodies.lt
  have z7 := own_lt pr_F_a_1_occurrences.lt
  have z8 := own_lt pr_A_wh.lt
  have z9 := own_lt pr_A_wst.lt
  have z10 := own_lt pr_A_wb.lt
  have z11 := own_lt pr_A_a_3.lt
  have ho12 := hord
  simp only [own_lts, and_true] at ho12
  have K0 : Keep h0 h0 [a_1, wh, wst, wb] := Keep.refl h0 _
  show own_Go p.tables e below (fun t o => t.status = .running ∧ Ended t below o ∧ ∃ v L, o = .returned v ∧ (own_Q6_0 Z a_1 p_2 a_3 wh wst wb gh gs gb bs w_occ z y0 y1 y2 h0 n0 v t.heap L ∧ (own_LP Z "com/example/kalchas/kalchas/propositional/HornClauses" 178) t.vm) ∧ ReturnedEndW s o t L ({ frames := 2, cells := 2, slots := 36, locals := 40 } : Room).cells ({ frames := 2, cells := 2, slots := 36, locals := 40 } : Room).slots) s₁ (entryFrame m #[(.ref a_1), (.int p_2), (.ref a_3)] 7)
  rw [own_ef_own_rm6_0 m a_1 p_2 a_3]
  show own_Go _ _ _ _ s₁ (mkF m 0 #[.val (.ref a_1), .val (.int p_2), .val (.ref a_3), .unset, .unset, .unset, .unset] [])
  have hs13 : z = (0 : Int32) ∨ z = (1 : Int32) ∨ z = (2 : Int32) ∨ z = (3 : Int32) := own_t2_0 z hl
  rcases hs13 with hs13 | hs13 | hs13 | hs13
  · subst hs13
    show own_Go _ _ _ _ s₁ (mkF m 0 #[.val (.ref a_1), .val (.int p_2), .val (.ref a_3), .unset, .unset, .unset, .unset] [])
    refine own_go (fun _ k => XS.aloadN X0.here hx rfl (hb hby own_d6_0) rfl rfl k) ?_
    show own_Go _ _ _ _ s₁ (mkF m 1 #[.val (.ref a_1), .val (.int p_2), .val (.ref a_3), .unset, .unset, .unset, .unset] [(.ref a_1)])
    refine own_go (fun _ k => XS.iloadN X0.here hx rfl (hb hby own_d6_1) rfl k) ?_
    show own_Go _ _ _ _ s₁ (mkF m 2 #[.val (.ref a_1), .val (.int p_2), .val (.ref a_3), .unset, .unset, .unset, .unset] [(.int p_2), (.ref a_1)])
    obtain ⟨cq14, kq14, q14a, q14b, q14c⟩ := isOf hZ e0 pr_E_a_1
    obtain ⟨_, _, ⟨T14, L14, k14, n14⟩, -, X14, hS14, gr14, ⟨Lc14, ⟨hQ14, hV14⟩, l14, y14, z14⟩, st14⟩ := X0.virtualBackS hx (y := (⟨"com/example/kalchas/kalchas/propositional/HornClauses", "checkVariable", "(I)V"⟩ : MethodName)) (z := (⟨"com/example/kalchas/kalchas/propositional/HornClauses", "checkVariable", "(I)V"⟩ : MethodName)) hown (mvT hZ w_37) (mvT hZ w_38) (notFace_of_selects (args := #[]) (mvT hZ w_40)) (mvT hZ w_40) (mvT hZ w_39) (by decide) (own_backL (PV := (fun _ => True)) (QV := (own_LP Z "com/example/kalchas/kalchas/propositional/HornClauses" 178)) (W := 0) (own_rm7c l Z a0 hw [] a_1 p_2 (3 : Int32) h0 n0 (by omega) (show ¬ (p_2 < 0) by first | assumption | omega | decide) (show p_2 < (3 : Int32) by first | assumption | omega | decide) pr_F_a_1_variableCount) hZ w_41 w_10 (by decide) (by decide) (fun _ _ => trivial)) q14a q14c (g := (mkF m 2 #[.val (.ref a_1), .val (.int p_2), .val (.ref a_3), .unset, .unset, .unset, .unset] [(.int p_2), (.ref a_1)])) rfl (by rw [hml]; rfl) (Steps.refl _) (argsL := [(.int p_2)]) (rest := []) (lenOf own_pd1 rfl) rfl (by show 2 * 0 + _ ≤ _; exact Nat.le_of_eq rfl) (hb hby own_d6_2) (fun _ _ => ⟨rfl, e0, (by decide : 0 + 2 ≤ _), (by decide : 0 + 36 ≤ _)⟩)
    dsimp only [Pt.U, Pt.locs, Pt.cells, Pt.slots] at X14 l14 y14 z14 st14 hQ14 hS14 gr14 hV14
    have y14 : k14 = 2 := y14
    have z14 : n14 = 36 := z14
    have Wn14 := hS14.1
    obtain ⟨X14, hS14, hZ, hown⟩ := rebS hS0 (n1 := s₁.heap.size) (by rw [e0]; omega) X14 hS14 gr14 hZ hown
    obtain ⟨bL14, Lq14⟩ := hV14
    have Lq14 : Lit (s.setVm T14.vm) "com/example/kalchas/kalchas/propositional/HornClauses" 178 bL14 := Lq14
    obtain ⟨rfl, N14q, K14q⟩ := hQ14
    have N14 : Fr n0 L14 := by rw [l14]; exact Fr.app N0 N14q
    have z15 := K14q.1
    have K14 : Keep h0 T14.heap [a_1, wh, wst, wb] := K0.trans K14q all0
    refine own_go (fun _ k => st14.trans k) ?_
    show own_Go _ _ _ _ T14 (mkF m 5 #[.val (.ref a_1), .val (.int p_2), .val (.ref a_3), .unset, .unset, .unset, .unset] [])
    refine own_go (fun _ k => XS.aloadN X14.here hx rfl (hb hby own_d6_5) rfl rfl k) ?_
    show own_Go _ _ _ _ T14 (mkF m 6 #[.val (.ref a_1), .val (.int p_2), .val (.ref a_3), .unset, .unset, .unset, .unset] [(.ref a_3)])
    refine own_go (fun _ k => XS.astoreN X14.here hx rfl (hb hby own_d6_6) rfl rfl (l' := #[.val (.ref a_1), .val (.int p_2), .val (.ref a_3), .val (.ref a_3), .unset, .unset, .unset]) rfl k) ?_
    show own_Go _ _ _ _ T14 (mkF m 7 #[.val (.ref a_1), .val (.int p_2), .val (.ref a_3), .val (.ref a_3), .unset, .unset, .unset] [])
    refine own_go (fun _ k => XS.aloadN X14.here hx rfl (hb hby own_d6_7) rfl rfl k) ?_
    show own_Go _ _ _ _ T14 (mkF m 8 #[.val (.ref a_1), .val (.int p_2), .val (.ref a_3), .val (.ref a_3), .unset, .unset, .unset] [(.ref a_3)])
    have f16 : own_AV Z T14.heap a_3 .int (0 : Int32) (own_n3 y0 y1 y2) := (pr_A_a_3.keep K14q nin0)
    obtain ⟨q17, c17, R17, s17, t17⟩ := id f16
    refine own_go (fun _ k => X14.arraylength hx R17.1 (State.isArrayOf_alike hZ.alike R17.2.1) (g := (mkF m 8 #[.val (.ref a_1), .val (.int p_2), .val (.ref a_3), .val (.ref a_3), .unset, .unset, .unset] [(.ref a_3)])) rfl rfl (hb hby own_d6_8) _ k) ?_
    rw [len_of s17 q17]
    show own_Go _ _ _ _ T14 (mkF m 9 #[.val (.ref a_1), .val (.int p_2), .val (.ref a_3), .val (.ref a_3), .unset, .unset, .unset] [(.int (0 : Int32))])
    refine own_go (fun _ k => XS.istore X14.here hx rfl (hb hby own_d6_9) rfl (l' := #[.val (.ref a_1), .val (.int p_2), .val (.ref a_3), .val (.ref a_3), .val (.int (0 : Int32)), .unset, .unset]) rfl k) ?_
    show own_Go _ _ _ _ T14 (mkF m 11 #[.val (.ref a_1), .val (.int p_2), .val (.ref a_3), .val (.ref a_3), .val (.int (0 : Int32)), .unset, .unset] [])
    refine own_go (fun _ k => XS.iconst X14.here hx rfl (hb hby own_d6_11) k) ?_
    show own_Go _ _ _ _ T14 (mkF m 12 #[.val (.ref a_1), .val (.int p_2), .val (.ref a_3), .val (.ref a_3), .val (.int (0 : Int32)), .unset, .unset] [(.int (0 : Int32))])
    refine own_go (fun _ k => XS.istore X14.here hx rfl (hb hby own_d6_12) rfl (l' := #[.val (.ref a_1), .val (.int p_2), .val (.ref a_3), .val (.ref a_3), .val (.int (0 : Int32)), .val (.int (0 : Int32)), .unset]) rfl k) ?_
    show own_Go _ _ _ _ T14 (mkF m 14 #[.val (.ref a_1), .val (.int p_2), .val (.ref a_3), .val (.ref a_3), .val (.int (0 : Int32)), .val (.int (0 : Int32)), .unset] [])
    refine own_go (fun _ k => XS.iload X14.here hx rfl (hb hby own_d6_14) rfl k) ?_
    show own_Go _ _ _ _ T14 (mkF m 16 #[.val (.ref a_1), .val (.int p_2), .val (.ref a_3), .val (.ref a_3), .val (.int (0 : Int32)), .val (.int (0 : Int32)), .unset] [(.int (0 : Int32))])
    refine own_go (fun _ k => XS.iload X14.here hx rfl (hb hby own_d6_16) rfl k) ?_
    show own_Go _ _ _ _ T14 (mkF m 18 #[.val (.ref a_1), .val (.int p_2), .val (.ref a_3), .val (.ref a_3), .val (.int (0 : Int32)), .val (.int (0 : Int32)), .unset] [(.int (0 : Int32)), (.int (0 : Int32))])
    have hc18 : ¬ ((0 : Int32) < (0 : Int32)) := by decide
    refine own_go (fun _ k => XS.icmpYes X14.here hx rfl (pc0 := 18) (pc' := 39) rfl (hb hby own_d6_18) rfl (Jvm.Free.XT.ii_ge_t hc18) (by decide) (by decide) k) ?_
    show own_Go _ _ _ _ T14 (mkF m 39 #[.val (.ref a_1), .val (.int p_2), .val (.ref a_3), .val (.ref a_3), .val (.int (0 : Int32)), .val (.int (0 : Int32)), .unset] [])
    refine own_go (fun _ k => XS.aloadN X14.here hx rfl (hb hby own_d6_39) rfl rfl k) ?_
    show own_Go _ _ _ _ T14 (mkF m 40 #[.val (.ref a_1), .val (.int p_2), .val (.ref a_3), .val (.ref a_3), .val (.int (0 : Int32)), .val (.int (0 : Int32)), .unset] [(.ref a_1)])
    have f19 : Fld Z T14.heap a_1 "com/example/kalchas/kalchas/propositional/HornClauses" "clauseCount" "I" (.int (0 : Int32)) := (pr_F_a_1_clauseCount.keep K14q nin0)
    obtain ⟨T20, X20, e20, st20⟩ := getF X14 hx hZ hown (host := "") (Or.inl w_53) Via.refl rfl f19 (g := (mkF m 40 #[.val (.ref a_1), .val (.int p_2), .val (.ref a_3), .val (.ref a_3), .val (.int (0 : Int32)), .val (.int (0 : Int32)), .unset] [(.ref a_1)])) rfl rfl (hb hby own_d6_40)
    refine own_go (fun _ k => st20 _ k) ?_
    show own_Go _ _ _ _ T20 (mkF m 43 #[.val (.ref a_1), .val (.int p_2), .val (.ref a_3), .val (.ref a_3), .val (.int (0 : Int32)), .val (.int (0 : Int32)), .unset] [(.int (0 : Int32))])
    refine own_go (fun _ k => XS.aloadN X20.here hx rfl (hb hby own_d6_43) rfl rfl k) ?_
    show own_Go _ _ _ _ T20 (mkF m 44 #[.val (.ref a_1), .val (.int p_2), .val (.ref a_3), .val (.ref a_3), .val (.int (0 : Int32)), .val (.int (0 : Int32)), .unset] [(.ref a_1), (.int (0 : Int32))])
    have f21 : Fld Z T14.heap a_1 "com/example/kalchas/kalchas/propositional/HornClauses" "heads" "[I" (.ref wh) := (pr_F_a_1_heads.keep K14q nin0)
    obtain ⟨T22, X22, e22, st22⟩ := getF X20 hx hZ hown (host := "") (Or.inl w_17) Via.refl e20 f21 (g := (mkF m 44 #[.val (.ref a_1), .val (.int p_2), .val (.ref a_3), .val (.ref a_3), .val (.int (0 : Int32)), .val (.int (0 : Int32)), .unset] [(.ref a_1), (.int (0 : Int32))])) rfl rfl (hb hby own_d6_44)
    refine own_go (fun _ k => st22 _ k) ?_
    show own_Go _ _ _ _ T22 (mkF m 47 #[.val (.ref a_1), .val (.int p_2), .val (.ref a_3), .val (.ref a_3), .val (.int (0 : Int32)), .val (.int (0 : Int32)), .unset] [(.ref wh), (.int (0 : Int32))])
    have f23 : own_AV Z T14.heap wh .int (64 : Int32) gh := (pr_A_wh.keep K14q nin0)
    obtain ⟨q24, c24, R24, s24, t24⟩ := id f23
    refine own_go (fun _ k => X22.arraylength hx (by rw [e22]; exact R24.1) (State.isArrayOf_alike hZ.alike R24.2.1) (g := (mkF m 47 #[.val (.ref a_1), .val (.int p_2), .val (.ref a_3), .val (.ref a_3), .val (.int (0 : Int32)), .val (.int (0 : Int32)), .unset] [(.ref wh), (.int (0 : Int32))])) rfl rfl (hb hby own_d6_47) _ k) ?_
    rw [len_of s24 q24]
    show own_Go _ _ _ _ T22 (mkF m 48 #[.val (.ref a_1), .val (.int p_2), .val (.ref a_3), .val (.ref a_3), .val (.int (0 : Int32)), .val (.int (0 : Int32)), .unset] [(.int (64 : Int32)), (.int (0 : Int32))])
    have hc25 : ¬ ((0 : Int32) = (64 : Int32)) := by decide
    refine own_go (fun _ k => XS.icmpYes X22.here hx rfl (pc0 := 48) (pc' := 85) rfl (hb hby own_d6_48) rfl (Jvm.Free.XT.ii_ne_t hc25) (by decide) (by decide) k) ?_
    show own_Go _ _ _ _ T22 (mkF m 85 #[.val (.ref a_1), .val (.int p_2), .val (.ref a_3), .val (.ref a_3), .val (.int (0 : Int32)), .val (.int (0 : Int32)), .unset] [])
    refine own_go (fun _ k => XS.aloadN X22.here hx rfl (hb hby own_d6_85) rfl rfl k) ?_
    show own_Go _ _ _ _ T22 (mkF m 86 #[.val (.ref a_1), .val (.int p_2), .val (.ref a_3), .val (.ref a_3), .val (.int (0 : Int32)), .val (.int (0 : Int32)), .unset] [(.ref a_1)])
    have f26 : Fld Z T14.heap a_1 "com/example/kalchas/kalchas/propositional/HornClauses" "bodyStarts" "[I" (.ref wst) := (pr_F_a_1_bodyStarts.keep K14q nin0)
    obtain ⟨T27, X27, e27, st27⟩ := getF X22 hx hZ hown (host := "") (Or.inl w_19) Via.refl e22 f26 (g := (mkF m 86 #[.val (.ref a_1), .val (.int p_2), .val (.ref a_3), .val (.ref a_3), .val (.int (0 : Int32)), .val (.int (0 : Int32)), .unset] [(.ref a_1)])) rfl rfl (hb hby own_d6_86)
    refine own_go (fun _ k => st27 _ k) ?_
    show own_Go _ _ _ _ T27 (mkF m 89 #[.val (.ref a_1), .val (.int p_2), .val (.ref a_3), .val (.ref a_3), .val (.int (0 : Int32)), .val (.int (0 : Int32)), .unset] [(.ref wst)])
    refine own_go (fun _ k => XS.aloadN X27.here hx rfl (hb hby own_d6_89) rfl rfl k) ?_
    show own_Go _ _ _ _ T27 (mkF m 90 #[.val (.ref a_1), .val (.int p_2), .val (.ref a_3), .val (.ref a_3), .val (.int (0 : Int32)), .val (.int (0 : Int32)), .unset] [(.ref a_1), (.ref wst)])
    obtain ⟨T28, X28, e28, st28⟩ := getF X27 hx hZ hown (host := "") (Or.inl w_53) Via.refl e27 f19 (g := (mkF m 90 #[.val (.ref a_1), .val (.int p_2), .val (.ref a_3), .val (.ref a_3), .val (.int (0 : Int32)), .val (.int (0 : Int32)), .unset] [(.ref a_1), (.ref wst)])) rfl rfl (hb hby own_d6_90)
    refine own_go (fun _ k => st28 _ k) ?_
    show own_Go _ _ _ _ T28 (mkF m 93 #[.val (.ref a_1), .val (.int p_2), .val (.ref a_3), .val (.ref a_3), .val (.int (0 : Int32)), .val (.int (0 : Int32)), .unset] [(.int (0 : Int32)), (.ref wst)])
    have f29 : own_AV Z T14.heap wst .int (65 : Int32) gs := (pr_A_wst.keep K14q nin0)
    obtain ⟨q30, c30, R30, s30, t30⟩ := id f29
    have hin30 : ¬ ((0 : Int32) < 0 ∨ c30.slots.size ≤ ((0 : Int32)).toNatClampNeg) := inb_of s30 ⟨by decide, by decide⟩
    have u30 : c30.slots[((0 : Int32)).toNatClampNeg]? = some (.int bs) := own_at (k := 0) t30 s30 hin30 (by decide) (hgs)
    refine own_go (fun _ k => X28.iaload hx (j := (0 : Int32)) (v := (.int bs)) (by rw [e28]; exact R30.1) (State.isArrayOf_alike hZ.alike R30.2.1) R30.2.2 hin30 u30 (g := (mkF m 93 #[.val (.ref a_1), .val (.int p_2), .val (.ref a_3), .val (.ref a_3), .val (.int (0 : Int32)), .val (.int (0 : Int32)), .unset] [(.int (0 : Int32)), (.ref wst)])) rfl rfl (hb hby own_d6_93) _ k) ?_
    show own_Go _ _ _ _ T28 (mkF m 94 #[.val (.ref a_1), .val (.int p_2), .val (.ref a_3), .val (.ref a_3), .val (.int (0 : Int32)), .val (.int (0 : Int32)), .unset] [(.int bs)])
    refine own_go (fun _ k => XS.istoreN X28.here hx rfl (hb hby own_d6_94) rfl (l' := #[.val (.ref a_1), .val (.int p_2), .val (.ref a_3), .val (.int bs), .val (.int (0 : Int32)), .val (.int (0 : Int32)), .unset]) rfl k) ?_
    show own_Go _ _ _ _ T28 (mkF m 95 #[.val (.ref a_1), .val (.int p_2), .val (.ref a_3), .val (.int bs), .val (.int (0 : Int32)), .val (.int (0 : Int32)), .unset] [])
    refine own_go (fun _ k => XS.iloadN X28.here hx rfl (hb hby own_d6_95) rfl k) ?_
    show own_Go _ _ _ _ T28 (mkF m 96 #[.val (.ref a_1), .val (.int p_2), .val (.ref a_3), .val (.int bs), .val (.int (0 : Int32)), .val (.int (0 : Int32)), .unset] [(.int bs)])
    refine own_go (fun _ k => XS.aloadN X28.here hx rfl (hb hby own_d6_96) rfl rfl k) ?_
    show own_Go _ _ _ _ T28 (mkF m 97 #[.val (.ref a_1), .val (.int p_2), .val (.ref a_3), .val (.int bs), .val (.int (0 : Int32)), .val (.int (0 : Int32)), .unset] [(.ref a_3), (.int bs)])
    obtain ⟨q31, c31, R31, s31, t31⟩ := id f16
    refine own_go (fun _ k => X28.arraylength hx (by rw [e28]; exact R31.1) (State.isArrayOf_alike hZ.alike R31.2.1) (g := (mkF m 97 #[.val (.ref a_1), .val (.int p_2), .val (.ref a_3), .val (.int bs), .val (.int (0 : Int32)), .val (.int (0 : Int32)), .unset] [(.ref a_3), (.int bs)])) rfl rfl (hb hby own_d6_97) _ k) ?_
    rw [len_of s31 q31]
    show own_Go _ _ _ _ T28 (mkF m 98 #[.val (.ref a_1), .val (.int p_2), .val (.ref a_3), .val (.int bs), .val (.int (0 : Int32)), .val (.int (0 : Int32)), .unset] [(.int (0 : Int32)), (.int bs)])
    refine own_go (fun _ k => XS.iadd X28.here hx rfl (hb hby own_d6_98) rfl k) ?_
    show own_Go _ _ _ _ T28 (mkF m 99 #[.val (.ref a_1), .val (.int p_2), .val (.ref a_3), .val (.int bs), .val (.int (0 : Int32)), .val (.int (0 : Int32)), .unset] [(.int (bs + (0 : Int32)))])
    refine own_go (fun _ k => XS.aloadN X28.here hx rfl (hb hby own_d6_99) rfl rfl k) ?_
    show own_Go _ _ _ _ T28 (mkF m 100 #[.val (.ref a_1), .val (.int p_2), .val (.ref a_3), .val (.int bs), .val (.int (0 : Int32)), .val (.int (0 : Int32)), .unset] [(.ref a_1), (.int (bs + (0 : Int32)))])
    have f32 : Fld Z T14.heap a_1 "com/example/kalchas/kalchas/propositional/HornClauses" "bodies" "[I" (.ref wb) := (pr_F_a_1_bodies.keep K14q nin0)
    obtain ⟨T33, X33, e33, st33⟩ := getF X28 hx hZ hown (host := "") (Or.inl w_21) Via.refl e28 f32 (g := (mkF m 100 #[.val (.ref a_1), .val (.int p_2), .val (.ref a_3), .val (.int bs), .val (.int (0 : Int32)), .val (.int (0 : Int32)), .unset] [(.ref a_1), (.int (bs + (0 : Int32)))])) rfl rfl (hb hby own_d6_100)
    refine own_go (fun _ k => st33 _ k) ?_
    show own_Go _ _ _ _ T33 (mkF m 103 #[.val (.ref a_1), .val (.int p_2), .val (.ref a_3), .val (.int bs), .val (.int (0 : Int32)), .val (.int (0 : Int32)), .unset] [(.ref wb), (.int (bs + (0 : Int32)))])
    have f34 : own_AV Z T14.heap wb .int (64 : Int32) gb := (pr_A_wb.keep K14q nin0)
    obtain ⟨q35, c35, R35, s35, t35⟩ := id f34
    refine own_go (fun _ k => X33.arraylength hx (by rw [e33]; exact R35.1) (State.isArrayOf_alike hZ.alike R35.2.1) (g := (mkF m 103 #[.val (.ref a_1), .val (.int p_2), .val (.ref a_3), .val (.int bs), .val (.int (0 : Int32)), .val (.int (0 : Int32)), .unset] [(.ref wb), (.int (bs + (0 : Int32)))])) rfl rfl (hb hby own_d6_103) _ k) ?_
    rw [len_of s35 q35]
    show own_Go _ _ _ _ T33 (mkF m 104 #[.val (.ref a_1), .val (.int p_2), .val (.ref a_3), .val (.int bs), .val (.int (0 : Int32)), .val (.int (0 : Int32)), .unset] [(.int (64 : Int32)), (.int (bs + (0 : Int32)))])
    have hc36 : ¬ ((64 : Int32) < (bs + (0 : Int32))) := own_t6_0_0 bs hbs
    refine own_go (fun _ k => XS.icmpYes X33.here hx rfl (pc0 := 104) (pc' := 132) rfl (hb hby own_d6_104) rfl (Jvm.Free.XT.ii_le_t hc36) (by decide) (by decide) k) ?_
    show own_Go _ _ _ _ T33 (mkF m 132 #[.val (.ref a_1), .val (.int p_2), .val (.ref a_3), .val (.int bs), .val (.int (0 : Int32)), .val (.int (0 : Int32)), .unset] [])
    refine own_go (fun _ k => XS.aloadN X33.here hx rfl (hb hby own_d6_132) rfl rfl k) ?_
    show own_Go _ _ _ _ T33 (mkF m 133 #[.val (.ref a_1), .val (.int p_2), .val (.ref a_3), .val (.int bs), .val (.int (0 : Int32)), .val (.int (0 : Int32)), .unset] [(.ref a_3)])
    refine own_go (fun _ k => XS.iconst X33.here hx rfl (hb hby own_d6_133) k) ?_
    show own_Go _ _ _ _ T33 (mkF m 134 #[.val (.ref a_1), .val (.int p_2), .val (.ref a_3), .val (.int bs), .val (.int (0 : Int32)), .val (.int (0 : Int32)), .unset] [(.int (0 : Int32)), (.ref a_3)])
    refine own_go (fun _ k => XS.aloadN X33.here hx rfl (hb hby own_d6_134) rfl rfl k) ?_
    show own_Go _ _ _ _ T33 (mkF m 135 #[.val (.ref a_1), .val (.int p_2), .val (.ref a_3), .val (.int bs), .val (.int (0 : Int32)), .val (.int (0 : Int32)), .unset] [(.ref a_1), (.int (0 : Int32)), (.ref a_3)])
    obtain ⟨T37, X37, e37, st37⟩ := getF X33 hx hZ hown (host := "") (Or.inl w_21) Via.refl e33 f32 (g := (mkF m 135 #[.val (.ref a_1), .val (.int p_2), .val (.ref a_3), .val (.int bs), .val (.int (0 : Int32)), .val (.int (0 : Int32)), .unset] [(.ref a_1), (.int (0 : Int32)), (.ref a_3)])) rfl rfl (hb hby own_d6_135)
    refine own_go (fun _ k => st37 _ k) ?_
    show own_Go _ _ _ _ T37 (mkF m 138 #[.val (.ref a_1), .val (.int p_2), .val (.ref a_3), .val (.int bs), .val (.int (0 : Int32)), .val (.int (0 : Int32)), .unset] [(.ref wb), (.int (0 : Int32)), (.ref a_3)])
    refine own_go (fun _ k => XS.iloadN X37.here hx rfl (hb hby own_d6_138) rfl k) ?_
    show own_Go _ _ _ _ T37 (mkF m 139 #[.val (.ref a_1), .val (.int p_2), .val (.ref a_3), .val (.int bs), .val (.int (0 : Int32)), .val (.int (0 : Int32)), .unset] [(.int bs), (.ref wb), (.int (0 : Int32)), (.ref a_3)])
    refine own_go (fun _ k => XS.aloadN X37.here hx rfl (hb hby own_d6_139) rfl rfl k) ?_
    show own_Go _ _ _ _ T37 (mkF m 140 #[.val (.ref a_1), .val (.int p_2), .val (.ref a_3), .val (.int bs), .val (.int (0 : Int32)), .val (.int (0 : Int32)), .unset] [(.ref a_3), (.int bs), (.ref wb), (.int (0 : Int32)), (.ref a_3)])
    obtain ⟨q38, c38, R38, s38, t38⟩ := id f16
    refine own_go (fun _ k => X37.arraylength hx (by rw [e37]; exact R38.1) (State.isArrayOf_alike hZ.alike R38.2.1) (g := (mkF m 140 #[.val (.ref a_1), .val (.int p_2), .val (.ref a_3), .val (.int bs), .val (.int (0 : Int32)), .val (.int (0 : Int32)), .unset] [(.ref a_3), (.int bs), (.ref wb), (.int (0 : Int32)), (.ref a_3)])) rfl rfl (hb hby own_d6_140) _ k) ?_
    rw [len_of s38 q38]
    show own_Go _ _ _ _ T37 (mkF m 141 #[.val (.ref a_1), .val (.int p_2), .val (.ref a_3), .val (.int bs), .val (.int (0 : Int32)), .val (.int (0 : Int32)), .unset] [(.int (0 : Int32)), (.int bs), (.ref wb), (.int (0 : Int32)), (.ref a_3)])
    obtain ⟨T39, h39, L39, X39, e39, N39, Kq39, V39, st39⟩ := own_cp X37 hx hZ hown w_55 w_58 w_56 w_57 e37 f16 f34 (fun _ => rfl) hfb (by decide) (own_t6_0_1 bs hbs hc36) (by decide) (by decide) (own_cl5 (own_t6_0_2 bs hbs hc36)) N14 (by omega) (g := (mkF m 141 #[.val (.ref a_1), .val (.int p_2), .val (.ref a_3), .val (.int bs), .val (.int (0 : Int32)), .val (.int (0 : Int32)), .unset] [(.int (0 : Int32)), (.int bs), (.ref wb), (.int (0 : Int32)), (.ref a_3)])) rfl (by rw [hml]; rfl) rfl (hb hby own_d6_141) (by decide) (W := 0) (by show 2 * 0 + _ ≤ _; exact Nat.le_of_eq rfl) (by decide)
    have z40 := Kq39.1
    have K39 : Keep h0 h39 [a_1, wh, wst, wb] := K14.trans Kq39 (allS (Or.inl (List.mem_of_getElem? (i := 3) rfl)) all0)
    refine own_go (fun _ k => st39 _ k) ?_
    show own_Go _ _ _ _ T39 (mkF m 144 #[.val (.ref a_1), .val (.int p_2), .val (.ref a_3), .val (.int bs), .val (.int (0 : Int32)), .val (.int (0 : Int32)), .unset] [])
    refine own_go (fun _ k => XS.aloadN X39.here hx rfl (hb hby own_d6_144) rfl rfl k) ?_
    show own_Go _ _ _ _ T39 (mkF m 145 #[.val (.ref a_1), .val (.int p_2), .val (.ref a_3), .val (.int bs), .val (.int (0 : Int32)), .val (.int (0 : Int32)), .unset] [(.ref a_1)])
    have f41 : Fld Z h39 a_1 "com/example/kalchas/kalchas/propositional/HornClauses" "heads" "[I" (.ref wh) := (f21.keep Kq39 (ninS (own_ne (by omega)) nin0))
    obtain ⟨T42, X42, e42, st42⟩ := getF X39 hx hZ hown (host := "") (Or.inl w_17) Via.refl e39 f41 (g := (mkF m 145 #[.val (.ref a_1), .val (.int p_2), .val (.ref a_3), .val (.int bs), .val (.int (0 : Int32)), .val (.int (0 : Int32)), .unset] [(.ref a_1)])) rfl rfl (hb hby own_d6_145)
    refine own_go (fun _ k => st42 _ k) ?_
    show own_Go _ _ _ _ T42 (mkF m 148 #[.val (.ref a_1), .val (.int p_2), .val (.ref a_3), .val (.int bs), .val (.int (0 : Int32)), .val (.int (0 : Int32)), .unset] [(.ref wh)])
    refine own_go (fun _ k => XS.aloadN X42.here hx rfl (hb hby own_d6_148) rfl rfl k) ?_
    show own_Go _ _ _ _ T42 (mkF m 149 #[.val (.ref a_1), .val (.int p_2), .val (.ref a_3), .val (.int bs), .val (.int (0 : Int32)), .val (.int (0 : Int32)), .unset] [(.ref a_1), (.ref wh)])
    have f43 : Fld Z h39 a_1 "com/example/kalchas/kalchas/propositional/HornClauses" "clauseCount" "I" (.int (0 : Int32)) := (f19.keep Kq39 (ninS (own_ne (by omega)) nin0))
    obtain ⟨T44, X44, e44, st44⟩ := getF X42 hx hZ hown (host := "") (Or.inl w_53) Via.refl e42 f43 (g := (mkF m 149 #[.val (.ref a_1), .val (.int p_2), .val (.ref a_3), .val (.int bs), .val (.int (0 : Int32)), .val (.int (0 : Int32)), .unset] [(.ref a_1), (.ref wh)])) rfl rfl (hb hby own_d6_149)
    refine own_go (fun _ k => st44 _ k) ?_
    show own_Go _ _ _ _ T44 (mkF m 152 #[.val (.ref a_1), .val (.int p_2), .val (.ref a_3), .val (.int bs), .val (.int (0 : Int32)), .val (.int (0 : Int32)), .unset] [(.int (0 : Int32)), (.ref wh)])
    refine own_go (fun _ k => XS.iloadN X44.here hx rfl (hb hby own_d6_152) rfl k) ?_
    show own_Go _ _ _ _ T44 (mkF m 153 #[.val (.ref a_1), .val (.int p_2), .val (.ref a_3), .val (.int bs), .val (.int (0 : Int32)), .val (.int (0 : Int32)), .unset] [(.int p_2), (.int (0 : Int32)), (.ref wh)])
    have f45 : own_AV Z h39 wh .int (64 : Int32) gh := (f23.keep Kq39 (ninS (own_ne (by omega)) nin0))
    obtain ⟨q46, c46, R46, s46, t46⟩ := id f45
    have hin46 : ¬ ((0 : Int32) < 0 ∨ c46.slots.size ≤ ((0 : Int32)).toNatClampNeg) := inb_of s46 ⟨by decide, by decide⟩
    obtain ⟨T47, h47, X47, e47, W47, st47⟩ := stI X44 hx hZ e44 R46 (j := (0 : Int32)) hin46 (g := (mkF m 153 #[.val (.ref a_1), .val (.int p_2), .val (.ref a_3), .val (.int bs), .val (.int (0 : Int32)), .val (.int (0 : Int32)), .unset] [(.int p_2), (.int (0 : Int32)), (.ref wh)])) rfl rfl (hb hby own_d6_153)
    have V47 : own_AV Z h47 wh .int (64 : Int32) (own_upd gh 0 (.int p_2)) := own_AV.set (k := 0) f45 W47 (by decide)
    have z48 := W47.size
    have K47 : Keep h0 h47 [a_1, wh, wst, wb] := K39.wr W47 (Or.inl (List.mem_of_getElem? (i := 1) rfl))
    have N47 := Fr.snoc X47 N39 (by omega : n0 ≤ wh)
    refine own_go (fun _ k => st47 _ k) ?_
    show own_Go _ _ _ _ T47 (mkF m 154 #[.val (.ref a_1), .val (.int p_2), .val (.ref a_3), .val (.int bs), .val (.int (0 : Int32)), .val (.int (0 : Int32)), .unset] [])
    refine own_go (fun _ k => XS.aloadN X47.here hx rfl (hb hby own_d6_154) rfl rfl k) ?_
    show own_Go _ _ _ _ T47 (mkF m 155 #[.val (.ref a_1), .val (.int p_2), .val (.ref a_3), .val (.int bs), .val (.int (0 : Int32)), .val (.int (0 : Int32)), .unset] [(.ref a_1)])
    have f49 : Fld Z h47 a_1 "com/example/kalchas/kalchas/propositional/HornClauses" "bodyStarts" "[I" (.ref wst) := ((f26.keep Kq39 (ninS (own_ne (by omega)) nin0)).other W47 (Or.inl (own_ne (by omega))))
    obtain ⟨T50, X50, e50, st50⟩ := getF X47 hx hZ hown (host := "") (Or.inl w_19) Via.refl e47 f49 (g := (mkF m 155 #[.val (.ref a_1), .val (.int p_2), .val (.ref a_3), .val (.int bs), .val (.int (0 : Int32)), .val (.int (0 : Int32)), .unset] [(.ref a_1)])) rfl rfl (hb hby own_d6_155)
    refine own_go (fun _ k => st50 _ k) ?_
    show own_Go _ _ _ _ T50 (mkF m 158 #[.val (.ref a_1), .val (.int p_2), .val (.ref a_3), .val (.int bs), .val (.int (0 : Int32)), .val (.int (0 : Int32)), .unset] [(.ref wst)])
    refine own_go (fun _ k => XS.aloadN X50.here hx rfl (hb hby own_d6_158) rfl rfl k) ?_
    show own_Go _ _ _ _ T50 (mkF m 159 #[.val (.ref a_1), .val (.int p_2), .val (.ref a_3), .val (.int bs), .val (.int (0 : Int32)), .val (.int (0 : Int32)), .unset] [(.ref a_1), (.ref wst)])
    have f51 : Fld Z h47 a_1 "com/example/kalchas/kalchas/propositional/HornClauses" "clauseCount" "I" (.int (0 : Int32)) := (f43.other W47 (Or.inl (own_ne (by omega))))
    obtain ⟨T52, X52, e52, st52⟩ := getF X50 hx hZ hown (host := "") (Or.inl w_53) Via.refl e50 f51 (g := (mkF m 159 #[.val (.ref a_1), .val (.int p_2), .val (.ref a_3), .val (.int bs), .val (.int (0 : Int32)), .val (.int (0 : Int32)), .unset] [(.ref a_1), (.ref wst)])) rfl rfl (hb hby own_d6_159)
    refine own_go (fun _ k => st52 _ k) ?_
    show own_Go _ _ _ _ T52 (mkF m 162 #[.val (.ref a_1), .val (.int p_2), .val (.ref a_3), .val (.int bs), .val (.int (0 : Int32)), .val (.int (0 : Int32)), .unset] [(.int (0 : Int32)), (.ref wst)])
    refine own_go (fun _ k => XS.iconst X52.here hx rfl (hb hby own_d6_162) k) ?_
    show own_Go _ _ _ _ T52 (mkF m 163 #[.val (.ref a_1), .val (.int p_2), .val (.ref a_3), .val (.int bs), .val (.int (0 : Int32)), .val (.int (0 : Int32)), .unset] [(.int (1 : Int32)), (.int (0 : Int32)), (.ref wst)])
    refine own_go (fun _ k => XS.iadd X52.here hx rfl (hb hby own_d6_163) rfl k) ?_
    show own_Go _ _ _ _ T52 (mkF m 164 #[.val (.ref a_1), .val (.int p_2), .val (.ref a_3), .val (.int bs), .val (.int (0 : Int32)), .val (.int (0 : Int32)), .unset] [(.int (1 : Int32)), (.ref wst)])
    refine own_go (fun _ k => XS.iloadN X52.here hx rfl (hb hby own_d6_164) rfl k) ?_
    show own_Go _ _ _ _ T52 (mkF m 165 #[.val (.ref a_1), .val (.int p_2), .val (.ref a_3), .val (.int bs), .val (.int (0 : Int32)), .val (.int (0 : Int32)), .unset] [(.int bs), (.int (1 : Int32)), (.ref wst)])
    refine own_go (fun _ k => XS.aloadN X52.here hx rfl (hb hby own_d6_165) rfl rfl k) ?_
    show own_Go _ _ _ _ T52 (mkF m 166 #[.val (.ref a_1), .val (.int p_2), .val (.ref a_3), .val (.int bs), .val (.int (0 : Int32)), .val (.int (0 : Int32)), .unset] [(.ref a_3), (.int bs), (.int (1 : Int32)), (.ref wst)])
    have f53 : own_AV Z h47 a_3 .int (0 : Int32) (own_n3 y0 y1 y2) := ((f16.keep Kq39 (ninS (own_ne (by omega)) nin0)).other W47 (own_ne (by omega)))
    obtain ⟨q54, c54, R54, s54, t54⟩ := id f53
    refine own_go (fun _ k => X52.arraylength hx (by rw [e52]; exact R54.1) (State.isArrayOf_alike hZ.alike R54.2.1) (g := (mkF m 166 #[.val (.ref a_1), .val (.int p_2), .val (.ref a_3), .val (.int bs), .val (.int (0 : Int32)), .val (.int (0 : Int32)), .unset] [(.ref a_3), (.int bs), (.int (1 : Int32)), (.ref wst)])) rfl rfl (hb hby own_d6_166) _ k) ?_
    rw [len_of s54 q54]
    show own_Go _ _ _ _ T52 (mkF m 167 #[.val (.ref a_1), .val (.int p_2), .val (.ref a_3), .val (.int bs), .val (.int (0 : Int32)), .val (.int (0 : Int32)), .unset] [(.int (0 : Int32)), (.int bs), (.int (1 : Int32)), (.ref wst)])
    refine own_go (fun _ k => XS.iadd X52.here hx rfl (hb hby own_d6_167) rfl k) ?_
    show own_Go _ _ _ _ T52 (mkF m 168 #[.val (.ref a_1), .val (.int p_2), .val (.ref a_3), .val (.int bs), .val (.int (0 : Int32)), .val (.int (0 : Int32)), .unset] [(.int (bs + (0 : Int32))), (.int (1 : Int32)), (.ref wst)])
    have f55 : own_AV Z h47 wst .int (65 : Int32) gs := ((f29.keep Kq39 (ninS (own_ne (by omega)) nin0)).other W47 (own_ne (by omega)))
    obtain ⟨q56, c56, R56, s56, t56⟩ := id f55
    have hin56 : ¬ ((1 : Int32) < 0 ∨ c56.slots.size ≤ ((1 : Int32)).toNatClampNeg) := inb_of s56 ⟨by decide, by decide⟩
    obtain ⟨T57, h57, X57, e57, W57, st57⟩ := stI X52 hx hZ e52 R56 (j := (1 : Int32)) hin56 (g := (mkF m 168 #[.val (.ref a_1), .val (.int p_2), .val (.ref a_3), .val (.int bs), .val (.int (0 : Int32)), .val (.int (0 : Int32)), .unset] [(.int (bs + (0 : Int32))), (.int (1 : Int32)), (.ref wst)])) rfl rfl (hb hby own_d6_168)
    have V57 : own_AV Z h57 wst .int (65 : Int32) (own_upd gs 1 (.int (bs + (0 : Int32)))) := own_AV.set (k := 1) f55 W57 (by decide)
    have z58 := W57.size
    have K57 : Keep h0 h57 [a_1, wh, wst, wb] := K47.wr W57 (Or.inl (List.mem_of_getElem? (i := 2) rfl))
    have N57 := Fr.snoc X57 N47 (by omega : n0 ≤ wst)
    refine own_go (fun _ k => st57 _ k) ?_
    show own_Go _ _ _ _ T57 (mkF m 169 #[.val (.ref a_1), .val (.int p_2), .val (.ref a_3), .val (.int bs), .val (.int (0 : Int32)), .val (.int (0 : Int32)), .unset] [])
    refine own_go (fun _ k => XS.aloadN X57.here hx rfl (hb hby own_d6_169) rfl rfl k) ?_
    show own_Go _ _ _ _ T57 (mkF m 170 #[.val (.ref a_1), .val (.int p_2), .val (.ref a_3), .val (.int bs), .val (.int (0 : Int32)), .val (.int (0 : Int32)), .unset] [(.ref a_1)])
    refine own_go (fun _ k => XS.dup X57.here hx rfl (hb hby own_d6_170) rfl rfl k) ?_
    show own_Go _ _ _ _ T57 (mkF m 171 #[.val (.ref a_1), .val (.int p_2), .val (.ref a_3), .val (.int bs), .val (.int (0 : Int32)), .val (.int (0 : Int32)), .unset] [(.ref a_1), (.ref a_1)])
    have f59 : Fld Z h57 a_1 "com/example/kalchas/kalchas/propositional/HornClauses" "clauseCount" "I" (.int (0 : Int32)) := (f51.other W57 (Or.inl (own_ne (by omega))))
    obtain ⟨T60, X60, e60, st60⟩ := getF X57 hx hZ hown (host := "") (Or.inl w_53) Via.refl e57 f59 (g := (mkF m 171 #[.val (.ref a_1), .val (.int p_2), .val (.ref a_3), .val (.int bs), .val (.int (0 : Int32)), .val (.int (0 : Int32)), .unset] [(.ref a_1), (.ref a_1)])) rfl rfl (hb hby own_d6_171)
    refine own_go (fun _ k => st60 _ k) ?_
    show own_Go _ _ _ _ T60 (mkF m 174 #[.val (.ref a_1), .val (.int p_2), .val (.ref a_3), .val (.int bs), .val (.int (0 : Int32)), .val (.int (0 : Int32)), .unset] [(.int (0 : Int32)), (.ref a_1)])
    refine own_go (fun _ k => XS.iconst X60.here hx rfl (hb hby own_d6_174) k) ?_
    show own_Go _ _ _ _ T60 (mkF m 175 #[.val (.ref a_1), .val (.int p_2), .val (.ref a_3), .val (.int bs), .val (.int (0 : Int32)), .val (.int (0 : Int32)), .unset] [(.int (1 : Int32)), (.int (0 : Int32)), (.ref a_1)])
    refine own_go (fun _ k => XS.iadd X60.here hx rfl (hb hby own_d6_175) rfl k) ?_
    show own_Go _ _ _ _ T60 (mkF m 176 #[.val (.ref a_1), .val (.int p_2), .val (.ref a_3), .val (.int bs), .val (.int (0 : Int32)), .val (.int (0 : Int32)), .unset] [(.int (1 : Int32)), (.ref a_1)])
    have f61 : Exa Z h57 a_1 "com/example/kalchas/kalchas/propositional/HornClauses" := ((((pr_E_a_1.keep K14q).keep Kq39).wr W47).wr W57)
    obtain ⟨T62, h62, X62, e62, W62, st62⟩ := putF X60 hx hZ hown (host := "") (Or.inl w_53) Via.refl e60 f59 f61 (Or.inl w_54) w_9 (ty := .int) (by decide) rfl rfl (g := (mkF m 176 #[.val (.ref a_1), .val (.int p_2), .val (.ref a_3), .val (.int bs), .val (.int (0 : Int32)), .val (.int (0 : Int32)), .unset] [(.int (1 : Int32)), (.ref a_1)])) rfl rfl (hb hby own_d6_176)
    have z63 := W62.size
    have K62 : Keep h0 h62 [a_1, wh, wst, wb] := K57.wr W62 (Or.inl (List.mem_of_getElem? (i := 0) rfl))
    have N62 := Fr.snoc X62 N57 (by omega : n0 ≤ a_1)
    have Fw62 : Fld Z h62 a_1 "com/example/kalchas/kalchas/propositional/HornClauses" "clauseCount" "I" (.int (1 : Int32)) := Fld.same W62 f59
    refine own_go (fun _ k => st62 _ k) ?_
    show own_Go _ _ _ _ T62 (mkF m 179 #[.val (.ref a_1), .val (.int p_2), .val (.ref a_3), .val (.int bs), .val (.int (0 : Int32)), .val (.int (0 : Int32)), .unset] [])
    refine own_go (fun _ k => XS.aloadN X62.here hx rfl (hb hby own_d6_179) rfl rfl k) ?_
    show own_Go _ _ _ _ T62 (mkF m 180 #[.val (.ref a_1), .val (.int p_2), .val (.ref a_3), .val (.int bs), .val (.int (0 : Int32)), .val (.int (0 : Int32)), .unset] [(.ref a_1)])
    refine own_go (fun _ k => XS.aconstNull X62.here hx rfl (hb hby own_d6_180) k) ?_
    show own_Go _ _ _ _ T62 (mkF m 181 #[.val (.ref a_1), .val (.int p_2), .val (.ref a_3), .val (.int bs), .val (.int (0 : Int32)), .val (.int (0 : Int32)), .unset] [.null, (.ref a_1)])
    have f64 : Exa Z h62 a_1 "com/example/kalchas/kalchas/propositional/HornClauses" := (f61.wr W62)
    have f65 : Fld Z h62 a_1 "com/example/kalchas/kalchas/propositional/HornClauses" "occurrences" "[I" w_occ := (((((pr_F_a_1_occurrences.keep K14q nin0).keep Kq39 (ninS (own_ne (by omega)) nin0)).other W47 (Or.inl (own_ne (by omega)))).other W57 (Or.inl (own_ne (by omega)))).other W62 (Or.inr (slot_ne (Or.inl w_29) (Or.inl w_54) (by decide) (t := (.array .int)) (t' := .int) (by decide) (by decide))))
    obtain ⟨T66, h66, X66, e66, W66, st66⟩ := putF X62 hx hZ hown (host := "") (Or.inl w_28) Via.refl e62 f65 f64 (Or.inl w_29) w_9 (ty := (.array .int)) (by decide) rfl rfl (g := (mkF m 181 #[.val (.ref a_1), .val (.int p_2), .val (.ref a_3), .val (.int bs), .val (.int (0 : Int32)), .val (.int (0 : Int32)), .unset] [.null, (.ref a_1)])) rfl rfl (hb hby own_d6_181)
    have z67 := W66.size
    have K66 : Keep h0 h66 [a_1, wh, wst, wb] := K62.wr W66 (Or.inl (List.mem_of_getElem? (i := 0) rfl))
    have N66 := Fr.snoc X66 N62 (by omega : n0 ≤ a_1)
    have Fw66 : Fld Z h66 a_1 "com/example/kalchas/kalchas/propositional/HornClauses" "occurrences" "[I" .null := Fld.same W66 f65
    refine own_go (fun _ k => st66 _ k) ?_
    show own_Go _ _ _ _ T66 (mkF m 184 #[.val (.ref a_1), .val (.int p_2), .val (.ref a_3), .val (.int bs), .val (.int (0 : Int32)), .val (.int (0 : Int32)), .unset] [])
    obtain ⟨fs, hr, hrun, hended, hRW⟩ := X66.leaveW hS14 (by rw [e66]; omega) (v := none) (fun _ => rfl)
    refine ⟨_, _, X66.returnOut hx Bd.returns (hb hby own_d6_184) hr, hrun, hended, _, _, rfl, ?_, own_monoW hRW (by rw [y14]; decide) (by rw [z14]; decide)⟩
    refine ⟨?_, ⟨_, own_litW Lq14 X66.warmed.wide⟩⟩
    show own_Q6_0 Z a_1 p_2 a_3 wh wst wb gh gs gb bs w_occ (0 : Int32) y0 y1 y2 h0 n0 _ T66.heap _
    rw [e66]
    have f69 : own_AV Z h66 wst .int (65 : Int32) (own_upd gs 1 (.int (bs + (0 : Int32)))) := ((V57.other W62 (own_ne (by omega))).other W66 (own_ne (by omega)))
    have f70 : own_AV Z h66 wb .int (64 : Int32) (own_cpf (own_n3 y0 y1 y2) ((0 : Int32)).toNatClampNeg gb (bs).toNatClampNeg ((0 : Int32)).toNatClampNeg) := ((((V39.other W47 (own_ne (by omega))).other W57 (own_ne (by omega))).other W62 (own_ne (by omega))).other W66 (own_ne (by omega)))
    have f71 : Exa Z h66 a_1 "com/example/kalchas/kalchas/propositional/HornClauses" := (f64.wr W66)
    have f72 : Fld Z h66 a_1 "com/example/kalchas/kalchas/propositional/HornClauses" "variableCount" "I" (.int (3 : Int32)) := ((((((pr_F_a_1_variableCount.keep K14q nin0).keep Kq39 (ninS (own_ne (by omega)) nin0)).other W47 (Or.inl (own_ne (by omega)))).other W57 (Or.inl (own_ne (by omega)))).other W62 (Or.inr (slot_ne (Or.inl w_31) (Or.inl w_54) (by decide) (t := .int) (t' := .int) (by decide) (by decide)))).other W66 (Or.inr (slot_ne (Or.inl w_31) (Or.inl w_29) (by decide) (t := .int) (t' := (.array .int)) (by decide) (by decide))))
    have f73 : Fld Z h66 a_1 "com/example/kalchas/kalchas/propositional/HornClauses" "clauseCount" "I" (.int (1 : Int32)) := (Fw62.other W66 (Or.inr (slot_ne (Or.inl w_54) (Or.inl w_29) (by decide) (t := .int) (t' := (.array .int)) (by decide) (by decide))))
    have f74 : Fld Z h66 a_1 "com/example/kalchas/kalchas/propositional/HornClauses" "heads" "[I" (.ref wh) := ((((f41.other W47 (Or.inl (own_ne (by omega)))).other W57 (Or.inl (own_ne (by omega)))).other W62 (Or.inr (slot_ne (Or.inl w_18) (Or.inl w_54) (by decide) (t := (.array .int)) (t' := .int) (by decide) (by decide)))).other W66 (Or.inr (slot_ne (Or.inl w_18) (Or.inl w_29) (by decide) (t := (.array .int)) (t' := (.array .int)) (by decide) (by decide))))
    have f75 : Fld Z h66 a_1 "com/example/kalchas/kalchas/propositional/HornClauses" "bodyStarts" "[I" (.ref wst) := (((f49.other W57 (Or.inl (own_ne (by omega)))).other W62 (Or.inr (slot_ne (Or.inl w_20) (Or.inl w_54) (by decide) (t := (.array .int)) (t' := .int) (by decide) (by decide)))).other W66 (Or.inr (slot_ne (Or.inl w_20) (Or.inl w_29) (by decide) (t := (.array .int)) (t' := (.array .int)) (by decide) (by decide))))
    have f76 : Fld Z h66 a_1 "com/example/kalchas/kalchas/propositional/HornClauses" "bodies" "[I" (.ref wb) := (((((f32.keep Kq39 (ninS (own_ne (by omega)) nin0)).other W47 (Or.inl (own_ne (by omega)))).other W57 (Or.inl (own_ne (by omega)))).other W62 (Or.inr (slot_ne (Or.inl w_22) (Or.inl w_54) (by decide) (t := (.array .int)) (t' := .int) (by decide) (by decide)))).other W66 (Or.inr (slot_ne (Or.inl w_22) (Or.inl w_29) (by decide) (t := (.array .int)) (t' := (.array .int)) (by decide) (by decide))))
    have f77 : own_AV Z h66 wh .int (64 : Int32) (own_upd gh 0 (.int p_2)) := (((V47.other W57 (own_ne (by omega))).other W62 (own_ne (by omega))).other W66 (own_ne (by omega)))
    exact ⟨rfl, N66, K66, f71, f72, f73, f74, f75, f76, Fw66, f77, f69, f70⟩
  · subst hs13
    show own_Go _ _ _ _ s₁ (mkF m 0 #[.val (.ref a_1), .val (.int p_2), .val (.ref a_3), .unset, .unset, .unset, .unset] [])
    refine own_go (fun _ k => XS.aloadN X0.here hx rfl (hb hby own_d6_0) rfl rfl k) ?_
    show own_Go _ _ _ _ s₁ (mkF m 1 #[.val (.ref a_1), .val (.int p_2), .val (.ref a_3), .unset, .unset, .unset, .unset] [(.ref a_1)])
    refine own_go (fun _ k => XS.iloadN X0.here hx rfl (hb hby own_d6_1) rfl k) ?_
    show own_Go _ _ _ _ s₁ (mkF m 2 #[.val (.ref a_1), .val (.int p_2), .val (.ref a_3), .unset, .unset, .unset, .unset] [(.int p_2), (.ref a_1)])
    obtain ⟨cq78, kq78, q78a, q78b, q78c⟩ := isOf hZ e0 pr_E_a_1
    obtain ⟨_, _, ⟨T78, L78, k78, n78⟩, -, X78, hS78, gr78, ⟨Lc78, ⟨hQ78, hV78⟩, l78, y78, z78⟩, st78⟩ := X0.virtualBackS hx (y := (⟨"com/example/kalchas/kalchas/propositional/HornClauses", "checkVariable", "(I)V"⟩ : MethodName)) (z := (⟨"com/example/kalchas/kalchas/propositional/HornClauses", "checkVariable", "(I)V"⟩ : MethodName)) hown (mvT hZ w_37) (mvT hZ w_38) (notFace_of_selects (args := #[]) (mvT hZ w_40)) (mvT hZ w_40) (mvT hZ w_39) (by decide) (own_backL (PV := (fun _ => True)) (QV := (own_LP Z "com/example/kalchas/kalchas/propositional/HornClauses" 178)) (W := 0) (own_rm7c l Z a0 hw [] a_1 p_2 (3 : Int32) h0 n0 (by omega) (show ¬ (p_2 < 0) by first | assumption | omega | decide) (show p_2 < (3 : Int32) by first | assumption | omega | decide) pr_F_a_1_variableCount) hZ w_41 w_10 (by decide) (by decide) (fun _ _ => trivial)) q78a q78c (g := (mkF m 2 #[.val (.ref a_1), .val (.int p_2), .val (.ref a_3), .unset, .unset, .unset, .unset] [(.int p_2), (.ref a_1)])) rfl (by rw [hml]; rfl) (Steps.refl _) (argsL := [(.int p_2)]) (rest := []) (lenOf own_pd1 rfl) rfl (by show 2 * 0 + _ ≤ _; exact Nat.le_of_eq rfl) (hb hby own_d6_2) (fun _ _ => ⟨rfl, e0, (by decide : 0 + 2 ≤ _), (by decide : 0 + 36 ≤ _)⟩)
    dsimp only [Pt.U, Pt.locs, Pt.cells, Pt.slots] at X78 l78 y78 z78 st78 hQ78 hS78 gr78 hV78
    have y78 : k78 = 2 := y78
    have z78 : n78 = 36 := z78
    have Wn78 := hS78.1
    obtain ⟨X78, hS78, hZ, hown⟩ := rebS hS0 (n1 := s₁.heap.size) (by rw [e0]; omega) X78 hS78 gr78 hZ hown
    obtain ⟨bL78, Lq78⟩ := hV78
    have Lq78 : Lit (s.setVm T78.vm) "com/example/kalchas/kalchas/propositional/HornClauses" 178 bL78 := Lq78
    obtain ⟨rfl, N78q, K78q⟩ := hQ78
    have N78 : Fr n0 L78 := by rw [l78]; exact Fr.app N0 N78q
    have z79 := K78q.1
    have K78 : Keep h0 T78.heap [a_1, wh, wst, wb] := K0.trans K78q all0
    refine own_go (fun _ k => st78.trans k) ?_
    show own_Go _ _ _ _ T78 (mkF m 5 #[.val (.ref a_1), .val (.int p_2), .val (.ref a_3), .unset, .unset, .unset, .unset] [])
    refine own_go (fun _ k => XS.aloadN X78.here hx rfl (hb hby own_d6_5) rfl rfl k) ?_
    show own_Go _ _ _ _ T78 (mkF m 6 #[.val (.ref a_1), .val (.int p_2), .val (.ref a_3), .unset, .unset, .unset, .unset] [(.ref a_3)])
    refine own_go (fun _ k => XS.astoreN X78.here hx rfl (hb hby own_d6_6) rfl rfl (l' := #[.val (.ref a_1), .val (.int p_2), .val (.ref a_3), .val (.ref a_3), .unset, .unset, .unset]) rfl k) ?_
    show own_Go _ _ _ _ T78 (mkF m 7 #[.val (.ref a_1), .val (.int p_2), .val (.ref a_3), .val (.ref a_3), .unset, .unset, .unset] [])
    refine own_go (fun _ k => XS.aloadN X78.here hx rfl (hb hby own_d6_7) rfl rfl k) ?_
    show own_Go _ _ _ _ T78 (mkF m 8 #[.val (.ref a_1), .val (.int p_2), .val (.ref a_3), .val (.ref a_3), .unset, .unset, .unset] [(.ref a_3)])
    have f80 : own_AV Z T78.heap a_3 .int (1 : Int32) (own_n3 y0 y1 y2) := (pr_A_a_3.keep K78q nin0)
    obtain ⟨q81, c81, R81, s81, t81⟩ := id f80
    refine own_go (fun _ k => X78.arraylength hx R81.1 (State.isArrayOf_alike hZ.alike R81.2.1) (g := (mkF m 8 #[.val (.ref a_1), .val (.int p_2), .val (.ref a_3), .val (.ref a_3), .unset, .unset, .unset] [(.ref a_3)])) rfl rfl (hb hby own_d6_8) _ k) ?_
    rw [len_of s81 q81]
    show own_Go _ _ _ _ T78 (mkF m 9 #[.val (.ref a_1), .val (.int p_2), .val (.ref a_3), .val (.ref a_3), .unset, .unset, .unset] [(.int (1 : Int32))])
    refine own_go (fun _ k => XS.istore X78.here hx rfl (hb hby own_d6_9) rfl (l' := #[.val (.ref a_1), .val (.int p_2), .val (.ref a_3), .val (.ref a_3), .val (.int (1 : Int32)), .unset, .unset]) rfl k) ?_
    show own_Go _ _ _ _ T78 (mkF m 11 #[.val (.ref a_1), .val (.int p_2), .val (.ref a_3), .val (.ref a_3), .val (.int (1 : Int32)), .unset, .unset] [])
    refine own_go (fun _ k => XS.iconst X78.here hx rfl (hb hby own_d6_11) k) ?_
    show own_Go _ _ _ _ T78 (mkF m 12 #[.val (.ref a_1), .val (.int p_2), .val (.ref a_3), .val (.ref a_3), .val (.int (1 : Int32)), .unset, .unset] [(.int (0 : Int32))])
    refine own_go (fun _ k => XS.istore X78.here hx rfl (hb hby own_d6_12) rfl (l' := #[.val (.ref a_1), .val (.int p_2), .val (.ref a_3), .val (.ref a_3), .val (.int (1 : Int32)), .val (.int (0 : Int32)), .unset]) rfl k) ?_
    show own_Go _ _ _ _ T78 (mkF m 14 #[.val (.ref a_1), .val (.int p_2), .val (.ref a_3), .val (.ref a_3), .val (.int (1 : Int32)), .val (.int (0 : Int32)), .unset] [])
    refine own_go (fun _ k => XS.iload X78.here hx rfl (hb hby own_d6_14) rfl k) ?_
    show own_Go _ _ _ _ T78 (mkF m 16 #[.val (.ref a_1), .val (.int p_2), .val (.ref a_3), .val (.ref a_3), .val (.int (1 : Int32)), .val (.int (0 : Int32)), .unset] [(.int (0 : Int32))])
    refine own_go (fun _ k => XS.iload X78.here hx rfl (hb hby own_d6_16) rfl k) ?_
    show own_Go _ _ _ _ T78 (mkF m 18 #[.val (.ref a_1), .val (.int p_2), .val (.ref a_3), .val (.ref a_3), .val (.int (1 : Int32)), .val (.int (0 : Int32)), .unset] [(.int (1 : Int32)), (.int (0 : Int32))])
    have hc82 : (0 : Int32) < (1 : Int32) := by decide
    refine own_go (fun _ k => XS.icmpNo X78.here hx rfl (hb hby own_d6_18) rfl (Jvm.Free.XT.ii_ge_f hc82) k) ?_
    show own_Go _ _ _ _ T78 (mkF m 21 #[.val (.ref a_1), .val (.int p_2), .val (.ref a_3), .val (.ref a_3), .val (.int (1 : Int32)), .val (.int (0 : Int32)), .unset] [])
    refine own_go (fun _ k => XS.aloadN X78.here hx rfl (hb hby own_d6_21) rfl rfl k) ?_
    show own_Go _ _ _ _ T78 (mkF m 22 #[.val (.ref a_1), .val (.int p_2), .val (.ref a_3), .val (.ref a_3), .val (.int (1 : Int32)), .val (.int (0 : Int32)), .unset] [(.ref a_3)])
    refine own_go (fun _ k => XS.iload X78.here hx rfl (hb hby own_d6_22) rfl k) ?_
    show own_Go _ _ _ _ T78 (mkF m 24 #[.val (.ref a_1), .val (.int p_2), .val (.ref a_3), .val (.ref a_3), .val (.int (1 : Int32)), .val (.int (0 : Int32)), .unset] [(.int (0 : Int32)), (.ref a_3)])
    obtain ⟨q83, c83, R83, s83, t83⟩ := id f80
    have hin83 : ¬ ((0 : Int32) < 0 ∨ c83.slots.size ≤ ((0 : Int32)).toNatClampNeg) := inb_of s83 ⟨by decide, by decide⟩
    have u83 : c83.slots[((0 : Int32)).toNatClampNeg]? = some (.int y0) := own_at (k := 0) t83 s83 hin83 (by decide) (rfl)
    refine own_go (fun _ k => X78.iaload hx (j := (0 : Int32)) (v := (.int y0)) R83.1 (State.isArrayOf_alike hZ.alike R83.2.1) R83.2.2 hin83 u83 (g := (mkF m 24 #[.val (.ref a_1), .val (.int p_2), .val (.ref a_3), .val (.ref a_3), .val (.int (1 : Int32)), .val (.int (0 : Int32)), .unset] [(.int (0 : Int32)), (.ref a_3)])) rfl rfl (hb hby own_d6_24) _ k) ?_
    show own_Go _ _ _ _ T78 (mkF m 25 #[.val (.ref a_1), .val (.int p_2), .val (.ref a_3), .val (.ref a_3), .val (.int (1 : Int32)), .val (.int (0 : Int32)), .unset] [(.int y0)])
    refine own_go (fun _ k => XS.istore X78.here hx rfl (hb hby own_d6_25) rfl (l' := #[.val (.ref a_1), .val (.int p_2), .val (.ref a_3), .val (.ref a_3), .val (.int (1 : Int32)), .val (.int (0 : Int32)), .val (.int y0)]) rfl k) ?_
    show own_Go _ _ _ _ T78 (mkF m 27 #[.val (.ref a_1), .val (.int p_2), .val (.ref a_3), .val (.ref a_3), .val (.int (1 : Int32)), .val (.int (0 : Int32)), .val (.int y0)] [])
    refine own_go (fun _ k => XS.aloadN X78.here hx rfl (hb hby own_d6_27) rfl rfl k) ?_
    show own_Go _ _ _ _ T78 (mkF m 28 #[.val (.ref a_1), .val (.int p_2), .val (.ref a_3), .val (.ref a_3), .val (.int (1 : Int32)), .val (.int (0 : Int32)), .val (.int y0)] [(.ref a_1)])
    refine own_go (fun _ k => XS.iload X78.here hx rfl (hb hby own_d6_28) rfl k) ?_
    show own_Go _ _ _ _ T78 (mkF m 30 #[.val (.ref a_1), .val (.int p_2), .val (.ref a_3), .val (.ref a_3), .val (.int (1 : Int32)), .val (.int (0 : Int32)), .val (.int y0)] [(.int y0), (.ref a_1)])
    have f84 : Fld Z T78.heap a_1 "com/example/kalchas/kalchas/propositional/HornClauses" "variableCount" "I" (.int (3 : Int32)) := (pr_F_a_1_variableCount.keep K78q nin0)
    have f86 : Exa Z T78.heap a_1 "com/example/kalchas/kalchas/propositional/HornClauses" := (pr_E_a_1.keep K78q)
    obtain ⟨cq85, kq85, q85a, q85b, q85c⟩ := isOf hZ rfl f86
    obtain ⟨_, _, ⟨T85, L85, k85, n85⟩, -, X85, hS85, gr85, ⟨Lc85, ⟨hQ85, hV85⟩, l85, y85, z85⟩, st85⟩ := X78.virtualBackS hx (y := (⟨"com/example/kalchas/kalchas/propositional/HornClauses", "checkVariable", "(I)V"⟩ : MethodName)) (z := (⟨"com/example/kalchas/kalchas/propositional/HornClauses", "checkVariable", "(I)V"⟩ : MethodName)) hown (mvT hZ w_37) (mvT hZ w_38) (notFace_of_selects (args := #[]) (mvT hZ w_40)) (mvT hZ w_40) (mvT hZ w_39) (by decide) (own_backL (PV := (own_LP Z "com/example/kalchas/kalchas/propositional/HornClauses" 178)) (QV := (fun _ => True)) (W := 0) (own_rm7w l Z a0 hw [] a_1 y0 (3 : Int32) T78.heap n0 (by omega) (show ¬ (y0 < 0) by first | assumption | omega | decide) (show y0 < (3 : Int32) by first | assumption | omega | decide) f84) hZ w_41 w_10 (by decide) (by decide) (fun _ q => ⟨_, own_litW Lq78 q⟩)) q85a q85c (g := (mkF m 30 #[.val (.ref a_1), .val (.int p_2), .val (.ref a_3), .val (.ref a_3), .val (.int (1 : Int32)), .val (.int (0 : Int32)), .val (.int y0)] [(.int y0), (.ref a_1)])) rfl (by rw [hml]; rfl) (Steps.refl _) (argsL := [(.int y0)]) (rest := []) (lenOf own_pd1 rfl) rfl (by show 2 * 0 + _ ≤ _; exact Nat.le_of_eq rfl) (hb hby own_d6_30) (fun _ _ => ⟨rfl, rfl, (by show k78 + _ ≤ _; rw [y78]; decide), (by show n78 + _ ≤ _; rw [z78]; decide)⟩)
    dsimp only [Pt.U, Pt.locs, Pt.cells, Pt.slots] at X85 l85 y85 z85 st85 hQ85 hS85 gr85 hV85
    have y85 : k85 = 2 := own_addeq y85 (congrArg (fun q => q) y78) rfl
    have z85 : n85 = 36 := own_addeq z85 (congrArg (fun q => q) z78) rfl
    have Wn85 := hS85.1
    have Li87 := Lq78.stays Wn85
    obtain ⟨X85, hS85, hZ, hown⟩ := rebS hS78 (n1 := T78.heap.size) (by omega) X85 hS85 gr85 hZ hown
    obtain ⟨rfl, N85q, e85⟩ := hQ85
    have N85 : Fr n0 L85 := by rw [l85]; exact Fr.app N78 N85q
    have z88 : T85.heap.size = T78.heap.size := congrArg Array.size e85
    refine own_go (fun _ k => st85.trans k) ?_
    show own_Go _ _ _ _ T85 (mkF m 33 #[.val (.ref a_1), .val (.int p_2), .val (.ref a_3), .val (.ref a_3), .val (.int (1 : Int32)), .val (.int (0 : Int32)), .val (.int y0)] [])
    refine own_go (fun _ k => XS.iinc X85.here hx rfl (hb hby own_d6_33) rfl (l' := #[.val (.ref a_1), .val (.int p_2), .val (.ref a_3), .val (.ref a_3), .val (.int (1 : Int32)), .val (.int (1 : Int32)), .val (.int y0)]) rfl k) ?_
    show own_Go _ _ _ _ T85 (mkF m 36 #[.val (.ref a_1), .val (.int p_2), .val (.ref a_3), .val (.ref a_3), .val (.int (1 : Int32)), .val (.int (1 : Int32)), .val (.int y0)] [])
    refine own_go (fun _ k => XS.goto X85.here hx rfl (pc0 := 36) (pc' := 14) rfl (hb hby own_d6_36) (by decide) (by decide) k) ?_
    show own_Go _ _ _ _ T85 (mkF m 14 #[.val (.ref a_1), .val (.int p_2), .val (.ref a_3), .val (.ref a_3), .val (.int (1 : Int32)), .val (.int (1 : Int32)), .val (.int y0)] [])
    refine own_go (fun _ k => XS.iload X85.here hx rfl (hb hby own_d6_14) rfl k) ?_
    show own_Go _ _ _ _ T85 (mkF m 16 #[.val (.ref a_1), .val (.int p_2), .val (.ref a_3), .val (.ref a_3), .val (.int (1 : Int32)), .val (.int (1 : Int32)), .val (.int y0)] [(.int (1 : Int32))])
    refine own_go (fun _ k => XS.iload X85.here hx rfl (hb hby own_d6_16) rfl k) ?_
    show own_Go _ _ _ _ T85 (mkF m 18 #[.val (.ref a_1), .val (.int p_2), .val (.ref a_3), .val (.ref a_3), .val (.int (1 : Int32)), .val (.int (1 : Int32)), .val (.int y0)] [(.int (1 : Int32)), (.int (1 : Int32))])
    have hc89 : ¬ ((1 : Int32) < (1 : Int32)) := by decide
    refine own_go (fun _ k => XS.icmpYes X85.here hx rfl (pc0 := 18) (pc' := 39) rfl (hb hby own_d6_18) rfl (Jvm.Free.XT.ii_ge_t hc89) (by decide) (by decide) k) ?_
    show own_Go _ _ _ _ T85 (mkF m 39 #[.val (.ref a_1), .val (.int p_2), .val (.ref a_3), .val (.ref a_3), .val (.int (1 : Int32)), .val (.int (1 : Int32)), .val (.int y0)] [])
    refine own_go (fun _ k => XS.aloadN X85.here hx rfl (hb hby own_d6_39) rfl rfl k) ?_
    show own_Go _ _ _ _ T85 (mkF m 40 #[.val (.ref a_1), .val (.int p_2), .val (.ref a_3), .val (.ref a_3), .val (.int (1 : Int32)), .val (.int (1 : Int32)), .val (.int y0)] [(.ref a_1)])
    have f90 : Fld Z T78.heap a_1 "com/example/kalchas/kalchas/propositional/HornClauses" "clauseCount" "I" (.int (0 : Int32)) := (pr_F_a_1_clauseCount.keep K78q nin0)
    obtain ⟨T91, X91, e91, st91⟩ := getF X85 hx hZ hown (host := "") (Or.inl w_53) Via.refl e85 f90 (g := (mkF m 40 #[.val (.ref a_1), .val (.int p_2), .val (.ref a_3), .val (.ref a_3), .val (.int (1 : Int32)), .val (.int (1 : Int32)), .val (.int y0)] [(.ref a_1)])) rfl rfl (hb hby own_d6_40)
    refine own_go (fun _ k => st91 _ k) ?_
    show own_Go _ _ _ _ T91 (mkF m 43 #[.val (.ref a_1), .val (.int p_2), .val (.ref a_3), .val (.ref a_3), .val (.int (1 : Int32)), .val (.int (1 : Int32)), .val (.int y0)] [(.int (0 : Int32))])
    refine own_go (fun _ k => XS.aloadN X91.here hx rfl (hb hby own_d6_43) rfl rfl k) ?_
    show own_Go _ _ _ _ T91 (mkF m 44 #[.val (.ref a_1), .val (.int p_2), .val (.ref a_3), .val (.ref a_3), .val (.int (1 : Int32)), .val (.int (1 : Int32)), .val (.int y0)] [(.ref a_1), (.int (0 : Int32))])
    have f92 : Fld Z T78.heap a_1 "com/example/kalchas/kalchas/propositional/HornClauses" "heads" "[I" (.ref wh) := (pr_F_a_1_heads.keep K78q nin0)
    obtain ⟨T93, X93, e93, st93⟩ := getF X91 hx hZ hown (host := "") (Or.inl w_17) Via.refl e91 f92 (g := (mkF m 44 #[.val (.ref a_1), .val (.int p_2), .val (.ref a_3), .val (.ref a_3), .val (.int (1 : Int32)), .val (.int (1 : Int32)), .val (.int y0)] [(.ref a_1), (.int (0 : Int32))])) rfl rfl (hb hby own_d6_44)
    refine own_go (fun _ k => st93 _ k) ?_
    show own_Go _ _ _ _ T93 (mkF m 47 #[.val (.ref a_1), .val (.int p_2), .val (.ref a_3), .val (.ref a_3), .val (.int (1 : Int32)), .val (.int (1 : Int32)), .val (.int y0)] [(.ref wh), (.int (0 : Int32))])
    have f94 : own_AV Z T78.heap wh .int (64 : Int32) gh := (pr_A_wh.keep K78q nin0)
    obtain ⟨q95, c95, R95, s95, t95⟩ := id f94
    refine own_go (fun _ k => X93.arraylength hx (by rw [e93]; exact R95.1) (State.isArrayOf_alike hZ.alike R95.2.1) (g := (mkF m 47 #[.val (.ref a_1), .val (.int p_2), .val (.ref a_3), .val (.ref a_3), .val (.int (1 : Int32)), .val (.int (1 : Int32)), .val (.int y0)] [(.ref wh), (.int (0 : Int32))])) rfl rfl (hb hby own_d6_47) _ k) ?_
    rw [len_of s95 q95]
    show own_Go _ _ _ _ T93 (mkF m 48 #[.val (.ref a_1), .val (.int p_2), .val (.ref a_3), .val (.ref a_3), .val (.int (1 : Int32)), .val (.int (1 : Int32)), .val (.int y0)] [(.int (64 : Int32)), (.int (0 : Int32))])
    have hc96 : ¬ ((0 : Int32) = (64 : Int32)) := by decide
    refine own_go (fun _ k => XS.icmpYes X93.here hx rfl (pc0 := 48) (pc' := 85) rfl (hb hby own_d6_48) rfl (Jvm.Free.XT.ii_ne_t hc96) (by decide) (by decide) k) ?_
    show own_Go _ _ _ _ T93 (mkF m 85 #[.val (.ref a_1), .val (.int p_2), .val (.ref a_3), .val (.ref a_3), .val (.int (1 : Int32)), .val (.int (1 : Int32)), .val (.int y0)] [])
    refine own_go (fun _ k => XS.aloadN X93.here hx rfl (hb hby own_d6_85) rfl rfl k) ?_
    show own_Go _ _ _ _ T93 (mkF m 86 #[.val (.ref a_1), .val (.int p_2), .val (.ref a_3), .val (.ref a_3), .val (.int (1 : Int32)), .val (.int (1 : Int32)), .val (.int y0)] [(.ref a_1)])
    have f97 : Fld Z T78.heap a_1 "com/example/kalchas/kalchas/propositional/HornClauses" "bodyStarts" "[I" (.ref wst) := (pr_F_a_1_bodyStarts.keep K78q nin0)
    obtain ⟨T98, X98, e98, st98⟩ := getF X93 hx hZ hown (host := "") (Or.inl w_19) Via.refl e93 f97 (g := (mkF m 86 #[.val (.ref a_1), .val (.int p_2), .val (.ref a_3), .val (.ref a_3), .val (.int (1 : Int32)), .val (.int (1 : Int32)), .val (.int y0)] [(.ref a_1)])) rfl rfl (hb hby own_d6_86)
    refine own_go (fun _ k => st98 _ k) ?_
    show own_Go _ _ _ _ T98 (mkF m 89 #[.val (.ref a_1), .val (.int p_2), .val (.ref a_3), .val (.ref a_3), .val (.int (1 : Int32)), .val (.int (1 : Int32)), .val (.int y0)] [(.ref wst)])
    refine own_go (fun _ k => XS.aloadN X98.here hx rfl (hb hby own_d6_89) rfl rfl k) ?_
    show own_Go _ _ _ _ T98 (mkF m 90 #[.val (.ref a_1), .val (.int p_2), .val (.ref a_3), .val (.ref a_3), .val (.int (1 : Int32)), .val (.int (1 : Int32)), .val (.int y0)] [(.ref a_1), (.ref wst)])
    obtain ⟨T99, X99, e99, st99⟩ := getF X98 hx hZ hown (host := "") (Or.inl w_53) Via.refl e98 f90 (g := (mkF m 90 #[.val (.ref a_1), .val (.int p_2), .val (.ref a_3), .val (.ref a_3), .val (.int (1 : Int32)), .val (.int (1 : Int32)), .val (.int y0)] [(.ref a_1), (.ref wst)])) rfl rfl (hb hby own_d6_90)
    refine own_go (fun _ k => st99 _ k) ?_
    show own_Go _ _ _ _ T99 (mkF m 93 #[.val (.ref a_1), .val (.int p_2), .val (.ref a_3), .val (.ref a_3), .val (.int (1 : Int32)), .val (.int (1 : Int32)), .val (.int y0)] [(.int (0 : Int32)), (.ref wst)])
    have f100 : own_AV Z T78.heap wst .int (65 : Int32) gs := (pr_A_wst.keep K78q nin0)
    obtain ⟨q101, c101, R101, s101, t101⟩ := id f100
    have hin101 : ¬ ((0 : Int32) < 0 ∨ c101.slots.size ≤ ((0 : Int32)).toNatClampNeg) := inb_of s101 ⟨by decide, by decide⟩
    have u101 : c101.slots[((0 : Int32)).toNatClampNeg]? = some (.int bs) := own_at (k := 0) t101 s101 hin101 (by decide) (hgs)
    refine own_go (fun _ k => X99.iaload hx (j := (0 : Int32)) (v := (.int bs)) (by rw [e99]; exact R101.1) (State.isArrayOf_alike hZ.alike R101.2.1) R101.2.2 hin101 u101 (g := (mkF m 93 #[.val (.ref a_1), .val (.int p_2), .val (.ref a_3), .val (.ref a_3), .val (.int (1 : Int32)), .val (.int (1 : Int32)), .val (.int y0)] [(.int (0 : Int32)), (.ref wst)])) rfl rfl (hb hby own_d6_93) _ k) ?_
    show own_Go _ _ _ _ T99 (mkF m 94 #[.val (.ref a_1), .val (.int p_2), .val (.ref a_3), .val (.ref a_3), .val (.int (1 : Int32)), .val (.int (1 : Int32)), .val (.int y0)] [(.int bs)])
    refine own_go (fun _ k => XS.istoreN X99.here hx rfl (hb hby own_d6_94) rfl (l' := #[.val (.ref a_1), .val (.int p_2), .val (.ref a_3), .val (.int bs), .val (.int (1 : Int32)), .val (.int (1 : Int32)), .val (.int y0)]) rfl k) ?_
    show own_Go _ _ _ _ T99 (mkF m 95 #[.val (.ref a_1), .val (.int p_2), .val (.ref a_3), .val (.int bs), .val (.int (1 : Int32)), .val (.int (1 : Int32)), .val (.int y0)] [])
    refine own_go (fun _ k => XS.iloadN X99.here hx rfl (hb hby own_d6_95) rfl k) ?_
    show own_Go _ _ _ _ T99 (mkF m 96 #[.val (.ref a_1), .val (.int p_2), .val (.ref a_3), .val (.int bs), .val (.int (1 : Int32)), .val (.int (1 : Int32)), .val (.int y0)] [(.int bs)])
    refine own_go (fun _ k => XS.aloadN X99.here hx rfl (hb hby own_d6_96) rfl rfl k) ?_
    show own_Go _ _ _ _ T99 (mkF m 97 #[.val (.ref a_1), .val (.int p_2), .val (.ref a_3), .val (.int bs), .val (.int (1 : Int32)), .val (.int (1 : Int32)), .val (.int y0)] [(.ref a_3), (.int bs)])
    obtain ⟨q102, c102, R102, s102, t102⟩ := id f80
    refine own_go (fun _ k => X99.arraylength hx (by rw [e99]; exact R102.1) (State.isArrayOf_alike hZ.alike R102.2.1) (g := (mkF m 97 #[.val (.ref a_1), .val (.int p_2), .val (.ref a_3), .val (.int bs), .val (.int (1 : Int32)), .val (.int (1 : Int32)), .val (.int y0)] [(.ref a_3), (.int bs)])) rfl rfl (hb hby own_d6_97) _ k) ?_
    rw [len_of s102 q102]
    show own_Go _ _ _ _ T99 (mkF m 98 #[.val (.ref a_1), .val (.int p_2), .val (.ref a_3), .val (.int bs), .val (.int (1 : Int32)), .val (.int (1 : Int32)), .val (.int y0)] [(.int (1 : Int32)), (.int bs)])
    refine own_go (fun _ k => XS.iadd X99.here hx rfl (hb hby own_d6_98) rfl k) ?_
    show own_Go _ _ _ _ T99 (mkF m 99 #[.val (.ref a_1), .val (.int p_2), .val (.ref a_3), .val (.int bs), .val (.int (1 : Int32)), .val (.int (1 : Int32)), .val (.int y0)] [(.int (bs + (1 : Int32)))])
    refine own_go (fun _ k => XS.aloadN X99.here hx rfl (hb hby own_d6_99) rfl rfl k) ?_
    show own_Go _ _ _ _ T99 (mkF m 100 #[.val (.ref a_1), .val (.int p_2), .val (.ref a_3), .val (.int bs), .val (.int (1 : Int32)), .val (.int (1 : Int32)), .val (.int y0)] [(.ref a_1), (.int (bs + (1 : Int32)))])
    have f103 : Fld Z T78.heap a_1 "com/example/kalchas/kalchas/propositional/HornClauses" "bodies" "[I" (.ref wb) := (pr_F_a_1_bodies.keep K78q nin0)
    obtain ⟨T104, X104, e104, st104⟩ := getF X99 hx hZ hown (host := "") (Or.inl w_21) Via.refl e99 f103 (g := (mkF m 100 #[.val (.ref a_1), .val (.int p_2), .val (.ref a_3), .val (.int bs), .val (.int (1 : Int32)), .val (.int (1 : Int32)), .val (.int y0)] [(.ref a_1), (.int (bs + (1 : Int32)))])) rfl rfl (hb hby own_d6_100)
    refine own_go (fun _ k => st104 _ k) ?_
    show own_Go _ _ _ _ T104 (mkF m 103 #[.val (.ref a_1), .val (.int p_2), .val (.ref a_3), .val (.int bs), .val (.int (1 : Int32)), .val (.int (1 : Int32)), .val (.int y0)] [(.ref wb), (.int (bs + (1 : Int32)))])
    have f105 : own_AV Z T78.heap wb .int (64 : Int32) gb := (pr_A_wb.keep K78q nin0)
    obtain ⟨q106, c106, R106, s106, t106⟩ := id f105
    refine own_go (fun _ k => X104.arraylength hx (by rw [e104]; exact R106.1) (State.isArrayOf_alike hZ.alike R106.2.1) (g := (mkF m 103 #[.val (.ref a_1), .val (.int p_2), .val (.ref a_3), .val (.int bs), .val (.int (1 : Int32)), .val (.int (1 : Int32)), .val (.int y0)] [(.ref wb), (.int (bs + (1 : Int32)))])) rfl rfl (hb hby own_d6_103) _ k) ?_
    rw [len_of s106 q106]
    show own_Go _ _ _ _ T104 (mkF m 104 #[.val (.ref a_1), .val (.int p_2), .val (.ref a_3), .val (.int bs), .val (.int (1 : Int32)), .val (.int (1 : Int32)), .val (.int y0)] [(.int (64 : Int32)), (.int (bs + (1 : Int32)))])
    have hc107 : ¬ ((64 : Int32) < (bs + (1 : Int32))) := own_t6_0_3 bs hbs
    refine own_go (fun _ k => XS.icmpYes X104.here hx rfl (pc0 := 104) (pc' := 132) rfl (hb hby own_d6_104) rfl (Jvm.Free.XT.ii_le_t hc107) (by decide) (by decide) k) ?_
    show own_Go _ _ _ _ T104 (mkF m 132 #[.val (.ref a_1), .val (.int p_2), .val (.ref a_3), .val (.int bs), .val (.int (1 : Int32)), .val (.int (1 : Int32)), .val (.int y0)] [])
    refine own_go (fun _ k => XS.aloadN X104.here hx rfl (hb hby own_d6_132) rfl rfl k) ?_
    show own_Go _ _ _ _ T104 (mkF m 133 #[.val (.ref a_1), .val (.int p_2), .val (.ref a_3), .val (.int bs), .val (.int (1 : Int32)), .val (.int (1 : Int32)), .val (.int y0)] [(.ref a_3)])
    refine own_go (fun _ k => XS.iconst X104.here hx rfl (hb hby own_d6_133) k) ?_
    show own_Go _ _ _ _ T104 (mkF m 134 #[.val (.ref a_1), .val (.int p_2), .val (.ref a_3), .val (.int bs), .val (.int (1 : Int32)), .val (.int (1 : Int32)), .val (.int y0)] [(.int (0 : Int32)), (.ref a_3)])
    refine own_go (fun _ k => XS.aloadN X104.here hx rfl (hb hby own_d6_134) rfl rfl k) ?_
    show own_Go _ _ _ _ T104 (mkF m 135 #[.val (.ref a_1), .val (.int p_2), .val (.ref a_3), .val (.int bs), .val (.int (1 : Int32)), .val (.int (1 : Int32)), .val (.int y0)] [(.ref a_1), (.int (0 : Int32)), (.ref a_3)])
    obtain ⟨T108, X108, e108, st108⟩ := getF X104 hx hZ hown (host := "") (Or.inl w_21) Via.refl e104 f103 (g := (mkF m 135 #[.val (.ref a_1), .val (.int p_2), .val (.ref a_3), .val (.int bs), .val (.int (1 : Int32)), .val (.int (1 : Int32)), .val (.int y0)] [(.ref a_1), (.int (0 : Int32)), (.ref a_3)])) rfl rfl (hb hby own_d6_135)
    refine own_go (fun _ k => st108 _ k) ?_
    show own_Go _ _ _ _ T108 (mkF m 138 #[.val (.ref a_1), .val (.int p_2), .val (.ref a_3), .val (.int bs), .val (.int (1 : Int32)), .val (.int (1 : Int32)), .val (.int y0)] [(.ref wb), (.int (0 : Int32)), (.ref a_3)])
    refine own_go (fun _ k => XS.iloadN X108.here hx rfl (hb hby own_d6_138) rfl k) ?_
    show own_Go _ _ _ _ T108 (mkF m 139 #[.val (.ref a_1), .val (.int p_2), .val (.ref a_3), .val (.int bs), .val (.int (1 : Int32)), .val (.int (1 : Int32)), .val (.int y0)] [(.int bs), (.ref wb), (.int (0 : Int32)), (.ref a_3)])
    refine own_go (fun _ k => XS.aloadN X108.here hx rfl (hb hby own_d6_139) rfl rfl k) ?_
    show own_Go _ _ _ _ T108 (mkF m 140 #[.val (.ref a_1), .val (.int p_2), .val (.ref a_3), .val (.int bs), .val (.int (1 : Int32)), .val (.int (1 : Int32)), .val (.int y0)] [(.ref a_3), (.int bs), (.ref wb), (.int (0 : Int32)), (.ref a_3)])
    obtain ⟨q109, c109, R109, s109, t109⟩ := id f80
    refine own_go (fun _ k => X108.arraylength hx (by rw [e108]; exact R109.1) (State.isArrayOf_alike hZ.alike R109.2.1) (g := (mkF m 140 #[.val (.ref a_1), .val (.int p_2), .val (.ref a_3), .val (.int bs), .val (.int (1 : Int32)), .val (.int (1 : Int32)), .val (.int y0)] [(.ref a_3), (.int bs), (.ref wb), (.int (0 : Int32)), (.ref a_3)])) rfl rfl (hb hby own_d6_140) _ k) ?_
    rw [len_of s109 q109]
    show own_Go _ _ _ _ T108 (mkF m 141 #[.val (.ref a_1), .val (.int p_2), .val (.ref a_3), .val (.int bs), .val (.int (1 : Int32)), .val (.int (1 : Int32)), .val (.int y0)] [(.int (1 : Int32)), (.int bs), (.ref wb), (.int (0 : Int32)), (.ref a_3)])
    obtain ⟨T110, h110, L110, X110, e110, N110, Kq110, V110, st110⟩ := own_cp X108 hx hZ hown w_55 w_58 w_56 w_57 e108 f80 f105 (fun _ => rfl) hfb (by decide) (own_t6_0_4 bs hbs hc107) (by decide) (by decide) (own_cl5 (own_t6_0_5 bs hbs hc107)) N85 (by omega) (g := (mkF m 141 #[.val (.ref a_1), .val (.int p_2), .val (.ref a_3), .val (.int bs), .val (.int (1 : Int32)), .val (.int (1 : Int32)), .val (.int y0)] [(.int (1 : Int32)), (.int bs), (.ref wb), (.int (0 : Int32)), (.ref a_3)])) rfl (by rw [hml]; rfl) rfl (hb hby own_d6_141) (by decide) (W := 0) (by show 2 * 0 + _ ≤ _; exact Nat.le_of_eq rfl) (by decide)
    have z111 := Kq110.1
    have K110 : Keep h0 h110 [a_1, wh, wst, wb] := K78.trans Kq110 (allS (Or.inl (List.mem_of_getElem? (i := 3) rfl)) all0)
    refine own_go (fun _ k => st110 _ k) ?_
    show own_Go _ _ _ _ T110 (mkF m 144 #[.val (.ref a_1), .val (.int p_2), .val (.ref a_3), .val (.int bs), .val (.int (1 : Int32)), .val (.int (1 : Int32)), .val (.int y0)] [])
    refine own_go (fun _ k => XS.aloadN X110.here hx rfl (hb hby own_d6_144) rfl rfl k) ?_
    show own_Go _ _ _ _ T110 (mkF m 145 #[.val (.ref a_1), .val (.int p_2), .val (.ref a_3), .val (.int bs), .val (.int (1 : Int32)), .val (.int (1 : Int32)), .val (.int y0)] [(.ref a_1)])
    have f112 : Fld Z h110 a_1 "com/example/kalchas/kalchas/propositional/HornClauses" "heads" "[I" (.ref wh) := (f92.keep Kq110 (ninS (own_ne (by omega)) nin0))
    obtain ⟨T113, X113, e113, st113⟩ := getF X110 hx hZ hown (host := "") (Or.inl w_17) Via.refl e110 f112 (g := (mkF m 145 #[.val (.ref a_1), .val (.int p_2), .val (.ref a_3), .val (.int bs), .val (.int (1 : Int32)), .val (.int (1 : Int32)), .val (.int y0)] [(.ref a_1)])) rfl rfl (hb hby own_d6_145)
    refine own_go (fun _ k => st113 _ k) ?_
    show own_Go _ _ _ _ T113 (mkF m 148 #[.val (.ref a_1), .val (.int p_2), .val (.ref a_3), .val (.int bs), .val (.int (1 : Int32)), .val (.int (1 : Int32)), .val (.int y0)] [(.ref wh)])
    refine own_go (fun _ k => XS.aloadN X113.here hx rfl (hb hby own_d6_148) rfl rfl k) ?_
    show own_Go _ _ _ _ T113 (mkF m 149 #[.val (.ref a_1), .val (.int p_2), .val (.ref a_3), .val (.int bs), .val (.int (1 : Int32)), .val (.int (1 : Int32)), .val (.int y0)] [(.ref a_1), (.ref wh)])
    have f114 : Fld Z h110 a_1 "com/example/kalchas/kalchas/propositional/HornClauses" "clauseCount" "I" (.int (0 : Int32)) := (f90.keep Kq110 (ninS (own_ne (by omega)) nin0))
    obtain ⟨T115, X115, e115, st115⟩ := getF X113 hx hZ hown (host := "") (Or.inl w_53) Via.refl e113 f114 (g := (mkF m 149 #[.val (.ref a_1), .val (.int p_2), .val (.ref a_3), .val (.int bs), .val (.int (1 : Int32)), .val (.int (1 : Int32)), .val (.int y0)] [(.ref a_1), (.ref wh)])) rfl rfl (hb hby own_d6_149)
    refine own_go (fun _ k => st115 _ k) ?_
    show own_Go _ _ _ _ T115 (mkF m 152 #[.val (.ref a_1), .val (.int p_2), .val (.ref a_3), .val (.int bs), .val (.int (1 : Int32)), .val (.int (1 : Int32)), .val (.int y0)] [(.int (0 : Int32)), (.ref wh)])
    refine own_go (fun _ k => XS.iloadN X115.here hx rfl (hb hby own_d6_152) rfl k) ?_
    show own_Go _ _ _ _ T115 (mkF m 153 #[.val (.ref a_1), .val (.int p_2), .val (.ref a_3), .val (.int bs), .val (.int (1 : Int32)), .val (.int (1 : Int32)), .val (.int y0)] [(.int p_2), (.int (0 : Int32)), (.ref wh)])
    have f116 : own_AV Z h110 wh .int (64 : Int32) gh := (f94.keep Kq110 (ninS (own_ne (by omega)) nin0))
    obtain ⟨q117, c117, R117, s117, t117⟩ := id f116
    have hin117 : ¬ ((0 : Int32) < 0 ∨ c117.slots.size ≤ ((0 : Int32)).toNatClampNeg) := inb_of s117 ⟨by decide, by decide⟩
    obtain ⟨T118, h118, X118, e118, W118, st118⟩ := stI X115 hx hZ e115 R117 (j := (0 : Int32)) hin117 (g := (mkF m 153 #[.val (.ref a_1), .val (.int p_2), .val (.ref a_3), .val (.int bs), .val (.int (1 : Int32)), .val (.int (1 : Int32)), .val (.int y0)] [(.int p_2), (.int (0 : Int32)), (.ref wh)])) rfl rfl (hb hby own_d6_153)
    have V118 : own_AV Z h118 wh .int (64 : Int32) (own_upd gh 0 (.int p_2)) := own_AV.set (k := 0) f116 W118 (by decide)
    have z119 := W118.size
    have K118 : Keep h0 h118 [a_1, wh, wst, wb] := K110.wr W118 (Or.inl (List.mem_of_getElem? (i := 1) rfl))
    have N118 := Fr.snoc X118 N110 (by omega : n0 ≤ wh)
    refine own_go (fun _ k => st118 _ k) ?_
    show own_Go _ _ _ _ T118 (mkF m 154 #[.val (.ref a_1), .val (.int p_2), .val (.ref a_3), .val (.int bs), .val (.int (1 : Int32)), .val (.int (1 : Int32)), .val (.int y0)] [])
    refine own_go (fun _ k => XS.aloadN X118.here hx rfl (hb hby own_d6_154) rfl rfl k) ?_
    show own_Go _ _ _ _ T118 (mkF m 155 #[.val (.ref a_1), .val (.int p_2), .val (.ref a_3), .val (.int bs), .val (.int (1 : Int32)), .val (.int (1 : Int32)), .val (.int y0)] [(.ref a_1)])
    have f120 : Fld Z h118 a_1 "com/example/kalchas/kalchas/propositional/HornClauses" "bodyStarts" "[I" (.ref wst) := ((f97.keep Kq110 (ninS (own_ne (by omega)) nin0)).other W118 (Or.inl (own_ne (by omega))))
    obtain ⟨T121, X121, e121, st121⟩ := getF X118 hx hZ hown (host := "") (Or.inl w_19) Via.refl e118 f120 (g := (mkF m 155 #[.val (.ref a_1), .val (.int p_2), .val (.ref a_3), .val (.int bs), .val (.int (1 : Int32)), .val (.int (1 : Int32)), .val (.int y0)] [(.ref a_1)])) rfl rfl (hb hby own_d6_155)
    refine own_go (fun _ k => st121 _ k) ?_
    show own_Go _ _ _ _ T121 (mkF m 158 #[.val (.ref a_1), .val (.int p_2), .val (.ref a_3), .val (.int bs), .val (.int (1 : Int32)), .val (.int (1 : Int32)), .val (.int y0)] [(.ref wst)])
    refine own_go (fun _ k => XS.aloadN X121.here hx rfl (hb hby own_d6_158) rfl rfl k) ?_
    show own_Go _ _ _ _ T121 (mkF m 159 #[.val (.ref a_1), .val (.int p_2), .val (.ref a_3), .val (.int bs), .val (.int (1 : Int32)), .val (.int (1 : Int32)), .val (.int y0)] [(.ref a_1), (.ref wst)])
    have f122 : Fld Z h118 a_1 "com/example/kalchas/kalchas/propositional/HornClauses" "clauseCount" "I" (.int (0 : Int32)) := (f114.other W118 (Or.inl (own_ne (by omega))))
    obtain ⟨T123, X123, e123, st123⟩ := getF X121 hx hZ hown (host := "") (Or.inl w_53) Via.refl e121 f122 (g := (mkF m 159 #[.val (.ref a_1), .val (.int p_2), .val (.ref a_3), .val (.int bs), .val (.int (1 : Int32)), .val (.int (1 : Int32)), .val (.int y0)] [(.ref a_1), (.ref wst)])) rfl rfl (hb hby own_d6_159)
    refine own_go (fun _ k => st123 _ k) ?_
    show own_Go _ _ _ _ T123 (mkF m 162 #[.val (.ref a_1), .val (.int p_2), .val (.ref a_3), .val (.int bs), .val (.int (1 : Int32)), .val (.int (1 : Int32)), .val (.int y0)] [(.int (0 : Int32)), (.ref wst)])
    refine own_go (fun _ k => XS.iconst X123.here hx rfl (hb hby own_d6_162) k) ?_
    show own_Go _ _ _ _ T123 (mkF m 163 #[.val (.ref a_1), .val (.int p_2), .val (.ref a_3), .val (.int bs), .val (.int (1 : Int32)), .val (.int (1 : Int32)), .val (.int y0)] [(.int (1 : Int32)), (.int (0 : Int32)), (.ref wst)])
    refine own_go (fun _ k => XS.iadd X123.here hx rfl (hb hby own_d6_163) rfl k) ?_
    show own_Go _ _ _ _ T123 (mkF m 164 #[.val (.ref a_1), .val (.int p_2), .val (.ref a_3), .val (.int bs), .val (.int (1 : Int32)), .val (.int (1 : Int32)), .val (.int y0)] [(.int (1 : Int32)), (.ref wst)])
    refine own_go (fun _ k => XS.iloadN X123.here hx rfl (hb hby own_d6_164) rfl k) ?_
    show own_Go _ _ _ _ T123 (mkF m 165 #[.val (.ref a_1), .val (.int p_2), .val (.ref a_3), .val (.int bs), .val (.int (1 : Int32)), .val (.int (1 : Int32)), .val (.int y0)] [(.int bs), (.int (1 : Int32)), (.ref wst)])
    refine own_go (fun _ k => XS.aloadN X123.here hx rfl (hb hby own_d6_165) rfl rfl k) ?_
    show own_Go _ _ _ _ T123 (mkF m 166 #[.val (.ref a_1), .val (.int p_2), .val (.ref a_3), .val (.int bs), .val (.int (1 : Int32)), .val (.int (1 : Int32)), .val (.int y0)] [(.ref a_3), (.int bs), (.int (1 : Int32)), (.ref wst)])
    have f124 : own_AV Z h118 a_3 .int (1 : Int32) (own_n3 y0 y1 y2) := ((f80.keep Kq110 (ninS (own_ne (by omega)) nin0)).other W118 (own_ne (by omega)))
    obtain ⟨q125, c125, R125, s125, t125⟩ := id f124
    refine own_go (fun _ k => X123.arraylength hx (by rw [e123]; exact R125.1) (State.isArrayOf_alike hZ.alike R125.2.1) (g := (mkF m 166 #[.val (.ref a_1), .val (.int p_2), .val (.ref a_3), .val (.int bs), .val (.int (1 : Int32)), .val (.int (1 : Int32)), .val (.int y0)] [(.ref a_3), (.int bs), (.int (1 : Int32)), (.ref wst)])) rfl rfl (hb hby own_d6_166) _ k) ?_
    rw [len_of s125 q125]
    show own_Go _ _ _ _ T123 (mkF m 167 #[.val (.ref a_1), .val (.int p_2), .val (.ref a_3), .val (.int bs), .val (.int (1 : Int32)), .val (.int (1 : Int32)), .val (.int y0)] [(.int (1 : Int32)), (.int bs), (.int (1 : Int32)), (.ref wst)])
    refine own_go (fun _ k => XS.iadd X123.here hx rfl (hb hby own_d6_167) rfl k) ?_
    show own_Go _ _ _ _ T123 (mkF m 168 #[.val (.ref a_1), .val (.int p_2), .val (.ref a_3), .val (.int bs), .val (.int (1 : Int32)), .val (.int (1 : Int32)), .val (.int y0)] [(.int (bs + (1 : Int32))), (.int (1 : Int32)), (.ref wst)])
    have f126 : own_AV Z h118 wst .int (65 : Int32) gs := ((f100.keep Kq110 (ninS (own_ne (by omega)) nin0)).other W118 (own_ne (by omega)))
    obtain ⟨q127, c127, R127, s127, t127⟩ := id f126
    have hin127 : ¬ ((1 : Int32) < 0 ∨ c127.slots.size ≤ ((1 : Int32)).toNatClampNeg) := inb_of s127 ⟨by decide, by decide⟩
    obtain ⟨T128, h128, X128, e128, W128, st128⟩ := stI X123 hx hZ e123 R127 (j := (1 : Int32)) hin127 (g := (mkF m 168 #[.val (.ref a_1), .val (.int p_2), .val (.ref a_3), .val (.int bs), .val (.int (1 : Int32)), .val (.int (1 : Int32)), .val (.int y0)] [(.int (bs + (1 : Int32))), (.int (1 : Int32)), (.ref wst)])) rfl rfl (hb hby own_d6_168)
    have V128 : own_AV Z h128 wst .int (65 : Int32) (own_upd gs 1 (.int (bs + (1 : Int32)))) := own_AV.set (k := 1) f126 W128 (by decide)
    have z129 := W128.size
    have K128 : Keep h0 h128 [a_1, wh, wst, wb] := K118.wr W128 (Or.inl (List.mem_of_getElem? (i := 2) rfl))
    have N128 := Fr.snoc X128 N118 (by omega : n0 ≤ wst)
    refine own_go (fun _ k => st128 _ k) ?_
    show own_Go _ _ _ _ T128 (mkF m 169 #[.val (.ref a_1), .val (.int p_2), .val (.ref a_3), .val (.int bs), .val (.int (1 : Int32)), .val (.int (1 : Int32)), .val (.int y0)] [])
    refine own_go (fun _ k => XS.aloadN X128.here hx rfl (hb hby own_d6_169) rfl rfl k) ?_
    show own_Go _ _ _ _ T128 (mkF m 170 #[.val (.ref a_1), .val (.int p_2), .val (.ref a_3), .val (.int bs), .val (.int (1 : Int32)), .val (.int (1 : Int32)), .val (.int y0)] [(.ref a_1)])
    refine own_go (fun _ k => XS.dup X128.here hx rfl (hb hby own_d6_170) rfl rfl k) ?_
    show own_Go _ _ _ _ T128 (mkF m 171 #[.val (.ref a_1), .val (.int p_2), .val (.ref a_3), .val (.int bs), .val (.int (1 : Int32)), .val (.int (1 : Int32)), .val (.int y0)] [(.ref a_1), (.ref a_1)])
    have f130 : Fld Z h128 a_1 "com/example/kalchas/kalchas/propositional/HornClauses" "clauseCount" "I" (.int (0 : Int32)) := (f122.other W128 (Or.inl (own_ne (by omega))))
    obtain ⟨T131, X131, e131, st131⟩ := getF X128 hx hZ hown (host := "") (Or.inl w_53) Via.refl e128 f130 (g := (mkF m 171 #[.val (.ref a_1), .val (.int p_2), .val (.ref a_3), .val (.int bs), .val (.int (1 : Int32)), .val (.int (1 : Int32)), .val (.int y0)] [(.ref a_1), (.ref a_1)])) rfl rfl (hb hby own_d6_171)
    refine own_go (fun _ k => st131 _ k) ?_
    show own_Go _ _ _ _ T131 (mkF m 174 #[.val (.ref a_1), .val (.int p_2), .val (.ref a_3), .val (.int bs), .val (.int (1 : Int32)), .val (.int (1 : Int32)), .val (.int y0)] [(.int (0 : Int32)), (.ref a_1)])
    refine own_go (fun _ k => XS.iconst X131.here hx rfl (hb hby own_d6_174) k) ?_
    show own_Go _ _ _ _ T131 (mkF m 175 #[.val (.ref a_1), .val (.int p_2), .val (.ref a_3), .val (.int bs), .val (.int (1 : Int32)), .val (.int (1 : Int32)), .val (.int y0)] [(.int (1 : Int32)), (.int (0 : Int32)), (.ref a_1)])
    refine own_go (fun _ k => XS.iadd X131.here hx rfl (hb hby own_d6_175) rfl k) ?_
    show own_Go _ _ _ _ T131 (mkF m 176 #[.val (.ref a_1), .val (.int p_2), .val (.ref a_3), .val (.int bs), .val (.int (1 : Int32)), .val (.int (1 : Int32)), .val (.int y0)] [(.int (1 : Int32)), (.ref a_1)])
    have f132 : Exa Z h128 a_1 "com/example/kalchas/kalchas/propositional/HornClauses" := (((f86.keep Kq110).wr W118).wr W128)
    obtain ⟨T133, h133, X133, e133, W133, st133⟩ := putF X131 hx hZ hown (host := "") (Or.inl w_53) Via.refl e131 f130 f132 (Or.inl w_54) w_9 (ty := .int) (by decide) rfl rfl (g := (mkF m 176 #[.val (.ref a_1), .val (.int p_2), .val (.ref a_3), .val (.int bs), .val (.int (1 : Int32)), .val (.int (1 : Int32)), .val (.int y0)] [(.int (1 : Int32)), (.ref a_1)])) rfl rfl (hb hby own_d6_176)
    have z134 := W133.size
    have K133 : Keep h0 h133 [a_1, wh, wst, wb] := K128.wr W133 (Or.inl (List.mem_of_getElem? (i := 0) rfl))
    have N133 := Fr.snoc X133 N128 (by omega : n0 ≤ a_1)
    have Fw133 : Fld Z h133 a_1 "com/example/kalchas/kalchas/propositional/HornClauses" "clauseCount" "I" (.int (1 : Int32)) := Fld.same W133 f130
    refine own_go (fun _ k => st133 _ k) ?_
    show own_Go _ _ _ _ T133 (mkF m 179 #[.val (.ref a_1), .val (.int p_2), .val (.ref a_3), .val (.int bs), .val (.int (1 : Int32)), .val (.int (1 : Int32)), .val (.int y0)] [])
    refine own_go (fun _ k => XS.aloadN X133.here hx rfl (hb hby own_d6_179) rfl rfl k) ?_
    show own_Go _ _ _ _ T133 (mkF m 180 #[.val (.ref a_1), .val (.int p_2), .val (.ref a_3), .val (.int bs), .val (.int (1 : Int32)), .val (.int (1 : Int32)), .val (.int y0)] [(.ref a_1)])
    refine own_go (fun _ k => XS.aconstNull X133.here hx rfl (hb hby own_d6_180) k) ?_
    show own_Go _ _ _ _ T133 (mkF m 181 #[.val (.ref a_1), .val (.int p_2), .val (.ref a_3), .val (.int bs), .val (.int (1 : Int32)), .val (.int (1 : Int32)), .val (.int y0)] [.null, (.ref a_1)])
    have f135 : Exa Z h133 a_1 "com/example/kalchas/kalchas/propositional/HornClauses" := (f132.wr W133)
    have f136 : Fld Z h133 a_1 "com/example/kalchas/kalchas/propositional/HornClauses" "occurrences" "[I" w_occ := (((((pr_F_a_1_occurrences.keep K78q nin0).keep Kq110 (ninS (own_ne (by omega)) nin0)).other W118 (Or.inl (own_ne (by omega)))).other W128 (Or.inl (own_ne (by omega)))).other W133 (Or.inr (slot_ne (Or.inl w_29) (Or.inl w_54) (by decide) (t := (.array .int)) (t' := .int) (by decide) (by decide))))
    obtain ⟨T137, h137, X137, e137, W137, st137⟩ := putF X133 hx hZ hown (host := "") (Or.inl w_28) Via.refl e133 f136 f135 (Or.inl w_29) w_9 (ty := (.array .int)) (by decide) rfl rfl (g := (mkF m 181 #[.val (.ref a_1), .val (.int p_2), .val (.ref a_3), .val (.int bs), .val (.int (1 : Int32)), .val (.int (1 : Int32)), .val (.int y0)] [.null, (.ref a_1)])) rfl rfl (hb hby own_d6_181)
    have z138 := W137.size
    have K137 : Keep h0 h137 [a_1, wh, wst, wb] := K133.wr W137 (Or.inl (List.mem_of_getElem? (i := 0) rfl))
    have N137 := Fr.snoc X137 N133 (by omega : n0 ≤ a_1)
    have Fw137 : Fld Z h137 a_1 "com/example/kalchas/kalchas/propositional/HornClauses" "occurrences" "[I" .null := Fld.same W137 f136
    refine own_go (fun _ k => st137 _ k) ?_
    show own_Go _ _ _ _ T137 (mkF m 184 #[.val (.ref a_1), .val (.int p_2), .val (.ref a_3), .val (.int bs), .val (.int (1 : Int32)), .val (.int (1 : Int32)), .val (.int y0)] [])
    obtain ⟨fs, hr, hrun, hended, hRW⟩ := X137.leaveW hS85 (by rw [e137]; omega) (v := none) (fun _ => rfl)
    refine ⟨_, _, X137.returnOut hx Bd.returns (hb hby own_d6_184) hr, hrun, hended, _, _, rfl, ?_, own_monoW hRW (by rw [y85]; decide) (by rw [z85]; decide)⟩
    refine ⟨?_, ⟨_, own_litW Li87 X137.warmed.wide⟩⟩
    show own_Q6_0 Z a_1 p_2 a_3 wh wst wb gh gs gb bs w_occ (1 : Int32) y0 y1 y2 h0 n0 _ T137.heap _
    rw [e137]
    have f140 : own_AV Z h137 wst .int (65 : Int32) (own_upd gs 1 (.int (bs + (1 : Int32)))) := ((V128.other W133 (own_ne (by omega))).other W137 (own_ne (by omega)))
    have f141 : own_AV Z h137 wb .int (64 : Int32) (own_cpf (own_n3 y0 y1 y2) ((0 : Int32)).toNatClampNeg gb (bs).toNatClampNeg ((1 : Int32)).toNatClampNeg) := ((((V110.other W118 (own_ne (by omega))).other W128 (own_ne (by omega))).other W133 (own_ne (by omega))).other W137 (own_ne (by omega)))
    have f142 : Exa Z h137 a_1 "com/example/kalchas/kalchas/propositional/HornClauses" := (f135.wr W137)
    have f143 : Fld Z h137 a_1 "com/example/kalchas/kalchas/propositional/HornClauses" "variableCount" "I" (.int (3 : Int32)) := (((((f84.keep Kq110 (ninS (own_ne (by omega)) nin0)).other W118 (Or.inl (own_ne (by omega)))).other W128 (Or.inl (own_ne (by omega)))).other W133 (Or.inr (slot_ne (Or.inl w_31) (Or.inl w_54) (by decide) (t := .int) (t' := .int) (by decide) (by decide)))).other W137 (Or.inr (slot_ne (Or.inl w_31) (Or.inl w_29) (by decide) (t := .int) (t' := (.array .int)) (by decide) (by decide))))
    have f144 : Fld Z h137 a_1 "com/example/kalchas/kalchas/propositional/HornClauses" "clauseCount" "I" (.int (1 : Int32)) := (Fw133.other W137 (Or.inr (slot_ne (Or.inl w_54) (Or.inl w_29) (by decide) (t := .int) (t' := (.array .int)) (by decide) (by decide))))
    have f145 : Fld Z h137 a_1 "com/example/kalchas/kalchas/propositional/HornClauses" "heads" "[I" (.ref wh) := ((((f112.other W118 (Or.inl (own_ne (by omega)))).other W128 (Or.inl (own_ne (by omega)))).other W133 (Or.inr (slot_ne (Or.inl w_18) (Or.inl w_54) (by decide) (t := (.array .int)) (t' := .int) (by decide) (by decide)))).other W137 (Or.inr (slot_ne (Or.inl w_18) (Or.inl w_29) (by decide) (t := (.array .int)) (t' := (.array .int)) (by decide) (by decide))))
    have f146 : Fld Z h137 a_1 "com/example/kalchas/kalchas/propositional/HornClauses" "bodyStarts" "[I" (.ref wst) := (((f120.other W128 (Or.inl (own_ne (by omega)))).other W133 (Or.inr (slot_ne (Or.inl w_20) (Or.inl w_54) (by decide) (t := (.array .int)) (t' := .int) (by decide) (by decide)))).other W137 (Or.inr (slot_ne (Or.inl w_20) (Or.inl w_29) (by decide) (t := (.array .int)) (t' := (.array .int)) (by decide) (by decide))))
    have f147 : Fld Z h137 a_1 "com/example/kalchas/kalchas/propositional/HornClauses" "bodies" "[I" (.ref wb) := (((((f103.keep Kq110 (ninS (own_ne (by omega)) nin0)).other W118 (Or.inl (own_ne (by omega)))).other W128 (Or.inl (own_ne (by omega)))).other W133 (Or.inr (slot_ne (Or.inl w_22) (Or.inl w_54) (by decide) (t := (.array .int)) (t' := .int) (by decide) (by decide)))).other W137 (Or.inr (slot_ne (Or.inl w_22) (Or.inl w_29) (by decide) (t := (.array .int)) (t' := (.array .int)) (by decide) (by decide))))
    have f148 : own_AV Z h137 wh .int (64 : Int32) (own_upd gh 0 (.int p_2)) := (((V118.other W128 (own_ne (by omega))).other W133 (own_ne (by omega))).other W137 (own_ne (by omega)))
    exact ⟨rfl, N137, K137, f142, f143, f144, f145, f146, f147, Fw137, f148, f140, f141⟩
  · subst hs13
    show own_Go _ _ _ _ s₁ (mkF m 0 #[.val (.ref a_1), .val (.int p_2), .val (.ref a_3), .unset, .unset, .unset, .unset] [])
    refine own_go (fun _ k => XS.aloadN X0.here hx rfl (hb hby own_d6_0) rfl rfl k) ?_
    show own_Go _ _ _ _ s₁ (mkF m 1 #[.val (.ref a_1), .val (.int p_2), .val (.ref a_3), .unset, .unset, .unset, .unset] [(.ref a_1)])
    refine own_go (fun _ k => XS.iloadN X0.here hx rfl (hb hby own_d6_1) rfl k) ?_
    show own_Go _ _ _ _ s₁ (mkF m 2 #[.val (.ref a_1), .val (.int p_2), .val (.ref a_3), .unset, .unset, .unset, .unset] [(.int p_2), (.ref a_1)])
    obtain ⟨cq149, kq149, q149a, q149b, q149c⟩ := isOf hZ e0 pr_E_a_1
    obtain ⟨_, _, ⟨T149, L149, k149, n149⟩, -, X149, hS149, gr149, ⟨Lc149, ⟨hQ149, hV149⟩, l149, y149, z149⟩, st149⟩ := X0.virtualBackS hx (y := (⟨"com/example/kalchas/kalchas/propositional/HornClauses", "checkVariable", "(I)V"⟩ : MethodName)) (z := (⟨"com/example/kalchas/kalchas/propositional/HornClauses", "checkVariable", "(I)V"⟩ : MethodName)) hown (mvT hZ w_37) (mvT hZ w_38) (notFace_of_selects (args := #[]) (mvT hZ w_40)) (mvT hZ w_40) (mvT hZ w_39) (by decide) (own_backL (PV := (fun _ => True)) (QV := (own_LP Z "com/example/kalchas/kalchas/propositional/HornClauses" 178)) (W := 0) (own_rm7c l Z a0 hw [] a_1 p_2 (3 : Int32) h0 n0 (by omega) (show ¬ (p_2 < 0) by first | assumption | omega | decide) (show p_2 < (3 : Int32) by first | assumption | omega | decide) pr_F_a_1_variableCount) hZ w_41 w_10 (by decide) (by decide) (fun _ _ => trivial)) q149a q149c (g := (mkF m 2 #[.val (.ref a_1), .val (.int p_2), .val (.ref a_3), .unset, .unset, .unset, .unset] [(.int p_2), (.ref a_1)])) rfl (by rw [hml]; rfl) (Steps.refl _) (argsL := [(.int p_2)]) (rest := []) (lenOf own_pd1 rfl) rfl (by show 2 * 0 + _ ≤ _; exact Nat.le_of_eq rfl) (hb hby own_d6_2) (fun _ _ => ⟨rfl, e0, (by decide : 0 + 2 ≤ _), (by decide : 0 + 36 ≤ _)⟩)
    dsimp only [Pt.U, Pt.locs, Pt.cells, Pt.slots] at X149 l149 y149 z149 st149 hQ149 hS149 gr149 hV149
    have y149 : k149 = 2 := y149
    have z149 : n149 = 36 := z149
    have Wn149 := hS149.1
    obtain ⟨X149, hS149, hZ, hown⟩ := rebS hS0 (n1 := s₁.heap.size) (by rw [e0]; omega) X149 hS149 gr149 hZ hown
    obtain ⟨bL149, Lq149⟩ := hV149
    have Lq149 : Lit (s.setVm T149.vm) "com/example/kalchas/kalchas/propositional/HornClauses" 178 bL149 := Lq149
    obtain ⟨rfl, N149q, K149q⟩ := hQ149
    have N149 : Fr n0 L149 := by rw [l149]; exact Fr.app N0 N149q
    have z150 := K149q.1
    have K149 : Keep h0 T149.heap [a_1, wh, wst, wb] := K0.trans K149q all0
    refine own_go (fun _ k => st149.trans k) ?_
    show own_Go _ _ _ _ T149 (mkF m 5 #[.val (.ref a_1), .val (.int p_2), .val (.ref a_3), .unset, .unset, .unset, .unset] [])
    refine own_go (fun _ k => XS.aloadN X149.here hx rfl (hb hby own_d6_5) rfl rfl k) ?_
    show own_Go _ _ _ _ T149 (mkF m 6 #[.val (.ref a_1), .val (.int p_2), .val (.ref a_3), .unset, .unset, .unset, .unset] [(.ref a_3)])
    refine own_go (fun _ k => XS.astoreN X149.here hx rfl (hb hby own_d6_6) rfl rfl (l' := #[.val (.ref a_1), .val (.int p_2), .val (.ref a_3), .val (.ref a_3), .unset, .unset, .unset]) rfl k) ?_
    show own_Go _ _ _ _ T149 (mkF m 7 #[.val (.ref a_1), .val (.int p_2), .val (.ref a_3), .val (.ref a_3), .unset, .unset, .unset] [])
    refine own_go (fun _ k => XS.aloadN X149.here hx rfl (hb hby own_d6_7) rfl rfl k) ?_
    show own_Go _ _ _ _ T149 (mkF m 8 #[.val (.ref a_1), .val (.int p_2), .val (.ref a_3), .val (.ref a_3), .unset, .unset, .unset] [(.ref a_3)])
    have f151 : own_AV Z T149.heap a_3 .int (2 : Int32) (own_n3 y0 y1 y2) := (pr_A_a_3.keep K149q nin0)
    obtain ⟨q152, c152, R152, s152, t152⟩ := id f151
    refine own_go (fun _ k => X149.arraylength hx R152.1 (State.isArrayOf_alike hZ.alike R152.2.1) (g := (mkF m 8 #[.val (.ref a_1), .val (.int p_2), .val (.ref a_3), .val (.ref a_3), .unset, .unset, .unset] [(.ref a_3)])) rfl rfl (hb hby own_d6_8) _ k) ?_
    rw [len_of s152 q152]
    show own_Go _ _ _ _ T149 (mkF m 9 #[.val (.ref a_1), .val (.int p_2), .val (.ref a_3), .val (.ref a_3), .unset, .unset, .unset] [(.int (2 : Int32))])
    refine own_go (fun _ k => XS.istore X149.here hx rfl (hb hby own_d6_9) rfl (l' := #[.val (.ref a_1), .val (.int p_2), .val (.ref a_3), .val (.ref a_3), .val (.int (2 : Int32)), .unset, .unset]) rfl k) ?_
    show own_Go _ _ _ _ T149 (mkF m 11 #[.val (.ref a_1), .val (.int p_2), .val (.ref a_3), .val (.ref a_3), .val (.int (2 : Int32)), .unset, .unset] [])
    refine own_go (fun _ k => XS.iconst X149.here hx rfl (hb hby own_d6_11) k) ?_
    show own_Go _ _ _ _ T149 (mkF m 12 #[.val (.ref a_1), .val (.int p_2), .val (.ref a_3), .val (.ref a_3), .val (.int (2 : Int32)), .unset, .unset] [(.int (0 : Int32))])
    refine own_go (fun _ k => XS.istore X149.here hx rfl (hb hby own_d6_12) rfl (l' := #[.val (.ref a_1), .val (.int p_2), .val (.ref a_3), .val (.ref a_3), .val (.int (2 : Int32)), .val (.int (0 : Int32)), .unset]) rfl k) ?_
    show own_Go _ _ _ _ T149 (mkF m 14 #[.val (.ref a_1), .val (.int p_2), .val (.ref a_3), .val (.ref a_3), .val (.int (2 : Int32)), .val (.int (0 : Int32)), .unset] [])
    refine own_go (fun _ k => XS.iload X149.here hx rfl (hb hby own_d6_14) rfl k) ?_
    show own_Go _ _ _ _ T149 (mkF m 16 #[.val (.ref a_1), .val (.int p_2), .val (.ref a_3), .val (.ref a_3), .val (.int (2 : Int32)), .val (.int (0 : Int32)), .unset] [(.int (0 : Int32))])
    refine own_go (fun _ k => XS.iload X149.here hx rfl (hb hby own_d6_16) rfl k) ?_
    show own_Go _ _ _ _ T149 (mkF m 18 #[.val (.ref a_1), .val (.int p_2), .val (.ref a_3), .val (.ref a_3), .val (.int (2 : Int32)), .val (.int (0 : Int32)), .unset] [(.int (2 : Int32)), (.int (0 : Int32))])
    have hc153 : (0 : Int32) < (2 : Int32) := by decide
    refine own_go (fun _ k => XS.icmpNo X149.here hx rfl (hb hby own_d6_18) rfl (Jvm.Free.XT.ii_ge_f hc153) k) ?_
    show own_Go _ _ _ _ T149 (mkF m 21 #[.val (.ref a_1), .val (.int p_2), .val (.ref a_3), .val (.ref a_3), .val (.int (2 : Int32)), .val (.int (0 : Int32)), .unset] [])
    refine own_go (fun _ k => XS.aloadN X149.here hx rfl (hb hby own_d6_21) rfl rfl k) ?_
    show own_Go _ _ _ _ T149 (mkF m 22 #[.val (.ref a_1), .val (.int p_2), .val (.ref a_3), .val (.ref a_3), .val (.int (2 : Int32)), .val (.int (0 : Int32)), .unset] [(.ref a_3)])
    refine own_go (fun _ k => XS.iload X149.here hx rfl (hb hby own_d6_22) rfl k) ?_
    show own_Go _ _ _ _ T149 (mkF m 24 #[.val (.ref a_1), .val (.int p_2), .val (.ref a_3), .val (.ref a_3), .val (.int (2 : Int32)), .val (.int (0 : Int32)), .unset] [(.int (0 : Int32)), (.ref a_3)])
    obtain ⟨q154, c154, R154, s154, t154⟩ := id f151
    have hin154 : ¬ ((0 : Int32) < 0 ∨ c154.slots.size ≤ ((0 : Int32)).toNatClampNeg) := inb_of s154 ⟨by decide, by decide⟩
    have u154 : c154.slots[((0 : Int32)).toNatClampNeg]? = some (.int y0) := own_at (k := 0) t154 s154 hin154 (by decide) (rfl)
    refine own_go (fun _ k => X149.iaload hx (j := (0 : Int32)) (v := (.int y0)) R154.1 (State.isArrayOf_alike hZ.alike R154.2.1) R154.2.2 hin154 u154 (g := (mkF m 24 #[.val (.ref a_1), .val (.int p_2), .val (.ref a_3), .val (.ref a_3), .val (.int (2 : Int32)), .val (.int (0 : Int32)), .unset] [(.int (0 : Int32)), (.ref a_3)])) rfl rfl (hb hby own_d6_24) _ k) ?_
    show own_Go _ _ _ _ T149 (mkF m 25 #[.val (.ref a_1), .val (.int p_2), .val (.ref a_3), .val (.ref a_3), .val (.int (2 : Int32)), .val (.int (0 : Int32)), .unset] [(.int y0)])
    refine own_go (fun _ k => XS.istore X149.here hx rfl (hb hby own_d6_25) rfl (l' := #[.val (.ref a_1), .val (.int p_2), .val (.ref a_3), .val (.ref a_3), .val (.int (2 : Int32)), .val (.int (0 : Int32)), .val (.int y0)]) rfl k) ?_
    show own_Go _ _ _ _ T149 (mkF m 27 #[.val (.ref a_1), .val (.int p_2), .val (.ref a_3), .val (.ref a_3), .val (.int (2 : Int32)), .val (.int (0 : Int32)), .val (.int y0)] [])
    refine own_go (fun _ k => XS.aloadN X149.here hx rfl (hb hby own_d6_27) rfl rfl k) ?_
    show own_Go _ _ _ _ T149 (mkF m 28 #[.val (.ref a_1), .val (.int p_2), .val (.ref a_3), .val (.ref a_3), .val (.int (2 : Int32)), .val (.int (0 : Int32)), .val (.int y0)] [(.ref a_1)])
    refine own_go (fun _ k => XS.iload X149.here hx rfl (hb hby own_d6_28) rfl k) ?_
    show own_Go _ _ _ _ T149 (mkF m 30 #[.val (.ref a_1), .val (.int p_2), .val (.ref a_3), .val (.ref a_3), .val (.int (2 : Int32)), .val (.int (0 : Int32)), .val (.int y0)] [(.int y0), (.ref a_1)])
    have f155 : Fld Z T149.heap a_1 "com/example/kalchas/kalchas/propositional/HornClauses" "variableCount" "I" (.int (3 : Int32)) := (pr_F_a_1_variableCount.keep K149q nin0)
    have f157 : Exa Z T149.heap a_1 "com/example/kalchas/kalchas/propositional/HornClauses" := (pr_E_a_1.keep K149q)
    obtain ⟨cq156, kq156, q156a, q156b, q156c⟩ := isOf hZ rfl f157
    obtain ⟨_, _, ⟨T156, L156, k156, n156⟩, -, X156, hS156, gr156, ⟨Lc156, ⟨hQ156, hV156⟩, l156, y156, z156⟩, st156⟩ := X149.virtualBackS hx (y := (⟨"com/example/kalchas/kalchas/propositional/HornClauses", "checkVariable", "(I)V"⟩ : MethodName)) (z := (⟨"com/example/kalchas/kalchas/propositional/HornClauses", "checkVariable", "(I)V"⟩ : MethodName)) hown (mvT hZ w_37) (mvT hZ w_38) (notFace_of_selects (args := #[]) (mvT hZ w_40)) (mvT hZ w_40) (mvT hZ w_39) (by decide) (own_backL (PV := (own_LP Z "com/example/kalchas/kalchas/propositional/HornClauses" 178)) (QV := (fun _ => True)) (W := 0) (own_rm7w l Z a0 hw [] a_1 y0 (3 : Int32) T149.heap n0 (by omega) (show ¬ (y0 < 0) by first | assumption | omega | decide) (show y0 < (3 : Int32) by first | assumption | omega | decide) f155) hZ w_41 w_10 (by decide) (by decide) (fun _ q => ⟨_, own_litW Lq149 q⟩)) q156a q156c (g := (mkF m 30 #[.val (.ref a_1), .val (.int p_2), .val (.ref a_3), .val (.ref a_3), .val (.int (2 : Int32)), .val (.int (0 : Int32)), .val (.int y0)] [(.int y0), (.ref a_1)])) rfl (by rw [hml]; rfl) (Steps.refl _) (argsL := [(.int y0)]) (rest := []) (lenOf own_pd1 rfl) rfl (by show 2 * 0 + _ ≤ _; exact Nat.le_of_eq rfl) (hb hby own_d6_30) (fun _ _ => ⟨rfl, rfl, (by show k149 + _ ≤ _; rw [y149]; decide), (by show n149 + _ ≤ _; rw [z149]; decide)⟩)
    dsimp only [Pt.U, Pt.locs, Pt.cells, Pt.slots] at X156 l156 y156 z156 st156 hQ156 hS156 gr156 hV156
    have y156 : k156 = 2 := own_addeq y156 (congrArg (fun q => q) y149) rfl
    have z156 : n156 = 36 := own_addeq z156 (congrArg (fun q => q) z149) rfl
    have Wn156 := hS156.1
    have Li158 := Lq149.stays Wn156
    obtain ⟨X156, hS156, hZ, hown⟩ := rebS hS149 (n1 := T149.heap.size) (by omega) X156 hS156 gr156 hZ hown
    obtain ⟨rfl, N156q, e156⟩ := hQ156
    have N156 : Fr n0 L156 := by rw [l156]; exact Fr.app N149 N156q
    have z159 : T156.heap.size = T149.heap.size := congrArg Array.size e156
    refine own_go (fun _ k => st156.trans k) ?_
    show own_Go _ _ _ _ T156 (mkF m 33 #[.val (.ref a_1), .val (.int p_2), .val (.ref a_3), .val (.ref a_3), .val (.int (2 : Int32)), .val (.int (0 : Int32)), .val (.int y0)] [])
    refine own_go (fun _ k => XS.iinc X156.here hx rfl (hb hby own_d6_33) rfl (l' := #[.val (.ref a_1), .val (.int p_2), .val (.ref a_3), .val (.ref a_3), .val (.int (2 : Int32)), .val (.int (1 : Int32)), .val (.int y0)]) rfl k) ?_
    show own_Go _ _ _ _ T156 (mkF m 36 #[.val (.ref a_1), .val (.int p_2), .val (.ref a_3), .val (.ref a_3), .val (.int (2 : Int32)), .val (.int (1 : Int32)), .val (.int y0)] [])
    refine own_go (fun _ k => XS.goto X156.here hx rfl (pc0 := 36) (pc' := 14) rfl (hb hby own_d6_36) (by decide) (by decide) k) ?_
    show own_Go _ _ _ _ T156 (mkF m 14 #[.val (.ref a_1), .val (.int p_2), .val (.ref a_3), .val (.ref a_3), .val (.int (2 : Int32)), .val (.int (1 : Int32)), .val (.int y0)] [])
    refine own_go (fun _ k => XS.iload X156.here hx rfl (hb hby own_d6_14) rfl k) ?_
    show own_Go _ _ _ _ T156 (mkF m 16 #[.val (.ref a_1), .val (.int p_2), .val (.ref a_3), .val (.ref a_3), .val (.int (2 : Int32)), .val (.int (1 : Int32)), .val (.int y0)] [(.int (1 : Int32))])
    refine own_go (fun _ k => XS.iload X156.here hx rfl (hb hby own_d6_16) rfl k) ?_
    show own_Go _ _ _ _ T156 (mkF m 18 #[.val (.ref a_1), .val (.int p_2), .val (.ref a_3), .val (.ref a_3), .val (.int (2 : Int32)), .val (.int (1 : Int32)), .val (.int y0)] [(.int (2 : Int32)), (.int (1 : Int32))])
    have hc160 : (1 : Int32) < (2 : Int32) := by decide
    refine own_go (fun _ k => XS.icmpNo X156.here hx rfl (hb hby own_d6_18) rfl (Jvm.Free.XT.ii_ge_f hc160) k) ?_
    show own_Go _ _ _ _ T156 (mkF m 21 #[.val (.ref a_1), .val (.int p_2), .val (.ref a_3), .val (.ref a_3), .val (.int (2 : Int32)), .val (.int (1 : Int32)), .val (.int y0)] [])
    refine own_go (fun _ k => XS.aloadN X156.here hx rfl (hb hby own_d6_21) rfl rfl k) ?_
    show own_Go _ _ _ _ T156 (mkF m 22 #[.val (.ref a_1), .val (.int p_2), .val (.ref a_3), .val (.ref a_3), .val (.int (2 : Int32)), .val (.int (1 : Int32)), .val (.int y0)] [(.ref a_3)])
    refine own_go (fun _ k => XS.iload X156.here hx rfl (hb hby own_d6_22) rfl k) ?_
    show own_Go _ _ _ _ T156 (mkF m 24 #[.val (.ref a_1), .val (.int p_2), .val (.ref a_3), .val (.ref a_3), .val (.int (2 : Int32)), .val (.int (1 : Int32)), .val (.int y0)] [(.int (1 : Int32)), (.ref a_3)])
    obtain ⟨q161, c161, R161, s161, t161⟩ := id f151
    have hin161 : ¬ ((1 : Int32) < 0 ∨ c161.slots.size ≤ ((1 : Int32)).toNatClampNeg) := inb_of s161 ⟨by decide, by decide⟩
    have u161 : c161.slots[((1 : Int32)).toNatClampNeg]? = some (.int y1) := own_at (k := 1) t161 s161 hin161 (by decide) (rfl)
    refine own_go (fun _ k => X156.iaload hx (j := (1 : Int32)) (v := (.int y1)) (by rw [e156]; exact R161.1) (State.isArrayOf_alike hZ.alike R161.2.1) R161.2.2 hin161 u161 (g := (mkF m 24 #[.val (.ref a_1), .val (.int p_2), .val (.ref a_3), .val (.ref a_3), .val (.int (2 : Int32)), .val (.int (1 : Int32)), .val (.int y0)] [(.int (1 : Int32)), (.ref a_3)])) rfl rfl (hb hby own_d6_24) _ k) ?_
    show own_Go _ _ _ _ T156 (mkF m 25 #[.val (.ref a_1), .val (.int p_2), .val (.ref a_3), .val (.ref a_3), .val (.int (2 : Int32)), .val (.int (1 : Int32)), .val (.int y0)] [(.int y1)])
    refine own_go (fun _ k => XS.istore X156.here hx rfl (hb hby own_d6_25) rfl (l' := #[.val (.ref a_1), .val (.int p_2), .val (.ref a_3), .val (.ref a_3), .val (.int (2 : Int32)), .val (.int (1 : Int32)), .val (.int y1)]) rfl k) ?_
    show own_Go _ _ _ _ T156 (mkF m 27 #[.val (.ref a_1), .val (.int p_2), .val (.ref a_3), .val (.ref a_3), .val (.int (2 : Int32)), .val (.int (1 : Int32)), .val (.int y1)] [])
    refine own_go (fun _ k => XS.aloadN X156.here hx rfl (hb hby own_d6_27) rfl rfl k) ?_
    show own_Go _ _ _ _ T156 (mkF m 28 #[.val (.ref a_1), .val (.int p_2), .val (.ref a_3), .val (.ref a_3), .val (.int (2 : Int32)), .val (.int (1 : Int32)), .val (.int y1)] [(.ref a_1)])
    refine own_go (fun _ k => XS.iload X156.here hx rfl (hb hby own_d6_28) rfl k) ?_
    show own_Go _ _ _ _ T156 (mkF m 30 #[.val (.ref a_1), .val (.int p_2), .val (.ref a_3), .val (.ref a_3), .val (.int (2 : Int32)), .val (.int (1 : Int32)), .val (.int y1)] [(.int y1), (.ref a_1)])
    obtain ⟨cq162, kq162, q162a, q162b, q162c⟩ := isOf hZ e156 f157
    obtain ⟨_, _, ⟨T162, L162, k162, n162⟩, -, X162, hS162, gr162, ⟨Lc162, ⟨hQ162, hV162⟩, l162, y162, z162⟩, st162⟩ := X156.virtualBackS hx (y := (⟨"com/example/kalchas/kalchas/propositional/HornClauses", "checkVariable", "(I)V"⟩ : MethodName)) (z := (⟨"com/example/kalchas/kalchas/propositional/HornClauses", "checkVariable", "(I)V"⟩ : MethodName)) hown (mvT hZ w_37) (mvT hZ w_38) (notFace_of_selects (args := #[]) (mvT hZ w_40)) (mvT hZ w_40) (mvT hZ w_39) (by decide) (own_backL (PV := (own_LP Z "com/example/kalchas/kalchas/propositional/HornClauses" 178)) (QV := (fun _ => True)) (W := 0) (own_rm7w l Z a0 hw [] a_1 y1 (3 : Int32) T149.heap n0 (by omega) (show ¬ (y1 < 0) by first | assumption | omega | decide) (show y1 < (3 : Int32) by first | assumption | omega | decide) f155) hZ w_41 w_10 (by decide) (by decide) (fun _ q => ⟨_, own_litW Li158 q⟩)) q162a q162c (g := (mkF m 30 #[.val (.ref a_1), .val (.int p_2), .val (.ref a_3), .val (.ref a_3), .val (.int (2 : Int32)), .val (.int (1 : Int32)), .val (.int y1)] [(.int y1), (.ref a_1)])) rfl (by rw [hml]; rfl) (Steps.refl _) (argsL := [(.int y1)]) (rest := []) (lenOf own_pd1 rfl) rfl (by show 2 * 0 + _ ≤ _; exact Nat.le_of_eq rfl) (hb hby own_d6_30) (fun _ _ => ⟨rfl, e156, (by show k156 + _ ≤ _; rw [y156]; decide), (by show n156 + _ ≤ _; rw [z156]; decide)⟩)
    dsimp only [Pt.U, Pt.locs, Pt.cells, Pt.slots] at X162 l162 y162 z162 st162 hQ162 hS162 gr162 hV162
    have y162 : k162 = 2 := own_addeq y162 (congrArg (fun q => q) y156) rfl
    have z162 : n162 = 36 := own_addeq z162 (congrArg (fun q => q) z156) rfl
    have Wn162 := hS162.1
    have Li163 := Li158.stays Wn162
    obtain ⟨X162, hS162, hZ, hown⟩ := rebS hS156 (n1 := T156.heap.size) (by rw [e156]; omega) X162 hS162 gr162 hZ hown
    obtain ⟨rfl, N162q, e162⟩ := hQ162
    have N162 : Fr n0 L162 := by rw [l162]; exact Fr.app N156 N162q
    have z164 : T162.heap.size = T149.heap.size := congrArg Array.size e162
    refine own_go (fun _ k => st162.trans k) ?_
    show own_Go _ _ _ _ T162 (mkF m 33 #[.val (.ref a_1), .val (.int p_2), .val (.ref a_3), .val (.ref a_3), .val (.int (2 : Int32)), .val (.int (1 : Int32)), .val (.int y1)] [])
    refine own_go (fun _ k => XS.iinc X162.here hx rfl (hb hby own_d6_33) rfl (l' := #[.val (.ref a_1), .val (.int p_2), .val (.ref a_3), .val (.ref a_3), .val (.int (2 : Int32)), .val (.int (2 : Int32)), .val (.int y1)]) rfl k) ?_
    show own_Go _ _ _ _ T162 (mkF m 36 #[.val (.ref a_1), .val (.int p_2), .val (.ref a_3), .val (.ref a_3), .val (.int (2 : Int32)), .val (.int (2 : Int32)), .val (.int y1)] [])
    refine own_go (fun _ k => XS.goto X162.here hx rfl (pc0 := 36) (pc' := 14) rfl (hb hby own_d6_36) (by decide) (by decide) k) ?_
    show own_Go _ _ _ _ T162 (mkF m 14 #[.val (.ref a_1), .val (.int p_2), .val (.ref a_3), .val (.ref a_3), .val (.int (2 : Int32)), .val (.int (2 : Int32)), .val (.int y1)] [])
    refine own_go (fun _ k => XS.iload X162.here hx rfl (hb hby own_d6_14) rfl k) ?_
    show own_Go _ _ _ _ T162 (mkF m 16 #[.val (.ref a_1), .val (.int p_2), .val (.ref a_3), .val (.ref a_3), .val (.int (2 : Int32)), .val (.int (2 : Int32)), .val (.int y1)] [(.int (2 : Int32))])
    refine own_go (fun _ k => XS.iload X162.here hx rfl (hb hby own_d6_16) rfl k) ?_
    show own_Go _ _ _ _ T162 (mkF m 18 #[.val (.ref a_1), .val (.int p_2), .val (.ref a_3), .val (.ref a_3), .val (.int (2 : Int32)), .val (.int (2 : Int32)), .val (.int y1)] [(.int (2 : Int32)), (.int (2 : Int32))])
    have hc165 : ¬ ((2 : Int32) < (2 : Int32)) := by decide
    refine own_go (fun _ k => XS.icmpYes X162.here hx rfl (pc0 := 18) (pc' := 39) rfl (hb hby own_d6_18) rfl (Jvm.Free.XT.ii_ge_t hc165) (by decide) (by decide) k) ?_
    show own_Go _ _ _ _ T162 (mkF m 39 #[.val (.ref a_1), .val (.int p_2), .val (.ref a_3), .val (.ref a_3), .val (.int (2 : Int32)), .val (.int (2 : Int32)), .val (.int y1)] [])
    refine own_go (fun _ k => XS.aloadN X162.here hx rfl (hb hby own_d6_39) rfl rfl k) ?_
    show own_Go _ _ _ _ T162 (mkF m 40 #[.val (.ref a_1), .val (.int p_2), .val (.ref a_3), .val (.ref a_3), .val (.int (2 : Int32)), .val (.int (2 : Int32)), .val (.int y1)] [(.ref a_1)])
    have f166 : Fld Z T149.heap a_1 "com/example/kalchas/kalchas/propositional/HornClauses" "clauseCount" "I" (.int (0 : Int32)) := (pr_F_a_1_clauseCount.keep K149q nin0)
    obtain ⟨T167, X167, e167, st167⟩ := getF X162 hx hZ hown (host := "") (Or.inl w_53) Via.refl e162 f166 (g := (mkF m 40 #[.val (.ref a_1), .val (.int p_2), .val (.ref a_3), .val (.ref a_3), .val (.int (2 : Int32)), .val (.int (2 : Int32)), .val (.int y1)] [(.ref a_1)])) rfl rfl (hb hby own_d6_40)
    refine own_go (fun _ k => st167 _ k) ?_
    show own_Go _ _ _ _ T167 (mkF m 43 #[.val (.ref a_1), .val (.int p_2), .val (.ref a_3), .val (.ref a_3), .val (.int (2 : Int32)), .val (.int (2 : Int32)), .val (.int y1)] [(.int (0 : Int32))])
    refine own_go (fun _ k => XS.aloadN X167.here hx rfl (hb hby own_d6_43) rfl rfl k) ?_
    show own_Go _ _ _ _ T167 (mkF m 44 #[.val (.ref a_1), .val (.int p_2), .val (.ref a_3), .val (.ref a_3), .val (.int (2 : Int32)), .val (.int (2 : Int32)), .val (.int y1)] [(.ref a_1), (.int (0 : Int32))])
    have f168 : Fld Z T149.heap a_1 "com/example/kalchas/kalchas/propositional/HornClauses" "heads" "[I" (.ref wh) := (pr_F_a_1_heads.keep K149q nin0)
    obtain ⟨T169, X169, e169, st169⟩ := getF X167 hx hZ hown (host := "") (Or.inl w_17) Via.refl e167 f168 (g := (mkF m 44 #[.val (.ref a_1), .val (.int p_2), .val (.ref a_3), .val (.ref a_3), .val (.int (2 : Int32)), .val (.int (2 : Int32)), .val (.int y1)] [(.ref a_1), (.int (0 : Int32))])) rfl rfl (hb hby own_d6_44)
    refine own_go (fun _ k => st169 _ k) ?_
    show own_Go _ _ _ _ T169 (mkF m 47 #[.val (.ref a_1), .val (.int p_2), .val (.ref a_3), .val (.ref a_3), .val (.int (2 : Int32)), .val (.int (2 : Int32)), .val (.int y1)] [(.ref wh), (.int (0 : Int32))])
    have f170 : own_AV Z T149.heap wh .int (64 : Int32) gh := (pr_A_wh.keep K149q nin0)
    obtain ⟨q171, c171, R171, s171, t171⟩ := id f170
    refine own_go (fun _ k => X169.arraylength hx (by rw [e169]; exact R171.1) (State.isArrayOf_alike hZ.alike R171.2.1) (g := (mkF m 47 #[.val (.ref a_1), .val (.int p_2), .val (.ref a_3), .val (.ref a_3), .val (.int (2 : Int32)), .val (.int (2 : Int32)), .val (.int y1)] [(.ref wh), (.int (0 : Int32))])) rfl rfl (hb hby own_d6_47) _ k) ?_
    rw [len_of s171 q171]
    show own_Go _ _ _ _ T169 (mkF m 48 #[.val (.ref a_1), .val (.int p_2), .val (.ref a_3), .val (.ref a_3), .val (.int (2 : Int32)), .val (.int (2 : Int32)), .val (.int y1)] [(.int (64 : Int32)), (.int (0 : Int32))])
    have hc172 : ¬ ((0 : Int32) = (64 : Int32)) := by decide
    refine own_go (fun _ k => XS.icmpYes X169.here hx rfl (pc0 := 48) (pc' := 85) rfl (hb hby own_d6_48) rfl (Jvm.Free.XT.ii_ne_t hc172) (by decide) (by decide) k) ?_
    show own_Go _ _ _ _ T169 (mkF m 85 #[.val (.ref a_1), .val (.int p_2), .val (.ref a_3), .val (.ref a_3), .val (.int (2 : Int32)), .val (.int (2 : Int32)), .val (.int y1)] [])
    refine own_go (fun _ k => XS.aloadN X169.here hx rfl (hb hby own_d6_85) rfl rfl k) ?_
    show own_Go _ _ _ _ T169 (mkF m 86 #[.val (.ref a_1), .val (.int p_2), .val (.ref a_3), .val (.ref a_3), .val (.int (2 : Int32)), .val (.int (2 : Int32)), .val (.int y1)] [(.ref a_1)])
    have f173 : Fld Z T149.heap a_1 "com/example/kalchas/kalchas/propositional/HornClauses" "bodyStarts" "[I" (.ref wst) := (pr_F_a_1_bodyStarts.keep K149q nin0)
    obtain ⟨T174, X174, e174, st174⟩ := getF X169 hx hZ hown (host := "") (Or.inl w_19) Via.refl e169 f173 (g := (mkF m 86 #[.val (.ref a_1), .val (.int p_2), .val (.ref a_3), .val (.ref a_3), .val (.int (2 : Int32)), .val (.int (2 : Int32)), .val (.int y1)] [(.ref a_1)])) rfl rfl (hb hby own_d6_86)
    refine own_go (fun _ k => st174 _ k) ?_
    show own_Go _ _ _ _ T174 (mkF m 89 #[.val (.ref a_1), .val (.int p_2), .val (.ref a_3), .val (.ref a_3), .val (.int (2 : Int32)), .val (.int (2 : Int32)), .val (.int y1)] [(.ref wst)])
    refine own_go (fun _ k => XS.aloadN X174.here hx rfl (hb hby own_d6_89) rfl rfl k) ?_
    show own_Go _ _ _ _ T174 (mkF m 90 #[.val (.ref a_1), .val (.int p_2), .val (.ref a_3), .val (.ref a_3), .val (.int (2 : Int32)), .val (.int (2 : Int32)), .val (.int y1)] [(.ref a_1), (.ref wst)])
    obtain ⟨T175, X175, e175, st175⟩ := getF X174 hx hZ hown (host := "") (Or.inl w_53) Via.refl e174 f166 (g := (mkF m 90 #[.val (.ref a_1), .val (.int p_2), .val (.ref a_3), .val (.ref a_3), .val (.int (2 : Int32)), .val (.int (2 : Int32)), .val (.int y1)] [(.ref a_1), (.ref wst)])) rfl rfl (hb hby own_d6_90)
    refine own_go (fun _ k => st175 _ k) ?_
    show own_Go _ _ _ _ T175 (mkF m 93 #[.val (.ref a_1), .val (.int p_2), .val (.ref a_3), .val (.ref a_3), .val (.int (2 : Int32)), .val (.int (2 : Int32)), .val (.int y1)] [(.int (0 : Int32)), (.ref wst)])
    have f176 : own_AV Z T149.heap wst .int (65 : Int32) gs := (pr_A_wst.keep K149q nin0)
    obtain ⟨q177, c177, R177, s177, t177⟩ := id f176
    have hin177 : ¬ ((0 : Int32) < 0 ∨ c177.slots.size ≤ ((0 : Int32)).toNatClampNeg) := inb_of s177 ⟨by decide, by decide⟩
    have u177 : c177.slots[((0 : Int32)).toNatClampNeg]? = some (.int bs) := own_at (k := 0) t177 s177 hin177 (by decide) (hgs)
    refine own_go (fun _ k => X175.iaload hx (j := (0 : Int32)) (v := (.int bs)) (by rw [e175]; exact R177.1) (State.isArrayOf_alike hZ.alike R177.2.1) R177.2.2 hin177 u177 (g := (mkF m 93 #[.val (.ref a_1), .val (.int p_2), .val (.ref a_3), .val (.ref a_3), .val (.int (2 : Int32)), .val (.int (2 : Int32)), .val (.int y1)] [(.int (0 : Int32)), (.ref wst)])) rfl rfl (hb hby own_d6_93) _ k) ?_
    show own_Go _ _ _ _ T175 (mkF m 94 #[.val (.ref a_1), .val (.int p_2), .val (.ref a_3), .val (.ref a_3), .val (.int (2 : Int32)), .val (.int (2 : Int32)), .val (.int y1)] [(.int bs)])
    refine own_go (fun _ k => XS.istoreN X175.here hx rfl (hb hby own_d6_94) rfl (l' := #[.val (.ref a_1), .val (.int p_2), .val (.ref a_3), .val (.int bs), .val (.int (2 : Int32)), .val (.int (2 : Int32)), .val (.int y1)]) rfl k) ?_
    show own_Go _ _ _ _ T175 (mkF m 95 #[.val (.ref a_1), .val (.int p_2), .val (.ref a_3), .val (.int bs), .val (.int (2 : Int32)), .val (.int (2 : Int32)), .val (.int y1)] [])
    refine own_go (fun _ k => XS.iloadN X175.here hx rfl (hb hby own_d6_95) rfl k) ?_
    show own_Go _ _ _ _ T175 (mkF m 96 #[.val (.ref a_1), .val (.int p_2), .val (.ref a_3), .val (.int bs), .val (.int (2 : Int32)), .val (.int (2 : Int32)), .val (.int y1)] [(.int bs)])
    refine own_go (fun _ k => XS.aloadN X175.here hx rfl (hb hby own_d6_96) rfl rfl k) ?_
    show own_Go _ _ _ _ T175 (mkF m 97 #[.val (.ref a_1), .val (.int p_2), .val (.ref a_3), .val (.int bs), .val (.int (2 : Int32)), .val (.int (2 : Int32)), .val (.int y1)] [(.ref a_3), (.int bs)])
    obtain ⟨q178, c178, R178, s178, t178⟩ := id f151
    refine own_go (fun _ k => X175.arraylength hx (by rw [e175]; exact R178.1) (State.isArrayOf_alike hZ.alike R178.2.1) (g := (mkF m 97 #[.val (.ref a_1), .val (.int p_2), .val (.ref a_3), .val (.int bs), .val (.int (2 : Int32)), .val (.int (2 : Int32)), .val (.int y1)] [(.ref a_3), (.int bs)])) rfl rfl (hb hby own_d6_97) _ k) ?_
    rw [len_of s178 q178]
    show own_Go _ _ _ _ T175 (mkF m 98 #[.val (.ref a_1), .val (.int p_2), .val (.ref a_3), .val (.int bs), .val (.int (2 : Int32)), .val (.int (2 : Int32)), .val (.int y1)] [(.int (2 : Int32)), (.int bs)])
    refine own_go (fun _ k => XS.iadd X175.here hx rfl (hb hby own_d6_98) rfl k) ?_
    show own_Go _ _ _ _ T175 (mkF m 99 #[.val (.ref a_1), .val (.int p_2), .val (.ref a_3), .val (.int bs), .val (.int (2 : Int32)), .val (.int (2 : Int32)), .val (.int y1)] [(.int (bs + (2 : Int32)))])
    refine own_go (fun _ k => XS.aloadN X175.here hx rfl (hb hby own_d6_99) rfl rfl k) ?_
    show own_Go _ _ _ _ T175 (mkF m 100 #[.val (.ref a_1), .val (.int p_2), .val (.ref a_3), .val (.int bs), .val (.int (2 : Int32)), .val (.int (2 : Int32)), .val (.int y1)] [(.ref a_1), (.int (bs + (2 : Int32)))])
    have f179 : Fld Z T149.heap a_1 "com/example/kalchas/kalchas/propositional/HornClauses" "bodies" "[I" (.ref wb) := (pr_F_a_1_bodies.keep K149q nin0)
    obtain ⟨T180, X180, e180, st180⟩ := getF X175 hx hZ hown (host := "") (Or.inl w_21) Via.refl e175 f179 (g := (mkF m 100 #[.val (.ref a_1), .val (.int p_2), .val (.ref a_3), .val (.int bs), .val (.int (2 : Int32)), .val (.int (2 : Int32)), .val (.int y1)] [(.ref a_1), (.int (bs + (2 : Int32)))])) rfl rfl (hb hby own_d6_100)
    refine own_go (fun _ k => st180 _ k) ?_
    show own_Go _ _ _ _ T180 (mkF m 103 #[.val (.ref a_1), .val (.int p_2), .val (.ref a_3), .val (.int bs), .val (.int (2 : Int32)), .val (.int (2 : Int32)), .val (.int y1)] [(.ref wb), (.int (bs + (2 : Int32)))])
    have f181 : own_AV Z T149.heap wb .int (64 : Int32) gb := (pr_A_wb.keep K149q nin0)
    obtain ⟨q182, c182, R182, s182, t182⟩ := id f181
    refine own_go (fun _ k => X180.arraylength hx (by rw [e180]; exact R182.1) (State.isArrayOf_alike hZ.alike R182.2.1) (g := (mkF m 103 #[.val (.ref a_1), .val (.int p_2), .val (.ref a_3), .val (.int bs), .val (.int (2 : Int32)), .val (.int (2 : Int32)), .val (.int y1)] [(.ref wb), (.int (bs + (2 : Int32)))])) rfl rfl (hb hby own_d6_103) _ k) ?_
    rw [len_of s182 q182]
    show own_Go _ _ _ _ T180 (mkF m 104 #[.val (.ref a_1), .val (.int p_2), .val (.ref a_3), .val (.int bs), .val (.int (2 : Int32)), .val (.int (2 : Int32)), .val (.int y1)] [(.int (64 : Int32)), (.int (bs + (2 : Int32)))])
    have hc183 : ¬ ((64 : Int32) < (bs + (2 : Int32))) := own_t6_0_6 bs hbs
    refine own_go (fun _ k => XS.icmpYes X180.here hx rfl (pc0 := 104) (pc' := 132) rfl (hb hby own_d6_104) rfl (Jvm.Free.XT.ii_le_t hc183) (by decide) (by decide) k) ?_
    show own_Go _ _ _ _ T180 (mkF m 132 #[.val (.ref a_1), .val (.int p_2), .val (.ref a_3), .val (.int bs), .val (.int (2 : Int32)), .val (.int (2 : Int32)), .val (.int y1)] [])
    refine own_go (fun _ k => XS.aloadN X180.here hx rfl (hb hby own_d6_132) rfl rfl k) ?_
    show own_Go _ _ _ _ T180 (mkF m 133 #[.val (.ref a_1), .val (.int p_2), .val (.ref a_3), .val (.int bs), .val (.int (2 : Int32)), .val (.int (2 : Int32)), .val (.int y1)] [(.ref a_3)])
    refine own_go (fun _ k => XS.iconst X180.here hx rfl (hb hby own_d6_133) k) ?_
    show own_Go _ _ _ _ T180 (mkF m 134 #[.val (.ref a_1), .val (.int p_2), .val (.ref a_3), .val (.int bs), .val (.int (2 : Int32)), .val (.int (2 : Int32)), .val (.int y1)] [(.int (0 : Int32)), (.ref a_3)])
    refine own_go (fun _ k => XS.aloadN X180.here hx rfl (hb hby own_d6_134) rfl rfl k) ?_
    show own_Go _ _ _ _ T180 (mkF m 135 #[.val (.ref a_1), .val (.int p_2), .val (.ref a_3), .val (.int bs), .val (.int (2 : Int32)), .val (.int (2 : Int32)), .val (.int y1)] [(.ref a_1), (.int (0 : Int32)), (.ref a_3)])
    obtain ⟨T184, X184, e184, st184⟩ := getF X180 hx hZ hown (host := "") (Or.inl w_21) Via.refl e180 f179 (g := (mkF m 135 #[.val (.ref a_1), .val (.int p_2), .val (.ref a_3), .val (.int bs), .val (.int (2 : Int32)), .val (.int (2 : Int32)), .val (.int y1)] [(.ref a_1), (.int (0 : Int32)), (.ref a_3)])) rfl rfl (hb hby own_d6_135)
    refine own_go (fun _ k => st184 _ k) ?_
    show own_Go _ _ _ _ T184 (mkF m 138 #[.val (.ref a_1), .val (.int p_2), .val (.ref a_3), .val (.int bs), .val (.int (2 : Int32)), .val (.int (2 : Int32)), .val (.int y1)] [(.ref wb), (.int (0 : Int32)), (.ref a_3)])
    refine own_go (fun _ k => XS.iloadN X184.here hx rfl (hb hby own_d6_138) rfl k) ?_
    show own_Go _ _ _ _ T184 (mkF m 139 #[.val (.ref a_1), .val (.int p_2), .val (.ref a_3), .val (.int bs), .val (.int (2 : Int32)), .val (.int (2 : Int32)), .val (.int y1)] [(.int bs), (.ref wb), (.int (0 : Int32)), (.ref a_3)])
    refine own_go (fun _ k => XS.aloadN X184.here hx rfl (hb hby own_d6_139) rfl rfl k) ?_
    show own_Go _ _ _ _ T184 (mkF m 140 #[.val (.ref a_1), .val (.int p_2), .val (.ref a_3), .val (.int bs), .val (.int (2 : Int32)), .val (.int (2 : Int32)), .val (.int y1)] [(.ref a_3), (.int bs), (.ref wb), (.int (0 : Int32)), (.ref a_3)])
    obtain ⟨q185, c185, R185, s185, t185⟩ := id f151
    refine own_go (fun _ k => X184.arraylength hx (by rw [e184]; exact R185.1) (State.isArrayOf_alike hZ.alike R185.2.1) (g := (mkF m 140 #[.val (.ref a_1), .val (.int p_2), .val (.ref a_3), .val (.int bs), .val (.int (2 : Int32)), .val (.int (2 : Int32)), .val (.int y1)] [(.ref a_3), (.int bs), (.ref wb), (.int (0 : Int32)), (.ref a_3)])) rfl rfl (hb hby own_d6_140) _ k) ?_
    rw [len_of s185 q185]
    show own_Go _ _ _ _ T184 (mkF m 141 #[.val (.ref a_1), .val (.int p_2), .val (.ref a_3), .val (.int bs), .val (.int (2 : Int32)), .val (.int (2 : Int32)), .val (.int y1)] [(.int (2 : Int32)), (.int bs), (.ref wb), (.int (0 : Int32)), (.ref a_3)])
    obtain ⟨T186, h186, L186, X186, e186, N186, Kq186, V186, st186⟩ := own_cp X184 hx hZ hown w_55 w_58 w_56 w_57 e184 f151 f181 (fun _ => rfl) hfb (by decide) (own_t6_0_7 bs hbs hc183) (by decide) (by decide) (own_cl5 (own_t6_0_8 bs hbs hc183)) N162 (by omega) (g := (mkF m 141 #[.val (.ref a_1), .val (.int p_2), .val (.ref a_3), .val (.int bs), .val (.int (2 : Int32)), .val (.int (2 : Int32)), .val (.int y1)] [(.int (2 : Int32)), (.int bs), (.ref wb), (.int (0 : Int32)), (.ref a_3)])) rfl (by rw [hml]; rfl) rfl (hb hby own_d6_141) (by decide) (W := 0) (by show 2 * 0 + _ ≤ _; exact Nat.le_of_eq rfl) (by decide)
    have z187 := Kq186.1
    have K186 : Keep h0 h186 [a_1, wh, wst, wb] := K149.trans Kq186 (allS (Or.inl (List.mem_of_getElem? (i := 3) rfl)) all0)
    refine own_go (fun _ k => st186 _ k) ?_
    show own_Go _ _ _ _ T186 (mkF m 144 #[.val (.ref a_1), .val (.int p_2), .val (.ref a_3), .val (.int bs), .val (.int (2 : Int32)), .val (.int (2 : Int32)), .val (.int y1)] [])
    refine own_go (fun _ k => XS.aloadN X186.here hx rfl (hb hby own_d6_144) rfl rfl k) ?_
    show own_Go _ _ _ _ T186 (mkF m 145 #[.val (.ref a_1), .val (.int p_2), .val (.ref a_3), .val (.int bs), .val (.int (2 : Int32)), .val (.int (2 : Int32)), .val (.int y1)] [(.ref a_1)])
    have f188 : Fld Z h186 a_1 "com/example/kalchas/kalchas/propositional/HornClauses" "heads" "[I" (.ref wh) := (f168.keep Kq186 (ninS (own_ne (by omega)) nin0))
    obtain ⟨T189, X189, e189, st189⟩ := getF X186 hx hZ hown (host := "") (Or.inl w_17) Via.refl e186 f188 (g := (mkF m 145 #[.val (.ref a_1), .val (.int p_2), .val (.ref a_3), .val (.int bs), .val (.int (2 : Int32)), .val (.int (2 : Int32)), .val (.int y1)] [(.ref a_1)])) rfl rfl (hb hby own_d6_145)
    refine own_go (fun _ k => st189 _ k) ?_
    show own_Go _ _ _ _ T189 (mkF m 148 #[.val (.ref a_1), .val (.int p_2), .val (.ref a_3), .val (.int bs), .val (.int (2 : Int32)), .val (.int (2 : Int32)), .val (.int y1)] [(.ref wh)])
    refine own_go (fun _ k => XS.aloadN X189.here hx rfl (hb hby own_d6_148) rfl rfl k) ?_
    show own_Go _ _ _ _ T189 (mkF m 149 #[.val (.ref a_1), .val (.int p_2), .val (.ref a_3), .val (.int bs), .val (.int (2 : Int32)), .val (.int (2 : Int32)), .val (.int y1)] [(.ref a_1), (.ref wh)])
    have f190 : Fld Z h186 a_1 "com/example/kalchas/kalchas/propositional/HornClauses" "clauseCount" "I" (.int (0 : Int32)) := (f166.keep Kq186 (ninS (own_ne (by omega)) nin0))
    obtain ⟨T191, X191, e191, st191⟩ := getF X189 hx hZ hown (host := "") (Or.inl w_53) Via.refl e189 f190 (g := (mkF m 149 #[.val (.ref a_1), .val (.int p_2), .val (.ref a_3), .val (.int bs), .val (.int (2 : Int32)), .val (.int (2 : Int32)), .val (.int y1)] [(.ref a_1), (.ref wh)])) rfl rfl (hb hby own_d6_149)
    refine own_go (fun _ k => st191 _ k) ?_
    show own_Go _ _ _ _ T191 (mkF m 152 #[.val (.ref a_1), .val (.int p_2), .val (.ref a_3), .val (.int bs), .val (.int (2 : Int32)), .val (.int (2 : Int32)), .val (.int y1)] [(.int (0 : Int32)), (.ref wh)])
    refine own_go (fun _ k => XS.iloadN X191.here hx rfl (hb hby own_d6_152) rfl k) ?_
    show own_Go _ _ _ _ T191 (mkF m 153 #[.val (.ref a_1), .val (.int p_2), .val (.ref a_3), .val (.int bs), .val (.int (2 : Int32)), .val (.int (2 : Int32)), .val (.int y1)] [(.int p_2), (.int (0 : Int32)), (.ref wh)])
    have f192 : own_AV Z h186 wh .int (64 : Int32) gh := (f170.keep Kq186 (ninS (own_ne (by omega)) nin0))
    obtain ⟨q193, c193, R193, s193, t193⟩ := id f192
    have hin193 : ¬ ((0 : Int32) < 0 ∨ c193.slots.size ≤ ((0 : Int32)).toNatClampNeg) := inb_of s193 ⟨by decide, by decide⟩
    obtain ⟨T194, h194, X194, e194, W194, st194⟩ := stI X191 hx hZ e191 R193 (j := (0 : Int32)) hin193 (g := (mkF m 153 #[.val (.ref a_1), .val (.int p_2), .val (.ref a_3), .val (.int bs), .val (.int (2 : Int32)), .val (.int (2 : Int32)), .val (.int y1)] [(.int p_2), (.int (0 : Int32)), (.ref wh)])) rfl rfl (hb hby own_d6_153)
    have V194 : own_AV Z h194 wh .int (64 : Int32) (own_upd gh 0 (.int p_2)) := own_AV.set (k := 0) f192 W194 (by decide)
    have z195 := W194.size
    have K194 : Keep h0 h194 [a_1, wh, wst, wb] := K186.wr W194 (Or.inl (List.mem_of_getElem? (i := 1) rfl))
    have N194 := Fr.snoc X194 N186 (by omega : n0 ≤ wh)
    refine own_go (fun _ k => st194 _ k) ?_
    show own_Go _ _ _ _ T194 (mkF m 154 #[.val (.ref a_1), .val (.int p_2), .val (.ref a_3), .val (.int bs), .val (.int (2 : Int32)), .val (.int (2 : Int32)), .val (.int y1)] [])
    refine own_go (fun _ k => XS.aloadN X194.here hx rfl (hb hby own_d6_154) rfl rfl k) ?_
    show own_Go _ _ _ _ T194 (mkF m 155 #[.val (.ref a_1), .val (.int p_2), .val (.ref a_3), .val (.int bs), .val (.int (2 : Int32)), .val (.int (2 : Int32)), .val (.int y1)] [(.ref a_1)])
    have f196 : Fld Z h194 a_1 "com/example/kalchas/kalchas/propositional/HornClauses" "bodyStarts" "[I" (.ref wst) := ((f173.keep Kq186 (ninS (own_ne (by omega)) nin0)).other W194 (Or.inl (own_ne (by omega))))
    obtain ⟨T197, X197, e197, st197⟩ := getF X194 hx hZ hown (host := "") (Or.inl w_19) Via.refl e194 f196 (g := (mkF m 155 #[.val (.ref a_1), .val (.int p_2), .val (.ref a_3), .val (.int bs), .val (.int (2 : Int32)), .val (.int (2 : Int32)), .val (.int y1)] [(.ref a_1)])) rfl rfl (hb hby own_d6_155)
    refine own_go (fun _ k => st197 _ k) ?_
    show own_Go _ _ _ _ T197 (mkF m 158 #[.val (.ref a_1), .val (.int p_2), .val (.ref a_3), .val (.int bs), .val (.int (2 : Int32)), .val (.int (2 : Int32)), .val (.int y1)] [(.ref wst)])
    refine own_go (fun _ k => XS.aloadN X197.here hx rfl (hb hby own_d6_158) rfl rfl k) ?_
    show own_Go _ _ _ _ T197 (mkF m 159 #[.val (.ref a_1), .val (.int p_2), .val (.ref a_3), .val (.int bs), .val (.int (2 : Int32)), .val (.int (2 : Int32)), .val (.int y1)] [(.ref a_1), (.ref wst)])
    have f198 : Fld Z h194 a_1 "com/example/kalchas/kalchas/propositional/HornClauses" "clauseCount" "I" (.int (0 : Int32)) := (f190.other W194 (Or.inl (own_ne (by omega))))
    obtain ⟨T199, X199, e199, st199⟩ := getF X197 hx hZ hown (host := "") (Or.inl w_53) Via.refl e197 f198 (g := (mkF m 159 #[.val (.ref a_1), .val (.int p_2), .val (.ref a_3), .val (.int bs), .val (.int (2 : Int32)), .val (.int (2 : Int32)), .val (.int y1)] [(.ref a_1), (.ref wst)])) rfl rfl (hb hby own_d6_159)
    refine own_go (fun _ k => st199 _ k) ?_
    show own_Go _ _ _ _ T199 (mkF m 162 #[.val (.ref a_1), .val (.int p_2), .val (.ref a_3), .val (.int bs), .val (.int (2 : Int32)), .val (.int (2 : Int32)), .val (.int y1)] [(.int (0 : Int32)), (.ref wst)])
    refine own_go (fun _ k => XS.iconst X199.here hx rfl (hb hby own_d6_162) k) ?_
    show own_Go _ _ _ _ T199 (mkF m 163 #[.val (.ref a_1), .val (.int p_2), .val (.ref a_3), .val (.int bs), .val (.int (2 : Int32)), .val (.int (2 : Int32)), .val (.int y1)] [(.int (1 : Int32)), (.int (0 : Int32)), (.ref wst)])
    refine own_go (fun _ k => XS.iadd X199.here hx rfl (hb hby own_d6_163) rfl k) ?_
    show own_Go _ _ _ _ T199 (mkF m 164 #[.val (.ref a_1), .val (.int p_2), .val (.ref a_3), .val (.int bs), .val (.int (2 : Int32)), .val (.int (2 : Int32)), .val (.int y1)] [(.int (1 : Int32)), (.ref wst)])
    refine own_go (fun _ k => XS.iloadN X199.here hx rfl (hb hby own_d6_164) rfl k) ?_
    show own_Go _ _ _ _ T199 (mkF m 165 #[.val (.ref a_1), .val (.int p_2), .val (.ref a_3), .val (.int bs), .val (.int (2 : Int32)), .val (.int (2 : Int32)), .val (.int y1)] [(.int bs), (.int (1 : Int32)), (.ref wst)])
    refine own_go (fun _ k => XS.aloadN X199.here hx rfl (hb hby own_d6_165) rfl rfl k) ?_
    show own_Go _ _ _ _ T199 (mkF m 166 #[.val (.ref a_1), .val (.int p_2), .val (.ref a_3), .val (.int bs), .val (.int (2 : Int32)), .val (.int (2 : Int32)), .val (.int y1)] [(.ref a_3), (.int bs), (.int (1 : Int32)), (.ref wst)])
    have f200 : own_AV Z h194 a_3 .int (2 : Int32) (own_n3 y0 y1 y2) := ((f151.keep Kq186 (ninS (own_ne (by omega)) nin0)).other W194 (own_ne (by omega)))
    obtain ⟨q201, c201, R201, s201, t201⟩ := id f200
    refine own_go (fun _ k => X199.arraylength hx (by rw [e199]; exact R201.1) (State.isArrayOf_alike hZ.alike R201.2.1) (g := (mkF m 166 #[.val (.ref a_1), .val (.int p_2), .val (.ref a_3), .val (.int bs), .val (.int (2 : Int32)), .val (.int (2 : Int32)), .val (.int y1)] [(.ref a_3), (.int bs), (.int (1 : Int32)), (.ref wst)])) rfl rfl (hb hby own_d6_166) _ k) ?_
    rw [len_of s201 q201]
    show own_Go _ _ _ _ T199 (mkF m 167 #[.val (.ref a_1), .val (.int p_2), .val (.ref a_3), .val (.int bs), .val (.int (2 : Int32)), .val (.int (2 : Int32)), .val (.int y1)] [(.int (2 : Int32)), (.int bs), (.int (1 : Int32)), (.ref wst)])
    refine own_go (fun _ k => XS.iadd X199.here hx rfl (hb hby own_d6_167) rfl k) ?_
    show own_Go _ _ _ _ T199 (mkF m 168 #[.val (.ref a_1), .val (.int p_2), .val (.ref a_3), .val (.int bs), .val (.int (2 : Int32)), .val (.int (2 : Int32)), .val (.int y1)] [(.int (bs + (2 : Int32))), (.int (1 : Int32)), (.ref wst)])
    have f202 : own_AV Z h194 wst .int (65 : Int32) gs := ((f176.keep Kq186 (ninS (own_ne (by omega)) nin0)).other W194 (own_ne (by omega)))
    obtain ⟨q203, c203, R203, s203, t203⟩ := id f202
    have hin203 : ¬ ((1 : Int32) < 0 ∨ c203.slots.size ≤ ((1 : Int32)).toNatClampNeg) := inb_of s203 ⟨by decide, by decide⟩
    obtain ⟨T204, h204, X204, e204, W204, st204⟩ := stI X199 hx hZ e199 R203 (j := (1 : Int32)) hin203 (g := (mkF m 168 #[.val (.ref a_1), .val (.int p_2), .val (.ref a_3), .val (.int bs), .val (.int (2 : Int32)), .val (.int (2 : Int32)), .val (.int y1)] [(.int (bs + (2 : Int32))), (.int (1 : Int32)), (.ref wst)])) rfl rfl (hb hby own_d6_168)
    have V204 : own_AV Z h204 wst .int (65 : Int32) (own_upd gs 1 (.int (bs + (2 : Int32)))) := own_AV.set (k := 1) f202 W204 (by decide)
    have z205 := W204.size
    have K204 : Keep h0 h204 [a_1, wh, wst, wb] := K194.wr W204 (Or.inl (List.mem_of_getElem? (i := 2) rfl))
    have N204 := Fr.snoc X204 N194 (by omega : n0 ≤ wst)
    refine own_go (fun _ k => st204 _ k) ?_
    show own_Go _ _ _ _ T204 (mkF m 169 #[.val (.ref a_1), .val (.int p_2), .val (.ref a_3), .val (.int bs), .val (.int (2 : Int32)), .val (.int (2 : Int32)), .val (.int y1)] [])
    refine own_go (fun _ k => XS.aloadN X204.here hx rfl (hb hby own_d6_169) rfl rfl k) ?_
    show own_Go _ _ _ _ T204 (mkF m 170 #[.val (.ref a_1), .val (.int p_2), .val (.ref a_3), .val (.int bs), .val (.int (2 : Int32)), .val (.int (2 : Int32)), .val (.int y1)] [(.ref a_1)])
    refine own_go (fun _ k => XS.dup X204.here hx rfl (hb hby own_d6_170) rfl rfl k) ?_
    show own_Go _ _ _ _ T204 (mkF m 171 #[.val (.ref a_1), .val (.int p_2), .val (.ref a_3), .val (.int bs), .val (.int (2 : Int32)), .val (.int (2 : Int32)), .val (.int y1)] [(.ref a_1), (.ref a_1)])
    have f206 : Fld Z h204 a_1 "com/example/kalchas/kalchas/propositional/HornClauses" "clauseCount" "I" (.int (0 : Int32)) := (f198.other W204 (Or.inl (own_ne (by omega))))
    obtain ⟨T207, X207, e207, st207⟩ := getF X204 hx hZ hown (host := "") (Or.inl w_53) Via.refl e204 f206 (g := (mkF m 171 #[.val (.ref a_1), .val (.int p_2), .val (.ref a_3), .val (.int bs), .val (.int (2 : Int32)), .val (.int (2 : Int32)), .val (.int y1)] [(.ref a_1), (.ref a_1)])) rfl rfl (hb hby own_d6_171)
    refine own_go (fun _ k => st207 _ k) ?_
    show own_Go _ _ _ _ T207 (mkF m 174 #[.val (.ref a_1), .val (.int p_2), .val (.ref a_3), .val (.int bs), .val (.int (2 : Int32)), .val (.int (2 : Int32)), .val (.int y1)] [(.int (0 : Int32)), (.ref a_1)])
    refine own_go (fun _ k => XS.iconst X207.here hx rfl (hb hby own_d6_174) k) ?_
    show own_Go _ _ _ _ T207 (mkF m 175 #[.val (.ref a_1), .val (.int p_2), .val (.ref a_3), .val (.int bs), .val (.int (2 : Int32)), .val (.int (2 : Int32)), .val (.int y1)] [(.int (1 : Int32)), (.int (0 : Int32)), (.ref a_1)])
    refine own_go (fun _ k => XS.iadd X207.here hx rfl (hb hby own_d6_175) rfl k) ?_
    show own_Go _ _ _ _ T207 (mkF m 176 #[.val (.ref a_1), .val (.int p_2), .val (.ref a_3), .val (.int bs), .val (.int (2 : Int32)), .val (.int (2 : Int32)), .val (.int y1)] [(.int (1 : Int32)), (.ref a_1)])
    have f208 : Exa Z h204 a_1 "com/example/kalchas/kalchas/propositional/HornClauses" := (((f157.keep Kq186).wr W194).wr W204)
    obtain ⟨T209, h209, X209, e209, W209, st209⟩ := putF X207 hx hZ hown (host := "") (Or.inl w_53) Via.refl e207 f206 f208 (Or.inl w_54) w_9 (ty := .int) (by decide) rfl rfl (g := (mkF m 176 #[.val (.ref a_1), .val (.int p_2), .val (.ref a_3), .val (.int bs), .val (.int (2 : Int32)), .val (.int (2 : Int32)), .val (.int y1)] [(.int (1 : Int32)), (.ref a_1)])) rfl rfl (hb hby own_d6_176)
    have z210 := W209.size
    have K209 : Keep h0 h209 [a_1, wh, wst, wb] := K204.wr W209 (Or.inl (List.mem_of_getElem? (i := 0) rfl))
    have N209 := Fr.snoc X209 N204 (by omega : n0 ≤ a_1)
    have Fw209 : Fld Z h209 a_1 "com/example/kalchas/kalchas/propositional/HornClauses" "clauseCount" "I" (.int (1 : Int32)) := Fld.same W209 f206
    refine own_go (fun _ k => st209 _ k) ?_
    show own_Go _ _ _ _ T209 (mkF m 179 #[.val (.ref a_1), .val (.int p_2), .val (.ref a_3), .val (.int bs), .val (.int (2 : Int32)), .val (.int (2 : Int32)), .val (.int y1)] [])
    refine own_go (fun _ k => XS.aloadN X209.here hx rfl (hb hby own_d6_179) rfl rfl k) ?_
    show own_Go _ _ _ _ T209 (mkF m 180 #[.val (.ref a_1), .val (.int p_2), .val (.ref a_3), .val (.int bs), .val (.int (2 : Int32)), .val (.int (2 : Int32)), .val (.int y1)] [(.ref a_1)])
    refine own_go (fun _ k => XS.aconstNull X209.here hx rfl (hb hby own_d6_180) k) ?_
    show own_Go _ _ _ _ T209 (mkF m 181 #[.val (.ref a_1), .val (.int p_2), .val (.ref a_3), .val (.int bs), .val (.int (2 : Int32)), .val (.int (2 : Int32)), .val (.int y1)] [.null, (.ref a_1)])
    have f211 : Exa Z h209 a_1 "com/example/kalchas/kalchas/propositional/HornClauses" := (f208.wr W209)
    have f212 : Fld Z h209 a_1 "com/example/kalchas/kalchas/propositional/HornClauses" "occurrences" "[I" w_occ := (((((pr_F_a_1_occurrences.keep K149q nin0).keep Kq186 (ninS (own_ne (by omega)) nin0)).other W194 (Or.inl (own_ne (by omega)))).other W204 (Or.inl (own_ne (by omega)))).other W209 (Or.inr (slot_ne (Or.inl w_29) (Or.inl w_54) (by decide) (t := (.array .int)) (t' := .int) (by decide) (by decide))))
    obtain ⟨T213, h213, X213, e213, W213, st213⟩ := putF X209 hx hZ hown (host := "") (Or.inl w_28) Via.refl e209 f212 f211 (Or.inl w_29) w_9 (ty := (.array .int)) (by decide) rfl rfl (g := (mkF m 181 #[.val (.ref a_1), .val (.int p_2), .val (.ref a_3), .val (.int bs), .val (.int (2 : Int32)), .val (.int (2 : Int32)), .val (.int y1)] [.null, (.ref a_1)])) rfl rfl (hb hby own_d6_181)
    have z214 := W213.size
    have K213 : Keep h0 h213 [a_1, wh, wst, wb] := K209.wr W213 (Or.inl (List.mem_of_getElem? (i := 0) rfl))
    have N213 := Fr.snoc X213 N209 (by omega : n0 ≤ a_1)
    have Fw213 : Fld Z h213 a_1 "com/example/kalchas/kalchas/propositional/HornClauses" "occurrences" "[I" .null := Fld.same W213 f212
    refine own_go (fun _ k => st213 _ k) ?_
    show own_Go _ _ _ _ T213 (mkF m 184 #[.val (.ref a_1), .val (.int p_2), .val (.ref a_3), .val (.int bs), .val (.int (2 : Int32)), .val (.int (2 : Int32)), .val (.int y1)] [])
    obtain ⟨fs, hr, hrun, hended, hRW⟩ := X213.leaveW hS162 (by rw [e213]; omega) (v := none) (fun _ => rfl)
    refine ⟨_, _, X213.returnOut hx Bd.returns (hb hby own_d6_184) hr, hrun, hended, _, _, rfl, ?_, own_monoW hRW (by rw [y162]; decide) (by rw [z162]; decide)⟩
    refine ⟨?_, ⟨_, own_litW Li163 X213.warmed.wide⟩⟩
    show own_Q6_0 Z a_1 p_2 a_3 wh wst wb gh gs gb bs w_occ (2 : Int32) y0 y1 y2 h0 n0 _ T213.heap _
    rw [e213]
    have f216 : own_AV Z h213 wst .int (65 : Int32) (own_upd gs 1 (.int (bs + (2 : Int32)))) := ((V204.other W209 (own_ne (by omega))).other W213 (own_ne (by omega)))
    have f217 : own_AV Z h213 wb .int (64 : Int32) (own_cpf (own_n3 y0 y1 y2) ((0 : Int32)).toNatClampNeg gb (bs).toNatClampNeg ((2 : Int32)).toNatClampNeg) := ((((V186.other W194 (own_ne (by omega))).other W204 (own_ne (by omega))).other W209 (own_ne (by omega))).other W213 (own_ne (by omega)))
    have f218 : Exa Z h213 a_1 "com/example/kalchas/kalchas/propositional/HornClauses" := (f211.wr W213)
    have f219 : Fld Z h213 a_1 "com/example/kalchas/kalchas/propositional/HornClauses" "variableCount" "I" (.int (3 : Int32)) := (((((f155.keep Kq186 (ninS (own_ne (by omega)) nin0)).other W194 (Or.inl (own_ne (by omega)))).other W204 (Or.inl (own_ne (by omega)))).other W209 (Or.inr (slot_ne (Or.inl w_31) (Or.inl w_54) (by decide) (t := .int) (t' := .int) (by decide) (by decide)))).other W213 (Or.inr (slot_ne (Or.inl w_31) (Or.inl w_29) (by decide) (t := .int) (t' := (.array .int)) (by decide) (by decide))))
    have f220 : Fld Z h213 a_1 "com/example/kalchas/kalchas/propositional/HornClauses" "clauseCount" "I" (.int (1 : Int32)) := (Fw209.other W213 (Or.inr (slot_ne (Or.inl w_54) (Or.inl w_29) (by decide) (t := .int) (t' := (.array .int)) (by decide) (by decide))))
    have f221 : Fld Z h213 a_1 "com/example/kalchas/kalchas/propositional/HornClauses" "heads" "[I" (.ref wh) := ((((f188.other W194 (Or.inl (own_ne (by omega)))).other W204 (Or.inl (own_ne (by omega)))).other W209 (Or.inr (slot_ne (Or.inl w_18) (Or.inl w_54) (by decide) (t := (.array .int)) (t' := .int) (by decide) (by decide)))).other W213 (Or.inr (slot_ne (Or.inl w_18) (Or.inl w_29) (by decide) (t := (.array .int)) (t' := (.array .int)) (by decide) (by decide))))
    have f222 : Fld Z h213 a_1 "com/example/kalchas/kalchas/propositional/HornClauses" "bodyStarts" "[I" (.ref wst) := (((f196.other W204 (Or.inl (own_ne (by omega)))).other W209 (Or.inr (slot_ne (Or.inl w_20) (Or.inl w_54) (by decide) (t := (.array .int)) (t' := .int) (by decide) (by decide)))).other W213 (Or.inr (slot_ne (Or.inl w_20) (Or.inl w_29) (by decide) (t := (.array .int)) (t' := (.array .int)) (by decide) (by decide))))
    have f223 : Fld Z h213 a_1 "com/example/kalchas/kalchas/propositional/HornClauses" "bodies" "[I" (.ref wb) := (((((f179.keep Kq186 (ninS (own_ne (by omega)) nin0)).other W194 (Or.inl (own_ne (by omega)))).other W204 (Or.inl (own_ne (by omega)))).other W209 (Or.inr (slot_ne (Or.inl w_22) (Or.inl w_54) (by decide) (t := (.array .int)) (t' := .int) (by decide) (by decide)))).other W213 (Or.inr (slot_ne (Or.inl w_22) (Or.inl w_29) (by decide) (t := (.array .int)) (t' := (.array .int)) (by decide) (by decide))))
    have f224 : own_AV Z h213 wh .int (64 : Int32) (own_upd gh 0 (.int p_2)) := (((V194.other W204 (own_ne (by omega))).other W209 (own_ne (by omega))).other W213 (own_ne (by omega)))
    exact ⟨rfl, N213, K213, f218, f219, f220, f221, f222, f223, Fw213, f224, f216, f217⟩
  · subst hs13
    show own_Go _ _ _ _ s₁ (mkF m 0 #[.val (.ref a_1), .val (.int p_2), .val (.ref a_3), .unset, .unset, .unset, .unset] [])
    refine own_go (fun _ k => XS.aloadN X0.here hx rfl (hb hby own_d6_0) rfl rfl k) ?_
    show own_Go _ _ _ _ s₁ (mkF m 1 #[.val (.ref a_1), .val (.int p_2), .val (.ref a_3), .unset, .unset, .unset, .unset] [(.ref a_1)])
    refine own_go (fun _ k => XS.iloadN X0.here hx rfl (hb hby own_d6_1) rfl k) ?_
    show own_Go _ _ _ _ s₁ (mkF m 2 #[.val (.ref a_1), .val (.int p_2), .val (.ref a_3), .unset, .unset, .unset, .unset] [(.int p_2), (.ref a_1)])
    obtain ⟨cq225, kq225, q225a, q225b, q225c⟩ := isOf hZ e0 pr_E_a_1
    obtain ⟨_, _, ⟨T225, L225, k225, n225⟩, -, X225, hS225, gr225, ⟨Lc225, ⟨hQ225, hV225⟩, l225, y225, z225⟩, st225⟩ := X0.virtualBackS hx (y := (⟨"com/example/kalchas/kalchas/propositional/HornClauses", "checkVariable", "(I)V"⟩ : MethodName)) (z := (⟨"com/example/kalchas/kalchas/propositional/HornClauses", "checkVariable", "(I)V"⟩ : MethodName)) hown (mvT hZ w_37) (mvT hZ w_38) (notFace_of_selects (args := #[]) (mvT hZ w_40)) (mvT hZ w_40) (mvT hZ w_39) (by decide) (own_backL (PV := (fun _ => True)) (QV := (own_LP Z "com/example/kalchas/kalchas/propositional/HornClauses" 178)) (W := 0) (own_rm7c l Z a0 hw [] a_1 p_2 (3 : Int32) h0 n0 (by omega) (show ¬ (p_2 < 0) by first | assumption | omega | decide) (show p_2 < (3 : Int32) by first | assumption | omega | decide) pr_F_a_1_variableCount) hZ w_41 w_10 (by decide) (by decide) (fun _ _ => trivial)) q225a q225c (g := (mkF m 2 #[.val (.ref a_1), .val (.int p_2), .val (.ref a_3), .unset, .unset, .unset, .unset] [(.int p_2), (.ref a_1)])) rfl (by rw [hml]; rfl) (Steps.refl _) (argsL := [(.int p_2)]) (rest := []) (lenOf own_pd1 rfl) rfl (by show 2 * 0 + _ ≤ _; exact Nat.le_of_eq rfl) (hb hby own_d6_2) (fun _ _ => ⟨rfl, e0, (by decide : 0 + 2 ≤ _), (by decide : 0 + 36 ≤ _)⟩)
    dsimp only [Pt.U, Pt.locs, Pt.cells, Pt.slots] at X225 l225 y225 z225 st225 hQ225 hS225 gr225 hV225
    have y225 : k225 = 2 := y225
    have z225 : n225 = 36 := z225
    have Wn225 := hS225.1
    obtain ⟨X225, hS225, hZ, hown⟩ := rebS hS0 (n1 := s₁.heap.size) (by rw [e0]; omega) X225 hS225 gr225 hZ hown
    obtain ⟨bL225, Lq225⟩ := hV225
    have Lq225 : Lit (s.setVm T225.vm) "com/example/kalchas/kalchas/propositional/HornClauses" 178 bL225 := Lq225
    obtain ⟨rfl, N225q, K225q⟩ := hQ225
    have N225 : Fr n0 L225 := by rw [l225]; exact Fr.app N0 N225q
    have z226 := K225q.1
    have K225 : Keep h0 T225.heap [a_1, wh, wst, wb] := K0.trans K225q all0
    refine own_go (fun _ k => st225.trans k) ?_
    show own_Go _ _ _ _ T225 (mkF m 5 #[.val (.ref a_1), .val (.int p_2), .val (.ref a_3), .unset, .unset, .unset, .unset] [])
    refine own_go (fun _ k => XS.aloadN X225.here hx rfl (hb hby own_d6_5) rfl rfl k) ?_
    show own_Go _ _ _ _ T225 (mkF m 6 #[.val (.ref a_1), .val (.int p_2), .val (.ref a_3), .unset, .unset, .unset, .unset] [(.ref a_3)])
    refine own_go (fun _ k => XS.astoreN X225.here hx rfl (hb hby own_d6_6) rfl rfl (l' := #[.val (.ref a_1), .val (.int p_2), .val (.ref a_3), .val (.ref a_3), .unset, .unset, .unset]) rfl k) ?_
    show own_Go _ _ _ _ T225 (mkF m 7 #[.val (.ref a_1), .val (.int p_2), .val (.ref a_3), .val (.ref a_3), .unset, .unset, .unset] [])
    refine own_go (fun _ k => XS.aloadN X225.here hx rfl (hb hby own_d6_7) rfl rfl k) ?_
    show own_Go _ _ _ _ T225 (mkF m 8 #[.val (.ref a_1), .val (.int p_2), .val (.ref a_3), .val (.ref a_3), .unset, .unset, .unset] [(.ref a_3)])
    have f227 : own_AV Z T225.heap a_3 .int (3 : Int32) (own_n3 y0 y1 y2) := (pr_A_a_3.keep K225q nin0)
    obtain ⟨q228, c228, R228, s228, t228⟩ := id f227
    refine own_go (fun _ k => X225.arraylength hx R228.1 (State.isArrayOf_alike hZ.alike R228.2.1) (g := (mkF m 8 #[.val (.ref a_1), .val (.int p_2), .val (.ref a_3), .val (.ref a_3), .unset, .unset, .unset] [(.ref a_3)])) rfl rfl (hb hby own_d6_8) _ k) ?_
    rw [len_of s228 q228]
    show own_Go _ _ _ _ T225 (mkF m 9 #[.val (.ref a_1), .val (.int p_2), .val (.ref a_3), .val (.ref a_3), .unset, .unset, .unset] [(.int (3 : Int32))])
    refine own_go (fun _ k => XS.istore X225.here hx rfl (hb hby own_d6_9) rfl (l' := #[.val (.ref a_1), .val (.int p_2), .val (.ref a_3), .val (.ref a_3), .val (.int (3 : Int32)), .unset, .unset]) rfl k) ?_
    show own_Go _ _ _ _ T225 (mkF m 11 #[.val (.ref a_1), .val (.int p_2), .val (.ref a_3), .val (.ref a_3), .val (.int (3 : Int32)), .unset, .unset] [])
    refine own_go (fun _ k => XS.iconst X225.here hx rfl (hb hby own_d6_11) k) ?_
    show own_Go _ _ _ _ T225 (mkF m 12 #[.val (.ref a_1), .val (.int p_2), .val (.ref a_3), .val (.ref a_3), .val (.int (3 : Int32)), .unset, .unset] [(.int (0 : Int32))])
    refine own_go (fun _ k => XS.istore X225.here hx rfl (hb hby own_d6_12) rfl (l' := #[.val (.ref a_1), .val (.int p_2), .val (.ref a_3), .val (.ref a_3), .val (.int (3 : Int32)), .val (.int (0 : Int32)), .unset]) rfl k) ?_
    show own_Go _ _ _ _ T225 (mkF m 14 #[.val (.ref a_1), .val (.int p_2), .val (.ref a_3), .val (.ref a_3), .val (.int (3 : Int32)), .val (.int (0 : Int32)), .unset] [])
    refine own_go (fun _ k => XS.iload X225.here hx rfl (hb hby own_d6_14) rfl k) ?_
    show own_Go _ _ _ _ T225 (mkF m 16 #[.val (.ref a_1), .val (.int p_2), .val (.ref a_3), .val (.ref a_3), .val (.int (3 : Int32)), .val (.int (0 : Int32)), .unset] [(.int (0 : Int32))])
    refine own_go (fun _ k => XS.iload X225.here hx rfl (hb hby own_d6_16) rfl k) ?_
    show own_Go _ _ _ _ T225 (mkF m 18 #[.val (.ref a_1), .val (.int p_2), .val (.ref a_3), .val (.ref a_3), .val (.int (3 : Int32)), .val (.int (0 : Int32)), .unset] [(.int (3 : Int32)), (.int (0 : Int32))])
    have hc229 : (0 : Int32) < (3 : Int32) := by decide
    refine own_go (fun _ k => XS.icmpNo X225.here hx rfl (hb hby own_d6_18) rfl (Jvm.Free.XT.ii_ge_f hc229) k) ?_
    show own_Go _ _ _ _ T225 (mkF m 21 #[.val (.ref a_1), .val (.int p_2), .val (.ref a_3), .val (.ref a_3), .val (.int (3 : Int32)), .val (.int (0 : Int32)), .unset] [])
    refine own_go (fun _ k => XS.aloadN X225.here hx rfl (hb hby own_d6_21) rfl rfl k) ?_
    show own_Go _ _ _ _ T225 (mkF m 22 #[.val (.ref a_1), .val (.int p_2), .val (.ref a_3), .val (.ref a_3), .val (.int (3 : Int32)), .val (.int (0 : Int32)), .unset] [(.ref a_3)])
    refine own_go (fun _ k => XS.iload X225.here hx rfl (hb hby own_d6_22) rfl k) ?_
    show own_Go _ _ _ _ T225 (mkF m 24 #[.val (.ref a_1), .val (.int p_2), .val (.ref a_3), .val (.ref a_3), .val (.int (3 : Int32)), .val (.int (0 : Int32)), .unset] [(.int (0 : Int32)), (.ref a_3)])
    obtain ⟨q230, c230, R230, s230, t230⟩ := id f227
    have hin230 : ¬ ((0 : Int32) < 0 ∨ c230.slots.size ≤ ((0 : Int32)).toNatClampNeg) := inb_of s230 ⟨by decide, by decide⟩
    have u230 : c230.slots[((0 : Int32)).toNatClampNeg]? = some (.int y0) := own_at (k := 0) t230 s230 hin230 (by decide) (rfl)
    refine own_go (fun _ k => X225.iaload hx (j := (0 : Int32)) (v := (.int y0)) R230.1 (State.isArrayOf_alike hZ.alike R230.2.1) R230.2.2 hin230 u230 (g := (mkF m 24 #[.val (.ref a_1), .val (.int p_2), .val (.ref a_3), .val (.ref a_3), .val (.int (3 : Int32)), .val (.int (0 : Int32)), .unset] [(.int (0 : Int32)), (.ref a_3)])) rfl rfl (hb hby own_d6_24) _ k) ?_
    show own_Go _ _ _ _ T225 (mkF m 25 #[.val (.ref a_1), .val (.int p_2), .val (.ref a_3), .val (.ref a_3), .val (.int (3 : Int32)), .val (.int (0 : Int32)), .unset] [(.int y0)])
    refine own_go (fun _ k => XS.istore X225.here hx rfl (hb hby own_d6_25) rfl (l' := #[.val (.ref a_1), .val (.int p_2), .val (.ref a_3), .val (.ref a_3), .val (.int (3 : Int32)), .val (.int (0 : Int32)), .val (.int y0)]) rfl k) ?_
    show own_Go _ _ _ _ T225 (mkF m 27 #[.val (.ref a_1), .val (.int p_2), .val (.ref a_3), .val (.ref a_3), .val (.int (3 : Int32)), .val (.int (0 : Int32)), .val (.int y0)] [])
    refine own_go (fun _ k => XS.aloadN X225.here hx rfl (hb hby own_d6_27) rfl rfl k) ?_
    show own_Go _ _ _ _ T225 (mkF m 28 #[.val (.ref a_1), .val (.int p_2), .val (.ref a_3), .val (.ref a_3), .val (.int (3 : Int32)), .val (.int (0 : Int32)), .val (.int y0)] [(.ref a_1)])
    refine own_go (fun _ k => XS.iload X225.here hx rfl (hb hby own_d6_28) rfl k) ?_
    show own_Go _ _ _ _ T225 (mkF m 30 #[.val (.ref a_1), .val (.int p_2), .val (.ref a_3), .val (.ref a_3), .val (.int (3 : Int32)), .val (.int (0 : Int32)), .val (.int y0)] [(.int y0), (.ref a_1)])
    have f231 : Fld Z T225.heap a_1 "com/example/kalchas/kalchas/propositional/HornClauses" "variableCount" "I" (.int (3 : Int32)) := (pr_F_a_1_variableCount.keep K225q nin0)
    have f233 : Exa Z T225.heap a_1 "com/example/kalchas/kalchas/propositional/HornClauses" := (pr_E_a_1.keep K225q)
    obtain ⟨cq232, kq232, q232a, q232b, q232c⟩ := isOf hZ rfl f233
    obtain ⟨_, _, ⟨T232, L232, k232, n232⟩, -, X232, hS232, gr232, ⟨Lc232, ⟨hQ232, hV232⟩, l232, y232, z232⟩, st232⟩ := X225.virtualBackS hx (y := (⟨"com/example/kalchas/kalchas/propositional/HornClauses", "checkVariable", "(I)V"⟩ : MethodName)) (z := (⟨"com/example/kalchas/kalchas/propositional/HornClauses", "checkVariable", "(I)V"⟩ : MethodName)) hown (mvT hZ w_37) (mvT hZ w_38) (notFace_of_selects (args := #[]) (mvT hZ w_40)) (mvT hZ w_40) (mvT hZ w_39) (by decide) (own_backL (PV := (own_LP Z "com/example/kalchas/kalchas/propositional/HornClauses" 178)) (QV := (fun _ => True)) (W := 0) (own_rm7w l Z a0 hw [] a_1 y0 (3 : Int32) T225.heap n0 (by omega) (show ¬ (y0 < 0) by first | assumption | omega | decide) (show y0 < (3 : Int32) by first | assumption | omega | decide) f231) hZ w_41 w_10 (by decide) (by decide) (fun _ q => ⟨_, own_litW Lq225 q⟩)) q232a q232c (g := (mkF m 30 #[.val (.ref a_1), .val (.int p_2), .val (.ref a_3), .val (.ref a_3), .val (.int (3 : Int32)), .val (.int (0 : Int32)), .val (.int y0)] [(.int y0), (.ref a_1)])) rfl (by rw [hml]; rfl) (Steps.refl _) (argsL := [(.int y0)]) (rest := []) (lenOf own_pd1 rfl) rfl (by show 2 * 0 + _ ≤ _; exact Nat.le_of_eq rfl) (hb hby own_d6_30) (fun _ _ => ⟨rfl, rfl, (by show k225 + _ ≤ _; rw [y225]; decide), (by show n225 + _ ≤ _; rw [z225]; decide)⟩)
    dsimp only [Pt.U, Pt.locs, Pt.cells, Pt.slots] at X232 l232 y232 z232 st232 hQ232 hS232 gr232 hV232
    have y232 : k232 = 2 := own_addeq y232 (congrArg (fun q => q) y225) rfl
    have z232 : n232 = 36 := own_addeq z232 (congrArg (fun q => q) z225) rfl
    have Wn232 := hS232.1
    have Li234 := Lq225.stays Wn232
    obtain ⟨X232, hS232, hZ, hown⟩ := rebS hS225 (n1 := T225.heap.size) (by omega) X232 hS232 gr232 hZ hown
    obtain ⟨rfl, N232q, e232⟩ := hQ232
    have N232 : Fr n0 L232 := by rw [l232]; exact Fr.app N225 N232q
    have z235 : T232.heap.size = T225.heap.size := congrArg Array.size e232
    refine own_go (fun _ k => st232.trans k) ?_
    show own_Go _ _ _ _ T232 (mkF m 33 #[.val (.ref a_1), .val (.int p_2), .val (.ref a_3), .val (.ref a_3), .val (.int (3 : Int32)), .val (.int (0 : Int32)), .val (.int y0)] [])
    refine own_go (fun _ k => XS.iinc X232.here hx rfl (hb hby own_d6_33) rfl (l' := #[.val (.ref a_1), .val (.int p_2), .val (.ref a_3), .val (.ref a_3), .val (.int (3 : Int32)), .val (.int (1 : Int32)), .val (.int y0)]) rfl k) ?_
    show own_Go _ _ _ _ T232 (mkF m 36 #[.val (.ref a_1), .val (.int p_2), .val (.ref a_3), .val (.ref a_3), .val (.int (3 : Int32)), .val (.int (1 : Int32)), .val (.int y0)] [])
    refine own_go (fun _ k => XS.goto X232.here hx rfl (pc0 := 36) (pc' := 14) rfl (hb hby own_d6_36) (by decide) (by decide) k) ?_
    show own_Go _ _ _ _ T232 (mkF m 14 #[.val (.ref a_1), .val (.int p_2), .val (.ref a_3), .val (.ref a_3), .val (.int (3 : Int32)), .val (.int (1 : Int32)), .val (.int y0)] [])
    refine own_go (fun _ k => XS.iload X232.here hx rfl (hb hby own_d6_14) rfl k) ?_
    show own_Go _ _ _ _ T232 (mkF m 16 #[.val (.ref a_1), .val (.int p_2), .val (.ref a_3), .val (.ref a_3), .val (.int (3 : Int32)), .val (.int (1 : Int32)), .val (.int y0)] [(.int (1 : Int32))])
    refine own_go (fun _ k => XS.iload X232.here hx rfl (hb hby own_d6_16) rfl k) ?_
    show own_Go _ _ _ _ T232 (mkF m 18 #[.val (.ref a_1), .val (.int p_2), .val (.ref a_3), .val (.ref a_3), .val (.int (3 : Int32)), .val (.int (1 : Int32)), .val (.int y0)] [(.int (3 : Int32)), (.int (1 : Int32))])
    have hc236 : (1 : Int32) < (3 : Int32) := by decide
    refine own_go (fun _ k => XS.icmpNo X232.here hx rfl (hb hby own_d6_18) rfl (Jvm.Free.XT.ii_ge_f hc236) k) ?_
    show own_Go _ _ _ _ T232 (mkF m 21 #[.val (.ref a_1), .val (.int p_2), .val (.ref a_3), .val (.ref a_3), .val (.int (3 : Int32)), .val (.int (1 : Int32)), .val (.int y0)] [])
    refine own_go (fun _ k => XS.aloadN X232.here hx rfl (hb hby own_d6_21) rfl rfl k) ?_
    show own_Go _ _ _ _ T232 (mkF m 22 #[.val (.ref a_1), .val (.int p_2), .val (.ref a_3), .val (.ref a_3), .val (.int (3 : Int32)), .val (.int (1 : Int32)), .val (.int y0)] [(.ref a_3)])
    refine own_go (fun _ k => XS.iload X232.here hx rfl (hb hby own_d6_22) rfl k) ?_
    show own_Go _ _ _ _ T232 (mkF m 24 #[.val (.ref a_1), .val (.int p_2), .val (.ref a_3), .val (.ref a_3), .val (.int (3 : Int32)), .val (.int (1 : Int32)), .val (.int y0)] [(.int (1 : Int32)), (.ref a_3)])
    obtain ⟨q237, c237, R237, s237, t237⟩ := id f227
    have hin237 : ¬ ((1 : Int32) < 0 ∨ c237.slots.size ≤ ((1 : Int32)).toNatClampNeg) := inb_of s237 ⟨by decide, by decide⟩
    have u237 : c237.slots[((1 : Int32)).toNatClampNeg]? = some (.int y1) := own_at (k := 1) t237 s237 hin237 (by decide) (rfl)
    refine own_go (fun _ k => X232.iaload hx (j := (1 : Int32)) (v := (.int y1)) (by rw [e232]; exact R237.1) (State.isArrayOf_alike hZ.alike R237.2.1) R237.2.2 hin237 u237 (g := (mkF m 24 #[.val (.ref a_1), .val (.int p_2), .val (.ref a_3), .val (.ref a_3), .val (.int (3 : Int32)), .val (.int (1 : Int32)), .val (.int y0)] [(.int (1 : Int32)), (.ref a_3)])) rfl rfl (hb hby own_d6_24) _ k) ?_
    show own_Go _ _ _ _ T232 (mkF m 25 #[.val (.ref a_1), .val (.int p_2), .val (.ref a_3), .val (.ref a_3), .val (.int (3 : Int32)), .val (.int (1 : Int32)), .val (.int y0)] [(.int y1)])
    refine own_go (fun _ k => XS.istore X232.here hx rfl (hb hby own_d6_25) rfl (l' := #[.val (.ref a_1), .val (.int p_2), .val (.ref a_3), .val (.ref a_3), .val (.int (3 : Int32)), .val (.int (1 : Int32)), .val (.int y1)]) rfl k) ?_
    show own_Go _ _ _ _ T232 (mkF m 27 #[.val (.ref a_1), .val (.int p_2), .val (.ref a_3), .val (.ref a_3), .val (.int (3 : Int32)), .val (.int (1 : Int32)), .val (.int y1)] [])
    refine own_go (fun _ k => XS.aloadN X232.here hx rfl (hb hby own_d6_27) rfl rfl k) ?_
    show own_Go _ _ _ _ T232 (mkF m 28 #[.val (.ref a_1), .val (.int p_2), .val (.ref a_3), .val (.ref a_3), .val (.int (3 : Int32)), .val (.int (1 : Int32)), .val (.int y1)] [(.ref a_1)])
    refine own_go (fun _ k => XS.iload X232.here hx rfl (hb hby own_d6_28) rfl k) ?_
    show own_Go _ _ _ _ T232 (mkF m 30 #[.val (.ref a_1), .val (.int p_2), .val (.ref a_3), .val (.ref a_3), .val (.int (3 : Int32)), .val (.int (1 : Int32)), .val (.int y1)] [(.int y1), (.ref a_1)])
    obtain ⟨cq238, kq238, q238a, q238b, q238c⟩ := isOf hZ e232 f233
    obtain ⟨_, _, ⟨T238, L238, k238, n238⟩, -, X238, hS238, gr238, ⟨Lc238, ⟨hQ238, hV238⟩, l238, y238, z238⟩, st238⟩ := X232.virtualBackS hx (y := (⟨"com/example/kalchas/kalchas/propositional/HornClauses", "checkVariable", "(I)V"⟩ : MethodName)) (z := (⟨"com/example/kalchas/kalchas/propositional/HornClauses", "checkVariable", "(I)V"⟩ : MethodName)) hown (mvT hZ w_37) (mvT hZ w_38) (notFace_of_selects (args := #[]) (mvT hZ w_40)) (mvT hZ w_40) (mvT hZ w_39) (by decide) (own_backL (PV := (own_LP Z "com/example/kalchas/kalchas/propositional/HornClauses" 178)) (QV := (fun _ => True)) (W := 0) (own_rm7w l Z a0 hw [] a_1 y1 (3 : Int32) T225.heap n0 (by omega) (show ¬ (y1 < 0) by first | assumption | omega | decide) (show y1 < (3 : Int32) by first | assumption | omega | decide) f231) hZ w_41 w_10 (by decide) (by decide) (fun _ q => ⟨_, own_litW Li234 q⟩)) q238a q238c (g := (mkF m 30 #[.val (.ref a_1), .val (.int p_2), .val (.ref a_3), .val (.ref a_3), .val (.int (3 : Int32)), .val (.int (1 : Int32)), .val (.int y1)] [(.int y1), (.ref a_1)])) rfl (by rw [hml]; rfl) (Steps.refl _) (argsL := [(.int y1)]) (rest := []) (lenOf own_pd1 rfl) rfl (by show 2 * 0 + _ ≤ _; exact Nat.le_of_eq rfl) (hb hby own_d6_30) (fun _ _ => ⟨rfl, e232, (by show k232 + _ ≤ _; rw [y232]; decide), (by show n232 + _ ≤ _; rw [z232]; decide)⟩)
    dsimp only [Pt.U, Pt.locs, Pt.cells, Pt.slots] at X238 l238 y238 z238 st238 hQ238 hS238 gr238 hV238
    have y238 : k238 = 2 := own_addeq y238 (congrArg (fun q => q) y232) rfl
    have z238 : n238 = 36 := own_addeq z238 (congrArg (fun q => q) z232) rfl
    have Wn238 := hS238.1
    have Li239 := Li234.stays Wn238
    obtain ⟨X238, hS238, hZ, hown⟩ := rebS hS232 (n1 := T232.heap.size) (by rw [e232]; omega) X238 hS238 gr238 hZ hown
    obtain ⟨rfl, N238q, e238⟩ := hQ238
    have N238 : Fr n0 L238 := by rw [l238]; exact Fr.app N232 N238q
    have z240 : T238.heap.size = T225.heap.size := congrArg Array.size e238
    refine own_go (fun _ k => st238.trans k) ?_
    show own_Go _ _ _ _ T238 (mkF m 33 #[.val (.ref a_1), .val (.int p_2), .val (.ref a_3), .val (.ref a_3), .val (.int (3 : Int32)), .val (.int (1 : Int32)), .val (.int y1)] [])
    refine own_go (fun _ k => XS.iinc X238.here hx rfl (hb hby own_d6_33) rfl (l' := #[.val (.ref a_1), .val (.int p_2), .val (.ref a_3), .val (.ref a_3), .val (.int (3 : Int32)), .val (.int (2 : Int32)), .val (.int y1)]) rfl k) ?_
    show own_Go _ _ _ _ T238 (mkF m 36 #[.val (.ref a_1), .val (.int p_2), .val (.ref a_3), .val (.ref a_3), .val (.int (3 : Int32)), .val (.int (2 : Int32)), .val (.int y1)] [])
    refine own_go (fun _ k => XS.goto X238.here hx rfl (pc0 := 36) (pc' := 14) rfl (hb hby own_d6_36) (by decide) (by decide) k) ?_
    show own_Go _ _ _ _ T238 (mkF m 14 #[.val (.ref a_1), .val (.int p_2), .val (.ref a_3), .val (.ref a_3), .val (.int (3 : Int32)), .val (.int (2 : Int32)), .val (.int y1)] [])
    refine own_go (fun _ k => XS.iload X238.here hx rfl (hb hby own_d6_14) rfl k) ?_
    show own_Go _ _ _ _ T238 (mkF m 16 #[.val (.ref a_1), .val (.int p_2), .val (.ref a_3), .val (.ref a_3), .val (.int (3 : Int32)), .val (.int (2 : Int32)), .val (.int y1)] [(.int (2 : Int32))])
    refine own_go (fun _ k => XS.iload X238.here hx rfl (hb hby own_d6_16) rfl k) ?_
    show own_Go _ _ _ _ T238 (mkF m 18 #[.val (.ref a_1), .val (.int p_2), .val (.ref a_3), .val (.ref a_3), .val (.int (3 : Int32)), .val (.int (2 : Int32)), .val (.int y1)] [(.int (3 : Int32)), (.int (2 : Int32))])
    have hc241 : (2 : Int32) < (3 : Int32) := by decide
    refine own_go (fun _ k => XS.icmpNo X238.here hx rfl (hb hby own_d6_18) rfl (Jvm.Free.XT.ii_ge_f hc241) k) ?_
    show own_Go _ _ _ _ T238 (mkF m 21 #[.val (.ref a_1), .val (.int p_2), .val (.ref a_3), .val (.ref a_3), .val (.int (3 : Int32)), .val (.int (2 : Int32)), .val (.int y1)] [])
    refine own_go (fun _ k => XS.aloadN X238.here hx rfl (hb hby own_d6_21) rfl rfl k) ?_
    show own_Go _ _ _ _ T238 (mkF m 22 #[.val (.ref a_1), .val (.int p_2), .val (.ref a_3), .val (.ref a_3), .val (.int (3 : Int32)), .val (.int (2 : Int32)), .val (.int y1)] [(.ref a_3)])
    refine own_go (fun _ k => XS.iload X238.here hx rfl (hb hby own_d6_22) rfl k) ?_
    show own_Go _ _ _ _ T238 (mkF m 24 #[.val (.ref a_1), .val (.int p_2), .val (.ref a_3), .val (.ref a_3), .val (.int (3 : Int32)), .val (.int (2 : Int32)), .val (.int y1)] [(.int (2 : Int32)), (.ref a_3)])
    obtain ⟨q242, c242, R242, s242, t242⟩ := id f227
    have hin242 : ¬ ((2 : Int32) < 0 ∨ c242.slots.size ≤ ((2 : Int32)).toNatClampNeg) := inb_of s242 ⟨by decide, by decide⟩
    have u242 : c242.slots[((2 : Int32)).toNatClampNeg]? = some (.int y2) := own_at (k := 2) t242 s242 hin242 (by decide) (rfl)
    refine own_go (fun _ k => X238.iaload hx (j := (2 : Int32)) (v := (.int y2)) (by rw [e238]; exact R242.1) (State.isArrayOf_alike hZ.alike R242.2.1) R242.2.2 hin242 u242 (g := (mkF m 24 #[.val (.ref a_1), .val (.int p_2), .val (.ref a_3), .val (.ref a_3), .val (.int (3 : Int32)), .val (.int (2 : Int32)), .val (.int y1)] [(.int (2 : Int32)), (.ref a_3)])) rfl rfl (hb hby own_d6_24) _ k) ?_
    show own_Go _ _ _ _ T238 (mkF m 25 #[.val (.ref a_1), .val (.int p_2), .val (.ref a_3), .val (.ref a_3), .val (.int (3 : Int32)), .val (.int (2 : Int32)), .val (.int y1)] [(.int y2)])
    refine own_go (fun _ k => XS.istore X238.here hx rfl (hb hby own_d6_25) rfl (l' := #[.val (.ref a_1), .val (.int p_2), .val (.ref a_3), .val (.ref a_3), .val (.int (3 : Int32)), .val (.int (2 : Int32)), .val (.int y2)]) rfl k) ?_
    show own_Go _ _ _ _ T238 (mkF m 27 #[.val (.ref a_1), .val (.int p_2), .val (.ref a_3), .val (.ref a_3), .val (.int (3 : Int32)), .val (.int (2 : Int32)), .val (.int y2)] [])
    refine own_go (fun _ k => XS.aloadN X238.here hx rfl (hb hby own_d6_27) rfl rfl k) ?_
    show own_Go _ _ _ _ T238 (mkF m 28 #[.val (.ref a_1), .val (.int p_2), .val (.ref a_3), .val (.ref a_3), .val (.int (3 : Int32)), .val (.int (2 : Int32)), .val (.int y2)] [(.ref a_1)])
    refine own_go (fun _ k => XS.iload X238.here hx rfl (hb hby own_d6_28) rfl k) ?_
    show own_Go _ _ _ _ T238 (mkF m 30 #[.val (.ref a_1), .val (.int p_2), .val (.ref a_3), .val (.ref a_3), .val (.int (3 : Int32)), .val (.int (2 : Int32)), .val (.int y2)] [(.int y2), (.ref a_1)])
    obtain ⟨cq243, kq243, q243a, q243b, q243c⟩ := isOf hZ e238 f233
    obtain ⟨_, _, ⟨T243, L243, k243, n243⟩, -, X243, hS243, gr243, ⟨Lc243, ⟨hQ243, hV243⟩, l243, y243, z243⟩, st243⟩ := X238.virtualBackS hx (y := (⟨"com/example/kalchas/kalchas/propositional/HornClauses", "checkVariable", "(I)V"⟩ : MethodName)) (z := (⟨"com/example/kalchas/kalchas/propositional/HornClauses", "checkVariable", "(I)V"⟩ : MethodName)) hown (mvT hZ w_37) (mvT hZ w_38) (notFace_of_selects (args := #[]) (mvT hZ w_40)) (mvT hZ w_40) (mvT hZ w_39) (by decide) (own_backL (PV := (own_LP Z "com/example/kalchas/kalchas/propositional/HornClauses" 178)) (QV := (fun _ => True)) (W := 0) (own_rm7w l Z a0 hw [] a_1 y2 (3 : Int32) T225.heap n0 (by omega) (show ¬ (y2 < 0) by first | assumption | omega | decide) (show y2 < (3 : Int32) by first | assumption | omega | decide) f231) hZ w_41 w_10 (by decide) (by decide) (fun _ q => ⟨_, own_litW Li239 q⟩)) q243a q243c (g := (mkF m 30 #[.val (.ref a_1), .val (.int p_2), .val (.ref a_3), .val (.ref a_3), .val (.int (3 : Int32)), .val (.int (2 : Int32)), .val (.int y2)] [(.int y2), (.ref a_1)])) rfl (by rw [hml]; rfl) (Steps.refl _) (argsL := [(.int y2)]) (rest := []) (lenOf own_pd1 rfl) rfl (by show 2 * 0 + _ ≤ _; exact Nat.le_of_eq rfl) (hb hby own_d6_30) (fun _ _ => ⟨rfl, e238, (by show k238 + _ ≤ _; rw [y238]; decide), (by show n238 + _ ≤ _; rw [z238]; decide)⟩)
    dsimp only [Pt.U, Pt.locs, Pt.cells, Pt.slots] at X243 l243 y243 z243 st243 hQ243 hS243 gr243 hV243
    have y243 : k243 = 2 := own_addeq y243 (congrArg (fun q => q) y238) rfl
    have z243 : n243 = 36 := own_addeq z243 (congrArg (fun q => q) z238) rfl
    have Wn243 := hS243.1
    have Li244 := Li239.stays Wn243
    obtain ⟨X243, hS243, hZ, hown⟩ := rebS hS238 (n1 := T238.heap.size) (by rw [e238]; omega) X243 hS243 gr243 hZ hown
    obtain ⟨rfl, N243q, e243⟩ := hQ243
    have N243 : Fr n0 L243 := by rw [l243]; exact Fr.app N238 N243q
    have z245 : T243.heap.size = T225.heap.size := congrArg Array.size e243
    refine own_go (fun _ k => st243.trans k) ?_
    show own_Go _ _ _ _ T243 (mkF m 33 #[.val (.ref a_1), .val (.int p_2), .val (.ref a_3), .val (.ref a_3), .val (.int (3 : Int32)), .val (.int (2 : Int32)), .val (.int y2)] [])
    refine own_go (fun _ k => XS.iinc X243.here hx rfl (hb hby own_d6_33) rfl (l' := #[.val (.ref a_1), .val (.int p_2), .val (.ref a_3), .val (.ref a_3), .val (.int (3 : Int32)), .val (.int (3 : Int32)), .val (.int y2)]) rfl k) ?_
    show own_Go _ _ _ _ T243 (mkF m 36 #[.val (.ref a_1), .val (.int p_2), .val (.ref a_3), .val (.ref a_3), .val (.int (3 : Int32)), .val (.int (3 : Int32)), .val (.int y2)] [])
    refine own_go (fun _ k => XS.goto X243.here hx rfl (pc0 := 36) (pc' := 14) rfl (hb hby own_d6_36) (by decide) (by decide) k) ?_
    show own_Go _ _ _ _ T243 (mkF m 14 #[.val (.ref a_1), .val (.int p_2), .val (.ref a_3), .val (.ref a_3), .val (.int (3 : Int32)), .val (.int (3 : Int32)), .val (.int y2)] [])
    refine own_go (fun _ k => XS.iload X243.here hx rfl (hb hby own_d6_14) rfl k) ?_
    show own_Go _ _ _ _ T243 (mkF m 16 #[.val (.ref a_1), .val (.int p_2), .val (.ref a_3), .val (.ref a_3), .val (.int (3 : Int32)), .val (.int (3 : Int32)), .val (.int y2)] [(.int (3 : Int32))])
    refine own_go (fun _ k => XS.iload X243.here hx rfl (hb hby own_d6_16) rfl k) ?_
    show own_Go _ _ _ _ T243 (mkF m 18 #[.val (.ref a_1), .val (.int p_2), .val (.ref a_3), .val (.ref a_3), .val (.int (3 : Int32)), .val (.int (3 : Int32)), .val (.int y2)] [(.int (3 : Int32)), (.int (3 : Int32))])
    have hc246 : ¬ ((3 : Int32) < (3 : Int32)) := by decide
    refine own_go (fun _ k => XS.icmpYes X243.here hx rfl (pc0 := 18) (pc' := 39) rfl (hb hby own_d6_18) rfl (Jvm.Free.XT.ii_ge_t hc246) (by decide) (by decide) k) ?_
    show own_Go _ _ _ _ T243 (mkF m 39 #[.val (.ref a_1), .val (.int p_2), .val (.ref a_3), .val (.ref a_3), .val (.int (3 : Int32)), .val (.int (3 : Int32)), .val (.int y2)] [])
    refine own_go (fun _ k => XS.aloadN X243.here hx rfl (hb hby own_d6_39) rfl rfl k) ?_
    show own_Go _ _ _ _ T243 (mkF m 40 #[.val (.ref a_1), .val (.int p_2), .val (.ref a_3), .val (.ref a_3), .val (.int (3 : Int32)), .val (.int (3 : Int32)), .val (.int y2)] [(.ref a_1)])
    have f247 : Fld Z T225.heap a_1 "com/example/kalchas/kalchas/propositional/HornClauses" "clauseCount" "I" (.int (0 : Int32)) := (pr_F_a_1_clauseCount.keep K225q nin0)
    obtain ⟨T248, X248, e248, st248⟩ := getF X243 hx hZ hown (host := "") (Or.inl w_53) Via.refl e243 f247 (g := (mkF m 40 #[.val (.ref a_1), .val (.int p_2), .val (.ref a_3), .val (.ref a_3), .val (.int (3 : Int32)), .val (.int (3 : Int32)), .val (.int y2)] [(.ref a_1)])) rfl rfl (hb hby own_d6_40)
    refine own_go (fun _ k => st248 _ k) ?_
    show own_Go _ _ _ _ T248 (mkF m 43 #[.val (.ref a_1), .val (.int p_2), .val (.ref a_3), .val (.ref a_3), .val (.int (3 : Int32)), .val (.int (3 : Int32)), .val (.int y2)] [(.int (0 : Int32))])
    refine own_go (fun _ k => XS.aloadN X248.here hx rfl (hb hby own_d6_43) rfl rfl k) ?_
    show own_Go _ _ _ _ T248 (mkF m 44 #[.val (.ref a_1), .val (.int p_2), .val (.ref a_3), .val (.ref a_3), .val (.int (3 : Int32)), .val (.int (3 : Int32)), .val (.int y2)] [(.ref a_1), (.int (0 : Int32))])
    have f249 : Fld Z T225.heap a_1 "com/example/kalchas/kalchas/propositional/HornClauses" "heads" "[I" (.ref wh) := (pr_F_a_1_heads.keep K225q nin0)
    obtain ⟨T250, X250, e250, st250⟩ := getF X248 hx hZ hown (host := "") (Or.inl w_17) Via.refl e248 f249 (g := (mkF m 44 #[.val (.ref a_1), .val (.int p_2), .val (.ref a_3), .val (.ref a_3), .val (.int (3 : Int32)), .val (.int (3 : Int32)), .val (.int y2)] [(.ref a_1), (.int (0 : Int32))])) rfl rfl (hb hby own_d6_44)
    refine own_go (fun _ k => st250 _ k) ?_
    show own_Go _ _ _ _ T250 (mkF m 47 #[.val (.ref a_1), .val (.int p_2), .val (.ref a_3), .val (.ref a_3), .val (.int (3 : Int32)), .val (.int (3 : Int32)), .val (.int y2)] [(.ref wh), (.int (0 : Int32))])
    have f251 : own_AV Z T225.heap wh .int (64 : Int32) gh := (pr_A_wh.keep K225q nin0)
    obtain ⟨q252, c252, R252, s252, t252⟩ := id f251
    refine own_go (fun _ k => X250.arraylength hx (by rw [e250]; exact R252.1) (State.isArrayOf_alike hZ.alike R252.2.1) (g := (mkF m 47 #[.val (.ref a_1), .val (.int p_2), .val (.ref a_3), .val (.ref a_3), .val (.int (3 : Int32)), .val (.int (3 : Int32)), .val (.int y2)] [(.ref wh), (.int (0 : Int32))])) rfl rfl (hb hby own_d6_47) _ k) ?_
    rw [len_of s252 q252]
    show own_Go _ _ _ _ T250 (mkF m 48 #[.val (.ref a_1), .val (.int p_2), .val (.ref a_3), .val (.ref a_3), .val (.int (3 : Int32)), .val (.int (3 : Int32)), .val (.int y2)] [(.int (64 : Int32)), (.int (0 : Int32))])
    have hc253 : ¬ ((0 : Int32) = (64 : Int32)) := by decide
    refine own_go (fun _ k => XS.icmpYes X250.here hx rfl (pc0 := 48) (pc' := 85) rfl (hb hby own_d6_48) rfl (Jvm.Free.XT.ii_ne_t hc253) (by decide) (by decide) k) ?_
    show own_Go _ _ _ _ T250 (mkF m 85 #[.val (.ref a_1), .val (.int p_2), .val (.ref a_3), .val (.ref a_3), .val (.int (3 : Int32)), .val (.int (3 : Int32)), .val (.int y2)] [])
    refine own_go (fun _ k => XS.aloadN X250.here hx rfl (hb hby own_d6_85) rfl rfl k) ?_
    show own_Go _ _ _ _ T250 (mkF m 86 #[.val (.ref a_1), .val (.int p_2), .val (.ref a_3), .val (.ref a_3), .val (.int (3 : Int32)), .val (.int (3 : Int32)), .val (.int y2)] [(.ref a_1)])
    have f254 : Fld Z T225.heap a_1 "com/example/kalchas/kalchas/propositional/HornClauses" "bodyStarts" "[I" (.ref wst) := (pr_F_a_1_bodyStarts.keep K225q nin0)
    obtain ⟨T255, X255, e255, st255⟩ := getF X250 hx hZ hown (host := "") (Or.inl w_19) Via.refl e250 f254 (g := (mkF m 86 #[.val (.ref a_1), .val (.int p_2), .val (.ref a_3), .val (.ref a_3), .val (.int (3 : Int32)), .val (.int (3 : Int32)), .val (.int y2)] [(.ref a_1)])) rfl rfl (hb hby own_d6_86)
    refine own_go (fun _ k => st255 _ k) ?_
    show own_Go _ _ _ _ T255 (mkF m 89 #[.val (.ref a_1), .val (.int p_2), .val (.ref a_3), .val (.ref a_3), .val (.int (3 : Int32)), .val (.int (3 : Int32)), .val (.int y2)] [(.ref wst)])
    refine own_go (fun _ k => XS.aloadN X255.here hx rfl (hb hby own_d6_89) rfl rfl k) ?_
    show own_Go _ _ _ _ T255 (mkF m 90 #[.val (.ref a_1), .val (.int p_2), .val (.ref a_3), .val (.ref a_3), .val (.int (3 : Int32)), .val (.int (3 : Int32)), .val (.int y2)] [(.ref a_1), (.ref wst)])
    obtain ⟨T256, X256, e256, st256⟩ := getF X255 hx hZ hown (host := "") (Or.inl w_53) Via.refl e255 f247 (g := (mkF m 90 #[.val (.ref a_1), .val (.int p_2), .val (.ref a_3), .val (.ref a_3), .val (.int (3 : Int32)), .val (.int (3 : Int32)), .val (.int y2)] [(.ref a_1), (.ref wst)])) rfl rfl (hb hby own_d6_90)
    refine own_go (fun _ k => st256 _ k) ?_
    show own_Go _ _ _ _ T256 (mkF m 93 #[.val (.ref a_1), .val (.int p_2), .val (.ref a_3), .val (.ref a_3), .val (.int (3 : Int32)), .val (.int (3 : Int32)), .val (.int y2)] [(.int (0 : Int32)), (.ref wst)])
    have f257 : own_AV Z T225.heap wst .int (65 : Int32) gs := (pr_A_wst.keep K225q nin0)
    obtain ⟨q258, c258, R258, s258, t258⟩ := id f257
    have hin258 : ¬ ((0 : Int32) < 0 ∨ c258.slots.size ≤ ((0 : Int32)).toNatClampNeg) := inb_of s258 ⟨by decide, by decide⟩
    have u258 : c258.slots[((0 : Int32)).toNatClampNeg]? = some (.int bs) := own_at (k := 0) t258 s258 hin258 (by decide) (hgs)
    refine own_go (fun _ k => X256.iaload hx (j := (0 : Int32)) (v := (.int bs)) (by rw [e256]; exact R258.1) (State.isArrayOf_alike hZ.alike R258.2.1) R258.2.2 hin258 u258 (g := (mkF m 93 #[.val (.ref a_1), .val (.int p_2), .val (.ref a_3), .val (.ref a_3), .val (.int (3 : Int32)), .val (.int (3 : Int32)), .val (.int y2)] [(.int (0 : Int32)), (.ref wst)])) rfl rfl (hb hby own_d6_93) _ k) ?_
    show own_Go _ _ _ _ T256 (mkF m 94 #[.val (.ref a_1), .val (.int p_2), .val (.ref a_3), .val (.ref a_3), .val (.int (3 : Int32)), .val (.int (3 : Int32)), .val (.int y2)] [(.int bs)])
    refine own_go (fun _ k => XS.istoreN X256.here hx rfl (hb hby own_d6_94) rfl (l' := #[.val (.ref a_1), .val (.int p_2), .val (.ref a_3), .val (.int bs), .val (.int (3 : Int32)), .val (.int (3 : Int32)), .val (.int y2)]) rfl k) ?_
    show own_Go _ _ _ _ T256 (mkF m 95 #[.val (.ref a_1), .val (.int p_2), .val (.ref a_3), .val (.int bs), .val (.int (3 : Int32)), .val (.int (3 : Int32)), .val (.int y2)] [])
    refine own_go (fun _ k => XS.iloadN X256.here hx rfl (hb hby own_d6_95) rfl k) ?_
    show own_Go _ _ _ _ T256 (mkF m 96 #[.val (.ref a_1), .val (.int p_2), .val (.ref a_3), .val (.int bs), .val (.int (3 : Int32)), .val (.int (3 : Int32)), .val (.int y2)] [(.int bs)])
    refine own_go (fun _ k => XS.aloadN X256.here hx rfl (hb hby own_d6_96) rfl rfl k) ?_
    show own_Go _ _ _ _ T256 (mkF m 97 #[.val (.ref a_1), .val (.int p_2), .val (.ref a_3), .val (.int bs), .val (.int (3 : Int32)), .val (.int (3 : Int32)), .val (.int y2)] [(.ref a_3), (.int bs)])
    obtain ⟨q259, c259, R259, s259, t259⟩ := id f227
    refine own_go (fun _ k => X256.arraylength hx (by rw [e256]; exact R259.1) (State.isArrayOf_alike hZ.alike R259.2.1) (g := (mkF m 97 #[.val (.ref a_1), .val (.int p_2), .val (.ref a_3), .val (.int bs), .val (.int (3 : Int32)), .val (.int (3 : Int32)), .val (.int y2)] [(.ref a_3), (.int bs)])) rfl rfl (hb hby own_d6_97) _ k) ?_
    rw [len_of s259 q259]
    show own_Go _ _ _ _ T256 (mkF m 98 #[.val (.ref a_1), .val (.int p_2), .val (.ref a_3), .val (.int bs), .val (.int (3 : Int32)), .val (.int (3 : Int32)), .val (.int y2)] [(.int (3 : Int32)), (.int bs)])
    refine own_go (fun _ k => XS.iadd X256.here hx rfl (hb hby own_d6_98) rfl k) ?_
    show own_Go _ _ _ _ T256 (mkF m 99 #[.val (.ref a_1), .val (.int p_2), .val (.ref a_3), .val (.int bs), .val (.int (3 : Int32)), .val (.int (3 : Int32)), .val (.int y2)] [(.int (bs + (3 : Int32)))])
    refine own_go (fun _ k => XS.aloadN X256.here hx rfl (hb hby own_d6_99) rfl rfl k) ?_
    show own_Go _ _ _ _ T256 (mkF m 100 #[.val (.ref a_1), .val (.int p_2), .val (.ref a_3), .val (.int bs), .val (.int (3 : Int32)), .val (.int (3 : Int32)), .val (.int y2)] [(.ref a_1), (.int (bs + (3 : Int32)))])
    have f260 : Fld Z T225.heap a_1 "com/example/kalchas/kalchas/propositional/HornClauses" "bodies" "[I" (.ref wb) := (pr_F_a_1_bodies.keep K225q nin0)
    obtain ⟨T261, X261, e261, st261⟩ := getF X256 hx hZ hown (host := "") (Or.inl w_21) Via.refl e256 f260 (g := (mkF m 100 #[.val (.ref a_1), .val (.int p_2), .val (.ref a_3), .val (.int bs), .val (.int (3 : Int32)), .val (.int (3 : Int32)), .val (.int y2)] [(.ref a_1), (.int (bs + (3 : Int32)))])) rfl rfl (hb hby own_d6_100)
    refine own_go (fun _ k => st261 _ k) ?_
    show own_Go _ _ _ _ T261 (mkF m 103 #[.val (.ref a_1), .val (.int p_2), .val (.ref a_3), .val (.int bs), .val (.int (3 : Int32)), .val (.int (3 : Int32)), .val (.int y2)] [(.ref wb), (.int (bs + (3 : Int32)))])
    have f262 : own_AV Z T225.heap wb .int (64 : Int32) gb := (pr_A_wb.keep K225q nin0)
    obtain ⟨q263, c263, R263, s263, t263⟩ := id f262
    refine own_go (fun _ k => X261.arraylength hx (by rw [e261]; exact R263.1) (State.isArrayOf_alike hZ.alike R263.2.1) (g := (mkF m 103 #[.val (.ref a_1), .val (.int p_2), .val (.ref a_3), .val (.int bs), .val (.int (3 : Int32)), .val (.int (3 : Int32)), .val (.int y2)] [(.ref wb), (.int (bs + (3 : Int32)))])) rfl rfl (hb hby own_d6_103) _ k) ?_
    rw [len_of s263 q263]
    show own_Go _ _ _ _ T261 (mkF m 104 #[.val (.ref a_1), .val (.int p_2), .val (.ref a_3), .val (.int bs), .val (.int (3 : Int32)), .val (.int (3 : Int32)), .val (.int y2)] [(.int (64 : Int32)), (.int (bs + (3 : Int32)))])
    have hc264 : ¬ ((64 : Int32) < (bs + (3 : Int32))) := own_t6_0_9 bs hbs
    refine own_go (fun _ k => XS.icmpYes X261.here hx rfl (pc0 := 104) (pc' := 132) rfl (hb hby own_d6_104) rfl (Jvm.Free.XT.ii_le_t hc264) (by decide) (by decide) k) ?_
    show own_Go _ _ _ _ T261 (mkF m 132 #[.val (.ref a_1), .val (.int p_2), .val (.ref a_3), .val (.int bs), .val (.int (3 : Int32)), .val (.int (3 : Int32)), .val (.int y2)] [])
    refine own_go (fun _ k => XS.aloadN X261.here hx rfl (hb hby own_d6_132) rfl rfl k) ?_
    show own_Go _ _ _ _ T261 (mkF m 133 #[.val (.ref a_1), .val (.int p_2), .val (.ref a_3), .val (.int bs), .val (.int (3 : Int32)), .val (.int (3 : Int32)), .val (.int y2)] [(.ref a_3)])
    refine own_go (fun _ k => XS.iconst X261.here hx rfl (hb hby own_d6_133) k) ?_
    show own_Go _ _ _ _ T261 (mkF m 134 #[.val (.ref a_1), .val (.int p_2), .val (.ref a_3), .val (.int bs), .val (.int (3 : Int32)), .val (.int (3 : Int32)), .val (.int y2)] [(.int (0 : Int32)), (.ref a_3)])
    refine own_go (fun _ k => XS.aloadN X261.here hx rfl (hb hby own_d6_134) rfl rfl k) ?_
    show own_Go _ _ _ _ T261 (mkF m 135 #[.val (.ref a_1), .val (.int p_2), .val (.ref a_3), .val (.int bs), .val (.int (3 : Int32)), .val (.int (3 : Int32)), .val (.int y2)] [(.ref a_1), (.int (0 : Int32)), (.ref a_3)])
    obtain ⟨T265, X265, e265, st265⟩ := getF X261 hx hZ hown (host := "") (Or.inl w_21) Via.refl e261 f260 (g := (mkF m 135 #[.val (.ref a_1), .val (.int p_2), .val (.ref a_3), .val (.int bs), .val (.int (3 : Int32)), .val (.int (3 : Int32)), .val (.int y2)] [(.ref a_1), (.int (0 : Int32)), (.ref a_3)])) rfl rfl (hb hby own_d6_135)
    refine own_go (fun _ k => st265 _ k) ?_
    show own_Go _ _ _ _ T265 (mkF m 138 #[.val (.ref a_1), .val (.int p_2), .val (.ref a_3), .val (.int bs), .val (.int (3 : Int32)), .val (.int (3 : Int32)), .val (.int y2)] [(.ref wb), (.int (0 : Int32)), (.ref a_3)])
    refine own_go (fun _ k => XS.iloadN X265.here hx rfl (hb hby own_d6_138) rfl k) ?_
    show own_Go _ _ _ _ T265 (mkF m 139 #[.val (.ref a_1), .val (.int p_2), .val (.ref a_3), .val (.int bs), .val (.int (3 : Int32)), .val (.int (3 : Int32)), .val (.int y2)] [(.int bs), (.ref wb), (.int (0 : Int32)), (.ref a_3)])
    refine own_go (fun _ k => XS.aloadN X265.here hx rfl (hb hby own_d6_139) rfl rfl k) ?_
    show own_Go _ _ _ _ T265 (mkF m 140 #[.val (.ref a_1), .val (.int p_2), .val (.ref a_3), .val (.int bs), .val (.int (3 : Int32)), .val (.int (3 : Int32)), .val (.int y2)] [(.ref a_3), (.int bs), (.ref wb), (.int (0 : Int32)), (.ref a_3)])
    obtain ⟨q266, c266, R266, s266, t266⟩ := id f227
    refine own_go (fun _ k => X265.arraylength hx (by rw [e265]; exact R266.1) (State.isArrayOf_alike hZ.alike R266.2.1) (g := (mkF m 140 #[.val (.ref a_1), .val (.int p_2), .val (.ref a_3), .val (.int bs), .val (.int (3 : Int32)), .val (.int (3 : Int32)), .val (.int y2)] [(.ref a_3), (.int bs), (.ref wb), (.int (0 : Int32)), (.ref a_3)])) rfl rfl (hb hby own_d6_140) _ k) ?_
    rw [len_of s266 q266]
    show own_Go _ _ _ _ T265 (mkF m 141 #[.val (.ref a_1), .val (.int p_2), .val (.ref a_3), .val (.int bs), .val (.int (3 : Int32)), .val (.int (3 : Int32)), .val (.int y2)] [(.int (3 : Int32)), (.int bs), (.ref wb), (.int (0 : Int32)), (.ref a_3)])
    obtain ⟨T267, h267, L267, X267, e267, N267, Kq267, V267, st267⟩ := own_cp X265 hx hZ hown w_55 w_58 w_56 w_57 e265 f227 f262 (fun _ => rfl) hfb (by decide) (own_t6_0_10 bs hbs hc264) (by decide) (by decide) (own_cl5 (own_t6_0_11 bs hbs hc264)) N243 (by omega) (g := (mkF m 141 #[.val (.ref a_1), .val (.int p_2), .val (.ref a_3), .val (.int bs), .val (.int (3 : Int32)), .val (.int (3 : Int32)), .val (.int y2)] [(.int (3 : Int32)), (.int bs), (.ref wb), (.int (0 : Int32)), (.ref a_3)])) rfl (by rw [hml]; rfl) rfl (hb hby own_d6_141) (by decide) (W := 0) (by show 2 * 0 + _ ≤ _; exact Nat.le_of_eq rfl) (by decide)
    have z268 := Kq267.1
    have K267 : Keep h0 h267 [a_1, wh, wst, wb] := K225.trans Kq267 (allS (Or.inl (List.mem_of_getElem? (i := 3) rfl)) all0)
    refine own_go (fun _ k => st267 _ k) ?_
    show own_Go _ _ _ _ T267 (mkF m 144 #[.val (.ref a_1), .val (.int p_2), .val (.ref a_3), .val (.int bs), .val (.int (3 : Int32)), .val (.int (3 : Int32)), .val (.int y2)] [])
    refine own_go (fun _ k => XS.aloadN X267.here hx rfl (hb hby own_d6_144) rfl rfl k) ?_
    show own_Go _ _ _ _ T267 (mkF m 145 #[.val (.ref a_1), .val (.int p_2), .val (.ref a_3), .val (.int bs), .val (.int (3 : Int32)), .val (.int (3 : Int32)), .val (.int y2)] [(.ref a_1)])
    have f269 : Fld Z h267 a_1 "com/example/kalchas/kalchas/propositional/HornClauses" "heads" "[I" (.ref wh) := (f249.keep Kq267 (ninS (own_ne (by omega)) nin0))
    obtain ⟨T270, X270, e270, st270⟩ := getF X267 hx hZ hown (host := "") (Or.inl w_17) Via.refl e267 f269 (g := (mkF m 145 #[.val (.ref a_1), .val (.int p_2), .val (.ref a_3), .val (.int bs), .val (.int (3 : Int32)), .val (.int (3 : Int32)), .val (.int y2)] [(.ref a_1)])) rfl rfl (hb hby own_d6_145)
    refine own_go (fun _ k => st270 _ k) ?_
    show own_Go _ _ _ _ T270 (mkF m 148 #[.val (.ref a_1), .val (.int p_2), .val (.ref a_3), .val (.int bs), .val (.int (3 : Int32)), .val (.int (3 : Int32)), .val (.int y2)] [(.ref wh)])
    refine own_go (fun _ k => XS.aloadN X270.here hx rfl (hb hby own_d6_148) rfl rfl k) ?_
    show own_Go _ _ _ _ T270 (mkF m 149 #[.val (.ref a_1), .val (.int p_2), .val (.ref a_3), .val (.int bs), .val (.int (3 : Int32)), .val (.int (3 : Int32)), .val (.int y2)] [(.ref a_1), (.ref wh)])
    have f271 : Fld Z h267 a_1 "com/example/kalchas/kalchas/propositional/HornClauses" "clauseCount" "I" (.int (0 : Int32)) := (f247.keep Kq267 (ninS (own_ne (by omega)) nin0))
    obtain ⟨T272, X272, e272, st272⟩ := getF X270 hx hZ hown (host := "") (Or.inl w_53) Via.refl e270 f271 (g := (mkF m 149 #[.val (.ref a_1), .val (.int p_2), .val (.ref a_3), .val (.int bs), .val (.int (3 : Int32)), .val (.int (3 : Int32)), .val (.int y2)] [(.ref a_1), (.ref wh)])) rfl rfl (hb hby own_d6_149)
    refine own_go (fun _ k => st272 _ k) ?_
    show own_Go _ _ _ _ T272 (mkF m 152 #[.val (.ref a_1), .val (.int p_2), .val (.ref a_3), .val (.int bs), .val (.int (3 : Int32)), .val (.int (3 : Int32)), .val (.int y2)] [(.int (0 : Int32)), (.ref wh)])
    refine own_go (fun _ k => XS.iloadN X272.here hx rfl (hb hby own_d6_152) rfl k) ?_
    show own_Go _ _ _ _ T272 (mkF m 153 #[.val (.ref a_1), .val (.int p_2), .val (.ref a_3), .val (.int bs), .val (.int (3 : Int32)), .val (.int (3 : Int32)), .val (.int y2)] [(.int p_2), (.int (0 : Int32)), (.ref wh)])
    have f273 : own_AV Z h267 wh .int (64 : Int32) gh := (f251.keep Kq267 (ninS (own_ne (by omega)) nin0))
    obtain ⟨q274, c274, R274, s274, t274⟩ := id f273
    have hin274 : ¬ ((0 : Int32) < 0 ∨ c274.slots.size ≤ ((0 : Int32)).toNatClampNeg) := inb_of s274 ⟨by decide, by decide⟩
    obtain ⟨T275, h275, X275, e275, W275, st275⟩ := stI X272 hx hZ e272 R274 (j := (0 : Int32)) hin274 (g := (mkF m 153 #[.val (.ref a_1), .val (.int p_2), .val (.ref a_3), .val (.int bs), .val (.int (3 : Int32)), .val (.int (3 : Int32)), .val (.int y2)] [(.int p_2), (.int (0 : Int32)), (.ref wh)])) rfl rfl (hb hby own_d6_153)
    have V275 : own_AV Z h275 wh .int (64 : Int32) (own_upd gh 0 (.int p_2)) := own_AV.set (k := 0) f273 W275 (by decide)
    have z276 := W275.size
    have K275 : Keep h0 h275 [a_1, wh, wst, wb] := K267.wr W275 (Or.inl (List.mem_of_getElem? (i := 1) rfl))
    have N275 := Fr.snoc X275 N267 (by omega : n0 ≤ wh)
    refine own_go (fun _ k => st275 _ k) ?_
    show own_Go _ _ _ _ T275 (mkF m 154 #[.val (.ref a_1), .val (.int p_2), .val (.ref a_3), .val (.int bs), .val (.int (3 : Int32)), .val (.int (3 : Int32)), .val (.int y2)] [])
    refine own_go (fun _ k => XS.aloadN X275.here hx rfl (hb hby own_d6_154) rfl rfl k) ?_
    show own_Go _ _ _ _ T275 (mkF m 155 #[.val (.ref a_1), .val (.int p_2), .val (.ref a_3), .val (.int bs), .val (.int (3 : Int32)), .val (.int (3 : Int32)), .val (.int y2)] [(.ref a_1)])
    have f277 : Fld Z h275 a_1 "com/example/kalchas/kalchas/propositional/HornClauses" "bodyStarts" "[I" (.ref wst) := ((f254.keep Kq267 (ninS (own_ne (by omega)) nin0)).other W275 (Or.inl (own_ne (by omega))))
    obtain ⟨T278, X278, e278, st278⟩ := getF X275 hx hZ hown (host := "") (Or.inl w_19) Via.refl e275 f277 (g := (mkF m 155 #[.val (.ref a_1), .val (.int p_2), .val (.ref a_3), .val (.int bs), .val (.int (3 : Int32)), .val (.int (3 : Int32)), .val (.int y2)] [(.ref a_1)])) rfl rfl (hb hby own_d6_155)
    refine own_go (fun _ k => st278 _ k) ?_
    show own_Go _ _ _ _ T278 (mkF m 158 #[.val (.ref a_1), .val (.int p_2), .val (.ref a_3), .val (.int bs), .val (.int (3 : Int32)), .val (.int (3 : Int32)), .val (.int y2)] [(.ref wst)])
    refine own_go (fun _ k => XS.aloadN X278.here hx rfl (hb hby own_d6_158) rfl rfl k) ?_
    show own_Go _ _ _ _ T278 (mkF m 159 #[.val (.ref a_1), .val (.int p_2), .val (.ref a_3), .val (.int bs), .val (.int (3 : Int32)), .val (.int (3 : Int32)), .val (.int y2)] [(.ref a_1), (.ref wst)])
    have f279 : Fld Z h275 a_1 "com/example/kalchas/kalchas/propositional/HornClauses" "clauseCount" "I" (.int (0 : Int32)) := (f271.other W275 (Or.inl (own_ne (by omega))))
    obtain ⟨T280, X280, e280, st280⟩ := getF X278 hx hZ hown (host := "") (Or.inl w_53) Via.refl e278 f279 (g := (mkF m 159 #[.val (.ref a_1), .val (.int p_2), .val (.ref a_3), .val (.int bs), .val (.int (3 : Int32)), .val (.int (3 : Int32)), .val (.int y2)] [(.ref a_1), (.ref wst)])) rfl rfl (hb hby own_d6_159)
    refine own_go (fun _ k => st280 _ k) ?_
    show own_Go _ _ _ _ T280 (mkF m 162 #[.val (.ref a_1), .val (.int p_2), .val (.ref a_3), .val (.int bs), .val (.int (3 : Int32)), .val (.int (3 : Int32)), .val (.int y2)] [(.int (0 : Int32)), (.ref wst)])
    refine own_go (fun _ k => XS.iconst X280.here hx rfl (hb hby own_d6_162) k) ?_
    show own_Go _ _ _ _ T280 (mkF m 163 #[.val (.ref a_1), .val (.int p_2), .val (.ref a_3), .val (.int bs), .val (.int (3 : Int32)), .val (.int (3 : Int32)), .val (.int y2)] [(.int (1 : Int32)), (.int (0 : Int32)), (.ref wst)])
    refine own_go (fun _ k => XS.iadd X280.here hx rfl (hb hby own_d6_163) rfl k) ?_
    show own_Go _ _ _ _ T280 (mkF m 164 #[.val (.ref a_1), .val (.int p_2), .val (.ref a_3), .val (.int bs), .val (.int (3 : Int32)), .val (.int (3 : Int32)), .val (.int y2)] [(.int (1 : Int32)), (.ref wst)])
    refine own_go (fun _ k => XS.iloadN X280.here hx rfl (hb hby own_d6_164) rfl k) ?_
    show own_Go _ _ _ _ T280 (mkF m 165 #[.val (.ref a_1), .val (.int p_2), .val (.ref a_3), .val (.int bs), .val (.int (3 : Int32)), .val (.int (3 : Int32)), .val (.int y2)] [(.int bs), (.int (1 : Int32)), (.ref wst)])
    refine own_go (fun _ k => XS.aloadN X280.here hx rfl (hb hby own_d6_165) rfl rfl k) ?_
    show own_Go _ _ _ _ T280 (mkF m 166 #[.val (.ref a_1), .val (.int p_2), .val (.ref a_3), .val (.int bs), .val (.int (3 : Int32)), .val (.int (3 : Int32)), .val (.int y2)] [(.ref a_3), (.int bs), (.int (1 : Int32)), (.ref wst)])
    have f281 : own_AV Z h275 a_3 .int (3 : Int32) (own_n3 y0 y1 y2) := ((f227.keep Kq267 (ninS (own_ne (by omega)) nin0)).other W275 (own_ne (by omega)))
    obtain ⟨q282, c282, R282, s282, t282⟩ := id f281
    refine own_go (fun _ k => X280.arraylength hx (by rw [e280]; exact R282.1) (State.isArrayOf_alike hZ.alike R282.2.1) (g := (mkF m 166 #[.val (.ref a_1), .val (.int p_2), .val (.ref a_3), .val (.int bs), .val (.int (3 : Int32)), .val (.int (3 : Int32)), .val (.int y2)] [(.ref a_3), (.int bs), (.int (1 : Int32)), (.ref wst)])) rfl rfl (hb hby own_d6_166) _ k) ?_
    rw [len_of s282 q282]
    show own_Go _ _ _ _ T280 (mkF m 167 #[.val (.ref a_1), .val (.int p_2), .val (.ref a_3), .val (.int bs), .val (.int (3 : Int32)), .val (.int (3 : Int32)), .val (.int y2)] [(.int (3 : Int32)), (.int bs), (.int (1 : Int32)), (.ref wst)])
    refine own_go (fun _ k => XS.iadd X280.here hx rfl (hb hby own_d6_167) rfl k) ?_
    show own_Go _ _ _ _ T280 (mkF m 168 #[.val (.ref a_1), .val (.int p_2), .val (.ref a_3), .val (.int bs), .val (.int (3 : Int32)), .val (.int (3 : Int32)), .val (.int y2)] [(.int (bs + (3 : Int32))), (.int (1 : Int32)), (.ref wst)])
    have f283 : own_AV Z h275 wst .int (65 : Int32) gs := ((f257.keep Kq267 (ninS (own_ne (by omega)) nin0)).other W275 (own_ne (by omega)))
    obtain ⟨q284, c284, R284, s284, t284⟩ := id f283
    have hin284 : ¬ ((1 : Int32) < 0 ∨ c284.slots.size ≤ ((1 : Int32)).toNatClampNeg) := inb_of s284 ⟨by decide, by decide⟩
    obtain ⟨T285, h285, X285, e285, W285, st285⟩ := stI X280 hx hZ e280 R284 (j := (1 : Int32)) hin284 (g := (mkF m 168 #[.val (.ref a_1), .val (.int p_2), .val (.ref a_3), .val (.int bs), .val (.int (3 : Int32)), .val (.int (3 : Int32)), .val (.int y2)] [(.int (bs + (3 : Int32))), (.int (1 : Int32)), (.ref wst)])) rfl rfl (hb hby own_d6_168)
    have V285 : own_AV Z h285 wst .int (65 : Int32) (own_upd gs 1 (.int (bs + (3 : Int32)))) := own_AV.set (k := 1) f283 W285 (by decide)
    have z286 := W285.size
    have K285 : Keep h0 h285 [a_1, wh, wst, wb] := K275.wr W285 (Or.inl (List.mem_of_getElem? (i := 2) rfl))
    have N285 := Fr.snoc X285 N275 (by omega : n0 ≤ wst)
    refine own_go (fun _ k => st285 _ k) ?_
    show own_Go _ _ _ _ T285 (mkF m 169 #[.val (.ref a_1), .val (.int p_2), .val (.ref a_3), .val (.int bs), .val (.int (3 : Int32)), .val (.int (3 : Int32)), .val (.int y2)] [])
    refine own_go (fun _ k => XS.aloadN X285.here hx rfl (hb hby own_d6_169) rfl rfl k) ?_
    show own_Go _ _ _ _ T285 (mkF m 170 #[.val (.ref a_1), .val (.int p_2), .val (.ref a_3), .val (.int bs), .val (.int (3 : Int32)), .val (.int (3 : Int32)), .val (.int y2)] [(.ref a_1)])
    refine own_go (fun _ k => XS.dup X285.here hx rfl (hb hby own_d6_170) rfl rfl k) ?_
    show own_Go _ _ _ _ T285 (mkF m 171 #[.val (.ref a_1), .val (.int p_2), .val (.ref a_3), .val (.int bs), .val (.int (3 : Int32)), .val (.int (3 : Int32)), .val (.int y2)] [(.ref a_1), (.ref a_1)])
    have f287 : Fld Z h285 a_1 "com/example/kalchas/kalchas/propositional/HornClauses" "clauseCount" "I" (.int (0 : Int32)) := (f279.other W285 (Or.inl (own_ne (by omega))))
    obtain ⟨T288, X288, e288, st288⟩ := getF X285 hx hZ hown (host := "") (Or.inl w_53) Via.refl e285 f287 (g := (mkF m 171 #[.val (.ref a_1), .val (.int p_2), .val (.ref a_3), .val (.int bs), .val (.int (3 : Int32)), .val (.int (3 : Int32)), .val (.int y2)] [(.ref a_1), (.ref a_1)])) rfl rfl (hb hby own_d6_171)
    refine own_go (fun _ k => st288 _ k) ?_
    show own_Go _ _ _ _ T288 (mkF m 174 #[.val (.ref a_1), .val (.int p_2), .val (.ref a_3), .val (.int bs), .val (.int (3 : Int32)), .val (.int (3 : Int32)), .val (.int y2)] [(.int (0 : Int32)), (.ref a_1)])
    refine own_go (fun _ k => XS.iconst X288.here hx rfl (hb hby own_d6_174) k) ?_
    show own_Go _ _ _ _ T288 (mkF m 175 #[.val (.ref a_1), .val (.int p_2), .val (.ref a_3), .val (.int bs), .val (.int (3 : Int32)), .val (.int (3 : Int32)), .val (.int y2)] [(.int (1 : Int32)), (.int (0 : Int32)), (.ref a_1)])
    refine own_go (fun _ k => XS.iadd X288.here hx rfl (hb hby own_d6_175) rfl k) ?_
    show own_Go _ _ _ _ T288 (mkF m 176 #[.val (.ref a_1), .val (.int p_2), .val (.ref a_3), .val (.int bs), .val (.int (3 : Int32)), .val (.int (3 : Int32)), .val (.int y2)] [(.int (1 : Int32)), (.ref a_1)])
    have f289 : Exa Z h285 a_1 "com/example/kalchas/kalchas/propositional/HornClauses" := (((f233.keep Kq267).wr W275).wr W285)
    obtain ⟨T290, h290, X290, e290, W290, st290⟩ := putF X288 hx hZ hown (host := "") (Or.inl w_53) Via.refl e288 f287 f289 (Or.inl w_54) w_9 (ty := .int) (by decide) rfl rfl (g := (mkF m 176 #[.val (.ref a_1), .val (.int p_2), .val (.ref a_3), .val (.int bs), .val (.int (3 : Int32)), .val (.int (3 : Int32)), .val (.int y2)] [(.int (1 : Int32)), (.ref a_1)])) rfl rfl (hb hby own_d6_176)
    have z291 := W290.size
    have K290 : Keep h0 h290 [a_1, wh, wst, wb] := K285.wr W290 (Or.inl (List.mem_of_getElem? (i := 0) rfl))
    have N290 := Fr.snoc X290 N285 (by omega : n0 ≤ a_1)
    have Fw290 : Fld Z h290 a_1 "com/example/kalchas/kalchas/propositional/HornClauses" "clauseCount" "I" (.int (1 : Int32)) := Fld.same W290 f287
    refine own_go (fun _ k => st290 _ k) ?_
    show own_Go _ _ _ _ T290 (mkF m 179 #[.val (.ref a_1), .val (.int p_2), .val (.ref a_3), .val (.int bs), .val (.int (3 : Int32)), .val (.int (3 : Int32)), .val (.int y2)] [])
    refine own_go (fun _ k => XS.aloadN X290.here hx rfl (hb hby own_d6_179) rfl rfl k) ?_
    show own_Go _ _ _ _ T290 (mkF m 180 #[.val (.ref a_1), .val (.int p_2), .val (.ref a_3), .val (.int bs), .val (.int (3 : Int32)), .val (.int (3 : Int32)), .val (.int y2)] [(.ref a_1)])
    refine own_go (fun _ k => XS.aconstNull X290.here hx rfl (hb hby own_d6_180) k) ?_
    show own_Go _ _ _ _ T290 (mkF m 181 #[.val (.ref a_1), .val (.int p_2), .val (.ref a_3), .val (.int bs), .val (.int (3 : Int32)), .val (.int (3 : Int32)), .val (.int y2)] [.null, (.ref a_1)])
    have f292 : Exa Z h290 a_1 "com/example/kalchas/kalchas/propositional/HornClauses" := (f289.wr W290)
    have f293 : Fld Z h290 a_1 "com/example/kalchas/kalchas/propositional/HornClauses" "occurrences" "[I" w_occ := (((((pr_F_a_1_occurrences.keep K225q nin0).keep Kq267 (ninS (own_ne (by omega)) nin0)).other W275 (Or.inl (own_ne (by omega)))).other W285 (Or.inl (own_ne (by omega)))).other W290 (Or.inr (slot_ne (Or.inl w_29) (Or.inl w_54) (by decide) (t := (.array .int)) (t' := .int) (by decide) (by decide))))
    obtain ⟨T294, h294, X294, e294, W294, st294⟩ := putF X290 hx hZ hown (host := "") (Or.inl w_28) Via.refl e290 f293 f292 (Or.inl w_29) w_9 (ty := (.array .int)) (by decide) rfl rfl (g := (mkF m 181 #[.val (.ref a_1), .val (.int p_2), .val (.ref a_3), .val (.int bs), .val (.int (3 : Int32)), .val (.int (3 : Int32)), .val (.int y2)] [.null, (.ref a_1)])) rfl rfl (hb hby own_d6_181)
    have z295 := W294.size
    have K294 : Keep h0 h294 [a_1, wh, wst, wb] := K290.wr W294 (Or.inl (List.mem_of_getElem? (i := 0) rfl))
    have N294 := Fr.snoc X294 N290 (by omega : n0 ≤ a_1)
    have Fw294 : Fld Z h294 a_1 "com/example/kalchas/kalchas/propositional/HornClauses" "occurrences" "[I" .null := Fld.same W294 f293
    refine own_go (fun _ k => st294 _ k) ?_
    show own_Go _ _ _ _ T294 (mkF m 184 #[.val (.ref a_1), .val (.int p_2), .val (.ref a_3), .val (.int bs), .val (.int (3 : Int32)), .val (.int (3 : Int32)), .val (.int y2)] [])
    obtain ⟨fs, hr, hrun, hended, hRW⟩ := X294.leaveW hS243 (by rw [e294]; omega) (v := none) (fun _ => rfl)
    refine ⟨_, _, X294.returnOut hx Bd.returns (hb hby own_d6_184) hr, hrun, hended, _, _, rfl, ?_, own_monoW hRW (by rw [y243]; decide) (by rw [z243]; decide)⟩
    refine ⟨?_, ⟨_, own_litW Li244 X294.warmed.wide⟩⟩
    show own_Q6_0 Z a_1 p_2 a_3 wh wst wb gh gs gb bs w_occ (3 : Int32) y0 y1 y2 h0 n0 _ T294.heap _
    rw [e294]
    have f297 : own_AV Z h294 wst .int (65 : Int32) (own_upd gs 1 (.int (bs + (3 : Int32)))) := ((V285.other W290 (own_ne (by omega))).other W294 (own_ne (by omega)))
    have f298 : own_AV Z h294 wb .int (64 : Int32) (own_cpf (own_n3 y0 y1 y2) ((0 : Int32)).toNatClampNeg gb (bs).toNatClampNeg ((3 : Int32)).toNatClampNeg) := ((((V267.other W275 (own_ne (by omega))).other W285 (own_ne (by omega))).other W290 (own_ne (by omega))).other W294 (own_ne (by omega)))
    have f299 : Exa Z h294 a_1 "com/example/kalchas/kalchas/propositional/HornClauses" := (f292.wr W294)
    have f300 : Fld Z h294 a_1 "com/example/kalchas/kalchas/propositional/HornClauses" "variableCount" "I" (.int (3 : Int32)) := (((((f231.keep Kq267 (ninS (own_ne (by omega)) nin0)).other W275 (Or.inl (own_ne (by omega)))).other W285 (Or.inl (own_ne (by omega)))).other W290 (Or.inr (slot_ne (Or.inl w_31) (Or.inl w_54) (by decide) (t := .int) (t' := .int) (by decide) (by decide)))).other W294 (Or.inr (slot_ne (Or.inl w_31) (Or.inl w_29) (by decide) (t := .int) (t' := (.array .int)) (by decide) (by decide))))
    have f301 : Fld Z h294 a_1 "com/example/kalchas/kalchas/propositional/HornClauses" "clauseCount" "I" (.int (1 : Int32)) := (Fw290.other W294 (Or.inr (slot_ne (Or.inl w_54) (Or.inl w_29) (by decide) (t := .int) (t' := (.array .int)) (by decide) (by decide))))
    have f302 : Fld Z h294 a_1 "com/example/kalchas/kalchas/propositional/HornClauses" "heads" "[I" (.ref wh) := ((((f269.other W275 (Or.inl (own_ne (by omega)))).other W285 (Or.inl (own_ne (by omega)))).other W290 (Or.inr (slot_ne (Or.inl w_18) (Or.inl w_54) (by decide) (t := (.array .int)) (t' := .int) (by decide) (by decide)))).other W294 (Or.inr (slot_ne (Or.inl w_18) (Or.inl w_29) (by decide) (t := (.array .int)) (t' := (.array .int)) (by decide) (by decide))))
    have f303 : Fld Z h294 a_1 "com/example/kalchas/kalchas/propositional/HornClauses" "bodyStarts" "[I" (.ref wst) := (((f277.other W285 (Or.inl (own_ne (by omega)))).other W290 (Or.inr (slot_ne (Or.inl w_20) (Or.inl w_54) (by decide) (t := (.array .int)) (t' := .int) (by decide) (by decide)))).other W294 (Or.inr (slot_ne (Or.inl w_20) (Or.inl w_29) (by decide) (t := (.array .int)) (t' := (.array .int)) (by decide) (by decide))))
    have f304 : Fld Z h294 a_1 "com/example/kalchas/kalchas/propositional/HornClauses" "bodies" "[I" (.ref wb) := (((((f260.keep Kq267 (ninS (own_ne (by omega)) nin0)).other W275 (Or.inl (own_ne (by omega)))).other W285 (Or.inl (own_ne (by omega)))).other W290 (Or.inr (slot_ne (Or.inl w_22) (Or.inl w_54) (by decide) (t := (.array .int)) (t' := .int) (by decide) (by decide)))).other W294 (Or.inr (slot_ne (Or.inl w_22) (Or.inl w_29) (by decide) (t := (.array .int)) (t' := (.array .int)) (by decide) (by decide))))
    have f305 : own_AV Z h294 wh .int (64 : Int32) (own_upd gh 0 (.int p_2)) := (((V275.other W285 (own_ne (by omega))).other W290 (own_ne (by omega))).other W294 (own_ne (by omega)))
    exact ⟨rfl, N294, K294, f299, f300, f301, f302, f303, f304, Fw294, f305, f297, f298⟩
theorem own_ef_own_rm6_1 (m : MethodId) (x0 : Addr) (x1 : Int32) (x2 : Addr) : entryFrame m #[(.ref x0), (.int x1), (.ref x2)] 7 = mkF m 0 #[.val (.ref x0), .val (.int x1), .val (.ref x2), .unset, .unset, .unset, .unset] [] := by first | (simp [entryFrame, mkF, argsToLocals, Value.category]; done) | rfl
set_option maxRecDepth 65536 in
set_option maxHeartbeats 4000000 in
theorem own_t6_1_0 (cn : Int32) (hk : cn = (1 : Int32) ∨ cn = (2 : Int32)) : ¬ (cn = (64 : Int32)) := by
  have el0 : (1 : Int32).toInt = 1 := by decide
  have el1 : (2 : Int32).toInt = 2 := by decide
  have el2 : (64 : Int32).toInt = 64 := by decide
  have rv_cn := rng32 cn
  have own0 : (0 : Int32).toInt = 0 := by decide
  simp only [← Int32.toInt_inj, Int32.lt_iff_toInt_lt, implies_true, and_true, true_and, own0, el0, el1, el2] at *
  omega
set_option maxRecDepth 65536 in
set_option maxHeartbeats 4000000 in
theorem own_t6_1_1 (cn : Int32) (hk : cn = (1 : Int32) ∨ cn = (2 : Int32)) (hc22 : ¬ (cn = (64 : Int32))) : ¬ cn < 0 ∧ cn < (65 : Int32) := by
  have el0 : (1 : Int32).toInt = 1 := by decide
  have el1 : (2 : Int32).toInt = 2 := by decide
  have el2 : (64 : Int32).toInt = 64 := by decide
  have el3 : (65 : Int32).toInt = 65 := by decide
  have rv_cn := rng32 cn
  have own0 : (0 : Int32).toInt = 0 := by decide
  simp only [← Int32.toInt_inj, Int32.lt_iff_toInt_lt, implies_true, and_true, true_and, own0, el0, el1, el2, el3] at *
  omega
set_option maxRecDepth 65536 in
set_option maxHeartbeats 4000000 in
theorem own_t6_1_2 (cn : Int32) (hk : cn = (1 : Int32) ∨ cn = (2 : Int32)) (hc22 : ¬ (cn = (64 : Int32))) : ¬ cn < 0 ∧ cn < (64 : Int32) := by
  have el0 : (1 : Int32).toInt = 1 := by decide
  have el1 : (2 : Int32).toInt = 2 := by decide
  have el2 : (64 : Int32).toInt = 64 := by decide
  have rv_cn := rng32 cn
  have own0 : (0 : Int32).toInt = 0 := by decide
  simp only [← Int32.toInt_inj, Int32.lt_iff_toInt_lt, implies_true, and_true, true_and, own0, el0, el1, el2] at *
  omega
set_option maxRecDepth 65536 in
set_option maxHeartbeats 4000000 in
theorem own_t6_1_3 (cn : Int32) (hk : cn = (1 : Int32) ∨ cn = (2 : Int32)) (hc22 : ¬ (cn = (64 : Int32))) : ¬ (cn + (1 : Int32)) < 0 ∧ (cn + (1 : Int32)) < (65 : Int32) := by
  have el0 : (1 : Int32).toInt = 1 := by decide
  have el1 : (2 : Int32).toInt = 2 := by decide
  have el2 : (64 : Int32).toInt = 64 := by decide
  have el3 : (65 : Int32).toInt = 65 := by decide
  have rv_cn := rng32 cn
  have fa5 := c_iadd cn (1 : Int32)
  have fa6 := rng32 (cn + (1 : Int32))
  have own0 : (0 : Int32).toInt = 0 := by decide
  simp only [← Int32.toInt_inj, Int32.lt_iff_toInt_lt, implies_true, and_true, true_and, own0, el0, el1, el2, el3] at *
  omega
def own_Q6_1 (Z : State) (a_1 : Addr) (p_2 : Int32) (a_3 : Addr) (wh : Addr) (wst : Addr) (wb : Addr) (gh : Nat → Value) (gs : Nat → Value) (gb : Nat → Value) (bs : Int32) (w_occ : Value) (z : Int32) (y0 : Int32) (y1 : Int32) (y2 : Int32) (cn : Int32) (h0 : Heap) (n0 : Nat) (v : Option Value) (h : Heap) (L : List Loc) : Prop := v = none ∧ Fr n0 L ∧ Keep h0 h [a_1, wh, wst, wb] ∧ Exa Z h a_1 "com/example/kalchas/kalchas/propositional/HornClauses" ∧ Fld Z h a_1 "com/example/kalchas/kalchas/propositional/HornClauses" "variableCount" "I" (.int (3 : Int32)) ∧ Fld Z h a_1 "com/example/kalchas/kalchas/propositional/HornClauses" "clauseCount" "I" (.int (cn + (1 : Int32))) ∧ Fld Z h a_1 "com/example/kalchas/kalchas/propositional/HornClauses" "heads" "[I" (.ref wh) ∧ Fld Z h a_1 "com/example/kalchas/kalchas/propositional/HornClauses" "bodyStarts" "[I" (.ref wst) ∧ Fld Z h a_1 "com/example/kalchas/kalchas/propositional/HornClauses" "bodies" "[I" (.ref wb) ∧ Fld Z h a_1 "com/example/kalchas/kalchas/propositional/HornClauses" "occurrences" "[I" .null ∧ own_AV Z h wh .int (64 : Int32) (own_upd gh (cn).toNatClampNeg (.int p_2)) ∧ own_AV Z h wst .int (65 : Int32) (own_upd gs ((cn + (1 : Int32))).toNatClampNeg (.int (bs + z))) ∧ own_AV Z h wb .int (64 : Int32) (own_cpf (own_n3 y0 y1 y2) ((0 : Int32)).toNatClampNeg gb (bs).toNatClampNeg (z).toNatClampNeg)
set_option maxRecDepth 65536 in
set_option maxHeartbeats 40000000 in
theorem own_rm6_1 (l : Launch) (Z : State) (a0 : Array Value) (hw : ∀ d ∈ tables_1, d.before a0 Z = true) (ws : List Jvm.Cond) (a_1 : Addr) (p_2 : Int32) (a_3 : Addr) (wh : Addr) (wst : Addr) (wb : Addr) (gh : Nat → Value) (gs : Nat → Value) (gb : Nat → Value) (bs : Int32) (w_occ : Value) (z : Int32) (y0 : Int32) (y1 : Int32) (y2 : Int32) (cn : Int32) (h0 : Heap) (n0 : Nat) (Z0 : n0 ≤ h0.size) (pr_E_a_1 : Exa Z h0 a_1 "com/example/kalchas/kalchas/propositional/HornClauses") (pr_F_a_1_variableCount : Fld Z h0 a_1 "com/example/kalchas/kalchas/propositional/HornClauses" "variableCount" "I" (.int (3 : Int32))) (pr_F_a_1_clauseCount : Fld Z h0 a_1 "com/example/kalchas/kalchas/propositional/HornClauses" "clauseCount" "I" (.int cn)) (pr_F_a_1_heads : Fld Z h0 a_1 "com/example/kalchas/kalchas/propositional/HornClauses" "heads" "[I" (.ref wh)) (pr_F_a_1_bodyStarts : Fld Z h0 a_1 "com/example/kalchas/kalchas/propositional/HornClauses" "bodyStarts" "[I" (.ref wst)) (pr_F_a_1_bodies : Fld Z h0 a_1 "com/example/kalchas/kalchas/propositional/HornClauses" "bodies" "[I" (.ref wb)) (pr_F_a_1_occurrences : Fld Z h0 a_1 "com/example/kalchas/kalchas/propositional/HornClauses" "occurrences" "[I" w_occ) (pr_A_wh : own_AV Z h0 wh .int (64 : Int32) gh) (pr_A_wst : own_AV Z h0 wst .int (65 : Int32) gs) (pr_A_wb : own_AV Z h0 wb .int (64 : Int32) gb) (pr_A_a_3 : own_AV Z h0 a_3 .int z (own_n3 y0 y1 y2)) (hord : own_lts [a_3, a_1, wh, wst, wb]) (hgs : gs (cn).toNatClampNeg = .int bs) (hbs : 0 ≤ bs.toInt ∧ bs.toInt ≤ 6) (hfb : ∀ i, fits .int (gb i) = true) (hp1 : ¬ (p_2 < 0)) (hp2 : p_2 < (3 : Int32)) (hl : z = (0 : Int32) ∨ z = (1 : Int32) ∨ z = (2 : Int32) ∨ z = (3 : Int32)) (hk : cn = (1 : Int32) ∨ cn = (2 : Int32)) (hy0a : ¬ (y0 < 0)) (hy0b : y0 < (3 : Int32)) (hy1a : ¬ (y1 < 0)) (hy1b : y1 < (3 : Int32)) (hy2a : ¬ (y2 < 0)) (hy2b : y2 < (3 : Int32)) (gw_a_1 : n0 ≤ a_1) (gw_wh : n0 ≤ wh) (gw_wst : n0 ≤ wst) (gw_wb : n0 ≤ wb) :
    MetFree l (⟨"com/example/kalchas/kalchas/propositional/HornClauses", "add", "(I[I)V"⟩ : MethodName) (head1 (Jvm.Cond.code (⟨"com/example/kalchas/kalchas/propositional/HornClauses", "add", "(I[I)V"⟩ : MethodName) prog_6_method_4_code 7 none :: ws) ({ frames := 2, cells := 0, slots := 0, locals := 40 } : Room)) (fun a U => a = #[(.ref a_1), (.int p_2), (.ref a_3)] ∧ Z.Warmed39 U.vm ∧ U.heap = h0 ∧ (own_LP Z "com/example/kalchas/kalchas/propositional/HornClauses" 178) U.vm) (fun _ _ _ _ _ => True) (fun _ U o U' => ∃ v L, o = .returned v ∧ (own_Q6_1 Z a_1 p_2 a_3 wh wst wb gh gs gb bs w_occ z y0 y1 y2 cn h0 n0 v U'.heap L ∧ (fun _ : Vm => True) U'.vm) ∧ ReturnedEndW U o U' L ({ frames := 2, cells := 0, slots := 0, locals := 40 } : Room).cells ({ frames := 2, cells := 0, slots := 0, locals := 40 } : Room).slots) := by
  refine MetFree.of_bodySF (plainFor_of_name own_pn1) hisR ?_
  intro p e s m args below meth c s₁ Bd hml0 hP hK
  obtain ⟨rfl, hZ, hh, ⟨bP, LP⟩⟩ := hP
  have hx := Bd.exec
  have hby := Bd.bytes
  have hml : c.maxLocals = 7 := hml0
  have hown : s.vm.findClass "com/example/kalchas/kalchas/propositional/HornClauses" = some m.cls := findClass_of_methodNamed Bd.named
  have hnm := (name_of_methodNamed Bd.named Bd.method).1
  have X0 : Stand p l e ({ frames := 2, cells := 0, slots := 0, locals := 40 } : Room) s m #[(.ref a_1), (.int p_2), (.ref a_3)] below meth c s₁ [] 0 0 := Stand.of_body Bd
  have e0 : s₁.heap = h0 := by rw [← hh, Bd.state]; rfl
  have N0 := Fr.nil n0
  have X0 : Stand p l e ({ frames := 2, cells := 0, slots := 0, locals := 40 } : Room) (s.setVm s.vm) m #[(.ref a_1), (.int p_2), (.ref a_3)] below meth c s₁ [] 0 0 := X0
  have hZ : Z.Warmed39 (s.setVm s.vm).vm := hZ
  have hown : (s.setVm s.vm).vm.findClass "com/example/kalchas/kalchas/propositional/HornClauses" = some m.cls := hown
  have hS0 : s.Since s.vm 0 := (State.WarmedH.refl s).since 0
  have LP : Lit (s.setVm s.vm) "com/example/kalchas/kalchas/propositional/HornClauses" 178 bP := LP
  have w_9 := hw _ (List.mem_of_getElem? (i := 9) rfl)
  have w_10 := hw _ (List.mem_of_getElem? (i := 10) rfl)
  have w_17 := hw _ (List.mem_of_getElem? (i := 17) rfl)
  have w_18 := hw _ (List.mem_of_getElem? (i := 18) rfl)
  have w_19 := hw _ (List.mem_of_getElem? (i := 19) rfl)
  have w_20 := hw _ (List.mem_of_getElem? (i := 20) rfl)
  have w_21 := hw _ (List.mem_of_getElem? (i := 21) rfl)
  have w_22 := hw _ (List.mem_of_getElem? (i := 22) rfl)
  have w_28 := hw _ (List.mem_of_getElem? (i := 28) rfl)
  have w_29 := hw _ (List.mem_of_getElem? (i := 29) rfl)
  have w_31 := hw _ (List.mem_of_getElem? (i := 31) rfl)
  have w_37 := hw _ (List.mem_of_getElem? (i := 37) rfl)
  have w_38 := hw _ (List.mem_of_getElem? (i := 38) rfl)
  have w_39 := hw _ (List.mem_of_getElem? (i := 39) rfl)
  have w_40 := hw _ (List.mem_of_getElem? (i := 40) rfl)
  have w_41 := hw _ (List.mem_of_getElem? (i := 41) rfl)
  have w_53 := hw _ (List.mem_of_getElem? (i := 53) rfl)
  have w_54 := hw _ (List.mem_of_getElem? (i := 54) rfl)
  have w_55 := hw _ (List.mem_of_getElem? (i := 55) rfl)
  have w_56 := hw _ (List.mem_of_getElem? (i := 56) rfl)
  have w_57 := hw _ (List.mem_of_getElem? (i := 57) rfl)
  have w_58 := hw _ (List.mem_of_getElem? (i := 58) rfl)
  have z0 : n0 ≤ h0.size := Z0
  have z1 := own_lt pr_E_a_1.lt
  have z2 := own_lt pr_F_a_1_variableCount.lt
  have z3 := own_lt pr_F_a_1_clauseCount.lt
  have z4 := own_lt pr_F_a_1_heads.lt
  have z5 := own_lt pr_F_a_1_bodyStarts.lt
  have z6 := own_lt pr_F_a_1_bodies.lt
  have z7 := own_lt pr_F_a_1_occurrences.lt
  have z8 := own_lt pr_A_wh.lt
  have z9 := own_lt pr_A_wst.lt
  have z10 := own_lt pr_A_wb.lt
  have z11 := own_lt pr_A_a_3.lt
  have ho12 := hord
  simp only [own_lts, and_true] at ho12
  have K0 : Keep h0 h0 [a_1, wh, wst, wb] := Keep.refl h0 _
  show own_Go p.tables e below (fun t o => t.status = .running ∧ Ended t below o ∧ ∃ v L, o = .returned v ∧ (own_Q6_1 Z a_1 p_2 a_3 wh wst wb gh gs gb bs w_occ z y0 y1 y2 cn h0 n0 v t.heap L ∧ (fun _ : Vm => True) t.vm) ∧ ReturnedEndW s o t L ({ frames := 2, cells := 0, slots := 0, locals := 40 } : Room).cells ({ frames := 2, cells := 0, slots := 0, locals := 40 } : Room).slots) s₁ (entryFrame m #[(.ref a_1), (.int p_2), (.ref a_3)] 7)
  rw [own_ef_own_rm6_1 m a_1 p_2 a_3]
  show own_Go _ _ _ _ s₁ (mkF m 0 #[.val (.ref a_1), .val (.int p_2), .val (.ref a_3), .unset, .unset, .unset, .unset] [])
  have hs13 : z = (0 : Int32) ∨ z = (1 : Int32) ∨ z = (2 : Int32) ∨ z = (3 : Int32) := own_t2_0 z hl
  rcases hs13 with hs13 | hs13 | hs13 | hs13
  · subst hs13
    show own_Go _ _ _ _ s₁ (mkF m 0 #[.val (.ref a_1), .val (.int p_2), .val (.ref a_3), .unset, .unset, .unset, .unset] [])
    refine own_go (fun _ k => XS.aloadN X0.here hx rfl (hb hby own_d6_0) rfl rfl k) ?_
    show own_Go _ _ _ _ s₁ (mkF m 1 #[.val (.ref a_1), .val (.int p_2), .val (.ref a_3), .unset, .unset, .unset, .unset] [(.ref a_1)])
    refine own_go (fun _ k => XS.iloadN X0.here hx rfl (hb hby own_d6_1) rfl k) ?_
    show own_Go _ _ _ _ s₁ (mkF m 2 #[.val (.ref a_1), .val (.int p_2), .val (.ref a_3), .unset, .unset, .unset, .unset] [(.int p_2), (.ref a_1)])
    obtain ⟨cq14, kq14, q14a, q14b, q14c⟩ := isOf hZ e0 pr_E_a_1
    obtain ⟨_, _, ⟨T14, L14, k14, n14⟩, -, X14, hS14, gr14, ⟨Lc14, ⟨hQ14, hV14⟩, l14, y14, z14⟩, st14⟩ := X0.virtualBackS hx (y := (⟨"com/example/kalchas/kalchas/propositional/HornClauses", "checkVariable", "(I)V"⟩ : MethodName)) (z := (⟨"com/example/kalchas/kalchas/propositional/HornClauses", "checkVariable", "(I)V"⟩ : MethodName)) hown (mvT hZ w_37) (mvT hZ w_38) (notFace_of_selects (args := #[]) (mvT hZ w_40)) (mvT hZ w_40) (mvT hZ w_39) (by decide) (own_backL (PV := (own_LP Z "com/example/kalchas/kalchas/propositional/HornClauses" 178)) (QV := (fun _ => True)) (W := 0) (own_rm7w l Z a0 hw [] a_1 p_2 (3 : Int32) h0 n0 (by omega) (show ¬ (p_2 < 0) by first | assumption | omega | decide) (show p_2 < (3 : Int32) by first | assumption | omega | decide) pr_F_a_1_variableCount) hZ w_41 w_10 (by decide) (by decide) (fun _ q => ⟨_, own_litW LP q⟩)) q14a q14c (g := (mkF m 2 #[.val (.ref a_1), .val (.int p_2), .val (.ref a_3), .unset, .unset, .unset, .unset] [(.int p_2), (.ref a_1)])) rfl (by rw [hml]; rfl) (Steps.refl _) (argsL := [(.int p_2)]) (rest := []) (lenOf own_pd1 rfl) rfl (by show 2 * 0 + _ ≤ _; exact Nat.le_of_eq rfl) (hb hby own_d6_2) (fun _ _ => ⟨rfl, e0, (by decide : 0 + 0 ≤ _), (by decide : 0 + 0 ≤ _)⟩)
    dsimp only [Pt.U, Pt.locs, Pt.cells, Pt.slots] at X14 l14 y14 z14 st14 hQ14 hS14 gr14 hV14
    have y14 : k14 = 0 := y14
    have z14 : n14 = 0 := z14
    have Wn14 := hS14.1
    have Li15 := LP.stays Wn14
    obtain ⟨X14, hS14, hZ, hown⟩ := rebS hS0 (n1 := s₁.heap.size) (by rw [e0]; omega) X14 hS14 gr14 hZ hown
    obtain ⟨rfl, N14q, e14⟩ := hQ14
    have N14 : Fr n0 L14 := by rw [l14]; exact Fr.app N0 N14q
    have z16 : T14.heap.size = h0.size := congrArg Array.size e14
    refine own_go (fun _ k => st14.trans k) ?_
    show own_Go _ _ _ _ T14 (mkF m 5 #[.val (.ref a_1), .val (.int p_2), .val (.ref a_3), .unset, .unset, .unset, .unset] [])
    refine own_go (fun _ k => XS.aloadN X14.here hx rfl (hb hby own_d6_5) rfl rfl k) ?_
    show own_Go _ _ _ _ T14 (mkF m 6 #[.val (.ref a_1), .val (.int p_2), .val (.ref a_3), .unset, .unset, .unset, .unset] [(.ref a_3)])
    refine own_go (fun _ k => XS.astoreN X14.here hx rfl (hb hby own_d6_6) rfl rfl (l' := #[.val (.ref a_1), .val (.int p_2), .val (.ref a_3), .val (.ref a_3), .unset, .unset, .unset]) rfl k) ?_
    show own_Go _ _ _ _ T14 (mkF m 7 #[.val (.ref a_1), .val (.int p_2), .val (.ref a_3), .val (.ref a_3), .unset, .unset, .unset] [])
    refine own_go (fun _ k => XS.aloadN X14.here hx rfl (hb hby own_d6_7) rfl rfl k) ?_
    show own_Go _ _ _ _ T14 (mkF m 8 #[.val (.ref a_1), .val (.int p_2), .val (.ref a_3), .val (.ref a_3), .unset, .unset, .unset] [(.ref a_3)])
    obtain ⟨q17, c17, R17, s17, t17⟩ := id pr_A_a_3
    refine own_go (fun _ k => X14.arraylength hx (by rw [e14]; exact R17.1) (State.isArrayOf_alike hZ.alike R17.2.1) (g := (mkF m 8 #[.val (.ref a_1), .val (.int p_2), .val (.ref a_3), .val (.ref a_3), .unset, .unset, .unset] [(.ref a_3)])) rfl rfl (hb hby own_d6_8) _ k) ?_
    rw [len_of s17 q17]
    show own_Go _ _ _ _ T14 (mkF m 9 #[.val (.ref a_1), .val (.int p_2), .val (.ref a_3), .val (.ref a_3), .unset, .unset, .unset] [(.int (0 : Int32))])
    refine own_go (fun _ k => XS.istore X14.here hx rfl (hb hby own_d6_9) rfl (l' := #[.val (.ref a_1), .val (.int p_2), .val (.ref a_3), .val (.ref a_3), .val (.int (0 : Int32)), .unset, .unset]) rfl k) ?_
    show own_Go _ _ _ _ T14 (mkF m 11 #[.val (.ref a_1), .val (.int p_2), .val (.ref a_3), .val (.ref a_3), .val (.int (0 : Int32)), .unset, .unset] [])
    refine own_go (fun _ k => XS.iconst X14.here hx rfl (hb hby own_d6_11) k) ?_
    show own_Go _ _ _ _ T14 (mkF m 12 #[.val (.ref a_1), .val (.int p_2), .val (.ref a_3), .val (.ref a_3), .val (.int (0 : Int32)), .unset, .unset] [(.int (0 : Int32))])
    refine own_go (fun _ k => XS.istore X14.here hx rfl (hb hby own_d6_12) rfl (l' := #[.val (.ref a_1), .val (.int p_2), .val (.ref a_3), .val (.ref a_3), .val (.int (0 : Int32)), .val (.int (0 : Int32)), .unset]) rfl k) ?_
    show own_Go _ _ _ _ T14 (mkF m 14 #[.val (.ref a_1), .val (.int p_2), .val (.ref a_3), .val (.ref a_3), .val (.int (0 : Int32)), .val (.int (0 : Int32)), .unset] [])
    refine own_go (fun _ k => XS.iload X14.here hx rfl (hb hby own_d6_14) rfl k) ?_
    show own_Go _ _ _ _ T14 (mkF m 16 #[.val (.ref a_1), .val (.int p_2), .val (.ref a_3), .val (.ref a_3), .val (.int (0 : Int32)), .val (.int (0 : Int32)), .unset] [(.int (0 : Int32))])
    refine own_go (fun _ k => XS.iload X14.here hx rfl (hb hby own_d6_16) rfl k) ?_
    show own_Go _ _ _ _ T14 (mkF m 18 #[.val (.ref a_1), .val (.int p_2), .val (.ref a_3), .val (.ref a_3), .val (.int (0 : Int32)), .val (.int (0 : Int32)), .unset] [(.int (0 : Int32)), (.int (0 : Int32))])
    have hc18 : ¬ ((0 : Int32) < (0 : Int32)) := by decide
    refine own_go (fun _ k => XS.icmpYes X14.here hx rfl (pc0 := 18) (pc' := 39) rfl (hb hby own_d6_18) rfl (Jvm.Free.XT.ii_ge_t hc18) (by decide) (by decide) k) ?_
    show own_Go _ _ _ _ T14 (mkF m 39 #[.val (.ref a_1), .val (.int p_2), .val (.ref a_3), .val (.ref a_3), .val (.int (0 : Int32)), .val (.int (0 : Int32)), .unset] [])
    refine own_go (fun _ k => XS.aloadN X14.here hx rfl (hb hby own_d6_39) rfl rfl k) ?_
    show own_Go _ _ _ _ T14 (mkF m 40 #[.val (.ref a_1), .val (.int p_2), .val (.ref a_3), .val (.ref a_3), .val (.int (0 : Int32)), .val (.int (0 : Int32)), .unset] [(.ref a_1)])
    obtain ⟨T19, X19, e19, st19⟩ := getF X14 hx hZ hown (host := "") (Or.inl w_53) Via.refl e14 pr_F_a_1_clauseCount (g := (mkF m 40 #[.val (.ref a_1), .val (.int p_2), .val (.ref a_3), .val (.ref a_3), .val (.int (0 : Int32)), .val (.int (0 : Int32)), .unset] [(.ref a_1)])) rfl rfl (hb hby own_d6_40)
    refine own_go (fun _ k => st19 _ k) ?_
    show own_Go _ _ _ _ T19 (mkF m 43 #[.val (.ref a_1), .val (.int p_2), .val (.ref a_3), .val (.ref a_3), .val (.int (0 : Int32)), .val (.int (0 : Int32)), .unset] [(.int cn)])
    refine own_go (fun _ k => XS.aloadN X19.here hx rfl (hb hby own_d6_43) rfl rfl k) ?_
    show own_Go _ _ _ _ T19 (mkF m 44 #[.val (.ref a_1), .val (.int p_2), .val (.ref a_3), .val (.ref a_3), .val (.int (0 : Int32)), .val (.int (0 : Int32)), .unset] [(.ref a_1), (.int cn)])
    obtain ⟨T20, X20, e20, st20⟩ := getF X19 hx hZ hown (host := "") (Or.inl w_17) Via.refl e19 pr_F_a_1_heads (g := (mkF m 44 #[.val (.ref a_1), .val (.int p_2), .val (.ref a_3), .val (.ref a_3), .val (.int (0 : Int32)), .val (.int (0 : Int32)), .unset] [(.ref a_1), (.int cn)])) rfl rfl (hb hby own_d6_44)
    refine own_go (fun _ k => st20 _ k) ?_
    show own_Go _ _ _ _ T20 (mkF m 47 #[.val (.ref a_1), .val (.int p_2), .val (.ref a_3), .val (.ref a_3), .val (.int (0 : Int32)), .val (.int (0 : Int32)), .unset] [(.ref wh), (.int cn)])
    obtain ⟨q21, c21, R21, s21, t21⟩ := id pr_A_wh
    refine own_go (fun _ k => X20.arraylength hx (by rw [e20]; exact R21.1) (State.isArrayOf_alike hZ.alike R21.2.1) (g := (mkF m 47 #[.val (.ref a_1), .val (.int p_2), .val (.ref a_3), .val (.ref a_3), .val (.int (0 : Int32)), .val (.int (0 : Int32)), .unset] [(.ref wh), (.int cn)])) rfl rfl (hb hby own_d6_47) _ k) ?_
    rw [len_of s21 q21]
    show own_Go _ _ _ _ T20 (mkF m 48 #[.val (.ref a_1), .val (.int p_2), .val (.ref a_3), .val (.ref a_3), .val (.int (0 : Int32)), .val (.int (0 : Int32)), .unset] [(.int (64 : Int32)), (.int cn)])
    have hc22 : ¬ (cn = (64 : Int32)) := own_t6_1_0 cn hk
    refine own_go (fun _ k => XS.icmpYes X20.here hx rfl (pc0 := 48) (pc' := 85) rfl (hb hby own_d6_48) rfl (Jvm.Free.XT.ii_ne_t hc22) (by decide) (by decide) k) ?_
    show own_Go _ _ _ _ T20 (mkF m 85 #[.val (.ref a_1), .val (.int p_2), .val (.ref a_3), .val (.ref a_3), .val (.int (0 : Int32)), .val (.int (0 : Int32)), .unset] [])
    refine own_go (fun _ k => XS.aloadN X20.here hx rfl (hb hby own_d6_85) rfl rfl k) ?_
    show own_Go _ _ _ _ T20 (mkF m 86 #[.val (.ref a_1), .val (.int p_2), .val (.ref a_3), .val (.ref a_3), .val (.int (0 : Int32)), .val (.int (0 : Int32)), .unset] [(.ref a_1)])
    obtain ⟨T23, X23, e23, st23⟩ := getF X20 hx hZ hown (host := "") (Or.inl w_19) Via.refl e20 pr_F_a_1_bodyStarts (g := (mkF m 86 #[.val (.ref a_1), .val (.int p_2), .val (.ref a_3), .val (.ref a_3), .val (.int (0 : Int32)), .val (.int (0 : Int32)), .unset] [(.ref a_1)])) rfl rfl (hb hby own_d6_86)
    refine own_go (fun _ k => st23 _ k) ?_
    show own_Go _ _ _ _ T23 (mkF m 89 #[.val (.ref a_1), .val (.int p_2), .val (.ref a_3), .val (.ref a_3), .val (.int (0 : Int32)), .val (.int (0 : Int32)), .unset] [(.ref wst)])
    refine own_go (fun _ k => XS.aloadN X23.here hx rfl (hb hby own_d6_89) rfl rfl k) ?_
    show own_Go _ _ _ _ T23 (mkF m 90 #[.val (.ref a_1), .val (.int p_2), .val (.ref a_3), .val (.ref a_3), .val (.int (0 : Int32)), .val (.int (0 : Int32)), .unset] [(.ref a_1), (.ref wst)])
    obtain ⟨T24, X24, e24, st24⟩ := getF X23 hx hZ hown (host := "") (Or.inl w_53) Via.refl e23 pr_F_a_1_clauseCount (g := (mkF m 90 #[.val (.ref a_1), .val (.int p_2), .val (.ref a_3), .val (.ref a_3), .val (.int (0 : Int32)), .val (.int (0 : Int32)), .unset] [(.ref a_1), (.ref wst)])) rfl rfl (hb hby own_d6_90)
    refine own_go (fun _ k => st24 _ k) ?_
    show own_Go _ _ _ _ T24 (mkF m 93 #[.val (.ref a_1), .val (.int p_2), .val (.ref a_3), .val (.ref a_3), .val (.int (0 : Int32)), .val (.int (0 : Int32)), .unset] [(.int cn), (.ref wst)])
    obtain ⟨q25, c25, R25, s25, t25⟩ := id pr_A_wst
    have hin25 : ¬ (cn < 0 ∨ c25.slots.size ≤ (cn).toNatClampNeg) := inb_of s25 (own_t6_1_1 cn hk hc22)
    have u25 : c25.slots[(cn).toNatClampNeg]? = some (.int bs) := own_at (k := (cn).toNatClampNeg) t25 s25 hin25 rfl (hgs)
    refine own_go (fun _ k => X24.iaload hx (j := cn) (v := (.int bs)) (by rw [e24]; exact R25.1) (State.isArrayOf_alike hZ.alike R25.2.1) R25.2.2 hin25 u25 (g := (mkF m 93 #[.val (.ref a_1), .val (.int p_2), .val (.ref a_3), .val (.ref a_3), .val (.int (0 : Int32)), .val (.int (0 : Int32)), .unset] [(.int cn), (.ref wst)])) rfl rfl (hb hby own_d6_93) _ k) ?_
    show own_Go _ _ _ _ T24 (mkF m 94 #[.val (.ref a_1), .val (.int p_2), .val (.ref a_3), .val (.ref a_3), .val (.int (0 : Int32)), .val (.int (0 : Int32)), .unset] [(.int bs)])
    refine own_go (fun _ k => XS.istoreN X24.here hx rfl (hb hby own_d6_94) rfl (l' := #[.val (.ref a_1), .val (.int p_2), .val (.ref a_3), .val (.int bs), .val (.int (0 : Int32)), .val (.int (0 : Int32)), .unset]) rfl k) ?_
    show own_Go _ _ _ _ T24 (mkF m 95 #[.val (.ref a_1), .val (.int p_2), .val (.ref a_3), .val (.int bs), .val (.int (0 : Int32)), .val (.int (0 : Int32)), .unset] [])
    refine own_go (fun _ k => XS.iloadN X24.here hx rfl (hb hby own_d6_95) rfl k) ?_
    show own_Go _ _ _ _ T24 (mkF m 96 #[.val (.ref a_1), .val (.int p_2), .val (.ref a_3), .val (.int bs), .val (.int (0 : Int32)), .val (.int (0 : Int32)), .unset] [(.int bs)])
    refine own_go (fun _ k => XS.aloadN X24.here hx rfl (hb hby own_d6_96) rfl rfl k) ?_
    show own_Go _ _ _ _ T24 (mkF m 97 #[.val (.ref a_1), .val (.int p_2), .val (.ref a_3), .val (.int bs), .val (.int (0 : Int32)), .val (.int (0 : Int32)), .unset] [(.ref a_3), (.int bs)])
    obtain ⟨q26, c26, R26, s26, t26⟩ := id pr_A_a_3
    refine own_go (fun _ k => X24.arraylength hx (by rw [e24]; exact R26.1) (State.isArrayOf_alike hZ.alike R26.2.1) (g := (mkF m 97 #[.val (.ref a_1), .val (.int p_2), .val (.ref a_3), .val (.int bs), .val (.int (0 : Int32)), .val (.int (0 : Int32)), .unset] [(.ref a_3), (.int bs)])) rfl rfl (hb hby own_d6_97) _ k) ?_
    rw [len_of s26 q26]
    show own_Go _ _ _ _ T24 (mkF m 98 #[.val (.ref a_1), .val (.int p_2), .val (.ref a_3), .val (.int bs), .val (.int (0 : Int32)), .val (.int (0 : Int32)), .unset] [(.int (0 : Int32)), (.int bs)])
    refine own_go (fun _ k => XS.iadd X24.here hx rfl (hb hby own_d6_98) rfl k) ?_
    show own_Go _ _ _ _ T24 (mkF m 99 #[.val (.ref a_1), .val (.int p_2), .val (.ref a_3), .val (.int bs), .val (.int (0 : Int32)), .val (.int (0 : Int32)), .unset] [(.int (bs + (0 : Int32)))])
    refine own_go (fun _ k => XS.aloadN X24.here hx rfl (hb hby own_d6_99) rfl rfl k) ?_
    show own_Go _ _ _ _ T24 (mkF m 100 #[.val (.ref a_1), .val (.int p_2), .val (.ref a_3), .val (.int bs), .val (.int (0 : Int32)), .val (.int (0 : Int32)), .unset] [(.ref a_1), (.int (bs + (0 : Int32)))])
    obtain ⟨T27, X27, e27, st27⟩ := getF X24 hx hZ hown (host := "") (Or.inl w_21) Via.refl e24 pr_F_a_1_bodies (g := (mkF m 100 #[.val (.ref a_1), .val (.int p_2), .val (.ref a_3), .val (.int bs), .val (.int (0 : Int32)), .val (.int (0 : Int32)), .unset] [(.ref a_1), (.int (bs + (0 : Int32)))])) rfl rfl (hb hby own_d6_100)
    refine own_go (fun _ k => st27 _ k) ?_
    show own_Go _ _ _ _ T27 (mkF m 103 #[.val (.ref a_1), .val (.int p_2), .val (.ref a_3), .val (.int bs), .val (.int (0 : Int32)), .val (.int (0 : Int32)), .unset] [(.ref wb), (.int (bs + (0 : Int32)))])
    obtain ⟨q28, c28, R28, s28, t28⟩ := id pr_A_wb
    refine own_go (fun _ k => X27.arraylength hx (by rw [e27]; exact R28.1) (State.isArrayOf_alike hZ.alike R28.2.1) (g := (mkF m 103 #[.val (.ref a_1), .val (.int p_2), .val (.ref a_3), .val (.int bs), .val (.int (0 : Int32)), .val (.int (0 : Int32)), .unset] [(.ref wb), (.int (bs + (0 : Int32)))])) rfl rfl (hb hby own_d6_103) _ k) ?_
    rw [len_of s28 q28]
    show own_Go _ _ _ _ T27 (mkF m 104 #[.val (.ref a_1), .val (.int p_2), .val (.ref a_3), .val (.int bs), .val (.int (0 : Int32)), .val (.int (0 : Int32)), .unset] [(.int (64 : Int32)), (.int (bs + (0 : Int32)))])
    have hc29 : ¬ ((64 : Int32) < (bs + (0 : Int32))) := own_t6_0_0 bs hbs
    refine own_go (fun _ k => XS.icmpYes X27.here hx rfl (pc0 := 104) (pc' := 132) rfl (hb hby own_d6_104) rfl (Jvm.Free.XT.ii_le_t hc29) (by decide) (by decide) k) ?_
    show own_Go _ _ _ _ T27 (mkF m 132 #[.val (.ref a_1), .val (.int p_2), .val (.ref a_3), .val (.int bs), .val (.int (0 : Int32)), .val (.int (0 : Int32)), .unset] [])
    refine own_go (fun _ k => XS.aloadN X27.here hx rfl (hb hby own_d6_132) rfl rfl k) ?_
    show own_Go _ _ _ _ T27 (mkF m 133 #[.val (.ref a_1), .val (.int p_2), .val (.ref a_3), .val (.int bs), .val (.int (0 : Int32)), .val (.int (0 : Int32)), .unset] [(.ref a_3)])
    refine own_go (fun _ k => XS.iconst X27.here hx rfl (hb hby own_d6_133) k) ?_
    show own_Go _ _ _ _ T27 (mkF m 134 #[.val (.ref a_1), .val (.int p_2), .val (.ref a_3), .val (.int bs), .val (.int (0 : Int32)), .val (.int (0 : Int32)), .unset] [(.int (0 : Int32)), (.ref a_3)])
    refine own_go (fun _ k => XS.aloadN X27.here hx rfl (hb hby own_d6_134) rfl rfl k) ?_
    show own_Go _ _ _ _ T27 (mkF m 135 #[.val (.ref a_1), .val (.int p_2), .val (.ref a_3), .val (.int bs), .val (.int (0 : Int32)), .val (.int (0 : Int32)), .unset] [(.ref a_1), (.int (0 : Int32)), (.ref a_3)])
    obtain ⟨T30, X30, e30, st30⟩ := getF X27 hx hZ hown (host := "") (Or.inl w_21) Via.refl e27 pr_F_a_1_bodies (g := (mkF m 135 #[.val (.ref a_1), .val (.int p_2), .val (.ref a_3), .val (.int bs), .val (.int (0 : Int32)), .val (.int (0 : Int32)), .unset] [(.ref a_1), (.int (0 : Int32)), (.ref a_3)])) rfl rfl (hb hby own_d6_135)
    refine own_go (fun _ k => st30 _ k) ?_
    show own_Go _ _ _ _ T30 (mkF m 138 #[.val (.ref a_1), .val (.int p_2), .val (.ref a_3), .val (.int bs), .val (.int (0 : Int32)), .val (.int (0 : Int32)), .unset] [(.ref wb), (.int (0 : Int32)), (.ref a_3)])
    refine own_go (fun _ k => XS.iloadN X30.here hx rfl (hb hby own_d6_138) rfl k) ?_
    show own_Go _ _ _ _ T30 (mkF m 139 #[.val (.ref a_1), .val (.int p_2), .val (.ref a_3), .val (.int bs), .val (.int (0 : Int32)), .val (.int (0 : Int32)), .unset] [(.int bs), (.ref wb), (.int (0 : Int32)), (.ref a_3)])
    refine own_go (fun _ k => XS.aloadN X30.here hx rfl (hb hby own_d6_139) rfl rfl k) ?_
    show own_Go _ _ _ _ T30 (mkF m 140 #[.val (.ref a_1), .val (.int p_2), .val (.ref a_3), .val (.int bs), .val (.int (0 : Int32)), .val (.int (0 : Int32)), .unset] [(.ref a_3), (.int bs), (.ref wb), (.int (0 : Int32)), (.ref a_3)])
    obtain ⟨q31, c31, R31, s31, t31⟩ := id pr_A_a_3
    refine own_go (fun _ k => X30.arraylength hx (by rw [e30]; exact R31.1) (State.isArrayOf_alike hZ.alike R31.2.1) (g := (mkF m 140 #[.val (.ref a_1), .val (.int p_2), .val (.ref a_3), .val (.int bs), .val (.int (0 : Int32)), .val (.int (0 : Int32)), .unset] [(.ref a_3), (.int bs), (.ref wb), (.int (0 : Int32)), (.ref a_3)])) rfl rfl (hb hby own_d6_140) _ k) ?_
    rw [len_of s31 q31]
    show own_Go _ _ _ _ T30 (mkF m 141 #[.val (.ref a_1), .val (.int p_2), .val (.ref a_3), .val (.int bs), .val (.int (0 : Int32)), .val (.int (0 : Int32)), .unset] [(.int (0 : Int32)), (.int bs), (.ref wb), (.int (0 : Int32)), (.ref a_3)])
    obtain ⟨T32, h32, L32, X32, e32, N32, Kq32, V32, st32⟩ := own_cp X30 hx hZ hown w_55 w_58 w_56 w_57 e30 pr_A_a_3 pr_A_wb (fun _ => rfl) hfb (by decide) (own_t6_0_1 bs hbs hc29) (by decide) (by decide) (own_cl5 (own_t6_0_2 bs hbs hc29)) N14 (by omega) (g := (mkF m 141 #[.val (.ref a_1), .val (.int p_2), .val (.ref a_3), .val (.int bs), .val (.int (0 : Int32)), .val (.int (0 : Int32)), .unset] [(.int (0 : Int32)), (.int bs), (.ref wb), (.int (0 : Int32)), (.ref a_3)])) rfl (by rw [hml]; rfl) rfl (hb hby own_d6_141) (by decide) (W := 0) (by show 2 * 0 + _ ≤ _; exact Nat.le_of_eq rfl) (by decide)
    have z33 := Kq32.1
    have K32 : Keep h0 h32 [a_1, wh, wst, wb] := K0.trans Kq32 (allS (Or.inl (List.mem_of_getElem? (i := 3) rfl)) all0)
    refine own_go (fun _ k => st32 _ k) ?_
    show own_Go _ _ _ _ T32 (mkF m 144 #[.val (.ref a_1), .val (.int p_2), .val (.ref a_3), .val (.int bs), .val (.int (0 : Int32)), .val (.int (0 : Int32)), .unset] [])
    refine own_go (fun _ k => XS.aloadN X32.here hx rfl (hb hby own_d6_144) rfl rfl k) ?_
    show own_Go _ _ _ _ T32 (mkF m 145 #[.val (.ref a_1), .val (.int p_2), .val (.ref a_3), .val (.int bs), .val (.int (0 : Int32)), .val (.int (0 : Int32)), .unset] [(.ref a_1)])
    have f34 : Fld Z h32 a_1 "com/example/kalchas/kalchas/propositional/HornClauses" "heads" "[I" (.ref wh) := (pr_F_a_1_heads.keep Kq32 (ninS (own_ne (by omega)) nin0))
    obtain ⟨T35, X35, e35, st35⟩ := getF X32 hx hZ hown (host := "") (Or.inl w_17) Via.refl e32 f34 (g := (mkF m 145 #[.val (.ref a_1), .val (.int p_2), .val (.ref a_3), .val (.int bs), .val (.int (0 : Int32)), .val (.int (0 : Int32)), .unset] [(.ref a_1)])) rfl rfl (hb hby own_d6_145)
    refine own_go (fun _ k => st35 _ k) ?_
    show own_Go _ _ _ _ T35 (mkF m 148 #[.val (.ref a_1), .val (.int p_2), .val (.ref a_3), .val (.int bs), .val (.int (0 : Int32)), .val (.int (0 : Int32)), .unset] [(.ref wh)])
    refine own_go (fun _ k => XS.aloadN X35.here hx rfl (hb hby own_d6_148) rfl rfl k) ?_
    show own_Go _ _ _ _ T35 (mkF m 149 #[.val (.ref a_1), .val (.int p_2), .val (.ref a_3), .val (.int bs), .val (.int (0 : Int32)), .val (.int (0 : Int32)), .unset] [(.ref a_1), (.ref wh)])
    have f36 : Fld Z h32 a_1 "com/example/kalchas/kalchas/propositional/HornClauses" "clauseCount" "I" (.int cn) := (pr_F_a_1_clauseCount.keep Kq32 (ninS (own_ne (by omega)) nin0))
    obtain ⟨T37, X37, e37, st37⟩ := getF X35 hx hZ hown (host := "") (Or.inl w_53) Via.refl e35 f36 (g := (mkF m 149 #[.val (.ref a_1), .val (.int p_2), .val (.ref a_3), .val (.int bs), .val (.int (0 : Int32)), .val (.int (0 : Int32)), .unset] [(.ref a_1), (.ref wh)])) rfl rfl (hb hby own_d6_149)
    refine own_go (fun _ k => st37 _ k) ?_
    show own_Go _ _ _ _ T37 (mkF m 152 #[.val (.ref a_1), .val (.int p_2), .val (.ref a_3), .val (.int bs), .val (.int (0 : Int32)), .val (.int (0 : Int32)), .unset] [(.int cn), (.ref wh)])
    refine own_go (fun _ k => XS.iloadN X37.here hx rfl (hb hby own_d6_152) rfl k) ?_
    show own_Go _ _ _ _ T37 (mkF m 153 #[.val (.ref a_1), .val (.int p_2), .val (.ref a_3), .val (.int bs), .val (.int (0 : Int32)), .val (.int (0 : Int32)), .unset] [(.int p_2), (.int cn), (.ref wh)])
    have f38 : own_AV Z h32 wh .int (64 : Int32) gh := (pr_A_wh.keep Kq32 (ninS (own_ne (by omega)) nin0))
    obtain ⟨q39, c39, R39, s39, t39⟩ := id f38
    have hin39 : ¬ (cn < 0 ∨ c39.slots.size ≤ (cn).toNatClampNeg) := inb_of s39 (own_t6_1_2 cn hk hc22)
    obtain ⟨T40, h40, X40, e40, W40, st40⟩ := stI X37 hx hZ e37 R39 (j := cn) hin39 (g := (mkF m 153 #[.val (.ref a_1), .val (.int p_2), .val (.ref a_3), .val (.int bs), .val (.int (0 : Int32)), .val (.int (0 : Int32)), .unset] [(.int p_2), (.int cn), (.ref wh)])) rfl rfl (hb hby own_d6_153)
    have V40 : own_AV Z h40 wh .int (64 : Int32) (own_upd gh (cn).toNatClampNeg (.int p_2)) := own_AV.set (k := (cn).toNatClampNeg) f38 W40 rfl
    have z41 := W40.size
    have K40 : Keep h0 h40 [a_1, wh, wst, wb] := K32.wr W40 (Or.inl (List.mem_of_getElem? (i := 1) rfl))
    have N40 := Fr.snoc X40 N32 (by omega : n0 ≤ wh)
    refine own_go (fun _ k => st40 _ k) ?_
    show own_Go _ _ _ _ T40 (mkF m 154 #[.val (.ref a_1), .val (.int p_2), .val (.ref a_3), .val (.int bs), .val (.int (0 : Int32)), .val (.int (0 : Int32)), .unset] [])
    refine own_go (fun _ k => XS.aloadN X40.here hx rfl (hb hby own_d6_154) rfl rfl k) ?_
    show own_Go _ _ _ _ T40 (mkF m 155 #[.val (.ref a_1), .val (.int p_2), .val (.ref a_3), .val (.int bs), .val (.int (0 : Int32)), .val (.int (0 : Int32)), .unset] [(.ref a_1)])
    have f42 : Fld Z h40 a_1 "com/example/kalchas/kalchas/propositional/HornClauses" "bodyStarts" "[I" (.ref wst) := ((pr_F_a_1_bodyStarts.keep Kq32 (ninS (own_ne (by omega)) nin0)).other W40 (Or.inl (own_ne (by omega))))
    obtain ⟨T43, X43, e43, st43⟩ := getF X40 hx hZ hown (host := "") (Or.inl w_19) Via.refl e40 f42 (g := (mkF m 155 #[.val (.ref a_1), .val (.int p_2), .val (.ref a_3), .val (.int bs), .val (.int (0 : Int32)), .val (.int (0 : Int32)), .unset] [(.ref a_1)])) rfl rfl (hb hby own_d6_155)
    refine own_go (fun _ k => st43 _ k) ?_
    show own_Go _ _ _ _ T43 (mkF m 158 #[.val (.ref a_1), .val (.int p_2), .val (.ref a_3), .val (.int bs), .val (.int (0 : Int32)), .val (.int (0 : Int32)), .unset] [(.ref wst)])
    refine own_go (fun _ k => XS.aloadN X43.here hx rfl (hb hby own_d6_158) rfl rfl k) ?_
    show own_Go _ _ _ _ T43 (mkF m 159 #[.val (.ref a_1), .val (.int p_2), .val (.ref a_3), .val (.int bs), .val (.int (0 : Int32)), .val (.int (0 : Int32)), .unset] [(.ref a_1), (.ref wst)])
    have f44 : Fld Z h40 a_1 "com/example/kalchas/kalchas/propositional/HornClauses" "clauseCount" "I" (.int cn) := (f36.other W40 (Or.inl (own_ne (by omega))))
    obtain ⟨T45, X45, e45, st45⟩ := getF X43 hx hZ hown (host := "") (Or.inl w_53) Via.refl e43 f44 (g := (mkF m 159 #[.val (.ref a_1), .val (.int p_2), .val (.ref a_3), .val (.int bs), .val (.int (0 : Int32)), .val (.int (0 : Int32)), .unset] [(.ref a_1), (.ref wst)])) rfl rfl (hb hby own_d6_159)
    refine own_go (fun _ k => st45 _ k) ?_
    show own_Go _ _ _ _ T45 (mkF m 162 #[.val (.ref a_1), .val (.int p_2), .val (.ref a_3), .val (.int bs), .val (.int (0 : Int32)), .val (.int (0 : Int32)), .unset] [(.int cn), (.ref wst)])
    refine own_go (fun _ k => XS.iconst X45.here hx rfl (hb hby own_d6_162) k) ?_
    show own_Go _ _ _ _ T45 (mkF m 163 #[.val (.ref a_1), .val (.int p_2), .val (.ref a_3), .val (.int bs), .val (.int (0 : Int32)), .val (.int (0 : Int32)), .unset] [(.int (1 : Int32)), (.int cn), (.ref wst)])
    refine own_go (fun _ k => XS.iadd X45.here hx rfl (hb hby own_d6_163) rfl k) ?_
    show own_Go _ _ _ _ T45 (mkF m 164 #[.val (.ref a_1), .val (.int p_2), .val (.ref a_3), .val (.int bs), .val (.int (0 : Int32)), .val (.int (0 : Int32)), .unset] [(.int (cn + (1 : Int32))), (.ref wst)])
    refine own_go (fun _ k => XS.iloadN X45.here hx rfl (hb hby own_d6_164) rfl k) ?_
    show own_Go _ _ _ _ T45 (mkF m 165 #[.val (.ref a_1), .val (.int p_2), .val (.ref a_3), .val (.int bs), .val (.int (0 : Int32)), .val (.int (0 : Int32)), .unset] [(.int bs), (.int (cn + (1 : Int32))), (.ref wst)])
    refine own_go (fun _ k => XS.aloadN X45.here hx rfl (hb hby own_d6_165) rfl rfl k) ?_
    show own_Go _ _ _ _ T45 (mkF m 166 #[.val (.ref a_1), .val (.int p_2), .val (.ref a_3), .val (.int bs), .val (.int (0 : Int32)), .val (.int (0 : Int32)), .unset] [(.ref a_3), (.int bs), (.int (cn + (1 : Int32))), (.ref wst)])
    have f46 : own_AV Z h40 a_3 .int (0 : Int32) (own_n3 y0 y1 y2) := ((pr_A_a_3.keep Kq32 (ninS (own_ne (by omega)) nin0)).other W40 (own_ne (by omega)))
    obtain ⟨q47, c47, R47, s47, t47⟩ := id f46
    refine own_go (fun _ k => X45.arraylength hx (by rw [e45]; exact R47.1) (State.isArrayOf_alike hZ.alike R47.2.1) (g := (mkF m 166 #[.val (.ref a_1), .val (.int p_2), .val (.ref a_3), .val (.int bs), .val (.int (0 : Int32)), .val (.int (0 : Int32)), .unset] [(.ref a_3), (.int bs), (.int (cn + (1 : Int32))), (.ref wst)])) rfl rfl (hb hby own_d6_166) _ k) ?_
    rw [len_of s47 q47]
    show own_Go _ _ _ _ T45 (mkF m 167 #[.val (.ref a_1), .val (.int p_2), .val (.ref a_3), .val (.int bs), .val (.int (0 : Int32)), .val (.int (0 : Int32)), .unset] [(.int (0 : Int32)), (.int bs), (.int (cn + (1 : Int32))), (.ref wst)])
    refine own_go (fun _ k => XS.iadd X45.here hx rfl (hb hby own_d6_167) rfl k) ?_
    show own_Go _ _ _ _ T45 (mkF m 168 #[.val (.ref a_1), .val (.int p_2), .val (.ref a_3), .val (.int bs), .val (.int (0 : Int32)), .val (.int (0 : Int32)), .unset] [(.int (bs + (0 : Int32))), (.int (cn + (1 : Int32))), (.ref wst)])
    have f48 : own_AV Z h40 wst .int (65 : Int32) gs := ((pr_A_wst.keep Kq32 (ninS (own_ne (by omega)) nin0)).other W40 (own_ne (by omega)))
    obtain ⟨q49, c49, R49, s49, t49⟩ := id f48
    have hin49 : ¬ ((cn + (1 : Int32)) < 0 ∨ c49.slots.size ≤ ((cn + (1 : Int32))).toNatClampNeg) := inb_of s49 (own_t6_1_3 cn hk hc22)
    obtain ⟨T50, h50, X50, e50, W50, st50⟩ := stI X45 hx hZ e45 R49 (j := (cn + (1 : Int32))) hin49 (g := (mkF m 168 #[.val (.ref a_1), .val (.int p_2), .val (.ref a_3), .val (.int bs), .val (.int (0 : Int32)), .val (.int (0 : Int32)), .unset] [(.int (bs + (0 : Int32))), (.int (cn + (1 : Int32))), (.ref wst)])) rfl rfl (hb hby own_d6_168)
    have V50 : own_AV Z h50 wst .int (65 : Int32) (own_upd gs ((cn + (1 : Int32))).toNatClampNeg (.int (bs + (0 : Int32)))) := own_AV.set (k := ((cn + (1 : Int32))).toNatClampNeg) f48 W50 rfl
    have z51 := W50.size
    have K50 : Keep h0 h50 [a_1, wh, wst, wb] := K40.wr W50 (Or.inl (List.mem_of_getElem? (i := 2) rfl))
    have N50 := Fr.snoc X50 N40 (by omega : n0 ≤ wst)
    refine own_go (fun _ k => st50 _ k) ?_
    show own_Go _ _ _ _ T50 (mkF m 169 #[.val (.ref a_1), .val (.int p_2), .val (.ref a_3), .val (.int bs), .val (.int (0 : Int32)), .val (.int (0 : Int32)), .unset] [])
    refine own_go (fun _ k => XS.aloadN X50.here hx rfl (hb hby own_d6_169) rfl rfl k) ?_
    show own_Go _ _ _ _ T50 (mkF m 170 #[.val (.ref a_1), .val (.int p_2), .val (.ref a_3), .val (.int bs), .val (.int (0 : Int32)), .val (.int (0 : Int32)), .unset] [(.ref a_1)])
    refine own_go (fun _ k => XS.dup X50.here hx rfl (hb hby own_d6_170) rfl rfl k) ?_
    show own_Go _ _ _ _ T50 (mkF m 171 #[.val (.ref a_1), .val (.int p_2), .val (.ref a_3), .val (.int bs), .val (.int (0 : Int32)), .val (.int (0 : Int32)), .unset] [(.ref a_1), (.ref a_1)])
    have f52 : Fld Z h50 a_1 "com/example/kalchas/kalchas/propositional/HornClauses" "clauseCount" "I" (.int cn) := (f44.other W50 (Or.inl (own_ne (by omega))))
    obtain ⟨T53, X53, e53, st53⟩ := getF X50 hx hZ hown (host := "") (Or.inl w_53) Via.refl e50 f52 (g := (mkF m 171 #[.val (.ref a_1), .val (.int p_2), .val (.ref a_3), .val (.int bs), .val (.int (0 : Int32)), .val (.int (0 : Int32)), .unset] [(.ref a_1), (.ref a_1)])) rfl rfl (hb hby own_d6_171)
    refine own_go (fun _ k => st53 _ k) ?_
    show own_Go _ _ _ _ T53 (mkF m 174 #[.val (.ref a_1), .val (.int p_2), .val (.ref a_3), .val (.int bs), .val (.int (0 : Int32)), .val (.int (0 : Int32)), .unset] [(.int cn), (.ref a_1)])
    refine own_go (fun _ k => XS.iconst X53.here hx rfl (hb hby own_d6_174) k) ?_
    show own_Go _ _ _ _ T53 (mkF m 175 #[.val (.ref a_1), .val (.int p_2), .val (.ref a_3), .val (.int bs), .val (.int (0 : Int32)), .val (.int (0 : Int32)), .unset] [(.int (1 : Int32)), (.int cn), (.ref a_1)])
    refine own_go (fun _ k => XS.iadd X53.here hx rfl (hb hby own_d6_175) rfl k) ?_
    show own_Go _ _ _ _ T53 (mkF m 176 #[.val (.ref a_1), .val (.int p_2), .val (.ref a_3), .val (.int bs), .val (.int (0 : Int32)), .val (.int (0 : Int32)), .unset] [(.int (cn + (1 : Int32))), (.ref a_1)])
    have f54 : Exa Z h50 a_1 "com/example/kalchas/kalchas/propositional/HornClauses" := (((pr_E_a_1.keep Kq32).wr W40).wr W50)
    obtain ⟨T55, h55, X55, e55, W55, st55⟩ := putF X53 hx hZ hown (host := "") (Or.inl w_53) Via.refl e53 f52 f54 (Or.inl w_54) w_9 (ty := .int) (by decide) rfl rfl (g := (mkF m 176 #[.val (.ref a_1), .val (.int p_2), .val (.ref a_3), .val (.int bs), .val (.int (0 : Int32)), .val (.int (0 : Int32)), .unset] [(.int (cn + (1 : Int32))), (.ref a_1)])) rfl rfl (hb hby own_d6_176)
    have z56 := W55.size
    have K55 : Keep h0 h55 [a_1, wh, wst, wb] := K50.wr W55 (Or.inl (List.mem_of_getElem? (i := 0) rfl))
    have N55 := Fr.snoc X55 N50 (by omega : n0 ≤ a_1)
    have Fw55 : Fld Z h55 a_1 "com/example/kalchas/kalchas/propositional/HornClauses" "clauseCount" "I" (.int (cn + (1 : Int32))) := Fld.same W55 f52
    refine own_go (fun _ k => st55 _ k) ?_
    show own_Go _ _ _ _ T55 (mkF m 179 #[.val (.ref a_1), .val (.int p_2), .val (.ref a_3), .val (.int bs), .val (.int (0 : Int32)), .val (.int (0 : Int32)), .unset] [])
    refine own_go (fun _ k => XS.aloadN X55.here hx rfl (hb hby own_d6_179) rfl rfl k) ?_
    show own_Go _ _ _ _ T55 (mkF m 180 #[.val (.ref a_1), .val (.int p_2), .val (.ref a_3), .val (.int bs), .val (.int (0 : Int32)), .val (.int (0 : Int32)), .unset] [(.ref a_1)])
    refine own_go (fun _ k => XS.aconstNull X55.here hx rfl (hb hby own_d6_180) k) ?_
    show own_Go _ _ _ _ T55 (mkF m 181 #[.val (.ref a_1), .val (.int p_2), .val (.ref a_3), .val (.int bs), .val (.int (0 : Int32)), .val (.int (0 : Int32)), .unset] [.null, (.ref a_1)])
    have f57 : Exa Z h55 a_1 "com/example/kalchas/kalchas/propositional/HornClauses" := (f54.wr W55)
    have f58 : Fld Z h55 a_1 "com/example/kalchas/kalchas/propositional/HornClauses" "occurrences" "[I" w_occ := ((((pr_F_a_1_occurrences.keep Kq32 (ninS (own_ne (by omega)) nin0)).other W40 (Or.inl (own_ne (by omega)))).other W50 (Or.inl (own_ne (by omega)))).other W55 (Or.inr (slot_ne (Or.inl w_29) (Or.inl w_54) (by decide) (t := (.array .int)) (t' := .int) (by decide) (by decide))))
    obtain ⟨T59, h59, X59, e59, W59, st59⟩ := putF X55 hx hZ hown (host := "") (Or.inl w_28) Via.refl e55 f58 f57 (Or.inl w_29) w_9 (ty := (.array .int)) (by decide) rfl rfl (g := (mkF m 181 #[.val (.ref a_1), .val (.int p_2), .val (.ref a_3), .val (.int bs), .val (.int (0 : Int32)), .val (.int (0 : Int32)), .unset] [.null, (.ref a_1)])) rfl rfl (hb hby own_d6_181)
    have z60 := W59.size
    have K59 : Keep h0 h59 [a_1, wh, wst, wb] := K55.wr W59 (Or.inl (List.mem_of_getElem? (i := 0) rfl))
    have N59 := Fr.snoc X59 N55 (by omega : n0 ≤ a_1)
    have Fw59 : Fld Z h59 a_1 "com/example/kalchas/kalchas/propositional/HornClauses" "occurrences" "[I" .null := Fld.same W59 f58
    refine own_go (fun _ k => st59 _ k) ?_
    show own_Go _ _ _ _ T59 (mkF m 184 #[.val (.ref a_1), .val (.int p_2), .val (.ref a_3), .val (.int bs), .val (.int (0 : Int32)), .val (.int (0 : Int32)), .unset] [])
    obtain ⟨fs, hr, hrun, hended, hRW⟩ := X59.leaveW hS14 (by rw [e59]; omega) (v := none) (fun _ => rfl)
    refine ⟨_, _, X59.returnOut hx Bd.returns (hb hby own_d6_184) hr, hrun, hended, _, _, rfl, ?_, own_monoW hRW (by rw [y14]; decide) (by rw [z14]; decide)⟩
    refine ⟨?_, trivial⟩
    show own_Q6_1 Z a_1 p_2 a_3 wh wst wb gh gs gb bs w_occ (0 : Int32) y0 y1 y2 cn h0 n0 _ T59.heap _
    rw [e59]
    have f62 : own_AV Z h59 wst .int (65 : Int32) (own_upd gs ((cn + (1 : Int32))).toNatClampNeg (.int (bs + (0 : Int32)))) := ((V50.other W55 (own_ne (by omega))).other W59 (own_ne (by omega)))
    have f63 : own_AV Z h59 wb .int (64 : Int32) (own_cpf (own_n3 y0 y1 y2) ((0 : Int32)).toNatClampNeg gb (bs).toNatClampNeg ((0 : Int32)).toNatClampNeg) := ((((V32.other W40 (own_ne (by omega))).other W50 (own_ne (by omega))).other W55 (own_ne (by omega))).other W59 (own_ne (by omega)))
    have f64 : Exa Z h59 a_1 "com/example/kalchas/kalchas/propositional/HornClauses" := (f57.wr W59)
    have f65 : Fld Z h59 a_1 "com/example/kalchas/kalchas/propositional/HornClauses" "variableCount" "I" (.int (3 : Int32)) := (((((pr_F_a_1_variableCount.keep Kq32 (ninS (own_ne (by omega)) nin0)).other W40 (Or.inl (own_ne (by omega)))).other W50 (Or.inl (own_ne (by omega)))).other W55 (Or.inr (slot_ne (Or.inl w_31) (Or.inl w_54) (by decide) (t := .int) (t' := .int) (by decide) (by decide)))).other W59 (Or.inr (slot_ne (Or.inl w_31) (Or.inl w_29) (by decide) (t := .int) (t' := (.array .int)) (by decide) (by decide))))
    have f66 : Fld Z h59 a_1 "com/example/kalchas/kalchas/propositional/HornClauses" "clauseCount" "I" (.int (cn + (1 : Int32))) := (Fw55.other W59 (Or.inr (slot_ne (Or.inl w_54) (Or.inl w_29) (by decide) (t := .int) (t' := (.array .int)) (by decide) (by decide))))
    have f67 : Fld Z h59 a_1 "com/example/kalchas/kalchas/propositional/HornClauses" "heads" "[I" (.ref wh) := ((((f34.other W40 (Or.inl (own_ne (by omega)))).other W50 (Or.inl (own_ne (by omega)))).other W55 (Or.inr (slot_ne (Or.inl w_18) (Or.inl w_54) (by decide) (t := (.array .int)) (t' := .int) (by decide) (by decide)))).other W59 (Or.inr (slot_ne (Or.inl w_18) (Or.inl w_29) (by decide) (t := (.array .int)) (t' := (.array .int)) (by decide) (by decide))))
    have f68 : Fld Z h59 a_1 "com/example/kalchas/kalchas/propositional/HornClauses" "bodyStarts" "[I" (.ref wst) := (((f42.other W50 (Or.inl (own_ne (by omega)))).other W55 (Or.inr (slot_ne (Or.inl w_20) (Or.inl w_54) (by decide) (t := (.array .int)) (t' := .int) (by decide) (by decide)))).other W59 (Or.inr (slot_ne (Or.inl w_20) (Or.inl w_29) (by decide) (t := (.array .int)) (t' := (.array .int)) (by decide) (by decide))))
    have f69 : Fld Z h59 a_1 "com/example/kalchas/kalchas/propositional/HornClauses" "bodies" "[I" (.ref wb) := (((((pr_F_a_1_bodies.keep Kq32 (ninS (own_ne (by omega)) nin0)).other W40 (Or.inl (own_ne (by omega)))).other W50 (Or.inl (own_ne (by omega)))).other W55 (Or.inr (slot_ne (Or.inl w_22) (Or.inl w_54) (by decide) (t := (.array .int)) (t' := .int) (by decide) (by decide)))).other W59 (Or.inr (slot_ne (Or.inl w_22) (Or.inl w_29) (by decide) (t := (.array .int)) (t' := (.array .int)) (by decide) (by decide))))
    have f70 : own_AV Z h59 wh .int (64 : Int32) (own_upd gh (cn).toNatClampNeg (.int p_2)) := (((V40.other W50 (own_ne (by omega))).other W55 (own_ne (by omega))).other W59 (own_ne (by omega)))
    exact ⟨rfl, N59, K59, f64, f65, f66, f67, f68, f69, Fw59, f70, f62, f63⟩
  · subst hs13
    show own_Go _ _ _ _ s₁ (mkF m 0 #[.val (.ref a_1), .val (.int p_2), .val (.ref a_3), .unset, .unset, .unset, .unset] [])
    refine own_go (fun _ k => XS.aloadN X0.here hx rfl (hb hby own_d6_0) rfl rfl k) ?_
    show own_Go _ _ _ _ s₁ (mkF m 1 #[.val (.ref a_1), .val (.int p_2), .val (.ref a_3), .unset, .unset, .unset, .unset] [(.ref a_1)])
    refine own_go (fun _ k => XS.iloadN X0.here hx rfl (hb hby own_d6_1) rfl k) ?_
    show own_Go _ _ _ _ s₁ (mkF m 2 #[.val (.ref a_1), .val (.int p_2), .val (.ref a_3), .unset, .unset, .unset, .unset] [(.int p_2), (.ref a_1)])
    obtain ⟨cq71, kq71, q71a, q71b, q71c⟩ := isOf hZ e0 pr_E_a_1
    obtain ⟨_, _, ⟨T71, L71, k71, n71⟩, -, X71, hS71, gr71, ⟨Lc71, ⟨hQ71, hV71⟩, l71, y71, z71⟩, st71⟩ := X0.virtualBackS hx (y := (⟨"com/example/kalchas/kalchas/propositional/HornClauses", "checkVariable", "(I)V"⟩ : MethodName)) (z := (⟨"com/example/kalchas/kalchas/propositional/HornClauses", "checkVariable", "(I)V"⟩ : MethodName)) hown (mvT hZ w_37) (mvT hZ w_38) (notFace_of_selects (args := #[]) (mvT hZ w_40)) (mvT hZ w_40) (mvT hZ w_39) (by decide) (own_backL (PV := (own_LP Z "com/example/kalchas/kalchas/propositional/HornClauses" 178)) (QV := (fun _ => True)) (W := 0) (own_rm7w l Z a0 hw [] a_1 p_2 (3 : Int32) h0 n0 (by omega) (show ¬ (p_2 < 0) by first | assumption | omega | decide) (show p_2 < (3 : Int32) by first | assumption | omega | decide) pr_F_a_1_variableCount) hZ w_41 w_10 (by decide) (by decide) (fun _ q => ⟨_, own_litW LP q⟩)) q71a q71c (g := (mkF m 2 #[.val (.ref a_1), .val (.int p_2), .val (.ref a_3), .unset, .unset, .unset, .unset] [(.int p_2), (.ref a_1)])) rfl (by rw [hml]; rfl) (Steps.refl _) (argsL := [(.int p_2)]) (rest := []) (lenOf own_pd1 rfl) rfl (by show 2 * 0 + _ ≤ _; exact Nat.le_of_eq rfl) (hb hby own_d6_2) (fun _ _ => ⟨rfl, e0, (by decide : 0 + 0 ≤ _), (by decide : 0 + 0 ≤ _)⟩)
    dsimp only [Pt.U, Pt.locs, Pt.cells, Pt.slots] at X71 l71 y71 z71 st71 hQ71 hS71 gr71 hV71
    have y71 : k71 = 0 := y71
    have z71 : n71 = 0 := z71
    have Wn71 := hS71.1
    have Li72 := LP.stays Wn71
    obtain ⟨X71, hS71, hZ, hown⟩ := rebS hS0 (n1 := s₁.heap.size) (by rw [e0]; omega) X71 hS71 gr71 hZ hown
    obtain ⟨rfl, N71q, e71⟩ := hQ71
    have N71 : Fr n0 L71 := by rw [l71]; exact Fr.app N0 N71q
    have z73 : T71.heap.size = h0.size := congrArg Array.size e71
    refine own_go (fun _ k => st71.trans k) ?_
    show own_Go _ _ _ _ T71 (mkF m 5 #[.val (.ref a_1), .val (.int p_2), .val (.ref a_3), .unset, .unset, .unset, .unset] [])
    refine own_go (fun _ k => XS.aloadN X71.here hx rfl (hb hby own_d6_5) rfl rfl k) ?_
    show own_Go _ _ _ _ T71 (mkF m 6 #[.val (.ref a_1), .val (.int p_2), .val (.ref a_3), .unset, .unset, .unset, .unset] [(.ref a_3)])
    refine own_go (fun _ k => XS.astoreN X71.here hx rfl (hb hby own_d6_6) rfl rfl (l' := #[.val (.ref a_1), .val (.int p_2), .val (.ref a_3), .val (.ref a_3), .unset, .unset, .unset]) rfl k) ?_
    show own_Go _ _ _ _ T71 (mkF m 7 #[.val (.ref a_1), .val (.int p_2), .val (.ref a_3), .val (.ref a_3), .unset, .unset, .unset] [])
    refine own_go (fun _ k => XS.aloadN X71.here hx rfl (hb hby own_d6_7) rfl rfl k) ?_
    show own_Go _ _ _ _ T71 (mkF m 8 #[.val (.ref a_1), .val (.int p_2), .val (.ref a_3), .val (.ref a_3), .unset, .unset, .unset] [(.ref a_3)])
    obtain ⟨q74, c74, R74, s74, t74⟩ := id pr_A_a_3
    refine own_go (fun _ k => X71.arraylength hx (by rw [e71]; exact R74.1) (State.isArrayOf_alike hZ.alike R74.2.1) (g := (mkF m 8 #[.val (.ref a_1), .val (.int p_2), .val (.ref a_3), .val (.ref a_3), .unset, .unset, .unset] [(.ref a_3)])) rfl rfl (hb hby own_d6_8) _ k) ?_
    rw [len_of s74 q74]
    show own_Go _ _ _ _ T71 (mkF m 9 #[.val (.ref a_1), .val (.int p_2), .val (.ref a_3), .val (.ref a_3), .unset, .unset, .unset] [(.int (1 : Int32))])
    refine own_go (fun _ k => XS.istore X71.here hx rfl (hb hby own_d6_9) rfl (l' := #[.val (.ref a_1), .val (.int p_2), .val (.ref a_3), .val (.ref a_3), .val (.int (1 : Int32)), .unset, .unset]) rfl k) ?_
    show own_Go _ _ _ _ T71 (mkF m 11 #[.val (.ref a_1), .val (.int p_2), .val (.ref a_3), .val (.ref a_3), .val (.int (1 : Int32)), .unset, .unset] [])
    refine own_go (fun _ k => XS.iconst X71.here hx rfl (hb hby own_d6_11) k) ?_
    show own_Go _ _ _ _ T71 (mkF m 12 #[.val (.ref a_1), .val (.int p_2), .val (.ref a_3), .val (.ref a_3), .val (.int (1 : Int32)), .unset, .unset] [(.int (0 : Int32))])
    refine own_go (fun _ k => XS.istore X71.here hx rfl (hb hby own_d6_12) rfl (l' := #[.val (.ref a_1), .val (.int p_2), .val (.ref a_3), .val (.ref a_3), .val (.int (1 : Int32)), .val (.int (0 : Int32)), .unset]) rfl k) ?_
    show own_Go _ _ _ _ T71 (mkF m 14 #[.val (.ref a_1), .val (.int p_2), .val (.ref a_3), .val (.ref a_3), .val (.int (1 : Int32)), .val (.int (0 : Int32)), .unset] [])
    refine own_go (fun _ k => XS.iload X71.here hx rfl (hb hby own_d6_14) rfl k) ?_
    show own_Go _ _ _ _ T71 (mkF m 16 #[.val (.ref a_1), .val (.int p_2), .val (.ref a_3), .val (.ref a_3), .val (.int (1 : Int32)), .val (.int (0 : Int32)), .unset] [(.int (0 : Int32))])
    refine own_go (fun _ k => XS.iload X71.here hx rfl (hb hby own_d6_16) rfl k) ?_
    show own_Go _ _ _ _ T71 (mkF m 18 #[.val (.ref a_1), .val (.int p_2), .val (.ref a_3), .val (.ref a_3), .val (.int (1 : Int32)), .val (.int (0 : Int32)), .unset] [(.int (1 : Int32)), (.int (0 : Int32))])
    have hc75 : (0 : Int32) < (1 : Int32) := by decide
    refine own_go (fun _ k => XS.icmpNo X71.here hx rfl (hb hby own_d6_18) rfl (Jvm.Free.XT.ii_ge_f hc75) k) ?_
    show own_Go _ _ _ _ T71 (mkF m 21 #[.val (.ref a_1), .val (.int p_2), .val (.ref a_3), .val (.ref a_3), .val (.int (1 : Int32)), .val (.int (0 : Int32)), .unset] [])
    refine own_go (fun _ k => XS.aloadN X71.here hx rfl (hb hby own_d6_21) rfl rfl k) ?_
    show own_Go _ _ _ _ T71 (mkF m 22 #[.val (.ref a_1), .val (.int p_2), .val (.ref a_3), .val (.ref a_3), .val (.int (1 : Int32)), .val (.int (0 : Int32)), .unset] [(.ref a_3)])
    refine own_go (fun _ k => XS.iload X71.here hx rfl (hb hby own_d6_22) rfl k) ?_
    show own_Go _ _ _ _ T71 (mkF m 24 #[.val (.ref a_1), .val (.int p_2), .val (.ref a_3), .val (.ref a_3), .val (.int (1 : Int32)), .val (.int (0 : Int32)), .unset] [(.int (0 : Int32)), (.ref a_3)])
    obtain ⟨q76, c76, R76, s76, t76⟩ := id pr_A_a_3
    have hin76 : ¬ ((0 : Int32) < 0 ∨ c76.slots.size ≤ ((0 : Int32)).toNatClampNeg) := inb_of s76 ⟨by decide, by decide⟩
    have u76 : c76.slots[((0 : Int32)).toNatClampNeg]? = some (.int y0) := own_at (k := 0) t76 s76 hin76 (by decide) (rfl)
    refine own_go (fun _ k => X71.iaload hx (j := (0 : Int32)) (v := (.int y0)) (by rw [e71]; exact R76.1) (State.isArrayOf_alike hZ.alike R76.2.1) R76.2.2 hin76 u76 (g := (mkF m 24 #[.val (.ref a_1), .val (.int p_2), .val (.ref a_3), .val (.ref a_3), .val (.int (1 : Int32)), .val (.int (0 : Int32)), .unset] [(.int (0 : Int32)), (.ref a_3)])) rfl rfl (hb hby own_d6_24) _ k) ?_
    show own_Go _ _ _ _ T71 (mkF m 25 #[.val (.ref a_1), .val (.int p_2), .val (.ref a_3), .val (.ref a_3), .val (.int (1 : Int32)), .val (.int (0 : Int32)), .unset] [(.int y0)])
    refine own_go (fun _ k => XS.istore X71.here hx rfl (hb hby own_d6_25) rfl (l' := #[.val (.ref a_1), .val (.int p_2), .val (.ref a_3), .val (.ref a_3), .val (.int (1 : Int32)), .val (.int (0 : Int32)), .val (.int y0)]) rfl k) ?_
    show own_Go _ _ _ _ T71 (mkF m 27 #[.val (.ref a_1), .val (.int p_2), .val (.ref a_3), .val (.ref a_3), .val (.int (1 : Int32)), .val (.int (0 : Int32)), .val (.int y0)] [])
    refine own_go (fun _ k => XS.aloadN X71.here hx rfl (hb hby own_d6_27) rfl rfl k) ?_
    show own_Go _ _ _ _ T71 (mkF m 28 #[.val (.ref a_1), .val (.int p_2), .val (.ref a_3), .val (.ref a_3), .val (.int (1 : Int32)), .val (.int (0 : Int32)), .val (.int y0)] [(.ref a_1)])
    refine own_go (fun _ k => XS.iload X71.here hx rfl (hb hby own_d6_28) rfl k) ?_
    show own_Go _ _ _ _ T71 (mkF m 30 #[.val (.ref a_1), .val (.int p_2), .val (.ref a_3), .val (.ref a_3), .val (.int (1 : Int32)), .val (.int (0 : Int32)), .val (.int y0)] [(.int y0), (.ref a_1)])
    obtain ⟨cq77, kq77, q77a, q77b, q77c⟩ := isOf hZ e71 pr_E_a_1
    obtain ⟨_, _, ⟨T77, L77, k77, n77⟩, -, X77, hS77, gr77, ⟨Lc77, ⟨hQ77, hV77⟩, l77, y77, z77⟩, st77⟩ := X71.virtualBackS hx (y := (⟨"com/example/kalchas/kalchas/propositional/HornClauses", "checkVariable", "(I)V"⟩ : MethodName)) (z := (⟨"com/example/kalchas/kalchas/propositional/HornClauses", "checkVariable", "(I)V"⟩ : MethodName)) hown (mvT hZ w_37) (mvT hZ w_38) (notFace_of_selects (args := #[]) (mvT hZ w_40)) (mvT hZ w_40) (mvT hZ w_39) (by decide) (own_backL (PV := (own_LP Z "com/example/kalchas/kalchas/propositional/HornClauses" 178)) (QV := (fun _ => True)) (W := 0) (own_rm7w l Z a0 hw [] a_1 y0 (3 : Int32) h0 n0 (by omega) (show ¬ (y0 < 0) by first | assumption | omega | decide) (show y0 < (3 : Int32) by first | assumption | omega | decide) pr_F_a_1_variableCount) hZ w_41 w_10 (by decide) (by decide) (fun _ q => ⟨_, own_litW Li72 q⟩)) q77a q77c (g := (mkF m 30 #[.val (.ref a_1), .val (.int p_2), .val (.ref a_3), .val (.ref a_3), .val (.int (1 : Int32)), .val (.int (0 : Int32)), .val (.int y0)] [(.int y0), (.ref a_1)])) rfl (by rw [hml]; rfl) (Steps.refl _) (argsL := [(.int y0)]) (rest := []) (lenOf own_pd1 rfl) rfl (by show 2 * 0 + _ ≤ _; exact Nat.le_of_eq rfl) (hb hby own_d6_30) (fun _ _ => ⟨rfl, e71, (by show k71 + _ ≤ _; rw [y71]; decide), (by show n71 + _ ≤ _; rw [z71]; decide)⟩)
    dsimp only [Pt.U, Pt.locs, Pt.cells, Pt.slots] at X77 l77 y77 z77 st77 hQ77 hS77 gr77 hV77
    have y77 : k77 = 0 := own_addeq y77 (congrArg (fun q => q) y71) rfl
    have z77 : n77 = 0 := own_addeq z77 (congrArg (fun q => q) z71) rfl
    have Wn77 := hS77.1
    have Li78 := Li72.stays Wn77
    obtain ⟨X77, hS77, hZ, hown⟩ := rebS hS71 (n1 := T71.heap.size) (by rw [e71]; omega) X77 hS77 gr77 hZ hown
    obtain ⟨rfl, N77q, e77⟩ := hQ77
    have N77 : Fr n0 L77 := by rw [l77]; exact Fr.app N71 N77q
    have z79 : T77.heap.size = h0.size := congrArg Array.size e77
    refine own_go (fun _ k => st77.trans k) ?_
    show own_Go _ _ _ _ T77 (mkF m 33 #[.val (.ref a_1), .val (.int p_2), .val (.ref a_3), .val (.ref a_3), .val (.int (1 : Int32)), .val (.int (0 : Int32)), .val (.int y0)] [])
    refine own_go (fun _ k => XS.iinc X77.here hx rfl (hb hby own_d6_33) rfl (l' := #[.val (.ref a_1), .val (.int p_2), .val (.ref a_3), .val (.ref a_3), .val (.int (1 : Int32)), .val (.int (1 : Int32)), .val (.int y0)]) rfl k) ?_
    show own_Go _ _ _ _ T77 (mkF m 36 #[.val (.ref a_1), .val (.int p_2), .val (.ref a_3), .val (.ref a_3), .val (.int (1 : Int32)), .val (.int (1 : Int32)), .val (.int y0)] [])
    refine own_go (fun _ k => XS.goto X77.here hx rfl (pc0 := 36) (pc' := 14) rfl (hb hby own_d6_36) (by decide) (by decide) k) ?_
    show own_Go _ _ _ _ T77 (mkF m 14 #[.val (.ref a_1), .val (.int p_2), .val (.ref a_3), .val (.ref a_3), .val (.int (1 : Int32)), .val (.int (1 : Int32)), .val (.int y0)] [])
    refine own_go (fun _ k => XS.iload X77.here hx rfl (hb hby own_d6_14) rfl k) ?_
    show own_Go _ _ _ _ T77 (mkF m 16 #[.val (.ref a_1), .val (.int p_2), .val (.ref a_3), .val (.ref a_3), .val (.int (1 : Int32)), .val (.int (1 : Int32)), .val (.int y0)] [(.int (1 : Int32))])
    refine own_go (fun _ k => XS.iload X77.here hx rfl (hb hby own_d6_16) rfl k) ?_
    show own_Go _ _ _ _ T77 (mkF m 18 #[.val (.ref a_1), .val (.int p_2), .val (.ref a_3), .val (.ref a_3), .val (.int (1 : Int32)), .val (.int (1 : Int32)), .val (.int y0)] [(.int (1 : Int32)), (.int (1 : Int32))])
    have hc80 : ¬ ((1 : Int32) < (1 : Int32)) := by decide
    refine own_go (fun _ k => XS.icmpYes X77.here hx rfl (pc0 := 18) (pc' := 39) rfl (hb hby own_d6_18) rfl (Jvm.Free.XT.ii_ge_t hc80) (by decide) (by decide) k) ?_
    show own_Go _ _ _ _ T77 (mkF m 39 #[.val (.ref a_1), .val (.int p_2), .val (.ref a_3), .val (.ref a_3), .val (.int (1 : Int32)), .val (.int (1 : Int32)), .val (.int y0)] [])
    refine own_go (fun _ k => XS.aloadN X77.here hx rfl (hb hby own_d6_39) rfl rfl k) ?_
    show own_Go _ _ _ _ T77 (mkF m 40 #[.val (.ref a_1), .val (.int p_2), .val (.ref a_3), .val (.ref a_3), .val (.int (1 : Int32)), .val (.int (1 : Int32)), .val (.int y0)] [(.ref a_1)])
    obtain ⟨T81, X81, e81, st81⟩ := getF X77 hx hZ hown (host := "") (Or.inl w_53) Via.refl e77 pr_F_a_1_clauseCount (g := (mkF m 40 #[.val (.ref a_1), .val (.int p_2), .val (.ref a_3), .val (.ref a_3), .val (.int (1 : Int32)), .val (.int (1 : Int32)), .val (.int y0)] [(.ref a_1)])) rfl rfl (hb hby own_d6_40)
    refine own_go (fun _ k => st81 _ k) ?_
    show own_Go _ _ _ _ T81 (mkF m 43 #[.val (.ref a_1), .val (.int p_2), .val (.ref a_3), .val (.ref a_3), .val (.int (1 : Int32)), .val (.int (1 : Int32)), .val (.int y0)] [(.int cn)])
    refine own_go (fun _ k => XS.aloadN X81.here hx rfl (hb hby own_d6_43) rfl rfl k) ?_
    show own_Go _ _ _ _ T81 (mkF m 44 #[.val (.ref a_1), .val (.int p_2), .val (.ref a_3), .val (.ref a_3), .val (.int (1 : Int32)), .val (.int (1 : Int32)), .val (.int y0)] [(.ref a_1), (.int cn)])
    obtain ⟨T82, X82, e82, st82⟩ := getF X81 hx hZ hown (host := "") (Or.inl w_17) Via.refl e81 pr_F_a_1_heads (g := (mkF m 44 #[.val (.ref a_1), .val (.int p_2), .val (.ref a_3), .val (.ref a_3), .val (.int (1 : Int32)), .val (.int (1 : Int32)), .val (.int y0)] [(.ref a_1), (.int cn)])) rfl rfl (hb hby own_d6_44)
    refine own_go (fun _ k => st82 _ k) ?_
    show own_Go _ _ _ _ T82 (mkF m 47 #[.val (.ref a_1), .val (.int p_2), .val (.ref a_3), .val (.ref a_3), .val (.int (1 : Int32)), .val (.int (1 : Int32)), .val (.int y0)] [(.ref wh), (.int cn)])
    obtain ⟨q83, c83, R83, s83, t83⟩ := id pr_A_wh
    refine own_go (fun _ k => X82.arraylength hx (by rw [e82]; exact R83.1) (State.isArrayOf_alike hZ.alike R83.2.1) (g := (mkF m 47 #[.val (.ref a_1), .val (.int p_2), .val (.ref a_3), .val (.ref a_3), .val (.int (1 : Int32)), .val (.int (1 : Int32)), .val (.int y0)] [(.ref wh), (.int cn)])) rfl rfl (hb hby own_d6_47) _ k) ?_
    rw [len_of s83 q83]
    show own_Go _ _ _ _ T82 (mkF m 48 #[.val (.ref a_1), .val (.int p_2), .val (.ref a_3), .val (.ref a_3), .val (.int (1 : Int32)), .val (.int (1 : Int32)), .val (.int y0)] [(.int (64 : Int32)), (.int cn)])
    have hc84 : ¬ (cn = (64 : Int32)) := own_t6_1_0 cn hk
    refine own_go (fun _ k => XS.icmpYes X82.here hx rfl (pc0 := 48) (pc' := 85) rfl (hb hby own_d6_48) rfl (Jvm.Free.XT.ii_ne_t hc84) (by decide) (by decide) k) ?_
    show own_Go _ _ _ _ T82 (mkF m 85 #[.val (.ref a_1), .val (.int p_2), .val (.ref a_3), .val (.ref a_3), .val (.int (1 : Int32)), .val (.int (1 : Int32)), .val (.int y0)] [])
    refine own_go (fun _ k => XS.aloadN X82.here hx rfl (hb hby own_d6_85) rfl rfl k) ?_
    show own_Go _ _ _ _ T82 (mkF m 86 #[.val (.ref a_1), .val (.int p_2), .val (.ref a_3), .val (.ref a_3), .val (.int (1 : Int32)), .val (.int (1 : Int32)), .val (.int y0)] [(.ref a_1)])
    obtain ⟨T85, X85, e85, st85⟩ := getF X82 hx hZ hown (host := "") (Or.inl w_19) Via.refl e82 pr_F_a_1_bodyStarts (g := (mkF m 86 #[.val (.ref a_1), .val (.int p_2), .val (.ref a_3), .val (.ref a_3), .val (.int (1 : Int32)), .val (.int (1 : Int32)), .val (.int y0)] [(.ref a_1)])) rfl rfl (hb hby own_d6_86)
    refine own_go (fun _ k => st85 _ k) ?_
    show own_Go _ _ _ _ T85 (mkF m 89 #[.val (.ref a_1), .val (.int p_2), .val (.ref a_3), .val (.ref a_3), .val (.int (1 : Int32)), .val (.int (1 : Int32)), .val (.int y0)] [(.ref wst)])
    refine own_go (fun _ k => XS.aloadN X85.here hx rfl (hb hby own_d6_89) rfl rfl k) ?_
    show own_Go _ _ _ _ T85 (mkF m 90 #[.val (.ref a_1), .val (.int p_2), .val (.ref a_3), .val (.ref a_3), .val (.int (1 : Int32)), .val (.int (1 : Int32)), .val (.int y0)] [(.ref a_1), (.ref wst)])
    obtain ⟨T86, X86, e86, st86⟩ := getF X85 hx hZ hown (host := "") (Or.inl w_53) Via.refl e85 pr_F_a_1_clauseCount (g := (mkF m 90 #[.val (.ref a_1), .val (.int p_2), .val (.ref a_3), .val (.ref a_3), .val (.int (1 : Int32)), .val (.int (1 : Int32)), .val (.int y0)] [(.ref a_1), (.ref wst)])) rfl rfl (hb hby own_d6_90)
    refine own_go (fun _ k => st86 _ k) ?_
    show own_Go _ _ _ _ T86 (mkF m 93 #[.val (.ref a_1), .val (.int p_2), .val (.ref a_3), .val (.ref a_3), .val (.int (1 : Int32)), .val (.int (1 : Int32)), .val (.int y0)] [(.int cn), (.ref wst)])
    obtain ⟨q87, c87, R87, s87, t87⟩ := id pr_A_wst
    have hin87 : ¬ (cn < 0 ∨ c87.slots.size ≤ (cn).toNatClampNeg) := inb_of s87 (own_t6_1_1 cn hk hc84)
    have u87 : c87.slots[(cn).toNatClampNeg]? = some (.int bs) := own_at (k := (cn).toNatClampNeg) t87 s87 hin87 rfl (hgs)
    refine own_go (fun _ k => X86.iaload hx (j := cn) (v := (.int bs)) (by rw [e86]; exact R87.1) (State.isArrayOf_alike hZ.alike R87.2.1) R87.2.2 hin87 u87 (g := (mkF m 93 #[.val (.ref a_1), .val (.int p_2), .val (.ref a_3), .val (.ref a_3), .val (.int (1 : Int32)), .val (.int (1 : Int32)), .val (.int y0)] [(.int cn), (.ref wst)])) rfl rfl (hb hby own_d6_93) _ k) ?_
    show own_Go _ _ _ _ T86 (mkF m 94 #[.val (.ref a_1), .val (.int p_2), .val (.ref a_3), .val (.ref a_3), .val (.int (1 : Int32)), .val (.int (1 : Int32)), .val (.int y0)] [(.int bs)])
    refine own_go (fun _ k => XS.istoreN X86.here hx rfl (hb hby own_d6_94) rfl (l' := #[.val (.ref a_1), .val (.int p_2), .val (.ref a_3), .val (.int bs), .val (.int (1 : Int32)), .val (.int (1 : Int32)), .val (.int y0)]) rfl k) ?_
    show own_Go _ _ _ _ T86 (mkF m 95 #[.val (.ref a_1), .val (.int p_2), .val (.ref a_3), .val (.int bs), .val (.int (1 : Int32)), .val (.int (1 : Int32)), .val (.int y0)] [])
    refine own_go (fun _ k => XS.iloadN X86.here hx rfl (hb hby own_d6_95) rfl k) ?_
    show own_Go _ _ _ _ T86 (mkF m 96 #[.val (.ref a_1), .val (.int p_2), .val (.ref a_3), .val (.int bs), .val (.int (1 : Int32)), .val (.int (1 : Int32)), .val (.int y0)] [(.int bs)])
    refine own_go (fun _ k => XS.aloadN X86.here hx rfl (hb hby own_d6_96) rfl rfl k) ?_
    show own_Go _ _ _ _ T86 (mkF m 97 #[.val (.ref a_1), .val (.int p_2), .val (.ref a_3), .val (.int bs), .val (.int (1 : Int32)), .val (.int (1 : Int32)), .val (.int y0)] [(.ref a_3), (.int bs)])
    obtain ⟨q88, c88, R88, s88, t88⟩ := id pr_A_a_3
    refine own_go (fun _ k => X86.arraylength hx (by rw [e86]; exact R88.1) (State.isArrayOf_alike hZ.alike R88.2.1) (g := (mkF m 97 #[.val (.ref a_1), .val (.int p_2), .val (.ref a_3), .val (.int bs), .val (.int (1 : Int32)), .val (.int (1 : Int32)), .val (.int y0)] [(.ref a_3), (.int bs)])) rfl rfl (hb hby own_d6_97) _ k) ?_
    rw [len_of s88 q88]
    show own_Go _ _ _ _ T86 (mkF m 98 #[.val (.ref a_1), .val (.int p_2), .val (.ref a_3), .val (.int bs), .val (.int (1 : Int32)), .val (.int (1 : Int32)), .val (.int y0)] [(.int (1 : Int32)), (.int bs)])
    refine own_go (fun _ k => XS.iadd X86.here hx rfl (hb hby own_d6_98) rfl k) ?_
    show own_Go _ _ _ _ T86 (mkF m 99 #[.val (.ref a_1), .val (.int p_2), .val (.ref a_3), .val (.int bs), .val (.int (1 : Int32)), .val (.int (1 : Int32)), .val (.int y0)] [(.int (bs + (1 : Int32)))])
    refine own_go (fun _ k => XS.aloadN X86.here hx rfl (hb hby own_d6_99) rfl rfl k) ?_
    show own_Go _ _ _ _ T86 (mkF m 100 #[.val (.ref a_1), .val (.int p_2), .val (.ref a_3), .val (.int bs), .val (.int (1 : Int32)), .val (.int (1 : Int32)), .val (.int y0)] [(.ref a_1), (.int (bs + (1 : Int32)))])
    obtain ⟨T89, X89, e89, st89⟩ := getF X86 hx hZ hown (host := "") (Or.inl w_21) Via.refl e86 pr_F_a_1_bodies (g := (mkF m 100 #[.val (.ref a_1), .val (.int p_2), .val (.ref a_3), .val (.int bs), .val (.int (1 : Int32)), .val (.int (1 : Int32)), .val (.int y0)] [(.ref a_1), (.int (bs + (1 : Int32)))])) rfl rfl (hb hby own_d6_100)
    refine own_go (fun _ k => st89 _ k) ?_
    show own_Go _ _ _ _ T89 (mkF m 103 #[.val (.ref a_1), .val (.int p_2), .val (.ref a_3), .val (.int bs), .val (.int (1 : Int32)), .val (.int (1 : Int32)), .val (.int y0)] [(.ref wb), (.int (bs + (1 : Int32)))])
    obtain ⟨q90, c90, R90, s90, t90⟩ := id pr_A_wb
    refine own_go (fun _ k => X89.arraylength hx (by rw [e89]; exact R90.1) (State.isArrayOf_alike hZ.alike R90.2.1) (g := (mkF m 103 #[.val (.ref a_1), .val (.int p_2), .val (.ref a_3), .val (.int bs), .val (.int (1 : Int32)), .val (.int (1 : Int32)), .val (.int y0)] [(.ref wb), (.int (bs + (1 : Int32)))])) rfl rfl (hb hby own_d6_103) _ k) ?_
    rw [len_of s90 q90]
    show own_Go _ _ _ _ T89 (mkF m 104 #[.val (.ref a_1), .val (.int p_2), .val (.ref a_3), .val (.int bs), .val (.int (1 : Int32)), .val (.int (1 : Int32)), .val (.int y0)] [(.int (64 : Int32)), (.int (bs + (1 : Int32)))])
    have hc91 : ¬ ((64 : Int32) < (bs + (1 : Int32))) := own_t6_0_3 bs hbs
    refine own_go (fun _ k => XS.icmpYes X89.here hx rfl (pc0 := 104) (pc' := 132) rfl (hb hby own_d6_104) rfl (Jvm.Free.XT.ii_le_t hc91) (by decide) (by decide) k) ?_
    show own_Go _ _ _ _ T89 (mkF m 132 #[.val (.ref a_1), .val (.int p_2), .val (.ref a_3), .val (.int bs), .val (.int (1 : Int32)), .val (.int (1 : Int32)), .val (.int y0)] [])
    refine own_go (fun _ k => XS.aloadN X89.here hx rfl (hb hby own_d6_132) rfl rfl k) ?_
    show own_Go _ _ _ _ T89 (mkF m 133 #[.val (.ref a_1), .val (.int p_2), .val (.ref a_3), .val (.int bs), .val (.int (1 : Int32)), .val (.int (1 : Int32)), .val (.int y0)] [(.ref a_3)])
    refine own_go (fun _ k => XS.iconst X89.here hx rfl (hb hby own_d6_133) k) ?_
    show own_Go _ _ _ _ T89 (mkF m 134 #[.val (.ref a_1), .val (.int p_2), .val (.ref a_3), .val (.int bs), .val (.int (1 : Int32)), .val (.int (1 : Int32)), .val (.int y0)] [(.int (0 : Int32)), (.ref a_3)])
    refine own_go (fun _ k => XS.aloadN X89.here hx rfl (hb hby own_d6_134) rfl rfl k) ?_
    show own_Go _ _ _ _ T89 (mkF m 135 #[.val (.ref a_1), .val (.int p_2), .val (.ref a_3), .val (.int bs), .val (.int (1 : Int32)), .val (.int (1 : Int32)), .val (.int y0)] [(.ref a_1), (.int (0 : Int32)), (.ref a_3)])
    obtain ⟨T92, X92, e92, st92⟩ := getF X89 hx hZ hown (host := "") (Or.inl w_21) Via.refl e89 pr_F_a_1_bodies (g := (mkF m 135 #[.val (.ref a_1), .val (.int p_2), .val (.ref a_3), .val (.int bs), .val (.int (1 : Int32)), .val (.int (1 : Int32)), .val (.int y0)] [(.ref a_1), (.int (0 : Int32)), (.ref a_3)])) rfl rfl (hb hby own_d6_135)
    refine own_go (fun _ k => st92 _ k) ?_
    show own_Go _ _ _ _ T92 (mkF m 138 #[.val (.ref a_1), .val (.int p_2), .val (.ref a_3), .val (.int bs), .val (.int (1 : Int32)), .val (.int (1 : Int32)), .val (.int y0)] [(.ref wb), (.int (0 : Int32)), (.ref a_3)])
    refine own_go (fun _ k => XS.iloadN X92.here hx rfl (hb hby own_d6_138) rfl k) ?_
    show own_Go _ _ _ _ T92 (mkF m 139 #[.val (.ref a_1), .val (.int p_2), .val (.ref a_3), .val (.int bs), .val (.int (1 : Int32)), .val (.int (1 : Int32)), .val (.int y0)] [(.int bs), (.ref wb), (.int (0 : Int32)), (.ref a_3)])
    refine own_go (fun _ k => XS.aloadN X92.here hx rfl (hb hby own_d6_139) rfl rfl k) ?_
    show own_Go _ _ _ _ T92 (mkF m 140 #[.val (.ref a_1), .val (.int p_2), .val (.ref a_3), .val (.int bs), .val (.int (1 : Int32)), .val (.int (1 : Int32)), .val (.int y0)] [(.ref a_3), (.int bs), (.ref wb), (.int (0 : Int32)), (.ref a_3)])
    obtain ⟨q93, c93, R93, s93, t93⟩ := id pr_A_a_3
    refine own_go (fun _ k => X92.arraylength hx (by rw [e92]; exact R93.1) (State.isArrayOf_alike hZ.alike R93.2.1) (g := (mkF m 140 #[.val (.ref a_1), .val (.int p_2), .val (.ref a_3), .val (.int bs), .val (.int (1 : Int32)), .val (.int (1 : Int32)), .val (.int y0)] [(.ref a_3), (.int bs), (.ref wb), (.int (0 : Int32)), (.ref a_3)])) rfl rfl (hb hby own_d6_140) _ k) ?_
    rw [len_of s93 q93]
    show own_Go _ _ _ _ T92 (mkF m 141 #[.val (.ref a_1), .val (.int p_2), .val (.ref a_3), .val (.int bs), .val (.int (1 : Int32)), .val (.int (1 : Int32)), .val (.int y0)] [(.int (1 : Int32)), (.int bs), (.ref wb), (.int (0 : Int32)), (.ref a_3)])
    obtain ⟨T94, h94, L94, X94, e94, N94, Kq94, V94, st94⟩ := own_cp X92 hx hZ hown w_55 w_58 w_56 w_57 e92 pr_A_a_3 pr_A_wb (fun _ => rfl) hfb (by decide) (own_t6_0_4 bs hbs hc91) (by decide) (by decide) (own_cl5 (own_t6_0_5 bs hbs hc91)) N77 (by omega) (g := (mkF m 141 #[.val (.ref a_1), .val (.int p_2), .val (.ref a_3), .val (.int bs), .val (.int (1 : Int32)), .val (.int (1 : Int32)), .val (.int y0)] [(.int (1 : Int32)), (.int bs), (.ref wb), (.int (0 : Int32)), (.ref a_3)])) rfl (by rw [hml]; rfl) rfl (hb hby own_d6_141) (by decide) (W := 0) (by show 2 * 0 + _ ≤ _; exact Nat.le_of_eq rfl) (by decide)
    have z95 := Kq94.1
    have K94 : Keep h0 h94 [a_1, wh, wst, wb] := K0.trans Kq94 (allS (Or.inl (List.mem_of_getElem? (i := 3) rfl)) all0)
    refine own_go (fun _ k => st94 _ k) ?_
    show own_Go _ _ _ _ T94 (mkF m 144 #[.val (.ref a_1), .val (.int p_2), .val (.ref a_3), .val (.int bs), .val (.int (1 : Int32)), .val (.int (1 : Int32)), .val (.int y0)] [])
    refine own_go (fun _ k => XS.aloadN X94.here hx rfl (hb hby own_d6_144) rfl rfl k) ?_
    show own_Go _ _ _ _ T94 (mkF m 145 #[.val (.ref a_1), .val (.int p_2), .val (.ref a_3), .val (.int bs), .val (.int (1 : Int32)), .val (.int (1 : Int32)), .val (.int y0)] [(.ref a_1)])
    have f96 : Fld Z h94 a_1 "com/example/kalchas/kalchas/propositional/HornClauses" "heads" "[I" (.ref wh) := (pr_F_a_1_heads.keep Kq94 (ninS (own_ne (by omega)) nin0))
    obtain ⟨T97, X97, e97, st97⟩ := getF X94 hx hZ hown (host := "") (Or.inl w_17) Via.refl e94 f96 (g := (mkF m 145 #[.val (.ref a_1), .val (.int p_2), .val (.ref a_3), .val (.int bs), .val (.int (1 : Int32)), .val (.int (1 : Int32)), .val (.int y0)] [(.ref a_1)])) rfl rfl (hb hby own_d6_145)
    refine own_go (fun _ k => st97 _ k) ?_
    show own_Go _ _ _ _ T97 (mkF m 148 #[.val (.ref a_1), .val (.int p_2), .val (.ref a_3), .val (.int bs), .val (.int (1 : Int32)), .val (.int (1 : Int32)), .val (.int y0)] [(.ref wh)])
    refine own_go (fun _ k => XS.aloadN X97.here hx rfl (hb hby own_d6_148) rfl rfl k) ?_
    show own_Go _ _ _ _ T97 (mkF m 149 #[.val (.ref a_1), .val (.int p_2), .val (.ref a_3), .val (.int bs), .val (.int (1 : Int32)), .val (.int (1 : Int32)), .val (.int y0)] [(.ref a_1), (.ref wh)])
    have f98 : Fld Z h94 a_1 "com/example/kalchas/kalchas/propositional/HornClauses" "clauseCount" "I" (.int cn) := (pr_F_a_1_clauseCount.keep Kq94 (ninS (own_ne (by omega)) nin0))
    obtain ⟨T99, X99, e99, st99⟩ := getF X97 hx hZ hown (host := "") (Or.inl w_53) Via.refl e97 f98 (g := (mkF m 149 #[.val (.ref a_1), .val (.int p_2), .val (.ref a_3), .val (.int bs), .val (.int (1 : Int32)), .val (.int (1 : Int32)), .val (.int y0)] [(.ref a_1), (.ref wh)])) rfl rfl (hb hby own_d6_149)
    refine own_go (fun _ k => st99 _ k) ?_
    show own_Go _ _ _ _ T99 (mkF m 152 #[.val (.ref a_1), .val (.int p_2), .val (.ref a_3), .val (.int bs), .val (.int (1 : Int32)), .val (.int (1 : Int32)), .val (.int y0)] [(.int cn), (.ref wh)])
    refine own_go (fun _ k => XS.iloadN X99.here hx rfl (hb hby own_d6_152) rfl k) ?_
    show own_Go _ _ _ _ T99 (mkF m 153 #[.val (.ref a_1), .val (.int p_2), .val (.ref a_3), .val (.int bs), .val (.int (1 : Int32)), .val (.int (1 : Int32)), .val (.int y0)] [(.int p_2), (.int cn), (.ref wh)])
    have f100 : own_AV Z h94 wh .int (64 : Int32) gh := (pr_A_wh.keep Kq94 (ninS (own_ne (by omega)) nin0))
    obtain ⟨q101, c101, R101, s101, t101⟩ := id f100
    have hin101 : ¬ (cn < 0 ∨ c101.slots.size ≤ (cn).toNatClampNeg) := inb_of s101 (own_t6_1_2 cn hk hc84)
    obtain ⟨T102, h102, X102, e102, W102, st102⟩ := stI X99 hx hZ e99 R101 (j := cn) hin101 (g := (mkF m 153 #[.val (.ref a_1), .val (.int p_2), .val (.ref a_3), .val (.int bs), .val (.int (1 : Int32)), .val (.int (1 : Int32)), .val (.int y0)] [(.int p_2), (.int cn), (.ref wh)])) rfl rfl (hb hby own_d6_153)
    have V102 : own_AV Z h102 wh .int (64 : Int32) (own_upd gh (cn).toNatClampNeg (.int p_2)) := own_AV.set (k := (cn).toNatClampNeg) f100 W102 rfl
    have z103 := W102.size
    have K102 : Keep h0 h102 [a_1, wh, wst, wb] := K94.wr W102 (Or.inl (List.mem_of_getElem? (i := 1) rfl))
    have N102 := Fr.snoc X102 N94 (by omega : n0 ≤ wh)
    refine own_go (fun _ k => st102 _ k) ?_
    show own_Go _ _ _ _ T102 (mkF m 154 #[.val (.ref a_1), .val (.int p_2), .val (.ref a_3), .val (.int bs), .val (.int (1 : Int32)), .val (.int (1 : Int32)), .val (.int y0)] [])
    refine own_go (fun _ k => XS.aloadN X102.here hx rfl (hb hby own_d6_154) rfl rfl k) ?_
    show own_Go _ _ _ _ T102 (mkF m 155 #[.val (.ref a_1), .val (.int p_2), .val (.ref a_3), .val (.int bs), .val (.int (1 : Int32)), .val (.int (1 : Int32)), .val (.int y0)] [(.ref a_1)])
    have f104 : Fld Z h102 a_1 "com/example/kalchas/kalchas/propositional/HornClauses" "bodyStarts" "[I" (.ref wst) := ((pr_F_a_1_bodyStarts.keep Kq94 (ninS (own_ne (by omega)) nin0)).other W102 (Or.inl (own_ne (by omega))))
    obtain ⟨T105, X105, e105, st105⟩ := getF X102 hx hZ hown (host := "") (Or.inl w_19) Via.refl e102 f104 (g := (mkF m 155 #[.val (.ref a_1), .val (.int p_2), .val (.ref a_3), .val (.int bs), .val (.int (1 : Int32)), .val (.int (1 : Int32)), .val (.int y0)] [(.ref a_1)])) rfl rfl (hb hby own_d6_155)
    refine own_go (fun _ k => st105 _ k) ?_
    show own_Go _ _ _ _ T105 (mkF m 158 #[.val (.ref a_1), .val (.int p_2), .val (.ref a_3), .val (.int bs), .val (.int (1 : Int32)), .val (.int (1 : Int32)), .val (.int y0)] [(.ref wst)])
    refine own_go (fun _ k => XS.aloadN X105.here hx rfl (hb hby own_d6_158) rfl rfl k) ?_
    show own_Go _ _ _ _ T105 (mkF m 159 #[.val (.ref a_1), .val (.int p_2), .val (.ref a_3), .val (.int bs), .val (.int (1 : Int32)), .val (.int (1 : Int32)), .val (.int y0)] [(.ref a_1), (.ref wst)])
    have f106 : Fld Z h102 a_1 "com/example/kalchas/kalchas/propositional/HornClauses" "clauseCount" "I" (.int cn) := (f98.other W102 (Or.inl (own_ne (by omega))))
    obtain ⟨T107, X107, e107, st107⟩ := getF X105 hx hZ hown (host := "") (Or.inl w_53) Via.refl e105 f106 (g := (mkF m 159 #[.val (.ref a_1), .val (.int p_2), .val (.ref a_3), .val (.int bs), .val (.int (1 : Int32)), .val (.int (1 : Int32)), .val (.int y0)] [(.ref a_1), (.ref wst)])) rfl rfl (hb hby own_d6_159)
    refine own_go (fun _ k => st107 _ k) ?_
    show own_Go _ _ _ _ T107 (mkF m 162 #[.val (.ref a_1), .val (.int p_2), .val (.ref a_3), .val (.int bs), .val (.int (1 : Int32)), .val (.int (1 : Int32)), .val (.int y0)] [(.int cn), (.ref wst)])
    refine own_go (fun _ k => XS.iconst X107.here hx rfl (hb hby own_d6_162) k) ?_
    show own_Go _ _ _ _ T107 (mkF m 163 #[.val (.ref a_1), .val (.int p_2), .val (.ref a_3), .val (.int bs), .val (.int (1 : Int32)), .val (.int (1 : Int32)), .val (.int y0)] [(.int (1 : Int32)), (.int cn), (.ref wst)])
    refine own_go (fun _ k => XS.iadd X107.here hx rfl (hb hby own_d6_163) rfl k) ?_
    show own_Go _ _ _ _ T107 (mkF m 164 #[.val (.ref a_1), .val (.int p_2), .val (.ref a_3), .val (.int bs), .val (.int (1 : Int32)), .val (.int (1 : Int32)), .val (.int y0)] [(.int (cn + (1 : Int32))), (.ref wst)])
    refine own_go (fun _ k => XS.iloadN X107.here hx rfl (hb hby own_d6_164) rfl k) ?_
    show own_Go _ _ _ _ T107 (mkF m 165 #[.val (.ref a_1), .val (.int p_2), .val (.ref a_3), .val (.int bs), .val (.int (1 : Int32)), .val (.int (1 : Int32)), .val (.int y0)] [(.int bs), (.int (cn + (1 : Int32))), (.ref wst)])
    refine own_go (fun _ k => XS.aloadN X107.here hx rfl (hb hby own_d6_165) rfl rfl k) ?_
    show own_Go _ _ _ _ T107 (mkF m 166 #[.val (.ref a_1), .val (.int p_2), .val (.ref a_3), .val (.int bs), .val (.int (1 : Int32)), .val (.int (1 : Int32)), .val (.int y0)] [(.ref a_3), (.int bs), (.int (cn + (1 : Int32))), (.ref wst)])
    have f108 : own_AV Z h102 a_3 .int (1 : Int32) (own_n3 y0 y1 y2) := ((pr_A_a_3.keep Kq94 (ninS (own_ne (by omega)) nin0)).other W102 (own_ne (by omega)))
    obtain ⟨q109, c109, R109, s109, t109⟩ := id f108
    refine own_go (fun _ k => X107.arraylength hx (by rw [e107]; exact R109.1) (State.isArrayOf_alike hZ.alike R109.2.1) (g := (mkF m 166 #[.val (.ref a_1), .val (.int p_2), .val (.ref a_3), .val (.int bs), .val (.int (1 : Int32)), .val (.int (1 : Int32)), .val (.int y0)] [(.ref a_3), (.int bs), (.int (cn + (1 : Int32))), (.ref wst)])) rfl rfl (hb hby own_d6_166) _ k) ?_
    rw [len_of s109 q109]
    show own_Go _ _ _ _ T107 (mkF m 167 #[.val (.ref a_1), .val (.int p_2), .val (.ref a_3), .val (.int bs), .val (.int (1 : Int32)), .val (.int (1 : Int32)), .val (.int y0)] [(.int (1 : Int32)), (.int bs), (.int (cn + (1 : Int32))), (.ref wst)])
    refine own_go (fun _ k => XS.iadd X107.here hx rfl (hb hby own_d6_167) rfl k) ?_
    show own_Go _ _ _ _ T107 (mkF m 168 #[.val (.ref a_1), .val (.int p_2), .val (.ref a_3), .val (.int bs), .val (.int (1 : Int32)), .val (.int (1 : Int32)), .val (.int y0)] [(.int (bs + (1 : Int32))), (.int (cn + (1 : Int32))), (.ref wst)])
    have f110 : own_AV Z h102 wst .int (65 : Int32) gs := ((pr_A_wst.keep Kq94 (ninS (own_ne (by omega)) nin0)).other W102 (own_ne (by omega)))
    obtain ⟨q111, c111, R111, s111, t111⟩ := id f110
    have hin111 : ¬ ((cn + (1 : Int32)) < 0 ∨ c111.slots.size ≤ ((cn + (1 : Int32))).toNatClampNeg) := inb_of s111 (own_t6_1_3 cn hk hc84)
    obtain ⟨T112, h112, X112, e112, W112, st112⟩ := stI X107 hx hZ e107 R111 (j := (cn + (1 : Int32))) hin111 (g := (mkF m 168 #[.val (.ref a_1), .val (.int p_2), .val (.ref a_3), .val (.int bs), .val (.int (1 : Int32)), .val (.int (1 : Int32)), .val (.int y0)] [(.int (bs + (1 : Int32))), (.int (cn + (1 : Int32))), (.ref wst)])) rfl rfl (hb hby own_d6_168)
    have V112 : own_AV Z h112 wst .int (65 : Int32) (own_upd gs ((cn + (1 : Int32))).toNatClampNeg (.int (bs + (1 : Int32)))) := own_AV.set (k := ((cn + (1 : Int32))).toNatClampNeg) f110 W112 rfl
    have z113 := W112.size
    have K112 : Keep h0 h112 [a_1, wh, wst, wb] := K102.wr W112 (Or.inl (List.mem_of_getElem? (i := 2) rfl))
    have N112 := Fr.snoc X112 N102 (by omega : n0 ≤ wst)
    refine own_go (fun _ k => st112 _ k) ?_
    show own_Go _ _ _ _ T112 (mkF m 169 #[.val (.ref a_1), .val (.int p_2), .val (.ref a_3), .val (.int bs), .val (.int (1 : Int32)), .val (.int (1 : Int32)), .val (.int y0)] [])
    refine own_go (fun _ k => XS.aloadN X112.here hx rfl (hb hby own_d6_169) rfl rfl k) ?_
    show own_Go _ _ _ _ T112 (mkF m 170 #[.val (.ref a_1), .val (.int p_2), .val (.ref a_3), .val (.int bs), .val (.int (1 : Int32)), .val (.int (1 : Int32)), .val (.int y0)] [(.ref a_1)])
    refine own_go (fun _ k => XS.dup X112.here hx rfl (hb hby own_d6_170) rfl rfl k) ?_
    show own_Go _ _ _ _ T112 (mkF m 171 #[.val (.ref a_1), .val (.int p_2), .val (.ref a_3), .val (.int bs), .val (.int (1 : Int32)), .val (.int (1 : Int32)), .val (.int y0)] [(.ref a_1), (.ref a_1)])
    have f114 : Fld Z h112 a_1 "com/example/kalchas/kalchas/propositional/HornClauses" "clauseCount" "I" (.int cn) := (f106.other W112 (Or.inl (own_ne (by omega))))
    obtain ⟨T115, X115, e115, st115⟩ := getF X112 hx hZ hown (host := "") (Or.inl w_53) Via.refl e112 f114 (g := (mkF m 171 #[.val (.ref a_1), .val (.int p_2), .val (.ref a_3), .val (.int bs), .val (.int (1 : Int32)), .val (.int (1 : Int32)), .val (.int y0)] [(.ref a_1), (.ref a_1)])) rfl rfl (hb hby own_d6_171)
    refine own_go (fun _ k => st115 _ k) ?_
    show own_Go _ _ _ _ T115 (mkF m 174 #[.val (.ref a_1), .val (.int p_2), .val (.ref a_3), .val (.int bs), .val (.int (1 : Int32)), .val (.int (1 : Int32)), .val (.int y0)] [(.int cn), (.ref a_1)])
    refine own_go (fun _ k => XS.iconst X115.here hx rfl (hb hby own_d6_174) k) ?_
    show own_Go _ _ _ _ T115 (mkF m 175 #[.val (.ref a_1), .val (.int p_2), .val (.ref a_3), .val (.int bs), .val (.int (1 : Int32)), .val (.int (1 : Int32)), .val (.int y0)] [(.int (1 : Int32)), (.int cn), (.ref a_1)])
    refine own_go (fun _ k => XS.iadd X115.here hx rfl (hb hby own_d6_175) rfl k) ?_
    show own_Go _ _ _ _ T115 (mkF m 176 #[.val (.ref a_1), .val (.int p_2), .val (.ref a_3), .val (.int bs), .val (.int (1 : Int32)), .val (.int (1 : Int32)), .val (.int y0)] [(.int (cn + (1 : Int32))), (.ref a_1)])
    have f116 : Exa Z h112 a_1 "com/example/kalchas/kalchas/propositional/HornClauses" := (((pr_E_a_1.keep Kq94).wr W102).wr W112)
    obtain ⟨T117, h117, X117, e117, W117, st117⟩ := putF X115 hx hZ hown (host := "") (Or.inl w_53) Via.refl e115 f114 f116 (Or.inl w_54) w_9 (ty := .int) (by decide) rfl rfl (g := (mkF m 176 #[.val (.ref a_1), .val (.int p_2), .val (.ref a_3), .val (.int bs), .val (.int (1 : Int32)), .val (.int (1 : Int32)), .val (.int y0)] [(.int (cn + (1 : Int32))), (.ref a_1)])) rfl rfl (hb hby own_d6_176)
    have z118 := W117.size
    have K117 : Keep h0 h117 [a_1, wh, wst, wb] := K112.wr W117 (Or.inl (List.mem_of_getElem? (i := 0) rfl))
    have N117 := Fr.snoc X117 N112 (by omega : n0 ≤ a_1)
    have Fw117 : Fld Z h117 a_1 "com/example/kalchas/kalchas/propositional/HornClauses" "clauseCount" "I" (.int (cn + (1 : Int32))) := Fld.same W117 f114
    refine own_go (fun _ k => st117 _ k) ?_
    show own_Go _ _ _ _ T117 (mkF m 179 #[.val (.ref a_1), .val (.int p_2), .val (.ref a_3), .val (.int bs), .val (.int (1 : Int32)), .val (.int (1 : Int32)), .val (.int y0)] [])
    refine own_go (fun _ k => XS.aloadN X117.here hx rfl (hb hby own_d6_179) rfl rfl k) ?_
    show own_Go _ _ _ _ T117 (mkF m 180 #[.val (.ref a_1), .val (.int p_2), .val (.ref a_3), .val (.int bs), .val (.int (1 : Int32)), .val (.int (1 : Int32)), .val (.int y0)] [(.ref a_1)])
    refine own_go (fun _ k => XS.aconstNull X117.here hx rfl (hb hby own_d6_180) k) ?_
    show own_Go _ _ _ _ T117 (mkF m 181 #[.val (.ref a_1), .val (.int p_2), .val (.ref a_3), .val (.int bs), .val (.int (1 : Int32)), .val (.int (1 : Int32)), .val (.int y0)] [.null, (.ref a_1)])
    have f119 : Exa Z h117 a_1 "com/example/kalchas/kalchas/propositional/HornClauses" := (f116.wr W117)
    have f120 : Fld Z h117 a_1 "com/example/kalchas/kalchas/propositional/HornClauses" "occurrences" "[I" w_occ := ((((pr_F_a_1_occurrences.keep Kq94 (ninS (own_ne (by omega)) nin0)).other W102 (Or.inl (own_ne (by omega)))).other W112 (Or.inl (own_ne (by omega)))).other W117 (Or.inr (slot_ne (Or.inl w_29) (Or.inl w_54) (by decide) (t := (.array .int)) (t' := .int) (by decide) (by decide))))
    obtain ⟨T121, h121, X121, e121, W121, st121⟩ := putF X117 hx hZ hown (host := "") (Or.inl w_28) Via.refl e117 f120 f119 (Or.inl w_29) w_9 (ty := (.array .int)) (by decide) rfl rfl (g := (mkF m 181 #[.val (.ref a_1), .val (.int p_2), .val (.ref a_3), .val (.int bs), .val (.int (1 : Int32)), .val (.int (1 : Int32)), .val (.int y0)] [.null, (.ref a_1)])) rfl rfl (hb hby own_d6_181)
    have z122 := W121.size
    have K121 : Keep h0 h121 [a_1, wh, wst, wb] := K117.wr W121 (Or.inl (List.mem_of_getElem? (i := 0) rfl))
    have N121 := Fr.snoc X121 N117 (by omega : n0 ≤ a_1)
    have Fw121 : Fld Z h121 a_1 "com/example/kalchas/kalchas/propositional/HornClauses" "occurrences" "[I" .null := Fld.same W121 f120
    refine own_go (fun _ k => st121 _ k) ?_
    show own_Go _ _ _ _ T121 (mkF m 184 #[.val (.ref a_1), .val (.int p_2), .val (.ref a_3), .val (.int bs), .val (.int (1 : Int32)), .val (.int (1 : Int32)), .val (.int y0)] [])
    obtain ⟨fs, hr, hrun, hended, hRW⟩ := X121.leaveW hS77 (by rw [e121]; omega) (v := none) (fun _ => rfl)
    refine ⟨_, _, X121.returnOut hx Bd.returns (hb hby own_d6_184) hr, hrun, hended, _, _, rfl, ?_, own_monoW hRW (by rw [y77]; decide) (by rw [z77]; decide)⟩
    refine ⟨?_, trivial⟩
    show own_Q6_1 Z a_1 p_2 a_3 wh wst wb gh gs gb bs w_occ (1 : Int32) y0 y1 y2 cn h0 n0 _ T121.heap _
    rw [e121]
    have f124 : own_AV Z h121 wst .int (65 : Int32) (own_upd gs ((cn + (1 : Int32))).toNatClampNeg (.int (bs + (1 : Int32)))) := ((V112.other W117 (own_ne (by omega))).other W121 (own_ne (by omega)))
    have f125 : own_AV Z h121 wb .int (64 : Int32) (own_cpf (own_n3 y0 y1 y2) ((0 : Int32)).toNatClampNeg gb (bs).toNatClampNeg ((1 : Int32)).toNatClampNeg) := ((((V94.other W102 (own_ne (by omega))).other W112 (own_ne (by omega))).other W117 (own_ne (by omega))).other W121 (own_ne (by omega)))
    have f126 : Exa Z h121 a_1 "com/example/kalchas/kalchas/propositional/HornClauses" := (f119.wr W121)
    have f127 : Fld Z h121 a_1 "com/example/kalchas/kalchas/propositional/HornClauses" "variableCount" "I" (.int (3 : Int32)) := (((((pr_F_a_1_variableCount.keep Kq94 (ninS (own_ne (by omega)) nin0)).other W102 (Or.inl (own_ne (by omega)))).other W112 (Or.inl (own_ne (by omega)))).other W117 (Or.inr (slot_ne (Or.inl w_31) (Or.inl w_54) (by decide) (t := .int) (t' := .int) (by decide) (by decide)))).other W121 (Or.inr (slot_ne (Or.inl w_31) (Or.inl w_29) (by decide) (t := .int) (t' := (.array .int)) (by decide) (by decide))))
    have f128 : Fld Z h121 a_1 "com/example/kalchas/kalchas/propositional/HornClauses" "clauseCount" "I" (.int (cn + (1 : Int32))) := (Fw117.other W121 (Or.inr (slot_ne (Or.inl w_54) (Or.inl w_29) (by decide) (t := .int) (t' := (.array .int)) (by decide) (by decide))))
    have f129 : Fld Z h121 a_1 "com/example/kalchas/kalchas/propositional/HornClauses" "heads" "[I" (.ref wh) := ((((f96.other W102 (Or.inl (own_ne (by omega)))).other W112 (Or.inl (own_ne (by omega)))).other W117 (Or.inr (slot_ne (Or.inl w_18) (Or.inl w_54) (by decide) (t := (.array .int)) (t' := .int) (by decide) (by decide)))).other W121 (Or.inr (slot_ne (Or.inl w_18) (Or.inl w_29) (by decide) (t := (.array .int)) (t' := (.array .int)) (by decide) (by decide))))
    have f130 : Fld Z h121 a_1 "com/example/kalchas/kalchas/propositional/HornClauses" "bodyStarts" "[I" (.ref wst) := (((f104.other W112 (Or.inl (own_ne (by omega)))).other W117 (Or.inr (slot_ne (Or.inl w_20) (Or.inl w_54) (by decide) (t := (.array .int)) (t' := .int) (by decide) (by decide)))).other W121 (Or.inr (slot_ne (Or.inl w_20) (Or.inl w_29) (by decide) (t := (.array .int)) (t' := (.array .int)) (by decide) (by decide))))
    have f131 : Fld Z h121 a_1 "com/example/kalchas/kalchas/propositional/HornClauses" "bodies" "[I" (.ref wb) := (((((pr_F_a_1_bodies.keep Kq94 (ninS (own_ne (by omega)) nin0)).other W102 (Or.inl (own_ne (by omega)))).other W112 (Or.inl (own_ne (by omega)))).other W117 (Or.inr (slot_ne (Or.inl w_22) (Or.inl w_54) (by decide) (t := (.array .int)) (t' := .int) (by decide) (by decide)))).other W121 (Or.inr (slot_ne (Or.inl w_22) (Or.inl w_29) (by decide) (t := (.array .int)) (t' := (.array .int)) (by decide) (by decide))))
    have f132 : own_AV Z h121 wh .int (64 : Int32) (own_upd gh (cn).toNatClampNeg (.int p_2)) := (((V102.other W112 (own_ne (by omega))).other W117 (own_ne (by omega))).other W121 (own_ne (by omega)))
    exact ⟨rfl, N121, K121, f126, f127, f128, f129, f130, f131, Fw121, f132, f124, f125⟩
  · subst hs13
    show own_Go _ _ _ _ s₁ (mkF m 0 #[.val (.ref a_1), .val (.int p_2), .val (.ref a_3), .unset, .unset, .unset, .unset] [])
    refine own_go (fun _ k => XS.aloadN X0.here hx rfl (hb hby own_d6_0) rfl rfl k) ?_
    show own_Go _ _ _ _ s₁ (mkF m 1 #[.val (.ref a_1), .val (.int p_2), .val (.ref a_3), .unset, .unset, .unset, .unset] [(.ref a_1)])
    refine own_go (fun _ k => XS.iloadN X0.here hx rfl (hb hby own_d6_1) rfl k) ?_
    show own_Go _ _ _ _ s₁ (mkF m 2 #[.val (.ref a_1), .val (.int p_2), .val (.ref a_3), .unset, .unset, .unset, .unset] [(.int p_2), (.ref a_1)])
    obtain ⟨cq133, kq133, q133a, q133b, q133c⟩ := isOf hZ e0 pr_E_a_1
    obtain ⟨_, _, ⟨T133, L133, k133, n133⟩, -, X133, hS133, gr133, ⟨Lc133, ⟨hQ133, hV133⟩, l133, y133, z133⟩, st133⟩ := X0.virtualBackS hx (y := (⟨"com/example/kalchas/kalchas/propositional/HornClauses", "checkVariable", "(I)V"⟩ : MethodName)) (z := (⟨"com/example/kalchas/kalchas/propositional/HornClauses", "checkVariable", "(I)V"⟩ : MethodName)) hown (mvT hZ w_37) (mvT hZ w_38) (notFace_of_selects (args := #[]) (mvT hZ w_40)) (mvT hZ w_40) (mvT hZ w_39) (by decide) (own_backL (PV := (own_LP Z "com/example/kalchas/kalchas/propositional/HornClauses" 178)) (QV := (fun _ => True)) (W := 0) (own_rm7w l Z a0 hw [] a_1 p_2 (3 : Int32) h0 n0 (by omega) (show ¬ (p_2 < 0) by first | assumption | omega | decide) (show p_2 < (3 : Int32) by first | assumption | omega | decide) pr_F_a_1_variableCount) hZ w_41 w_10 (by decide) (by decide) (fun _ q => ⟨_, own_litW LP q⟩)) q133a q133c (g := (mkF m 2 #[.val (.ref a_1), .val (.int p_2), .val (.ref a_3), .unset, .unset, .unset, .unset] [(.int p_2), (.ref a_1)])) rfl (by rw [hml]; rfl) (Steps.refl _) (argsL := [(.int p_2)]) (rest := []) (lenOf own_pd1 rfl) rfl (by show 2 * 0 + _ ≤ _; exact Nat.le_of_eq rfl) (hb hby own_d6_2) (fun _ _ => ⟨rfl, e0, (by decide : 0 + 0 ≤ _), (by decide : 0 + 0 ≤ _)⟩)
    dsimp only [Pt.U, Pt.locs, Pt.cells, Pt.slots] at X133 l133 y133 z133 st133 hQ133 hS133 gr133 hV133
    have y133 : k133 = 0 := y133
    have z133 : n133 = 0 := z133
    have Wn133 := hS133.1
    have Li134 := LP.stays Wn133
    obtain ⟨X133, hS133, hZ, hown⟩ := rebS hS0 (n1 := s₁.heap.size) (by rw [e0]; omega) X133 hS133 gr133 hZ hown
    obtain ⟨rfl, N133q, e133⟩ := hQ133
    have N133 : Fr n0 L133 := by rw [l133]; exact Fr.app N0 N133q
    have z135 : T133.heap.size = h0.size := congrArg Array.size e133
    refine own_go (fun _ k => st133.trans k) ?_
    show own_Go _ _ _ _ T133 (mkF m 5 #[.val (.ref a_1), .val (.int p_2), .val (.ref a_3), .unset, .unset, .unset, .unset] [])
    refine own_go (fun _ k => XS.aloadN X133.here hx rfl (hb hby own_d6_5) rfl rfl k) ?_
    show own_Go _ _ _ _ T133 (mkF m 6 #[.val (.ref a_1), .val (.int p_2), .val (.ref a_3), .unset, .unset, .unset, .unset] [(.ref a_3)])
    refine own_go (fun _ k => XS.astoreN X133.here hx rfl (hb hby own_d6_6) rfl rfl (l' := #[.val (.ref a_1), .val (.int p_2), .val (.ref a_3), .val (.ref a_3), .unset, .unset, .unset]) rfl k) ?_
    show own_Go _ _ _ _ T133 (mkF m 7 #[.val (.ref a_1), .val (.int p_2), .val (.ref a_3), .val (.ref a_3), .unset, .unset, .unset] [])
    refine own_go (fun _ k => XS.aloadN X133.here hx rfl (hb hby own_d6_7) rfl rfl k) ?_
    show own_Go _ _ _ _ T133 (mkF m 8 #[.val (.ref a_1), .val (.int p_2), .val (.ref a_3), .val (.ref a_3), .unset, .unset, .unset] [(.ref a_3)])
    obtain ⟨q136, c136, R136, s136, t136⟩ := id pr_A_a_3
    refine own_go (fun _ k => X133.arraylength hx (by rw [e133]; exact R136.1) (State.isArrayOf_alike hZ.alike R136.2.1) (g := (mkF m 8 #[.val (.ref a_1), .val (.int p_2), .val (.ref a_3), .val (.ref a_3), .unset, .unset, .unset] [(.ref a_3)])) rfl rfl (hb hby own_d6_8) _ k) ?_
    rw [len_of s136 q136]
    show own_Go _ _ _ _ T133 (mkF m 9 #[.val (.ref a_1), .val (.int p_2), .val (.ref a_3), .val (.ref a_3), .unset, .unset, .unset] [(.int (2 : Int32))])
    refine own_go (fun _ k => XS.istore X133.here hx rfl (hb hby own_d6_9) rfl (l' := #[.val (.ref a_1), .val (.int p_2), .val (.ref a_3), .val (.ref a_3), .val (.int (2 : Int32)), .unset, .unset]) rfl k) ?_
    show own_Go _ _ _ _ T133 (mkF m 11 #[.val (.ref a_1), .val (.int p_2), .val (.ref a_3), .val (.ref a_3), .val (.int (2 : Int32)), .unset, .unset] [])
    refine own_go (fun _ k => XS.iconst X133.here hx rfl (hb hby own_d6_11) k) ?_
    show own_Go _ _ _ _ T133 (mkF m 12 #[.val (.ref a_1), .val (.int p_2), .val (.ref a_3), .val (.ref a_3), .val (.int (2 : Int32)), .unset, .unset] [(.int (0 : Int32))])
    refine own_go (fun _ k => XS.istore X133.here hx rfl (hb hby own_d6_12) rfl (l' := #[.val (.ref a_1), .val (.int p_2), .val (.ref a_3), .val (.ref a_3), .val (.int (2 : Int32)), .val (.int (0 : Int32)), .unset]) rfl k) ?_
    show own_Go _ _ _ _ T133 (mkF m 14 #[.val (.ref a_1), .val (.int p_2), .val (.ref a_3), .val (.ref a_3), .val (.int (2 : Int32)), .val (.int (0 : Int32)), .unset] [])
    refine own_go (fun _ k => XS.iload X133.here hx rfl (hb hby own_d6_14) rfl k) ?_
    show own_Go _ _ _ _ T133 (mkF m 16 #[.val (.ref a_1), .val (.int p_2), .val (.ref a_3), .val (.ref a_3), .val (.int (2 : Int32)), .val (.int (0 : Int32)), .unset] [(.int (0 : Int32))])
    refine own_go (fun _ k => XS.iload X133.here hx rfl (hb hby own_d6_16) rfl k) ?_
    show own_Go _ _ _ _ T133 (mkF m 18 #[.val (.ref a_1), .val (.int p_2), .val (.ref a_3), .val (.ref a_3), .val (.int (2 : Int32)), .val (.int (0 : Int32)), .unset] [(.int (2 : Int32)), (.int (0 : Int32))])
    have hc137 : (0 : Int32) < (2 : Int32) := by decide
    refine own_go (fun _ k => XS.icmpNo X133.here hx rfl (hb hby own_d6_18) rfl (Jvm.Free.XT.ii_ge_f hc137) k) ?_
    show own_Go _ _ _ _ T133 (mkF m 21 #[.val (.ref a_1), .val (.int p_2), .val (.ref a_3), .val (.ref a_3), .val (.int (2 : Int32)), .val (.int (0 : Int32)), .unset] [])
    refine own_go (fun _ k => XS.aloadN X133.here hx rfl (hb hby own_d6_21) rfl rfl k) ?_
    show own_Go _ _ _ _ T133 (mkF m 22 #[.val (.ref a_1), .val (.int p_2), .val (.ref a_3), .val (.ref a_3), .val (.int (2 : Int32)), .val (.int (0 : Int32)), .unset] [(.ref a_3)])
    refine own_go (fun _ k => XS.iload X133.here hx rfl (hb hby own_d6_22) rfl k) ?_
    show own_Go _ _ _ _ T133 (mkF m 24 #[.val (.ref a_1), .val (.int p_2), .val (.ref a_3), .val (.ref a_3), .val (.int (2 : Int32)), .val (.int (0 : Int32)), .unset] [(.int (0 : Int32)), (.ref a_3)])
    obtain ⟨q138, c138, R138, s138, t138⟩ := id pr_A_a_3
    have hin138 : ¬ ((0 : Int32) < 0 ∨ c138.slots.size ≤ ((0 : Int32)).toNatClampNeg) := inb_of s138 ⟨by decide, by decide⟩
    have u138 : c138.slots[((0 : Int32)).toNatClampNeg]? = some (.int y0) := own_at (k := 0) t138 s138 hin138 (by decide) (rfl)
    refine own_go (fun _ k => X133.iaload hx (j := (0 : Int32)) (v := (.int y0)) (by rw [e133]; exact R138.1) (State.isArrayOf_alike hZ.alike R138.2.1) R138.2.2 hin138 u138 (g := (mkF m 24 #[.val (.ref a_1), .val (.int p_2), .val (.ref a_3), .val (.ref a_3), .val (.int (2 : Int32)), .val (.int (0 : Int32)), .unset] [(.int (0 : Int32)), (.ref a_3)])) rfl rfl (hb hby own_d6_24) _ k) ?_
    show own_Go _ _ _ _ T133 (mkF m 25 #[.val (.ref a_1), .val (.int p_2), .val (.ref a_3), .val (.ref a_3), .val (.int (2 : Int32)), .val (.int (0 : Int32)), .unset] [(.int y0)])
    refine own_go (fun _ k => XS.istore X133.here hx rfl (hb hby own_d6_25) rfl (l' := #[.val (.ref a_1), .val (.int p_2), .val (.ref a_3), .val (.ref a_3), .val (.int (2 : Int32)), .val (.int (0 : Int32)), .val (.int y0)]) rfl k) ?_
    show own_Go _ _ _ _ T133 (mkF m 27 #[.val (.ref a_1), .val (.int p_2), .val (.ref a_3), .val (.ref a_3), .val (.int (2 : Int32)), .val (.int (0 : Int32)), .val (.int y0)] [])
    refine own_go (fun _ k => XS.aloadN X133.here hx rfl (hb hby own_d6_27) rfl rfl k) ?_
    show own_Go _ _ _ _ T133 (mkF m 28 #[.val (.ref a_1), .val (.int p_2), .val (.ref a_3), .val (.ref a_3), .val (.int (2 : Int32)), .val (.int (0 : Int32)), .val (.int y0)] [(.ref a_1)])
    refine own_go (fun _ k => XS.iload X133.here hx rfl (hb hby own_d6_28) rfl k) ?_
    show own_Go _ _ _ _ T133 (mkF m 30 #[.val (.ref a_1), .val (.int p_2), .val (.ref a_3), .val (.ref a_3), .val (.int (2 : Int32)), .val (.int (0 : Int32)), .val (.int y0)] [(.int y0), (.ref a_1)])
    obtain ⟨cq139, kq139, q139a, q139b, q139c⟩ := isOf hZ e133 pr_E_a_1
    obtain ⟨_, _, ⟨T139, L139, k139, n139⟩, -, X139, hS139, gr139, ⟨Lc139, ⟨hQ139, hV139⟩, l139, y139, z139⟩, st139⟩ := X133.virtualBackS hx (y := (⟨"com/example/kalchas/kalchas/propositional/HornClauses", "checkVariable", "(I)V"⟩ : MethodName)) (z := (⟨"com/example/kalchas/kalchas/propositional/HornClauses", "checkVariable", "(I)V"⟩ : MethodName)) hown (mvT hZ w_37) (mvT hZ w_38) (notFace_of_selects (args := #[]) (mvT hZ w_40)) (mvT hZ w_40) (mvT hZ w_39) (by decide) (own_backL (PV := (own_LP Z "com/example/kalchas/kalchas/propositional/HornClauses" 178)) (QV := (fun _ => True)) (W := 0) (own_rm7w l Z a0 hw [] a_1 y0 (3 : Int32) h0 n0 (by omega) (show ¬ (y0 < 0) by first | assumption | omega | decide) (show y0 < (3 : Int32) by first | assumption | omega | decide) pr_F_a_1_variableCount) hZ w_41 w_10 (by decide) (by decide) (fun _ q => ⟨_, own_litW Li134 q⟩)) q139a q139c (g := (mkF m 30 #[.val (.ref a_1), .val (.int p_2), .val (.ref a_3), .val (.ref a_3), .val (.int (2 : Int32)), .val (.int (0 : Int32)), .val (.int y0)] [(.int y0), (.ref a_1)])) rfl (by rw [hml]; rfl) (Steps.refl _) (argsL := [(.int y0)]) (rest := []) (lenOf own_pd1 rfl) rfl (by show 2 * 0 + _ ≤ _; exact Nat.le_of_eq rfl) (hb hby own_d6_30) (fun _ _ => ⟨rfl, e133, (by show k133 + _ ≤ _; rw [y133]; decide), (by show n133 + _ ≤ _; rw [z133]; decide)⟩)
    dsimp only [Pt.U, Pt.locs, Pt.cells, Pt.slots] at X139 l139 y139 z139 st139 hQ139 hS139 gr139 hV139
    have y139 : k139 = 0 := own_addeq y139 (congrArg (fun q => q) y133) rfl
    have z139 : n139 = 0 := own_addeq z139 (congrArg (fun q => q) z133) rfl
    have Wn139 := hS139.1
    have Li140 := Li134.stays Wn139
    obtain ⟨X139, hS139, hZ, hown⟩ := rebS hS133 (n1 := T133.heap.size) (by rw [e133]; omega) X139 hS139 gr139 hZ hown
    obtain ⟨rfl, N139q, e139⟩ := hQ139
    have N139 : Fr n0 L139 := by rw [l139]; exact Fr.app N133 N139q
    have z141 : T139.heap.size = h0.size := congrArg Array.size e139
    refine own_go (fun _ k => st139.trans k) ?_
    show own_Go _ _ _ _ T139 (mkF m 33 #[.val (.ref a_1), .val (.int p_2), .val (.ref a_3), .val (.ref a_3), .val (.int (2 : Int32)), .val (.int (0 : Int32)), .val (.int y0)] [])
    refine own_go (fun _ k => XS.iinc X139.here hx rfl (hb hby own_d6_33) rfl (l' := #[.val (.ref a_1), .val (.int p_2), .val (.ref a_3), .val (.ref a_3), .val (.int (2 : Int32)), .val (.int (1 : Int32)), .val (.int y0)]) rfl k) ?_
    show own_Go _ _ _ _ T139 (mkF m 36 #[.val (.ref a_1), .val (.int p_2), .val (.ref a_3), .val (.ref a_3), .val (.int (2 : Int32)), .val (.int (1 : Int32)), .val (.int y0)] [])
    refine own_go (fun _ k => XS.goto X139.here hx rfl (pc0 := 36) (pc' := 14) rfl (hb hby own_d6_36) (by decide) (by decide) k) ?_
    show own_Go _ _ _ _ T139 (mkF m 14 #[.val (.ref a_1), .val (.int p_2), .val (.ref a_3), .val (.ref a_3), .val (.int (2 : Int32)), .val (.int (1 : Int32)), .val (.int y0)] [])
    refine own_go (fun _ k => XS.iload X139.here hx rfl (hb hby own_d6_14) rfl k) ?_
    show own_Go _ _ _ _ T139 (mkF m 16 #[.val (.ref a_1), .val (.int p_2), .val (.ref a_3), .val (.ref a_3), .val (.int (2 : Int32)), .val (.int (1 : Int32)), .val (.int y0)] [(.int (1 : Int32))])
    refine own_go (fun _ k => XS.iload X139.here hx rfl (hb hby own_d6_16) rfl k) ?_
    show own_Go _ _ _ _ T139 (mkF m 18 #[.val (.ref a_1), .val (.int p_2), .val (.ref a_3), .val (.ref a_3), .val (.int (2 : Int32)), .val (.int (1 : Int32)), .val (.int y0)] [(.int (2 : Int32)), (.int (1 : Int32))])
    have hc142 : (1 : Int32) < (2 : Int32) := by decide
    refine own_go (fun _ k => XS.icmpNo X139.here hx rfl (hb hby own_d6_18) rfl (Jvm.Free.XT.ii_ge_f hc142) k) ?_
    show own_Go _ _ _ _ T139 (mkF m 21 #[.val (.ref a_1), .val (.int p_2), .val (.ref a_3), .val (.ref a_3), .val (.int (2 : Int32)), .val (.int (1 : Int32)), .val (.int y0)] [])
    refine own_go (fun _ k => XS.aloadN X139.here hx rfl (hb hby own_d6_21) rfl rfl k) ?_
    show own_Go _ _ _ _ T139 (mkF m 22 #[.val (.ref a_1), .val (.int p_2), .val (.ref a_3), .val (.ref a_3), .val (.int (2 : Int32)), .val (.int (1 : Int32)), .val (.int y0)] [(.ref a_3)])
    refine own_go (fun _ k => XS.iload X139.here hx rfl (hb hby own_d6_22) rfl k) ?_
    show own_Go _ _ _ _ T139 (mkF m 24 #[.val (.ref a_1), .val (.int p_2), .val (.ref a_3), .val (.ref a_3), .val (.int (2 : Int32)), .val (.int (1 : Int32)), .val (.int y0)] [(.int (1 : Int32)), (.ref a_3)])
    obtain ⟨q143, c143, R143, s143, t143⟩ := id pr_A_a_3
    have hin143 : ¬ ((1 : Int32) < 0 ∨ c143.slots.size ≤ ((1 : Int32)).toNatClampNeg) := inb_of s143 ⟨by decide, by decide⟩
    have u143 : c143.slots[((1 : Int32)).toNatClampNeg]? = some (.int y1) := own_at (k := 1) t143 s143 hin143 (by decide) (rfl)
    refine own_go (fun _ k => X139.iaload hx (j := (1 : Int32)) (v := (.int y1)) (by rw [e139]; exact R143.1) (State.isArrayOf_alike hZ.alike R143.2.1) R143.2.2 hin143 u143 (g := (mkF m 24 #[.val (.ref a_1), .val (.int p_2), .val (.ref a_3), .val (.ref a_3), .val (.int (2 : Int32)), .val (.int (1 : Int32)), .val (.int y0)] [(.int (1 : Int32)), (.ref a_3)])) rfl rfl (hb hby own_d6_24) _ k) ?_
    show own_Go _ _ _ _ T139 (mkF m 25 #[.val (.ref a_1), .val (.int p_2), .val (.ref a_3), .val (.ref a_3), .val (.int (2 : Int32)), .val (.int (1 : Int32)), .val (.int y0)] [(.int y1)])
    refine own_go (fun _ k => XS.istore X139.here hx rfl (hb hby own_d6_25) rfl (l' := #[.val (.ref a_1), .val (.int p_2), .val (.ref a_3), .val (.ref a_3), .val (.int (2 : Int32)), .val (.int (1 : Int32)), .val (.int y1)]) rfl k) ?_
    show own_Go _ _ _ _ T139 (mkF m 27 #[.val (.ref a_1), .val (.int p_2), .val (.ref a_3), .val (.ref a_3), .val (.int (2 : Int32)), .val (.int (1 : Int32)), .val (.int y1)] [])
    refine own_go (fun _ k => XS.aloadN X139.here hx rfl (hb hby own_d6_27) rfl rfl k) ?_
    show own_Go _ _ _ _ T139 (mkF m 28 #[.val (.ref a_1), .val (.int p_2), .val (.ref a_3), .val (.ref a_3), .val (.int (2 : Int32)), .val (.int (1 : Int32)), .val (.int y1)] [(.ref a_1)])
    refine own_go (fun _ k => XS.iload X139.here hx rfl (hb hby own_d6_28) rfl k) ?_
    show own_Go _ _ _ _ T139 (mkF m 30 #[.val (.ref a_1), .val (.int p_2), .val (.ref a_3), .val (.ref a_3), .val (.int (2 : Int32)), .val (.int (1 : Int32)), .val (.int y1)] [(.int y1), (.ref a_1)])
    obtain ⟨cq144, kq144, q144a, q144b, q144c⟩ := isOf hZ e139 pr_E_a_1
    obtain ⟨_, _, ⟨T144, L144, k144, n144⟩, -, X144, hS144, gr144, ⟨Lc144, ⟨hQ144, hV144⟩, l144, y144, z144⟩, st144⟩ := X139.virtualBackS hx (y := (⟨"com/example/kalchas/kalchas/propositional/HornClauses", "checkVariable", "(I)V"⟩ : MethodName)) (z := (⟨"com/example/kalchas/kalchas/propositional/HornClauses", "checkVariable", "(I)V"⟩ : MethodName)) hown (mvT hZ w_37) (mvT hZ w_38) (notFace_of_selects (args := #[]) (mvT hZ w_40)) (mvT hZ w_40) (mvT hZ w_39) (by decide) (own_backL (PV := (own_LP Z "com/example/kalchas/kalchas/propositional/HornClauses" 178)) (QV := (fun _ => True)) (W := 0) (own_rm7w l Z a0 hw [] a_1 y1 (3 : Int32) h0 n0 (by omega) (show ¬ (y1 < 0) by first | assumption | omega | decide) (show y1 < (3 : Int32) by first | assumption | omega | decide) pr_F_a_1_variableCount) hZ w_41 w_10 (by decide) (by decide) (fun _ q => ⟨_, own_litW Li140 q⟩)) q144a q144c (g := (mkF m 30 #[.val (.ref a_1), .val (.int p_2), .val (.ref a_3), .val (.ref a_3), .val (.int (2 : Int32)), .val (.int (1 : Int32)), .val (.int y1)] [(.int y1), (.ref a_1)])) rfl (by rw [hml]; rfl) (Steps.refl _) (argsL := [(.int y1)]) (rest := []) (lenOf own_pd1 rfl) rfl (by show 2 * 0 + _ ≤ _; exact Nat.le_of_eq rfl) (hb hby own_d6_30) (fun _ _ => ⟨rfl, e139, (by show k139 + _ ≤ _; rw [y139]; decide), (by show n139 + _ ≤ _; rw [z139]; decide)⟩)
    dsimp only [Pt.U, Pt.locs, Pt.cells, Pt.slots] at X144 l144 y144 z144 st144 hQ144 hS144 gr144 hV144
    have y144 : k144 = 0 := own_addeq y144 (congrArg (fun q => q) y139) rfl
    have z144 : n144 = 0 := own_addeq z144 (congrArg (fun q => q) z139) rfl
    have Wn144 := hS144.1
    have Li145 := Li140.stays Wn144
    obtain ⟨X144, hS144, hZ, hown⟩ := rebS hS139 (n1 := T139.heap.size) (by rw [e139]; omega) X144 hS144 gr144 hZ hown
    obtain ⟨rfl, N144q, e144⟩ := hQ144
    have N144 : Fr n0 L144 := by rw [l144]; exact Fr.app N139 N144q
    have z146 : T144.heap.size = h0.size := congrArg Array.size e144
    refine own_go (fun _ k => st144.trans k) ?_
    show own_Go _ _ _ _ T144 (mkF m 33 #[.val (.ref a_1), .val (.int p_2), .val (.ref a_3), .val (.ref a_3), .val (.int (2 : Int32)), .val (.int (1 : Int32)), .val (.int y1)] [])
    refine own_go (fun _ k => XS.iinc X144.here hx rfl (hb hby own_d6_33) rfl (l' := #[.val (.ref a_1), .val (.int p_2), .val (.ref a_3), .val (.ref a_3), .val (.int (2 : Int32)), .val (.int (2 : Int32)), .val (.int y1)]) rfl k) ?_
    show own_Go _ _ _ _ T144 (mkF m 36 #[.val (.ref a_1), .val (.int p_2), .val (.ref a_3), .val (.ref a_3), .val (.int (2 : Int32)), .val (.int (2 : Int32)), .val (.int y1)] [])
    refine own_go (fun _ k => XS.goto X144.here hx rfl (pc0 := 36) (pc' := 14) rfl (hb hby own_d6_36) (by decide) (by decide) k) ?_
    show own_Go _ _ _ _ T144 (mkF m 14 #[.val (.ref a_1), .val (.int p_2), .val (.ref a_3), .val (.ref a_3), .val (.int (2 : Int32)), .val (.int (2 : Int32)), .val (.int y1)] [])
    refine own_go (fun _ k => XS.iload X144.here hx rfl (hb hby own_d6_14) rfl k) ?_
    show own_Go _ _ _ _ T144 (mkF m 16 #[.val (.ref a_1), .val (.int p_2), .val (.ref a_3), .val (.ref a_3), .val (.int (2 : Int32)), .val (.int (2 : Int32)), .val (.int y1)] [(.int (2 : Int32))])
    refine own_go (fun _ k => XS.iload X144.here hx rfl (hb hby own_d6_16) rfl k) ?_
    show own_Go _ _ _ _ T144 (mkF m 18 #[.val (.ref a_1), .val (.int p_2), .val (.ref a_3), .val (.ref a_3), .val (.int (2 : Int32)), .val (.int (2 : Int32)), .val (.int y1)] [(.int (2 : Int32)), (.int (2 : Int32))])
    have hc147 : ¬ ((2 : Int32) < (2 : Int32)) := by decide
    refine own_go (fun _ k => XS.icmpYes X144.here hx rfl (pc0 := 18) (pc' := 39) rfl (hb hby own_d6_18) rfl (Jvm.Free.XT.ii_ge_t hc147) (by decide) (by decide) k) ?_
    show own_Go _ _ _ _ T144 (mkF m 39 #[.val (.ref a_1), .val (.int p_2), .val (.ref a_3), .val (.ref a_3), .val (.int (2 : Int32)), .val (.int (2 : Int32)), .val (.int y1)] [])
    refine own_go (fun _ k => XS.aloadN X144.here hx rfl (hb hby own_d6_39) rfl rfl k) ?_
    show own_Go _ _ _ _ T144 (mkF m 40 #[.val (.ref a_1), .val (.int p_2), .val (.ref a_3), .val (.ref a_3), .val (.int (2 : Int32)), .val (.int (2 : Int32)), .val (.int y1)] [(.ref a_1)])
    obtain ⟨T148, X148, e148, st148⟩ := getF X144 hx hZ hown (host := "") (Or.inl w_53) Via.refl e144 pr_F_a_1_clauseCount (g := (mkF m 40 #[.val (.ref a_1), .val (.int p_2), .val (.ref a_3), .val (.ref a_3), .val (.int (2 : Int32)), .val (.int (2 : Int32)), .val (.int y1)] [(.ref a_1)])) rfl rfl (hb hby own_d6_40)
    refine own_go (fun _ k => st148 _ k) ?_
    show own_Go _ _ _ _ T148 (mkF m 43 #[.val (.ref a_1), .val (.int p_2), .val (.ref a_3), .val (.ref a_3), .val (.int (2 : Int32)), .val (.int (2 : Int32)), .val (.int y1)] [(.int cn)])
    refine own_go (fun _ k => XS.aloadN X148.here hx rfl (hb hby own_d6_43) rfl rfl k) ?_
    show own_Go _ _ _ _ T148 (mkF m 44 #[.val (.ref a_1), .val (.int p_2), .val (.ref a_3), .val (.ref a_3), .val (.int (2 : Int32)), .val (.int (2 : Int32)), .val (.int y1)] [(.ref a_1), (.int cn)])
    obtain ⟨T149, X149, e149, st149⟩ := getF X148 hx hZ hown (host := "") (Or.inl w_17) Via.refl e148 pr_F_a_1_heads (g := (mkF m 44 #[.val (.ref a_1), .val (.int p_2), .val (.ref a_3), .val (.ref a_3), .val (.int (2 : Int32)), .val (.int (2 : Int32)), .val (.int y1)] [(.ref a_1), (.int cn)])) rfl rfl (hb hby own_d6_44)
    refine own_go (fun _ k => st149 _ k) ?_
    show own_Go _ _ _ _ T149 (mkF m 47 #[.val (.ref a_1), .val (.int p_2), .val (.ref a_3), .val (.ref a_3), .val (.int (2 : Int32)), .val (.int (2 : Int32)), .val (.int y1)] [(.ref wh), (.int cn)])
    obtain ⟨q150, c150, R150, s150, t150⟩ := id pr_A_wh
    refine own_go (fun _ k => X149.arraylength hx (by rw [e149]; exact R150.1) (State.isArrayOf_alike hZ.alike R150.2.1) (g := (mkF m 47 #[.val (.ref a_1), .val (.int p_2), .val (.ref a_3), .val (.ref a_3), .val (.int (2 : Int32)), .val (.int (2 : Int32)), .val (.int y1)] [(.ref wh), (.int cn)])) rfl rfl (hb hby own_d6_47) _ k) ?_
    rw [len_of s150 q150]
    show own_Go _ _ _ _ T149 (mkF m 48 #[.val (.ref a_1), .val (.int p_2), .val (.ref a_3), .val (.ref a_3), .val (.int (2 : Int32)), .val (.int (2 : Int32)), .val (.int y1)] [(.int (64 : Int32)), (.int cn)])
    have hc151 : ¬ (cn = (64 : Int32)) := own_t6_1_0 cn hk
    refine own_go (fun _ k => XS.icmpYes X149.here hx rfl (pc0 := 48) (pc' := 85) rfl (hb hby own_d6_48) rfl (Jvm.Free.XT.ii_ne_t hc151) (by decide) (by decide) k) ?_
    show own_Go _ _ _ _ T149 (mkF m 85 #[.val (.ref a_1), .val (.int p_2), .val (.ref a_3), .val (.ref a_3), .val (.int (2 : Int32)), .val (.int (2 : Int32)), .val (.int y1)] [])
    refine own_go (fun _ k => XS.aloadN X149.here hx rfl (hb hby own_d6_85) rfl rfl k) ?_
    show own_Go _ _ _ _ T149 (mkF m 86 #[.val (.ref a_1), .val (.int p_2), .val (.ref a_3), .val (.ref a_3), .val (.int (2 : Int32)), .val (.int (2 : Int32)), .val (.int y1)] [(.ref a_1)])
    obtain ⟨T152, X152, e152, st152⟩ := getF X149 hx hZ hown (host := "") (Or.inl w_19) Via.refl e149 pr_F_a_1_bodyStarts (g := (mkF m 86 #[.val (.ref a_1), .val (.int p_2), .val (.ref a_3), .val (.ref a_3), .val (.int (2 : Int32)), .val (.int (2 : Int32)), .val (.int y1)] [(.ref a_1)])) rfl rfl (hb hby own_d6_86)
    refine own_go (fun _ k => st152 _ k) ?_
    show own_Go _ _ _ _ T152 (mkF m 89 #[.val (.ref a_1), .val (.int p_2), .val (.ref a_3), .val (.ref a_3), .val (.int (2 : Int32)), .val (.int (2 : Int32)), .val (.int y1)] [(.ref wst)])
    refine own_go (fun _ k => XS.aloadN X152.here hx rfl (hb hby own_d6_89) rfl rfl k) ?_
    show own_Go _ _ _ _ T152 (mkF m 90 #[.val (.ref a_1), .val (.int p_2), .val (.ref a_3), .val (.ref a_3), .val (.int (2 : Int32)), .val (.int (2 : Int32)), .val (.int y1)] [(.ref a_1), (.ref wst)])
    obtain ⟨T153, X153, e153, st153⟩ := getF X152 hx hZ hown (host := "") (Or.inl w_53) Via.refl e152 pr_F_a_1_clauseCount (g := (mkF m 90 #[.val (.ref a_1), .val (.int p_2), .val (.ref a_3), .val (.ref a_3), .val (.int (2 : Int32)), .val (.int (2 : Int32)), .val (.int y1)] [(.ref a_1), (.ref wst)])) rfl rfl (hb hby own_d6_90)
    refine own_go (fun _ k => st153 _ k) ?_
    show own_Go _ _ _ _ T153 (mkF m 93 #[.val (.ref a_1), .val (.int p_2), .val (.ref a_3), .val (.ref a_3), .val (.int (2 : Int32)), .val (.int (2 : Int32)), .val (.int y1)] [(.int cn), (.ref wst)])
    obtain ⟨q154, c154, R154, s154, t154⟩ := id pr_A_wst
    have hin154 : ¬ (cn < 0 ∨ c154.slots.size ≤ (cn).toNatClampNeg) := inb_of s154 (own_t6_1_1 cn hk hc151)
    have u154 : c154.slots[(cn).toNatClampNeg]? = some (.int bs) := own_at (k := (cn).toNatClampNeg) t154 s154 hin154 rfl (hgs)
    refine own_go (fun _ k => X153.iaload hx (j := cn) (v := (.int bs)) (by rw [e153]; exact R154.1) (State.isArrayOf_alike hZ.alike R154.2.1) R154.2.2 hin154 u154 (g := (mkF m 93 #[.val (.ref a_1), .val (.int p_2), .val (.ref a_3), .val (.ref a_3), .val (.int (2 : Int32)), .val (.int (2 : Int32)), .val (.int y1)] [(.int cn), (.ref wst)])) rfl rfl (hb hby own_d6_93) _ k) ?_
    show own_Go _ _ _ _ T153 (mkF m 94 #[.val (.ref a_1), .val (.int p_2), .val (.ref a_3), .val (.ref a_3), .val (.int (2 : Int32)), .val (.int (2 : Int32)), .val (.int y1)] [(.int bs)])
    refine own_go (fun _ k => XS.istoreN X153.here hx rfl (hb hby own_d6_94) rfl (l' := #[.val (.ref a_1), .val (.int p_2), .val (.ref a_3), .val (.int bs), .val (.int (2 : Int32)), .val (.int (2 : Int32)), .val (.int y1)]) rfl k) ?_
    show own_Go _ _ _ _ T153 (mkF m 95 #[.val (.ref a_1), .val (.int p_2), .val (.ref a_3), .val (.int bs), .val (.int (2 : Int32)), .val (.int (2 : Int32)), .val (.int y1)] [])
    refine own_go (fun _ k => XS.iloadN X153.here hx rfl (hb hby own_d6_95) rfl k) ?_
    show own_Go _ _ _ _ T153 (mkF m 96 #[.val (.ref a_1), .val (.int p_2), .val (.ref a_3), .val (.int bs), .val (.int (2 : Int32)), .val (.int (2 : Int32)), .val (.int y1)] [(.int bs)])
    refine own_go (fun _ k => XS.aloadN X153.here hx rfl (hb hby own_d6_96) rfl rfl k) ?_
    show own_Go _ _ _ _ T153 (mkF m 97 #[.val (.ref a_1), .val (.int p_2), .val (.ref a_3), .val (.int bs), .val (.int (2 : Int32)), .val (.int (2 : Int32)), .val (.int y1)] [(.ref a_3), (.int bs)])
    obtain ⟨q155, c155, R155, s155, t155⟩ := id pr_A_a_3
    refine own_go (fun _ k => X153.arraylength hx (by rw [e153]; exact R155.1) (State.isArrayOf_alike hZ.alike R155.2.1) (g := (mkF m 97 #[.val (.ref a_1), .val (.int p_2), .val (.ref a_3), .val (.int bs), .val (.int (2 : Int32)), .val (.int (2 : Int32)), .val (.int y1)] [(.ref a_3), (.int bs)])) rfl rfl (hb hby own_d6_97) _ k) ?_
    rw [len_of s155 q155]
    show own_Go _ _ _ _ T153 (mkF m 98 #[.val (.ref a_1), .val (.int p_2), .val (.ref a_3), .val (.int bs), .val (.int (2 : Int32)), .val (.int (2 : Int32)), .val (.int y1)] [(.int (2 : Int32)), (.int bs)])
    refine own_go (fun _ k => XS.iadd X153.here hx rfl (hb hby own_d6_98) rfl k) ?_
    show own_Go _ _ _ _ T153 (mkF m 99 #[.val (.ref a_1), .val (.int p_2), .val (.ref a_3), .val (.int bs), .val (.int (2 : Int32)), .val (.int (2 : Int32)), .val (.int y1)] [(.int (bs + (2 : Int32)))])
    refine own_go (fun _ k => XS.aloadN X153.here hx rfl (hb hby own_d6_99) rfl rfl k) ?_
    show own_Go _ _ _ _ T153 (mkF m 100 #[.val (.ref a_1), .val (.int p_2), .val (.ref a_3), .val (.int bs), .val (.int (2 : Int32)), .val (.int (2 : Int32)), .val (.int y1)] [(.ref a_1), (.int (bs + (2 : Int32)))])
    obtain ⟨T156, X156, e156, st156⟩ := getF X153 hx hZ hown (host := "") (Or.inl w_21) Via.refl e153 pr_F_a_1_bodies (g := (mkF m 100 #[.val (.ref a_1), .val (.int p_2), .val (.ref a_3), .val (.int bs), .val (.int (2 : Int32)), .val (.int (2 : Int32)), .val (.int y1)] [(.ref a_1), (.int (bs + (2 : Int32)))])) rfl rfl (hb hby own_d6_100)
    refine own_go (fun _ k => st156 _ k) ?_
    show own_Go _ _ _ _ T156 (mkF m 103 #[.val (.ref a_1), .val (.int p_2), .val (.ref a_3), .val (.int bs), .val (.int (2 : Int32)), .val (.int (2 : Int32)), .val (.int y1)] [(.ref wb), (.int (bs + (2 : Int32)))])
    obtain ⟨q157, c157, R157, s157, t157⟩ := id pr_A_wb
    refine own_go (fun _ k => X156.arraylength hx (by rw [e156]; exact R157.1) (State.isArrayOf_alike hZ.alike R157.2.1) (g := (mkF m 103 #[.val (.ref a_1), .val (.int p_2), .val (.ref a_3), .val (.int bs), .val (.int (2 : Int32)), .val (.int (2 : Int32)), .val (.int y1)] [(.ref wb), (.int (bs + (2 : Int32)))])) rfl rfl (hb hby own_d6_103) _ k) ?_
    rw [len_of s157 q157]
    show own_Go _ _ _ _ T156 (mkF m 104 #[.val (.ref a_1), .val (.int p_2), .val (.ref a_3), .val (.int bs), .val (.int (2 : Int32)), .val (.int (2 : Int32)), .val (.int y1)] [(.int (64 : Int32)), (.int (bs + (2 : Int32)))])
    have hc158 : ¬ ((64 : Int32) < (bs + (2 : Int32))) := own_t6_0_6 bs hbs
    refine own_go (fun _ k => XS.icmpYes X156.here hx rfl (pc0 := 104) (pc' := 132) rfl (hb hby own_d6_104) rfl (Jvm.Free.XT.ii_le_t hc158) (by decide) (by decide) k) ?_
    show own_Go _ _ _ _ T156 (mkF m 132 #[.val (.ref a_1), .val (.int p_2), .val (.ref a_3), .val (.int bs), .val (.int (2 : Int32)), .val (.int (2 : Int32)), .val (.int y1)] [])
    refine own_go (fun _ k => XS.aloadN X156.here hx rfl (hb hby own_d6_132) rfl rfl k) ?_
    show own_Go _ _ _ _ T156 (mkF m 133 #[.val (.ref a_1), .val (.int p_2), .val (.ref a_3), .val (.int bs), .val (.int (2 : Int32)), .val (.int (2 : Int32)), .val (.int y1)] [(.ref a_3)])
    refine own_go (fun _ k => XS.iconst X156.here hx rfl (hb hby own_d6_133) k) ?_
    show own_Go _ _ _ _ T156 (mkF m 134 #[.val (.ref a_1), .val (.int p_2), .val (.ref a_3), .val (.int bs), .val (.int (2 : Int32)), .val (.int (2 : Int32)), .val (.int y1)] [(.int (0 : Int32)), (.ref a_3)])
    refine own_go (fun _ k => XS.aloadN X156.here hx rfl (hb hby own_d6_134) rfl rfl k) ?_
    show own_Go _ _ _ _ T156 (mkF m 135 #[.val (.ref a_1), .val (.int p_2), .val (.ref a_3), .val (.int bs), .val (.int (2 : Int32)), .val (.int (2 : Int32)), .val (.int y1)] [(.ref a_1), (.int (0 : Int32)), (.ref a_3)])
    obtain ⟨T159, X159, e159, st159⟩ := getF X156 hx hZ hown (host := "") (Or.inl w_21) Via.refl e156 pr_F_a_1_bodies (g := (mkF m 135 #[.val (.ref a_1), .val (.int p_2), .val (.ref a_3), .val (.int bs), .val (.int (2 : Int32)), .val (.int (2 : Int32)), .val (.int y1)] [(.ref a_1), (.int (0 : Int32)), (.ref a_3)])) rfl rfl (hb hby own_d6_135)
    refine own_go (fun _ k => st159 _ k) ?_
    show own_Go _ _ _ _ T159 (mkF m 138 #[.val (.ref a_1), .val (.int p_2), .val (.ref a_3), .val (.int bs), .val (.int (2 : Int32)), .val (.int (2 : Int32)), .val (.int y1)] [(.ref wb), (.int (0 : Int32)), (.ref a_3)])
    refine own_go (fun _ k => XS.iloadN X159.here hx rfl (hb hby own_d6_138) rfl k) ?_
    show own_Go _ _ _ _ T159 (mkF m 139 #[.val (.ref a_1), .val (.int p_2), .val (.ref a_3), .val (.int bs), .val (.int (2 : Int32)), .val (.int (2 : Int32)), .val (.int y1)] [(.int bs), (.ref wb), (.int (0 : Int32)), (.ref a_3)])
    refine own_go (fun _ k => XS.aloadN X159.here hx rfl (hb hby own_d6_139) rfl rfl k) ?_
    show own_Go _ _ _ _ T159 (mkF m 140 #[.val (.ref a_1), .val (.int p_2), .val (.ref a_3), .val (.int bs), .val (.int (2 : Int32)), .val (.int (2 : Int32)), .val (.int y1)] [(.ref a_3), (.int bs), (.ref wb), (.int (0 : Int32)), (.ref a_3)])
    obtain ⟨q160, c160, R160, s160, t160⟩ := id pr_A_a_3
    refine own_go (fun _ k => X159.arraylength hx (by rw [e159]; exact R160.1) (State.isArrayOf_alike hZ.alike R160.2.1) (g := (mkF m 140 #[.val (.ref a_1), .val (.int p_2), .val (.ref a_3), .val (.int bs), .val (.int (2 : Int32)), .val (.int (2 : Int32)), .val (.int y1)] [(.ref a_3), (.int bs), (.ref wb), (.int (0 : Int32)), (.ref a_3)])) rfl rfl (hb hby own_d6_140) _ k) ?_
    rw [len_of s160 q160]
    show own_Go _ _ _ _ T159 (mkF m 141 #[.val (.ref a_1), .val (.int p_2), .val (.ref a_3), .val (.int bs), .val (.int (2 : Int32)), .val (.int (2 : Int32)), .val (.int y1)] [(.int (2 : Int32)), (.int bs), (.ref wb), (.int (0 : Int32)), (.ref a_3)])
    obtain ⟨T161, h161, L161, X161, e161, N161, Kq161, V161, st161⟩ := own_cp X159 hx hZ hown w_55 w_58 w_56 w_57 e159 pr_A_a_3 pr_A_wb (fun _ => rfl) hfb (by decide) (own_t6_0_7 bs hbs hc158) (by decide) (by decide) (own_cl5 (own_t6_0_8 bs hbs hc158)) N144 (by omega) (g := (mkF m 141 #[.val (.ref a_1), .val (.int p_2), .val (.ref a_3), .val (.int bs), .val (.int (2 : Int32)), .val (.int (2 : Int32)), .val (.int y1)] [(.int (2 : Int32)), (.int bs), (.ref wb), (.int (0 : Int32)), (.ref a_3)])) rfl (by rw [hml]; rfl) rfl (hb hby own_d6_141) (by decide) (W := 0) (by show 2 * 0 + _ ≤ _; exact Nat.le_of_eq rfl) (by decide)
    have z162 := Kq161.1
    have K161 : Keep h0 h161 [a_1, wh, wst, wb] := K0.trans Kq161 (allS (Or.inl (List.mem_of_getElem? (i := 3) rfl)) all0)
    refine own_go (fun _ k => st161 _ k) ?_
    show own_Go _ _ _ _ T161 (mkF m 144 #[.val (.ref a_1), .val (.int p_2), .val (.ref a_3), .val (.int bs), .val (.int (2 : Int32)), .val (.int (2 : Int32)), .val (.int y1)] [])
    refine own_go (fun _ k => XS.aloadN X161.here hx rfl (hb hby own_d6_144) rfl rfl k) ?_
    show own_Go _ _ _ _ T161 (mkF m 145 #[.val (.ref a_1), .val (.int p_2), .val (.ref a_3), .val (.int bs), .val (.int (2 : Int32)), .val (.int (2 : Int32)), .val (.int y1)] [(.ref a_1)])
    have f163 : Fld Z h161 a_1 "com/example/kalchas/kalchas/propositional/HornClauses" "heads" "[I" (.ref wh) := (pr_F_a_1_heads.keep Kq161 (ninS (own_ne (by omega)) nin0))
    obtain ⟨T164, X164, e164, st164⟩ := getF X161 hx hZ hown (host := "") (Or.inl w_17) Via.refl e161 f163 (g := (mkF m 145 #[.val (.ref a_1), .val (.int p_2), .val (.ref a_3), .val (.int bs), .val (.int (2 : Int32)), .val (.int (2 : Int32)), .val (.int y1)] [(.ref a_1)])) rfl rfl (hb hby own_d6_145)
    refine own_go (fun _ k => st164 _ k) ?_
    show own_Go _ _ _ _ T164 (mkF m 148 #[.val (.ref a_1), .val (.int p_2), .val (.ref a_3), .val (.int bs), .val (.int (2 : Int32)), .val (.int (2 : Int32)), .val (.int y1)] [(.ref wh)])
    refine own_go (fun _ k => XS.aloadN X164.here hx rfl (hb hby own_d6_148) rfl rfl k) ?_
    show own_Go _ _ _ _ T164 (mkF m 149 #[.val (.ref a_1), .val (.int p_2), .val (.ref a_3), .val (.int bs), .val (.int (2 : Int32)), .val (.int (2 : Int32)), .val (.int y1)] [(.ref a_1), (.ref wh)])
    have f165 : Fld Z h161 a_1 "com/example/kalchas/kalchas/propositional/HornClauses" "clauseCount" "I" (.int cn) := (pr_F_a_1_clauseCount.keep Kq161 (ninS (own_ne (by omega)) nin0))
    obtain ⟨T166, X166, e166, st166⟩ := getF X164 hx hZ hown (host := "") (Or.inl w_53) Via.refl e164 f165 (g := (mkF m 149 #[.val (.ref a_1), .val (.int p_2), .val (.ref a_3), .val (.int bs), .val (.int (2 : Int32)), .val (.int (2 : Int32)), .val (.int y1)] [(.ref a_1), (.ref wh)])) rfl rfl (hb hby own_d6_149)
    refine own_go (fun _ k => st166 _ k) ?_
    show own_Go _ _ _ _ T166 (mkF m 152 #[.val (.ref a_1), .val (.int p_2), .val (.ref a_3), .val (.int bs), .val (.int (2 : Int32)), .val (.int (2 : Int32)), .val (.int y1)] [(.int cn), (.ref wh)])
    refine own_go (fun _ k => XS.iloadN X166.here hx rfl (hb hby own_d6_152) rfl k) ?_
    show own_Go _ _ _ _ T166 (mkF m 153 #[.val (.ref a_1), .val (.int p_2), .val (.ref a_3), .val (.int bs), .val (.int (2 : Int32)), .val (.int (2 : Int32)), .val (.int y1)] [(.int p_2), (.int cn), (.ref wh)])
    have f167 : own_AV Z h161 wh .int (64 : Int32) gh := (pr_A_wh.keep Kq161 (ninS (own_ne (by omega)) nin0))
    obtain ⟨q168, c168, R168, s168, t168⟩ := id f167
    have hin168 : ¬ (cn < 0 ∨ c168.slots.size ≤ (cn).toNatClampNeg) := inb_of s168 (own_t6_1_2 cn hk hc151)
    obtain ⟨T169, h169, X169, e169, W169, st169⟩ := stI X166 hx hZ e166 R168 (j := cn) hin168 (g := (mkF m 153 #[.val (.ref a_1), .val (.int p_2), .val (.ref a_3), .val (.int bs), .val (.int (2 : Int32)), .val (.int (2 : Int32)), .val (.int y1)] [(.int p_2), (.int cn), (.ref wh)])) rfl rfl (hb hby own_d6_153)
    have V169 : own_AV Z h169 wh .int (64 : Int32) (own_upd gh (cn).toNatClampNeg (.int p_2)) := own_AV.set (k := (cn).toNatClampNeg) f167 W169 rfl
    have z170 := W169.size
    have K169 : Keep h0 h169 [a_1, wh, wst, wb] := K161.wr W169 (Or.inl (List.mem_of_getElem? (i := 1) rfl))
    have N169 := Fr.snoc X169 N161 (by omega : n0 ≤ wh)
    refine own_go (fun _ k => st169 _ k) ?_
    show own_Go _ _ _ _ T169 (mkF m 154 #[.val (.ref a_1), .val (.int p_2), .val (.ref a_3), .val (.int bs), .val (.int (2 : Int32)), .val (.int (2 : Int32)), .val (.int y1)] [])
    refine own_go (fun _ k => XS.aloadN X169.here hx rfl (hb hby own_d6_154) rfl rfl k) ?_
    show own_Go _ _ _ _ T169 (mkF m 155 #[.val (.ref a_1), .val (.int p_2), .val (.ref a_3), .val (.int bs), .val (.int (2 : Int32)), .val (.int (2 : Int32)), .val (.int y1)] [(.ref a_1)])
    have f171 : Fld Z h169 a_1 "com/example/kalchas/kalchas/propositional/HornClauses" "bodyStarts" "[I" (.ref wst) := ((pr_F_a_1_bodyStarts.keep Kq161 (ninS (own_ne (by omega)) nin0)).other W169 (Or.inl (own_ne (by omega))))
    obtain ⟨T172, X172, e172, st172⟩ := getF X169 hx hZ hown (host := "") (Or.inl w_19) Via.refl e169 f171 (g := (mkF m 155 #[.val (.ref a_1), .val (.int p_2), .val (.ref a_3), .val (.int bs), .val (.int (2 : Int32)), .val (.int (2 : Int32)), .val (.int y1)] [(.ref a_1)])) rfl rfl (hb hby own_d6_155)
    refine own_go (fun _ k => st172 _ k) ?_
    show own_Go _ _ _ _ T172 (mkF m 158 #[.val (.ref a_1), .val (.int p_2), .val (.ref a_3), .val (.int bs), .val (.int (2 : Int32)), .val (.int (2 : Int32)), .val (.int y1)] [(.ref wst)])
    refine own_go (fun _ k => XS.aloadN X172.here hx rfl (hb hby own_d6_158) rfl rfl k) ?_
    show own_Go _ _ _ _ T172 (mkF m 159 #[.val (.ref a_1), .val (.int p_2), .val (.ref a_3), .val (.int bs), .val (.int (2 : Int32)), .val (.int (2 : Int32)), .val (.int y1)] [(.ref a_1), (.ref wst)])
    have f173 : Fld Z h169 a_1 "com/example/kalchas/kalchas/propositional/HornClauses" "clauseCount" "I" (.int cn) := (f165.other W169 (Or.inl (own_ne (by omega))))
    obtain ⟨T174, X174, e174, st174⟩ := getF X172 hx hZ hown (host := "") (Or.inl w_53) Via.refl e172 f173 (g := (mkF m 159 #[.val (.ref a_1), .val (.int p_2), .val (.ref a_3), .val (.int bs), .val (.int (2 : Int32)), .val (.int (2 : Int32)), .val (.int y1)] [(.ref a_1), (.ref wst)])) rfl rfl (hb hby own_d6_159)
    refine own_go (fun _ k => st174 _ k) ?_
    show own_Go _ _ _ _ T174 (mkF m 162 #[.val (.ref a_1), .val (.int p_2), .val (.ref a_3), .val (.int bs), .val (.int (2 : Int32)), .val (.int (2 : Int32)), .val (.int y1)] [(.int cn), (.ref wst)])
    refine own_go (fun _ k => XS.iconst X174.here hx rfl (hb hby own_d6_162) k) ?_
    show own_Go _ _ _ _ T174 (mkF m 163 #[.val (.ref a_1), .val (.int p_2), .val (.ref a_3), .val (.int bs), .val (.int (2 : Int32)), .val (.int (2 : Int32)), .val (.int y1)] [(.int (1 : Int32)), (.int cn), (.ref wst)])
    refine own_go (fun _ k => XS.iadd X174.here hx rfl (hb hby own_d6_163) rfl k) ?_
    show own_Go _ _ _ _ T174 (mkF m 164 #[.val (.ref a_1), .val (.int p_2), .val (.ref a_3), .val (.int bs), .val (.int (2 : Int32)), .val (.int (2 : Int32)), .val (.int y1)] [(.int (cn + (1 : Int32))), (.ref wst)])
    refine own_go (fun _ k => XS.iloadN X174.here hx rfl (hb hby own_d6_164) rfl k) ?_
    show own_Go _ _ _ _ T174 (mkF m 165 #[.val (.ref a_1), .val (.int p_2), .val (.ref a_3), .val (.int bs), .val (.int (2 : Int32)), .val (.int (2 : Int32)), .val (.int y1)] [(.int bs), (.int (cn + (1 : Int32))), (.ref wst)])
    refine own_go (fun _ k => XS.aloadN X174.here hx rfl (hb hby own_d6_165) rfl rfl k) ?_
    show own_Go _ _ _ _ T174 (mkF m 166 #[.val (.ref a_1), .val (.int p_2), .val (.ref a_3), .val (.int bs), .val (.int (2 : Int32)), .val (.int (2 : Int32)), .val (.int y1)] [(.ref a_3), (.int bs), (.int (cn + (1 : Int32))), (.ref wst)])
    have f175 : own_AV Z h169 a_3 .int (2 : Int32) (own_n3 y0 y1 y2) := ((pr_A_a_3.keep Kq161 (ninS (own_ne (by omega)) nin0)).other W169 (own_ne (by omega)))
    obtain ⟨q176, c176, R176, s176, t176⟩ := id f175
    refine own_go (fun _ k => X174.arraylength hx (by rw [e174]; exact R176.1) (State.isArrayOf_alike hZ.alike R176.2.1) (g := (mkF m 166 #[.val (.ref a_1), .val (.int p_2), .val (.ref a_3), .val (.int bs), .val (.int (2 : Int32)), .val (.int (2 : Int32)), .val (.int y1)] [(.ref a_3), (.int bs), (.int (cn + (1 : Int32))), (.ref wst)])) rfl rfl (hb hby own_d6_166) _ k) ?_
    rw [len_of s176 q176]
    show own_Go _ _ _ _ T174 (mkF m 167 #[.val (.ref a_1), .val (.int p_2), .val (.ref a_3), .val (.int bs), .val (.int (2 : Int32)), .val (.int (2 : Int32)), .val (.int y1)] [(.int (2 : Int32)), (.int bs), (.int (cn + (1 : Int32))), (.ref wst)])
    refine own_go (fun _ k => XS.iadd X174.here hx rfl (hb hby own_d6_167) rfl k) ?_
    show own_Go _ _ _ _ T174 (mkF m 168 #[.val (.ref a_1), .val (.int p_2), .val (.ref a_3), .val (.int bs), .val (.int (2 : Int32)), .val (.int (2 : Int32)), .val (.int y1)] [(.int (bs + (2 : Int32))), (.int (cn + (1 : Int32))), (.ref wst)])
    have f177 : own_AV Z h169 wst .int (65 : Int32) gs := ((pr_A_wst.keep Kq161 (ninS (own_ne (by omega)) nin0)).other W169 (own_ne (by omega)))
    obtain ⟨q178, c178, R178, s178, t178⟩ := id f177
    have hin178 : ¬ ((cn + (1 : Int32)) < 0 ∨ c178.slots.size ≤ ((cn + (1 : Int32))).toNatClampNeg) := inb_of s178 (own_t6_1_3 cn hk hc151)
    obtain ⟨T179, h179, X179, e179, W179, st179⟩ := stI X174 hx hZ e174 R178 (j := (cn + (1 : Int32))) hin178 (g := (mkF m 168 #[.val (.ref a_1), .val (.int p_2), .val (.ref a_3), .val (.int bs), .val (.int (2 : Int32)), .val (.int (2 : Int32)), .val (.int y1)] [(.int (bs + (2 : Int32))), (.int (cn + (1 : Int32))), (.ref wst)])) rfl rfl (hb hby own_d6_168)
    have V179 : own_AV Z h179 wst .int (65 : Int32) (own_upd gs ((cn + (1 : Int32))).toNatClampNeg (.int (bs + (2 : Int32)))) := own_AV.set (k := ((cn + (1 : Int32))).toNatClampNeg) f177 W179 rfl
    have z180 := W179.size
    have K179 : Keep h0 h179 [a_1, wh, wst, wb] := K169.wr W179 (Or.inl (List.mem_of_getElem? (i := 2) rfl))
    have N179 := Fr.snoc X179 N169 (by omega : n0 ≤ wst)
    refine own_go (fun _ k => st179 _ k) ?_
    show own_Go _ _ _ _ T179 (mkF m 169 #[.val (.ref a_1), .val (.int p_2), .val (.ref a_3), .val (.int bs), .val (.int (2 : Int32)), .val (.int (2 : Int32)), .val (.int y1)] [])
    refine own_go (fun _ k => XS.aloadN X179.here hx rfl (hb hby own_d6_169) rfl rfl k) ?_
    show own_Go _ _ _ _ T179 (mkF m 170 #[.val (.ref a_1), .val (.int p_2), .val (.ref a_3), .val (.int bs), .val (.int (2 : Int32)), .val (.int (2 : Int32)), .val (.int y1)] [(.ref a_1)])
    refine own_go (fun _ k => XS.dup X179.here hx rfl (hb hby own_d6_170) rfl rfl k) ?_
    show own_Go _ _ _ _ T179 (mkF m 171 #[.val (.ref a_1), .val (.int p_2), .val (.ref a_3), .val (.int bs), .val (.int (2 : Int32)), .val (.int (2 : Int32)), .val (.int y1)] [(.ref a_1), (.ref a_1)])
    have f181 : Fld Z h179 a_1 "com/example/kalchas/kalchas/propositional/HornClauses" "clauseCount" "I" (.int cn) := (f173.other W179 (Or.inl (own_ne (by omega))))
    obtain ⟨T182, X182, e182, st182⟩ := getF X179 hx hZ hown (host := "") (Or.inl w_53) Via.refl e179 f181 (g := (mkF m 171 #[.val (.ref a_1), .val (.int p_2), .val (.ref a_3), .val (.int bs), .val (.int (2 : Int32)), .val (.int (2 : Int32)), .val (.int y1)] [(.ref a_1), (.ref a_1)])) rfl rfl (hb hby own_d6_171)
    refine own_go (fun _ k => st182 _ k) ?_
    show own_Go _ _ _ _ T182 (mkF m 174 #[.val (.ref a_1), .val (.int p_2), .val (.ref a_3), .val (.int bs), .val (.int (2 : Int32)), .val (.int (2 : Int32)), .val (.int y1)] [(.int cn), (.ref a_1)])
    refine own_go (fun _ k => XS.iconst X182.here hx rfl (hb hby own_d6_174) k) ?_
    show own_Go _ _ _ _ T182 (mkF m 175 #[.val (.ref a_1), .val (.int p_2), .val (.ref a_3), .val (.int bs), .val (.int (2 : Int32)), .val (.int (2 : Int32)), .val (.int y1)] [(.int (1 : Int32)), (.int cn), (.ref a_1)])
    refine own_go (fun _ k => XS.iadd X182.here hx rfl (hb hby own_d6_175) rfl k) ?_
    show own_Go _ _ _ _ T182 (mkF m 176 #[.val (.ref a_1), .val (.int p_2), .val (.ref a_3), .val (.int bs), .val (.int (2 : Int32)), .val (.int (2 : Int32)), .val (.int y1)] [(.int (cn + (1 : Int32))), (.ref a_1)])
    have f183 : Exa Z h179 a_1 "com/example/kalchas/kalchas/propositional/HornClauses" := (((pr_E_a_1.keep Kq161).wr W169).wr W179)
    obtain ⟨T184, h184, X184, e184, W184, st184⟩ := putF X182 hx hZ hown (host := "") (Or.inl w_53) Via.refl e182 f181 f183 (Or.inl w_54) w_9 (ty := .int) (by decide) rfl rfl (g := (mkF m 176 #[.val (.ref a_1), .val (.int p_2), .val (.ref a_3), .val (.int bs), .val (.int (2 : Int32)), .val (.int (2 : Int32)), .val (.int y1)] [(.int (cn + (1 : Int32))), (.ref a_1)])) rfl rfl (hb hby own_d6_176)
    have z185 := W184.size
    have K184 : Keep h0 h184 [a_1, wh, wst, wb] := K179.wr W184 (Or.inl (List.mem_of_getElem? (i := 0) rfl))
    have N184 := Fr.snoc X184 N179 (by omega : n0 ≤ a_1)
    have Fw184 : Fld Z h184 a_1 "com/example/kalchas/kalchas/propositional/HornClauses" "clauseCount" "I" (.int (cn + (1 : Int32))) := Fld.same W184 f181
    refine own_go (fun _ k => st184 _ k) ?_
    show own_Go _ _ _ _ T184 (mkF m 179 #[.val (.ref a_1), .val (.int p_2), .val (.ref a_3), .val (.int bs), .val (.int (2 : Int32)), .val (.int (2 : Int32)), .val (.int y1)] [])
    refine own_go (fun _ k => XS.aloadN X184.here hx rfl (hb hby own_d6_179) rfl rfl k) ?_
    show own_Go _ _ _ _ T184 (mkF m 180 #[.val (.ref a_1), .val (.int p_2), .val (.ref a_3), .val (.int bs), .val (.int (2 : Int32)), .val (.int (2 : Int32)), .val (.int y1)] [(.ref a_1)])
    refine own_go (fun _ k => XS.aconstNull X184.here hx rfl (hb hby own_d6_180) k) ?_
    show own_Go _ _ _ _ T184 (mkF m 181 #[.val (.ref a_1), .val (.int p_2), .val (.ref a_3), .val (.int bs), .val (.int (2 : Int32)), .val (.int (2 : Int32)), .val (.int y1)] [.null, (.ref a_1)])
    have f186 : Exa Z h184 a_1 "com/example/kalchas/kalchas/propositional/HornClauses" := (f183.wr W184)
    have f187 : Fld Z h184 a_1 "com/example/kalchas/kalchas/propositional/HornClauses" "occurrences" "[I" w_occ := ((((pr_F_a_1_occurrences.keep Kq161 (ninS (own_ne (by omega)) nin0)).other W169 (Or.inl (own_ne (by omega)))).other W179 (Or.inl (own_ne (by omega)))).other W184 (Or.inr (slot_ne (Or.inl w_29) (Or.inl w_54) (by decide) (t := (.array .int)) (t' := .int) (by decide) (by decide))))
    obtain ⟨T188, h188, X188, e188, W188, st188⟩ := putF X184 hx hZ hown (host := "") (Or.inl w_28) Via.refl e184 f187 f186 (Or.inl w_29) w_9 (ty := (.array .int)) (by decide) rfl rfl (g := (mkF m 181 #[.val (.ref a_1), .val (.int p_2), .val (.ref a_3), .val (.int bs), .val (.int (2 : Int32)), .val (.int (2 : Int32)), .val (.int y1)] [.null, (.ref a_1)])) rfl rfl (hb hby own_d6_181)
    have z189 := W188.size
    have K188 : Keep h0 h188 [a_1, wh, wst, wb] := K184.wr W188 (Or.inl (List.mem_of_getElem? (i := 0) rfl))
    have N188 := Fr.snoc X188 N184 (by omega : n0 ≤ a_1)
    have Fw188 : Fld Z h188 a_1 "com/example/kalchas/kalchas/propositional/HornClauses" "occurrences" "[I" .null := Fld.same W188 f187
    refine own_go (fun _ k => st188 _ k) ?_
    show own_Go _ _ _ _ T188 (mkF m 184 #[.val (.ref a_1), .val (.int p_2), .val (.ref a_3), .val (.int bs), .val (.int (2 : Int32)), .val (.int (2 : Int32)), .val (.int y1)] [])
    obtain ⟨fs, hr, hrun, hended, hRW⟩ := X188.leaveW hS144 (by rw [e188]; omega) (v := none) (fun _ => rfl)
    refine ⟨_, _, X188.returnOut hx Bd.returns (hb hby own_d6_184) hr, hrun, hended, _, _, rfl, ?_, own_monoW hRW (by rw [y144]; decide) (by rw [z144]; decide)⟩
    refine ⟨?_, trivial⟩
    show own_Q6_1 Z a_1 p_2 a_3 wh wst wb gh gs gb bs w_occ (2 : Int32) y0 y1 y2 cn h0 n0 _ T188.heap _
    rw [e188]
    have f191 : own_AV Z h188 wst .int (65 : Int32) (own_upd gs ((cn + (1 : Int32))).toNatClampNeg (.int (bs + (2 : Int32)))) := ((V179.other W184 (own_ne (by omega))).other W188 (own_ne (by omega)))
    have f192 : own_AV Z h188 wb .int (64 : Int32) (own_cpf (own_n3 y0 y1 y2) ((0 : Int32)).toNatClampNeg gb (bs).toNatClampNeg ((2 : Int32)).toNatClampNeg) := ((((V161.other W169 (own_ne (by omega))).other W179 (own_ne (by omega))).other W184 (own_ne (by omega))).other W188 (own_ne (by omega)))
    have f193 : Exa Z h188 a_1 "com/example/kalchas/kalchas/propositional/HornClauses" := (f186.wr W188)
    have f194 : Fld Z h188 a_1 "com/example/kalchas/kalchas/propositional/HornClauses" "variableCount" "I" (.int (3 : Int32)) := (((((pr_F_a_1_variableCount.keep Kq161 (ninS (own_ne (by omega)) nin0)).other W169 (Or.inl (own_ne (by omega)))).other W179 (Or.inl (own_ne (by omega)))).other W184 (Or.inr (slot_ne (Or.inl w_31) (Or.inl w_54) (by decide) (t := .int) (t' := .int) (by decide) (by decide)))).other W188 (Or.inr (slot_ne (Or.inl w_31) (Or.inl w_29) (by decide) (t := .int) (t' := (.array .int)) (by decide) (by decide))))
    have f195 : Fld Z h188 a_1 "com/example/kalchas/kalchas/propositional/HornClauses" "clauseCount" "I" (.int (cn + (1 : Int32))) := (Fw184.other W188 (Or.inr (slot_ne (Or.inl w_54) (Or.inl w_29) (by decide) (t := .int) (t' := (.array .int)) (by decide) (by decide))))
    have f196 : Fld Z h188 a_1 "com/example/kalchas/kalchas/propositional/HornClauses" "heads" "[I" (.ref wh) := ((((f163.other W169 (Or.inl (own_ne (by omega)))).other W179 (Or.inl (own_ne (by omega)))).other W184 (Or.inr (slot_ne (Or.inl w_18) (Or.inl w_54) (by decide) (t := (.array .int)) (t' := .int) (by decide) (by decide)))).other W188 (Or.inr (slot_ne (Or.inl w_18) (Or.inl w_29) (by decide) (t := (.array .int)) (t' := (.array .int)) (by decide) (by decide))))
    have f197 : Fld Z h188 a_1 "com/example/kalchas/kalchas/propositional/HornClauses" "bodyStarts" "[I" (.ref wst) := (((f171.other W179 (Or.inl (own_ne (by omega)))).other W184 (Or.inr (slot_ne (Or.inl w_20) (Or.inl w_54) (by decide) (t := (.array .int)) (t' := .int) (by decide) (by decide)))).other W188 (Or.inr (slot_ne (Or.inl w_20) (Or.inl w_29) (by decide) (t := (.array .int)) (t' := (.array .int)) (by decide) (by decide))))
    have f198 : Fld Z h188 a_1 "com/example/kalchas/kalchas/propositional/HornClauses" "bodies" "[I" (.ref wb) := (((((pr_F_a_1_bodies.keep Kq161 (ninS (own_ne (by omega)) nin0)).other W169 (Or.inl (own_ne (by omega)))).other W179 (Or.inl (own_ne (by omega)))).other W184 (Or.inr (slot_ne (Or.inl w_22) (Or.inl w_54) (by decide) (t := (.array .int)) (t' := .int) (by decide) (by decide)))).other W188 (Or.inr (slot_ne (Or.inl w_22) (Or.inl w_29) (by decide) (t := (.array .int)) (t' := (.array .int)) (by decide) (by decide))))
    have f199 : own_AV Z h188 wh .int (64 : Int32) (own_upd gh (cn).toNatClampNeg (.int p_2)) := (((V169.other W179 (own_ne (by omega))).other W184 (own_ne (by omega))).other W188 (own_ne (by omega)))
    exact ⟨rfl, N188, K188, f193, f194, f195, f196, f197, f198, Fw188, f199, f191, f192⟩
  · subst hs13
    show own_Go _ _ _ _ s₁ (mkF m 0 #[.val (.ref a_1), .val (.int p_2), .val (.ref a_3), .unset, .unset, .unset, .unset] [])
    refine own_go (fun _ k => XS.aloadN X0.here hx rfl (hb hby own_d6_0) rfl rfl k) ?_
    show own_Go _ _ _ _ s₁ (mkF m 1 #[.val (.ref a_1), .val (.int p_2), .val (.ref a_3), .unset, .unset, .unset, .unset] [(.ref a_1)])
    refine own_go (fun _ k => XS.iloadN X0.here hx rfl (hb hby own_d6_1) rfl k) ?_
    show own_Go _ _ _ _ s₁ (mkF m 2 #[.val (.ref a_1), .val (.int p_2), .val (.ref a_3), .unset, .unset, .unset, .unset] [(.int p_2), (.ref a_1)])
    obtain ⟨cq200, kq200, q200a, q200b, q200c⟩ := isOf hZ e0 pr_E_a_1
    obtain ⟨_, _, ⟨T200, L200, k200, n200⟩, -, X200, hS200, gr200, ⟨Lc200, ⟨hQ200, hV200⟩, l200, y200, z200⟩, st200⟩ := X0.virtualBackS hx (y := (⟨"com/example/kalchas/kalchas/propositional/HornClauses", "checkVariable", "(I)V"⟩ : MethodName)) (z := (⟨"com/example/kalchas/kalchas/propositional/HornClauses", "checkVariable", "(I)V"⟩ : MethodName)) hown (mvT hZ w_37) (mvT hZ w_38) (notFace_of_selects (args := #[]) (mvT hZ w_40)) (mvT hZ w_40) (mvT hZ w_39) (by decide) (own_backL (PV := (own_LP Z "com/example/kalchas/kalchas/propositional/HornClauses" 178)) (QV := (fun _ => True)) (W := 0) (own_rm7w l Z a0 hw [] a_1 p_2 (3 : Int32) h0 n0 (by omega) (show ¬ (p_2 < 0) by first | assumption | omega | decide) (show p_2 < (3 : Int32) by first | assumption | omega | decide) pr_F_a_1_variableCount) hZ w_41 w_10 (by decide) (by decide) (fun _ q => ⟨_, own_litW LP q⟩)) q200a q200c (g := (mkF m 2 #[.val (.ref a_1), .val (.int p_2), .val (.ref a_3), .unset, .unset, .unset, .unset] [(.int p_2), (.ref a_1)])) rfl (by rw [hml]; rfl) (Steps.refl _) (argsL := [(.int p_2)]) (rest := []) (lenOf own_pd1 rfl) rfl (by show 2 * 0 + _ ≤ _; exact Nat.le_of_eq rfl) (hb hby own_d6_2) (fun _ _ => ⟨rfl, e0, (by decide : 0 + 0 ≤ _), (by decide : 0 + 0 ≤ _)⟩)
    dsimp only [Pt.U, Pt.locs, Pt.cells, Pt.slots] at X200 l200 y200 z200 st200 hQ200 hS200 gr200 hV200
    have y200 : k200 = 0 := y200
    have z200 : n200 = 0 := z200
    have Wn200 := hS200.1
    have Li201 := LP.stays Wn200
    obtain ⟨X200, hS200, hZ, hown⟩ := rebS hS0 (n1 := s₁.heap.size) (by rw [e0]; omega) X200 hS200 gr200 hZ hown
    obtain ⟨rfl, N200q, e200⟩ := hQ200
    have N200 : Fr n0 L200 := by rw [l200]; exact Fr.app N0 N200q
    have z202 : T200.heap.size = h0.size := congrArg Array.size e200
    refine own_go (fun _ k => st200.trans k) ?_
    show own_Go _ _ _ _ T200 (mkF m 5 #[.val (.ref a_1), .val (.int p_2), .val (.ref a_3), .unset, .unset, .unset, .unset] [])
    refine own_go (fun _ k => XS.aloadN X200.here hx rfl (hb hby own_d6_5) rfl rfl k) ?_
    show own_Go _ _ _ _ T200 (mkF m 6 #[.val (.ref a_1), .val (.int p_2), .val (.ref a_3), .unset, .unset, .unset, .unset] [(.ref a_3)])
    refine own_go (fun _ k => XS.astoreN X200.here hx rfl (hb hby own_d6_6) rfl rfl (l' := #[.val (.ref a_1), .val (.int p_2), .val (.ref a_3), .val (.ref a_3), .unset, .unset, .unset]) rfl k) ?_
    show own_Go _ _ _ _ T200 (mkF m 7 #[.val (.ref a_1), .val (.int p_2), .val (.ref a_3), .val (.ref a_3), .unset, .unset, .unset] [])
    refine own_go (fun _ k => XS.aloadN X200.here hx rfl (hb hby own_d6_7) rfl rfl k) ?_
    show own_Go _ _ _ _ T200 (mkF m 8 #[.val (.ref a_1), .val (.int p_2), .val (.ref a_3), .val (.ref a_3), .unset, .unset, .unset] [(.ref a_3)])
    obtain ⟨q203, c203, R203, s203, t203⟩ := id pr_A_a_3
    refine own_go (fun _ k => X200.arraylength hx (by rw [e200]; exact R203.1) (State.isArrayOf_alike hZ.alike R203.2.1) (g := (mkF m 8 #[.val (.ref a_1), .val (.int p_2), .val (.ref a_3), .val (.ref a_3), .unset, .unset, .unset] [(.ref a_3)])) rfl rfl (hb hby own_d6_8) _ k) ?_
    rw [len_of s203 q203]
    show own_Go _ _ _ _ T200 (mkF m 9 #[.val (.ref a_1), .val (.int p_2), .val (.ref a_3), .val (.ref a_3), .unset, .unset, .unset] [(.int (3 : Int32))])
    refine own_go (fun _ k => XS.istore X200.here hx rfl (hb hby own_d6_9) rfl (l' := #[.val (.ref a_1), .val (.int p_2), .val (.ref a_3), .val (.ref a_3), .val (.int (3 : Int32)), .unset, .unset]) rfl k) ?_
    show own_Go _ _ _ _ T200 (mkF m 11 #[.val (.ref a_1), .val (.int p_2), .val (.ref a_3), .val (.ref a_3), .val (.int (3 : Int32)), .unset, .unset] [])
    refine own_go (fun _ k => XS.iconst X200.here hx rfl (hb hby own_d6_11) k) ?_
    show own_Go _ _ _ _ T200 (mkF m 12 #[.val (.ref a_1), .val (.int p_2), .val (.ref a_3), .val (.ref a_3), .val (.int (3 : Int32)), .unset, .unset] [(.int (0 : Int32))])
    refine own_go (fun _ k => XS.istore X200.here hx rfl (hb hby own_d6_12) rfl (l' := #[.val (.ref a_1), .val (.int p_2), .val (.ref a_3), .val (.ref a_3), .val (.int (3 : Int32)), .val (.int (0 : Int32)), .unset]) rfl k) ?_
    show own_Go _ _ _ _ T200 (mkF m 14 #[.val (.ref a_1), .val (.int p_2), .val (.ref a_3), .val (.ref a_3), .val (.int (3 : Int32)), .val (.int (0 : Int32)), .unset] [])
    refine own_go (fun _ k => XS.iload X200.here hx rfl (hb hby own_d6_14) rfl k) ?_
    show own_Go _ _ _ _ T200 (mkF m 16 #[.val (.ref a_1), .val (.int p_2), .val (.ref a_3), .val (.ref a_3), .val (.int (3 : Int32)), .val (.int (0 : Int32)), .unset] [(.int (0 : Int32))])
    refine own_go (fun _ k => XS.iload X200.here hx rfl (hb hby own_d6_16) rfl k) ?_
    show own_Go _ _ _ _ T200 (mkF m 18 #[.val (.ref a_1), .val (.int p_2), .val (.ref a_3), .val (.ref a_3), .val (.int (3 : Int32)), .val (.int (0 : Int32)), .unset] [(.int (3 : Int32)), (.int (0 : Int32))])
    have hc204 : (0 : Int32) < (3 : Int32) := by decide
    refine own_go (fun _ k => XS.icmpNo X200.here hx rfl (hb hby own_d6_18) rfl (Jvm.Free.XT.ii_ge_f hc204) k) ?_
    show own_Go _ _ _ _ T200 (mkF m 21 #[.val (.ref a_1), .val (.int p_2), .val (.ref a_3), .val (.ref a_3), .val (.int (3 : Int32)), .val (.int (0 : Int32)), .unset] [])
    refine own_go (fun _ k => XS.aloadN X200.here hx rfl (hb hby own_d6_21) rfl rfl k) ?_
    show own_Go _ _ _ _ T200 (mkF m 22 #[.val (.ref a_1), .val (.int p_2), .val (.ref a_3), .val (.ref a_3), .val (.int (3 : Int32)), .val (.int (0 : Int32)), .unset] [(.ref a_3)])
    refine own_go (fun _ k => XS.iload X200.here hx rfl (hb hby own_d6_22) rfl k) ?_
    show own_Go _ _ _ _ T200 (mkF m 24 #[.val (.ref a_1), .val (.int p_2), .val (.ref a_3), .val (.ref a_3), .val (.int (3 : Int32)), .val (.int (0 : Int32)), .unset] [(.int (0 : Int32)), (.ref a_3)])
    obtain ⟨q205, c205, R205, s205, t205⟩ := id pr_A_a_3
    have hin205 : ¬ ((0 : Int32) < 0 ∨ c205.slots.size ≤ ((0 : Int32)).toNatClampNeg) := inb_of s205 ⟨by decide, by decide⟩
    have u205 : c205.slots[((0 : Int32)).toNatClampNeg]? = some (.int y0) := own_at (k := 0) t205 s205 hin205 (by decide) (rfl)
    refine own_go (fun _ k => X200.iaload hx (j := (0 : Int32)) (v := (.int y0)) (by rw [e200]; exact R205.1) (State.isArrayOf_alike hZ.alike R205.2.1) R205.2.2 hin205 u205 (g := (mkF m 24 #[.val (.ref a_1), .val (.int p_2), .val (.ref a_3), .val (.ref a_3), .val (.int (3 : Int32)), .val (.int (0 : Int32)), .unset] [(.int (0 : Int32)), (.ref a_3)])) rfl rfl (hb hby own_d6_24) _ k) ?_
    show own_Go _ _ _ _ T200 (mkF m 25 #[.val (.ref a_1), .val (.int p_2), .val (.ref a_3), .val (.ref a_3), .val (.int (3 : Int32)), .val (.int (0 : Int32)), .unset] [(.int y0)])
    refine own_go (fun _ k => XS.istore X200.here hx rfl (hb hby own_d6_25) rfl (l' := #[.val (.ref a_1), .val (.int p_2), .val (.ref a_3), .val (.ref a_3), .val (.int (3 : Int32)), .val (.int (0 : Int32)), .val (.int y0)]) rfl k) ?_
    show own_Go _ _ _ _ T200 (mkF m 27 #[.val (.ref a_1), .val (.int p_2), .val (.ref a_3), .val (.ref a_3), .val (.int (3 : Int32)), .val (.int (0 : Int32)), .val (.int y0)] [])
    refine own_go (fun _ k => XS.aloadN X200.here hx rfl (hb hby own_d6_27) rfl rfl k) ?_
    show own_Go _ _ _ _ T200 (mkF m 28 #[.val (.ref a_1), .val (.int p_2), .val (.ref a_3), .val (.ref a_3), .val (.int (3 : Int32)), .val (.int (0 : Int32)), .val (.int y0)] [(.ref a_1)])
    refine own_go (fun _ k => XS.iload X200.here hx rfl (hb hby own_d6_28) rfl k) ?_
    show own_Go _ _ _ _ T200 (mkF m 30 #[.val (.ref a_1), .val (.int p_2), .val (.ref a_3), .val (.ref a_3), .val (.int (3 : Int32)), .val (.int (0 : Int32)), .val (.int y0)] [(.int y0), (.ref a_1)])
    obtain ⟨cq206, kq206, q206a, q206b, q206c⟩ := isOf hZ e200 pr_E_a_1
    obtain ⟨_, _, ⟨T206, L206, k206, n206⟩, -, X206, hS206, gr206, ⟨Lc206, ⟨hQ206, hV206⟩, l206, y206, z206⟩, st206⟩ := X200.virtualBackS hx (y := (⟨"com/example/kalchas/kalchas/propositional/HornClauses", "checkVariable", "(I)V"⟩ : MethodName)) (z := (⟨"com/example/kalchas/kalchas/propositional/HornClauses", "checkVariable", "(I)V"⟩ : MethodName)) hown (mvT hZ w_37) (mvT hZ w_38) (notFace_of_selects (args := #[]) (mvT hZ w_40)) (mvT hZ w_40) (mvT hZ w_39) (by decide) (own_backL (PV := (own_LP Z "com/example/kalchas/kalchas/propositional/HornClauses" 178)) (QV := (fun _ => True)) (W := 0) (own_rm7w l Z a0 hw [] a_1 y0 (3 : Int32) h0 n0 (by omega) (show ¬ (y0 < 0) by first | assumption | omega | decide) (show y0 < (3 : Int32) by first | assumption | omega | decide) pr_F_a_1_variableCount) hZ w_41 w_10 (by decide) (by decide) (fun _ q => ⟨_, own_litW Li201 q⟩)) q206a q206c (g := (mkF m 30 #[.val (.ref a_1), .val (.int p_2), .val (.ref a_3), .val (.ref a_3), .val (.int (3 : Int32)), .val (.int (0 : Int32)), .val (.int y0)] [(.int y0), (.ref a_1)])) rfl (by rw [hml]; rfl) (Steps.refl _) (argsL := [(.int y0)]) (rest := []) (lenOf own_pd1 rfl) rfl (by show 2 * 0 + _ ≤ _; exact Nat.le_of_eq rfl) (hb hby own_d6_30) (fun _ _ => ⟨rfl, e200, (by show k200 + _ ≤ _; rw [y200]; decide), (by show n200 + _ ≤ _; rw [z200]; decide)⟩)
    dsimp only [Pt.U, Pt.locs, Pt.cells, Pt.slots] at X206 l206 y206 z206 st206 hQ206 hS206 gr206 hV206
    have y206 : k206 = 0 := own_addeq y206 (congrArg (fun q => q) y200) rfl
    have z206 : n206 = 0 := own_addeq z206 (congrArg (fun q => q) z200) rfl
    have Wn206 := hS206.1
    have Li207 := Li201.stays Wn206
    obtain ⟨X206, hS206, hZ, hown⟩ := rebS hS200 (n1 := T200.heap.size) (by rw [e200]; omega) X206 hS206 gr206 hZ hown
    obtain ⟨rfl, N206q, e206⟩ := hQ206
    have N206 : Fr n0 L206 := by rw [l206]; exact Fr.app N200 N206q
    have z208 : T206.heap.size = h0.size := congrArg Array.size e206
    refine own_go (fun _ k => st206.trans k) ?_
    show own_Go _ _ _ _ T206 (mkF m 33 #[.val (.ref a_1), .val (.int p_2), .val (.ref a_3), .val (.ref a_3), .val (.int (3 : Int32)), .val (.int (0 : Int32)), .val (.int y0)] [])
    refine own_go (fun _ k => XS.iinc X206.here hx rfl (hb hby own_d6_33) rfl (l' := #[.val (.ref a_1), .val (.int p_2), .val (.ref a_3), .val (.ref a_3), .val (.int (3 : Int32)), .val (.int (1 : Int32)), .val (.int y0)]) rfl k) ?_
    show own_Go _ _ _ _ T206 (mkF m 36 #[.val (.ref a_1), .val (.int p_2), .val (.ref a_3), .val (.ref a_3), .val (.int (3 : Int32)), .val (.int (1 : Int32)), .val (.int y0)] [])
    refine own_go (fun _ k => XS.goto X206.here hx rfl (pc0 := 36) (pc' := 14) rfl (hb hby own_d6_36) (by decide) (by decide) k) ?_
    show own_Go _ _ _ _ T206 (mkF m 14 #[.val (.ref a_1), .val (.int p_2), .val (.ref a_3), .val (.ref a_3), .val (.int (3 : Int32)), .val (.int (1 : Int32)), .val (.int y0)] [])
    refine own_go (fun _ k => XS.iload X206.here hx rfl (hb hby own_d6_14) rfl k) ?_
    show own_Go _ _ _ _ T206 (mkF m 16 #[.val (.ref a_1), .val (.int p_2), .val (.ref a_3), .val (.ref a_3), .val (.int (3 : Int32)), .val (.int (1 : Int32)), .val (.int y0)] [(.int (1 : Int32))])
    refine own_go (fun _ k => XS.iload X206.here hx rfl (hb hby own_d6_16) rfl k) ?_
    show own_Go _ _ _ _ T206 (mkF m 18 #[.val (.ref a_1), .val (.int p_2), .val (.ref a_3), .val (.ref a_3), .val (.int (3 : Int32)), .val (.int (1 : Int32)), .val (.int y0)] [(.int (3 : Int32)), (.int (1 : Int32))])
    have hc209 : (1 : Int32) < (3 : Int32) := by decide
    refine own_go (fun _ k => XS.icmpNo X206.here hx rfl (hb hby own_d6_18) rfl (Jvm.Free.XT.ii_ge_f hc209) k) ?_
    show own_Go _ _ _ _ T206 (mkF m 21 #[.val (.ref a_1), .val (.int p_2), .val (.ref a_3), .val (.ref a_3), .val (.int (3 : Int32)), .val (.int (1 : Int32)), .val (.int y0)] [])
    refine own_go (fun _ k => XS.aloadN X206.here hx rfl (hb hby own_d6_21) rfl rfl k) ?_
    show own_Go _ _ _ _ T206 (mkF m 22 #[.val (.ref a_1), .val (.int p_2), .val (.ref a_3), .val (.ref a_3), .val (.int (3 : Int32)), .val (.int (1 : Int32)), .val (.int y0)] [(.ref a_3)])
    refine own_go (fun _ k => XS.iload X206.here hx rfl (hb hby own_d6_22) rfl k) ?_
    show own_Go _ _ _ _ T206 (mkF m 24 #[.val (.ref a_1), .val (.int p_2), .val (.ref a_3), .val (.ref a_3), .val (.int (3 : Int32)), .val (.int (1 : Int32)), .val (.int y0)] [(.int (1 : Int32)), (.ref a_3)])
    obtain ⟨q210, c210, R210, s210, t210⟩ := id pr_A_a_3
    have hin210 : ¬ ((1 : Int32) < 0 ∨ c210.slots.size ≤ ((1 : Int32)).toNatClampNeg) := inb_of s210 ⟨by decide, by decide⟩
    have u210 : c210.slots[((1 : Int32)).toNatClampNeg]? = some (.int y1) := own_at (k := 1) t210 s210 hin210 (by decide) (rfl)
    refine own_go (fun _ k => X206.iaload hx (j := (1 : Int32)) (v := (.int y1)) (by rw [e206]; exact R210.1) (State.isArrayOf_alike hZ.alike R210.2.1) R210.2.2 hin210 u210 (g := (mkF m 24 #[.val (.ref a_1), .val (.int p_2), .val (.ref a_3), .val (.ref a_3), .val (.int (3 : Int32)), .val (.int (1 : Int32)), .val (.int y0)] [(.int (1 : Int32)), (.ref a_3)])) rfl rfl (hb hby own_d6_24) _ k) ?_
    show own_Go _ _ _ _ T206 (mkF m 25 #[.val (.ref a_1), .val (.int p_2), .val (.ref a_3), .val (.ref a_3), .val (.int (3 : Int32)), .val (.int (1 : Int32)), .val (.int y0)] [(.int y1)])
    refine own_go (fun _ k => XS.istore X206.here hx rfl (hb hby own_d6_25) rfl (l' := #[.val (.ref a_1), .val (.int p_2), .val (.ref a_3), .val (.ref a_3), .val (.int (3 : Int32)), .val (.int (1 : Int32)), .val (.int y1)]) rfl k) ?_
    show own_Go _ _ _ _ T206 (mkF m 27 #[.val (.ref a_1), .val (.int p_2), .val (.ref a_3), .val (.ref a_3), .val (.int (3 : Int32)), .val (.int (1 : Int32)), .val (.int y1)] [])
    refine own_go (fun _ k => XS.aloadN X206.here hx rfl (hb hby own_d6_27) rfl rfl k) ?_
    show own_Go _ _ _ _ T206 (mkF m 28 #[.val (.ref a_1), .val (.int p_2), .val (.ref a_3), .val (.ref a_3), .val (.int (3 : Int32)), .val (.int (1 : Int32)), .val (.int y1)] [(.ref a_1)])
    refine own_go (fun _ k => XS.iload X206.here hx rfl (hb hby own_d6_28) rfl k) ?_
    show own_Go _ _ _ _ T206 (mkF m 30 #[.val (.ref a_1), .val (.int p_2), .val (.ref a_3), .val (.ref a_3), .val (.int (3 : Int32)), .val (.int (1 : Int32)), .val (.int y1)] [(.int y1), (.ref a_1)])
    obtain ⟨cq211, kq211, q211a, q211b, q211c⟩ := isOf hZ e206 pr_E_a_1
    obtain ⟨_, _, ⟨T211, L211, k211, n211⟩, -, X211, hS211, gr211, ⟨Lc211, ⟨hQ211, hV211⟩, l211, y211, z211⟩, st211⟩ := X206.virtualBackS hx (y := (⟨"com/example/kalchas/kalchas/propositional/HornClauses", "checkVariable", "(I)V"⟩ : MethodName)) (z := (⟨"com/example/kalchas/kalchas/propositional/HornClauses", "checkVariable", "(I)V"⟩ : MethodName)) hown (mvT hZ w_37) (mvT hZ w_38) (notFace_of_selects (args := #[]) (mvT hZ w_40)) (mvT hZ w_40) (mvT hZ w_39) (by decide) (own_backL (PV := (own_LP Z "com/example/kalchas/kalchas/propositional/HornClauses" 178)) (QV := (fun _ => True)) (W := 0) (own_rm7w l Z a0 hw [] a_1 y1 (3 : Int32) h0 n0 (by omega) (show ¬ (y1 < 0) by first | assumption | omega | decide) (show y1 < (3 : Int32) by first | assumption | omega | decide) pr_F_a_1_variableCount) hZ w_41 w_10 (by decide) (by decide) (fun _ q => ⟨_, own_litW Li207 q⟩)) q211a q211c (g := (mkF m 30 #[.val (.ref a_1), .val (.int p_2), .val (.ref a_3), .val (.ref a_3), .val (.int (3 : Int32)), .val (.int (1 : Int32)), .val (.int y1)] [(.int y1), (.ref a_1)])) rfl (by rw [hml]; rfl) (Steps.refl _) (argsL := [(.int y1)]) (rest := []) (lenOf own_pd1 rfl) rfl (by show 2 * 0 + _ ≤ _; exact Nat.le_of_eq rfl) (hb hby own_d6_30) (fun _ _ => ⟨rfl, e206, (by show k206 + _ ≤ _; rw [y206]; decide), (by show n206 + _ ≤ _; rw [z206]; decide)⟩)
    dsimp only [Pt.U, Pt.locs, Pt.cells, Pt.slots] at X211 l211 y211 z211 st211 hQ211 hS211 gr211 hV211
    have y211 : k211 = 0 := own_addeq y211 (congrArg (fun q => q) y206) rfl
    have z211 : n211 = 0 := own_addeq z211 (congrArg (fun q => q) z206) rfl
    have Wn211 := hS211.1
    have Li212 := Li207.stays Wn211
    obtain ⟨X211, hS211, hZ, hown⟩ := rebS hS206 (n1 := T206.heap.size) (by rw [e206]; omega) X211 hS211 gr211 hZ hown
    obtain ⟨rfl, N211q, e211⟩ := hQ211
    have N211 : Fr n0 L211 := by rw [l211]; exact Fr.app N206 N211q
    have z213 : T211.heap.size = h0.size := congrArg Array.size e211
    refine own_go (fun _ k => st211.trans k) ?_
    show own_Go _ _ _ _ T211 (mkF m 33 #[.val (.ref a_1), .val (.int p_2), .val (.ref a_3), .val (.ref a_3), .val (.int (3 : Int32)), .val (.int (1 : Int32)), .val (.int y1)] [])
    refine own_go (fun _ k => XS.iinc X211.here hx rfl (hb hby own_d6_33) rfl (l' := #[.val (.ref a_1), .val (.int p_2), .val (.ref a_3), .val (.ref a_3), .val (.int (3 : Int32)), .val (.int (2 : Int32)), .val (.int y1)]) rfl k) ?_
    show own_Go _ _ _ _ T211 (mkF m 36 #[.val (.ref a_1), .val (.int p_2), .val (.ref a_3), .val (.ref a_3), .val (.int (3 : Int32)), .val (.int (2 : Int32)), .val (.int y1)] [])
    refine own_go (fun _ k => XS.goto X211.here hx rfl (pc0 := 36) (pc' := 14) rfl (hb hby own_d6_36) (by decide) (by decide) k) ?_
    show own_Go _ _ _ _ T211 (mkF m 14 #[.val (.ref a_1), .val (.int p_2), .val (.ref a_3), .val (.ref a_3), .val (.int (3 : Int32)), .val (.int (2 : Int32)), .val (.int y1)] [])
    refine own_go (fun _ k => XS.iload X211.here hx rfl (hb hby own_d6_14) rfl k) ?_
    show own_Go _ _ _ _ T211 (mkF m 16 #[.val (.ref a_1), .val (.int p_2), .val (.ref a_3), .val (.ref a_3), .val (.int (3 : Int32)), .val (.int (2 : Int32)), .val (.int y1)] [(.int (2 : Int32))])
    refine own_go (fun _ k => XS.iload X211.here hx rfl (hb hby own_d6_16) rfl k) ?_
    show own_Go _ _ _ _ T211 (mkF m 18 #[.val (.ref a_1), .val (.int p_2), .val (.ref a_3), .val (.ref a_3), .val (.int (3 : Int32)), .val (.int (2 : Int32)), .val (.int y1)] [(.int (3 : Int32)), (.int (2 : Int32))])
    have hc214 : (2 : Int32) < (3 : Int32) := by decide
    refine own_go (fun _ k => XS.icmpNo X211.here hx rfl (hb hby own_d6_18) rfl (Jvm.Free.XT.ii_ge_f hc214) k) ?_
    show own_Go _ _ _ _ T211 (mkF m 21 #[.val (.ref a_1), .val (.int p_2), .val (.ref a_3), .val (.ref a_3), .val (.int (3 : Int32)), .val (.int (2 : Int32)), .val (.int y1)] [])
    refine own_go (fun _ k => XS.aloadN X211.here hx rfl (hb hby own_d6_21) rfl rfl k) ?_
    show own_Go _ _ _ _ T211 (mkF m 22 #[.val (.ref a_1), .val (.int p_2), .val (.ref a_3), .val (.ref a_3), .val (.int (3 : Int32)), .val (.int (2 : Int32)), .val (.int y1)] [(.ref a_3)])
    refine own_go (fun _ k => XS.iload X211.here hx rfl (hb hby own_d6_22) rfl k) ?_
    show own_Go _ _ _ _ T211 (mkF m 24 #[.val (.ref a_1), .val (.int p_2), .val (.ref a_3), .val (.ref a_3), .val (.int (3 : Int32)), .val (.int (2 : Int32)), .val (.int y1)] [(.int (2 : Int32)), (.ref a_3)])
    obtain ⟨q215, c215, R215, s215, t215⟩ := id pr_A_a_3
    have hin215 : ¬ ((2 : Int32) < 0 ∨ c215.slots.size ≤ ((2 : Int32)).toNatClampNeg) := inb_of s215 ⟨by decide, by decide⟩
    have u215 : c215.slots[((2 : Int32)).toNatClampNeg]? = some (.int y2) := own_at (k := 2) t215 s215 hin215 (by decide) (rfl)
    refine own_go (fun _ k => X211.iaload hx (j := (2 : Int32)) (v := (.int y2)) (by rw [e211]; exact R215.1) (State.isArrayOf_alike hZ.alike R215.2.1) R215.2.2 hin215 u215 (g := (mkF m 24 #[.val (.ref a_1), .val (.int p_2), .val (.ref a_3), .val (.ref a_3), .val (.int (3 : Int32)), .val (.int (2 : Int32)), .val (.int y1)] [(.int (2 : Int32)), (.ref a_3)])) rfl rfl (hb hby own_d6_24) _ k) ?_
    show own_Go _ _ _ _ T211 (mkF m 25 #[.val (.ref a_1), .val (.int p_2), .val (.ref a_3), .val (.ref a_3), .val (.int (3 : Int32)), .val (.int (2 : Int32)), .val (.int y1)] [(.int y2)])
    refine own_go (fun _ k => XS.istore X211.here hx rfl (hb hby own_d6_25) rfl (l' := #[.val (.ref a_1), .val (.int p_2), .val (.ref a_3), .val (.ref a_3), .val (.int (3 : Int32)), .val (.int (2 : Int32)), .val (.int y2)]) rfl k) ?_
    show own_Go _ _ _ _ T211 (mkF m 27 #[.val (.ref a_1), .val (.int p_2), .val (.ref a_3), .val (.ref a_3), .val (.int (3 : Int32)), .val (.int (2 : Int32)), .val (.int y2)] [])
    refine own_go (fun _ k => XS.aloadN X211.here hx rfl (hb hby own_d6_27) rfl rfl k) ?_
    show own_Go _ _ _ _ T211 (mkF m 28 #[.val (.ref a_1), .val (.int p_2), .val (.ref a_3), .val (.ref a_3), .val (.int (3 : Int32)), .val (.int (2 : Int32)), .val (.int y2)] [(.ref a_1)])
    refine own_go (fun _ k => XS.iload X211.here hx rfl (hb hby own_d6_28) rfl k) ?_
    show own_Go _ _ _ _ T211 (mkF m 30 #[.val (.ref a_1), .val (.int p_2), .val (.ref a_3), .val (.ref a_3), .val (.int (3 : Int32)), .val (.int (2 : Int32)), .val (.int y2)] [(.int y2), (.ref a_1)])
    obtain ⟨cq216, kq216, q216a, q216b, q216c⟩ := isOf hZ e211 pr_E_a_1
    obtain ⟨_, _, ⟨T216, L216, k216, n216⟩, -, X216, hS216, gr216, ⟨Lc216, ⟨hQ216, hV216⟩, l216, y216, z216⟩, st216⟩ := X211.virtualBackS hx (y := (⟨"com/example/kalchas/kalchas/propositional/HornClauses", "checkVariable", "(I)V"⟩ : MethodName)) (z := (⟨"com/example/kalchas/kalchas/propositional/HornClauses", "checkVariable", "(I)V"⟩ : MethodName)) hown (mvT hZ w_37) (mvT hZ w_38) (notFace_of_selects (args := #[]) (mvT hZ w_40)) (mvT hZ w_40) (mvT hZ w_39) (by decide) (own_backL (PV := (own_LP Z "com/example/kalchas/kalchas/propositional/HornClauses" 178)) (QV := (fun _ => True)) (W := 0) (own_rm7w l Z a0 hw [] a_1 y2 (3 : Int32) h0 n0 (by omega) (show ¬ (y2 < 0) by first | assumption | omega | decide) (show y2 < (3 : Int32) by first | assumption | omega | decide) pr_F_a_1_variableCount) hZ w_41 w_10 (by decide) (by decide) (fun _ q => ⟨_, own_litW Li212 q⟩)) q216a q216c (g := (mkF m 30 #[.val (.ref a_1), .val (.int p_2), .val (.ref a_3), .val (.ref a_3), .val (.int (3 : Int32)), .val (.int (2 : Int32)), .val (.int y2)] [(.int y2), (.ref a_1)])) rfl (by rw [hml]; rfl) (Steps.refl _) (argsL := [(.int y2)]) (rest := []) (lenOf own_pd1 rfl) rfl (by show 2 * 0 + _ ≤ _; exact Nat.le_of_eq rfl) (hb hby own_d6_30) (fun _ _ => ⟨rfl, e211, (by show k211 + _ ≤ _; rw [y211]; decide), (by show n211 + _ ≤ _; rw [z211]; decide)⟩)
    dsimp only [Pt.U, Pt.locs, Pt.cells, Pt.slots] at X216 l216 y216 z216 st216 hQ216 hS216 gr216 hV216
    have y216 : k216 = 0 := own_addeq y216 (congrArg (fun q => q) y211) rfl
    have z216 : n216 = 0 := own_addeq z216 (congrArg (fun q => q) z211) rfl
    have Wn216 := hS216.1
    have Li217 := Li212.stays Wn216
    obtain ⟨X216, hS216, hZ, hown⟩ := rebS hS211 (n1 := T211.heap.size) (by rw [e211]; omega) X216 hS216 gr216 hZ hown
    obtain ⟨rfl, N216q, e216⟩ := hQ216
    have N216 : Fr n0 L216 := by rw [l216]; exact Fr.app N211 N216q
    have z218 : T216.heap.size = h0.size := congrArg Array.size e216
    refine own_go (fun _ k => st216.trans k) ?_
    show own_Go _ _ _ _ T216 (mkF m 33 #[.val (.ref a_1), .val (.int p_2), .val (.ref a_3), .val (.ref a_3), .val (.int (3 : Int32)), .val (.int (2 : Int32)), .val (.int y2)] [])
    refine own_go (fun _ k => XS.iinc X216.here hx rfl (hb hby own_d6_33) rfl (l' := #[.val (.ref a_1), .val (.int p_2), .val (.ref a_3), .val (.ref a_3), .val (.int (3 : Int32)), .val (.int (3 : Int32)), .val (.int y2)]) rfl k) ?_
    show own_Go _ _ _ _ T216 (mkF m 36 #[.val (.ref a_1), .val (.int p_2), .val (.ref a_3), .val (.ref a_3), .val (.int (3 : Int32)), .val (.int (3 : Int32)), .val (.int y2)] [])
    refine own_go (fun _ k => XS.goto X216.here hx rfl (pc0 := 36) (pc' := 14) rfl (hb hby own_d6_36) (by decide) (by decide) k) ?_
    show own_Go _ _ _ _ T216 (mkF m 14 #[.val (.ref a_1), .val (.int p_2), .val (.ref a_3), .val (.ref a_3), .val (.int (3 : Int32)), .val (.int (3 : Int32)), .val (.int y2)] [])
    refine own_go (fun _ k => XS.iload X216.here hx rfl (hb hby own_d6_14) rfl k) ?_
    show own_Go _ _ _ _ T216 (mkF m 16 #[.val (.ref a_1), .val (.int p_2), .val (.ref a_3), .val (.ref a_3), .val (.int (3 : Int32)), .val (.int (3 : Int32)), .val (.int y2)] [(.int (3 : Int32))])
    refine own_go (fun _ k => XS.iload X216.here hx rfl (hb hby own_d6_16) rfl k) ?_
    show own_Go _ _ _ _ T216 (mkF m 18 #[.val (.ref a_1), .val (.int p_2), .val (.ref a_3), .val (.ref a_3), .val (.int (3 : Int32)), .val (.int (3 : Int32)), .val (.int y2)] [(.int (3 : Int32)), (.int (3 : Int32))])
    have hc219 : ¬ ((3 : Int32) < (3 : Int32)) := by decide
    refine own_go (fun _ k => XS.icmpYes X216.here hx rfl (pc0 := 18) (pc' := 39) rfl (hb hby own_d6_18) rfl (Jvm.Free.XT.ii_ge_t hc219) (by decide) (by decide) k) ?_
    show own_Go _ _ _ _ T216 (mkF m 39 #[.val (.ref a_1), .val (.int p_2), .val (.ref a_3), .val (.ref a_3), .val (.int (3 : Int32)), .val (.int (3 : Int32)), .val (.int y2)] [])
    refine own_go (fun _ k => XS.aloadN X216.here hx rfl (hb hby own_d6_39) rfl rfl k) ?_
    show own_Go _ _ _ _ T216 (mkF m 40 #[.val (.ref a_1), .val (.int p_2), .val (.ref a_3), .val (.ref a_3), .val (.int (3 : Int32)), .val (.int (3 : Int32)), .val (.int y2)] [(.ref a_1)])
    obtain ⟨T220, X220, e220, st220⟩ := getF X216 hx hZ hown (host := "") (Or.inl w_53) Via.refl e216 pr_F_a_1_clauseCount (g := (mkF m 40 #[.val (.ref a_1), .val (.int p_2), .val (.ref a_3), .val (.ref a_3), .val (.int (3 : Int32)), .val (.int (3 : Int32)), .val (.int y2)] [(.ref a_1)])) rfl rfl (hb hby own_d6_40)
    refine own_go (fun _ k => st220 _ k) ?_
    show own_Go _ _ _ _ T220 (mkF m 43 #[.val (.ref a_1), .val (.int p_2), .val (.ref a_3), .val (.ref a_3), .val (.int (3 : Int32)), .val (.int (3 : Int32)), .val (.int y2)] [(.int cn)])
    refine own_go (fun _ k => XS.aloadN X220.here hx rfl (hb hby own_d6_43) rfl rfl k) ?_
    show own_Go _ _ _ _ T220 (mkF m 44 #[.val (.ref a_1), .val (.int p_2), .val (.ref a_3), .val (.ref a_3), .val (.int (3 : Int32)), .val (.int (3 : Int32)), .val (.int y2)] [(.ref a_1), (.int cn)])
    obtain ⟨T221, X221, e221, st221⟩ := getF X220 hx hZ hown (host := "") (Or.inl w_17) Via.refl e220 pr_F_a_1_heads (g := (mkF m 44 #[.val (.ref a_1), .val (.int p_2), .val (.ref a_3), .val (.ref a_3), .val (.int (3 : Int32)), .val (.int (3 : Int32)), .val (.int y2)] [(.ref a_1), (.int cn)])) rfl rfl (hb hby own_d6_44)
    refine own_go (fun _ k => st221 _ k) ?_
    show own_Go _ _ _ _ T221 (mkF m 47 #[.val (.ref a_1), .val (.int p_2), .val (.ref a_3), .val (.ref a_3), .val (.int (3 : Int32)), .val (.int (3 : Int32)), .val (.int y2)] [(.ref wh), (.int cn)])
    obtain ⟨q222, c222, R222, s222, t222⟩ := id pr_A_wh
    refine own_go (fun _ k => X221.arraylength hx (by rw [e221]; exact R222.1) (State.isArrayOf_alike hZ.alike R222.2.1) (g := (mkF m 47 #[.val (.ref a_1), .val (.int p_2), .val (.ref a_3), .val (.ref a_3), .val (.int (3 : Int32)), .val (.int (3 : Int32)), .val (.int y2)] [(.ref wh), (.int cn)])) rfl rfl (hb hby own_d6_47) _ k) ?_
    rw [len_of s222 q222]
    show own_Go _ _ _ _ T221 (mkF m 48 #[.val (.ref a_1), .val (.int p_2), .val (.ref a_3), .val (.ref a_3), .val (.int (3 : Int32)), .val (.int (3 : Int32)), .val (.int y2)] [(.int (64 : Int32)), (.int cn)])
    have hc223 : ¬ (cn = (64 : Int32)) := own_t6_1_0 cn hk
    refine own_go (fun _ k => XS.icmpYes X221.here hx rfl (pc0 := 48) (pc' := 85) rfl (hb hby own_d6_48) rfl (Jvm.Free.XT.ii_ne_t hc223) (by decide) (by decide) k) ?_
    show own_Go _ _ _ _ T221 (mkF m 85 #[.val (.ref a_1), .val (.int p_2), .val (.ref a_3), .val (.ref a_3), .val (.int (3 : Int32)), .val (.int (3 : Int32)), .val (.int y2)] [])
    refine own_go (fun _ k => XS.aloadN X221.here hx rfl (hb hby own_d6_85) rfl rfl k) ?_
    show own_Go _ _ _ _ T221 (mkF m 86 #[.val (.ref a_1), .val (.int p_2), .val (.ref a_3), .val (.ref a_3), .val (.int (3 : Int32)), .val (.int (3 : Int32)), .val (.int y2)] [(.ref a_1)])
    obtain ⟨T224, X224, e224, st224⟩ := getF X221 hx hZ hown (host := "") (Or.inl w_19) Via.refl e221 pr_F_a_1_bodyStarts (g := (mkF m 86 #[.val (.ref a_1), .val (.int p_2), .val (.ref a_3), .val (.ref a_3), .val (.int (3 : Int32)), .val (.int (3 : Int32)), .val (.int y2)] [(.ref a_1)])) rfl rfl (hb hby own_d6_86)
    refine own_go (fun _ k => st224 _ k) ?_
    show own_Go _ _ _ _ T224 (mkF m 89 #[.val (.ref a_1), .val (.int p_2), .val (.ref a_3), .val (.ref a_3), .val (.int (3 : Int32)), .val (.int (3 : Int32)), .val (.int y2)] [(.ref wst)])
    refine own_go (fun _ k => XS.aloadN X224.here hx rfl (hb hby own_d6_89) rfl rfl k) ?_
    show own_Go _ _ _ _ T224 (mkF m 90 #[.val (.ref a_1), .val (.int p_2), .val (.ref a_3), .val (.ref a_3), .val (.int (3 : Int32)), .val (.int (3 : Int32)), .val (.int y2)] [(.ref a_1), (.ref wst)])
    obtain ⟨T225, X225, e225, st225⟩ := getF X224 hx hZ hown (host := "") (Or.inl w_53) Via.refl e224 pr_F_a_1_clauseCount (g := (mkF m 90 #[.val (.ref a_1), .val (.int p_2), .val (.ref a_3), .val (.ref a_3), .val (.int (3 : Int32)), .val (.int (3 : Int32)), .val (.int y2)] [(.ref a_1), (.ref wst)])) rfl rfl (hb hby own_d6_90)
    refine own_go (fun _ k => st225 _ k) ?_
    show own_Go _ _ _ _ T225 (mkF m 93 #[.val (.ref a_1), .val (.int p_2), .val (.ref a_3), .val (.ref a_3), .val (.int (3 : Int32)), .val (.int (3 : Int32)), .val (.int y2)] [(.int cn), (.ref wst)])
    obtain ⟨q226, c226, R226, s226, t226⟩ := id pr_A_wst
    have hin226 : ¬ (cn < 0 ∨ c226.slots.size ≤ (cn).toNatClampNeg) := inb_of s226 (own_t6_1_1 cn hk hc223)
    have u226 : c226.slots[(cn).toNatClampNeg]? = some (.int bs) := own_at (k := (cn).toNatClampNeg) t226 s226 hin226 rfl (hgs)
    refine own_go (fun _ k => X225.iaload hx (j := cn) (v := (.int bs)) (by rw [e225]; exact R226.1) (State.isArrayOf_alike hZ.alike R226.2.1) R226.2.2 hin226 u226 (g := (mkF m 93 #[.val (.ref a_1), .val (.int p_2), .val (.ref a_3), .val (.ref a_3), .val (.int (3 : Int32)), .val (.int (3 : Int32)), .val (.int y2)] [(.int cn), (.ref wst)])) rfl rfl (hb hby own_d6_93) _ k) ?_
    show own_Go _ _ _ _ T225 (mkF m 94 #[.val (.ref a_1), .val (.int p_2), .val (.ref a_3), .val (.ref a_3), .val (.int (3 : Int32)), .val (.int (3 : Int32)), .val (.int y2)] [(.int bs)])
    refine own_go (fun _ k => XS.istoreN X225.here hx rfl (hb hby own_d6_94) rfl (l' := #[.val (.ref a_1), .val (.int p_2), .val (.ref a_3), .val (.int bs), .val (.int (3 : Int32)), .val (.int (3 : Int32)), .val (.int y2)]) rfl k) ?_
    show own_Go _ _ _ _ T225 (mkF m 95 #[.val (.ref a_1), .val (.int p_2), .val (.ref a_3), .val (.int bs), .val (.int (3 : Int32)), .val (.int (3 : Int32)), .val (.int y2)] [])
    refine own_go (fun _ k => XS.iloadN X225.here hx rfl (hb hby own_d6_95) rfl k) ?_
    show own_Go _ _ _ _ T225 (mkF m 96 #[.val (.ref a_1), .val (.int p_2), .val (.ref a_3), .val (.int bs), .val (.int (3 : Int32)), .val (.int (3 : Int32)), .val (.int y2)] [(.int bs)])
    refine own_go (fun _ k => XS.aloadN X225.here hx rfl (hb hby own_d6_96) rfl rfl k) ?_
    show own_Go _ _ _ _ T225 (mkF m 97 #[.val (.ref a_1), .val (.int p_2), .val (.ref a_3), .val (.int bs), .val (.int (3 : Int32)), .val (.int (3 : Int32)), .val (.int y2)] [(.ref a_3), (.int bs)])
    obtain ⟨q227, c227, R227, s227, t227⟩ := id pr_A_a_3
    refine own_go (fun _ k => X225.arraylength hx (by rw [e225]; exact R227.1) (State.isArrayOf_alike hZ.alike R227.2.1) (g := (mkF m 97 #[.val (.ref a_1), .val (.int p_2), .val (.ref a_3), .val (.int bs), .val (.int (3 : Int32)), .val (.int (3 : Int32)), .val (.int y2)] [(.ref a_3), (.int bs)])) rfl rfl (hb hby own_d6_97) _ k) ?_
    rw [len_of s227 q227]
    show own_Go _ _ _ _ T225 (mkF m 98 #[.val (.ref a_1), .val (.int p_2), .val (.ref a_3), .val (.int bs), .val (.int (3 : Int32)), .val (.int (3 : Int32)), .val (.int y2)] [(.int (3 : Int32)), (.int bs)])
    refine own_go (fun _ k => XS.iadd X225.here hx rfl (hb hby own_d6_98) rfl k) ?_
    show own_Go _ _ _ _ T225 (mkF m 99 #[.val (.ref a_1), .val (.int p_2), .val (.ref a_3), .val (.int bs), .val (.int (3 : Int32)), .val (.int (3 : Int32)), .val (.int y2)] [(.int (bs + (3 : Int32)))])
    refine own_go (fun _ k => XS.aloadN X225.here hx rfl (hb hby own_d6_99) rfl rfl k) ?_
    show own_Go _ _ _ _ T225 (mkF m 100 #[.val (.ref a_1), .val (.int p_2), .val (.ref a_3), .val (.int bs), .val (.int (3 : Int32)), .val (.int (3 : Int32)), .val (.int y2)] [(.ref a_1), (.int (bs + (3 : Int32)))])
    obtain ⟨T228, X228, e228, st228⟩ := getF X225 hx hZ hown (host := "") (Or.inl w_21) Via.refl e225 pr_F_a_1_bodies (g := (mkF m 100 #[.val (.ref a_1), .val (.int p_2), .val (.ref a_3), .val (.int bs), .val (.int (3 : Int32)), .val (.int (3 : Int32)), .val (.int y2)] [(.ref a_1), (.int (bs + (3 : Int32)))])) rfl rfl (hb hby own_d6_100)
    refine own_go (fun _ k => st228 _ k) ?_
    show own_Go _ _ _ _ T228 (mkF m 103 #[.val (.ref a_1), .val (.int p_2), .val (.ref a_3), .val (.int bs), .val (.int (3 : Int32)), .val (.int (3 : Int32)), .val (.int y2)] [(.ref wb), (.int (bs + (3 : Int32)))])
    obtain ⟨q229, c229, R229, s229, t229⟩ := id pr_A_wb
    refine own_go (fun _ k => X228.arraylength hx (by rw [e228]; exact R229.1) (State.isArrayOf_alike hZ.alike R229.2.1) (g := (mkF m 103 #[.val (.ref a_1), .val (.int p_2), .val (.ref a_3), .val (.int bs), .val (.int (3 : Int32)), .val (.int (3 : Int32)), .val (.int y2)] [(.ref wb), (.int (bs + (3 : Int32)))])) rfl rfl (hb hby own_d6_103) _ k) ?_
    rw [len_of s229 q229]
    show own_Go _ _ _ _ T228 (mkF m 104 #[.val (.ref a_1), .val (.int p_2), .val (.ref a_3), .val (.int bs), .val (.int (3 : Int32)), .val (.int (3 : Int32)), .val (.int y2)] [(.int (64 : Int32)), (.int (bs + (3 : Int32)))])
    have hc230 : ¬ ((64 : Int32) < (bs + (3 : Int32))) := own_t6_0_9 bs hbs
    refine own_go (fun _ k => XS.icmpYes X228.here hx rfl (pc0 := 104) (pc' := 132) rfl (hb hby own_d6_104) rfl (Jvm.Free.XT.ii_le_t hc230) (by decide) (by decide) k) ?_
    show own_Go _ _ _ _ T228 (mkF m 132 #[.val (.ref a_1), .val (.int p_2), .val (.ref a_3), .val (.int bs), .val (.int (3 : Int32)), .val (.int (3 : Int32)), .val (.int y2)] [])
    refine own_go (fun _ k => XS.aloadN X228.here hx rfl (hb hby own_d6_132) rfl rfl k) ?_
    show own_Go _ _ _ _ T228 (mkF m 133 #[.val (.ref a_1), .val (.int p_2), .val (.ref a_3), .val (.int bs), .val (.int (3 : Int32)), .val (.int (3 : Int32)), .val (.int y2)] [(.ref a_3)])
    refine own_go (fun _ k => XS.iconst X228.here hx rfl (hb hby own_d6_133) k) ?_
    show own_Go _ _ _ _ T228 (mkF m 134 #[.val (.ref a_1), .val (.int p_2), .val (.ref a_3), .val (.int bs), .val (.int (3 : Int32)), .val (.int (3 : Int32)), .val (.int y2)] [(.int (0 : Int32)), (.ref a_3)])
    refine own_go (fun _ k => XS.aloadN X228.here hx rfl (hb hby own_d6_134) rfl rfl k) ?_
    show own_Go _ _ _ _ T228 (mkF m 135 #[.val (.ref a_1), .val (.int p_2), .val (.ref a_3), .val (.int bs), .val (.int (3 : Int32)), .val (.int (3 : Int32)), .val (.int y2)] [(.ref a_1), (.int (0 : Int32)), (.ref a_3)])
    obtain ⟨T231, X231, e231, st231⟩ := getF X228 hx hZ hown (host := "") (Or.inl w_21) Via.refl e228 pr_F_a_1_bodies (g := (mkF m 135 #[.val (.ref a_1), .val (.int p_2), .val (.ref a_3), .val (.int bs), .val (.int (3 : Int32)), .val (.int (3 : Int32)), .val (.int y2)] [(.ref a_1), (.int (0 : Int32)), (.ref a_3)])) rfl rfl (hb hby own_d6_135)
    refine own_go (fun _ k => st231 _ k) ?_
    show own_Go _ _ _ _ T231 (mkF m 138 #[.val (.ref a_1), .val (.int p_2), .val (.ref a_3), .val (.int bs), .val (.int (3 : Int32)), .val (.int (3 : Int32)), .val (.int y2)] [(.ref wb), (.int (0 : Int32)), (.ref a_3)])
    refine own_go (fun _ k => XS.iloadN X231.here hx rfl (hb hby own_d6_138) rfl k) ?_
    show own_Go _ _ _ _ T231 (mkF m 139 #[.val (.ref a_1), .val (.int p_2), .val (.ref a_3), .val (.int bs), .val (.int (3 : Int32)), .val (.int (3 : Int32)), .val (.int y2)] [(.int bs), (.ref wb), (.int (0 : Int32)), (.ref a_3)])
    refine own_go (fun _ k => XS.aloadN X231.here hx rfl (hb hby own_d6_139) rfl rfl k) ?_
    show own_Go _ _ _ _ T231 (mkF m 140 #[.val (.ref a_1), .val (.int p_2), .val (.ref a_3), .val (.int bs), .val (.int (3 : Int32)), .val (.int (3 : Int32)), .val (.int y2)] [(.ref a_3), (.int bs), (.ref wb), (.int (0 : Int32)), (.ref a_3)])
    obtain ⟨q232, c232, R232, s232, t232⟩ := id pr_A_a_3
    refine own_go (fun _ k => X231.arraylength hx (by rw [e231]; exact R232.1) (State.isArrayOf_alike hZ.alike R232.2.1) (g := (mkF m 140 #[.val (.ref a_1), .val (.int p_2), .val (.ref a_3), .val (.int bs), .val (.int (3 : Int32)), .val (.int (3 : Int32)), .val (.int y2)] [(.ref a_3), (.int bs), (.ref wb), (.int (0 : Int32)), (.ref a_3)])) rfl rfl (hb hby own_d6_140) _ k) ?_
    rw [len_of s232 q232]
    show own_Go _ _ _ _ T231 (mkF m 141 #[.val (.ref a_1), .val (.int p_2), .val (.ref a_3), .val (.int bs), .val (.int (3 : Int32)), .val (.int (3 : Int32)), .val (.int y2)] [(.int (3 : Int32)), (.int bs), (.ref wb), (.int (0 : Int32)), (.ref a_3)])
    obtain ⟨T233, h233, L233, X233, e233, N233, Kq233, V233, st233⟩ := own_cp X231 hx hZ hown w_55 w_58 w_56 w_57 e231 pr_A_a_3 pr_A_wb (fun _ => rfl) hfb (by decide) (own_t6_0_10 bs hbs hc230) (by decide) (by decide) (own_cl5 (own_t6_0_11 bs hbs hc230)) N216 (by omega) (g := (mkF m 141 #[.val (.ref a_1), .val (.int p_2), .val (.ref a_3), .val (.int bs), .val (.int (3 : Int32)), .val (.int (3 : Int32)), .val (.int y2)] [(.int (3 : Int32)), (.int bs), (.ref wb), (.int (0 : Int32)), (.ref a_3)])) rfl (by rw [hml]; rfl) rfl (hb hby own_d6_141) (by decide) (W := 0) (by show 2 * 0 + _ ≤ _; exact Nat.le_of_eq rfl) (by decide)
    have z234 := Kq233.1
    have K233 : Keep h0 h233 [a_1, wh, wst, wb] := K0.trans Kq233 (allS (Or.inl (List.mem_of_getElem? (i := 3) rfl)) all0)
    refine own_go (fun _ k => st233 _ k) ?_
    show own_Go _ _ _ _ T233 (mkF m 144 #[.val (.ref a_1), .val (.int p_2), .val (.ref a_3), .val (.int bs), .val (.int (3 : Int32)), .val (.int (3 : Int32)), .val (.int y2)] [])
    refine own_go (fun _ k => XS.aloadN X233.here hx rfl (hb hby own_d6_144) rfl rfl k) ?_
    show own_Go _ _ _ _ T233 (mkF m 145 #[.val (.ref a_1), .val (.int p_2), .val (.ref a_3), .val (.int bs), .val (.int (3 : Int32)), .val (.int (3 : Int32)), .val (.int y2)] [(.ref a_1)])
    have f235 : Fld Z h233 a_1 "com/example/kalchas/kalchas/propositional/HornClauses" "heads" "[I" (.ref wh) := (pr_F_a_1_heads.keep Kq233 (ninS (own_ne (by omega)) nin0))
    obtain ⟨T236, X236, e236, st236⟩ := getF X233 hx hZ hown (host := "") (Or.inl w_17) Via.refl e233 f235 (g := (mkF m 145 #[.val (.ref a_1), .val (.int p_2), .val (.ref a_3), .val (.int bs), .val (.int (3 : Int32)), .val (.int (3 : Int32)), .val (.int y2)] [(.ref a_1)])) rfl rfl (hb hby own_d6_145)
    refine own_go (fun _ k => st236 _ k) ?_
    show own_Go _ _ _ _ T236 (mkF m 148 #[.val (.ref a_1), .val (.int p_2), .val (.ref a_3), .val (.int bs), .val (.int (3 : Int32)), .val (.int (3 : Int32)), .val (.int y2)] [(.ref wh)])
    refine own_go (fun _ k => XS.aloadN X236.here hx rfl (hb hby own_d6_148) rfl rfl k) ?_
    show own_Go _ _ _ _ T236 (mkF m 149 #[.val (.ref a_1), .val (.int p_2), .val (.ref a_3), .val (.int bs), .val (.int (3 : Int32)), .val (.int (3 : Int32)), .val (.int y2)] [(.ref a_1), (.ref wh)])
    have f237 : Fld Z h233 a_1 "com/example/kalchas/kalchas/propositional/HornClauses" "clauseCount" "I" (.int cn) := (pr_F_a_1_clauseCount.keep Kq233 (ninS (own_ne (by omega)) nin0))
    obtain ⟨T238, X238, e238, st238⟩ := getF X236 hx hZ hown (host := "") (Or.inl w_53) Via.refl e236 f237 (g := (mkF m 149 #[.val (.ref a_1), .val (.int p_2), .val (.ref a_3), .val (.int bs), .val (.int (3 : Int32)), .val (.int (3 : Int32)), .val (.int y2)] [(.ref a_1), (.ref wh)])) rfl rfl (hb hby own_d6_149)
    refine own_go (fun _ k => st238 _ k) ?_
    show own_Go _ _ _ _ T238 (mkF m 152 #[.val (.ref a_1), .val (.int p_2), .val (.ref a_3), .val (.int bs), .val (.int (3 : Int32)), .val (.int (3 : Int32)), .val (.int y2)] [(.int cn), (.ref wh)])
    refine own_go (fun _ k => XS.iloadN X238.here hx rfl (hb hby own_d6_152) rfl k) ?_
    show own_Go _ _ _ _ T238 (mkF m 153 #[.val (.ref a_1), .val (.int p_2), .val (.ref a_3), .val (.int bs), .val (.int (3 : Int32)), .val (.int (3 : Int32)), .val (.int y2)] [(.int p_2), (.int cn), (.ref wh)])
    have f239 : own_AV Z h233 wh .int (64 : Int32) gh := (pr_A_wh.keep Kq233 (ninS (own_ne (by omega)) nin0))
    obtain ⟨q240, c240, R240, s240, t240⟩ := id f239
    have hin240 : ¬ (cn < 0 ∨ c240.slots.size ≤ (cn).toNatClampNeg) := inb_of s240 (own_t6_1_2 cn hk hc223)
    obtain ⟨T241, h241, X241, e241, W241, st241⟩ := stI X238 hx hZ e238 R240 (j := cn) hin240 (g := (mkF m 153 #[.val (.ref a_1), .val (.int p_2), .val (.ref a_3), .val (.int bs), .val (.int (3 : Int32)), .val (.int (3 : Int32)), .val (.int y2)] [(.int p_2), (.int cn), (.ref wh)])) rfl rfl (hb hby own_d6_153)
    have V241 : own_AV Z h241 wh .int (64 : Int32) (own_upd gh (cn).toNatClampNeg (.int p_2)) := own_AV.set (k := (cn).toNatClampNeg) f239 W241 rfl
    have z242 := W241.size
    have K241 : Keep h0 h241 [a_1, wh, wst, wb] := K233.wr W241 (Or.inl (List.mem_of_getElem? (i := 1) rfl))
    have N241 := Fr.snoc X241 N233 (by omega : n0 ≤ wh)
    refine own_go (fun _ k => st241 _ k) ?_
    show own_Go _ _ _ _ T241 (mkF m 154 #[.val (.ref a_1), .val (.int p_2), .val (.ref a_3), .val (.int bs), .val (.int (3 : Int32)), .val (.int (3 : Int32)), .val (.int y2)] [])
    refine own_go (fun _ k => XS.aloadN X241.here hx rfl (hb hby own_d6_154) rfl rfl k) ?_
    show own_Go _ _ _ _ T241 (mkF m 155 #[.val (.ref a_1), .val (.int p_2), .val (.ref a_3), .val (.int bs), .val (.int (3 : Int32)), .val (.int (3 : Int32)), .val (.int y2)] [(.ref a_1)])
    have f243 : Fld Z h241 a_1 "com/example/kalchas/kalchas/propositional/HornClauses" "bodyStarts" "[I" (.ref wst) := ((pr_F_a_1_bodyStarts.keep Kq233 (ninS (own_ne (by omega)) nin0)).other W241 (Or.inl (own_ne (by omega))))
    obtain ⟨T244, X244, e244, st244⟩ := getF X241 hx hZ hown (host := "") (Or.inl w_19) Via.refl e241 f243 (g := (mkF m 155 #[.val (.ref a_1), .val (.int p_2), .val (.ref a_3), .val (.int bs), .val (.int (3 : Int32)), .val (.int (3 : Int32)), .val (.int y2)] [(.ref a_1)])) rfl rfl (hb hby own_d6_155)
    refine own_go (fun _ k => st244 _ k) ?_
    show own_Go _ _ _ _ T244 (mkF m 158 #[.val (.ref a_1), .val (.int p_2), .val (.ref a_3), .val (.int bs), .val (.int (3 : Int32)), .val (.int (3 : Int32)), .val (.int y2)] [(.ref wst)])
    refine own_go (fun _ k => XS.aloadN X244.here hx rfl (hb hby own_d6_158) rfl rfl k) ?_
    show own_Go _ _ _ _ T244 (mkF m 159 #[.val (.ref a_1), .val (.int p_2), .val (.ref a_3), .val (.int bs), .val (.int (3 : Int32)), .val (.int (3 : Int32)), .val (.int y2)] [(.ref a_1), (.ref wst)])
    have f245 : Fld Z h241 a_1 "com/example/kalchas/kalchas/propositional/HornClauses" "clauseCount" "I" (.int cn) := (f237.other W241 (Or.inl (own_ne (by omega))))
    obtain ⟨T246, X246, e246, st246⟩ := getF X244 hx hZ hown (host := "") (Or.inl w_53) Via.refl e244 f245 (g := (mkF m 159 #[.val (.ref a_1), .val (.int p_2), .val (.ref a_3), .val (.int bs), .val (.int (3 : Int32)), .val (.int (3 : Int32)), .val (.int y2)] [(.ref a_1), (.ref wst)])) rfl rfl (hb hby own_d6_159)
    refine own_go (fun _ k => st246 _ k) ?_
    show own_Go _ _ _ _ T246 (mkF m 162 #[.val (.ref a_1), .val (.int p_2), .val (.ref a_3), .val (.int bs), .val (.int (3 : Int32)), .val (.int (3 : Int32)), .val (.int y2)] [(.int cn), (.ref wst)])
    refine own_go (fun _ k => XS.iconst X246.here hx rfl (hb hby own_d6_162) k) ?_
    show own_Go _ _ _ _ T246 (mkF m 163 #[.val (.ref a_1), .val (.int p_2), .val (.ref a_3), .val (.int bs), .val (.int (3 : Int32)), .val (.int (3 : Int32)), .val (.int y2)] [(.int (1 : Int32)), (.int cn), (.ref wst)])
    refine own_go (fun _ k => XS.iadd X246.here hx rfl (hb hby own_d6_163) rfl k) ?_
    show own_Go _ _ _ _ T246 (mkF m 164 #[.val (.ref a_1), .val (.int p_2), .val (.ref a_3), .val (.int bs), .val (.int (3 : Int32)), .val (.int (3 : Int32)), .val (.int y2)] [(.int (cn + (1 : Int32))), (.ref wst)])
    refine own_go (fun _ k => XS.iloadN X246.here hx rfl (hb hby own_d6_164) rfl k) ?_
    show own_Go _ _ _ _ T246 (mkF m 165 #[.val (.ref a_1), .val (.int p_2), .val (.ref a_3), .val (.int bs), .val (.int (3 : Int32)), .val (.int (3 : Int32)), .val (.int y2)] [(.int bs), (.int (cn + (1 : Int32))), (.ref wst)])
    refine own_go (fun _ k => XS.aloadN X246.here hx rfl (hb hby own_d6_165) rfl rfl k) ?_
    show own_Go _ _ _ _ T246 (mkF m 166 #[.val (.ref a_1), .val (.int p_2), .val (.ref a_3), .val (.int bs), .val (.int (3 : Int32)), .val (.int (3 : Int32)), .val (.int y2)] [(.ref a_3), (.int bs), (.int (cn + (1 : Int32))), (.ref wst)])
    have f247 : own_AV Z h241 a_3 .int (3 : Int32) (own_n3 y0 y1 y2) := ((pr_A_a_3.keep Kq233 (ninS (own_ne (by omega)) nin0)).other W241 (own_ne (by omega)))
    obtain ⟨q248, c248, R248, s248, t248⟩ := id f247
    refine own_go (fun _ k => X246.arraylength hx (by rw [e246]; exact R248.1) (State.isArrayOf_alike hZ.alike R248.2.1) (g := (mkF m 166 #[.val (.ref a_1), .val (.int p_2), .val (.ref a_3), .val (.int bs), .val (.int (3 : Int32)), .val (.int (3 : Int32)), .val (.int y2)] [(.ref a_3), (.int bs), (.int (cn + (1 : Int32))), (.ref wst)])) rfl rfl (hb hby own_d6_166) _ k) ?_
    rw [len_of s248 q248]
    show own_Go _ _ _ _ T246 (mkF m 167 #[.val (.ref a_1), .val (.int p_2), .val (.ref a_3), .val (.int bs), .val (.int (3 : Int32)), .val (.int (3 : Int32)), .val (.int y2)] [(.int (3 : Int32)), (.int bs), (.int (cn + (1 : Int32))), (.ref wst)])
    refine own_go (fun _ k => XS.iadd X246.here hx rfl (hb hby own_d6_167) rfl k) ?_
    show own_Go _ _ _ _ T246 (mkF m 168 #[.val (.ref a_1), .val (.int p_2), .val (.ref a_3), .val (.int bs), .val (.int (3 : Int32)), .val (.int (3 : Int32)), .val (.int y2)] [(.int (bs + (3 : Int32))), (.int (cn + (1 : Int32))), (.ref wst)])
    have f249 : own_AV Z h241 wst .int (65 : Int32) gs := ((pr_A_wst.keep Kq233 (ninS (own_ne (by omega)) nin0)).other W241 (own_ne (by omega)))
    obtain ⟨q250, c250, R250, s250, t250⟩ := id f249
    have hin250 : ¬ ((cn + (1 : Int32)) < 0 ∨ c250.slots.size ≤ ((cn + (1 : Int32))).toNatClampNeg) := inb_of s250 (own_t6_1_3 cn hk hc223)
    obtain ⟨T251, h251, X251, e251, W251, st251⟩ := stI X246 hx hZ e246 R250 (j := (cn + (1 : Int32))) hin250 (g := (mkF m 168 #[.val (.ref a_1), .val (.int p_2), .val (.ref a_3), .val (.int bs), .val (.int (3 : Int32)), .val (.int (3 : Int32)), .val (.int y2)] [(.int (bs + (3 : Int32))), (.int (cn + (1 : Int32))), (.ref wst)])) rfl rfl (hb hby own_d6_168)
    have V251 : own_AV Z h251 wst .int (65 : Int32) (own_upd gs ((cn + (1 : Int32))).toNatClampNeg (.int (bs + (3 : Int32)))) := own_AV.set (k := ((cn + (1 : Int32))).toNatClampNeg) f249 W251 rfl
    have z252 := W251.size
    have K251 : Keep h0 h251 [a_1, wh, wst, wb] := K241.wr W251 (Or.inl (List.mem_of_getElem? (i := 2) rfl))
    have N251 := Fr.snoc X251 N241 (by omega : n0 ≤ wst)
    refine own_go (fun _ k => st251 _ k) ?_
    show own_Go _ _ _ _ T251 (mkF m 169 #[.val (.ref a_1), .val (.int p_2), .val (.ref a_3), .val (.int bs), .val (.int (3 : Int32)), .val (.int (3 : Int32)), .val (.int y2)] [])
    refine own_go (fun _ k => XS.aloadN X251.here hx rfl (hb hby own_d6_169) rfl rfl k) ?_
    show own_Go _ _ _ _ T251 (mkF m 170 #[.val (.ref a_1), .val (.int p_2), .val (.ref a_3), .val (.int bs), .val (.int (3 : Int32)), .val (.int (3 : Int32)), .val (.int y2)] [(.ref a_1)])
    refine own_go (fun _ k => XS.dup X251.here hx rfl (hb hby own_d6_170) rfl rfl k) ?_
    show own_Go _ _ _ _ T251 (mkF m 171 #[.val (.ref a_1), .val (.int p_2), .val (.ref a_3), .val (.int bs), .val (.int (3 : Int32)), .val (.int (3 : Int32)), .val (.int y2)] [(.ref a_1), (.ref a_1)])
    have f253 : Fld Z h251 a_1 "com/example/kalchas/kalchas/propositional/HornClauses" "clauseCount" "I" (.int cn) := (f245.other W251 (Or.inl (own_ne (by omega))))
    obtain ⟨T254, X254, e254, st254⟩ := getF X251 hx hZ hown (host := "") (Or.inl w_53) Via.refl e251 f253 (g := (mkF m 171 #[.val (.ref a_1), .val (.int p_2), .val (.ref a_3), .val (.int bs), .val (.int (3 : Int32)), .val (.int (3 : Int32)), .val (.int y2)] [(.ref a_1), (.ref a_1)])) rfl rfl (hb hby own_d6_171)
    refine own_go (fun _ k => st254 _ k) ?_
    show own_Go _ _ _ _ T254 (mkF m 174 #[.val (.ref a_1), .val (.int p_2), .val (.ref a_3), .val (.int bs), .val (.int (3 : Int32)), .val (.int (3 : Int32)), .val (.int y2)] [(.int cn), (.ref a_1)])
    refine own_go (fun _ k => XS.iconst X254.here hx rfl (hb hby own_d6_174) k) ?_
    show own_Go _ _ _ _ T254 (mkF m 175 #[.val (.ref a_1), .val (.int p_2), .val (.ref a_3), .val (.int bs), .val (.int (3 : Int32)), .val (.int (3 : Int32)), .val (.int y2)] [(.int (1 : Int32)), (.int cn), (.ref a_1)])
    refine own_go (fun _ k => XS.iadd X254.here hx rfl (hb hby own_d6_175) rfl k) ?_
    show own_Go _ _ _ _ T254 (mkF m 176 #[.val (.ref a_1), .val (.int p_2), .val (.ref a_3), .val (.int bs), .val (.int (3 : Int32)), .val (.int (3 : Int32)), .val (.int y2)] [(.int (cn + (1 : Int32))), (.ref a_1)])
    have f255 : Exa Z h251 a_1 "com/example/kalchas/kalchas/propositional/HornClauses" := (((pr_E_a_1.keep Kq233).wr W241).wr W251)
    obtain ⟨T256, h256, X256, e256, W256, st256⟩ := putF X254 hx hZ hown (host := "") (Or.inl w_53) Via.refl e254 f253 f255 (Or.inl w_54) w_9 (ty := .int) (by decide) rfl rfl (g := (mkF m 176 #[.val (.ref a_1), .val (.int p_2), .val (.ref a_3), .val (.int bs), .val (.int (3 : Int32)), .val (.int (3 : Int32)), .val (.int y2)] [(.int (cn + (1 : Int32))), (.ref a_1)])) rfl rfl (hb hby own_d6_176)
    have z257 := W256.size
    have K256 : Keep h0 h256 [a_1, wh, wst, wb] := K251.wr W256 (Or.inl (List.mem_of_getElem? (i := 0) rfl))
    have N256 := Fr.snoc X256 N251 (by omega : n0 ≤ a_1)
    have Fw256 : Fld Z h256 a_1 "com/example/kalchas/kalchas/propositional/HornClauses" "clauseCount" "I" (.int (cn + (1 : Int32))) := Fld.same W256 f253
    refine own_go (fun _ k => st256 _ k) ?_
    show own_Go _ _ _ _ T256 (mkF m 179 #[.val (.ref a_1), .val (.int p_2), .val (.ref a_3), .val (.int bs), .val (.int (3 : Int32)), .val (.int (3 : Int32)), .val (.int y2)] [])
    refine own_go (fun _ k => XS.aloadN X256.here hx rfl (hb hby own_d6_179) rfl rfl k) ?_
    show own_Go _ _ _ _ T256 (mkF m 180 #[.val (.ref a_1), .val (.int p_2), .val (.ref a_3), .val (.int bs), .val (.int (3 : Int32)), .val (.int (3 : Int32)), .val (.int y2)] [(.ref a_1)])
    refine own_go (fun _ k => XS.aconstNull X256.here hx rfl (hb hby own_d6_180) k) ?_
    show own_Go _ _ _ _ T256 (mkF m 181 #[.val (.ref a_1), .val (.int p_2), .val (.ref a_3), .val (.int bs), .val (.int (3 : Int32)), .val (.int (3 : Int32)), .val (.int y2)] [.null, (.ref a_1)])
    have f258 : Exa Z h256 a_1 "com/example/kalchas/kalchas/propositional/HornClauses" := (f255.wr W256)
    have f259 : Fld Z h256 a_1 "com/example/kalchas/kalchas/propositional/HornClauses" "occurrences" "[I" w_occ := ((((pr_F_a_1_occurrences.keep Kq233 (ninS (own_ne (by omega)) nin0)).other W241 (Or.inl (own_ne (by omega)))).other W251 (Or.inl (own_ne (by omega)))).other W256 (Or.inr (slot_ne (Or.inl w_29) (Or.inl w_54) (by decide) (t := (.array .int)) (t' := .int) (by decide) (by decide))))
    obtain ⟨T260, h260, X260, e260, W260, st260⟩ := putF X256 hx hZ hown (host := "") (Or.inl w_28) Via.refl e256 f259 f258 (Or.inl w_29) w_9 (ty := (.array .int)) (by decide) rfl rfl (g := (mkF m 181 #[.val (.ref a_1), .val (.int p_2), .val (.ref a_3), .val (.int bs), .val (.int (3 : Int32)), .val (.int (3 : Int32)), .val (.int y2)] [.null, (.ref a_1)])) rfl rfl (hb hby own_d6_181)
    have z261 := W260.size
    have K260 : Keep h0 h260 [a_1, wh, wst, wb] := K256.wr W260 (Or.inl (List.mem_of_getElem? (i := 0) rfl))
    have N260 := Fr.snoc X260 N256 (by omega : n0 ≤ a_1)
    have Fw260 : Fld Z h260 a_1 "com/example/kalchas/kalchas/propositional/HornClauses" "occurrences" "[I" .null := Fld.same W260 f259
    refine own_go (fun _ k => st260 _ k) ?_
    show own_Go _ _ _ _ T260 (mkF m 184 #[.val (.ref a_1), .val (.int p_2), .val (.ref a_3), .val (.int bs), .val (.int (3 : Int32)), .val (.int (3 : Int32)), .val (.int y2)] [])
    obtain ⟨fs, hr, hrun, hended, hRW⟩ := X260.leaveW hS216 (by rw [e260]; omega) (v := none) (fun _ => rfl)
    refine ⟨_, _, X260.returnOut hx Bd.returns (hb hby own_d6_184) hr, hrun, hended, _, _, rfl, ?_, own_monoW hRW (by rw [y216]; decide) (by rw [z216]; decide)⟩
    refine ⟨?_, trivial⟩
    show own_Q6_1 Z a_1 p_2 a_3 wh wst wb gh gs gb bs w_occ (3 : Int32) y0 y1 y2 cn h0 n0 _ T260.heap _
    rw [e260]
    have f263 : own_AV Z h260 wst .int (65 : Int32) (own_upd gs ((cn + (1 : Int32))).toNatClampNeg (.int (bs + (3 : Int32)))) := ((V251.other W256 (own_ne (by omega))).other W260 (own_ne (by omega)))
    have f264 : own_AV Z h260 wb .int (64 : Int32) (own_cpf (own_n3 y0 y1 y2) ((0 : Int32)).toNatClampNeg gb (bs).toNatClampNeg ((3 : Int32)).toNatClampNeg) := ((((V233.other W241 (own_ne (by omega))).other W251 (own_ne (by omega))).other W256 (own_ne (by omega))).other W260 (own_ne (by omega)))
    have f265 : Exa Z h260 a_1 "com/example/kalchas/kalchas/propositional/HornClauses" := (f258.wr W260)
    have f266 : Fld Z h260 a_1 "com/example/kalchas/kalchas/propositional/HornClauses" "variableCount" "I" (.int (3 : Int32)) := (((((pr_F_a_1_variableCount.keep Kq233 (ninS (own_ne (by omega)) nin0)).other W241 (Or.inl (own_ne (by omega)))).other W251 (Or.inl (own_ne (by omega)))).other W256 (Or.inr (slot_ne (Or.inl w_31) (Or.inl w_54) (by decide) (t := .int) (t' := .int) (by decide) (by decide)))).other W260 (Or.inr (slot_ne (Or.inl w_31) (Or.inl w_29) (by decide) (t := .int) (t' := (.array .int)) (by decide) (by decide))))
    have f267 : Fld Z h260 a_1 "com/example/kalchas/kalchas/propositional/HornClauses" "clauseCount" "I" (.int (cn + (1 : Int32))) := (Fw256.other W260 (Or.inr (slot_ne (Or.inl w_54) (Or.inl w_29) (by decide) (t := .int) (t' := (.array .int)) (by decide) (by decide))))
    have f268 : Fld Z h260 a_1 "com/example/kalchas/kalchas/propositional/HornClauses" "heads" "[I" (.ref wh) := ((((f235.other W241 (Or.inl (own_ne (by omega)))).other W251 (Or.inl (own_ne (by omega)))).other W256 (Or.inr (slot_ne (Or.inl w_18) (Or.inl w_54) (by decide) (t := (.array .int)) (t' := .int) (by decide) (by decide)))).other W260 (Or.inr (slot_ne (Or.inl w_18) (Or.inl w_29) (by decide) (t := (.array .int)) (t' := (.array .int)) (by decide) (by decide))))
    have f269 : Fld Z h260 a_1 "com/example/kalchas/kalchas/propositional/HornClauses" "bodyStarts" "[I" (.ref wst) := (((f243.other W251 (Or.inl (own_ne (by omega)))).other W256 (Or.inr (slot_ne (Or.inl w_20) (Or.inl w_54) (by decide) (t := (.array .int)) (t' := .int) (by decide) (by decide)))).other W260 (Or.inr (slot_ne (Or.inl w_20) (Or.inl w_29) (by decide) (t := (.array .int)) (t' := (.array .int)) (by decide) (by decide))))
    have f270 : Fld Z h260 a_1 "com/example/kalchas/kalchas/propositional/HornClauses" "bodies" "[I" (.ref wb) := (((((pr_F_a_1_bodies.keep Kq233 (ninS (own_ne (by omega)) nin0)).other W241 (Or.inl (own_ne (by omega)))).other W251 (Or.inl (own_ne (by omega)))).other W256 (Or.inr (slot_ne (Or.inl w_22) (Or.inl w_54) (by decide) (t := (.array .int)) (t' := .int) (by decide) (by decide)))).other W260 (Or.inr (slot_ne (Or.inl w_22) (Or.inl w_29) (by decide) (t := (.array .int)) (t' := (.array .int)) (by decide) (by decide))))
    have f271 : own_AV Z h260 wh .int (64 : Int32) (own_upd gh (cn).toNatClampNeg (.int p_2)) := (((V241.other W251 (own_ne (by omega))).other W256 (own_ne (by omega))).other W260 (own_ne (by omega)))
    exact ⟨rfl, N260, K260, f265, f266, f267, f268, f269, f270, Fw260, f271, f263, f264⟩
theorem own_d13_0 : decode jdk_65_method_131_code 0 = .ok (.iload_n 1, 1) := by decide +kernel
theorem own_d13_1 : decode jdk_65_method_131_code 1 = .ok (.iload_n 0, 1) := by decide +kernel
theorem own_d13_2 : decode jdk_65_method_131_code 2 = .ok (.if_icmp .ge 35, 3) := by decide +kernel
theorem own_d13_37 : decode jdk_65_method_131_code 37 = .ok (.return_, 1) := by decide +kernel
theorem own_ef_own_rm13 (m : MethodId) (x0 : Int32) (x1 : Int32) : entryFrame m #[(.int x0), (.int x1)] 2 = mkF m 0 #[.val (.int x0), .val (.int x1)] [] := by first | (simp [entryFrame, mkF, argsToLocals, Value.category]; done) | rfl
def own_Q13 (Z : State) (p_1 : Int32) (p_2 : Int32) (h0 : Heap) (n0 : Nat) (v : Option Value) (h : Heap) (L : List Loc) : Prop := v = none ∧ Fr n0 L ∧ h = h0
set_option maxRecDepth 65536 in
set_option maxHeartbeats 40000000 in
theorem own_rm13 (l : Launch) (Z : State) (a0 : Array Value) (hw : ∀ d ∈ tables_1, d.before a0 Z = true) (ws : List Jvm.Cond) (p_1 : Int32) (p_2 : Int32) (h0 : Heap) (n0 : Nat) (Z0 : n0 ≤ h0.size) (h1 : ¬ (p_2 < p_1)) :
    MetFree l (⟨"java/util/Arrays", "checkLength", "(II)V"⟩ : MethodName) (head1 (Jvm.Cond.code (⟨"java/util/Arrays", "checkLength", "(II)V"⟩ : MethodName) jdk_65_method_131_code 2 none :: ws) ({ frames := 0, cells := 0, slots := 0, locals := 0 } : Room)) (fun a U => a = #[(.int p_1), (.int p_2)] ∧ Z.Warmed39 U.vm ∧ U.heap = h0) (fun _ _ _ _ _ => True) (fun _ U o U' => ∃ v L, o = .returned v ∧ own_Q13 Z p_1 p_2 h0 n0 v U'.heap L ∧ FrameEnd U o U' L ({ frames := 0, cells := 0, slots := 0, locals := 0 } : Room).cells ({ frames := 0, cells := 0, slots := 0, locals := 0 } : Room).slots) := by
  refine MetFree.of_bodySF (plainFor_of_name own_pn2) hisR ?_
  intro p e s m args below meth c s₁ Bd hml0 hP hK
  obtain ⟨rfl, hZ, hh⟩ := hP
  have hx := Bd.exec
  have hby := Bd.bytes
  have hml : c.maxLocals = 2 := hml0
  have hown : s.vm.findClass "java/util/Arrays" = some m.cls := findClass_of_methodNamed Bd.named
  have hnm := (name_of_methodNamed Bd.named Bd.method).1
  have X0 : Stand p l e ({ frames := 0, cells := 0, slots := 0, locals := 0 } : Room) s m #[(.int p_1), (.int p_2)] below meth c s₁ [] 0 0 := Stand.of_body Bd
  have e0 : s₁.heap = h0 := by rw [← hh, Bd.state]; rfl
  have N0 := Fr.nil n0
  have z0 : n0 ≤ h0.size := Z0
  show own_Go p.tables e below (fun t o => t.status = .running ∧ Ended t below o ∧ ∃ v L, o = .returned v ∧ own_Q13 Z p_1 p_2 h0 n0 v t.heap L ∧ FrameEnd s o t L ({ frames := 0, cells := 0, slots := 0, locals := 0 } : Room).cells ({ frames := 0, cells := 0, slots := 0, locals := 0 } : Room).slots) s₁ (entryFrame m #[(.int p_1), (.int p_2)] 2)
  rw [own_ef_own_rm13 m p_1 p_2]
  show own_Go _ _ _ _ s₁ (mkF m 0 #[.val (.int p_1), .val (.int p_2)] [])
  refine own_go (fun _ k => XS.iloadN X0.here hx rfl (hb hby own_d13_0) rfl k) ?_
  show own_Go _ _ _ _ s₁ (mkF m 1 #[.val (.int p_1), .val (.int p_2)] [(.int p_2)])
  refine own_go (fun _ k => XS.iloadN X0.here hx rfl (hb hby own_d13_1) rfl k) ?_
  show own_Go _ _ _ _ s₁ (mkF m 2 #[.val (.int p_1), .val (.int p_2)] [(.int p_1), (.int p_2)])
  refine own_go (fun _ k => XS.icmpYes X0.here hx rfl (pc0 := 2) (pc' := 37) rfl (hb hby own_d13_2) rfl (Jvm.Free.XT.ii_ge_t h1) (by decide) (by decide) k) ?_
  show own_Go _ _ _ _ s₁ (mkF m 37 #[.val (.int p_1), .val (.int p_2)] [])
  obtain ⟨fs, hr, hrun, hended, hW, hsame⟩ := X0.leave (v := none) (fun _ => rfl)
  refine ⟨_, _, X0.returnOut hx Bd.returns (hb hby own_d13_37) hr, hrun, hended, _, _, rfl, ?_, ⟨_, rfl⟩, hW, hsame.mono (by decide) (by decide)⟩
  show own_Q13 Z p_1 p_2 h0 n0 _ s₁.heap _
  rw [e0]
  exact ⟨rfl, N0, rfl⟩
theorem own_d14_0 : decode jdk_29_method_69_code 0 = .ok (.iload_n 0, 1) := by decide +kernel
theorem own_d14_1 : decode jdk_29_method_69_code 1 = .ok (.iload_n 1, 1) := by decide +kernel
theorem own_d14_2 : decode jdk_29_method_69_code 2 = .ok (.if_icmp .gt 7, 3) := by decide +kernel
theorem own_d14_5 : decode jdk_29_method_69_code 5 = .ok (.iload_n 0, 1) := by decide +kernel
theorem own_d14_6 : decode jdk_29_method_69_code 6 = .ok (.goto 4, 3) := by decide +kernel
theorem own_d14_9 : decode jdk_29_method_69_code 9 = .ok (.iload_n 1, 1) := by decide +kernel
theorem own_d14_10 : decode jdk_29_method_69_code 10 = .ok (.ireturn, 1) := by decide +kernel
theorem own_ef_own_rm14 (m : MethodId) (x0 : Int32) (x1 : Int32) : entryFrame m #[(.int x0), (.int x1)] 2 = mkF m 0 #[.val (.int x0), .val (.int x1)] [] := by first | (simp [entryFrame, mkF, argsToLocals, Value.category]; done) | rfl
def own_rm14_ret (p_1 : Int32) (p_2 : Int32) : Int32 := if p_2 < p_1 then p_2 else p_1
def own_Q14 (Z : State) (p_1 : Int32) (p_2 : Int32) (h0 : Heap) (n0 : Nat) (v : Option Value) (h : Heap) (L : List Loc) : Prop := ∃ (r_ : Int32), v = some (.int r_) ∧ Fr n0 L ∧ r_ = (own_rm14_ret p_1 p_2) ∧ h = h0
set_option maxRecDepth 65536 in
set_option maxHeartbeats 40000000 in
theorem own_rm14 (l : Launch) (Z : State) (a0 : Array Value) (hw : ∀ d ∈ tables_1, d.before a0 Z = true) (ws : List Jvm.Cond) (p_1 : Int32) (p_2 : Int32) (h0 : Heap) (n0 : Nat) (Z0 : n0 ≤ h0.size) :
    MetFree l (⟨"java/lang/Math", "min", "(II)I"⟩ : MethodName) (head1 (Jvm.Cond.code (⟨"java/lang/Math", "min", "(II)I"⟩ : MethodName) jdk_29_method_69_code 2 (some .int) :: ws) ({ frames := 0, cells := 0, slots := 0, locals := 0 } : Room)) (fun a U => a = #[(.int p_1), (.int p_2)] ∧ Z.Warmed39 U.vm ∧ U.heap = h0) (fun _ _ _ _ _ => True) (fun _ U o U' => ∃ v L, o = .returned v ∧ own_Q14 Z p_1 p_2 h0 n0 v U'.heap L ∧ FrameEnd U o U' L ({ frames := 0, cells := 0, slots := 0, locals := 0 } : Room).cells ({ frames := 0, cells := 0, slots := 0, locals := 0 } : Room).slots) := by
  refine MetFree.of_bodySF (Jvm.Free.JP.mathPlain rfl (by decide +kernel)) hisR ?_
  intro p e s m args below meth c s₁ Bd hml0 hP hK
  obtain ⟨rfl, hZ, hh⟩ := hP
  have hx := Bd.exec
  have hby := Bd.bytes
  have hml : c.maxLocals = 2 := hml0
  have hown : s.vm.findClass "java/lang/Math" = some m.cls := findClass_of_methodNamed Bd.named
  have hnm := (name_of_methodNamed Bd.named Bd.method).1
  have X0 : Stand p l e ({ frames := 0, cells := 0, slots := 0, locals := 0 } : Room) s m #[(.int p_1), (.int p_2)] below meth c s₁ [] 0 0 := Stand.of_body Bd
  have e0 : s₁.heap = h0 := by rw [← hh, Bd.state]; rfl
  have N0 := Fr.nil n0
  have z0 : n0 ≤ h0.size := Z0
  show own_Go p.tables e below (fun t o => t.status = .running ∧ Ended t below o ∧ ∃ v L, o = .returned v ∧ own_Q14 Z p_1 p_2 h0 n0 v t.heap L ∧ FrameEnd s o t L ({ frames := 0, cells := 0, slots := 0, locals := 0 } : Room).cells ({ frames := 0, cells := 0, slots := 0, locals := 0 } : Room).slots) s₁ (entryFrame m #[(.int p_1), (.int p_2)] 2)
  rw [own_ef_own_rm14 m p_1 p_2]
  show own_Go _ _ _ _ s₁ (mkF m 0 #[.val (.int p_1), .val (.int p_2)] [])
  refine own_go (fun _ k => XS.iloadN X0.here hx rfl (hb hby own_d14_0) rfl k) ?_
  show own_Go _ _ _ _ s₁ (mkF m 1 #[.val (.int p_1), .val (.int p_2)] [(.int p_1)])
  refine own_go (fun _ k => XS.iloadN X0.here hx rfl (hb hby own_d14_1) rfl k) ?_
  show own_Go _ _ _ _ s₁ (mkF m 2 #[.val (.int p_1), .val (.int p_2)] [(.int p_2), (.int p_1)])
  by_cases hc1 : p_2 < p_1
  · refine own_go (fun _ k => XS.icmpYes X0.here hx rfl (pc0 := 2) (pc' := 9) rfl (hb hby own_d14_2) rfl (Jvm.Free.XT.ii_gt_t hc1) (by decide) (by decide) k) ?_
    show own_Go _ _ _ _ s₁ (mkF m 9 #[.val (.int p_1), .val (.int p_2)] [])
    refine own_go (fun _ k => XS.iloadN X0.here hx rfl (hb hby own_d14_9) rfl k) ?_
    show own_Go _ _ _ _ s₁ (mkF m 10 #[.val (.int p_1), .val (.int p_2)] [(.int p_2)])
    obtain ⟨fs, hr, hrun, hended, hW, hsame⟩ := X0.leave (v := some (.int p_2)) (fun h => by rw [Bd.returns] at h; cases h)
    refine ⟨_, _, retOut X0 hx Bd.returns rfl (Or.inl ⟨rfl, Or.inl rfl, _, rfl⟩) (hb hby own_d14_10) hr, hrun, hended, _, _, rfl, ?_, ⟨_, rfl⟩, hW, hsame.mono (by decide) (by decide)⟩
    show own_Q14 Z p_1 p_2 h0 n0 _ s₁.heap _
    rw [e0]
    exact ⟨_, rfl, N0, (by first | rfl | simp only [own_rm14_ret, if_pos hc1]), rfl⟩
  · refine own_go (fun _ k => XS.icmpNo X0.here hx rfl (hb hby own_d14_2) rfl (Jvm.Free.XT.ii_gt_f hc1) k) ?_
    show own_Go _ _ _ _ s₁ (mkF m 5 #[.val (.int p_1), .val (.int p_2)] [])
    refine own_go (fun _ k => XS.iloadN X0.here hx rfl (hb hby own_d14_5) rfl k) ?_
    show own_Go _ _ _ _ s₁ (mkF m 6 #[.val (.int p_1), .val (.int p_2)] [(.int p_1)])
    refine own_go (fun _ k => XS.goto X0.here hx rfl (pc0 := 6) (pc' := 10) rfl (hb hby own_d14_6) (by decide) (by decide) k) ?_
    show own_Go _ _ _ _ s₁ (mkF m 10 #[.val (.int p_1), .val (.int p_2)] [(.int p_1)])
    obtain ⟨fs, hr, hrun, hended, hW, hsame⟩ := X0.leave (v := some (.int p_1)) (fun h => by rw [Bd.returns] at h; cases h)
    refine ⟨_, _, retOut X0 hx Bd.returns rfl (Or.inl ⟨rfl, Or.inl rfl, _, rfl⟩) (hb hby own_d14_10) hr, hrun, hended, _, _, rfl, ?_, ⟨_, rfl⟩, hW, hsame.mono (by decide) (by decide)⟩
    show own_Q14 Z p_1 p_2 h0 n0 _ s₁.heap _
    rw [e0]
    exact ⟨_, rfl, N0, (by first | rfl | simp only [own_rm14_ret, if_neg hc1]), rfl⟩
theorem own_d12_0 : decode jdk_65_method_137_code 0 = .ok (.iload_n 1, 1) := by decide +kernel
theorem own_d12_1 : decode jdk_65_method_137_code 1 = .ok (.iload_n 2, 1) := by decide +kernel
theorem own_d12_2 : decode jdk_65_method_137_code 2 = .ok (.invokestatic 343, 3) := by decide +kernel
theorem own_d12_5 : decode jdk_65_method_137_code 5 = .ok (.iload_n 2, 1) := by decide +kernel
theorem own_d12_6 : decode jdk_65_method_137_code 6 = .ok (.iload_n 1, 1) := by decide +kernel
theorem own_d12_7 : decode jdk_65_method_137_code 7 = .ok (.isub, 1) := by decide +kernel
theorem own_d12_8 : decode jdk_65_method_137_code 8 = .ok (.istore_n 3, 1) := by decide +kernel
theorem own_d12_9 : decode jdk_65_method_137_code 9 = .ok (.iload_n 3, 1) := by decide +kernel
theorem own_d12_10 : decode jdk_65_method_137_code 10 = .ok (.newarray .int, 2) := by decide +kernel
theorem own_d12_12 : decode jdk_65_method_137_code 12 = .ok (.astore 4, 2) := by decide +kernel
theorem own_d12_14 : decode jdk_65_method_137_code 14 = .ok (.aload_n 0, 1) := by decide +kernel
theorem own_d12_15 : decode jdk_65_method_137_code 15 = .ok (.iload_n 1, 1) := by decide +kernel
theorem own_d12_16 : decode jdk_65_method_137_code 16 = .ok (.aload 4, 2) := by decide +kernel
theorem own_d12_18 : decode jdk_65_method_137_code 18 = .ok (.iconst 0, 1) := by decide +kernel
theorem own_d12_19 : decode jdk_65_method_137_code 19 = .ok (.aload_n 0, 1) := by decide +kernel
theorem own_d12_20 : decode jdk_65_method_137_code 20 = .ok (.arraylength, 1) := by decide +kernel
theorem own_d12_21 : decode jdk_65_method_137_code 21 = .ok (.iload_n 1, 1) := by decide +kernel
theorem own_d12_22 : decode jdk_65_method_137_code 22 = .ok (.isub, 1) := by decide +kernel
theorem own_d12_23 : decode jdk_65_method_137_code 23 = .ok (.iload_n 3, 1) := by decide +kernel
theorem own_d12_24 : decode jdk_65_method_137_code 24 = .ok (.invokestatic 304, 3) := by decide +kernel
theorem own_d12_27 : decode jdk_65_method_137_code 27 = .ok (.invokestatic 150, 3) := by decide +kernel
theorem own_d12_30 : decode jdk_65_method_137_code 30 = .ok (.aload 4, 2) := by decide +kernel
theorem own_d12_32 : decode jdk_65_method_137_code 32 = .ok (.areturn, 1) := by decide +kernel
theorem own_ef_own_rm12 (m : MethodId) (x0 : Addr) (x1 : Int32) (x2 : Int32) : entryFrame m #[(.ref x0), (.int x1), (.int x2)] 5 = mkF m 0 #[.val (.ref x0), .val (.int x1), .val (.int x2), .unset, .unset] [] := by first | (simp [entryFrame, mkF, argsToLocals, Value.category]; done) | rfl
set_option maxRecDepth 65536 in
set_option maxHeartbeats 4000000 in
theorem own_t12_0 (p_2 : Int32) (p_3 : Int32) (hlo : 0 ≤ p_2.toInt ∧ p_2.toInt ≤ p_3.toInt ∧ p_3.toInt ≤ 9 ∧ p_3.toInt - p_2.toInt ≤ 3) : ¬ (p_3 < p_2) := by
  have e := hlo
  rw [Int32.lt_iff_toInt_lt]
  omega
set_option maxRecDepth 65536 in
set_option maxHeartbeats 4000000 in
theorem own_t12_1 (p_2 : Int32) (p_3 : Int32) (hlo : 0 ≤ p_2.toInt ∧ p_2.toInt ≤ p_3.toInt ∧ p_3.toInt ≤ 9 ∧ p_3.toInt - p_2.toInt ≤ 3) : ¬ (p_3 - p_2) < 0 := by
  have s := own_subx p_3 p_2 (by omega) (by omega)
  have e0 := own_0i
  simp only [Int32.lt_iff_toInt_lt, e0]
  omega
set_option maxRecDepth 65536 in
set_option maxHeartbeats 4000000 in
theorem own_t12_2 (p_2 : Int32) (p_3 : Int32) (hlo : 0 ≤ p_2.toInt ∧ p_2.toInt ≤ p_3.toInt ∧ p_3.toInt ≤ 9 ∧ p_3.toInt - p_2.toInt ≤ 3) : (p_3 - p_2).toNatClampNeg ≤ 3 := by
  have s := own_subx p_3 p_2 (by omega) (by omega)
  have b := own_nat (x := p_3 - p_2) (by omega)
  omega
set_option maxRecDepth 65536 in
set_option maxHeartbeats 4000000 in
theorem own_t12_3 (p_2 : Int32) (p_3 : Int32) (r8 : Int32) (hlo : 0 ≤ p_2.toInt ∧ p_2.toInt ≤ p_3.toInt ∧ p_3.toInt ≤ 9 ∧ p_3.toInt - p_2.toInt ≤ 3) (hr_r8 : r8 = (own_rm14_ret ((64 : Int32) - p_2) (p_3 - p_2))) : r8 = (p_3 - p_2) := by
  rw [hr_r8]
  unfold own_rm14_ret
  have e : (64 : Int32).toInt = 64 := by decide
  have s := own_subx p_3 p_2 (by omega) (by omega)
  have t := own_subx 64 p_2 (by omega) (by omega)
  split
  · rfl
  · rename_i q
    rw [Int32.lt_iff_toInt_lt] at q
    apply Int32.toInt_inj.mp
    omega
set_option maxRecDepth 65536 in
set_option maxHeartbeats 4000000 in
theorem own_t12_4 (p_2 : Int32) (p_3 : Int32) (r8 : Int32) (hlo : 0 ≤ p_2.toInt ∧ p_2.toInt ≤ p_3.toInt ∧ p_3.toInt ≤ 9 ∧ p_3.toInt - p_2.toInt ≤ 3) (hr_r8 : r8 = (own_rm14_ret ((64 : Int32) - p_2) (p_3 - p_2))) (hrr : r8 = (p_3 - p_2)) : ¬ p_2 < 0 := by
  have e0 := own_0i
  simp only [Int32.lt_iff_toInt_lt, e0]
  omega
set_option maxRecDepth 65536 in
set_option maxHeartbeats 4000000 in
theorem own_t12_5 (p_2 : Int32) (p_3 : Int32) (r8 : Int32) (hlo : 0 ≤ p_2.toInt ∧ p_2.toInt ≤ p_3.toInt ∧ p_3.toInt ≤ 9 ∧ p_3.toInt - p_2.toInt ≤ 3) (hr_r8 : r8 = (own_rm14_ret ((64 : Int32) - p_2) (p_3 - p_2))) (hrr : r8 = (p_3 - p_2)) : ¬ r8 < 0 := by
  rw [hrr]
  have s := own_subx p_3 p_2 (by omega) (by omega)
  have e0 := own_0i
  simp only [Int32.lt_iff_toInt_lt, e0]
  omega
set_option maxRecDepth 65536 in
set_option maxHeartbeats 4000000 in
theorem own_t12_6 (p_2 : Int32) (p_3 : Int32) (r8 : Int32) (hlo : 0 ≤ p_2.toInt ∧ p_2.toInt ≤ p_3.toInt ∧ p_3.toInt ≤ 9 ∧ p_3.toInt - p_2.toInt ≤ 3) (hr_r8 : r8 = (own_rm14_ret ((64 : Int32) - p_2) (p_3 - p_2))) (hrr : r8 = (p_3 - p_2)) : (p_2).toNatClampNeg + (r8).toNatClampNeg ≤ ((64 : Int32)).toNatClampNeg := by
  rw [hrr]
  have s := own_subx p_3 p_2 (by omega) (by omega)
  have a := own_nat (x := p_2) (by omega)
  have b := own_nat (x := p_3 - p_2) (by omega)
  have c : ((64 : Int32)).toNatClampNeg = 64 := by decide
  have d : ((0 : Int32)).toNatClampNeg = 0 := by decide
  omega
set_option maxRecDepth 65536 in
set_option maxHeartbeats 4000000 in
theorem own_t12_7 (p_2 : Int32) (p_3 : Int32) (r8 : Int32) (hlo : 0 ≤ p_2.toInt ∧ p_2.toInt ≤ p_3.toInt ∧ p_3.toInt ≤ 9 ∧ p_3.toInt - p_2.toInt ≤ 3) (hr_r8 : r8 = (own_rm14_ret ((64 : Int32) - p_2) (p_3 - p_2))) (hrr : r8 = (p_3 - p_2)) : ((0 : Int32)).toNatClampNeg + (r8).toNatClampNeg ≤ ((p_3 - p_2)).toNatClampNeg := by
  rw [hrr]
  have s := own_subx p_3 p_2 (by omega) (by omega)
  have a := own_nat (x := p_2) (by omega)
  have b := own_nat (x := p_3 - p_2) (by omega)
  have c : ((64 : Int32)).toNatClampNeg = 64 := by decide
  have d : ((0 : Int32)).toNatClampNeg = 0 := by decide
  omega
def own_Q12 (Z : State) (a_1 : Addr) (p_2 : Int32) (p_3 : Int32) (g : Nat → Value) (h0 : Heap) (n0 : Nat) (v : Option Value) (h : Heap) (L : List Loc) : Prop := ∃ (x : Addr), v = some (.ref x) ∧ Fr n0 L ∧ Keep h0 h [] ∧ own_AV Z h x .int (p_3 - p_2) (own_sh g (p_2).toNatClampNeg) ∧ (h0.size ≤ x)
set_option maxRecDepth 65536 in
set_option maxHeartbeats 40000000 in
theorem own_rm12 (l : Launch) (Z : State) (a0 : Array Value) (hw : ∀ d ∈ tables_1, d.before a0 Z = true) (ws : List Jvm.Cond) (a_1 : Addr) (p_2 : Int32) (p_3 : Int32) (g : Nat → Value) (h0 : Heap) (n0 : Nat) (Z0 : n0 ≤ h0.size) (pr_A_a_1 : own_AV Z h0 a_1 .int (64 : Int32) g) (hlo : 0 ≤ p_2.toInt ∧ p_2.toInt ≤ p_3.toInt ∧ p_3.toInt ≤ 9 ∧ p_3.toInt - p_2.toInt ≤ 3) (hfb : ∀ i, fits .int (g i) = true) :
    MetFree l (⟨"java/util/Arrays", "copyOfRangeInt", "([III)[I"⟩ : MethodName) (head1 (Jvm.Cond.code (⟨"java/util/Arrays", "copyOfRangeInt", "([III)[I"⟩ : MethodName) jdk_65_method_137_code 5 (some (.array .int)) :: ws) ({ frames := 1, cells := 1, slots := 3, locals := 40 } : Room)) (fun a U => a = #[(.ref a_1), (.int p_2), (.int p_3)] ∧ Z.Warmed39 U.vm ∧ U.heap = h0) (fun _ _ _ _ _ => True) (fun _ U o U' => ∃ v L, o = .returned v ∧ own_Q12 Z a_1 p_2 p_3 g h0 n0 v U'.heap L ∧ FrameEnd U o U' L ({ frames := 1, cells := 1, slots := 3, locals := 40 } : Room).cells ({ frames := 1, cells := 1, slots := 3, locals := 40 } : Room).slots) := by
  refine MetFree.of_bodySF (plainFor_of_name own_pn2) hisR ?_
  intro p e s m args below meth c s₁ Bd hml0 hP hK
  obtain ⟨rfl, hZ, hh⟩ := hP
  have hx := Bd.exec
  have hby := Bd.bytes
  have hml : c.maxLocals = 5 := hml0
  have hown : s.vm.findClass "java/util/Arrays" = some m.cls := findClass_of_methodNamed Bd.named
  have hnm := (name_of_methodNamed Bd.named Bd.method).1
  have X0 : Stand p l e ({ frames := 1, cells := 1, slots := 3, locals := 40 } : Room) s m #[(.ref a_1), (.int p_2), (.int p_3)] below meth c s₁ [] 0 0 := Stand.of_body Bd
  have e0 : s₁.heap = h0 := by rw [← hh, Bd.state]; rfl
  have N0 := Fr.nil n0
  have z0 : n0 ≤ h0.size := Z0
  have z1 := own_lt pr_A_a_1.lt
  have K0 : Keep h0 h0 [] := Keep.refl h0 _
  show own_Go p.tables e below (fun t o => t.status = .running ∧ Ended t below o ∧ ∃ v L, o = .returned v ∧ own_Q12 Z a_1 p_2 p_3 g h0 n0 v t.heap L ∧ FrameEnd s o t L ({ frames := 1, cells := 1, slots := 3, locals := 40 } : Room).cells ({ frames := 1, cells := 1, slots := 3, locals := 40 } : Room).slots) s₁ (entryFrame m #[(.ref a_1), (.int p_2), (.int p_3)] 5)
  rw [own_ef_own_rm12 m a_1 p_2 p_3]
  show own_Go _ _ _ _ s₁ (mkF m 0 #[.val (.ref a_1), .val (.int p_2), .val (.int p_3), .unset, .unset] [])
  refine own_go (fun _ k => XS.iloadN X0.here hx rfl (hb hby own_d12_0) rfl k) ?_
  show own_Go _ _ _ _ s₁ (mkF m 1 #[.val (.ref a_1), .val (.int p_2), .val (.int p_3), .unset, .unset] [(.int p_2)])
  refine own_go (fun _ k => XS.iloadN X0.here hx rfl (hb hby own_d12_1) rfl k) ?_
  show own_Go _ _ _ _ s₁ (mkF m 2 #[.val (.ref a_1), .val (.int p_2), .val (.int p_3), .unset, .unset] [(.int p_3), (.int p_2)])
  obtain ⟨_, _, ⟨T2, L2, k2, n2⟩, -, X2, ⟨Lc2, hQ2, l2, y2, z2⟩, st2⟩ := Jvm.LawKit.callS X0 hx (y := (⟨"java/util/Arrays", "checkLength", "(II)V"⟩ : MethodName)) hown (mvT hZ (hw _ (List.mem_of_getElem? (i := 76) rfl))) (mvT hZ (hw _ (List.mem_of_getElem? (i := 77) rfl))) (mvT hZ (hw _ (List.mem_of_getElem? (i := 71) rfl))) (mvT hZ (hw _ (List.mem_of_getElem? (i := 78) rfl))) (by decide) (backOf (W := 0) (own_rm13 l Z a0 hw [] p_2 p_3  h0 n0 (by omega) (own_t12_0 p_2 p_3 hlo)) hZ (hw _ (List.mem_of_getElem? (i := 78) rfl)) (hw _ (List.mem_of_getElem? (i := 71) rfl)) (by decide) (by decide)) (g := (mkF m 2 #[.val (.ref a_1), .val (.int p_2), .val (.int p_3), .unset, .unset] [(.int p_3), (.int p_2)])) rfl (by rw [hml]; rfl) (argsL := [(.int p_2), (.int p_3)]) (rest := []) (lenOf own_pd2 rfl) rfl (by show 2 * 0 + _ ≤ _; exact Nat.le_of_eq rfl) (hb hby own_d12_2) (fun _ _ => ⟨rfl, e0, (by decide : 0 + 0 ≤ _), (by decide : 0 + 0 ≤ _)⟩)
  dsimp only [Pt.U, Pt.locs, Pt.cells, Pt.slots] at X2 l2 y2 z2 st2 hQ2
  have y2 : k2 = 0 := y2
  have z2 : n2 = 0 := z2
  obtain ⟨rfl, N2q, e2⟩ := hQ2
  have N2 : Fr n0 L2 := by rw [l2]; exact Fr.app N0 N2q
  refine own_go (fun _ k => st2 _ k) ?_
  show own_Go _ _ _ _ T2 (mkF m 5 #[.val (.ref a_1), .val (.int p_2), .val (.int p_3), .unset, .unset] [])
  refine own_go (fun _ k => XS.iloadN X2.here hx rfl (hb hby own_d12_5) rfl k) ?_
  show own_Go _ _ _ _ T2 (mkF m 6 #[.val (.ref a_1), .val (.int p_2), .val (.int p_3), .unset, .unset] [(.int p_3)])
  refine own_go (fun _ k => XS.iloadN X2.here hx rfl (hb hby own_d12_6) rfl k) ?_
  show own_Go _ _ _ _ T2 (mkF m 7 #[.val (.ref a_1), .val (.int p_2), .val (.int p_3), .unset, .unset] [(.int p_2), (.int p_3)])
  refine own_go (fun _ k => XS.isub X2.here hx rfl (hb hby own_d12_7) rfl k) ?_
  show own_Go _ _ _ _ T2 (mkF m 8 #[.val (.ref a_1), .val (.int p_2), .val (.int p_3), .unset, .unset] [(.int (p_3 - p_2))])
  refine own_go (fun _ k => XS.istoreN X2.here hx rfl (hb hby own_d12_8) rfl (l' := #[.val (.ref a_1), .val (.int p_2), .val (.int p_3), .val (.int (p_3 - p_2)), .unset]) rfl k) ?_
  show own_Go _ _ _ _ T2 (mkF m 9 #[.val (.ref a_1), .val (.int p_2), .val (.int p_3), .val (.int (p_3 - p_2)), .unset] [])
  refine own_go (fun _ k => XS.iloadN X2.here hx rfl (hb hby own_d12_9) rfl k) ?_
  show own_Go _ _ _ _ T2 (mkF m 10 #[.val (.ref a_1), .val (.int p_2), .val (.int p_3), .val (.int (p_3 - p_2)), .unset] [(.int (p_3 - p_2))])
  obtain ⟨T3, h3, k3, X3, e3, E3, A3, st3⟩ := newP X2 hx hZ (hw _ (List.mem_of_getElem? (i := 7) rfl)) e2 (g := (mkF m 10 #[.val (.ref a_1), .val (.int p_2), .val (.int p_3), .val (.int (p_3 - p_2)), .unset] [(.int (p_3 - p_2))])) rfl (hb hby own_d12_10) rfl (own_t12_1 p_2 p_3 hlo) (cap := 3) (own_t12_2 p_2 p_3 hlo) (by decide) (by rw [y2]; decide) (by rw [z2]; decide)
  obtain ⟨b3, g3⟩ : ∃ z, z = h0.size := ⟨_, rfl⟩
  rw [← g3] at A3 st3
  have z4 := E3.1
  have lt_b3 := own_lt A3.lt
  have K3 : Keep h0 h3 [] := K0.ext E3
  have V_b3 : own_AV Z h3 b3 .int (p_3 - p_2) (fun _ => (.int (0 : Int32))) := own_AV.new A3 (own_t12_1 p_2 p_3 hlo)
  refine own_go (fun _ k => st3 _ k) ?_
  show own_Go _ _ _ _ T3 (mkF m 12 #[.val (.ref a_1), .val (.int p_2), .val (.int p_3), .val (.int (p_3 - p_2)), .unset] [(.ref b3)])
  refine own_go (fun _ k => XS.astore X3.here hx rfl (hb hby own_d12_12) rfl rfl (l' := #[.val (.ref a_1), .val (.int p_2), .val (.int p_3), .val (.int (p_3 - p_2)), .val (.ref b3)]) rfl k) ?_
  show own_Go _ _ _ _ T3 (mkF m 14 #[.val (.ref a_1), .val (.int p_2), .val (.int p_3), .val (.int (p_3 - p_2)), .val (.ref b3)] [])
  refine own_go (fun _ k => XS.aloadN X3.here hx rfl (hb hby own_d12_14) rfl rfl k) ?_
  show own_Go _ _ _ _ T3 (mkF m 15 #[.val (.ref a_1), .val (.int p_2), .val (.int p_3), .val (.int (p_3 - p_2)), .val (.ref b3)] [(.ref a_1)])
  refine own_go (fun _ k => XS.iloadN X3.here hx rfl (hb hby own_d12_15) rfl k) ?_
  show own_Go _ _ _ _ T3 (mkF m 16 #[.val (.ref a_1), .val (.int p_2), .val (.int p_3), .val (.int (p_3 - p_2)), .val (.ref b3)] [(.int p_2), (.ref a_1)])
  refine own_go (fun _ k => XS.aload X3.here hx rfl (hb hby own_d12_16) rfl rfl k) ?_
  show own_Go _ _ _ _ T3 (mkF m 18 #[.val (.ref a_1), .val (.int p_2), .val (.int p_3), .val (.int (p_3 - p_2)), .val (.ref b3)] [(.ref b3), (.int p_2), (.ref a_1)])
  refine own_go (fun _ k => XS.iconst X3.here hx rfl (hb hby own_d12_18) k) ?_
  show own_Go _ _ _ _ T3 (mkF m 19 #[.val (.ref a_1), .val (.int p_2), .val (.int p_3), .val (.int (p_3 - p_2)), .val (.ref b3)] [(.int (0 : Int32)), (.ref b3), (.int p_2), (.ref a_1)])
  refine own_go (fun _ k => XS.aloadN X3.here hx rfl (hb hby own_d12_19) rfl rfl k) ?_
  show own_Go _ _ _ _ T3 (mkF m 20 #[.val (.ref a_1), .val (.int p_2), .val (.int p_3), .val (.int (p_3 - p_2)), .val (.ref b3)] [(.ref a_1), (.int (0 : Int32)), (.ref b3), (.int p_2), (.ref a_1)])
  have f5 : own_AV Z h3 a_1 .int (64 : Int32) g := (pr_A_a_1.ext E3)
  obtain ⟨q6, c6, R6, s6, t6⟩ := id f5
  refine own_go (fun _ k => X3.arraylength hx (by rw [e3]; exact R6.1) (State.isArrayOf_alike hZ.alike R6.2.1) (g := (mkF m 20 #[.val (.ref a_1), .val (.int p_2), .val (.int p_3), .val (.int (p_3 - p_2)), .val (.ref b3)] [(.ref a_1), (.int (0 : Int32)), (.ref b3), (.int p_2), (.ref a_1)])) rfl rfl (hb hby own_d12_20) _ k) ?_
  rw [len_of s6 q6]
  show own_Go _ _ _ _ T3 (mkF m 21 #[.val (.ref a_1), .val (.int p_2), .val (.int p_3), .val (.int (p_3 - p_2)), .val (.ref b3)] [(.int (64 : Int32)), (.int (0 : Int32)), (.ref b3), (.int p_2), (.ref a_1)])
  refine own_go (fun _ k => XS.iloadN X3.here hx rfl (hb hby own_d12_21) rfl k) ?_
  show own_Go _ _ _ _ T3 (mkF m 22 #[.val (.ref a_1), .val (.int p_2), .val (.int p_3), .val (.int (p_3 - p_2)), .val (.ref b3)] [(.int p_2), (.int (64 : Int32)), (.int (0 : Int32)), (.ref b3), (.int p_2), (.ref a_1)])
  refine own_go (fun _ k => XS.isub X3.here hx rfl (hb hby own_d12_22) rfl k) ?_
  show own_Go _ _ _ _ T3 (mkF m 23 #[.val (.ref a_1), .val (.int p_2), .val (.int p_3), .val (.int (p_3 - p_2)), .val (.ref b3)] [(.int ((64 : Int32) - p_2)), (.int (0 : Int32)), (.ref b3), (.int p_2), (.ref a_1)])
  refine own_go (fun _ k => XS.iloadN X3.here hx rfl (hb hby own_d12_23) rfl k) ?_
  show own_Go _ _ _ _ T3 (mkF m 24 #[.val (.ref a_1), .val (.int p_2), .val (.int p_3), .val (.int (p_3 - p_2)), .val (.ref b3)] [(.int (p_3 - p_2)), (.int ((64 : Int32) - p_2)), (.int (0 : Int32)), (.ref b3), (.int p_2), (.ref a_1)])
  obtain ⟨_, _, ⟨T7, L7, k7, n7⟩, -, X7, ⟨Lc7, hQ7, l7, y7, z7⟩, st7⟩ := Jvm.LawKit.callS X3 hx (y := (⟨"java/lang/Math", "min", "(II)I"⟩ : MethodName)) hown (mvT hZ (hw _ (List.mem_of_getElem? (i := 79) rfl))) (mvT hZ (hw _ (List.mem_of_getElem? (i := 80) rfl))) (mvT hZ (hw _ (List.mem_of_getElem? (i := 81) rfl))) (mvT hZ (hw _ (List.mem_of_getElem? (i := 82) rfl))) (by decide) (backOf (W := 4) (own_rm14 l Z a0 hw [] ((64 : Int32) - p_2) (p_3 - p_2)  h3 n0 (by omega) ) hZ (hw _ (List.mem_of_getElem? (i := 82) rfl)) (hw _ (List.mem_of_getElem? (i := 81) rfl)) (by decide) (by decide)) (g := (mkF m 24 #[.val (.ref a_1), .val (.int p_2), .val (.int p_3), .val (.int (p_3 - p_2)), .val (.ref b3)] [(.int (p_3 - p_2)), (.int ((64 : Int32) - p_2)), (.int (0 : Int32)), (.ref b3), (.int p_2), (.ref a_1)])) rfl (by rw [hml]; rfl) (argsL := [(.int ((64 : Int32) - p_2)), (.int (p_3 - p_2))]) (rest := [(.int (0 : Int32)), (.ref b3), (.int p_2), (.ref a_1)]) (lenOf own_pd3 rfl) rfl (by show 2 * 0 + _ ≤ _; exact Nat.le_of_eq rfl) (hb hby own_d12_24) (fun _ _ => ⟨rfl, e3, (by show k2 + 1 + _ ≤ _; rw [y2]; decide), (by show n2 + 3 + _ ≤ _; rw [z2]; decide)⟩)
  dsimp only [Pt.U, Pt.locs, Pt.cells, Pt.slots] at X7 l7 y7 z7 st7 hQ7
  have y7 : k7 = 1 := own_addeq y7 (congrArg (fun q => q + 1) y2) rfl
  have z7 : n7 = 3 := own_addeq z7 (congrArg (fun q => q + 3) z2) rfl
  obtain ⟨r8, rfl, N7q, hr_r8, e7⟩ := hQ7
  have N7 : Fr n0 L7 := by rw [l7]; exact Fr.app N2 N7q
  refine own_go (fun _ k => st7 _ k) ?_
  show own_Go _ _ _ _ T7 (mkF m 27 #[.val (.ref a_1), .val (.int p_2), .val (.int p_3), .val (.int (p_3 - p_2)), .val (.ref b3)] [(.int r8), (.int (0 : Int32)), (.ref b3), (.int p_2), (.ref a_1)])
  have hrr : r8 = (p_3 - p_2) := own_t12_3 p_2 p_3 r8 hlo hr_r8
  obtain ⟨T9, h9, L9, X9, e9, N9, Kq9, V9, st9⟩ := own_cp X7 hx hZ hown (hw _ (List.mem_of_getElem? (i := 83) rfl)) (hw _ (List.mem_of_getElem? (i := 58) rfl)) (hw _ (List.mem_of_getElem? (i := 56) rfl)) (hw _ (List.mem_of_getElem? (i := 57) rfl)) e7 f5 V_b3 (hfb) (fun _ => rfl) (own_t12_4 p_2 p_3 r8 hlo hr_r8 hrr) (by decide) (own_t12_5 p_2 p_3 r8 hlo hr_r8 hrr) (own_t12_6 p_2 p_3 r8 hlo hr_r8 hrr) (own_t12_7 p_2 p_3 r8 hlo hr_r8 hrr) N7 (by omega) (g := (mkF m 27 #[.val (.ref a_1), .val (.int p_2), .val (.int p_3), .val (.int (p_3 - p_2)), .val (.ref b3)] [(.int r8), (.int (0 : Int32)), (.ref b3), (.int p_2), (.ref a_1)])) rfl (by rw [hml]; rfl) rfl (hb hby own_d12_27) (by decide) (W := 0) (by show 2 * 0 + _ ≤ _; exact Nat.le_of_eq rfl) (by decide)
  have z10 := Kq9.1
  have K9 : Keep h0 h9 [] := K3.trans Kq9 (allS (Or.inr (by omega)) all0)
  refine own_go (fun _ k => st9 _ k) ?_
  show own_Go _ _ _ _ T9 (mkF m 30 #[.val (.ref a_1), .val (.int p_2), .val (.int p_3), .val (.int (p_3 - p_2)), .val (.ref b3)] [])
  refine own_go (fun _ k => XS.aload X9.here hx rfl (hb hby own_d12_30) rfl rfl k) ?_
  show own_Go _ _ _ _ T9 (mkF m 32 #[.val (.ref a_1), .val (.int p_2), .val (.int p_3), .val (.int (p_3 - p_2)), .val (.ref b3)] [(.ref b3)])
  obtain ⟨fs, hr, hrun, hended, hW, hsame⟩ := X9.leave (v := some (.ref b3)) (fun h => by rw [Bd.returns] at h; cases h)
  refine ⟨_, _, retOut X9 hx Bd.returns rfl (Or.inr (Or.inr (Or.inr (Or.inr ⟨rfl, rfl, rfl⟩)))) (hb hby own_d12_32) hr, hrun, hended, _, _, rfl, ?_, ⟨_, rfl⟩, hW, hsame.mono (by rw [y7]; decide) (by rw [z7]; decide)⟩
  show own_Q12 Z a_1 p_2 p_3 g h0 n0 _ T9.heap _
  rw [e9]
  exact ⟨b3, rfl, N9, K9, (own_AV.congr V9 (by rw [hrr]; exact own_cpf_sh (by decide))), (by omega)⟩
theorem own_d11_0 : decode jdk_65_method_136_code 0 = .ok (.iload_n 1, 1) := by decide +kernel
theorem own_d11_1 : decode jdk_65_method_136_code 1 = .ok (.ifCond .ne 9, 3) := by decide +kernel
theorem own_d11_4 : decode jdk_65_method_136_code 4 = .ok (.iload_n 2, 1) := by decide +kernel
theorem own_d11_5 : decode jdk_65_method_136_code 5 = .ok (.aload_n 0, 1) := by decide +kernel
theorem own_d11_6 : decode jdk_65_method_136_code 6 = .ok (.arraylength, 1) := by decide +kernel
theorem own_d11_7 : decode jdk_65_method_136_code 7 = .ok (.if_icmp .eq 10, 3) := by decide +kernel
theorem own_d11_10 : decode jdk_65_method_136_code 10 = .ok (.aload_n 0, 1) := by decide +kernel
theorem own_d11_11 : decode jdk_65_method_136_code 11 = .ok (.iload_n 1, 1) := by decide +kernel
theorem own_d11_12 : decode jdk_65_method_136_code 12 = .ok (.iload_n 2, 1) := by decide +kernel
theorem own_d11_13 : decode jdk_65_method_136_code 13 = .ok (.invokestatic 351, 3) := by decide +kernel
theorem own_d11_16 : decode jdk_65_method_136_code 16 = .ok (.areturn, 1) := by decide +kernel
theorem own_ef_own_rm11 (m : MethodId) (x0 : Addr) (x1 : Int32) (x2 : Int32) : entryFrame m #[(.ref x0), (.int x1), (.int x2)] 3 = mkF m 0 #[.val (.ref x0), .val (.int x1), .val (.int x2)] [] := by first | (simp [entryFrame, mkF, argsToLocals, Value.category]; done) | rfl
set_option maxRecDepth 65536 in
set_option maxHeartbeats 4000000 in
theorem own_t11_0 (p_2 : Int32) (p_3 : Int32) (hlo : 0 ≤ p_2.toInt ∧ p_2.toInt ≤ p_3.toInt ∧ p_3.toInt ≤ 9 ∧ p_3.toInt - p_2.toInt ≤ 3) (hc2 : p_2 = 0) : ¬ (p_3 = (64 : Int32)) := by
  have el0 : (64 : Int32).toInt = 64 := by decide
  have rv_p_2 := rng32 p_2
  have rv_p_3 := rng32 p_3
  have own0 : (0 : Int32).toInt = 0 := by decide
  simp only [← Int32.toInt_inj, Int32.lt_iff_toInt_lt, implies_true, and_true, true_and, own0, el0] at *
  omega
def own_Q11 (Z : State) (a_1 : Addr) (p_2 : Int32) (p_3 : Int32) (g : Nat → Value) (h0 : Heap) (n0 : Nat) (v : Option Value) (h : Heap) (L : List Loc) : Prop := ∃ (x : Addr), v = some (.ref x) ∧ Fr n0 L ∧ Keep h0 h [] ∧ own_AV Z h x .int (p_3 - p_2) (own_sh g (p_2).toNatClampNeg) ∧ (h0.size ≤ x)
set_option maxRecDepth 65536 in
set_option maxHeartbeats 40000000 in
theorem own_rm11 (l : Launch) (Z : State) (a0 : Array Value) (hw : ∀ d ∈ tables_1, d.before a0 Z = true) (ws : List Jvm.Cond) (a_1 : Addr) (p_2 : Int32) (p_3 : Int32) (g : Nat → Value) (h0 : Heap) (n0 : Nat) (Z0 : n0 ≤ h0.size) (pr_A_a_1 : own_AV Z h0 a_1 .int (64 : Int32) g) (hlo : 0 ≤ p_2.toInt ∧ p_2.toInt ≤ p_3.toInt ∧ p_3.toInt ≤ 9 ∧ p_3.toInt - p_2.toInt ≤ 3) (hfb : ∀ i, fits .int (g i) = true) :
    MetFree l (⟨"java/util/Arrays", "copyOfRange", "([III)[I"⟩ : MethodName) (head1 (Jvm.Cond.code (⟨"java/util/Arrays", "copyOfRange", "([III)[I"⟩ : MethodName) jdk_65_method_136_code 3 (some (.array .int)) :: ws) ({ frames := 2, cells := 1, slots := 3, locals := 56 } : Room)) (fun a U => a = #[(.ref a_1), (.int p_2), (.int p_3)] ∧ Z.Warmed39 U.vm ∧ U.heap = h0) (fun _ _ _ _ _ => True) (fun _ U o U' => ∃ v L, o = .returned v ∧ own_Q11 Z a_1 p_2 p_3 g h0 n0 v U'.heap L ∧ FrameEnd U o U' L ({ frames := 2, cells := 1, slots := 3, locals := 56 } : Room).cells ({ frames := 2, cells := 1, slots := 3, locals := 56 } : Room).slots) := by
  refine MetFree.of_bodySF (plainFor_of_name own_pn2) hisR ?_
  intro p e s m args below meth c s₁ Bd hml0 hP hK
  obtain ⟨rfl, hZ, hh⟩ := hP
  have hx := Bd.exec
  have hby := Bd.bytes
  have hml : c.maxLocals = 3 := hml0
  have hown : s.vm.findClass "java/util/Arrays" = some m.cls := findClass_of_methodNamed Bd.named
  have hnm := (name_of_methodNamed Bd.named Bd.method).1
  have X0 : Stand p l e ({ frames := 2, cells := 1, slots := 3, locals := 56 } : Room) s m #[(.ref a_1), (.int p_2), (.int p_3)] below meth c s₁ [] 0 0 := Stand.of_body Bd
  have e0 : s₁.heap = h0 := by rw [← hh, Bd.state]; rfl
  have N0 := Fr.nil n0
  have z0 : n0 ≤ h0.size := Z0
  have z1 := own_lt pr_A_a_1.lt
  have K0 : Keep h0 h0 [] := Keep.refl h0 _
  show own_Go p.tables e below (fun t o => t.status = .running ∧ Ended t below o ∧ ∃ v L, o = .returned v ∧ own_Q11 Z a_1 p_2 p_3 g h0 n0 v t.heap L ∧ FrameEnd s o t L ({ frames := 2, cells := 1, slots := 3, locals := 56 } : Room).cells ({ frames := 2, cells := 1, slots := 3, locals := 56 } : Room).slots) s₁ (entryFrame m #[(.ref a_1), (.int p_2), (.int p_3)] 3)
  rw [own_ef_own_rm11 m a_1 p_2 p_3]
  show own_Go _ _ _ _ s₁ (mkF m 0 #[.val (.ref a_1), .val (.int p_2), .val (.int p_3)] [])
  refine own_go (fun _ k => XS.iloadN X0.here hx rfl (hb hby own_d11_0) rfl k) ?_
  show own_Go _ _ _ _ s₁ (mkF m 1 #[.val (.ref a_1), .val (.int p_2), .val (.int p_3)] [(.int p_2)])
  by_cases hc2 : p_2 = 0
  · refine own_go (fun _ k => XS.ifNo X0.here hx rfl (hb hby own_d11_1) rfl (Jvm.Free.XT.i0_ne_f hc2) k) ?_
    show own_Go _ _ _ _ s₁ (mkF m 4 #[.val (.ref a_1), .val (.int p_2), .val (.int p_3)] [])
    refine own_go (fun _ k => XS.iloadN X0.here hx rfl (hb hby own_d11_4) rfl k) ?_
    show own_Go _ _ _ _ s₁ (mkF m 5 #[.val (.ref a_1), .val (.int p_2), .val (.int p_3)] [(.int p_3)])
    refine own_go (fun _ k => XS.aloadN X0.here hx rfl (hb hby own_d11_5) rfl rfl k) ?_
    show own_Go _ _ _ _ s₁ (mkF m 6 #[.val (.ref a_1), .val (.int p_2), .val (.int p_3)] [(.ref a_1), (.int p_3)])
    obtain ⟨q3, c3, R3, s3, t3⟩ := id pr_A_a_1
    refine own_go (fun _ k => X0.arraylength hx (by rw [e0]; exact R3.1) (State.isArrayOf_alike hZ.alike R3.2.1) (g := (mkF m 6 #[.val (.ref a_1), .val (.int p_2), .val (.int p_3)] [(.ref a_1), (.int p_3)])) rfl rfl (hb hby own_d11_6) _ k) ?_
    rw [len_of s3 q3]
    show own_Go _ _ _ _ s₁ (mkF m 7 #[.val (.ref a_1), .val (.int p_2), .val (.int p_3)] [(.int (64 : Int32)), (.int p_3)])
    have hc4 : ¬ (p_3 = (64 : Int32)) := own_t11_0 p_2 p_3 hlo hc2
    refine own_go (fun _ k => XS.icmpNo X0.here hx rfl (hb hby own_d11_7) rfl (Jvm.Free.XT.ii_eq_f hc4) k) ?_
    show own_Go _ _ _ _ s₁ (mkF m 10 #[.val (.ref a_1), .val (.int p_2), .val (.int p_3)] [])
    refine own_go (fun _ k => XS.aloadN X0.here hx rfl (hb hby own_d11_10) rfl rfl k) ?_
    show own_Go _ _ _ _ s₁ (mkF m 11 #[.val (.ref a_1), .val (.int p_2), .val (.int p_3)] [(.ref a_1)])
    refine own_go (fun _ k => XS.iloadN X0.here hx rfl (hb hby own_d11_11) rfl k) ?_
    show own_Go _ _ _ _ s₁ (mkF m 12 #[.val (.ref a_1), .val (.int p_2), .val (.int p_3)] [(.int p_2), (.ref a_1)])
    refine own_go (fun _ k => XS.iloadN X0.here hx rfl (hb hby own_d11_12) rfl k) ?_
    show own_Go _ _ _ _ s₁ (mkF m 13 #[.val (.ref a_1), .val (.int p_2), .val (.int p_3)] [(.int p_3), (.int p_2), (.ref a_1)])
    obtain ⟨_, _, ⟨T5, L5, k5, n5⟩, -, X5, ⟨Lc5, hQ5, l5, y5, z5⟩, st5⟩ := Jvm.LawKit.callS X0 hx (y := (⟨"java/util/Arrays", "copyOfRangeInt", "([III)[I"⟩ : MethodName)) hown (mvT hZ (hw _ (List.mem_of_getElem? (i := 73) rfl))) (mvT hZ (hw _ (List.mem_of_getElem? (i := 74) rfl))) (mvT hZ (hw _ (List.mem_of_getElem? (i := 71) rfl))) (mvT hZ (hw _ (List.mem_of_getElem? (i := 75) rfl))) (by decide) (backOf (W := 0) (own_rm12 l Z a0 hw [] a_1 p_2 p_3 g h0 n0 (by omega) pr_A_a_1 hlo hfb) hZ (hw _ (List.mem_of_getElem? (i := 75) rfl)) (hw _ (List.mem_of_getElem? (i := 71) rfl)) (by decide) (by decide)) (g := (mkF m 13 #[.val (.ref a_1), .val (.int p_2), .val (.int p_3)] [(.int p_3), (.int p_2), (.ref a_1)])) rfl (by rw [hml]; rfl) (argsL := [(.ref a_1), (.int p_2), (.int p_3)]) (rest := []) (lenOf own_pd4 rfl) rfl (by show 2 * 0 + _ ≤ _; exact Nat.le_of_eq rfl) (hb hby own_d11_13) (fun _ _ => ⟨rfl, e0, (by decide : 0 + 1 ≤ _), (by decide : 0 + 3 ≤ _)⟩)
    dsimp only [Pt.U, Pt.locs, Pt.cells, Pt.slots] at X5 l5 y5 z5 st5 hQ5
    have y5 : k5 = 1 := y5
    have z5 : n5 = 3 := z5
    obtain ⟨x6, rfl, N5q, K5q, f7, f8⟩ := hQ5
    have N5 : Fr n0 L5 := by rw [l5]; exact Fr.app N0 N5q
    have z9 := K5q.1
    have K5 : Keep h0 T5.heap [] := K0.trans K5q all0
    have z10 := own_lt f7.lt
    refine own_go (fun _ k => st5 _ k) ?_
    show own_Go _ _ _ _ T5 (mkF m 16 #[.val (.ref a_1), .val (.int p_2), .val (.int p_3)] [(.ref x6)])
    obtain ⟨fs, hr, hrun, hended, hW, hsame⟩ := X5.leave (v := some (.ref x6)) (fun h => by rw [Bd.returns] at h; cases h)
    refine ⟨_, _, retOut X5 hx Bd.returns rfl (Or.inr (Or.inr (Or.inr (Or.inr ⟨rfl, rfl, rfl⟩)))) (hb hby own_d11_16) hr, hrun, hended, _, _, rfl, ?_, ⟨_, rfl⟩, hW, hsame.mono (by rw [y5]; decide) (by rw [z5]; decide)⟩
    exact ⟨x6, rfl, N5, K5, f7, (by omega)⟩
  · refine own_go (fun _ k => XS.ifYes X0.here hx rfl (pc0 := 1) (pc' := 10) rfl (hb hby own_d11_1) rfl (Jvm.Free.XT.i0_ne_t hc2) (by decide) (by decide) k) ?_
    show own_Go _ _ _ _ s₁ (mkF m 10 #[.val (.ref a_1), .val (.int p_2), .val (.int p_3)] [])
    refine own_go (fun _ k => XS.aloadN X0.here hx rfl (hb hby own_d11_10) rfl rfl k) ?_
    show own_Go _ _ _ _ s₁ (mkF m 11 #[.val (.ref a_1), .val (.int p_2), .val (.int p_3)] [(.ref a_1)])
    refine own_go (fun _ k => XS.iloadN X0.here hx rfl (hb hby own_d11_11) rfl k) ?_
    show own_Go _ _ _ _ s₁ (mkF m 12 #[.val (.ref a_1), .val (.int p_2), .val (.int p_3)] [(.int p_2), (.ref a_1)])
    refine own_go (fun _ k => XS.iloadN X0.here hx rfl (hb hby own_d11_12) rfl k) ?_
    show own_Go _ _ _ _ s₁ (mkF m 13 #[.val (.ref a_1), .val (.int p_2), .val (.int p_3)] [(.int p_3), (.int p_2), (.ref a_1)])
    obtain ⟨_, _, ⟨T12, L12, k12, n12⟩, -, X12, ⟨Lc12, hQ12, l12, y12, z12⟩, st12⟩ := Jvm.LawKit.callS X0 hx (y := (⟨"java/util/Arrays", "copyOfRangeInt", "([III)[I"⟩ : MethodName)) hown (mvT hZ (hw _ (List.mem_of_getElem? (i := 73) rfl))) (mvT hZ (hw _ (List.mem_of_getElem? (i := 74) rfl))) (mvT hZ (hw _ (List.mem_of_getElem? (i := 71) rfl))) (mvT hZ (hw _ (List.mem_of_getElem? (i := 75) rfl))) (by decide) (backOf (W := 0) (own_rm12 l Z a0 hw [] a_1 p_2 p_3 g h0 n0 (by omega) pr_A_a_1 hlo hfb) hZ (hw _ (List.mem_of_getElem? (i := 75) rfl)) (hw _ (List.mem_of_getElem? (i := 71) rfl)) (by decide) (by decide)) (g := (mkF m 13 #[.val (.ref a_1), .val (.int p_2), .val (.int p_3)] [(.int p_3), (.int p_2), (.ref a_1)])) rfl (by rw [hml]; rfl) (argsL := [(.ref a_1), (.int p_2), (.int p_3)]) (rest := []) (lenOf own_pd4 rfl) rfl (by show 2 * 0 + _ ≤ _; exact Nat.le_of_eq rfl) (hb hby own_d11_13) (fun _ _ => ⟨rfl, e0, (by decide : 0 + 1 ≤ _), (by decide : 0 + 3 ≤ _)⟩)
    dsimp only [Pt.U, Pt.locs, Pt.cells, Pt.slots] at X12 l12 y12 z12 st12 hQ12
    have y12 : k12 = 1 := y12
    have z12 : n12 = 3 := z12
    obtain ⟨x13, rfl, N12q, K12q, f14, f15⟩ := hQ12
    have N12 : Fr n0 L12 := by rw [l12]; exact Fr.app N0 N12q
    have z16 := K12q.1
    have K12 : Keep h0 T12.heap [] := K0.trans K12q all0
    have z17 := own_lt f14.lt
    refine own_go (fun _ k => st12 _ k) ?_
    show own_Go _ _ _ _ T12 (mkF m 16 #[.val (.ref a_1), .val (.int p_2), .val (.int p_3)] [(.ref x13)])
    obtain ⟨fs, hr, hrun, hended, hW, hsame⟩ := X12.leave (v := some (.ref x13)) (fun h => by rw [Bd.returns] at h; cases h)
    refine ⟨_, _, retOut X12 hx Bd.returns rfl (Or.inr (Or.inr (Or.inr (Or.inr ⟨rfl, rfl, rfl⟩)))) (hb hby own_d11_16) hr, hrun, hended, _, _, rfl, ?_, ⟨_, rfl⟩, hW, hsame.mono (by rw [y12]; decide) (by rw [z12]; decide)⟩
    exact ⟨x13, rfl, N12, K12, f14, (by omega)⟩
theorem own_d9_0 : decode prog_6_method_6_code 0 = .ok (.aload_n 0, 1) := by decide +kernel
theorem own_d9_1 : decode prog_6_method_6_code 1 = .ok (.iload_n 1, 1) := by decide +kernel
theorem own_d9_2 : decode prog_6_method_6_code 2 = .ok (.invokevirtual 51, 3) := by decide +kernel
theorem own_d9_5 : decode prog_6_method_6_code 5 = .ok (.aload_n 0, 1) := by decide +kernel
theorem own_d9_6 : decode prog_6_method_6_code 6 = .ok (.getfield 16, 3) := by decide +kernel
theorem own_d9_9 : decode prog_6_method_6_code 9 = .ok (.aload_n 0, 1) := by decide +kernel
theorem own_d9_10 : decode prog_6_method_6_code 10 = .ok (.getfield 13, 3) := by decide +kernel
theorem own_d9_13 : decode prog_6_method_6_code 13 = .ok (.iload_n 1, 1) := by decide +kernel
theorem own_d9_14 : decode prog_6_method_6_code 14 = .ok (.iaload, 1) := by decide +kernel
theorem own_d9_15 : decode prog_6_method_6_code 15 = .ok (.aload_n 0, 1) := by decide +kernel
theorem own_d9_16 : decode prog_6_method_6_code 16 = .ok (.getfield 13, 3) := by decide +kernel
theorem own_d9_19 : decode prog_6_method_6_code 19 = .ok (.iload_n 1, 1) := by decide +kernel
theorem own_d9_20 : decode prog_6_method_6_code 20 = .ok (.iconst 1, 1) := by decide +kernel
theorem own_d9_21 : decode prog_6_method_6_code 21 = .ok (.iadd, 1) := by decide +kernel
theorem own_d9_22 : decode prog_6_method_6_code 22 = .ok (.iaload, 1) := by decide +kernel
theorem own_d9_23 : decode prog_6_method_6_code 23 = .ok (.invokestatic 54, 3) := by decide +kernel
theorem own_d9_26 : decode prog_6_method_6_code 26 = .ok (.areturn, 1) := by decide +kernel
theorem own_ef_own_rm9_0 (m : MethodId) (x0 : Addr) : entryFrame m #[(.ref x0), (.int (0 : Int32))] 2 = mkF m 0 #[.val (.ref x0), .val (.int (0 : Int32))] [] := by first | (simp [entryFrame, mkF, argsToLocals, Value.category]; done) | rfl
def own_Q9_0 (Z : State) (a_1 : Addr) (wst : Addr) (wb : Addr) (gs : Nat → Value) (g : Nat → Value) (lo : Int32) (hi : Int32) (h0 : Heap) (n0 : Nat) (v : Option Value) (h : Heap) (L : List Loc) : Prop := ∃ (x : Addr), v = some (.ref x) ∧ Fr n0 L ∧ Keep h0 h [] ∧ own_AV Z h x .int (hi - lo) (own_sh g (lo).toNatClampNeg) ∧ (h0.size ≤ x)
set_option maxRecDepth 65536 in
set_option maxHeartbeats 40000000 in
theorem own_rm9_0 (l : Launch) (Z : State) (a0 : Array Value) (hw : ∀ d ∈ tables_1, d.before a0 Z = true) (ws : List Jvm.Cond) (a_1 : Addr) (wst : Addr) (wb : Addr) (gs : Nat → Value) (g : Nat → Value) (lo : Int32) (hi : Int32) (h0 : Heap) (n0 : Nat) (Z0 : n0 ≤ h0.size) (pr_E_a_1 : Exa Z h0 a_1 "com/example/kalchas/kalchas/propositional/HornClauses") (pr_F_a_1_clauseCount : Fld Z h0 a_1 "com/example/kalchas/kalchas/propositional/HornClauses" "clauseCount" "I" (.int (3 : Int32))) (pr_F_a_1_bodyStarts : Fld Z h0 a_1 "com/example/kalchas/kalchas/propositional/HornClauses" "bodyStarts" "[I" (.ref wst)) (pr_F_a_1_bodies : Fld Z h0 a_1 "com/example/kalchas/kalchas/propositional/HornClauses" "bodies" "[I" (.ref wb)) (pr_A_wst : own_AV Z h0 wst .int (65 : Int32) gs) (pr_A_wb : own_AV Z h0 wb .int (64 : Int32) g) (hgl : gs 0 = .int lo) (hgh : gs 1 = .int hi) (hlo : 0 ≤ lo.toInt ∧ lo.toInt ≤ hi.toInt ∧ hi.toInt ≤ 9 ∧ hi.toInt - lo.toInt ≤ 3) (hfb : ∀ i, fits .int (g i) = true) :
    MetFree l (⟨"com/example/kalchas/kalchas/propositional/HornClauses", "body", "(I)[I"⟩ : MethodName) (head1 (Jvm.Cond.code (⟨"com/example/kalchas/kalchas/propositional/HornClauses", "body", "(I)[I"⟩ : MethodName) prog_6_method_6_code 2 (some (.array .int)) :: ws) ({ frames := 3, cells := 3, slots := 31, locals := 70 } : Room)) (fun a U => a = #[(.ref a_1), (.int (0 : Int32))] ∧ Z.Warmed39 U.vm ∧ U.heap = h0) (fun _ _ _ _ _ => True) (fun _ U o U' => ∃ v L, o = .returned v ∧ own_Q9_0 Z a_1 wst wb gs g lo hi h0 n0 v U'.heap L ∧ ReturnedEndW U o U' L ({ frames := 3, cells := 3, slots := 31, locals := 70 } : Room).cells ({ frames := 3, cells := 3, slots := 31, locals := 70 } : Room).slots) := by
  refine MetFree.of_bodySF (plainFor_of_name own_pn1) hisR ?_
  intro p e s m args below meth c s₁ Bd hml0 hP hK
  obtain ⟨rfl, hZ, hh⟩ := hP
  have hx := Bd.exec
  have hby := Bd.bytes
  have hml : c.maxLocals = 2 := hml0
  have hown : s.vm.findClass "com/example/kalchas/kalchas/propositional/HornClauses" = some m.cls := findClass_of_methodNamed Bd.named
  have hnm := (name_of_methodNamed Bd.named Bd.method).1
  have X0 : Stand p l e ({ frames := 3, cells := 3, slots := 31, locals := 70 } : Room) s m #[(.ref a_1), (.int (0 : Int32))] below meth c s₁ [] 0 0 := Stand.of_body Bd
  have e0 : s₁.heap = h0 := by rw [← hh, Bd.state]; rfl
  have N0 := Fr.nil n0
  have X0 : Stand p l e ({ frames := 3, cells := 3, slots := 31, locals := 70 } : Room) (s.setVm s.vm) m #[(.ref a_1), (.int (0 : Int32))] below meth c s₁ [] 0 0 := X0
  have hZ : Z.Warmed39 (s.setVm s.vm).vm := hZ
  have hown : (s.setVm s.vm).vm.findClass "com/example/kalchas/kalchas/propositional/HornClauses" = some m.cls := hown
  have hS0 : s.Since s.vm 0 := (State.WarmedH.refl s).since 0
  have z0 : n0 ≤ h0.size := Z0
  have z1 := own_lt pr_E_a_1.lt
  have z2 := own_lt pr_F_a_1_clauseCount.lt
  have z3 := own_lt pr_F_a_1_bodyStarts.lt
  have z4 := own_lt pr_F_a_1_bodies.lt
  have z5 := own_lt pr_A_wst.lt
  have z6 := own_lt pr_A_wb.lt
  have K0 : Keep h0 h0 [] := Keep.refl h0 _
  show own_Go p.tables e below (fun t o => t.status = .running ∧ Ended t below o ∧ ∃ v L, o = .returned v ∧ own_Q9_0 Z a_1 wst wb gs g lo hi h0 n0 v t.heap L ∧ ReturnedEndW s o t L ({ frames := 3, cells := 3, slots := 31, locals := 70 } : Room).cells ({ frames := 3, cells := 3, slots := 31, locals := 70 } : Room).slots) s₁ (entryFrame m #[(.ref a_1), (.int (0 : Int32))] 2)
  rw [own_ef_own_rm9_0 m a_1]
  show own_Go _ _ _ _ s₁ (mkF m 0 #[.val (.ref a_1), .val (.int (0 : Int32))] [])
  refine own_go (fun _ k => XS.aloadN X0.here hx rfl (hb hby own_d9_0) rfl rfl k) ?_
  show own_Go _ _ _ _ s₁ (mkF m 1 #[.val (.ref a_1), .val (.int (0 : Int32))] [(.ref a_1)])
  refine own_go (fun _ k => XS.iloadN X0.here hx rfl (hb hby own_d9_1) rfl k) ?_
  show own_Go _ _ _ _ s₁ (mkF m 2 #[.val (.ref a_1), .val (.int (0 : Int32))] [(.int (0 : Int32)), (.ref a_1)])
  obtain ⟨cq7, q7, q7'⟩ := (id pr_E_a_1).cell
  obtain ⟨_, _, ⟨T7, L7, k7, n7⟩, -, X7, hS7, gr7, ⟨Lc7, hQ7, l7, y7, z7⟩, st7⟩ := X0.privateBackS hx (y := (⟨"com/example/kalchas/kalchas/propositional/HornClauses", "checkClause", "(I)V"⟩ : MethodName)) hown (mvT hZ (hw _ (List.mem_of_getElem? (i := 64) rfl))) (mvT hZ (hw _ (List.mem_of_getElem? (i := 65) rfl))) (own_selfsel hZ (hw _ (List.mem_of_getElem? (i := 9) rfl)) (hw _ (List.mem_of_getElem? (i := 65) rfl)) (hw _ (List.mem_of_getElem? (i := 66) rfl)) (by decide)) (Cond.privateMethod_at (mvP hZ (hw _ (List.mem_of_getElem? (i := 66) rfl)) (args := #[]))) (mvT hZ (hw _ (List.mem_of_getElem? (i := 67) rfl))) (by decide) (backOfS (W := 0) (own_rm10 l Z a0 hw [] a_1 (0 : Int32) (3 : Int32) h0 n0 (by omega) (show ¬ ((0 : Int32) < 0) by first | assumption | omega | decide) (show (0 : Int32) < (3 : Int32) by first | assumption | omega | decide) pr_F_a_1_clauseCount) hZ (hw _ (List.mem_of_getElem? (i := 67) rfl)) (hw _ (List.mem_of_getElem? (i := 10) rfl)) (by decide) (by decide)) (g := (mkF m 2 #[.val (.ref a_1), .val (.int (0 : Int32))] [(.int (0 : Int32)), (.ref a_1)])) rfl (by rw [hml]; rfl) (Steps.refl _) (a := a_1) (by rw [e0]; exact q7) q7' (argsL := [(.int (0 : Int32))]) (rest := []) (lenOf own_pd1 rfl) rfl (by show 2 * 0 + _ ≤ _; exact Nat.le_of_eq rfl) (hb hby own_d9_2) (fun _ _ => ⟨rfl, e0, (by decide : 0 + 2 ≤ _), (by decide : 0 + 28 ≤ _)⟩)
  dsimp only [Pt.U, Pt.locs, Pt.cells, Pt.slots] at X7 l7 y7 z7 st7 hQ7 hS7 gr7
  have y7 : k7 = 2 := y7
  have z7 : n7 = 28 := z7
  have Wn7 := hS7.1
  obtain ⟨X7, hS7, hZ, hown⟩ := rebS hS0 (n1 := s₁.heap.size) (by rw [e0]; omega) X7 hS7 gr7 hZ hown
  obtain ⟨rfl, N7q, K7q⟩ := hQ7
  have N7 : Fr n0 L7 := by rw [l7]; exact Fr.app N0 N7q
  have z8 := K7q.1
  have K7 : Keep h0 T7.heap [] := K0.trans K7q all0
  refine own_go (fun _ k => st7.trans k) ?_
  show own_Go _ _ _ _ T7 (mkF m 5 #[.val (.ref a_1), .val (.int (0 : Int32))] [])
  refine own_go (fun _ k => XS.aloadN X7.here hx rfl (hb hby own_d9_5) rfl rfl k) ?_
  show own_Go _ _ _ _ T7 (mkF m 6 #[.val (.ref a_1), .val (.int (0 : Int32))] [(.ref a_1)])
  have f9 : Fld Z T7.heap a_1 "com/example/kalchas/kalchas/propositional/HornClauses" "bodies" "[I" (.ref wb) := (pr_F_a_1_bodies.keep K7q nin0)
  obtain ⟨T10, X10, e10, st10⟩ := getF X7 hx hZ hown (host := "") (Or.inl (hw _ (List.mem_of_getElem? (i := 21) rfl))) Via.refl rfl f9 (g := (mkF m 6 #[.val (.ref a_1), .val (.int (0 : Int32))] [(.ref a_1)])) rfl rfl (hb hby own_d9_6)
  refine own_go (fun _ k => st10 _ k) ?_
  show own_Go _ _ _ _ T10 (mkF m 9 #[.val (.ref a_1), .val (.int (0 : Int32))] [(.ref wb)])
  refine own_go (fun _ k => XS.aloadN X10.here hx rfl (hb hby own_d9_9) rfl rfl k) ?_
  show own_Go _ _ _ _ T10 (mkF m 10 #[.val (.ref a_1), .val (.int (0 : Int32))] [(.ref a_1), (.ref wb)])
  have f11 : Fld Z T7.heap a_1 "com/example/kalchas/kalchas/propositional/HornClauses" "bodyStarts" "[I" (.ref wst) := (pr_F_a_1_bodyStarts.keep K7q nin0)
  obtain ⟨T12, X12, e12, st12⟩ := getF X10 hx hZ hown (host := "") (Or.inl (hw _ (List.mem_of_getElem? (i := 19) rfl))) Via.refl e10 f11 (g := (mkF m 10 #[.val (.ref a_1), .val (.int (0 : Int32))] [(.ref a_1), (.ref wb)])) rfl rfl (hb hby own_d9_10)
  refine own_go (fun _ k => st12 _ k) ?_
  show own_Go _ _ _ _ T12 (mkF m 13 #[.val (.ref a_1), .val (.int (0 : Int32))] [(.ref wst), (.ref wb)])
  refine own_go (fun _ k => XS.iloadN X12.here hx rfl (hb hby own_d9_13) rfl k) ?_
  show own_Go _ _ _ _ T12 (mkF m 14 #[.val (.ref a_1), .val (.int (0 : Int32))] [(.int (0 : Int32)), (.ref wst), (.ref wb)])
  have f13 : own_AV Z T7.heap wst .int (65 : Int32) gs := (pr_A_wst.keep K7q nin0)
  obtain ⟨q14, c14, R14, s14, t14⟩ := id f13
  have hin14 : ¬ ((0 : Int32) < 0 ∨ c14.slots.size ≤ ((0 : Int32)).toNatClampNeg) := inb_of s14 ⟨by decide, by decide⟩
  have u14 : c14.slots[((0 : Int32)).toNatClampNeg]? = some (.int lo) := own_at (k := 0) t14 s14 hin14 (by decide) (hgl)
  refine own_go (fun _ k => X12.iaload hx (j := (0 : Int32)) (v := (.int lo)) (by rw [e12]; exact R14.1) (State.isArrayOf_alike hZ.alike R14.2.1) R14.2.2 hin14 u14 (g := (mkF m 14 #[.val (.ref a_1), .val (.int (0 : Int32))] [(.int (0 : Int32)), (.ref wst), (.ref wb)])) rfl rfl (hb hby own_d9_14) _ k) ?_
  show own_Go _ _ _ _ T12 (mkF m 15 #[.val (.ref a_1), .val (.int (0 : Int32))] [(.int lo), (.ref wb)])
  refine own_go (fun _ k => XS.aloadN X12.here hx rfl (hb hby own_d9_15) rfl rfl k) ?_
  show own_Go _ _ _ _ T12 (mkF m 16 #[.val (.ref a_1), .val (.int (0 : Int32))] [(.ref a_1), (.int lo), (.ref wb)])
  obtain ⟨T15, X15, e15, st15⟩ := getF X12 hx hZ hown (host := "") (Or.inl (hw _ (List.mem_of_getElem? (i := 19) rfl))) Via.refl e12 f11 (g := (mkF m 16 #[.val (.ref a_1), .val (.int (0 : Int32))] [(.ref a_1), (.int lo), (.ref wb)])) rfl rfl (hb hby own_d9_16)
  refine own_go (fun _ k => st15 _ k) ?_
  show own_Go _ _ _ _ T15 (mkF m 19 #[.val (.ref a_1), .val (.int (0 : Int32))] [(.ref wst), (.int lo), (.ref wb)])
  refine own_go (fun _ k => XS.iloadN X15.here hx rfl (hb hby own_d9_19) rfl k) ?_
  show own_Go _ _ _ _ T15 (mkF m 20 #[.val (.ref a_1), .val (.int (0 : Int32))] [(.int (0 : Int32)), (.ref wst), (.int lo), (.ref wb)])
  refine own_go (fun _ k => XS.iconst X15.here hx rfl (hb hby own_d9_20) k) ?_
  show own_Go _ _ _ _ T15 (mkF m 21 #[.val (.ref a_1), .val (.int (0 : Int32))] [(.int (1 : Int32)), (.int (0 : Int32)), (.ref wst), (.int lo), (.ref wb)])
  refine own_go (fun _ k => XS.iadd X15.here hx rfl (hb hby own_d9_21) rfl k) ?_
  show own_Go _ _ _ _ T15 (mkF m 22 #[.val (.ref a_1), .val (.int (0 : Int32))] [(.int (1 : Int32)), (.ref wst), (.int lo), (.ref wb)])
  obtain ⟨q16, c16, R16, s16, t16⟩ := id f13
  have hin16 : ¬ ((1 : Int32) < 0 ∨ c16.slots.size ≤ ((1 : Int32)).toNatClampNeg) := inb_of s16 ⟨by decide, by decide⟩
  have u16 : c16.slots[((1 : Int32)).toNatClampNeg]? = some (.int hi) := own_at (k := 1) t16 s16 hin16 (by decide) (hgh)
  refine own_go (fun _ k => X15.iaload hx (j := (1 : Int32)) (v := (.int hi)) (by rw [e15]; exact R16.1) (State.isArrayOf_alike hZ.alike R16.2.1) R16.2.2 hin16 u16 (g := (mkF m 22 #[.val (.ref a_1), .val (.int (0 : Int32))] [(.int (1 : Int32)), (.ref wst), (.int lo), (.ref wb)])) rfl rfl (hb hby own_d9_22) _ k) ?_
  show own_Go _ _ _ _ T15 (mkF m 23 #[.val (.ref a_1), .val (.int (0 : Int32))] [(.int hi), (.int lo), (.ref wb)])
  have f17 : own_AV Z T7.heap wb .int (64 : Int32) g := (pr_A_wb.keep K7q nin0)
  obtain ⟨_, _, ⟨T18, L18, k18, n18⟩, -, X18, ⟨Lc18, hQ18, l18, y18, z18⟩, st18⟩ := Jvm.LawKit.callS X15 hx (y := (⟨"java/util/Arrays", "copyOfRange", "([III)[I"⟩ : MethodName)) hown (mvT hZ (hw _ (List.mem_of_getElem? (i := 69) rfl))) (mvT hZ (hw _ (List.mem_of_getElem? (i := 70) rfl))) (mvT hZ (hw _ (List.mem_of_getElem? (i := 71) rfl))) (mvT hZ (hw _ (List.mem_of_getElem? (i := 72) rfl))) (by decide) (backOf (W := 0) (own_rm11 l Z a0 hw [] wb lo hi g T7.heap n0 (by omega) f17 hlo hfb) hZ (hw _ (List.mem_of_getElem? (i := 72) rfl)) (hw _ (List.mem_of_getElem? (i := 71) rfl)) (by decide) (by decide)) (g := (mkF m 23 #[.val (.ref a_1), .val (.int (0 : Int32))] [(.int hi), (.int lo), (.ref wb)])) rfl (by rw [hml]; rfl) (argsL := [(.ref wb), (.int lo), (.int hi)]) (rest := []) (lenOf own_pd4 rfl) rfl (by show 2 * 0 + _ ≤ _; exact Nat.le_of_eq rfl) (hb hby own_d9_23) (fun _ _ => ⟨rfl, e15, (by show k7 + _ ≤ _; rw [y7]; decide), (by show n7 + _ ≤ _; rw [z7]; decide)⟩)
  dsimp only [Pt.U, Pt.locs, Pt.cells, Pt.slots] at X18 l18 y18 z18 st18 hQ18
  have y18 : k18 = 3 := own_addeq y18 (congrArg (fun q => q) y7) rfl
  have z18 : n18 = 31 := own_addeq z18 (congrArg (fun q => q) z7) rfl
  obtain ⟨x19, rfl, N18q, K18q, f20, f21⟩ := hQ18
  have N18 : Fr n0 L18 := by rw [l18]; exact Fr.app N7 N18q
  have z22 := K18q.1
  have K18 : Keep h0 T18.heap [] := K7.trans K18q all0
  have z23 := own_lt f20.lt
  refine own_go (fun _ k => st18 _ k) ?_
  show own_Go _ _ _ _ T18 (mkF m 26 #[.val (.ref a_1), .val (.int (0 : Int32))] [(.ref x19)])
  obtain ⟨fs, hr, hrun, hended, hRW⟩ := X18.leaveW hS7 (by omega) (v := some (.ref x19)) (fun h => by rw [Bd.returns] at h; cases h)
  refine ⟨_, _, retOut X18 hx Bd.returns rfl (Or.inr (Or.inr (Or.inr (Or.inr ⟨rfl, rfl, rfl⟩)))) (hb hby own_d9_26) hr, hrun, hended, _, _, rfl, ?_, own_monoW hRW (by rw [y18]; decide) (by rw [z18]; decide)⟩
  exact ⟨x19, rfl, N18, K18, f20, (by omega)⟩
theorem own_ef_own_rm9_1 (m : MethodId) (x0 : Addr) : entryFrame m #[(.ref x0), (.int (1 : Int32))] 2 = mkF m 0 #[.val (.ref x0), .val (.int (1 : Int32))] [] := by first | (simp [entryFrame, mkF, argsToLocals, Value.category]; done) | rfl
def own_Q9_1 (Z : State) (a_1 : Addr) (wst : Addr) (wb : Addr) (gs : Nat → Value) (g : Nat → Value) (lo : Int32) (hi : Int32) (h0 : Heap) (n0 : Nat) (v : Option Value) (h : Heap) (L : List Loc) : Prop := ∃ (x : Addr), v = some (.ref x) ∧ Fr n0 L ∧ Keep h0 h [] ∧ own_AV Z h x .int (hi - lo) (own_sh g (lo).toNatClampNeg) ∧ (h0.size ≤ x)
set_option maxRecDepth 65536 in
set_option maxHeartbeats 40000000 in
theorem own_rm9_1 (l : Launch) (Z : State) (a0 : Array Value) (hw : ∀ d ∈ tables_1, d.before a0 Z = true) (ws : List Jvm.Cond) (a_1 : Addr) (wst : Addr) (wb : Addr) (gs : Nat → Value) (g : Nat → Value) (lo : Int32) (hi : Int32) (h0 : Heap) (n0 : Nat) (Z0 : n0 ≤ h0.size) (pr_E_a_1 : Exa Z h0 a_1 "com/example/kalchas/kalchas/propositional/HornClauses") (pr_F_a_1_clauseCount : Fld Z h0 a_1 "com/example/kalchas/kalchas/propositional/HornClauses" "clauseCount" "I" (.int (3 : Int32))) (pr_F_a_1_bodyStarts : Fld Z h0 a_1 "com/example/kalchas/kalchas/propositional/HornClauses" "bodyStarts" "[I" (.ref wst)) (pr_F_a_1_bodies : Fld Z h0 a_1 "com/example/kalchas/kalchas/propositional/HornClauses" "bodies" "[I" (.ref wb)) (pr_A_wst : own_AV Z h0 wst .int (65 : Int32) gs) (pr_A_wb : own_AV Z h0 wb .int (64 : Int32) g) (hgl : gs 1 = .int lo) (hgh : gs 2 = .int hi) (hlo : 0 ≤ lo.toInt ∧ lo.toInt ≤ hi.toInt ∧ hi.toInt ≤ 9 ∧ hi.toInt - lo.toInt ≤ 3) (hfb : ∀ i, fits .int (g i) = true) :
    MetFree l (⟨"com/example/kalchas/kalchas/propositional/HornClauses", "body", "(I)[I"⟩ : MethodName) (head1 (Jvm.Cond.code (⟨"com/example/kalchas/kalchas/propositional/HornClauses", "body", "(I)[I"⟩ : MethodName) prog_6_method_6_code 2 (some (.array .int)) :: ws) ({ frames := 3, cells := 3, slots := 31, locals := 70 } : Room)) (fun a U => a = #[(.ref a_1), (.int (1 : Int32))] ∧ Z.Warmed39 U.vm ∧ U.heap = h0) (fun _ _ _ _ _ => True) (fun _ U o U' => ∃ v L, o = .returned v ∧ own_Q9_1 Z a_1 wst wb gs g lo hi h0 n0 v U'.heap L ∧ ReturnedEndW U o U' L ({ frames := 3, cells := 3, slots := 31, locals := 70 } : Room).cells ({ frames := 3, cells := 3, slots := 31, locals := 70 } : Room).slots) := by
  refine MetFree.of_bodySF (plainFor_of_name own_pn1) hisR ?_
  intro p e s m args below meth c s₁ Bd hml0 hP hK
  obtain ⟨rfl, hZ, hh⟩ := hP
  have hx := Bd.exec
  have hby := Bd.bytes
  have hml : c.maxLocals = 2 := hml0
  have hown : s.vm.findClass "com/example/kalchas/kalchas/propositional/HornClauses" = some m.cls := findClass_of_methodNamed Bd.named
  have hnm := (name_of_methodNamed Bd.named Bd.method).1
  have X0 : Stand p l e ({ frames := 3, cells := 3, slots := 31, locals := 70 } : Room) s m #[(.ref a_1), (.int (1 : Int32))] below meth c s₁ [] 0 0 := Stand.of_body Bd
  have e0 : s₁.heap = h0 := by rw [← hh, Bd.state]; rfl
  have N0 := Fr.nil n0
  have X0 : Stand p l e ({ frames := 3, cells := 3, slots := 31, locals := 70 } : Room) (s.setVm s.vm) m #[(.ref a_1), (.int (1 : Int32))] below meth c s₁ [] 0 0 := X0
  have hZ : Z.Warmed39 (s.setVm s.vm).vm := hZ
  have hown : (s.setVm s.vm).vm.findClass "com/example/kalchas/kalchas/propositional/HornClauses" = some m.cls := hown
  have hS0 : s.Since s.vm 0 := (State.WarmedH.refl s).since 0
  have z0 : n0 ≤ h0.size := Z0
  have z1 := own_lt pr_E_a_1.lt
  have z2 := own_lt pr_F_a_1_clauseCount.lt
  have z3 := own_lt pr_F_a_1_bodyStarts.lt
  have z4 := own_lt pr_F_a_1_bodies.lt
  have z5 := own_lt pr_A_wst.lt
  have z6 := own_lt pr_A_wb.lt
  have K0 : Keep h0 h0 [] := Keep.refl h0 _
  show own_Go p.tables e below (fun t o => t.status = .running ∧ Ended t below o ∧ ∃ v L, o = .returned v ∧ own_Q9_1 Z a_1 wst wb gs g lo hi h0 n0 v t.heap L ∧ ReturnedEndW s o t L ({ frames := 3, cells := 3, slots := 31, locals := 70 } : Room).cells ({ frames := 3, cells := 3, slots := 31, locals := 70 } : Room).slots) s₁ (entryFrame m #[(.ref a_1), (.int (1 : Int32))] 2)
  rw [own_ef_own_rm9_1 m a_1]
  show own_Go _ _ _ _ s₁ (mkF m 0 #[.val (.ref a_1), .val (.int (1 : Int32))] [])
  refine own_go (fun _ k => XS.aloadN X0.here hx rfl (hb hby own_d9_0) rfl rfl k) ?_
  show own_Go _ _ _ _ s₁ (mkF m 1 #[.val (.ref a_1), .val (.int (1 : Int32))] [(.ref a_1)])
  refine own_go (fun _ k => XS.iloadN X0.here hx rfl (hb hby own_d9_1) rfl k) ?_
  show own_Go _ _ _ _ s₁ (mkF m 2 #[.val (.ref a_1), .val (.int (1 : Int32))] [(.int (1 : Int32)), (.ref a_1)])
  obtain ⟨cq7, q7, q7'⟩ := (id pr_E_a_1).cell
  obtain ⟨_, _, ⟨T7, L7, k7, n7⟩, -, X7, hS7, gr7, ⟨Lc7, hQ7, l7, y7, z7⟩, st7⟩ := X0.privateBackS hx (y := (⟨"com/example/kalchas/kalchas/propositional/HornClauses", "checkClause", "(I)V"⟩ : MethodName)) hown (mvT hZ (hw _ (List.mem_of_getElem? (i := 64) rfl))) (mvT hZ (hw _ (List.mem_of_getElem? (i := 65) rfl))) (own_selfsel hZ (hw _ (List.mem_of_getElem? (i := 9) rfl)) (hw _ (List.mem_of_getElem? (i := 65) rfl)) (hw _ (List.mem_of_getElem? (i := 66) rfl)) (by decide)) (Cond.privateMethod_at (mvP hZ (hw _ (List.mem_of_getElem? (i := 66) rfl)) (args := #[]))) (mvT hZ (hw _ (List.mem_of_getElem? (i := 67) rfl))) (by decide) (backOfS (W := 0) (own_rm10 l Z a0 hw [] a_1 (1 : Int32) (3 : Int32) h0 n0 (by omega) (show ¬ ((1 : Int32) < 0) by first | assumption | omega | decide) (show (1 : Int32) < (3 : Int32) by first | assumption | omega | decide) pr_F_a_1_clauseCount) hZ (hw _ (List.mem_of_getElem? (i := 67) rfl)) (hw _ (List.mem_of_getElem? (i := 10) rfl)) (by decide) (by decide)) (g := (mkF m 2 #[.val (.ref a_1), .val (.int (1 : Int32))] [(.int (1 : Int32)), (.ref a_1)])) rfl (by rw [hml]; rfl) (Steps.refl _) (a := a_1) (by rw [e0]; exact q7) q7' (argsL := [(.int (1 : Int32))]) (rest := []) (lenOf own_pd1 rfl) rfl (by show 2 * 0 + _ ≤ _; exact Nat.le_of_eq rfl) (hb hby own_d9_2) (fun _ _ => ⟨rfl, e0, (by decide : 0 + 2 ≤ _), (by decide : 0 + 28 ≤ _)⟩)
  dsimp only [Pt.U, Pt.locs, Pt.cells, Pt.slots] at X7 l7 y7 z7 st7 hQ7 hS7 gr7
  have y7 : k7 = 2 := y7
  have z7 : n7 = 28 := z7
  have Wn7 := hS7.1
  obtain ⟨X7, hS7, hZ, hown⟩ := rebS hS0 (n1 := s₁.heap.size) (by rw [e0]; omega) X7 hS7 gr7 hZ hown
  obtain ⟨rfl, N7q, K7q⟩ := hQ7
  have N7 : Fr n0 L7 := by rw [l7]; exact Fr.app N0 N7q
  have z8 := K7q.1
  have K7 : Keep h0 T7.heap [] := K0.trans K7q all0
  refine own_go (fun _ k => st7.trans k) ?_
  show own_Go _ _ _ _ T7 (mkF m 5 #[.val (.ref a_1), .val (.int (1 : Int32))] [])
  refine own_go (fun _ k => XS.aloadN X7.here hx rfl (hb hby own_d9_5) rfl rfl k) ?_
  show own_Go _ _ _ _ T7 (mkF m 6 #[.val (.ref a_1), .val (.int (1 : Int32))] [(.ref a_1)])
  have f9 : Fld Z T7.heap a_1 "com/example/kalchas/kalchas/propositional/HornClauses" "bodies" "[I" (.ref wb) := (pr_F_a_1_bodies.keep K7q nin0)
  obtain ⟨T10, X10, e10, st10⟩ := getF X7 hx hZ hown (host := "") (Or.inl (hw _ (List.mem_of_getElem? (i := 21) rfl))) Via.refl rfl f9 (g := (mkF m 6 #[.val (.ref a_1), .val (.int (1 : Int32))] [(.ref a_1)])) rfl rfl (hb hby own_d9_6)
  refine own_go (fun _ k => st10 _ k) ?_
  show own_Go _ _ _ _ T10 (mkF m 9 #[.val (.ref a_1), .val (.int (1 : Int32))] [(.ref wb)])
  refine own_go (fun _ k => XS.aloadN X10.here hx rfl (hb hby own_d9_9) rfl rfl k) ?_
  show own_Go _ _ _ _ T10 (mkF m 10 #[.val (.ref a_1), .val (.int (1 : Int32))] [(.ref a_1), (.ref wb)])
  have f11 : Fld Z T7.heap a_1 "com/example/kalchas/kalchas/propositional/HornClauses" "bodyStarts" "[I" (.ref wst) := (pr_F_a_1_bodyStarts.keep K7q nin0)
  obtain ⟨T12, X12, e12, st12⟩ := getF X10 hx hZ hown (host := "") (Or.inl (hw _ (List.mem_of_getElem? (i := 19) rfl))) Via.refl e10 f11 (g := (mkF m 10 #[.val (.ref a_1), .val (.int (1 : Int32))] [(.ref a_1), (.ref wb)])) rfl rfl (hb hby own_d9_10)
  refine own_go (fun _ k => st12 _ k) ?_
  show own_Go _ _ _ _ T12 (mkF m 13 #[.val (.ref a_1), .val (.int (1 : Int32))] [(.ref wst), (.ref wb)])
  refine own_go (fun _ k => XS.iloadN X12.here hx rfl (hb hby own_d9_13) rfl k) ?_
  show own_Go _ _ _ _ T12 (mkF m 14 #[.val (.ref a_1), .val (.int (1 : Int32))] [(.int (1 : Int32)), (.ref wst), (.ref wb)])
  have f13 : own_AV Z T7.heap wst .int (65 : Int32) gs := (pr_A_wst.keep K7q nin0)
  obtain ⟨q14, c14, R14, s14, t14⟩ := id f13
  have hin14 : ¬ ((1 : Int32) < 0 ∨ c14.slots.size ≤ ((1 : Int32)).toNatClampNeg) := inb_of s14 ⟨by decide, by decide⟩
  have u14 : c14.slots[((1 : Int32)).toNatClampNeg]? = some (.int lo) := own_at (k := 1) t14 s14 hin14 (by decide) (hgl)
  refine own_go (fun _ k => X12.iaload hx (j := (1 : Int32)) (v := (.int lo)) (by rw [e12]; exact R14.1) (State.isArrayOf_alike hZ.alike R14.2.1) R14.2.2 hin14 u14 (g := (mkF m 14 #[.val (.ref a_1), .val (.int (1 : Int32))] [(.int (1 : Int32)), (.ref wst), (.ref wb)])) rfl rfl (hb hby own_d9_14) _ k) ?_
  show own_Go _ _ _ _ T12 (mkF m 15 #[.val (.ref a_1), .val (.int (1 : Int32))] [(.int lo), (.ref wb)])
  refine own_go (fun _ k => XS.aloadN X12.here hx rfl (hb hby own_d9_15) rfl rfl k) ?_
  show own_Go _ _ _ _ T12 (mkF m 16 #[.val (.ref a_1), .val (.int (1 : Int32))] [(.ref a_1), (.int lo), (.ref wb)])
  obtain ⟨T15, X15, e15, st15⟩ := getF X12 hx hZ hown (host := "") (Or.inl (hw _ (List.mem_of_getElem? (i := 19) rfl))) Via.refl e12 f11 (g := (mkF m 16 #[.val (.ref a_1), .val (.int (1 : Int32))] [(.ref a_1), (.int lo), (.ref wb)])) rfl rfl (hb hby own_d9_16)
  refine own_go (fun _ k => st15 _ k) ?_
  show own_Go _ _ _ _ T15 (mkF m 19 #[.val (.ref a_1), .val (.int (1 : Int32))] [(.ref wst), (.int lo), (.ref wb)])
  refine own_go (fun _ k => XS.iloadN X15.here hx rfl (hb hby own_d9_19) rfl k) ?_
  show own_Go _ _ _ _ T15 (mkF m 20 #[.val (.ref a_1), .val (.int (1 : Int32))] [(.int (1 : Int32)), (.ref wst), (.int lo), (.ref wb)])
  refine own_go (fun _ k => XS.iconst X15.here hx rfl (hb hby own_d9_20) k) ?_
  show own_Go _ _ _ _ T15 (mkF m 21 #[.val (.ref a_1), .val (.int (1 : Int32))] [(.int (1 : Int32)), (.int (1 : Int32)), (.ref wst), (.int lo), (.ref wb)])
  refine own_go (fun _ k => XS.iadd X15.here hx rfl (hb hby own_d9_21) rfl k) ?_
  show own_Go _ _ _ _ T15 (mkF m 22 #[.val (.ref a_1), .val (.int (1 : Int32))] [(.int (2 : Int32)), (.ref wst), (.int lo), (.ref wb)])
  obtain ⟨q16, c16, R16, s16, t16⟩ := id f13
  have hin16 : ¬ ((2 : Int32) < 0 ∨ c16.slots.size ≤ ((2 : Int32)).toNatClampNeg) := inb_of s16 ⟨by decide, by decide⟩
  have u16 : c16.slots[((2 : Int32)).toNatClampNeg]? = some (.int hi) := own_at (k := 2) t16 s16 hin16 (by decide) (hgh)
  refine own_go (fun _ k => X15.iaload hx (j := (2 : Int32)) (v := (.int hi)) (by rw [e15]; exact R16.1) (State.isArrayOf_alike hZ.alike R16.2.1) R16.2.2 hin16 u16 (g := (mkF m 22 #[.val (.ref a_1), .val (.int (1 : Int32))] [(.int (2 : Int32)), (.ref wst), (.int lo), (.ref wb)])) rfl rfl (hb hby own_d9_22) _ k) ?_
  show own_Go _ _ _ _ T15 (mkF m 23 #[.val (.ref a_1), .val (.int (1 : Int32))] [(.int hi), (.int lo), (.ref wb)])
  have f17 : own_AV Z T7.heap wb .int (64 : Int32) g := (pr_A_wb.keep K7q nin0)
  obtain ⟨_, _, ⟨T18, L18, k18, n18⟩, -, X18, ⟨Lc18, hQ18, l18, y18, z18⟩, st18⟩ := Jvm.LawKit.callS X15 hx (y := (⟨"java/util/Arrays", "copyOfRange", "([III)[I"⟩ : MethodName)) hown (mvT hZ (hw _ (List.mem_of_getElem? (i := 69) rfl))) (mvT hZ (hw _ (List.mem_of_getElem? (i := 70) rfl))) (mvT hZ (hw _ (List.mem_of_getElem? (i := 71) rfl))) (mvT hZ (hw _ (List.mem_of_getElem? (i := 72) rfl))) (by decide) (backOf (W := 0) (own_rm11 l Z a0 hw [] wb lo hi g T7.heap n0 (by omega) f17 hlo hfb) hZ (hw _ (List.mem_of_getElem? (i := 72) rfl)) (hw _ (List.mem_of_getElem? (i := 71) rfl)) (by decide) (by decide)) (g := (mkF m 23 #[.val (.ref a_1), .val (.int (1 : Int32))] [(.int hi), (.int lo), (.ref wb)])) rfl (by rw [hml]; rfl) (argsL := [(.ref wb), (.int lo), (.int hi)]) (rest := []) (lenOf own_pd4 rfl) rfl (by show 2 * 0 + _ ≤ _; exact Nat.le_of_eq rfl) (hb hby own_d9_23) (fun _ _ => ⟨rfl, e15, (by show k7 + _ ≤ _; rw [y7]; decide), (by show n7 + _ ≤ _; rw [z7]; decide)⟩)
  dsimp only [Pt.U, Pt.locs, Pt.cells, Pt.slots] at X18 l18 y18 z18 st18 hQ18
  have y18 : k18 = 3 := own_addeq y18 (congrArg (fun q => q) y7) rfl
  have z18 : n18 = 31 := own_addeq z18 (congrArg (fun q => q) z7) rfl
  obtain ⟨x19, rfl, N18q, K18q, f20, f21⟩ := hQ18
  have N18 : Fr n0 L18 := by rw [l18]; exact Fr.app N7 N18q
  have z22 := K18q.1
  have K18 : Keep h0 T18.heap [] := K7.trans K18q all0
  have z23 := own_lt f20.lt
  refine own_go (fun _ k => st18 _ k) ?_
  show own_Go _ _ _ _ T18 (mkF m 26 #[.val (.ref a_1), .val (.int (1 : Int32))] [(.ref x19)])
  obtain ⟨fs, hr, hrun, hended, hRW⟩ := X18.leaveW hS7 (by omega) (v := some (.ref x19)) (fun h => by rw [Bd.returns] at h; cases h)
  refine ⟨_, _, retOut X18 hx Bd.returns rfl (Or.inr (Or.inr (Or.inr (Or.inr ⟨rfl, rfl, rfl⟩)))) (hb hby own_d9_26) hr, hrun, hended, _, _, rfl, ?_, own_monoW hRW (by rw [y18]; decide) (by rw [z18]; decide)⟩
  exact ⟨x19, rfl, N18, K18, f20, (by omega)⟩
theorem own_ef_own_rm9_2 (m : MethodId) (x0 : Addr) : entryFrame m #[(.ref x0), (.int (2 : Int32))] 2 = mkF m 0 #[.val (.ref x0), .val (.int (2 : Int32))] [] := by first | (simp [entryFrame, mkF, argsToLocals, Value.category]; done) | rfl
def own_Q9_2 (Z : State) (a_1 : Addr) (wst : Addr) (wb : Addr) (gs : Nat → Value) (g : Nat → Value) (lo : Int32) (hi : Int32) (h0 : Heap) (n0 : Nat) (v : Option Value) (h : Heap) (L : List Loc) : Prop := ∃ (x : Addr), v = some (.ref x) ∧ Fr n0 L ∧ Keep h0 h [] ∧ own_AV Z h x .int (hi - lo) (own_sh g (lo).toNatClampNeg) ∧ (h0.size ≤ x)
set_option maxRecDepth 65536 in
set_option maxHeartbeats 40000000 in
theorem own_rm9_2 (l : Launch) (Z : State) (a0 : Array Value) (hw : ∀ d ∈ tables_1, d.before a0 Z = true) (ws : List Jvm.Cond) (a_1 : Addr) (wst : Addr) (wb : Addr) (gs : Nat → Value) (g : Nat → Value) (lo : Int32) (hi : Int32) (h0 : Heap) (n0 : Nat) (Z0 : n0 ≤ h0.size) (pr_E_a_1 : Exa Z h0 a_1 "com/example/kalchas/kalchas/propositional/HornClauses") (pr_F_a_1_clauseCount : Fld Z h0 a_1 "com/example/kalchas/kalchas/propositional/HornClauses" "clauseCount" "I" (.int (3 : Int32))) (pr_F_a_1_bodyStarts : Fld Z h0 a_1 "com/example/kalchas/kalchas/propositional/HornClauses" "bodyStarts" "[I" (.ref wst)) (pr_F_a_1_bodies : Fld Z h0 a_1 "com/example/kalchas/kalchas/propositional/HornClauses" "bodies" "[I" (.ref wb)) (pr_A_wst : own_AV Z h0 wst .int (65 : Int32) gs) (pr_A_wb : own_AV Z h0 wb .int (64 : Int32) g) (hgl : gs 2 = .int lo) (hgh : gs 3 = .int hi) (hlo : 0 ≤ lo.toInt ∧ lo.toInt ≤ hi.toInt ∧ hi.toInt ≤ 9 ∧ hi.toInt - lo.toInt ≤ 3) (hfb : ∀ i, fits .int (g i) = true) :
    MetFree l (⟨"com/example/kalchas/kalchas/propositional/HornClauses", "body", "(I)[I"⟩ : MethodName) (head1 (Jvm.Cond.code (⟨"com/example/kalchas/kalchas/propositional/HornClauses", "body", "(I)[I"⟩ : MethodName) prog_6_method_6_code 2 (some (.array .int)) :: ws) ({ frames := 3, cells := 3, slots := 31, locals := 70 } : Room)) (fun a U => a = #[(.ref a_1), (.int (2 : Int32))] ∧ Z.Warmed39 U.vm ∧ U.heap = h0) (fun _ _ _ _ _ => True) (fun _ U o U' => ∃ v L, o = .returned v ∧ own_Q9_2 Z a_1 wst wb gs g lo hi h0 n0 v U'.heap L ∧ ReturnedEndW U o U' L ({ frames := 3, cells := 3, slots := 31, locals := 70 } : Room).cells ({ frames := 3, cells := 3, slots := 31, locals := 70 } : Room).slots) := by
  refine MetFree.of_bodySF (plainFor_of_name own_pn1) hisR ?_
  intro p e s m args below meth c s₁ Bd hml0 hP hK
  obtain ⟨rfl, hZ, hh⟩ := hP
  have hx := Bd.exec
  have hby := Bd.bytes
  have hml : c.maxLocals = 2 := hml0
  have hown : s.vm.findClass "com/example/kalchas/kalchas/propositional/HornClauses" = some m.cls := findClass_of_methodNamed Bd.named
  have hnm := (name_of_methodNamed Bd.named Bd.method).1
  have X0 : Stand p l e ({ frames := 3, cells := 3, slots := 31, locals := 70 } : Room) s m #[(.ref a_1), (.int (2 : Int32))] below meth c s₁ [] 0 0 := Stand.of_body Bd
  have e0 : s₁.heap = h0 := by rw [← hh, Bd.state]; rfl
  have N0 := Fr.nil n0
  have X0 : Stand p l e ({ frames := 3, cells := 3, slots := 31, locals := 70 } : Room) (s.setVm s.vm) m #[(.ref a_1), (.int (2 : Int32))] below meth c s₁ [] 0 0 := X0
  have hZ : Z.Warmed39 (s.setVm s.vm).vm := hZ
  have hown : (s.setVm s.vm).vm.findClass "com/example/kalchas/kalchas/propositional/HornClauses" = some m.cls := hown
  have hS0 : s.Since s.vm 0 := (State.WarmedH.refl s).since 0
  have z0 : n0 ≤ h0.size := Z0
  have z1 := own_lt pr_E_a_1.lt
  have z2 := own_lt pr_F_a_1_clauseCount.lt
  have z3 := own_lt pr_F_a_1_bodyStarts.lt
  have z4 := own_lt pr_F_a_1_bodies.lt
  have z5 := own_lt pr_A_wst.lt
  have z6 := own_lt pr_A_wb.lt
  have K0 : Keep h0 h0 [] := Keep.refl h0 _
  show own_Go p.tables e below (fun t o => t.status = .running ∧ Ended t below o ∧ ∃ v L, o = .returned v ∧ own_Q9_2 Z a_1 wst wb gs g lo hi h0 n0 v t.heap L ∧ ReturnedEndW s o t L ({ frames := 3, cells := 3, slots := 31, locals := 70 } : Room).cells ({ frames := 3, cells := 3, slots := 31, locals := 70 } : Room).slots) s₁ (entryFrame m #[(.ref a_1), (.int (2 : Int32))] 2)
  rw [own_ef_own_rm9_2 m a_1]
  show own_Go _ _ _ _ s₁ (mkF m 0 #[.val (.ref a_1), .val (.int (2 : Int32))] [])
  refine own_go (fun _ k => XS.aloadN X0.here hx rfl (hb hby own_d9_0) rfl rfl k) ?_
  show own_Go _ _ _ _ s₁ (mkF m 1 #[.val (.ref a_1), .val (.int (2 : Int32))] [(.ref a_1)])
  refine own_go (fun _ k => XS.iloadN X0.here hx rfl (hb hby own_d9_1) rfl k) ?_
  show own_Go _ _ _ _ s₁ (mkF m 2 #[.val (.ref a_1), .val (.int (2 : Int32))] [(.int (2 : Int32)), (.ref a_1)])
  obtain ⟨cq7, q7, q7'⟩ := (id pr_E_a_1).cell
  obtain ⟨_, _, ⟨T7, L7, k7, n7⟩, -, X7, hS7, gr7, ⟨Lc7, hQ7, l7, y7, z7⟩, st7⟩ := X0.privateBackS hx (y := (⟨"com/example/kalchas/kalchas/propositional/HornClauses", "checkClause", "(I)V"⟩ : MethodName)) hown (mvT hZ (hw _ (List.mem_of_getElem? (i := 64) rfl))) (mvT hZ (hw _ (List.mem_of_getElem? (i := 65) rfl))) (own_selfsel hZ (hw _ (List.mem_of_getElem? (i := 9) rfl)) (hw _ (List.mem_of_getElem? (i := 65) rfl)) (hw _ (List.mem_of_getElem? (i := 66) rfl)) (by decide)) (Cond.privateMethod_at (mvP hZ (hw _ (List.mem_of_getElem? (i := 66) rfl)) (args := #[]))) (mvT hZ (hw _ (List.mem_of_getElem? (i := 67) rfl))) (by decide) (backOfS (W := 0) (own_rm10 l Z a0 hw [] a_1 (2 : Int32) (3 : Int32) h0 n0 (by omega) (show ¬ ((2 : Int32) < 0) by first | assumption | omega | decide) (show (2 : Int32) < (3 : Int32) by first | assumption | omega | decide) pr_F_a_1_clauseCount) hZ (hw _ (List.mem_of_getElem? (i := 67) rfl)) (hw _ (List.mem_of_getElem? (i := 10) rfl)) (by decide) (by decide)) (g := (mkF m 2 #[.val (.ref a_1), .val (.int (2 : Int32))] [(.int (2 : Int32)), (.ref a_1)])) rfl (by rw [hml]; rfl) (Steps.refl _) (a := a_1) (by rw [e0]; exact q7) q7' (argsL := [(.int (2 : Int32))]) (rest := []) (lenOf own_pd1 rfl) rfl (by show 2 * 0 + _ ≤ _; exact Nat.le_of_eq rfl) (hb hby own_d9_2) (fun _ _ => ⟨rfl, e0, (by decide : 0 + 2 ≤ _), (by decide : 0 + 28 ≤ _)⟩)
  dsimp only [Pt.U, Pt.locs, Pt.cells, Pt.slots] at X7 l7 y7 z7 st7 hQ7 hS7 gr7
  have y7 : k7 = 2 := y7
  have z7 : n7 = 28 := z7
  have Wn7 := hS7.1
  obtain ⟨X7, hS7, hZ, hown⟩ := rebS hS0 (n1 := s₁.heap.size) (by rw [e0]; omega) X7 hS7 gr7 hZ hown
  obtain ⟨rfl, N7q, K7q⟩ := hQ7
  have N7 : Fr n0 L7 := by rw [l7]; exact Fr.app N0 N7q
  have z8 := K7q.1
  have K7 : Keep h0 T7.heap [] := K0.trans K7q all0
  refine own_go (fun _ k => st7.trans k) ?_
  show own_Go _ _ _ _ T7 (mkF m 5 #[.val (.ref a_1), .val (.int (2 : Int32))] [])
  refine own_go (fun _ k => XS.aloadN X7.here hx rfl (hb hby own_d9_5) rfl rfl k) ?_
  show own_Go _ _ _ _ T7 (mkF m 6 #[.val (.ref a_1), .val (.int (2 : Int32))] [(.ref a_1)])
  have f9 : Fld Z T7.heap a_1 "com/example/kalchas/kalchas/propositional/HornClauses" "bodies" "[I" (.ref wb) := (pr_F_a_1_bodies.keep K7q nin0)
  obtain ⟨T10, X10, e10, st10⟩ := getF X7 hx hZ hown (host := "") (Or.inl (hw _ (List.mem_of_getElem? (i := 21) rfl))) Via.refl rfl f9 (g := (mkF m 6 #[.val (.ref a_1), .val (.int (2 : Int32))] [(.ref a_1)])) rfl rfl (hb hby own_d9_6)
  refine own_go (fun _ k => st10 _ k) ?_
  show own_Go _ _ _ _ T10 (mkF m 9 #[.val (.ref a_1), .val (.int (2 : Int32))] [(.ref wb)])
  refine own_go (fun _ k => XS.aloadN X10.here hx rfl (hb hby own_d9_9) rfl rfl k) ?_
  show own_Go _ _ _ _ T10 (mkF m 10 #[.val (.ref a_1), .val (.int (2 : Int32))] [(.ref a_1), (.ref wb)])
  have f11 : Fld Z T7.heap a_1 "com/example/kalchas/kalchas/propositional/HornClauses" "bodyStarts" "[I" (.ref wst) := (pr_F_a_1_bodyStarts.keep K7q nin0)
  obtain ⟨T12, X12, e12, st12⟩ := getF X10 hx hZ hown (host := "") (Or.inl (hw _ (List.mem_of_getElem? (i := 19) rfl))) Via.refl e10 f11 (g := (mkF m 10 #[.val (.ref a_1), .val (.int (2 : Int32))] [(.ref a_1), (.ref wb)])) rfl rfl (hb hby own_d9_10)
  refine own_go (fun _ k => st12 _ k) ?_
  show own_Go _ _ _ _ T12 (mkF m 13 #[.val (.ref a_1), .val (.int (2 : Int32))] [(.ref wst), (.ref wb)])
  refine own_go (fun _ k => XS.iloadN X12.here hx rfl (hb hby own_d9_13) rfl k) ?_
  show own_Go _ _ _ _ T12 (mkF m 14 #[.val (.ref a_1), .val (.int (2 : Int32))] [(.int (2 : Int32)), (.ref wst), (.ref wb)])
  have f13 : own_AV Z T7.heap wst .int (65 : Int32) gs := (pr_A_wst.keep K7q nin0)
  obtain ⟨q14, c14, R14, s14, t14⟩ := id f13
  have hin14 : ¬ ((2 : Int32) < 0 ∨ c14.slots.size ≤ ((2 : Int32)).toNatClampNeg) := inb_of s14 ⟨by decide, by decide⟩
  have u14 : c14.slots[((2 : Int32)).toNatClampNeg]? = some (.int lo) := own_at (k := 2) t14 s14 hin14 (by decide) (hgl)
  refine own_go (fun _ k => X12.iaload hx (j := (2 : Int32)) (v := (.int lo)) (by rw [e12]; exact R14.1) (State.isArrayOf_alike hZ.alike R14.2.1) R14.2.2 hin14 u14 (g := (mkF m 14 #[.val (.ref a_1), .val (.int (2 : Int32))] [(.int (2 : Int32)), (.ref wst), (.ref wb)])) rfl rfl (hb hby own_d9_14) _ k) ?_
  show own_Go _ _ _ _ T12 (mkF m 15 #[.val (.ref a_1), .val (.int (2 : Int32))] [(.int lo), (.ref wb)])
  refine own_go (fun _ k => XS.aloadN X12.here hx rfl (hb hby own_d9_15) rfl rfl k) ?_
  show own_Go _ _ _ _ T12 (mkF m 16 #[.val (.ref a_1), .val (.int (2 : Int32))] [(.ref a_1), (.int lo), (.ref wb)])
  obtain ⟨T15, X15, e15, st15⟩ := getF X12 hx hZ hown (host := "") (Or.inl (hw _ (List.mem_of_getElem? (i := 19) rfl))) Via.refl e12 f11 (g := (mkF m 16 #[.val (.ref a_1), .val (.int (2 : Int32))] [(.ref a_1), (.int lo), (.ref wb)])) rfl rfl (hb hby own_d9_16)
  refine own_go (fun _ k => st15 _ k) ?_
  show own_Go _ _ _ _ T15 (mkF m 19 #[.val (.ref a_1), .val (.int (2 : Int32))] [(.ref wst), (.int lo), (.ref wb)])
  refine own_go (fun _ k => XS.iloadN X15.here hx rfl (hb hby own_d9_19) rfl k) ?_
  show own_Go _ _ _ _ T15 (mkF m 20 #[.val (.ref a_1), .val (.int (2 : Int32))] [(.int (2 : Int32)), (.ref wst), (.int lo), (.ref wb)])
  refine own_go (fun _ k => XS.iconst X15.here hx rfl (hb hby own_d9_20) k) ?_
  show own_Go _ _ _ _ T15 (mkF m 21 #[.val (.ref a_1), .val (.int (2 : Int32))] [(.int (1 : Int32)), (.int (2 : Int32)), (.ref wst), (.int lo), (.ref wb)])
  refine own_go (fun _ k => XS.iadd X15.here hx rfl (hb hby own_d9_21) rfl k) ?_
  show own_Go _ _ _ _ T15 (mkF m 22 #[.val (.ref a_1), .val (.int (2 : Int32))] [(.int (3 : Int32)), (.ref wst), (.int lo), (.ref wb)])
  obtain ⟨q16, c16, R16, s16, t16⟩ := id f13
  have hin16 : ¬ ((3 : Int32) < 0 ∨ c16.slots.size ≤ ((3 : Int32)).toNatClampNeg) := inb_of s16 ⟨by decide, by decide⟩
  have u16 : c16.slots[((3 : Int32)).toNatClampNeg]? = some (.int hi) := own_at (k := 3) t16 s16 hin16 (by decide) (hgh)
  refine own_go (fun _ k => X15.iaload hx (j := (3 : Int32)) (v := (.int hi)) (by rw [e15]; exact R16.1) (State.isArrayOf_alike hZ.alike R16.2.1) R16.2.2 hin16 u16 (g := (mkF m 22 #[.val (.ref a_1), .val (.int (2 : Int32))] [(.int (3 : Int32)), (.ref wst), (.int lo), (.ref wb)])) rfl rfl (hb hby own_d9_22) _ k) ?_
  show own_Go _ _ _ _ T15 (mkF m 23 #[.val (.ref a_1), .val (.int (2 : Int32))] [(.int hi), (.int lo), (.ref wb)])
  have f17 : own_AV Z T7.heap wb .int (64 : Int32) g := (pr_A_wb.keep K7q nin0)
  obtain ⟨_, _, ⟨T18, L18, k18, n18⟩, -, X18, ⟨Lc18, hQ18, l18, y18, z18⟩, st18⟩ := Jvm.LawKit.callS X15 hx (y := (⟨"java/util/Arrays", "copyOfRange", "([III)[I"⟩ : MethodName)) hown (mvT hZ (hw _ (List.mem_of_getElem? (i := 69) rfl))) (mvT hZ (hw _ (List.mem_of_getElem? (i := 70) rfl))) (mvT hZ (hw _ (List.mem_of_getElem? (i := 71) rfl))) (mvT hZ (hw _ (List.mem_of_getElem? (i := 72) rfl))) (by decide) (backOf (W := 0) (own_rm11 l Z a0 hw [] wb lo hi g T7.heap n0 (by omega) f17 hlo hfb) hZ (hw _ (List.mem_of_getElem? (i := 72) rfl)) (hw _ (List.mem_of_getElem? (i := 71) rfl)) (by decide) (by decide)) (g := (mkF m 23 #[.val (.ref a_1), .val (.int (2 : Int32))] [(.int hi), (.int lo), (.ref wb)])) rfl (by rw [hml]; rfl) (argsL := [(.ref wb), (.int lo), (.int hi)]) (rest := []) (lenOf own_pd4 rfl) rfl (by show 2 * 0 + _ ≤ _; exact Nat.le_of_eq rfl) (hb hby own_d9_23) (fun _ _ => ⟨rfl, e15, (by show k7 + _ ≤ _; rw [y7]; decide), (by show n7 + _ ≤ _; rw [z7]; decide)⟩)
  dsimp only [Pt.U, Pt.locs, Pt.cells, Pt.slots] at X18 l18 y18 z18 st18 hQ18
  have y18 : k18 = 3 := own_addeq y18 (congrArg (fun q => q) y7) rfl
  have z18 : n18 = 31 := own_addeq z18 (congrArg (fun q => q) z7) rfl
  obtain ⟨x19, rfl, N18q, K18q, f20, f21⟩ := hQ18
  have N18 : Fr n0 L18 := by rw [l18]; exact Fr.app N7 N18q
  have z22 := K18q.1
  have K18 : Keep h0 T18.heap [] := K7.trans K18q all0
  have z23 := own_lt f20.lt
  refine own_go (fun _ k => st18 _ k) ?_
  show own_Go _ _ _ _ T18 (mkF m 26 #[.val (.ref a_1), .val (.int (2 : Int32))] [(.ref x19)])
  obtain ⟨fs, hr, hrun, hended, hRW⟩ := X18.leaveW hS7 (by omega) (v := some (.ref x19)) (fun h => by rw [Bd.returns] at h; cases h)
  refine ⟨_, _, retOut X18 hx Bd.returns rfl (Or.inr (Or.inr (Or.inr (Or.inr ⟨rfl, rfl, rfl⟩)))) (hb hby own_d9_26) hr, hrun, hended, _, _, rfl, ?_, own_monoW hRW (by rw [y18]; decide) (by rw [z18]; decide)⟩
  exact ⟨x19, rfl, N18, K18, f20, (by omega)⟩
theorem own_d15_0 : decode method_3_code 0 = .ok (.aload_n 0, 1) := by decide +kernel
theorem own_d15_1 : decode method_3_code 1 = .ok (.ifnull 9, 3) := by decide +kernel
theorem own_d15_4 : decode method_3_code 4 = .ok (.aload_n 0, 1) := by decide +kernel
theorem own_d15_5 : decode method_3_code 5 = .ok (.arraylength, 1) := by decide +kernel
theorem own_d15_6 : decode method_3_code 6 = .ok (.iload_n 1, 1) := by decide +kernel
theorem own_d15_7 : decode method_3_code 7 = .ok (.if_icmp .eq 5, 3) := by decide +kernel
theorem own_d15_12 : decode method_3_code 12 = .ok (.iload_n 1, 1) := by decide +kernel
theorem own_d15_13 : decode method_3_code 13 = .ok (.iconst 1, 1) := by decide +kernel
theorem own_d15_14 : decode method_3_code 14 = .ok (.if_icmp .lt 12, 3) := by decide +kernel
theorem own_d15_17 : decode method_3_code 17 = .ok (.aload_n 0, 1) := by decide +kernel
theorem own_d15_18 : decode method_3_code 18 = .ok (.iconst 0, 1) := by decide +kernel
theorem own_d15_19 : decode method_3_code 19 = .ok (.iaload, 1) := by decide +kernel
theorem own_d15_20 : decode method_3_code 20 = .ok (.iload_n 2, 1) := by decide +kernel
theorem own_d15_21 : decode method_3_code 21 = .ok (.if_icmp .eq 5, 3) := by decide +kernel
theorem own_d15_26 : decode method_3_code 26 = .ok (.iload_n 1, 1) := by decide +kernel
theorem own_d15_27 : decode method_3_code 27 = .ok (.iconst 2, 1) := by decide +kernel
theorem own_d15_28 : decode method_3_code 28 = .ok (.if_icmp .lt 12, 3) := by decide +kernel
theorem own_d15_31 : decode method_3_code 31 = .ok (.aload_n 0, 1) := by decide +kernel
theorem own_d15_32 : decode method_3_code 32 = .ok (.iconst 1, 1) := by decide +kernel
theorem own_d15_33 : decode method_3_code 33 = .ok (.iaload, 1) := by decide +kernel
theorem own_d15_34 : decode method_3_code 34 = .ok (.iload_n 3, 1) := by decide +kernel
theorem own_d15_35 : decode method_3_code 35 = .ok (.if_icmp .eq 5, 3) := by decide +kernel
theorem own_d15_40 : decode method_3_code 40 = .ok (.iload_n 1, 1) := by decide +kernel
theorem own_d15_41 : decode method_3_code 41 = .ok (.iconst 3, 1) := by decide +kernel
theorem own_d15_42 : decode method_3_code 42 = .ok (.if_icmp .lt 13, 3) := by decide +kernel
theorem own_d15_45 : decode method_3_code 45 = .ok (.aload_n 0, 1) := by decide +kernel
theorem own_d15_46 : decode method_3_code 46 = .ok (.iconst 2, 1) := by decide +kernel
theorem own_d15_47 : decode method_3_code 47 = .ok (.iaload, 1) := by decide +kernel
theorem own_d15_48 : decode method_3_code 48 = .ok (.iload 4, 2) := by decide +kernel
theorem own_d15_50 : decode method_3_code 50 = .ok (.if_icmp .eq 5, 3) := by decide +kernel
theorem own_d15_55 : decode method_3_code 55 = .ok (.iconst 1, 1) := by decide +kernel
theorem own_d15_56 : decode method_3_code 56 = .ok (.ireturn, 1) := by decide +kernel
theorem own_ef_own_rm15 (m : MethodId) (x0 : Addr) (x1 : Int32) (x2 : Int32) (x3 : Int32) (x4 : Int32) : entryFrame m #[(.ref x0), (.int x1), (.int x2), (.int x3), (.int x4)] 5 = mkF m 0 #[.val (.ref x0), .val (.int x1), .val (.int x2), .val (.int x3), .val (.int x4)] [] := by first | (simp [entryFrame, mkF, argsToLocals, Value.category]; done) | rfl
set_option maxRecDepth 65536 in
set_option maxHeartbeats 4000000 in
theorem own_t15_0 (p_2 : Int32) (z : Int32) (hzz : z = p_2) (hl : p_2 = (0 : Int32) ∨ p_2 = (1 : Int32) ∨ p_2 = (2 : Int32) ∨ p_2 = (3 : Int32)) : p_2 = (0 : Int32) ∨ p_2 = (1 : Int32) ∨ p_2 = (2 : Int32) ∨ p_2 = (3 : Int32) := by
  exact hl
set_option maxRecDepth 65536 in
set_option maxHeartbeats 4000000 in
theorem own_t15_1 (z : Int32) (hzz : z = (1 : Int32)) : ¬ (0 : Int32) < 0 ∧ (0 : Int32) < z := by
  have el0 : (0 : Int32).toInt = 0 := by decide
  have el1 : (1 : Int32).toInt = 1 := by decide
  have rv_z := rng32 z
  have own0 : (0 : Int32).toInt = 0 := by decide
  simp only [← Int32.toInt_inj, Int32.lt_iff_toInt_lt, implies_true, and_true, true_and, own0, el0, el1] at *
  omega
set_option maxRecDepth 65536 in
set_option maxHeartbeats 4000000 in
theorem own_t15_2 (z : Int32) (hzz : z = (2 : Int32)) : ¬ (0 : Int32) < 0 ∧ (0 : Int32) < z := by
  have el0 : (0 : Int32).toInt = 0 := by decide
  have el1 : (2 : Int32).toInt = 2 := by decide
  have rv_z := rng32 z
  have own0 : (0 : Int32).toInt = 0 := by decide
  simp only [← Int32.toInt_inj, Int32.lt_iff_toInt_lt, implies_true, and_true, true_and, own0, el0, el1] at *
  omega
set_option maxRecDepth 65536 in
set_option maxHeartbeats 4000000 in
theorem own_t15_3 (z : Int32) (hzz : z = (2 : Int32)) : ¬ (1 : Int32) < 0 ∧ (1 : Int32) < z := by
  have el0 : (1 : Int32).toInt = 1 := by decide
  have el1 : (2 : Int32).toInt = 2 := by decide
  have rv_z := rng32 z
  have own0 : (0 : Int32).toInt = 0 := by decide
  simp only [← Int32.toInt_inj, Int32.lt_iff_toInt_lt, implies_true, and_true, true_and, own0, el0, el1] at *
  omega
set_option maxRecDepth 65536 in
set_option maxHeartbeats 4000000 in
theorem own_t15_4 (z : Int32) (hzz : z = (3 : Int32)) : ¬ (0 : Int32) < 0 ∧ (0 : Int32) < z := by
  have el0 : (0 : Int32).toInt = 0 := by decide
  have el1 : (3 : Int32).toInt = 3 := by decide
  have rv_z := rng32 z
  have own0 : (0 : Int32).toInt = 0 := by decide
  simp only [← Int32.toInt_inj, Int32.lt_iff_toInt_lt, implies_true, and_true, true_and, own0, el0, el1] at *
  omega
set_option maxRecDepth 65536 in
set_option maxHeartbeats 4000000 in
theorem own_t15_5 (z : Int32) (hzz : z = (3 : Int32)) : ¬ (1 : Int32) < 0 ∧ (1 : Int32) < z := by
  have el0 : (1 : Int32).toInt = 1 := by decide
  have el1 : (3 : Int32).toInt = 3 := by decide
  have rv_z := rng32 z
  have own0 : (0 : Int32).toInt = 0 := by decide
  simp only [← Int32.toInt_inj, Int32.lt_iff_toInt_lt, implies_true, and_true, true_and, own0, el0, el1] at *
  omega
set_option maxRecDepth 65536 in
set_option maxHeartbeats 4000000 in
theorem own_t15_6 (z : Int32) (hzz : z = (3 : Int32)) : ¬ (2 : Int32) < 0 ∧ (2 : Int32) < z := by
  have el0 : (2 : Int32).toInt = 2 := by decide
  have el1 : (3 : Int32).toInt = 3 := by decide
  have rv_z := rng32 z
  have own0 : (0 : Int32).toInt = 0 := by decide
  simp only [← Int32.toInt_inj, Int32.lt_iff_toInt_lt, implies_true, and_true, true_and, own0, el0, el1] at *
  omega
def own_Q15 (Z : State) (a_1 : Addr) (p_2 : Int32) (p_3 : Int32) (p_4 : Int32) (p_5 : Int32) (z : Int32) (ga : Nat → Value) (h0 : Heap) (n0 : Nat) (v : Option Value) (h : Heap) (L : List Loc) : Prop := v = some (.int (1 : Int32)) ∧ Fr n0 L ∧ h = h0
set_option maxRecDepth 65536 in
set_option maxHeartbeats 40000000 in
theorem own_rm15 (l : Launch) (Z : State) (a0 : Array Value) (hw : ∀ d ∈ tables_1, d.before a0 Z = true) (ws : List Jvm.Cond) (a_1 : Addr) (p_2 : Int32) (p_3 : Int32) (p_4 : Int32) (p_5 : Int32) (z : Int32) (ga : Nat → Value) (h0 : Heap) (n0 : Nat) (Z0 : n0 ≤ h0.size) (pr_A_a_1 : own_AV Z h0 a_1 .int z ga) (hzz : z = p_2) (hl : p_2 = (0 : Int32) ∨ p_2 = (1 : Int32) ∨ p_2 = (2 : Int32) ∨ p_2 = (3 : Int32)) (hg : ∀ i, i < (p_2).toNatClampNeg → ga i = own_n3 p_3 p_4 p_5 i) :
    MetFree l (⟨"com/example/kalchas/kalchas/propositional/HornClausesBodyPinLaw", "same", "([IIIII)Z"⟩ : MethodName) (head1 (Jvm.Cond.code (⟨"com/example/kalchas/kalchas/propositional/HornClausesBodyPinLaw", "same", "([IIIII)Z"⟩ : MethodName) method_3_code 5 (some .boolean) :: ws) ({ frames := 0, cells := 0, slots := 0, locals := 0 } : Room)) (fun a U => a = #[(.ref a_1), (.int p_2), (.int p_3), (.int p_4), (.int p_5)] ∧ Z.Warmed39 U.vm ∧ U.heap = h0) (fun _ _ _ _ _ => True) (fun _ U o U' => ∃ v L, o = .returned v ∧ own_Q15 Z a_1 p_2 p_3 p_4 p_5 z ga h0 n0 v U'.heap L ∧ FrameEnd U o U' L ({ frames := 0, cells := 0, slots := 0, locals := 0 } : Room).cells ({ frames := 0, cells := 0, slots := 0, locals := 0 } : Room).slots) := by
  refine MetFree.of_bodySF (plainFor_of_name own_pn0) hisR ?_
  intro p e s m args below meth c s₁ Bd hml0 hP hK
  obtain ⟨rfl, hZ, hh⟩ := hP
  have hx := Bd.exec
  have hby := Bd.bytes
  have hml : c.maxLocals = 5 := hml0
  have hown : s.vm.findClass "com/example/kalchas/kalchas/propositional/HornClausesBodyPinLaw" = some m.cls := findClass_of_methodNamed Bd.named
  have hnm := (name_of_methodNamed Bd.named Bd.method).1
  have X0 : Stand p l e ({ frames := 0, cells := 0, slots := 0, locals := 0 } : Room) s m #[(.ref a_1), (.int p_2), (.int p_3), (.int p_4), (.int p_5)] below meth c s₁ [] 0 0 := Stand.of_body Bd
  have e0 : s₁.heap = h0 := by rw [← hh, Bd.state]; rfl
  have N0 := Fr.nil n0
  have z0 : n0 ≤ h0.size := Z0
  have z1 := own_lt pr_A_a_1.lt
  show own_Go p.tables e below (fun t o => t.status = .running ∧ Ended t below o ∧ ∃ v L, o = .returned v ∧ own_Q15 Z a_1 p_2 p_3 p_4 p_5 z ga h0 n0 v t.heap L ∧ FrameEnd s o t L ({ frames := 0, cells := 0, slots := 0, locals := 0 } : Room).cells ({ frames := 0, cells := 0, slots := 0, locals := 0 } : Room).slots) s₁ (entryFrame m #[(.ref a_1), (.int p_2), (.int p_3), (.int p_4), (.int p_5)] 5)
  rw [own_ef_own_rm15 m a_1 p_2 p_3 p_4 p_5]
  show own_Go _ _ _ _ s₁ (mkF m 0 #[.val (.ref a_1), .val (.int p_2), .val (.int p_3), .val (.int p_4), .val (.int p_5)] [])
  have hs2 : p_2 = (0 : Int32) ∨ p_2 = (1 : Int32) ∨ p_2 = (2 : Int32) ∨ p_2 = (3 : Int32) := own_t15_0 p_2 z hzz hl
  rcases hs2 with hs2 | hs2 | hs2 | hs2
  · subst hs2
    show own_Go _ _ _ _ s₁ (mkF m 0 #[.val (.ref a_1), .val (.int (0 : Int32)), .val (.int p_3), .val (.int p_4), .val (.int p_5)] [])
    refine own_go (fun _ k => XS.aloadN X0.here hx rfl (hb hby own_d15_0) rfl rfl k) ?_
    show own_Go _ _ _ _ s₁ (mkF m 1 #[.val (.ref a_1), .val (.int (0 : Int32)), .val (.int p_3), .val (.int p_4), .val (.int p_5)] [(.ref a_1)])
    refine own_go (fun _ k => XS.ifnullNo X0.here hx rfl (hb hby own_d15_1) rfl k) ?_
    show own_Go _ _ _ _ s₁ (mkF m 4 #[.val (.ref a_1), .val (.int (0 : Int32)), .val (.int p_3), .val (.int p_4), .val (.int p_5)] [])
    refine own_go (fun _ k => XS.aloadN X0.here hx rfl (hb hby own_d15_4) rfl rfl k) ?_
    show own_Go _ _ _ _ s₁ (mkF m 5 #[.val (.ref a_1), .val (.int (0 : Int32)), .val (.int p_3), .val (.int p_4), .val (.int p_5)] [(.ref a_1)])
    obtain ⟨q3, c3, R3, s3, t3⟩ := id pr_A_a_1
    refine own_go (fun _ k => X0.arraylength hx (by rw [e0]; exact R3.1) (State.isArrayOf_alike hZ.alike R3.2.1) (g := (mkF m 5 #[.val (.ref a_1), .val (.int (0 : Int32)), .val (.int p_3), .val (.int p_4), .val (.int p_5)] [(.ref a_1)])) rfl rfl (hb hby own_d15_5) _ k) ?_
    rw [len_of s3 q3]
    show own_Go _ _ _ _ s₁ (mkF m 6 #[.val (.ref a_1), .val (.int (0 : Int32)), .val (.int p_3), .val (.int p_4), .val (.int p_5)] [(.int z)])
    refine own_go (fun _ k => XS.iloadN X0.here hx rfl (hb hby own_d15_6) rfl k) ?_
    show own_Go _ _ _ _ s₁ (mkF m 7 #[.val (.ref a_1), .val (.int (0 : Int32)), .val (.int p_3), .val (.int p_4), .val (.int p_5)] [(.int (0 : Int32)), (.int z)])
    refine own_go (fun _ k => XS.icmpYes X0.here hx rfl (pc0 := 7) (pc' := 12) rfl (hb hby own_d15_7) rfl (Jvm.Free.XT.ii_eq_t hzz) (by decide) (by decide) k) ?_
    show own_Go _ _ _ _ s₁ (mkF m 12 #[.val (.ref a_1), .val (.int (0 : Int32)), .val (.int p_3), .val (.int p_4), .val (.int p_5)] [])
    refine own_go (fun _ k => XS.iloadN X0.here hx rfl (hb hby own_d15_12) rfl k) ?_
    show own_Go _ _ _ _ s₁ (mkF m 13 #[.val (.ref a_1), .val (.int (0 : Int32)), .val (.int p_3), .val (.int p_4), .val (.int p_5)] [(.int (0 : Int32))])
    refine own_go (fun _ k => XS.iconst X0.here hx rfl (hb hby own_d15_13) k) ?_
    show own_Go _ _ _ _ s₁ (mkF m 14 #[.val (.ref a_1), .val (.int (0 : Int32)), .val (.int p_3), .val (.int p_4), .val (.int p_5)] [(.int (1 : Int32)), (.int (0 : Int32))])
    have hc5 : (0 : Int32) < (1 : Int32) := by decide
    refine own_go (fun _ k => XS.icmpYes X0.here hx rfl (pc0 := 14) (pc' := 26) rfl (hb hby own_d15_14) rfl (Jvm.Free.XT.ii_lt_t hc5) (by decide) (by decide) k) ?_
    show own_Go _ _ _ _ s₁ (mkF m 26 #[.val (.ref a_1), .val (.int (0 : Int32)), .val (.int p_3), .val (.int p_4), .val (.int p_5)] [])
    refine own_go (fun _ k => XS.iloadN X0.here hx rfl (hb hby own_d15_26) rfl k) ?_
    show own_Go _ _ _ _ s₁ (mkF m 27 #[.val (.ref a_1), .val (.int (0 : Int32)), .val (.int p_3), .val (.int p_4), .val (.int p_5)] [(.int (0 : Int32))])
    refine own_go (fun _ k => XS.iconst X0.here hx rfl (hb hby own_d15_27) k) ?_
    show own_Go _ _ _ _ s₁ (mkF m 28 #[.val (.ref a_1), .val (.int (0 : Int32)), .val (.int p_3), .val (.int p_4), .val (.int p_5)] [(.int (2 : Int32)), (.int (0 : Int32))])
    have hc6 : (0 : Int32) < (2 : Int32) := by decide
    refine own_go (fun _ k => XS.icmpYes X0.here hx rfl (pc0 := 28) (pc' := 40) rfl (hb hby own_d15_28) rfl (Jvm.Free.XT.ii_lt_t hc6) (by decide) (by decide) k) ?_
    show own_Go _ _ _ _ s₁ (mkF m 40 #[.val (.ref a_1), .val (.int (0 : Int32)), .val (.int p_3), .val (.int p_4), .val (.int p_5)] [])
    refine own_go (fun _ k => XS.iloadN X0.here hx rfl (hb hby own_d15_40) rfl k) ?_
    show own_Go _ _ _ _ s₁ (mkF m 41 #[.val (.ref a_1), .val (.int (0 : Int32)), .val (.int p_3), .val (.int p_4), .val (.int p_5)] [(.int (0 : Int32))])
    refine own_go (fun _ k => XS.iconst X0.here hx rfl (hb hby own_d15_41) k) ?_
    show own_Go _ _ _ _ s₁ (mkF m 42 #[.val (.ref a_1), .val (.int (0 : Int32)), .val (.int p_3), .val (.int p_4), .val (.int p_5)] [(.int (3 : Int32)), (.int (0 : Int32))])
    have hc7 : (0 : Int32) < (3 : Int32) := by decide
    refine own_go (fun _ k => XS.icmpYes X0.here hx rfl (pc0 := 42) (pc' := 55) rfl (hb hby own_d15_42) rfl (Jvm.Free.XT.ii_lt_t hc7) (by decide) (by decide) k) ?_
    show own_Go _ _ _ _ s₁ (mkF m 55 #[.val (.ref a_1), .val (.int (0 : Int32)), .val (.int p_3), .val (.int p_4), .val (.int p_5)] [])
    refine own_go (fun _ k => XS.iconst X0.here hx rfl (hb hby own_d15_55) k) ?_
    show own_Go _ _ _ _ s₁ (mkF m 56 #[.val (.ref a_1), .val (.int (0 : Int32)), .val (.int p_3), .val (.int p_4), .val (.int p_5)] [(.int (1 : Int32))])
    obtain ⟨fs, hr, hrun, hended, hW, hsame⟩ := X0.leave (v := some (.int (1 : Int32))) (fun h => by rw [Bd.returns] at h; cases h)
    refine ⟨_, _, retOut X0 hx Bd.returns rfl (Or.inl ⟨rfl, Or.inr (Or.inl rfl), _, rfl⟩) (hb hby own_d15_56) hr, hrun, hended, _, _, rfl, ?_, ⟨_, rfl⟩, hW, hsame.mono (by decide) (by decide)⟩
    show own_Q15 Z a_1 (0 : Int32) p_3 p_4 p_5 z ga h0 n0 _ s₁.heap _
    rw [e0]
    exact ⟨rfl, N0, rfl⟩
  · subst hs2
    show own_Go _ _ _ _ s₁ (mkF m 0 #[.val (.ref a_1), .val (.int (1 : Int32)), .val (.int p_3), .val (.int p_4), .val (.int p_5)] [])
    refine own_go (fun _ k => XS.aloadN X0.here hx rfl (hb hby own_d15_0) rfl rfl k) ?_
    show own_Go _ _ _ _ s₁ (mkF m 1 #[.val (.ref a_1), .val (.int (1 : Int32)), .val (.int p_3), .val (.int p_4), .val (.int p_5)] [(.ref a_1)])
    refine own_go (fun _ k => XS.ifnullNo X0.here hx rfl (hb hby own_d15_1) rfl k) ?_
    show own_Go _ _ _ _ s₁ (mkF m 4 #[.val (.ref a_1), .val (.int (1 : Int32)), .val (.int p_3), .val (.int p_4), .val (.int p_5)] [])
    refine own_go (fun _ k => XS.aloadN X0.here hx rfl (hb hby own_d15_4) rfl rfl k) ?_
    show own_Go _ _ _ _ s₁ (mkF m 5 #[.val (.ref a_1), .val (.int (1 : Int32)), .val (.int p_3), .val (.int p_4), .val (.int p_5)] [(.ref a_1)])
    obtain ⟨q9, c9, R9, s9, t9⟩ := id pr_A_a_1
    refine own_go (fun _ k => X0.arraylength hx (by rw [e0]; exact R9.1) (State.isArrayOf_alike hZ.alike R9.2.1) (g := (mkF m 5 #[.val (.ref a_1), .val (.int (1 : Int32)), .val (.int p_3), .val (.int p_4), .val (.int p_5)] [(.ref a_1)])) rfl rfl (hb hby own_d15_5) _ k) ?_
    rw [len_of s9 q9]
    show own_Go _ _ _ _ s₁ (mkF m 6 #[.val (.ref a_1), .val (.int (1 : Int32)), .val (.int p_3), .val (.int p_4), .val (.int p_5)] [(.int z)])
    refine own_go (fun _ k => XS.iloadN X0.here hx rfl (hb hby own_d15_6) rfl k) ?_
    show own_Go _ _ _ _ s₁ (mkF m 7 #[.val (.ref a_1), .val (.int (1 : Int32)), .val (.int p_3), .val (.int p_4), .val (.int p_5)] [(.int (1 : Int32)), (.int z)])
    refine own_go (fun _ k => XS.icmpYes X0.here hx rfl (pc0 := 7) (pc' := 12) rfl (hb hby own_d15_7) rfl (Jvm.Free.XT.ii_eq_t hzz) (by decide) (by decide) k) ?_
    show own_Go _ _ _ _ s₁ (mkF m 12 #[.val (.ref a_1), .val (.int (1 : Int32)), .val (.int p_3), .val (.int p_4), .val (.int p_5)] [])
    refine own_go (fun _ k => XS.iloadN X0.here hx rfl (hb hby own_d15_12) rfl k) ?_
    show own_Go _ _ _ _ s₁ (mkF m 13 #[.val (.ref a_1), .val (.int (1 : Int32)), .val (.int p_3), .val (.int p_4), .val (.int p_5)] [(.int (1 : Int32))])
    refine own_go (fun _ k => XS.iconst X0.here hx rfl (hb hby own_d15_13) k) ?_
    show own_Go _ _ _ _ s₁ (mkF m 14 #[.val (.ref a_1), .val (.int (1 : Int32)), .val (.int p_3), .val (.int p_4), .val (.int p_5)] [(.int (1 : Int32)), (.int (1 : Int32))])
    have hc11 : ¬ ((1 : Int32) < (1 : Int32)) := by decide
    refine own_go (fun _ k => XS.icmpNo X0.here hx rfl (hb hby own_d15_14) rfl (Jvm.Free.XT.ii_lt_f hc11) k) ?_
    show own_Go _ _ _ _ s₁ (mkF m 17 #[.val (.ref a_1), .val (.int (1 : Int32)), .val (.int p_3), .val (.int p_4), .val (.int p_5)] [])
    refine own_go (fun _ k => XS.aloadN X0.here hx rfl (hb hby own_d15_17) rfl rfl k) ?_
    show own_Go _ _ _ _ s₁ (mkF m 18 #[.val (.ref a_1), .val (.int (1 : Int32)), .val (.int p_3), .val (.int p_4), .val (.int p_5)] [(.ref a_1)])
    refine own_go (fun _ k => XS.iconst X0.here hx rfl (hb hby own_d15_18) k) ?_
    show own_Go _ _ _ _ s₁ (mkF m 19 #[.val (.ref a_1), .val (.int (1 : Int32)), .val (.int p_3), .val (.int p_4), .val (.int p_5)] [(.int (0 : Int32)), (.ref a_1)])
    obtain ⟨q12, c12, R12, s12, t12⟩ := id pr_A_a_1
    have hin12 : ¬ ((0 : Int32) < 0 ∨ c12.slots.size ≤ ((0 : Int32)).toNatClampNeg) := inb_of s12 (own_t15_1 z hzz)
    have u12 : c12.slots[((0 : Int32)).toNatClampNeg]? = some (.int p_3) := own_at (k := 0) t12 s12 hin12 (by decide) ((hg 0 (by decide)))
    refine own_go (fun _ k => X0.iaload hx (j := (0 : Int32)) (v := (.int p_3)) (by rw [e0]; exact R12.1) (State.isArrayOf_alike hZ.alike R12.2.1) R12.2.2 hin12 u12 (g := (mkF m 19 #[.val (.ref a_1), .val (.int (1 : Int32)), .val (.int p_3), .val (.int p_4), .val (.int p_5)] [(.int (0 : Int32)), (.ref a_1)])) rfl rfl (hb hby own_d15_19) _ k) ?_
    show own_Go _ _ _ _ s₁ (mkF m 20 #[.val (.ref a_1), .val (.int (1 : Int32)), .val (.int p_3), .val (.int p_4), .val (.int p_5)] [(.int p_3)])
    refine own_go (fun _ k => XS.iloadN X0.here hx rfl (hb hby own_d15_20) rfl k) ?_
    show own_Go _ _ _ _ s₁ (mkF m 21 #[.val (.ref a_1), .val (.int (1 : Int32)), .val (.int p_3), .val (.int p_4), .val (.int p_5)] [(.int p_3), (.int p_3)])
    have hc13 : p_3 = p_3 := rfl
    refine own_go (fun _ k => XS.icmpYes X0.here hx rfl (pc0 := 21) (pc' := 26) rfl (hb hby own_d15_21) rfl (Jvm.Free.XT.ii_eq_t hc13) (by decide) (by decide) k) ?_
    show own_Go _ _ _ _ s₁ (mkF m 26 #[.val (.ref a_1), .val (.int (1 : Int32)), .val (.int p_3), .val (.int p_4), .val (.int p_5)] [])
    refine own_go (fun _ k => XS.iloadN X0.here hx rfl (hb hby own_d15_26) rfl k) ?_
    show own_Go _ _ _ _ s₁ (mkF m 27 #[.val (.ref a_1), .val (.int (1 : Int32)), .val (.int p_3), .val (.int p_4), .val (.int p_5)] [(.int (1 : Int32))])
    refine own_go (fun _ k => XS.iconst X0.here hx rfl (hb hby own_d15_27) k) ?_
    show own_Go _ _ _ _ s₁ (mkF m 28 #[.val (.ref a_1), .val (.int (1 : Int32)), .val (.int p_3), .val (.int p_4), .val (.int p_5)] [(.int (2 : Int32)), (.int (1 : Int32))])
    have hc14 : (1 : Int32) < (2 : Int32) := by decide
    refine own_go (fun _ k => XS.icmpYes X0.here hx rfl (pc0 := 28) (pc' := 40) rfl (hb hby own_d15_28) rfl (Jvm.Free.XT.ii_lt_t hc14) (by decide) (by decide) k) ?_
    show own_Go _ _ _ _ s₁ (mkF m 40 #[.val (.ref a_1), .val (.int (1 : Int32)), .val (.int p_3), .val (.int p_4), .val (.int p_5)] [])
    refine own_go (fun _ k => XS.iloadN X0.here hx rfl (hb hby own_d15_40) rfl k) ?_
    show own_Go _ _ _ _ s₁ (mkF m 41 #[.val (.ref a_1), .val (.int (1 : Int32)), .val (.int p_3), .val (.int p_4), .val (.int p_5)] [(.int (1 : Int32))])
    refine own_go (fun _ k => XS.iconst X0.here hx rfl (hb hby own_d15_41) k) ?_
    show own_Go _ _ _ _ s₁ (mkF m 42 #[.val (.ref a_1), .val (.int (1 : Int32)), .val (.int p_3), .val (.int p_4), .val (.int p_5)] [(.int (3 : Int32)), (.int (1 : Int32))])
    have hc15 : (1 : Int32) < (3 : Int32) := by decide
    refine own_go (fun _ k => XS.icmpYes X0.here hx rfl (pc0 := 42) (pc' := 55) rfl (hb hby own_d15_42) rfl (Jvm.Free.XT.ii_lt_t hc15) (by decide) (by decide) k) ?_
    show own_Go _ _ _ _ s₁ (mkF m 55 #[.val (.ref a_1), .val (.int (1 : Int32)), .val (.int p_3), .val (.int p_4), .val (.int p_5)] [])
    refine own_go (fun _ k => XS.iconst X0.here hx rfl (hb hby own_d15_55) k) ?_
    show own_Go _ _ _ _ s₁ (mkF m 56 #[.val (.ref a_1), .val (.int (1 : Int32)), .val (.int p_3), .val (.int p_4), .val (.int p_5)] [(.int (1 : Int32))])
    obtain ⟨fs, hr, hrun, hended, hW, hsame⟩ := X0.leave (v := some (.int (1 : Int32))) (fun h => by rw [Bd.returns] at h; cases h)
    refine ⟨_, _, retOut X0 hx Bd.returns rfl (Or.inl ⟨rfl, Or.inr (Or.inl rfl), _, rfl⟩) (hb hby own_d15_56) hr, hrun, hended, _, _, rfl, ?_, ⟨_, rfl⟩, hW, hsame.mono (by decide) (by decide)⟩
    show own_Q15 Z a_1 (1 : Int32) p_3 p_4 p_5 z ga h0 n0 _ s₁.heap _
    rw [e0]
    exact ⟨rfl, N0, rfl⟩
  · subst hs2
    show own_Go _ _ _ _ s₁ (mkF m 0 #[.val (.ref a_1), .val (.int (2 : Int32)), .val (.int p_3), .val (.int p_4), .val (.int p_5)] [])
    refine own_go (fun _ k => XS.aloadN X0.here hx rfl (hb hby own_d15_0) rfl rfl k) ?_
    show own_Go _ _ _ _ s₁ (mkF m 1 #[.val (.ref a_1), .val (.int (2 : Int32)), .val (.int p_3), .val (.int p_4), .val (.int p_5)] [(.ref a_1)])
    refine own_go (fun _ k => XS.ifnullNo X0.here hx rfl (hb hby own_d15_1) rfl k) ?_
    show own_Go _ _ _ _ s₁ (mkF m 4 #[.val (.ref a_1), .val (.int (2 : Int32)), .val (.int p_3), .val (.int p_4), .val (.int p_5)] [])
    refine own_go (fun _ k => XS.aloadN X0.here hx rfl (hb hby own_d15_4) rfl rfl k) ?_
    show own_Go _ _ _ _ s₁ (mkF m 5 #[.val (.ref a_1), .val (.int (2 : Int32)), .val (.int p_3), .val (.int p_4), .val (.int p_5)] [(.ref a_1)])
    obtain ⟨q17, c17, R17, s17, t17⟩ := id pr_A_a_1
    refine own_go (fun _ k => X0.arraylength hx (by rw [e0]; exact R17.1) (State.isArrayOf_alike hZ.alike R17.2.1) (g := (mkF m 5 #[.val (.ref a_1), .val (.int (2 : Int32)), .val (.int p_3), .val (.int p_4), .val (.int p_5)] [(.ref a_1)])) rfl rfl (hb hby own_d15_5) _ k) ?_
    rw [len_of s17 q17]
    show own_Go _ _ _ _ s₁ (mkF m 6 #[.val (.ref a_1), .val (.int (2 : Int32)), .val (.int p_3), .val (.int p_4), .val (.int p_5)] [(.int z)])
    refine own_go (fun _ k => XS.iloadN X0.here hx rfl (hb hby own_d15_6) rfl k) ?_
    show own_Go _ _ _ _ s₁ (mkF m 7 #[.val (.ref a_1), .val (.int (2 : Int32)), .val (.int p_3), .val (.int p_4), .val (.int p_5)] [(.int (2 : Int32)), (.int z)])
    refine own_go (fun _ k => XS.icmpYes X0.here hx rfl (pc0 := 7) (pc' := 12) rfl (hb hby own_d15_7) rfl (Jvm.Free.XT.ii_eq_t hzz) (by decide) (by decide) k) ?_
    show own_Go _ _ _ _ s₁ (mkF m 12 #[.val (.ref a_1), .val (.int (2 : Int32)), .val (.int p_3), .val (.int p_4), .val (.int p_5)] [])
    refine own_go (fun _ k => XS.iloadN X0.here hx rfl (hb hby own_d15_12) rfl k) ?_
    show own_Go _ _ _ _ s₁ (mkF m 13 #[.val (.ref a_1), .val (.int (2 : Int32)), .val (.int p_3), .val (.int p_4), .val (.int p_5)] [(.int (2 : Int32))])
    refine own_go (fun _ k => XS.iconst X0.here hx rfl (hb hby own_d15_13) k) ?_
    show own_Go _ _ _ _ s₁ (mkF m 14 #[.val (.ref a_1), .val (.int (2 : Int32)), .val (.int p_3), .val (.int p_4), .val (.int p_5)] [(.int (1 : Int32)), (.int (2 : Int32))])
    have hc19 : ¬ ((2 : Int32) < (1 : Int32)) := by decide
    refine own_go (fun _ k => XS.icmpNo X0.here hx rfl (hb hby own_d15_14) rfl (Jvm.Free.XT.ii_lt_f hc19) k) ?_
    show own_Go _ _ _ _ s₁ (mkF m 17 #[.val (.ref a_1), .val (.int (2 : Int32)), .val (.int p_3), .val (.int p_4), .val (.int p_5)] [])
    refine own_go (fun _ k => XS.aloadN X0.here hx rfl (hb hby own_d15_17) rfl rfl k) ?_
    show own_Go _ _ _ _ s₁ (mkF m 18 #[.val (.ref a_1), .val (.int (2 : Int32)), .val (.int p_3), .val (.int p_4), .val (.int p_5)] [(.ref a_1)])
    refine own_go (fun _ k => XS.iconst X0.here hx rfl (hb hby own_d15_18) k) ?_
    show own_Go _ _ _ _ s₁ (mkF m 19 #[.val (.ref a_1), .val (.int (2 : Int32)), .val (.int p_3), .val (.int p_4), .val (.int p_5)] [(.int (0 : Int32)), (.ref a_1)])
    obtain ⟨q20, c20, R20, s20, t20⟩ := id pr_A_a_1
    have hin20 : ¬ ((0 : Int32) < 0 ∨ c20.slots.size ≤ ((0 : Int32)).toNatClampNeg) := inb_of s20 (own_t15_2 z hzz)
    have u20 : c20.slots[((0 : Int32)).toNatClampNeg]? = some (.int p_3) := own_at (k := 0) t20 s20 hin20 (by decide) ((hg 0 (by decide)))
    refine own_go (fun _ k => X0.iaload hx (j := (0 : Int32)) (v := (.int p_3)) (by rw [e0]; exact R20.1) (State.isArrayOf_alike hZ.alike R20.2.1) R20.2.2 hin20 u20 (g := (mkF m 19 #[.val (.ref a_1), .val (.int (2 : Int32)), .val (.int p_3), .val (.int p_4), .val (.int p_5)] [(.int (0 : Int32)), (.ref a_1)])) rfl rfl (hb hby own_d15_19) _ k) ?_
    show own_Go _ _ _ _ s₁ (mkF m 20 #[.val (.ref a_1), .val (.int (2 : Int32)), .val (.int p_3), .val (.int p_4), .val (.int p_5)] [(.int p_3)])
    refine own_go (fun _ k => XS.iloadN X0.here hx rfl (hb hby own_d15_20) rfl k) ?_
    show own_Go _ _ _ _ s₁ (mkF m 21 #[.val (.ref a_1), .val (.int (2 : Int32)), .val (.int p_3), .val (.int p_4), .val (.int p_5)] [(.int p_3), (.int p_3)])
    have hc21 : p_3 = p_3 := rfl
    refine own_go (fun _ k => XS.icmpYes X0.here hx rfl (pc0 := 21) (pc' := 26) rfl (hb hby own_d15_21) rfl (Jvm.Free.XT.ii_eq_t hc21) (by decide) (by decide) k) ?_
    show own_Go _ _ _ _ s₁ (mkF m 26 #[.val (.ref a_1), .val (.int (2 : Int32)), .val (.int p_3), .val (.int p_4), .val (.int p_5)] [])
    refine own_go (fun _ k => XS.iloadN X0.here hx rfl (hb hby own_d15_26) rfl k) ?_
    show own_Go _ _ _ _ s₁ (mkF m 27 #[.val (.ref a_1), .val (.int (2 : Int32)), .val (.int p_3), .val (.int p_4), .val (.int p_5)] [(.int (2 : Int32))])
    refine own_go (fun _ k => XS.iconst X0.here hx rfl (hb hby own_d15_27) k) ?_
    show own_Go _ _ _ _ s₁ (mkF m 28 #[.val (.ref a_1), .val (.int (2 : Int32)), .val (.int p_3), .val (.int p_4), .val (.int p_5)] [(.int (2 : Int32)), (.int (2 : Int32))])
    have hc22 : ¬ ((2 : Int32) < (2 : Int32)) := by decide
    refine own_go (fun _ k => XS.icmpNo X0.here hx rfl (hb hby own_d15_28) rfl (Jvm.Free.XT.ii_lt_f hc22) k) ?_
    show own_Go _ _ _ _ s₁ (mkF m 31 #[.val (.ref a_1), .val (.int (2 : Int32)), .val (.int p_3), .val (.int p_4), .val (.int p_5)] [])
    refine own_go (fun _ k => XS.aloadN X0.here hx rfl (hb hby own_d15_31) rfl rfl k) ?_
    show own_Go _ _ _ _ s₁ (mkF m 32 #[.val (.ref a_1), .val (.int (2 : Int32)), .val (.int p_3), .val (.int p_4), .val (.int p_5)] [(.ref a_1)])
    refine own_go (fun _ k => XS.iconst X0.here hx rfl (hb hby own_d15_32) k) ?_
    show own_Go _ _ _ _ s₁ (mkF m 33 #[.val (.ref a_1), .val (.int (2 : Int32)), .val (.int p_3), .val (.int p_4), .val (.int p_5)] [(.int (1 : Int32)), (.ref a_1)])
    obtain ⟨q23, c23, R23, s23, t23⟩ := id pr_A_a_1
    have hin23 : ¬ ((1 : Int32) < 0 ∨ c23.slots.size ≤ ((1 : Int32)).toNatClampNeg) := inb_of s23 (own_t15_3 z hzz)
    have u23 : c23.slots[((1 : Int32)).toNatClampNeg]? = some (.int p_4) := own_at (k := 1) t23 s23 hin23 (by decide) ((hg 1 (by decide)))
    refine own_go (fun _ k => X0.iaload hx (j := (1 : Int32)) (v := (.int p_4)) (by rw [e0]; exact R23.1) (State.isArrayOf_alike hZ.alike R23.2.1) R23.2.2 hin23 u23 (g := (mkF m 33 #[.val (.ref a_1), .val (.int (2 : Int32)), .val (.int p_3), .val (.int p_4), .val (.int p_5)] [(.int (1 : Int32)), (.ref a_1)])) rfl rfl (hb hby own_d15_33) _ k) ?_
    show own_Go _ _ _ _ s₁ (mkF m 34 #[.val (.ref a_1), .val (.int (2 : Int32)), .val (.int p_3), .val (.int p_4), .val (.int p_5)] [(.int p_4)])
    refine own_go (fun _ k => XS.iloadN X0.here hx rfl (hb hby own_d15_34) rfl k) ?_
    show own_Go _ _ _ _ s₁ (mkF m 35 #[.val (.ref a_1), .val (.int (2 : Int32)), .val (.int p_3), .val (.int p_4), .val (.int p_5)] [(.int p_4), (.int p_4)])
    have hc24 : p_4 = p_4 := rfl
    refine own_go (fun _ k => XS.icmpYes X0.here hx rfl (pc0 := 35) (pc' := 40) rfl (hb hby own_d15_35) rfl (Jvm.Free.XT.ii_eq_t hc24) (by decide) (by decide) k) ?_
    show own_Go _ _ _ _ s₁ (mkF m 40 #[.val (.ref a_1), .val (.int (2 : Int32)), .val (.int p_3), .val (.int p_4), .val (.int p_5)] [])
    refine own_go (fun _ k => XS.iloadN X0.here hx rfl (hb hby own_d15_40) rfl k) ?_
    show own_Go _ _ _ _ s₁ (mkF m 41 #[.val (.ref a_1), .val (.int (2 : Int32)), .val (.int p_3), .val (.int p_4), .val (.int p_5)] [(.int (2 : Int32))])
    refine own_go (fun _ k => XS.iconst X0.here hx rfl (hb hby own_d15_41) k) ?_
    show own_Go _ _ _ _ s₁ (mkF m 42 #[.val (.ref a_1), .val (.int (2 : Int32)), .val (.int p_3), .val (.int p_4), .val (.int p_5)] [(.int (3 : Int32)), (.int (2 : Int32))])
    have hc25 : (2 : Int32) < (3 : Int32) := by decide
    refine own_go (fun _ k => XS.icmpYes X0.here hx rfl (pc0 := 42) (pc' := 55) rfl (hb hby own_d15_42) rfl (Jvm.Free.XT.ii_lt_t hc25) (by decide) (by decide) k) ?_
    show own_Go _ _ _ _ s₁ (mkF m 55 #[.val (.ref a_1), .val (.int (2 : Int32)), .val (.int p_3), .val (.int p_4), .val (.int p_5)] [])
    refine own_go (fun _ k => XS.iconst X0.here hx rfl (hb hby own_d15_55) k) ?_
    show own_Go _ _ _ _ s₁ (mkF m 56 #[.val (.ref a_1), .val (.int (2 : Int32)), .val (.int p_3), .val (.int p_4), .val (.int p_5)] [(.int (1 : Int32))])
    obtain ⟨fs, hr, hrun, hended, hW, hsame⟩ := X0.leave (v := some (.int (1 : Int32))) (fun h => by rw [Bd.returns] at h; cases h)
    refine ⟨_, _, retOut X0 hx Bd.returns rfl (Or.inl ⟨rfl, Or.inr (Or.inl rfl), _, rfl⟩) (hb hby own_d15_56) hr, hrun, hended, _, _, rfl, ?_, ⟨_, rfl⟩, hW, hsame.mono (by decide) (by decide)⟩
    show own_Q15 Z a_1 (2 : Int32) p_3 p_4 p_5 z ga h0 n0 _ s₁.heap _
    rw [e0]
    exact ⟨rfl, N0, rfl⟩
  · subst hs2
    show own_Go _ _ _ _ s₁ (mkF m 0 #[.val (.ref a_1), .val (.int (3 : Int32)), .val (.int p_3), .val (.int p_4), .val (.int p_5)] [])
    refine own_go (fun _ k => XS.aloadN X0.here hx rfl (hb hby own_d15_0) rfl rfl k) ?_
    show own_Go _ _ _ _ s₁ (mkF m 1 #[.val (.ref a_1), .val (.int (3 : Int32)), .val (.int p_3), .val (.int p_4), .val (.int p_5)] [(.ref a_1)])
    refine own_go (fun _ k => XS.ifnullNo X0.here hx rfl (hb hby own_d15_1) rfl k) ?_
    show own_Go _ _ _ _ s₁ (mkF m 4 #[.val (.ref a_1), .val (.int (3 : Int32)), .val (.int p_3), .val (.int p_4), .val (.int p_5)] [])
    refine own_go (fun _ k => XS.aloadN X0.here hx rfl (hb hby own_d15_4) rfl rfl k) ?_
    show own_Go _ _ _ _ s₁ (mkF m 5 #[.val (.ref a_1), .val (.int (3 : Int32)), .val (.int p_3), .val (.int p_4), .val (.int p_5)] [(.ref a_1)])
    obtain ⟨q27, c27, R27, s27, t27⟩ := id pr_A_a_1
    refine own_go (fun _ k => X0.arraylength hx (by rw [e0]; exact R27.1) (State.isArrayOf_alike hZ.alike R27.2.1) (g := (mkF m 5 #[.val (.ref a_1), .val (.int (3 : Int32)), .val (.int p_3), .val (.int p_4), .val (.int p_5)] [(.ref a_1)])) rfl rfl (hb hby own_d15_5) _ k) ?_
    rw [len_of s27 q27]
    show own_Go _ _ _ _ s₁ (mkF m 6 #[.val (.ref a_1), .val (.int (3 : Int32)), .val (.int p_3), .val (.int p_4), .val (.int p_5)] [(.int z)])
    refine own_go (fun _ k => XS.iloadN X0.here hx rfl (hb hby own_d15_6) rfl k) ?_
    show own_Go _ _ _ _ s₁ (mkF m 7 #[.val (.ref a_1), .val (.int (3 : Int32)), .val (.int p_3), .val (.int p_4), .val (.int p_5)] [(.int (3 : Int32)), (.int z)])
    refine own_go (fun _ k => XS.icmpYes X0.here hx rfl (pc0 := 7) (pc' := 12) rfl (hb hby own_d15_7) rfl (Jvm.Free.XT.ii_eq_t hzz) (by decide) (by decide) k) ?_
    show own_Go _ _ _ _ s₁ (mkF m 12 #[.val (.ref a_1), .val (.int (3 : Int32)), .val (.int p_3), .val (.int p_4), .val (.int p_5)] [])
    refine own_go (fun _ k => XS.iloadN X0.here hx rfl (hb hby own_d15_12) rfl k) ?_
    show own_Go _ _ _ _ s₁ (mkF m 13 #[.val (.ref a_1), .val (.int (3 : Int32)), .val (.int p_3), .val (.int p_4), .val (.int p_5)] [(.int (3 : Int32))])
    refine own_go (fun _ k => XS.iconst X0.here hx rfl (hb hby own_d15_13) k) ?_
    show own_Go _ _ _ _ s₁ (mkF m 14 #[.val (.ref a_1), .val (.int (3 : Int32)), .val (.int p_3), .val (.int p_4), .val (.int p_5)] [(.int (1 : Int32)), (.int (3 : Int32))])
    have hc29 : ¬ ((3 : Int32) < (1 : Int32)) := by decide
    refine own_go (fun _ k => XS.icmpNo X0.here hx rfl (hb hby own_d15_14) rfl (Jvm.Free.XT.ii_lt_f hc29) k) ?_
    show own_Go _ _ _ _ s₁ (mkF m 17 #[.val (.ref a_1), .val (.int (3 : Int32)), .val (.int p_3), .val (.int p_4), .val (.int p_5)] [])
    refine own_go (fun _ k => XS.aloadN X0.here hx rfl (hb hby own_d15_17) rfl rfl k) ?_
    show own_Go _ _ _ _ s₁ (mkF m 18 #[.val (.ref a_1), .val (.int (3 : Int32)), .val (.int p_3), .val (.int p_4), .val (.int p_5)] [(.ref a_1)])
    refine own_go (fun _ k => XS.iconst X0.here hx rfl (hb hby own_d15_18) k) ?_
    show own_Go _ _ _ _ s₁ (mkF m 19 #[.val (.ref a_1), .val (.int (3 : Int32)), .val (.int p_3), .val (.int p_4), .val (.int p_5)] [(.int (0 : Int32)), (.ref a_1)])
    obtain ⟨q30, c30, R30, s30, t30⟩ := id pr_A_a_1
    have hin30 : ¬ ((0 : Int32) < 0 ∨ c30.slots.size ≤ ((0 : Int32)).toNatClampNeg) := inb_of s30 (own_t15_4 z hzz)
    have u30 : c30.slots[((0 : Int32)).toNatClampNeg]? = some (.int p_3) := own_at (k := 0) t30 s30 hin30 (by decide) ((hg 0 (by decide)))
    refine own_go (fun _ k => X0.iaload hx (j := (0 : Int32)) (v := (.int p_3)) (by rw [e0]; exact R30.1) (State.isArrayOf_alike hZ.alike R30.2.1) R30.2.2 hin30 u30 (g := (mkF m 19 #[.val (.ref a_1), .val (.int (3 : Int32)), .val (.int p_3), .val (.int p_4), .val (.int p_5)] [(.int (0 : Int32)), (.ref a_1)])) rfl rfl (hb hby own_d15_19) _ k) ?_
    show own_Go _ _ _ _ s₁ (mkF m 20 #[.val (.ref a_1), .val (.int (3 : Int32)), .val (.int p_3), .val (.int p_4), .val (.int p_5)] [(.int p_3)])
    refine own_go (fun _ k => XS.iloadN X0.here hx rfl (hb hby own_d15_20) rfl k) ?_
    show own_Go _ _ _ _ s₁ (mkF m 21 #[.val (.ref a_1), .val (.int (3 : Int32)), .val (.int p_3), .val (.int p_4), .val (.int p_5)] [(.int p_3), (.int p_3)])
    have hc31 : p_3 = p_3 := rfl
    refine own_go (fun _ k => XS.icmpYes X0.here hx rfl (pc0 := 21) (pc' := 26) rfl (hb hby own_d15_21) rfl (Jvm.Free.XT.ii_eq_t hc31) (by decide) (by decide) k) ?_
    show own_Go _ _ _ _ s₁ (mkF m 26 #[.val (.ref a_1), .val (.int (3 : Int32)), .val (.int p_3), .val (.int p_4), .val (.int p_5)] [])
    refine own_go (fun _ k => XS.iloadN X0.here hx rfl (hb hby own_d15_26) rfl k) ?_
    show own_Go _ _ _ _ s₁ (mkF m 27 #[.val (.ref a_1), .val (.int (3 : Int32)), .val (.int p_3), .val (.int p_4), .val (.int p_5)] [(.int (3 : Int32))])
    refine own_go (fun _ k => XS.iconst X0.here hx rfl (hb hby own_d15_27) k) ?_
    show own_Go _ _ _ _ s₁ (mkF m 28 #[.val (.ref a_1), .val (.int (3 : Int32)), .val (.int p_3), .val (.int p_4), .val (.int p_5)] [(.int (2 : Int32)), (.int (3 : Int32))])
    have hc32 : ¬ ((3 : Int32) < (2 : Int32)) := by decide
    refine own_go (fun _ k => XS.icmpNo X0.here hx rfl (hb hby own_d15_28) rfl (Jvm.Free.XT.ii_lt_f hc32) k) ?_
    show own_Go _ _ _ _ s₁ (mkF m 31 #[.val (.ref a_1), .val (.int (3 : Int32)), .val (.int p_3), .val (.int p_4), .val (.int p_5)] [])
    refine own_go (fun _ k => XS.aloadN X0.here hx rfl (hb hby own_d15_31) rfl rfl k) ?_
    show own_Go _ _ _ _ s₁ (mkF m 32 #[.val (.ref a_1), .val (.int (3 : Int32)), .val (.int p_3), .val (.int p_4), .val (.int p_5)] [(.ref a_1)])
    refine own_go (fun _ k => XS.iconst X0.here hx rfl (hb hby own_d15_32) k) ?_
    show own_Go _ _ _ _ s₁ (mkF m 33 #[.val (.ref a_1), .val (.int (3 : Int32)), .val (.int p_3), .val (.int p_4), .val (.int p_5)] [(.int (1 : Int32)), (.ref a_1)])
    obtain ⟨q33, c33, R33, s33, t33⟩ := id pr_A_a_1
    have hin33 : ¬ ((1 : Int32) < 0 ∨ c33.slots.size ≤ ((1 : Int32)).toNatClampNeg) := inb_of s33 (own_t15_5 z hzz)
    have u33 : c33.slots[((1 : Int32)).toNatClampNeg]? = some (.int p_4) := own_at (k := 1) t33 s33 hin33 (by decide) ((hg 1 (by decide)))
    refine own_go (fun _ k => X0.iaload hx (j := (1 : Int32)) (v := (.int p_4)) (by rw [e0]; exact R33.1) (State.isArrayOf_alike hZ.alike R33.2.1) R33.2.2 hin33 u33 (g := (mkF m 33 #[.val (.ref a_1), .val (.int (3 : Int32)), .val (.int p_3), .val (.int p_4), .val (.int p_5)] [(.int (1 : Int32)), (.ref a_1)])) rfl rfl (hb hby own_d15_33) _ k) ?_
    show own_Go _ _ _ _ s₁ (mkF m 34 #[.val (.ref a_1), .val (.int (3 : Int32)), .val (.int p_3), .val (.int p_4), .val (.int p_5)] [(.int p_4)])
    refine own_go (fun _ k => XS.iloadN X0.here hx rfl (hb hby own_d15_34) rfl k) ?_
    show own_Go _ _ _ _ s₁ (mkF m 35 #[.val (.ref a_1), .val (.int (3 : Int32)), .val (.int p_3), .val (.int p_4), .val (.int p_5)] [(.int p_4), (.int p_4)])
    have hc34 : p_4 = p_4 := rfl
    refine own_go (fun _ k => XS.icmpYes X0.here hx rfl (pc0 := 35) (pc' := 40) rfl (hb hby own_d15_35) rfl (Jvm.Free.XT.ii_eq_t hc34) (by decide) (by decide) k) ?_
    show own_Go _ _ _ _ s₁ (mkF m 40 #[.val (.ref a_1), .val (.int (3 : Int32)), .val (.int p_3), .val (.int p_4), .val (.int p_5)] [])
    refine own_go (fun _ k => XS.iloadN X0.here hx rfl (hb hby own_d15_40) rfl k) ?_
    show own_Go _ _ _ _ s₁ (mkF m 41 #[.val (.ref a_1), .val (.int (3 : Int32)), .val (.int p_3), .val (.int p_4), .val (.int p_5)] [(.int (3 : Int32))])
    refine own_go (fun _ k => XS.iconst X0.here hx rfl (hb hby own_d15_41) k) ?_
    show own_Go _ _ _ _ s₁ (mkF m 42 #[.val (.ref a_1), .val (.int (3 : Int32)), .val (.int p_3), .val (.int p_4), .val (.int p_5)] [(.int (3 : Int32)), (.int (3 : Int32))])
    have hc35 : ¬ ((3 : Int32) < (3 : Int32)) := by decide
    refine own_go (fun _ k => XS.icmpNo X0.here hx rfl (hb hby own_d15_42) rfl (Jvm.Free.XT.ii_lt_f hc35) k) ?_
    show own_Go _ _ _ _ s₁ (mkF m 45 #[.val (.ref a_1), .val (.int (3 : Int32)), .val (.int p_3), .val (.int p_4), .val (.int p_5)] [])
    refine own_go (fun _ k => XS.aloadN X0.here hx rfl (hb hby own_d15_45) rfl rfl k) ?_
    show own_Go _ _ _ _ s₁ (mkF m 46 #[.val (.ref a_1), .val (.int (3 : Int32)), .val (.int p_3), .val (.int p_4), .val (.int p_5)] [(.ref a_1)])
    refine own_go (fun _ k => XS.iconst X0.here hx rfl (hb hby own_d15_46) k) ?_
    show own_Go _ _ _ _ s₁ (mkF m 47 #[.val (.ref a_1), .val (.int (3 : Int32)), .val (.int p_3), .val (.int p_4), .val (.int p_5)] [(.int (2 : Int32)), (.ref a_1)])
    obtain ⟨q36, c36, R36, s36, t36⟩ := id pr_A_a_1
    have hin36 : ¬ ((2 : Int32) < 0 ∨ c36.slots.size ≤ ((2 : Int32)).toNatClampNeg) := inb_of s36 (own_t15_6 z hzz)
    have u36 : c36.slots[((2 : Int32)).toNatClampNeg]? = some (.int p_5) := own_at (k := 2) t36 s36 hin36 (by decide) ((hg 2 (by decide)))
    refine own_go (fun _ k => X0.iaload hx (j := (2 : Int32)) (v := (.int p_5)) (by rw [e0]; exact R36.1) (State.isArrayOf_alike hZ.alike R36.2.1) R36.2.2 hin36 u36 (g := (mkF m 47 #[.val (.ref a_1), .val (.int (3 : Int32)), .val (.int p_3), .val (.int p_4), .val (.int p_5)] [(.int (2 : Int32)), (.ref a_1)])) rfl rfl (hb hby own_d15_47) _ k) ?_
    show own_Go _ _ _ _ s₁ (mkF m 48 #[.val (.ref a_1), .val (.int (3 : Int32)), .val (.int p_3), .val (.int p_4), .val (.int p_5)] [(.int p_5)])
    refine own_go (fun _ k => XS.iload X0.here hx rfl (hb hby own_d15_48) rfl k) ?_
    show own_Go _ _ _ _ s₁ (mkF m 50 #[.val (.ref a_1), .val (.int (3 : Int32)), .val (.int p_3), .val (.int p_4), .val (.int p_5)] [(.int p_5), (.int p_5)])
    have hc37 : p_5 = p_5 := rfl
    refine own_go (fun _ k => XS.icmpYes X0.here hx rfl (pc0 := 50) (pc' := 55) rfl (hb hby own_d15_50) rfl (Jvm.Free.XT.ii_eq_t hc37) (by decide) (by decide) k) ?_
    show own_Go _ _ _ _ s₁ (mkF m 55 #[.val (.ref a_1), .val (.int (3 : Int32)), .val (.int p_3), .val (.int p_4), .val (.int p_5)] [])
    refine own_go (fun _ k => XS.iconst X0.here hx rfl (hb hby own_d15_55) k) ?_
    show own_Go _ _ _ _ s₁ (mkF m 56 #[.val (.ref a_1), .val (.int (3 : Int32)), .val (.int p_3), .val (.int p_4), .val (.int p_5)] [(.int (1 : Int32))])
    obtain ⟨fs, hr, hrun, hended, hW, hsame⟩ := X0.leave (v := some (.int (1 : Int32))) (fun h => by rw [Bd.returns] at h; cases h)
    refine ⟨_, _, retOut X0 hx Bd.returns rfl (Or.inl ⟨rfl, Or.inr (Or.inl rfl), _, rfl⟩) (hb hby own_d15_56) hr, hrun, hended, _, _, rfl, ?_, ⟨_, rfl⟩, hW, hsame.mono (by decide) (by decide)⟩
    show own_Q15 Z a_1 (3 : Int32) p_3 p_4 p_5 z ga h0 n0 _ s₁.heap _
    rw [e0]
    exact ⟨rfl, N0, rfl⟩
theorem own_ef_own_rm0 (m : MethodId) (x0 : Int32) (x1 : Int32) (x2 : Int32) (x3 : Int32) : entryFrame m #[(.int x0), (.int x1), (.int x2), (.int x3)] maxLocals = mkF m 0 #[.val (.int x0), .val (.int x1), .val (.int x2), .val (.int x3), .unset, .unset, .unset, .unset, .unset, .unset, .unset, .unset, .unset, .unset, .unset, .unset, .unset, .unset, .unset, .unset, .unset, .unset, .unset, .unset, .unset, .unset] [] := by first | (simp [entryFrame, mkF, argsToLocals, Value.category, maxLocals]; done) | rfl
set_option maxRecDepth 65536 in
set_option maxHeartbeats 4000000 in
theorem own_t0_0 (p_1 : Int32) (v1 : Int32) (hdv1 : (p_1 &&& (3 : Int32)) = v1) : v1 = (0 : Int32) ∨ v1 = (1 : Int32) ∨ v1 = (2 : Int32) ∨ v1 = (3 : Int32) := by
  have el0 : (0 : Int32).toInt = 0 := by decide
  have el1 : (1 : Int32).toInt = 1 := by decide
  have el2 : (2 : Int32).toInt = 2 := by decide
  have el3 : (3 : Int32).toInt = 3 := by decide
  have rv_p_1 := rng32 p_1
  have rv_v1 := rng32 v1
  have fa6 := c_mask p_1 (3 : Int32) 2 (by decide) (by decide)
  have own0 : (0 : Int32).toInt = 0 := by decide
  simp only [← Int32.toInt_inj, Int32.lt_iff_toInt_lt, implies_true, and_true, true_and, own0, el0, el1, el2, el3] at *
  omega
set_option maxRecDepth 65536 in
set_option maxHeartbeats 4000000 in
theorem own_t0_1 (v1 : Int32) (hl_v1 : v1 = (0 : Int32) ∨ v1 = (1 : Int32) ∨ v1 = (2 : Int32) ∨ v1 = (3 : Int32)) : 0 ≤ ((0 : Int32) + v1).toInt ∧ ((0 : Int32) + v1).toInt ≤ 6 := by
  have rv1 := own_r4 hl_v1
  have e0 := own_0i
  have q1 := own_addx (0 : Int32) v1 (by omega) (by omega)
  omega
set_option maxRecDepth 65536 in
set_option maxHeartbeats 4000000 in
theorem own_t0_2 (v1 : Int32) (v14 : Int32) (hl_v1 : v1 = (0 : Int32) ∨ v1 = (1 : Int32) ∨ v1 = (2 : Int32) ∨ v1 = (3 : Int32)) (hl_v14 : v14 = (0 : Int32) ∨ v14 = (1 : Int32) ∨ v14 = (2 : Int32) ∨ v14 = (3 : Int32)) : 0 ≤ (((0 : Int32) + v1) + v14).toInt ∧ (((0 : Int32) + v1) + v14).toInt ≤ 6 := by
  have rv1 := own_r4 hl_v1
  have rv14 := own_r4 hl_v14
  have e0 := own_0i
  have q1 := own_addx (0 : Int32) v1 (by omega) (by omega)
  have q2 := own_addx ((0 : Int32) + v1) v14 (by omega) (by omega)
  omega
set_option maxRecDepth 65536 in
set_option maxHeartbeats 4000000 in
theorem own_t0_3 (v1 : Int32) (hl_v1 : v1 = (0 : Int32) ∨ v1 = (1 : Int32) ∨ v1 = (2 : Int32) ∨ v1 = (3 : Int32)) : 0 ≤ (0 : Int32).toInt ∧ (0 : Int32).toInt ≤ ((0 : Int32) + v1).toInt ∧ ((0 : Int32) + v1).toInt ≤ 9 ∧ ((0 : Int32) + v1).toInt - (0 : Int32).toInt ≤ 3 := by
  have rv1 := own_r4 hl_v1
  have e0 := own_0i
  have q1 := own_addx (0 : Int32) v1 (by omega) (by omega)
  omega
set_option maxRecDepth 65536 in
set_option maxHeartbeats 4000000 in
theorem own_t0_4 (v1 : Int32) (v14 : Int32) (hl_v1 : v1 = (0 : Int32) ∨ v1 = (1 : Int32) ∨ v1 = (2 : Int32) ∨ v1 = (3 : Int32)) (hl_v14 : v14 = (0 : Int32) ∨ v14 = (1 : Int32) ∨ v14 = (2 : Int32) ∨ v14 = (3 : Int32)) : 0 ≤ ((0 : Int32) + v1).toInt ∧ ((0 : Int32) + v1).toInt ≤ (((0 : Int32) + v1) + v14).toInt ∧ (((0 : Int32) + v1) + v14).toInt ≤ 9 ∧ (((0 : Int32) + v1) + v14).toInt - ((0 : Int32) + v1).toInt ≤ 3 := by
  have rv1 := own_r4 hl_v1
  have rv14 := own_r4 hl_v14
  have e0 := own_0i
  have q1 := own_addx (0 : Int32) v1 (by omega) (by omega)
  have q2 := own_addx ((0 : Int32) + v1) v14 (by omega) (by omega)
  omega
set_option maxRecDepth 65536 in
set_option maxHeartbeats 4000000 in
theorem own_t0_5 (v1 : Int32) (v14 : Int32) (v27 : Int32) (hl_v1 : v1 = (0 : Int32) ∨ v1 = (1 : Int32) ∨ v1 = (2 : Int32) ∨ v1 = (3 : Int32)) (hl_v14 : v14 = (0 : Int32) ∨ v14 = (1 : Int32) ∨ v14 = (2 : Int32) ∨ v14 = (3 : Int32)) (hl_v27 : v27 = (0 : Int32) ∨ v27 = (1 : Int32) ∨ v27 = (2 : Int32) ∨ v27 = (3 : Int32)) : 0 ≤ (((0 : Int32) + v1) + v14).toInt ∧ (((0 : Int32) + v1) + v14).toInt ≤ ((((0 : Int32) + v1) + v14) + v27).toInt ∧ ((((0 : Int32) + v1) + v14) + v27).toInt ≤ 9 ∧ ((((0 : Int32) + v1) + v14) + v27).toInt - (((0 : Int32) + v1) + v14).toInt ≤ 3 := by
  have rv1 := own_r4 hl_v1
  have rv14 := own_r4 hl_v14
  have rv27 := own_r4 hl_v27
  have e0 := own_0i
  have q1 := own_addx (0 : Int32) v1 (by omega) (by omega)
  have q2 := own_addx ((0 : Int32) + v1) v14 (by omega) (by omega)
  have q3 := own_addx (((0 : Int32) + v1) + v14) v27 (by omega) (by omega)
  omega
set_option maxRecDepth 65536 in
set_option maxHeartbeats 4000000 in
theorem own_t0_6 (v1 : Int32) (hl_v1 : v1 = (0 : Int32) ∨ v1 = (1 : Int32) ∨ v1 = (2 : Int32) ∨ v1 = (3 : Int32)) : (((0 : Int32) + v1) - (0 : Int32)).toInt = v1.toInt := by
  have rv1 := own_r4 hl_v1
  have e0 := own_0i
  have q1 := own_addx (0 : Int32) v1 (by omega) (by omega)
  have q2 := own_subx ((0 : Int32) + v1) (0 : Int32) (by omega) (by omega)
  omega
set_option maxRecDepth 65536 in
set_option maxHeartbeats 4000000 in
theorem own_t0_7 (v1 : Int32) (hl_v1 : v1 = (0 : Int32) ∨ v1 = (1 : Int32) ∨ v1 = (2 : Int32) ∨ v1 = (3 : Int32)) : (((0 : Int32) + v1)).toNatClampNeg = (v1).toNatClampNeg := by
  have rv1 := own_r4 hl_v1
  have e0 := own_0i
  have q1 := own_addx (0 : Int32) v1 (by omega) (by omega)
  have n0 := own_nat (x := ((0 : Int32) + v1)) (by omega)
  have n1 := own_nat (x := v1) (by omega)
  omega
set_option maxRecDepth 65536 in
set_option maxHeartbeats 4000000 in
theorem own_t0_8 (v1 : Int32) (v14 : Int32) (hl_v1 : v1 = (0 : Int32) ∨ v1 = (1 : Int32) ∨ v1 = (2 : Int32) ∨ v1 = (3 : Int32)) (hl_v14 : v14 = (0 : Int32) ∨ v14 = (1 : Int32) ∨ v14 = (2 : Int32) ∨ v14 = (3 : Int32)) : ((((0 : Int32) + v1) + v14)).toNatClampNeg = (v1).toNatClampNeg + (v14).toNatClampNeg := by
  have rv1 := own_r4 hl_v1
  have rv14 := own_r4 hl_v14
  have e0 := own_0i
  have q1 := own_addx (0 : Int32) v1 (by omega) (by omega)
  have q2 := own_addx ((0 : Int32) + v1) v14 (by omega) (by omega)
  have n0 := own_nat (x := ((0 : Int32) + v1)) (by omega)
  have n1 := own_nat (x := (((0 : Int32) + v1) + v14)) (by omega)
  have n2 := own_nat (x := v1) (by omega)
  have n3 := own_nat (x := v14) (by omega)
  omega
set_option maxRecDepth 65536 in
set_option maxHeartbeats 4000000 in
theorem own_t0_9 (v1 : Int32) (v14 : Int32) (hl_v1 : v1 = (0 : Int32) ∨ v1 = (1 : Int32) ∨ v1 = (2 : Int32) ∨ v1 = (3 : Int32)) (hl_v14 : v14 = (0 : Int32) ∨ v14 = (1 : Int32) ∨ v14 = (2 : Int32) ∨ v14 = (3 : Int32)) : ((((0 : Int32) + v1) + v14)).toNatClampNeg = (((0 : Int32) + v1)).toNatClampNeg + (v14).toNatClampNeg := by
  have rv1 := own_r4 hl_v1
  have rv14 := own_r4 hl_v14
  have e0 := own_0i
  have q1 := own_addx (0 : Int32) v1 (by omega) (by omega)
  have q2 := own_addx ((0 : Int32) + v1) v14 (by omega) (by omega)
  have n0 := own_nat (x := ((0 : Int32) + v1)) (by omega)
  have n1 := own_nat (x := (((0 : Int32) + v1) + v14)) (by omega)
  have n2 := own_nat (x := v1) (by omega)
  have n3 := own_nat (x := v14) (by omega)
  omega
set_option maxRecDepth 65536 in
set_option maxHeartbeats 4000000 in
theorem own_t0_10 (v1 : Int32) (v14 : Int32) (hl_v1 : v1 = (0 : Int32) ∨ v1 = (1 : Int32) ∨ v1 = (2 : Int32) ∨ v1 = (3 : Int32)) (hl_v14 : v14 = (0 : Int32) ∨ v14 = (1 : Int32) ∨ v14 = (2 : Int32) ∨ v14 = (3 : Int32)) : ((((0 : Int32) + v1) + v14) - ((0 : Int32) + v1)).toInt = v14.toInt := by
  have rv1 := own_r4 hl_v1
  have rv14 := own_r4 hl_v14
  have e0 := own_0i
  have q1 := own_addx (0 : Int32) v1 (by omega) (by omega)
  have q2 := own_addx ((0 : Int32) + v1) v14 (by omega) (by omega)
  have q3 := own_subx (((0 : Int32) + v1) + v14) ((0 : Int32) + v1) (by omega) (by omega)
  omega
set_option maxRecDepth 65536 in
set_option maxHeartbeats 4000000 in
theorem own_t0_11 (v1 : Int32) (v14 : Int32) (v27 : Int32) (hl_v1 : v1 = (0 : Int32) ∨ v1 = (1 : Int32) ∨ v1 = (2 : Int32) ∨ v1 = (3 : Int32)) (hl_v14 : v14 = (0 : Int32) ∨ v14 = (1 : Int32) ∨ v14 = (2 : Int32) ∨ v14 = (3 : Int32)) (hl_v27 : v27 = (0 : Int32) ∨ v27 = (1 : Int32) ∨ v27 = (2 : Int32) ∨ v27 = (3 : Int32)) : (((((0 : Int32) + v1) + v14) + v27) - (((0 : Int32) + v1) + v14)).toInt = v27.toInt := by
  have rv1 := own_r4 hl_v1
  have rv14 := own_r4 hl_v14
  have rv27 := own_r4 hl_v27
  have e0 := own_0i
  have q1 := own_addx (0 : Int32) v1 (by omega) (by omega)
  have q2 := own_addx ((0 : Int32) + v1) v14 (by omega) (by omega)
  have q3 := own_addx (((0 : Int32) + v1) + v14) v27 (by omega) (by omega)
  have q4 := own_subx ((((0 : Int32) + v1) + v14) + v27) (((0 : Int32) + v1) + v14) (by omega) (by omega)
  omega
def own_Q0 (Z : State) (p_1 : Int32) (p_2 : Int32) (p_3 : Int32) (p_4 : Int32) (h0 : Heap) (n0 : Nat) (v : Option Value) (h : Heap) (L : List Loc) : Prop := v = some (.int (1 : Int32)) ∧ Fr n0 L
set_option maxRecDepth 65536 in
set_option maxHeartbeats 40000000 in
theorem own_rm0 (l : Launch) (Z : State) (a0 : Array Value) (hw : ∀ d ∈ tables_1, d.before a0 Z = true) (ws : List Jvm.Cond) (p_1 : Int32) (p_2 : Int32) (p_3 : Int32) (p_4 : Int32) (h0 : Heap) (n0 : Nat) (Z0 : n0 ≤ h0.size) :
    MetFree l x (head1 (Jvm.Cond.code x code maxLocals ret :: ws) room_1) (fun a U => a = #[(.int p_1), (.int p_2), (.int p_3), (.int p_4)] ∧ Z.Warmed39 U.vm ∧ U.heap = h0) (fun _ _ _ _ _ => True) (fun _ U o U' => ∃ v L, o = .returned v ∧ own_Q0 Z p_1 p_2 p_3 p_4 h0 n0 v U'.heap L ∧ ReturnedEndW U o U' L 18 340) := by
  refine MetFree.of_bodySF (plainFor_of_name own_pn0) hisR ?_
  intro p e s m args below meth c s₁ Bd hml0 hP hK
  obtain ⟨rfl, hZ, hh⟩ := hP
  have hx := Bd.exec
  have hby := Bd.bytes
  have hml : c.maxLocals = 26 := hml0
  have hown : s.vm.findClass "com/example/kalchas/kalchas/propositional/HornClausesBodyPinLaw" = some m.cls := findClass_of_methodNamed Bd.named
  have hnm := (name_of_methodNamed Bd.named Bd.method).1
  have X0 : Stand p l e room_1 s m #[(.int p_1), (.int p_2), (.int p_3), (.int p_4)] below meth c s₁ [] 0 0 := Stand.of_body Bd
  have e0 : s₁.heap = h0 := by rw [← hh, Bd.state]; rfl
  have N0 := Fr.nil n0
  have X0 : Stand p l e room_1 (s.setVm s.vm) m #[(.int p_1), (.int p_2), (.int p_3), (.int p_4)] below meth c s₁ [] 0 0 := X0
  have hZ : Z.Warmed39 (s.setVm s.vm).vm := hZ
  have hown : (s.setVm s.vm).vm.findClass "com/example/kalchas/kalchas/propositional/HornClausesBodyPinLaw" = some m.cls := hown
  have hS0 : s.Since s.vm 0 := (State.WarmedH.refl s).since 0
  have w_0 := hw _ (List.mem_of_getElem? (i := 0) rfl)
  have w_1 := hw _ (List.mem_of_getElem? (i := 1) rfl)
  have w_2 := hw _ (List.mem_of_getElem? (i := 2) rfl)
  have w_3 := hw _ (List.mem_of_getElem? (i := 3) rfl)
  have w_4 := hw _ (List.mem_of_getElem? (i := 4) rfl)
  have w_5 := hw _ (List.mem_of_getElem? (i := 5) rfl)
  have w_6 := hw _ (List.mem_of_getElem? (i := 6) rfl)
  have w_10 := hw _ (List.mem_of_getElem? (i := 10) rfl)
  have w_13 := hw _ (List.mem_of_getElem? (i := 13) rfl)
  have w_23 := hw _ (List.mem_of_getElem? (i := 23) rfl)
  have w_24 := hw _ (List.mem_of_getElem? (i := 24) rfl)
  have w_25 := hw _ (List.mem_of_getElem? (i := 25) rfl)
  have w_26 := hw _ (List.mem_of_getElem? (i := 26) rfl)
  have w_27 := hw _ (List.mem_of_getElem? (i := 27) rfl)
  have w_32 := hw _ (List.mem_of_getElem? (i := 32) rfl)
  have w_33 := hw _ (List.mem_of_getElem? (i := 33) rfl)
  have w_34 := hw _ (List.mem_of_getElem? (i := 34) rfl)
  have w_35 := hw _ (List.mem_of_getElem? (i := 35) rfl)
  have w_36 := hw _ (List.mem_of_getElem? (i := 36) rfl)
  have w_59 := hw _ (List.mem_of_getElem? (i := 59) rfl)
  have w_60 := hw _ (List.mem_of_getElem? (i := 60) rfl)
  have w_61 := hw _ (List.mem_of_getElem? (i := 61) rfl)
  have w_62 := hw _ (List.mem_of_getElem? (i := 62) rfl)
  have w_63 := hw _ (List.mem_of_getElem? (i := 63) rfl)
  have w_84 := hw _ (List.mem_of_getElem? (i := 84) rfl)
  have w_85 := hw _ (List.mem_of_getElem? (i := 85) rfl)
  have w_86 := hw _ (List.mem_of_getElem? (i := 86) rfl)
  have z0 : n0 ≤ h0.size := Z0
  show own_Go p.tables e below (fun t o => t.status = .running ∧ Ended t below o ∧ ∃ v L, o = .returned v ∧ own_Q0 Z p_1 p_2 p_3 p_4 h0 n0 v t.heap L ∧ ReturnedEndW s o t L 18 340) s₁ (entryFrame m #[(.int p_1), (.int p_2), (.int p_3), (.int p_4)] maxLocals)
  rw [own_ef_own_rm0 m p_1 p_2 p_3 p_4]
  show own_Go _ _ _ _ s₁ (mkF m 0 #[.val (.int p_1), .val (.int p_2), .val (.int p_3), .val (.int p_4), .unset, .unset, .unset, .unset, .unset, .unset, .unset, .unset, .unset, .unset, .unset, .unset, .unset, .unset, .unset, .unset, .unset, .unset, .unset, .unset, .unset, .unset] [])
  refine own_go (fun _ k => XS.iloadN X0.here hx rfl (hb hby at_0) rfl k) ?_
  show own_Go _ _ _ _ s₁ (mkF m 1 #[.val (.int p_1), .val (.int p_2), .val (.int p_3), .val (.int p_4), .unset, .unset, .unset, .unset, .unset, .unset, .unset, .unset, .unset, .unset, .unset, .unset, .unset, .unset, .unset, .unset, .unset, .unset, .unset, .unset, .unset, .unset] [(.int p_1)])
  refine own_go (fun _ k => XS.iconst X0.here hx rfl (hb hby at_1) k) ?_
  show own_Go _ _ _ _ s₁ (mkF m 2 #[.val (.int p_1), .val (.int p_2), .val (.int p_3), .val (.int p_4), .unset, .unset, .unset, .unset, .unset, .unset, .unset, .unset, .unset, .unset, .unset, .unset, .unset, .unset, .unset, .unset, .unset, .unset, .unset, .unset, .unset, .unset] [(.int (3 : Int32)), (.int p_1)])
  refine own_go (fun _ k => XS.iand X0.here hx rfl (hb hby at_2) rfl k) ?_
  show own_Go _ _ _ _ s₁ (mkF m 3 #[.val (.int p_1), .val (.int p_2), .val (.int p_3), .val (.int p_4), .unset, .unset, .unset, .unset, .unset, .unset, .unset, .unset, .unset, .unset, .unset, .unset, .unset, .unset, .unset, .unset, .unset, .unset, .unset, .unset, .unset, .unset] [(.int (p_1 &&& (3 : Int32)))])
  refine own_go (fun _ k => XS.istore X0.here hx rfl (hb hby at_3) rfl (l' := #[.val (.int p_1), .val (.int p_2), .val (.int p_3), .val (.int p_4), .val (.int (p_1 &&& (3 : Int32))), .unset, .unset, .unset, .unset, .unset, .unset, .unset, .unset, .unset, .unset, .unset, .unset, .unset, .unset, .unset, .unset, .unset, .unset, .unset, .unset, .unset]) rfl k) ?_
  show own_Go _ _ _ _ s₁ (mkF m 5 #[.val (.int p_1), .val (.int p_2), .val (.int p_3), .val (.int p_4), .val (.int (p_1 &&& (3 : Int32))), .unset, .unset, .unset, .unset, .unset, .unset, .unset, .unset, .unset, .unset, .unset, .unset, .unset, .unset, .unset, .unset, .unset, .unset, .unset, .unset, .unset] [])
  generalize hdv1 : (p_1 &&& (3 : Int32)) = v1
  show own_Go _ _ _ _ s₁ (mkF m 5 #[.val (.int p_1), .val (.int p_2), .val (.int p_3), .val (.int p_4), .val (.int v1), .unset, .unset, .unset, .unset, .unset, .unset, .unset, .unset, .unset, .unset, .unset, .unset, .unset, .unset, .unset, .unset, .unset, .unset, .unset, .unset, .unset] [])
  have hl_v1 : v1 = (0 : Int32) ∨ v1 = (1 : Int32) ∨ v1 = (2 : Int32) ∨ v1 = (3 : Int32) := own_t0_0 p_1 v1 hdv1
  refine own_go (fun _ k => XS.iloadN X0.here hx rfl (hb hby at_5) rfl k) ?_
  show own_Go _ _ _ _ s₁ (mkF m 6 #[.val (.int p_1), .val (.int p_2), .val (.int p_3), .val (.int p_4), .val (.int v1), .unset, .unset, .unset, .unset, .unset, .unset, .unset, .unset, .unset, .unset, .unset, .unset, .unset, .unset, .unset, .unset, .unset, .unset, .unset, .unset, .unset] [(.int p_1)])
  refine own_go (fun _ k => XS.iconst X0.here hx rfl (hb hby at_6) k) ?_
  show own_Go _ _ _ _ s₁ (mkF m 7 #[.val (.int p_1), .val (.int p_2), .val (.int p_3), .val (.int p_4), .val (.int v1), .unset, .unset, .unset, .unset, .unset, .unset, .unset, .unset, .unset, .unset, .unset, .unset, .unset, .unset, .unset, .unset, .unset, .unset, .unset, .unset, .unset] [(.int (2 : Int32)), (.int p_1)])
  obtain ⟨_, _, ⟨T2, L2, k2, n2⟩, -, X2, ⟨Lc2, hQ2, l2, y2, z2⟩, st2⟩ := Jvm.LawKit.callS X0 hx (y := (⟨"com/example/kalchas/kalchas/propositional/HornClausesBodyPinLaw", "e", "(II)I"⟩ : MethodName)) hown (mvT hZ w_0) (mvT hZ w_1) (mvT hZ w_2) (mvT hZ w_3) (by decide) (backOf (W := 0) (own_rm1 l Z a0 hw [] p_1 (2 : Int32)  h0 n0 (by omega) ) hZ w_3 w_2 (by decide) (by decide)) (g := (mkF m 7 #[.val (.int p_1), .val (.int p_2), .val (.int p_3), .val (.int p_4), .val (.int v1), .unset, .unset, .unset, .unset, .unset, .unset, .unset, .unset, .unset, .unset, .unset, .unset, .unset, .unset, .unset, .unset, .unset, .unset, .unset, .unset, .unset] [(.int (2 : Int32)), (.int p_1)])) rfl (by rw [hml]; rfl) (argsL := [(.int p_1), (.int (2 : Int32))]) (rest := []) (lenOf own_pd3 rfl) rfl (by show 2 * 0 + _ ≤ _; exact Nat.le_of_eq rfl) (hb hby at_7) (fun _ _ => ⟨rfl, e0, (by decide : 0 + 0 ≤ _), (by decide : 0 + 0 ≤ _)⟩)
  dsimp only [Pt.U, Pt.locs, Pt.cells, Pt.slots] at X2 l2 y2 z2 st2 hQ2
  have y2 : k2 = 0 := y2
  have z2 : n2 = 0 := z2
  obtain ⟨r3, rfl, N2q, e2, f4, f5⟩ := hQ2
  have N2 : Fr n0 L2 := by rw [l2]; exact Fr.app N0 N2q
  refine own_go (fun _ k => st2 _ k) ?_
  show own_Go _ _ _ _ T2 (mkF m 10 #[.val (.int p_1), .val (.int p_2), .val (.int p_3), .val (.int p_4), .val (.int v1), .unset, .unset, .unset, .unset, .unset, .unset, .unset, .unset, .unset, .unset, .unset, .unset, .unset, .unset, .unset, .unset, .unset, .unset, .unset, .unset, .unset] [(.int r3)])
  refine own_go (fun _ k => XS.istore X2.here hx rfl (hb hby at_10) rfl (l' := #[.val (.int p_1), .val (.int p_2), .val (.int p_3), .val (.int p_4), .val (.int v1), .val (.int r3), .unset, .unset, .unset, .unset, .unset, .unset, .unset, .unset, .unset, .unset, .unset, .unset, .unset, .unset, .unset, .unset, .unset, .unset, .unset, .unset]) rfl k) ?_
  show own_Go _ _ _ _ T2 (mkF m 12 #[.val (.int p_1), .val (.int p_2), .val (.int p_3), .val (.int p_4), .val (.int v1), .val (.int r3), .unset, .unset, .unset, .unset, .unset, .unset, .unset, .unset, .unset, .unset, .unset, .unset, .unset, .unset, .unset, .unset, .unset, .unset, .unset, .unset] [])
  refine own_go (fun _ k => XS.iloadN X2.here hx rfl (hb hby at_12) rfl k) ?_
  show own_Go _ _ _ _ T2 (mkF m 13 #[.val (.int p_1), .val (.int p_2), .val (.int p_3), .val (.int p_4), .val (.int v1), .val (.int r3), .unset, .unset, .unset, .unset, .unset, .unset, .unset, .unset, .unset, .unset, .unset, .unset, .unset, .unset, .unset, .unset, .unset, .unset, .unset, .unset] [(.int p_1)])
  refine own_go (fun _ k => XS.bipush X2.here hx rfl (hb hby at_13) k) ?_
  show own_Go _ _ _ _ T2 (mkF m 15 #[.val (.int p_1), .val (.int p_2), .val (.int p_3), .val (.int p_4), .val (.int v1), .val (.int r3), .unset, .unset, .unset, .unset, .unset, .unset, .unset, .unset, .unset, .unset, .unset, .unset, .unset, .unset, .unset, .unset, .unset, .unset, .unset, .unset] [(.int (12 : Int32)), (.int p_1)])
  obtain ⟨_, _, ⟨T6, L6, k6, n6⟩, -, X6, ⟨Lc6, hQ6, l6, y6, z6⟩, st6⟩ := Jvm.LawKit.callS X2 hx (y := (⟨"com/example/kalchas/kalchas/propositional/HornClausesBodyPinLaw", "e", "(II)I"⟩ : MethodName)) hown (mvT hZ w_0) (mvT hZ w_1) (mvT hZ w_2) (mvT hZ w_3) (by decide) (backOf (W := 0) (own_rm1 l Z a0 hw [] p_1 (12 : Int32)  h0 n0 (by omega) ) hZ w_3 w_2 (by decide) (by decide)) (g := (mkF m 15 #[.val (.int p_1), .val (.int p_2), .val (.int p_3), .val (.int p_4), .val (.int v1), .val (.int r3), .unset, .unset, .unset, .unset, .unset, .unset, .unset, .unset, .unset, .unset, .unset, .unset, .unset, .unset, .unset, .unset, .unset, .unset, .unset, .unset] [(.int (12 : Int32)), (.int p_1)])) rfl (by rw [hml]; rfl) (argsL := [(.int p_1), (.int (12 : Int32))]) (rest := []) (lenOf own_pd3 rfl) rfl (by show 2 * 0 + _ ≤ _; exact Nat.le_of_eq rfl) (hb hby at_15) (fun _ _ => ⟨rfl, e2, (by show k2 + _ ≤ _; rw [y2]; decide), (by show n2 + _ ≤ _; rw [z2]; decide)⟩)
  dsimp only [Pt.U, Pt.locs, Pt.cells, Pt.slots] at X6 l6 y6 z6 st6 hQ6
  have y6 : k6 = 0 := own_addeq y6 (congrArg (fun q => q) y2) rfl
  have z6 : n6 = 0 := own_addeq z6 (congrArg (fun q => q) z2) rfl
  obtain ⟨r7, rfl, N6q, e6, f8, f9⟩ := hQ6
  have N6 : Fr n0 L6 := by rw [l6]; exact Fr.app N2 N6q
  refine own_go (fun _ k => st6 _ k) ?_
  show own_Go _ _ _ _ T6 (mkF m 18 #[.val (.int p_1), .val (.int p_2), .val (.int p_3), .val (.int p_4), .val (.int v1), .val (.int r3), .unset, .unset, .unset, .unset, .unset, .unset, .unset, .unset, .unset, .unset, .unset, .unset, .unset, .unset, .unset, .unset, .unset, .unset, .unset, .unset] [(.int r7)])
  refine own_go (fun _ k => XS.istore X6.here hx rfl (hb hby at_18) rfl (l' := #[.val (.int p_1), .val (.int p_2), .val (.int p_3), .val (.int p_4), .val (.int v1), .val (.int r3), .val (.int r7), .unset, .unset, .unset, .unset, .unset, .unset, .unset, .unset, .unset, .unset, .unset, .unset, .unset, .unset, .unset, .unset, .unset, .unset, .unset]) rfl k) ?_
  show own_Go _ _ _ _ T6 (mkF m 20 #[.val (.int p_1), .val (.int p_2), .val (.int p_3), .val (.int p_4), .val (.int v1), .val (.int r3), .val (.int r7), .unset, .unset, .unset, .unset, .unset, .unset, .unset, .unset, .unset, .unset, .unset, .unset, .unset, .unset, .unset, .unset, .unset, .unset, .unset] [])
  refine own_go (fun _ k => XS.iloadN X6.here hx rfl (hb hby at_20) rfl k) ?_
  show own_Go _ _ _ _ T6 (mkF m 21 #[.val (.int p_1), .val (.int p_2), .val (.int p_3), .val (.int p_4), .val (.int v1), .val (.int r3), .val (.int r7), .unset, .unset, .unset, .unset, .unset, .unset, .unset, .unset, .unset, .unset, .unset, .unset, .unset, .unset, .unset, .unset, .unset, .unset, .unset] [(.int p_1)])
  refine own_go (fun _ k => XS.bipush X6.here hx rfl (hb hby at_21) k) ?_
  show own_Go _ _ _ _ T6 (mkF m 23 #[.val (.int p_1), .val (.int p_2), .val (.int p_3), .val (.int p_4), .val (.int v1), .val (.int r3), .val (.int r7), .unset, .unset, .unset, .unset, .unset, .unset, .unset, .unset, .unset, .unset, .unset, .unset, .unset, .unset, .unset, .unset, .unset, .unset, .unset] [(.int (22 : Int32)), (.int p_1)])
  obtain ⟨_, _, ⟨T10, L10, k10, n10⟩, -, X10, ⟨Lc10, hQ10, l10, y10, z10⟩, st10⟩ := Jvm.LawKit.callS X6 hx (y := (⟨"com/example/kalchas/kalchas/propositional/HornClausesBodyPinLaw", "e", "(II)I"⟩ : MethodName)) hown (mvT hZ w_0) (mvT hZ w_1) (mvT hZ w_2) (mvT hZ w_3) (by decide) (backOf (W := 0) (own_rm1 l Z a0 hw [] p_1 (22 : Int32)  h0 n0 (by omega) ) hZ w_3 w_2 (by decide) (by decide)) (g := (mkF m 23 #[.val (.int p_1), .val (.int p_2), .val (.int p_3), .val (.int p_4), .val (.int v1), .val (.int r3), .val (.int r7), .unset, .unset, .unset, .unset, .unset, .unset, .unset, .unset, .unset, .unset, .unset, .unset, .unset, .unset, .unset, .unset, .unset, .unset, .unset] [(.int (22 : Int32)), (.int p_1)])) rfl (by rw [hml]; rfl) (argsL := [(.int p_1), (.int (22 : Int32))]) (rest := []) (lenOf own_pd3 rfl) rfl (by show 2 * 0 + _ ≤ _; exact Nat.le_of_eq rfl) (hb hby at_23) (fun _ _ => ⟨rfl, e6, (by show k6 + _ ≤ _; rw [y6]; decide), (by show n6 + _ ≤ _; rw [z6]; decide)⟩)
  dsimp only [Pt.U, Pt.locs, Pt.cells, Pt.slots] at X10 l10 y10 z10 st10 hQ10
  have y10 : k10 = 0 := own_addeq y10 (congrArg (fun q => q) y6) rfl
  have z10 : n10 = 0 := own_addeq z10 (congrArg (fun q => q) z6) rfl
  obtain ⟨r11, rfl, N10q, e10, f12, f13⟩ := hQ10
  have N10 : Fr n0 L10 := by rw [l10]; exact Fr.app N6 N10q
  refine own_go (fun _ k => st10 _ k) ?_
  show own_Go _ _ _ _ T10 (mkF m 26 #[.val (.int p_1), .val (.int p_2), .val (.int p_3), .val (.int p_4), .val (.int v1), .val (.int r3), .val (.int r7), .unset, .unset, .unset, .unset, .unset, .unset, .unset, .unset, .unset, .unset, .unset, .unset, .unset, .unset, .unset, .unset, .unset, .unset, .unset] [(.int r11)])
  refine own_go (fun _ k => XS.istore X10.here hx rfl (hb hby at_26) rfl (l' := #[.val (.int p_1), .val (.int p_2), .val (.int p_3), .val (.int p_4), .val (.int v1), .val (.int r3), .val (.int r7), .val (.int r11), .unset, .unset, .unset, .unset, .unset, .unset, .unset, .unset, .unset, .unset, .unset, .unset, .unset, .unset, .unset, .unset, .unset, .unset]) rfl k) ?_
  show own_Go _ _ _ _ T10 (mkF m 28 #[.val (.int p_1), .val (.int p_2), .val (.int p_3), .val (.int p_4), .val (.int v1), .val (.int r3), .val (.int r7), .val (.int r11), .unset, .unset, .unset, .unset, .unset, .unset, .unset, .unset, .unset, .unset, .unset, .unset, .unset, .unset, .unset, .unset, .unset, .unset] [])
  refine own_go (fun _ k => XS.iloadN X10.here hx rfl (hb hby at_28) rfl k) ?_
  show own_Go _ _ _ _ T10 (mkF m 29 #[.val (.int p_1), .val (.int p_2), .val (.int p_3), .val (.int p_4), .val (.int v1), .val (.int r3), .val (.int r7), .val (.int r11), .unset, .unset, .unset, .unset, .unset, .unset, .unset, .unset, .unset, .unset, .unset, .unset, .unset, .unset, .unset, .unset, .unset, .unset] [(.int p_2)])
  refine own_go (fun _ k => XS.iconst X10.here hx rfl (hb hby at_29) k) ?_
  show own_Go _ _ _ _ T10 (mkF m 30 #[.val (.int p_1), .val (.int p_2), .val (.int p_3), .val (.int p_4), .val (.int v1), .val (.int r3), .val (.int r7), .val (.int r11), .unset, .unset, .unset, .unset, .unset, .unset, .unset, .unset, .unset, .unset, .unset, .unset, .unset, .unset, .unset, .unset, .unset, .unset] [(.int (3 : Int32)), (.int p_2)])
  refine own_go (fun _ k => XS.iand X10.here hx rfl (hb hby at_30) rfl k) ?_
  show own_Go _ _ _ _ T10 (mkF m 31 #[.val (.int p_1), .val (.int p_2), .val (.int p_3), .val (.int p_4), .val (.int v1), .val (.int r3), .val (.int r7), .val (.int r11), .unset, .unset, .unset, .unset, .unset, .unset, .unset, .unset, .unset, .unset, .unset, .unset, .unset, .unset, .unset, .unset, .unset, .unset] [(.int (p_2 &&& (3 : Int32)))])
  refine own_go (fun _ k => XS.istore X10.here hx rfl (hb hby at_31) rfl (l' := #[.val (.int p_1), .val (.int p_2), .val (.int p_3), .val (.int p_4), .val (.int v1), .val (.int r3), .val (.int r7), .val (.int r11), .val (.int (p_2 &&& (3 : Int32))), .unset, .unset, .unset, .unset, .unset, .unset, .unset, .unset, .unset, .unset, .unset, .unset, .unset, .unset, .unset, .unset, .unset]) rfl k) ?_
  show own_Go _ _ _ _ T10 (mkF m 33 #[.val (.int p_1), .val (.int p_2), .val (.int p_3), .val (.int p_4), .val (.int v1), .val (.int r3), .val (.int r7), .val (.int r11), .val (.int (p_2 &&& (3 : Int32))), .unset, .unset, .unset, .unset, .unset, .unset, .unset, .unset, .unset, .unset, .unset, .unset, .unset, .unset, .unset, .unset, .unset] [])
  generalize hdv14 : (p_2 &&& (3 : Int32)) = v14
  show own_Go _ _ _ _ T10 (mkF m 33 #[.val (.int p_1), .val (.int p_2), .val (.int p_3), .val (.int p_4), .val (.int v1), .val (.int r3), .val (.int r7), .val (.int r11), .val (.int v14), .unset, .unset, .unset, .unset, .unset, .unset, .unset, .unset, .unset, .unset, .unset, .unset, .unset, .unset, .unset, .unset, .unset] [])
  have hl_v14 : v14 = (0 : Int32) ∨ v14 = (1 : Int32) ∨ v14 = (2 : Int32) ∨ v14 = (3 : Int32) := own_t0_0 p_2 v14 hdv14
  refine own_go (fun _ k => XS.iloadN X10.here hx rfl (hb hby at_33) rfl k) ?_
  show own_Go _ _ _ _ T10 (mkF m 34 #[.val (.int p_1), .val (.int p_2), .val (.int p_3), .val (.int p_4), .val (.int v1), .val (.int r3), .val (.int r7), .val (.int r11), .val (.int v14), .unset, .unset, .unset, .unset, .unset, .unset, .unset, .unset, .unset, .unset, .unset, .unset, .unset, .unset, .unset, .unset, .unset] [(.int p_2)])
  refine own_go (fun _ k => XS.iconst X10.here hx rfl (hb hby at_34) k) ?_
  show own_Go _ _ _ _ T10 (mkF m 35 #[.val (.int p_1), .val (.int p_2), .val (.int p_3), .val (.int p_4), .val (.int v1), .val (.int r3), .val (.int r7), .val (.int r11), .val (.int v14), .unset, .unset, .unset, .unset, .unset, .unset, .unset, .unset, .unset, .unset, .unset, .unset, .unset, .unset, .unset, .unset, .unset] [(.int (2 : Int32)), (.int p_2)])
  obtain ⟨_, _, ⟨T15, L15, k15, n15⟩, -, X15, ⟨Lc15, hQ15, l15, y15, z15⟩, st15⟩ := Jvm.LawKit.callS X10 hx (y := (⟨"com/example/kalchas/kalchas/propositional/HornClausesBodyPinLaw", "e", "(II)I"⟩ : MethodName)) hown (mvT hZ w_0) (mvT hZ w_1) (mvT hZ w_2) (mvT hZ w_3) (by decide) (backOf (W := 0) (own_rm1 l Z a0 hw [] p_2 (2 : Int32)  h0 n0 (by omega) ) hZ w_3 w_2 (by decide) (by decide)) (g := (mkF m 35 #[.val (.int p_1), .val (.int p_2), .val (.int p_3), .val (.int p_4), .val (.int v1), .val (.int r3), .val (.int r7), .val (.int r11), .val (.int v14), .unset, .unset, .unset, .unset, .unset, .unset, .unset, .unset, .unset, .unset, .unset, .unset, .unset, .unset, .unset, .unset, .unset] [(.int (2 : Int32)), (.int p_2)])) rfl (by rw [hml]; rfl) (argsL := [(.int p_2), (.int (2 : Int32))]) (rest := []) (lenOf own_pd3 rfl) rfl (by show 2 * 0 + _ ≤ _; exact Nat.le_of_eq rfl) (hb hby at_35) (fun _ _ => ⟨rfl, e10, (by show k10 + _ ≤ _; rw [y10]; decide), (by show n10 + _ ≤ _; rw [z10]; decide)⟩)
  dsimp only [Pt.U, Pt.locs, Pt.cells, Pt.slots] at X15 l15 y15 z15 st15 hQ15
  have y15 : k15 = 0 := own_addeq y15 (congrArg (fun q => q) y10) rfl
  have z15 : n15 = 0 := own_addeq z15 (congrArg (fun q => q) z10) rfl
  obtain ⟨r16, rfl, N15q, e15, f17, f18⟩ := hQ15
  have N15 : Fr n0 L15 := by rw [l15]; exact Fr.app N10 N15q
  refine own_go (fun _ k => st15 _ k) ?_
  show own_Go _ _ _ _ T15 (mkF m 38 #[.val (.int p_1), .val (.int p_2), .val (.int p_3), .val (.int p_4), .val (.int v1), .val (.int r3), .val (.int r7), .val (.int r11), .val (.int v14), .unset, .unset, .unset, .unset, .unset, .unset, .unset, .unset, .unset, .unset, .unset, .unset, .unset, .unset, .unset, .unset, .unset] [(.int r16)])
  refine own_go (fun _ k => XS.istore X15.here hx rfl (hb hby at_38) rfl (l' := #[.val (.int p_1), .val (.int p_2), .val (.int p_3), .val (.int p_4), .val (.int v1), .val (.int r3), .val (.int r7), .val (.int r11), .val (.int v14), .val (.int r16), .unset, .unset, .unset, .unset, .unset, .unset, .unset, .unset, .unset, .unset, .unset, .unset, .unset, .unset, .unset, .unset]) rfl k) ?_
  show own_Go _ _ _ _ T15 (mkF m 40 #[.val (.int p_1), .val (.int p_2), .val (.int p_3), .val (.int p_4), .val (.int v1), .val (.int r3), .val (.int r7), .val (.int r11), .val (.int v14), .val (.int r16), .unset, .unset, .unset, .unset, .unset, .unset, .unset, .unset, .unset, .unset, .unset, .unset, .unset, .unset, .unset, .unset] [])
  refine own_go (fun _ k => XS.iloadN X15.here hx rfl (hb hby at_40) rfl k) ?_
  show own_Go _ _ _ _ T15 (mkF m 41 #[.val (.int p_1), .val (.int p_2), .val (.int p_3), .val (.int p_4), .val (.int v1), .val (.int r3), .val (.int r7), .val (.int r11), .val (.int v14), .val (.int r16), .unset, .unset, .unset, .unset, .unset, .unset, .unset, .unset, .unset, .unset, .unset, .unset, .unset, .unset, .unset, .unset] [(.int p_2)])
  refine own_go (fun _ k => XS.bipush X15.here hx rfl (hb hby at_41) k) ?_
  show own_Go _ _ _ _ T15 (mkF m 43 #[.val (.int p_1), .val (.int p_2), .val (.int p_3), .val (.int p_4), .val (.int v1), .val (.int r3), .val (.int r7), .val (.int r11), .val (.int v14), .val (.int r16), .unset, .unset, .unset, .unset, .unset, .unset, .unset, .unset, .unset, .unset, .unset, .unset, .unset, .unset, .unset, .unset] [(.int (12 : Int32)), (.int p_2)])
  obtain ⟨_, _, ⟨T19, L19, k19, n19⟩, -, X19, ⟨Lc19, hQ19, l19, y19, z19⟩, st19⟩ := Jvm.LawKit.callS X15 hx (y := (⟨"com/example/kalchas/kalchas/propositional/HornClausesBodyPinLaw", "e", "(II)I"⟩ : MethodName)) hown (mvT hZ w_0) (mvT hZ w_1) (mvT hZ w_2) (mvT hZ w_3) (by decide) (backOf (W := 0) (own_rm1 l Z a0 hw [] p_2 (12 : Int32)  h0 n0 (by omega) ) hZ w_3 w_2 (by decide) (by decide)) (g := (mkF m 43 #[.val (.int p_1), .val (.int p_2), .val (.int p_3), .val (.int p_4), .val (.int v1), .val (.int r3), .val (.int r7), .val (.int r11), .val (.int v14), .val (.int r16), .unset, .unset, .unset, .unset, .unset, .unset, .unset, .unset, .unset, .unset, .unset, .unset, .unset, .unset, .unset, .unset] [(.int (12 : Int32)), (.int p_2)])) rfl (by rw [hml]; rfl) (argsL := [(.int p_2), (.int (12 : Int32))]) (rest := []) (lenOf own_pd3 rfl) rfl (by show 2 * 0 + _ ≤ _; exact Nat.le_of_eq rfl) (hb hby at_43) (fun _ _ => ⟨rfl, e15, (by show k15 + _ ≤ _; rw [y15]; decide), (by show n15 + _ ≤ _; rw [z15]; decide)⟩)
  dsimp only [Pt.U, Pt.locs, Pt.cells, Pt.slots] at X19 l19 y19 z19 st19 hQ19
  have y19 : k19 = 0 := own_addeq y19 (congrArg (fun q => q) y15) rfl
  have z19 : n19 = 0 := own_addeq z19 (congrArg (fun q => q) z15) rfl
  obtain ⟨r20, rfl, N19q, e19, f21, f22⟩ := hQ19
  have N19 : Fr n0 L19 := by rw [l19]; exact Fr.app N15 N19q
  refine own_go (fun _ k => st19 _ k) ?_
  show own_Go _ _ _ _ T19 (mkF m 46 #[.val (.int p_1), .val (.int p_2), .val (.int p_3), .val (.int p_4), .val (.int v1), .val (.int r3), .val (.int r7), .val (.int r11), .val (.int v14), .val (.int r16), .unset, .unset, .unset, .unset, .unset, .unset, .unset, .unset, .unset, .unset, .unset, .unset, .unset, .unset, .unset, .unset] [(.int r20)])
  refine own_go (fun _ k => XS.istore X19.here hx rfl (hb hby at_46) rfl (l' := #[.val (.int p_1), .val (.int p_2), .val (.int p_3), .val (.int p_4), .val (.int v1), .val (.int r3), .val (.int r7), .val (.int r11), .val (.int v14), .val (.int r16), .val (.int r20), .unset, .unset, .unset, .unset, .unset, .unset, .unset, .unset, .unset, .unset, .unset, .unset, .unset, .unset, .unset]) rfl k) ?_
  show own_Go _ _ _ _ T19 (mkF m 48 #[.val (.int p_1), .val (.int p_2), .val (.int p_3), .val (.int p_4), .val (.int v1), .val (.int r3), .val (.int r7), .val (.int r11), .val (.int v14), .val (.int r16), .val (.int r20), .unset, .unset, .unset, .unset, .unset, .unset, .unset, .unset, .unset, .unset, .unset, .unset, .unset, .unset, .unset] [])
  refine own_go (fun _ k => XS.iloadN X19.here hx rfl (hb hby at_48) rfl k) ?_
  show own_Go _ _ _ _ T19 (mkF m 49 #[.val (.int p_1), .val (.int p_2), .val (.int p_3), .val (.int p_4), .val (.int v1), .val (.int r3), .val (.int r7), .val (.int r11), .val (.int v14), .val (.int r16), .val (.int r20), .unset, .unset, .unset, .unset, .unset, .unset, .unset, .unset, .unset, .unset, .unset, .unset, .unset, .unset, .unset] [(.int p_2)])
  refine own_go (fun _ k => XS.bipush X19.here hx rfl (hb hby at_49) k) ?_
  show own_Go _ _ _ _ T19 (mkF m 51 #[.val (.int p_1), .val (.int p_2), .val (.int p_3), .val (.int p_4), .val (.int v1), .val (.int r3), .val (.int r7), .val (.int r11), .val (.int v14), .val (.int r16), .val (.int r20), .unset, .unset, .unset, .unset, .unset, .unset, .unset, .unset, .unset, .unset, .unset, .unset, .unset, .unset, .unset] [(.int (22 : Int32)), (.int p_2)])
  obtain ⟨_, _, ⟨T23, L23, k23, n23⟩, -, X23, ⟨Lc23, hQ23, l23, y23, z23⟩, st23⟩ := Jvm.LawKit.callS X19 hx (y := (⟨"com/example/kalchas/kalchas/propositional/HornClausesBodyPinLaw", "e", "(II)I"⟩ : MethodName)) hown (mvT hZ w_0) (mvT hZ w_1) (mvT hZ w_2) (mvT hZ w_3) (by decide) (backOf (W := 0) (own_rm1 l Z a0 hw [] p_2 (22 : Int32)  h0 n0 (by omega) ) hZ w_3 w_2 (by decide) (by decide)) (g := (mkF m 51 #[.val (.int p_1), .val (.int p_2), .val (.int p_3), .val (.int p_4), .val (.int v1), .val (.int r3), .val (.int r7), .val (.int r11), .val (.int v14), .val (.int r16), .val (.int r20), .unset, .unset, .unset, .unset, .unset, .unset, .unset, .unset, .unset, .unset, .unset, .unset, .unset, .unset, .unset] [(.int (22 : Int32)), (.int p_2)])) rfl (by rw [hml]; rfl) (argsL := [(.int p_2), (.int (22 : Int32))]) (rest := []) (lenOf own_pd3 rfl) rfl (by show 2 * 0 + _ ≤ _; exact Nat.le_of_eq rfl) (hb hby at_51) (fun _ _ => ⟨rfl, e19, (by show k19 + _ ≤ _; rw [y19]; decide), (by show n19 + _ ≤ _; rw [z19]; decide)⟩)
  dsimp only [Pt.U, Pt.locs, Pt.cells, Pt.slots] at X23 l23 y23 z23 st23 hQ23
  have y23 : k23 = 0 := own_addeq y23 (congrArg (fun q => q) y19) rfl
  have z23 : n23 = 0 := own_addeq z23 (congrArg (fun q => q) z19) rfl
  obtain ⟨r24, rfl, N23q, e23, f25, f26⟩ := hQ23
  have N23 : Fr n0 L23 := by rw [l23]; exact Fr.app N19 N23q
  refine own_go (fun _ k => st23 _ k) ?_
  show own_Go _ _ _ _ T23 (mkF m 54 #[.val (.int p_1), .val (.int p_2), .val (.int p_3), .val (.int p_4), .val (.int v1), .val (.int r3), .val (.int r7), .val (.int r11), .val (.int v14), .val (.int r16), .val (.int r20), .unset, .unset, .unset, .unset, .unset, .unset, .unset, .unset, .unset, .unset, .unset, .unset, .unset, .unset, .unset] [(.int r24)])
  refine own_go (fun _ k => XS.istore X23.here hx rfl (hb hby at_54) rfl (l' := #[.val (.int p_1), .val (.int p_2), .val (.int p_3), .val (.int p_4), .val (.int v1), .val (.int r3), .val (.int r7), .val (.int r11), .val (.int v14), .val (.int r16), .val (.int r20), .val (.int r24), .unset, .unset, .unset, .unset, .unset, .unset, .unset, .unset, .unset, .unset, .unset, .unset, .unset, .unset]) rfl k) ?_
  show own_Go _ _ _ _ T23 (mkF m 56 #[.val (.int p_1), .val (.int p_2), .val (.int p_3), .val (.int p_4), .val (.int v1), .val (.int r3), .val (.int r7), .val (.int r11), .val (.int v14), .val (.int r16), .val (.int r20), .val (.int r24), .unset, .unset, .unset, .unset, .unset, .unset, .unset, .unset, .unset, .unset, .unset, .unset, .unset, .unset] [])
  refine own_go (fun _ k => XS.iloadN X23.here hx rfl (hb hby at_56) rfl k) ?_
  show own_Go _ _ _ _ T23 (mkF m 57 #[.val (.int p_1), .val (.int p_2), .val (.int p_3), .val (.int p_4), .val (.int v1), .val (.int r3), .val (.int r7), .val (.int r11), .val (.int v14), .val (.int r16), .val (.int r20), .val (.int r24), .unset, .unset, .unset, .unset, .unset, .unset, .unset, .unset, .unset, .unset, .unset, .unset, .unset, .unset] [(.int p_3)])
  refine own_go (fun _ k => XS.iconst X23.here hx rfl (hb hby at_57) k) ?_
  show own_Go _ _ _ _ T23 (mkF m 58 #[.val (.int p_1), .val (.int p_2), .val (.int p_3), .val (.int p_4), .val (.int v1), .val (.int r3), .val (.int r7), .val (.int r11), .val (.int v14), .val (.int r16), .val (.int r20), .val (.int r24), .unset, .unset, .unset, .unset, .unset, .unset, .unset, .unset, .unset, .unset, .unset, .unset, .unset, .unset] [(.int (3 : Int32)), (.int p_3)])
  refine own_go (fun _ k => XS.iand X23.here hx rfl (hb hby at_58) rfl k) ?_
  show own_Go _ _ _ _ T23 (mkF m 59 #[.val (.int p_1), .val (.int p_2), .val (.int p_3), .val (.int p_4), .val (.int v1), .val (.int r3), .val (.int r7), .val (.int r11), .val (.int v14), .val (.int r16), .val (.int r20), .val (.int r24), .unset, .unset, .unset, .unset, .unset, .unset, .unset, .unset, .unset, .unset, .unset, .unset, .unset, .unset] [(.int (p_3 &&& (3 : Int32)))])
  refine own_go (fun _ k => XS.istore X23.here hx rfl (hb hby at_59) rfl (l' := #[.val (.int p_1), .val (.int p_2), .val (.int p_3), .val (.int p_4), .val (.int v1), .val (.int r3), .val (.int r7), .val (.int r11), .val (.int v14), .val (.int r16), .val (.int r20), .val (.int r24), .val (.int (p_3 &&& (3 : Int32))), .unset, .unset, .unset, .unset, .unset, .unset, .unset, .unset, .unset, .unset, .unset, .unset, .unset]) rfl k) ?_
  show own_Go _ _ _ _ T23 (mkF m 61 #[.val (.int p_1), .val (.int p_2), .val (.int p_3), .val (.int p_4), .val (.int v1), .val (.int r3), .val (.int r7), .val (.int r11), .val (.int v14), .val (.int r16), .val (.int r20), .val (.int r24), .val (.int (p_3 &&& (3 : Int32))), .unset, .unset, .unset, .unset, .unset, .unset, .unset, .unset, .unset, .unset, .unset, .unset, .unset] [])
  generalize hdv27 : (p_3 &&& (3 : Int32)) = v27
  show own_Go _ _ _ _ T23 (mkF m 61 #[.val (.int p_1), .val (.int p_2), .val (.int p_3), .val (.int p_4), .val (.int v1), .val (.int r3), .val (.int r7), .val (.int r11), .val (.int v14), .val (.int r16), .val (.int r20), .val (.int r24), .val (.int v27), .unset, .unset, .unset, .unset, .unset, .unset, .unset, .unset, .unset, .unset, .unset, .unset, .unset] [])
  have hl_v27 : v27 = (0 : Int32) ∨ v27 = (1 : Int32) ∨ v27 = (2 : Int32) ∨ v27 = (3 : Int32) := own_t0_0 p_3 v27 hdv27
  refine own_go (fun _ k => XS.iloadN X23.here hx rfl (hb hby at_61) rfl k) ?_
  show own_Go _ _ _ _ T23 (mkF m 62 #[.val (.int p_1), .val (.int p_2), .val (.int p_3), .val (.int p_4), .val (.int v1), .val (.int r3), .val (.int r7), .val (.int r11), .val (.int v14), .val (.int r16), .val (.int r20), .val (.int r24), .val (.int v27), .unset, .unset, .unset, .unset, .unset, .unset, .unset, .unset, .unset, .unset, .unset, .unset, .unset] [(.int p_3)])
  refine own_go (fun _ k => XS.iconst X23.here hx rfl (hb hby at_62) k) ?_
  show own_Go _ _ _ _ T23 (mkF m 63 #[.val (.int p_1), .val (.int p_2), .val (.int p_3), .val (.int p_4), .val (.int v1), .val (.int r3), .val (.int r7), .val (.int r11), .val (.int v14), .val (.int r16), .val (.int r20), .val (.int r24), .val (.int v27), .unset, .unset, .unset, .unset, .unset, .unset, .unset, .unset, .unset, .unset, .unset, .unset, .unset] [(.int (2 : Int32)), (.int p_3)])
  obtain ⟨_, _, ⟨T28, L28, k28, n28⟩, -, X28, ⟨Lc28, hQ28, l28, y28, z28⟩, st28⟩ := Jvm.LawKit.callS X23 hx (y := (⟨"com/example/kalchas/kalchas/propositional/HornClausesBodyPinLaw", "e", "(II)I"⟩ : MethodName)) hown (mvT hZ w_0) (mvT hZ w_1) (mvT hZ w_2) (mvT hZ w_3) (by decide) (backOf (W := 0) (own_rm1 l Z a0 hw [] p_3 (2 : Int32)  h0 n0 (by omega) ) hZ w_3 w_2 (by decide) (by decide)) (g := (mkF m 63 #[.val (.int p_1), .val (.int p_2), .val (.int p_3), .val (.int p_4), .val (.int v1), .val (.int r3), .val (.int r7), .val (.int r11), .val (.int v14), .val (.int r16), .val (.int r20), .val (.int r24), .val (.int v27), .unset, .unset, .unset, .unset, .unset, .unset, .unset, .unset, .unset, .unset, .unset, .unset, .unset] [(.int (2 : Int32)), (.int p_3)])) rfl (by rw [hml]; rfl) (argsL := [(.int p_3), (.int (2 : Int32))]) (rest := []) (lenOf own_pd3 rfl) rfl (by show 2 * 0 + _ ≤ _; exact Nat.le_of_eq rfl) (hb hby at_63) (fun _ _ => ⟨rfl, e23, (by show k23 + _ ≤ _; rw [y23]; decide), (by show n23 + _ ≤ _; rw [z23]; decide)⟩)
  dsimp only [Pt.U, Pt.locs, Pt.cells, Pt.slots] at X28 l28 y28 z28 st28 hQ28
  have y28 : k28 = 0 := own_addeq y28 (congrArg (fun q => q) y23) rfl
  have z28 : n28 = 0 := own_addeq z28 (congrArg (fun q => q) z23) rfl
  obtain ⟨r29, rfl, N28q, e28, f30, f31⟩ := hQ28
  have N28 : Fr n0 L28 := by rw [l28]; exact Fr.app N23 N28q
  refine own_go (fun _ k => st28 _ k) ?_
  show own_Go _ _ _ _ T28 (mkF m 66 #[.val (.int p_1), .val (.int p_2), .val (.int p_3), .val (.int p_4), .val (.int v1), .val (.int r3), .val (.int r7), .val (.int r11), .val (.int v14), .val (.int r16), .val (.int r20), .val (.int r24), .val (.int v27), .unset, .unset, .unset, .unset, .unset, .unset, .unset, .unset, .unset, .unset, .unset, .unset, .unset] [(.int r29)])
  refine own_go (fun _ k => XS.istore X28.here hx rfl (hb hby at_66) rfl (l' := #[.val (.int p_1), .val (.int p_2), .val (.int p_3), .val (.int p_4), .val (.int v1), .val (.int r3), .val (.int r7), .val (.int r11), .val (.int v14), .val (.int r16), .val (.int r20), .val (.int r24), .val (.int v27), .val (.int r29), .unset, .unset, .unset, .unset, .unset, .unset, .unset, .unset, .unset, .unset, .unset, .unset]) rfl k) ?_
  show own_Go _ _ _ _ T28 (mkF m 68 #[.val (.int p_1), .val (.int p_2), .val (.int p_3), .val (.int p_4), .val (.int v1), .val (.int r3), .val (.int r7), .val (.int r11), .val (.int v14), .val (.int r16), .val (.int r20), .val (.int r24), .val (.int v27), .val (.int r29), .unset, .unset, .unset, .unset, .unset, .unset, .unset, .unset, .unset, .unset, .unset, .unset] [])
  refine own_go (fun _ k => XS.iloadN X28.here hx rfl (hb hby at_68) rfl k) ?_
  show own_Go _ _ _ _ T28 (mkF m 69 #[.val (.int p_1), .val (.int p_2), .val (.int p_3), .val (.int p_4), .val (.int v1), .val (.int r3), .val (.int r7), .val (.int r11), .val (.int v14), .val (.int r16), .val (.int r20), .val (.int r24), .val (.int v27), .val (.int r29), .unset, .unset, .unset, .unset, .unset, .unset, .unset, .unset, .unset, .unset, .unset, .unset] [(.int p_3)])
  refine own_go (fun _ k => XS.bipush X28.here hx rfl (hb hby at_69) k) ?_
  show own_Go _ _ _ _ T28 (mkF m 71 #[.val (.int p_1), .val (.int p_2), .val (.int p_3), .val (.int p_4), .val (.int v1), .val (.int r3), .val (.int r7), .val (.int r11), .val (.int v14), .val (.int r16), .val (.int r20), .val (.int r24), .val (.int v27), .val (.int r29), .unset, .unset, .unset, .unset, .unset, .unset, .unset, .unset, .unset, .unset, .unset, .unset] [(.int (12 : Int32)), (.int p_3)])
  obtain ⟨_, _, ⟨T32, L32, k32, n32⟩, -, X32, ⟨Lc32, hQ32, l32, y32, z32⟩, st32⟩ := Jvm.LawKit.callS X28 hx (y := (⟨"com/example/kalchas/kalchas/propositional/HornClausesBodyPinLaw", "e", "(II)I"⟩ : MethodName)) hown (mvT hZ w_0) (mvT hZ w_1) (mvT hZ w_2) (mvT hZ w_3) (by decide) (backOf (W := 0) (own_rm1 l Z a0 hw [] p_3 (12 : Int32)  h0 n0 (by omega) ) hZ w_3 w_2 (by decide) (by decide)) (g := (mkF m 71 #[.val (.int p_1), .val (.int p_2), .val (.int p_3), .val (.int p_4), .val (.int v1), .val (.int r3), .val (.int r7), .val (.int r11), .val (.int v14), .val (.int r16), .val (.int r20), .val (.int r24), .val (.int v27), .val (.int r29), .unset, .unset, .unset, .unset, .unset, .unset, .unset, .unset, .unset, .unset, .unset, .unset] [(.int (12 : Int32)), (.int p_3)])) rfl (by rw [hml]; rfl) (argsL := [(.int p_3), (.int (12 : Int32))]) (rest := []) (lenOf own_pd3 rfl) rfl (by show 2 * 0 + _ ≤ _; exact Nat.le_of_eq rfl) (hb hby at_71) (fun _ _ => ⟨rfl, e28, (by show k28 + _ ≤ _; rw [y28]; decide), (by show n28 + _ ≤ _; rw [z28]; decide)⟩)
  dsimp only [Pt.U, Pt.locs, Pt.cells, Pt.slots] at X32 l32 y32 z32 st32 hQ32
  have y32 : k32 = 0 := own_addeq y32 (congrArg (fun q => q) y28) rfl
  have z32 : n32 = 0 := own_addeq z32 (congrArg (fun q => q) z28) rfl
  obtain ⟨r33, rfl, N32q, e32, f34, f35⟩ := hQ32
  have N32 : Fr n0 L32 := by rw [l32]; exact Fr.app N28 N32q
  refine own_go (fun _ k => st32 _ k) ?_
  show own_Go _ _ _ _ T32 (mkF m 74 #[.val (.int p_1), .val (.int p_2), .val (.int p_3), .val (.int p_4), .val (.int v1), .val (.int r3), .val (.int r7), .val (.int r11), .val (.int v14), .val (.int r16), .val (.int r20), .val (.int r24), .val (.int v27), .val (.int r29), .unset, .unset, .unset, .unset, .unset, .unset, .unset, .unset, .unset, .unset, .unset, .unset] [(.int r33)])
  refine own_go (fun _ k => XS.istore X32.here hx rfl (hb hby at_74) rfl (l' := #[.val (.int p_1), .val (.int p_2), .val (.int p_3), .val (.int p_4), .val (.int v1), .val (.int r3), .val (.int r7), .val (.int r11), .val (.int v14), .val (.int r16), .val (.int r20), .val (.int r24), .val (.int v27), .val (.int r29), .val (.int r33), .unset, .unset, .unset, .unset, .unset, .unset, .unset, .unset, .unset, .unset, .unset]) rfl k) ?_
  show own_Go _ _ _ _ T32 (mkF m 76 #[.val (.int p_1), .val (.int p_2), .val (.int p_3), .val (.int p_4), .val (.int v1), .val (.int r3), .val (.int r7), .val (.int r11), .val (.int v14), .val (.int r16), .val (.int r20), .val (.int r24), .val (.int v27), .val (.int r29), .val (.int r33), .unset, .unset, .unset, .unset, .unset, .unset, .unset, .unset, .unset, .unset, .unset] [])
  refine own_go (fun _ k => XS.iloadN X32.here hx rfl (hb hby at_76) rfl k) ?_
  show own_Go _ _ _ _ T32 (mkF m 77 #[.val (.int p_1), .val (.int p_2), .val (.int p_3), .val (.int p_4), .val (.int v1), .val (.int r3), .val (.int r7), .val (.int r11), .val (.int v14), .val (.int r16), .val (.int r20), .val (.int r24), .val (.int v27), .val (.int r29), .val (.int r33), .unset, .unset, .unset, .unset, .unset, .unset, .unset, .unset, .unset, .unset, .unset] [(.int p_3)])
  refine own_go (fun _ k => XS.bipush X32.here hx rfl (hb hby at_77) k) ?_
  show own_Go _ _ _ _ T32 (mkF m 79 #[.val (.int p_1), .val (.int p_2), .val (.int p_3), .val (.int p_4), .val (.int v1), .val (.int r3), .val (.int r7), .val (.int r11), .val (.int v14), .val (.int r16), .val (.int r20), .val (.int r24), .val (.int v27), .val (.int r29), .val (.int r33), .unset, .unset, .unset, .unset, .unset, .unset, .unset, .unset, .unset, .unset, .unset] [(.int (22 : Int32)), (.int p_3)])
  obtain ⟨_, _, ⟨T36, L36, k36, n36⟩, -, X36, ⟨Lc36, hQ36, l36, y36, z36⟩, st36⟩ := Jvm.LawKit.callS X32 hx (y := (⟨"com/example/kalchas/kalchas/propositional/HornClausesBodyPinLaw", "e", "(II)I"⟩ : MethodName)) hown (mvT hZ w_0) (mvT hZ w_1) (mvT hZ w_2) (mvT hZ w_3) (by decide) (backOf (W := 0) (own_rm1 l Z a0 hw [] p_3 (22 : Int32)  h0 n0 (by omega) ) hZ w_3 w_2 (by decide) (by decide)) (g := (mkF m 79 #[.val (.int p_1), .val (.int p_2), .val (.int p_3), .val (.int p_4), .val (.int v1), .val (.int r3), .val (.int r7), .val (.int r11), .val (.int v14), .val (.int r16), .val (.int r20), .val (.int r24), .val (.int v27), .val (.int r29), .val (.int r33), .unset, .unset, .unset, .unset, .unset, .unset, .unset, .unset, .unset, .unset, .unset] [(.int (22 : Int32)), (.int p_3)])) rfl (by rw [hml]; rfl) (argsL := [(.int p_3), (.int (22 : Int32))]) (rest := []) (lenOf own_pd3 rfl) rfl (by show 2 * 0 + _ ≤ _; exact Nat.le_of_eq rfl) (hb hby at_79) (fun _ _ => ⟨rfl, e32, (by show k32 + _ ≤ _; rw [y32]; decide), (by show n32 + _ ≤ _; rw [z32]; decide)⟩)
  dsimp only [Pt.U, Pt.locs, Pt.cells, Pt.slots] at X36 l36 y36 z36 st36 hQ36
  have y36 : k36 = 0 := own_addeq y36 (congrArg (fun q => q) y32) rfl
  have z36 : n36 = 0 := own_addeq z36 (congrArg (fun q => q) z32) rfl
  obtain ⟨r37, rfl, N36q, e36, f38, f39⟩ := hQ36
  have N36 : Fr n0 L36 := by rw [l36]; exact Fr.app N32 N36q
  refine own_go (fun _ k => st36 _ k) ?_
  show own_Go _ _ _ _ T36 (mkF m 82 #[.val (.int p_1), .val (.int p_2), .val (.int p_3), .val (.int p_4), .val (.int v1), .val (.int r3), .val (.int r7), .val (.int r11), .val (.int v14), .val (.int r16), .val (.int r20), .val (.int r24), .val (.int v27), .val (.int r29), .val (.int r33), .unset, .unset, .unset, .unset, .unset, .unset, .unset, .unset, .unset, .unset, .unset] [(.int r37)])
  refine own_go (fun _ k => XS.istore X36.here hx rfl (hb hby at_82) rfl (l' := #[.val (.int p_1), .val (.int p_2), .val (.int p_3), .val (.int p_4), .val (.int v1), .val (.int r3), .val (.int r7), .val (.int r11), .val (.int v14), .val (.int r16), .val (.int r20), .val (.int r24), .val (.int v27), .val (.int r29), .val (.int r33), .val (.int r37), .unset, .unset, .unset, .unset, .unset, .unset, .unset, .unset, .unset, .unset]) rfl k) ?_
  show own_Go _ _ _ _ T36 (mkF m 84 #[.val (.int p_1), .val (.int p_2), .val (.int p_3), .val (.int p_4), .val (.int v1), .val (.int r3), .val (.int r7), .val (.int r11), .val (.int v14), .val (.int r16), .val (.int r20), .val (.int r24), .val (.int v27), .val (.int r29), .val (.int r33), .val (.int r37), .unset, .unset, .unset, .unset, .unset, .unset, .unset, .unset, .unset, .unset] [])
  refine own_go (fun _ k => XS.iloadN X36.here hx rfl (hb hby at_84) rfl k) ?_
  show own_Go _ _ _ _ T36 (mkF m 85 #[.val (.int p_1), .val (.int p_2), .val (.int p_3), .val (.int p_4), .val (.int v1), .val (.int r3), .val (.int r7), .val (.int r11), .val (.int v14), .val (.int r16), .val (.int r20), .val (.int r24), .val (.int v27), .val (.int r29), .val (.int r33), .val (.int r37), .unset, .unset, .unset, .unset, .unset, .unset, .unset, .unset, .unset, .unset] [(.int p_4)])
  refine own_go (fun _ k => XS.iconst X36.here hx rfl (hb hby at_85) k) ?_
  show own_Go _ _ _ _ T36 (mkF m 86 #[.val (.int p_1), .val (.int p_2), .val (.int p_3), .val (.int p_4), .val (.int v1), .val (.int r3), .val (.int r7), .val (.int r11), .val (.int v14), .val (.int r16), .val (.int r20), .val (.int r24), .val (.int v27), .val (.int r29), .val (.int r33), .val (.int r37), .unset, .unset, .unset, .unset, .unset, .unset, .unset, .unset, .unset, .unset] [(.int (0 : Int32)), (.int p_4)])
  obtain ⟨_, _, ⟨T40, L40, k40, n40⟩, -, X40, ⟨Lc40, hQ40, l40, y40, z40⟩, st40⟩ := Jvm.LawKit.callS X36 hx (y := (⟨"com/example/kalchas/kalchas/propositional/HornClausesBodyPinLaw", "e", "(II)I"⟩ : MethodName)) hown (mvT hZ w_0) (mvT hZ w_1) (mvT hZ w_2) (mvT hZ w_3) (by decide) (backOf (W := 0) (own_rm1 l Z a0 hw [] p_4 (0 : Int32)  h0 n0 (by omega) ) hZ w_3 w_2 (by decide) (by decide)) (g := (mkF m 86 #[.val (.int p_1), .val (.int p_2), .val (.int p_3), .val (.int p_4), .val (.int v1), .val (.int r3), .val (.int r7), .val (.int r11), .val (.int v14), .val (.int r16), .val (.int r20), .val (.int r24), .val (.int v27), .val (.int r29), .val (.int r33), .val (.int r37), .unset, .unset, .unset, .unset, .unset, .unset, .unset, .unset, .unset, .unset] [(.int (0 : Int32)), (.int p_4)])) rfl (by rw [hml]; rfl) (argsL := [(.int p_4), (.int (0 : Int32))]) (rest := []) (lenOf own_pd3 rfl) rfl (by show 2 * 0 + _ ≤ _; exact Nat.le_of_eq rfl) (hb hby at_86) (fun _ _ => ⟨rfl, e36, (by show k36 + _ ≤ _; rw [y36]; decide), (by show n36 + _ ≤ _; rw [z36]; decide)⟩)
  dsimp only [Pt.U, Pt.locs, Pt.cells, Pt.slots] at X40 l40 y40 z40 st40 hQ40
  have y40 : k40 = 0 := own_addeq y40 (congrArg (fun q => q) y36) rfl
  have z40 : n40 = 0 := own_addeq z40 (congrArg (fun q => q) z36) rfl
  obtain ⟨r41, rfl, N40q, e40, f42, f43⟩ := hQ40
  have N40 : Fr n0 L40 := by rw [l40]; exact Fr.app N36 N40q
  refine own_go (fun _ k => st40 _ k) ?_
  show own_Go _ _ _ _ T40 (mkF m 89 #[.val (.int p_1), .val (.int p_2), .val (.int p_3), .val (.int p_4), .val (.int v1), .val (.int r3), .val (.int r7), .val (.int r11), .val (.int v14), .val (.int r16), .val (.int r20), .val (.int r24), .val (.int v27), .val (.int r29), .val (.int r33), .val (.int r37), .unset, .unset, .unset, .unset, .unset, .unset, .unset, .unset, .unset, .unset] [(.int r41)])
  refine own_go (fun _ k => XS.istore X40.here hx rfl (hb hby at_89) rfl (l' := #[.val (.int p_1), .val (.int p_2), .val (.int p_3), .val (.int p_4), .val (.int v1), .val (.int r3), .val (.int r7), .val (.int r11), .val (.int v14), .val (.int r16), .val (.int r20), .val (.int r24), .val (.int v27), .val (.int r29), .val (.int r33), .val (.int r37), .val (.int r41), .unset, .unset, .unset, .unset, .unset, .unset, .unset, .unset, .unset]) rfl k) ?_
  show own_Go _ _ _ _ T40 (mkF m 91 #[.val (.int p_1), .val (.int p_2), .val (.int p_3), .val (.int p_4), .val (.int v1), .val (.int r3), .val (.int r7), .val (.int r11), .val (.int v14), .val (.int r16), .val (.int r20), .val (.int r24), .val (.int v27), .val (.int r29), .val (.int r33), .val (.int r37), .val (.int r41), .unset, .unset, .unset, .unset, .unset, .unset, .unset, .unset, .unset] [])
  refine own_go (fun _ k => XS.iloadN X40.here hx rfl (hb hby at_91) rfl k) ?_
  show own_Go _ _ _ _ T40 (mkF m 92 #[.val (.int p_1), .val (.int p_2), .val (.int p_3), .val (.int p_4), .val (.int v1), .val (.int r3), .val (.int r7), .val (.int r11), .val (.int v14), .val (.int r16), .val (.int r20), .val (.int r24), .val (.int v27), .val (.int r29), .val (.int r33), .val (.int r37), .val (.int r41), .unset, .unset, .unset, .unset, .unset, .unset, .unset, .unset, .unset] [(.int p_4)])
  refine own_go (fun _ k => XS.bipush X40.here hx rfl (hb hby at_92) k) ?_
  show own_Go _ _ _ _ T40 (mkF m 94 #[.val (.int p_1), .val (.int p_2), .val (.int p_3), .val (.int p_4), .val (.int v1), .val (.int r3), .val (.int r7), .val (.int r11), .val (.int v14), .val (.int r16), .val (.int r20), .val (.int r24), .val (.int v27), .val (.int r29), .val (.int r33), .val (.int r37), .val (.int r41), .unset, .unset, .unset, .unset, .unset, .unset, .unset, .unset, .unset] [(.int (10 : Int32)), (.int p_4)])
  obtain ⟨_, _, ⟨T44, L44, k44, n44⟩, -, X44, ⟨Lc44, hQ44, l44, y44, z44⟩, st44⟩ := Jvm.LawKit.callS X40 hx (y := (⟨"com/example/kalchas/kalchas/propositional/HornClausesBodyPinLaw", "e", "(II)I"⟩ : MethodName)) hown (mvT hZ w_0) (mvT hZ w_1) (mvT hZ w_2) (mvT hZ w_3) (by decide) (backOf (W := 0) (own_rm1 l Z a0 hw [] p_4 (10 : Int32)  h0 n0 (by omega) ) hZ w_3 w_2 (by decide) (by decide)) (g := (mkF m 94 #[.val (.int p_1), .val (.int p_2), .val (.int p_3), .val (.int p_4), .val (.int v1), .val (.int r3), .val (.int r7), .val (.int r11), .val (.int v14), .val (.int r16), .val (.int r20), .val (.int r24), .val (.int v27), .val (.int r29), .val (.int r33), .val (.int r37), .val (.int r41), .unset, .unset, .unset, .unset, .unset, .unset, .unset, .unset, .unset] [(.int (10 : Int32)), (.int p_4)])) rfl (by rw [hml]; rfl) (argsL := [(.int p_4), (.int (10 : Int32))]) (rest := []) (lenOf own_pd3 rfl) rfl (by show 2 * 0 + _ ≤ _; exact Nat.le_of_eq rfl) (hb hby at_94) (fun _ _ => ⟨rfl, e40, (by show k40 + _ ≤ _; rw [y40]; decide), (by show n40 + _ ≤ _; rw [z40]; decide)⟩)
  dsimp only [Pt.U, Pt.locs, Pt.cells, Pt.slots] at X44 l44 y44 z44 st44 hQ44
  have y44 : k44 = 0 := own_addeq y44 (congrArg (fun q => q) y40) rfl
  have z44 : n44 = 0 := own_addeq z44 (congrArg (fun q => q) z40) rfl
  obtain ⟨r45, rfl, N44q, e44, f46, f47⟩ := hQ44
  have N44 : Fr n0 L44 := by rw [l44]; exact Fr.app N40 N44q
  refine own_go (fun _ k => st44 _ k) ?_
  show own_Go _ _ _ _ T44 (mkF m 97 #[.val (.int p_1), .val (.int p_2), .val (.int p_3), .val (.int p_4), .val (.int v1), .val (.int r3), .val (.int r7), .val (.int r11), .val (.int v14), .val (.int r16), .val (.int r20), .val (.int r24), .val (.int v27), .val (.int r29), .val (.int r33), .val (.int r37), .val (.int r41), .unset, .unset, .unset, .unset, .unset, .unset, .unset, .unset, .unset] [(.int r45)])
  refine own_go (fun _ k => XS.istore X44.here hx rfl (hb hby at_97) rfl (l' := #[.val (.int p_1), .val (.int p_2), .val (.int p_3), .val (.int p_4), .val (.int v1), .val (.int r3), .val (.int r7), .val (.int r11), .val (.int v14), .val (.int r16), .val (.int r20), .val (.int r24), .val (.int v27), .val (.int r29), .val (.int r33), .val (.int r37), .val (.int r41), .val (.int r45), .unset, .unset, .unset, .unset, .unset, .unset, .unset, .unset]) rfl k) ?_
  show own_Go _ _ _ _ T44 (mkF m 99 #[.val (.int p_1), .val (.int p_2), .val (.int p_3), .val (.int p_4), .val (.int v1), .val (.int r3), .val (.int r7), .val (.int r11), .val (.int v14), .val (.int r16), .val (.int r20), .val (.int r24), .val (.int v27), .val (.int r29), .val (.int r33), .val (.int r37), .val (.int r41), .val (.int r45), .unset, .unset, .unset, .unset, .unset, .unset, .unset, .unset] [])
  refine own_go (fun _ k => XS.iloadN X44.here hx rfl (hb hby at_99) rfl k) ?_
  show own_Go _ _ _ _ T44 (mkF m 100 #[.val (.int p_1), .val (.int p_2), .val (.int p_3), .val (.int p_4), .val (.int v1), .val (.int r3), .val (.int r7), .val (.int r11), .val (.int v14), .val (.int r16), .val (.int r20), .val (.int r24), .val (.int v27), .val (.int r29), .val (.int r33), .val (.int r37), .val (.int r41), .val (.int r45), .unset, .unset, .unset, .unset, .unset, .unset, .unset, .unset] [(.int p_4)])
  refine own_go (fun _ k => XS.bipush X44.here hx rfl (hb hby at_100) k) ?_
  show own_Go _ _ _ _ T44 (mkF m 102 #[.val (.int p_1), .val (.int p_2), .val (.int p_3), .val (.int p_4), .val (.int v1), .val (.int r3), .val (.int r7), .val (.int r11), .val (.int v14), .val (.int r16), .val (.int r20), .val (.int r24), .val (.int v27), .val (.int r29), .val (.int r33), .val (.int r37), .val (.int r41), .val (.int r45), .unset, .unset, .unset, .unset, .unset, .unset, .unset, .unset] [(.int (20 : Int32)), (.int p_4)])
  obtain ⟨_, _, ⟨T48, L48, k48, n48⟩, -, X48, ⟨Lc48, hQ48, l48, y48, z48⟩, st48⟩ := Jvm.LawKit.callS X44 hx (y := (⟨"com/example/kalchas/kalchas/propositional/HornClausesBodyPinLaw", "e", "(II)I"⟩ : MethodName)) hown (mvT hZ w_0) (mvT hZ w_1) (mvT hZ w_2) (mvT hZ w_3) (by decide) (backOf (W := 0) (own_rm1 l Z a0 hw [] p_4 (20 : Int32)  h0 n0 (by omega) ) hZ w_3 w_2 (by decide) (by decide)) (g := (mkF m 102 #[.val (.int p_1), .val (.int p_2), .val (.int p_3), .val (.int p_4), .val (.int v1), .val (.int r3), .val (.int r7), .val (.int r11), .val (.int v14), .val (.int r16), .val (.int r20), .val (.int r24), .val (.int v27), .val (.int r29), .val (.int r33), .val (.int r37), .val (.int r41), .val (.int r45), .unset, .unset, .unset, .unset, .unset, .unset, .unset, .unset] [(.int (20 : Int32)), (.int p_4)])) rfl (by rw [hml]; rfl) (argsL := [(.int p_4), (.int (20 : Int32))]) (rest := []) (lenOf own_pd3 rfl) rfl (by show 2 * 0 + _ ≤ _; exact Nat.le_of_eq rfl) (hb hby at_102) (fun _ _ => ⟨rfl, e44, (by show k44 + _ ≤ _; rw [y44]; decide), (by show n44 + _ ≤ _; rw [z44]; decide)⟩)
  dsimp only [Pt.U, Pt.locs, Pt.cells, Pt.slots] at X48 l48 y48 z48 st48 hQ48
  have y48 : k48 = 0 := own_addeq y48 (congrArg (fun q => q) y44) rfl
  have z48 : n48 = 0 := own_addeq z48 (congrArg (fun q => q) z44) rfl
  obtain ⟨r49, rfl, N48q, e48, f50, f51⟩ := hQ48
  have N48 : Fr n0 L48 := by rw [l48]; exact Fr.app N44 N48q
  refine own_go (fun _ k => st48 _ k) ?_
  show own_Go _ _ _ _ T48 (mkF m 105 #[.val (.int p_1), .val (.int p_2), .val (.int p_3), .val (.int p_4), .val (.int v1), .val (.int r3), .val (.int r7), .val (.int r11), .val (.int v14), .val (.int r16), .val (.int r20), .val (.int r24), .val (.int v27), .val (.int r29), .val (.int r33), .val (.int r37), .val (.int r41), .val (.int r45), .unset, .unset, .unset, .unset, .unset, .unset, .unset, .unset] [(.int r49)])
  refine own_go (fun _ k => XS.istore X48.here hx rfl (hb hby at_105) rfl (l' := #[.val (.int p_1), .val (.int p_2), .val (.int p_3), .val (.int p_4), .val (.int v1), .val (.int r3), .val (.int r7), .val (.int r11), .val (.int v14), .val (.int r16), .val (.int r20), .val (.int r24), .val (.int v27), .val (.int r29), .val (.int r33), .val (.int r37), .val (.int r41), .val (.int r45), .val (.int r49), .unset, .unset, .unset, .unset, .unset, .unset, .unset]) rfl k) ?_
  show own_Go _ _ _ _ T48 (mkF m 107 #[.val (.int p_1), .val (.int p_2), .val (.int p_3), .val (.int p_4), .val (.int v1), .val (.int r3), .val (.int r7), .val (.int r11), .val (.int v14), .val (.int r16), .val (.int r20), .val (.int r24), .val (.int v27), .val (.int r29), .val (.int r33), .val (.int r37), .val (.int r41), .val (.int r45), .val (.int r49), .unset, .unset, .unset, .unset, .unset, .unset, .unset] [])
  refine own_go (fun _ k => XS.iload X48.here hx rfl (hb hby at_107) rfl k) ?_
  show own_Go _ _ _ _ T48 (mkF m 109 #[.val (.int p_1), .val (.int p_2), .val (.int p_3), .val (.int p_4), .val (.int v1), .val (.int r3), .val (.int r7), .val (.int r11), .val (.int v14), .val (.int r16), .val (.int r20), .val (.int r24), .val (.int v27), .val (.int r29), .val (.int r33), .val (.int r37), .val (.int r41), .val (.int r45), .val (.int r49), .unset, .unset, .unset, .unset, .unset, .unset, .unset] [(.int v1)])
  refine own_go (fun _ k => XS.iload X48.here hx rfl (hb hby at_109) rfl k) ?_
  show own_Go _ _ _ _ T48 (mkF m 111 #[.val (.int p_1), .val (.int p_2), .val (.int p_3), .val (.int p_4), .val (.int v1), .val (.int r3), .val (.int r7), .val (.int r11), .val (.int v14), .val (.int r16), .val (.int r20), .val (.int r24), .val (.int v27), .val (.int r29), .val (.int r33), .val (.int r37), .val (.int r41), .val (.int r45), .val (.int r49), .unset, .unset, .unset, .unset, .unset, .unset, .unset] [(.int r3), (.int v1)])
  refine own_go (fun _ k => XS.iload X48.here hx rfl (hb hby at_111) rfl k) ?_
  show own_Go _ _ _ _ T48 (mkF m 113 #[.val (.int p_1), .val (.int p_2), .val (.int p_3), .val (.int p_4), .val (.int v1), .val (.int r3), .val (.int r7), .val (.int r11), .val (.int v14), .val (.int r16), .val (.int r20), .val (.int r24), .val (.int v27), .val (.int r29), .val (.int r33), .val (.int r37), .val (.int r41), .val (.int r45), .val (.int r49), .unset, .unset, .unset, .unset, .unset, .unset, .unset] [(.int r7), (.int r3), (.int v1)])
  refine own_go (fun _ k => XS.iload X48.here hx rfl (hb hby at_113) rfl k) ?_
  show own_Go _ _ _ _ T48 (mkF m 115 #[.val (.int p_1), .val (.int p_2), .val (.int p_3), .val (.int p_4), .val (.int v1), .val (.int r3), .val (.int r7), .val (.int r11), .val (.int v14), .val (.int r16), .val (.int r20), .val (.int r24), .val (.int v27), .val (.int r29), .val (.int r33), .val (.int r37), .val (.int r41), .val (.int r45), .val (.int r49), .unset, .unset, .unset, .unset, .unset, .unset, .unset] [(.int r11), (.int r7), (.int r3), (.int v1)])
  obtain ⟨_, _, ⟨T52, L52, k52, n52⟩, -, X52, ⟨Lc52, hQ52, l52, y52, z52⟩, st52⟩ := Jvm.LawKit.callS X48 hx (y := (⟨"com/example/kalchas/kalchas/propositional/HornClausesBodyPinLaw", "mk", "(IIII)[I"⟩ : MethodName)) hown (mvT hZ w_4) (mvT hZ w_5) (mvT hZ w_2) (mvT hZ w_6) (by decide) (backOf (W := 0) (own_rm2 l Z a0 hw [] v1 r3 r7 r11  h0 n0 (by omega) (show v1 = (0 : Int32) ∨ v1 = (1 : Int32) ∨ v1 = (2 : Int32) ∨ v1 = (3 : Int32) by first | assumption | omega | decide)) hZ w_6 w_2 (by decide) (by decide)) (g := (mkF m 115 #[.val (.int p_1), .val (.int p_2), .val (.int p_3), .val (.int p_4), .val (.int v1), .val (.int r3), .val (.int r7), .val (.int r11), .val (.int v14), .val (.int r16), .val (.int r20), .val (.int r24), .val (.int v27), .val (.int r29), .val (.int r33), .val (.int r37), .val (.int r41), .val (.int r45), .val (.int r49), .unset, .unset, .unset, .unset, .unset, .unset, .unset] [(.int r11), (.int r7), (.int r3), (.int v1)])) rfl (by rw [hml]; rfl) (argsL := [(.int v1), (.int r3), (.int r7), (.int r11)]) (rest := []) (lenOf own_pd5 rfl) rfl (by show 2 * 0 + _ ≤ _; exact Nat.le_of_eq rfl) (hb hby at_115) (fun _ _ => ⟨rfl, e48, (by show k48 + _ ≤ _; rw [y48]; decide), (by show n48 + _ ≤ _; rw [z48]; decide)⟩)
  dsimp only [Pt.U, Pt.locs, Pt.cells, Pt.slots] at X52 l52 y52 z52 st52 hQ52
  have y52 : k52 = 1 := own_addeq y52 (congrArg (fun q => q) y48) rfl
  have z52 : n52 = 3 := own_addeq z52 (congrArg (fun q => q) z48) rfl
  obtain ⟨x53, rfl, N52q, K52q, f54, f55⟩ := hQ52
  have N52 : Fr n0 L52 := by rw [l52]; exact Fr.app N48 N52q
  have z56 := K52q.1
  have z57 := own_lt f54.lt
  refine own_go (fun _ k => st52 _ k) ?_
  show own_Go _ _ _ _ T52 (mkF m 118 #[.val (.int p_1), .val (.int p_2), .val (.int p_3), .val (.int p_4), .val (.int v1), .val (.int r3), .val (.int r7), .val (.int r11), .val (.int v14), .val (.int r16), .val (.int r20), .val (.int r24), .val (.int v27), .val (.int r29), .val (.int r33), .val (.int r37), .val (.int r41), .val (.int r45), .val (.int r49), .unset, .unset, .unset, .unset, .unset, .unset, .unset] [(.ref x53)])
  refine own_go (fun _ k => XS.astore X52.here hx rfl (hb hby at_118) rfl rfl (l' := #[.val (.int p_1), .val (.int p_2), .val (.int p_3), .val (.int p_4), .val (.int v1), .val (.int r3), .val (.int r7), .val (.int r11), .val (.int v14), .val (.int r16), .val (.int r20), .val (.int r24), .val (.int v27), .val (.int r29), .val (.int r33), .val (.int r37), .val (.int r41), .val (.int r45), .val (.int r49), .val (.ref x53), .unset, .unset, .unset, .unset, .unset, .unset]) rfl k) ?_
  show own_Go _ _ _ _ T52 (mkF m 120 #[.val (.int p_1), .val (.int p_2), .val (.int p_3), .val (.int p_4), .val (.int v1), .val (.int r3), .val (.int r7), .val (.int r11), .val (.int v14), .val (.int r16), .val (.int r20), .val (.int r24), .val (.int v27), .val (.int r29), .val (.int r33), .val (.int r37), .val (.int r41), .val (.int r45), .val (.int r49), .val (.ref x53), .unset, .unset, .unset, .unset, .unset, .unset] [])
  refine own_go (fun _ k => XS.iload X52.here hx rfl (hb hby at_120) rfl k) ?_
  show own_Go _ _ _ _ T52 (mkF m 122 #[.val (.int p_1), .val (.int p_2), .val (.int p_3), .val (.int p_4), .val (.int v1), .val (.int r3), .val (.int r7), .val (.int r11), .val (.int v14), .val (.int r16), .val (.int r20), .val (.int r24), .val (.int v27), .val (.int r29), .val (.int r33), .val (.int r37), .val (.int r41), .val (.int r45), .val (.int r49), .val (.ref x53), .unset, .unset, .unset, .unset, .unset, .unset] [(.int v14)])
  refine own_go (fun _ k => XS.iload X52.here hx rfl (hb hby at_122) rfl k) ?_
  show own_Go _ _ _ _ T52 (mkF m 124 #[.val (.int p_1), .val (.int p_2), .val (.int p_3), .val (.int p_4), .val (.int v1), .val (.int r3), .val (.int r7), .val (.int r11), .val (.int v14), .val (.int r16), .val (.int r20), .val (.int r24), .val (.int v27), .val (.int r29), .val (.int r33), .val (.int r37), .val (.int r41), .val (.int r45), .val (.int r49), .val (.ref x53), .unset, .unset, .unset, .unset, .unset, .unset] [(.int r16), (.int v14)])
  refine own_go (fun _ k => XS.iload X52.here hx rfl (hb hby at_124) rfl k) ?_
  show own_Go _ _ _ _ T52 (mkF m 126 #[.val (.int p_1), .val (.int p_2), .val (.int p_3), .val (.int p_4), .val (.int v1), .val (.int r3), .val (.int r7), .val (.int r11), .val (.int v14), .val (.int r16), .val (.int r20), .val (.int r24), .val (.int v27), .val (.int r29), .val (.int r33), .val (.int r37), .val (.int r41), .val (.int r45), .val (.int r49), .val (.ref x53), .unset, .unset, .unset, .unset, .unset, .unset] [(.int r20), (.int r16), (.int v14)])
  refine own_go (fun _ k => XS.iload X52.here hx rfl (hb hby at_126) rfl k) ?_
  show own_Go _ _ _ _ T52 (mkF m 128 #[.val (.int p_1), .val (.int p_2), .val (.int p_3), .val (.int p_4), .val (.int v1), .val (.int r3), .val (.int r7), .val (.int r11), .val (.int v14), .val (.int r16), .val (.int r20), .val (.int r24), .val (.int v27), .val (.int r29), .val (.int r33), .val (.int r37), .val (.int r41), .val (.int r45), .val (.int r49), .val (.ref x53), .unset, .unset, .unset, .unset, .unset, .unset] [(.int r24), (.int r20), (.int r16), (.int v14)])
  obtain ⟨_, _, ⟨T58, L58, k58, n58⟩, -, X58, ⟨Lc58, hQ58, l58, y58, z58⟩, st58⟩ := Jvm.LawKit.callS X52 hx (y := (⟨"com/example/kalchas/kalchas/propositional/HornClausesBodyPinLaw", "mk", "(IIII)[I"⟩ : MethodName)) hown (mvT hZ w_4) (mvT hZ w_5) (mvT hZ w_2) (mvT hZ w_6) (by decide) (backOf (W := 0) (own_rm2 l Z a0 hw [] v14 r16 r20 r24  T52.heap n0 (by omega) (show v14 = (0 : Int32) ∨ v14 = (1 : Int32) ∨ v14 = (2 : Int32) ∨ v14 = (3 : Int32) by first | assumption | omega | decide)) hZ w_6 w_2 (by decide) (by decide)) (g := (mkF m 128 #[.val (.int p_1), .val (.int p_2), .val (.int p_3), .val (.int p_4), .val (.int v1), .val (.int r3), .val (.int r7), .val (.int r11), .val (.int v14), .val (.int r16), .val (.int r20), .val (.int r24), .val (.int v27), .val (.int r29), .val (.int r33), .val (.int r37), .val (.int r41), .val (.int r45), .val (.int r49), .val (.ref x53), .unset, .unset, .unset, .unset, .unset, .unset] [(.int r24), (.int r20), (.int r16), (.int v14)])) rfl (by rw [hml]; rfl) (argsL := [(.int v14), (.int r16), (.int r20), (.int r24)]) (rest := []) (lenOf own_pd5 rfl) rfl (by show 2 * 0 + _ ≤ _; exact Nat.le_of_eq rfl) (hb hby at_128) (fun _ _ => ⟨rfl, rfl, (by show k52 + _ ≤ _; rw [y52]; decide), (by show n52 + _ ≤ _; rw [z52]; decide)⟩)
  dsimp only [Pt.U, Pt.locs, Pt.cells, Pt.slots] at X58 l58 y58 z58 st58 hQ58
  have y58 : k58 = 2 := own_addeq y58 (congrArg (fun q => q) y52) rfl
  have z58 : n58 = 6 := own_addeq z58 (congrArg (fun q => q) z52) rfl
  obtain ⟨x59, rfl, N58q, K58q, f60, f61⟩ := hQ58
  have N58 : Fr n0 L58 := by rw [l58]; exact Fr.app N52 N58q
  have z62 := K58q.1
  have z63 := own_lt f60.lt
  refine own_go (fun _ k => st58 _ k) ?_
  show own_Go _ _ _ _ T58 (mkF m 131 #[.val (.int p_1), .val (.int p_2), .val (.int p_3), .val (.int p_4), .val (.int v1), .val (.int r3), .val (.int r7), .val (.int r11), .val (.int v14), .val (.int r16), .val (.int r20), .val (.int r24), .val (.int v27), .val (.int r29), .val (.int r33), .val (.int r37), .val (.int r41), .val (.int r45), .val (.int r49), .val (.ref x53), .unset, .unset, .unset, .unset, .unset, .unset] [(.ref x59)])
  refine own_go (fun _ k => XS.astore X58.here hx rfl (hb hby at_131) rfl rfl (l' := #[.val (.int p_1), .val (.int p_2), .val (.int p_3), .val (.int p_4), .val (.int v1), .val (.int r3), .val (.int r7), .val (.int r11), .val (.int v14), .val (.int r16), .val (.int r20), .val (.int r24), .val (.int v27), .val (.int r29), .val (.int r33), .val (.int r37), .val (.int r41), .val (.int r45), .val (.int r49), .val (.ref x53), .val (.ref x59), .unset, .unset, .unset, .unset, .unset]) rfl k) ?_
  show own_Go _ _ _ _ T58 (mkF m 133 #[.val (.int p_1), .val (.int p_2), .val (.int p_3), .val (.int p_4), .val (.int v1), .val (.int r3), .val (.int r7), .val (.int r11), .val (.int v14), .val (.int r16), .val (.int r20), .val (.int r24), .val (.int v27), .val (.int r29), .val (.int r33), .val (.int r37), .val (.int r41), .val (.int r45), .val (.int r49), .val (.ref x53), .val (.ref x59), .unset, .unset, .unset, .unset, .unset] [])
  refine own_go (fun _ k => XS.iload X58.here hx rfl (hb hby at_133) rfl k) ?_
  show own_Go _ _ _ _ T58 (mkF m 135 #[.val (.int p_1), .val (.int p_2), .val (.int p_3), .val (.int p_4), .val (.int v1), .val (.int r3), .val (.int r7), .val (.int r11), .val (.int v14), .val (.int r16), .val (.int r20), .val (.int r24), .val (.int v27), .val (.int r29), .val (.int r33), .val (.int r37), .val (.int r41), .val (.int r45), .val (.int r49), .val (.ref x53), .val (.ref x59), .unset, .unset, .unset, .unset, .unset] [(.int v27)])
  refine own_go (fun _ k => XS.iload X58.here hx rfl (hb hby at_135) rfl k) ?_
  show own_Go _ _ _ _ T58 (mkF m 137 #[.val (.int p_1), .val (.int p_2), .val (.int p_3), .val (.int p_4), .val (.int v1), .val (.int r3), .val (.int r7), .val (.int r11), .val (.int v14), .val (.int r16), .val (.int r20), .val (.int r24), .val (.int v27), .val (.int r29), .val (.int r33), .val (.int r37), .val (.int r41), .val (.int r45), .val (.int r49), .val (.ref x53), .val (.ref x59), .unset, .unset, .unset, .unset, .unset] [(.int r29), (.int v27)])
  refine own_go (fun _ k => XS.iload X58.here hx rfl (hb hby at_137) rfl k) ?_
  show own_Go _ _ _ _ T58 (mkF m 139 #[.val (.int p_1), .val (.int p_2), .val (.int p_3), .val (.int p_4), .val (.int v1), .val (.int r3), .val (.int r7), .val (.int r11), .val (.int v14), .val (.int r16), .val (.int r20), .val (.int r24), .val (.int v27), .val (.int r29), .val (.int r33), .val (.int r37), .val (.int r41), .val (.int r45), .val (.int r49), .val (.ref x53), .val (.ref x59), .unset, .unset, .unset, .unset, .unset] [(.int r33), (.int r29), (.int v27)])
  refine own_go (fun _ k => XS.iload X58.here hx rfl (hb hby at_139) rfl k) ?_
  show own_Go _ _ _ _ T58 (mkF m 141 #[.val (.int p_1), .val (.int p_2), .val (.int p_3), .val (.int p_4), .val (.int v1), .val (.int r3), .val (.int r7), .val (.int r11), .val (.int v14), .val (.int r16), .val (.int r20), .val (.int r24), .val (.int v27), .val (.int r29), .val (.int r33), .val (.int r37), .val (.int r41), .val (.int r45), .val (.int r49), .val (.ref x53), .val (.ref x59), .unset, .unset, .unset, .unset, .unset] [(.int r37), (.int r33), (.int r29), (.int v27)])
  obtain ⟨_, _, ⟨T64, L64, k64, n64⟩, -, X64, ⟨Lc64, hQ64, l64, y64, z64⟩, st64⟩ := Jvm.LawKit.callS X58 hx (y := (⟨"com/example/kalchas/kalchas/propositional/HornClausesBodyPinLaw", "mk", "(IIII)[I"⟩ : MethodName)) hown (mvT hZ w_4) (mvT hZ w_5) (mvT hZ w_2) (mvT hZ w_6) (by decide) (backOf (W := 0) (own_rm2 l Z a0 hw [] v27 r29 r33 r37  T58.heap n0 (by omega) (show v27 = (0 : Int32) ∨ v27 = (1 : Int32) ∨ v27 = (2 : Int32) ∨ v27 = (3 : Int32) by first | assumption | omega | decide)) hZ w_6 w_2 (by decide) (by decide)) (g := (mkF m 141 #[.val (.int p_1), .val (.int p_2), .val (.int p_3), .val (.int p_4), .val (.int v1), .val (.int r3), .val (.int r7), .val (.int r11), .val (.int v14), .val (.int r16), .val (.int r20), .val (.int r24), .val (.int v27), .val (.int r29), .val (.int r33), .val (.int r37), .val (.int r41), .val (.int r45), .val (.int r49), .val (.ref x53), .val (.ref x59), .unset, .unset, .unset, .unset, .unset] [(.int r37), (.int r33), (.int r29), (.int v27)])) rfl (by rw [hml]; rfl) (argsL := [(.int v27), (.int r29), (.int r33), (.int r37)]) (rest := []) (lenOf own_pd5 rfl) rfl (by show 2 * 0 + _ ≤ _; exact Nat.le_of_eq rfl) (hb hby at_141) (fun _ _ => ⟨rfl, rfl, (by show k58 + _ ≤ _; rw [y58]; decide), (by show n58 + _ ≤ _; rw [z58]; decide)⟩)
  dsimp only [Pt.U, Pt.locs, Pt.cells, Pt.slots] at X64 l64 y64 z64 st64 hQ64
  have y64 : k64 = 3 := own_addeq y64 (congrArg (fun q => q) y58) rfl
  have z64 : n64 = 9 := own_addeq z64 (congrArg (fun q => q) z58) rfl
  obtain ⟨x65, rfl, N64q, K64q, f66, f67⟩ := hQ64
  have N64 : Fr n0 L64 := by rw [l64]; exact Fr.app N58 N64q
  have z68 := K64q.1
  have z69 := own_lt f66.lt
  refine own_go (fun _ k => st64 _ k) ?_
  show own_Go _ _ _ _ T64 (mkF m 144 #[.val (.int p_1), .val (.int p_2), .val (.int p_3), .val (.int p_4), .val (.int v1), .val (.int r3), .val (.int r7), .val (.int r11), .val (.int v14), .val (.int r16), .val (.int r20), .val (.int r24), .val (.int v27), .val (.int r29), .val (.int r33), .val (.int r37), .val (.int r41), .val (.int r45), .val (.int r49), .val (.ref x53), .val (.ref x59), .unset, .unset, .unset, .unset, .unset] [(.ref x65)])
  refine own_go (fun _ k => XS.astore X64.here hx rfl (hb hby at_144) rfl rfl (l' := #[.val (.int p_1), .val (.int p_2), .val (.int p_3), .val (.int p_4), .val (.int v1), .val (.int r3), .val (.int r7), .val (.int r11), .val (.int v14), .val (.int r16), .val (.int r20), .val (.int r24), .val (.int v27), .val (.int r29), .val (.int r33), .val (.int r37), .val (.int r41), .val (.int r45), .val (.int r49), .val (.ref x53), .val (.ref x59), .val (.ref x65), .unset, .unset, .unset, .unset]) rfl k) ?_
  show own_Go _ _ _ _ T64 (mkF m 146 #[.val (.int p_1), .val (.int p_2), .val (.int p_3), .val (.int p_4), .val (.int v1), .val (.int r3), .val (.int r7), .val (.int r11), .val (.int v14), .val (.int r16), .val (.int r20), .val (.int r24), .val (.int v27), .val (.int r29), .val (.int r33), .val (.int r37), .val (.int r41), .val (.int r45), .val (.int r49), .val (.ref x53), .val (.ref x59), .val (.ref x65), .unset, .unset, .unset, .unset] [])
  obtain ⟨T70, h70, X70, e70, E70, A70, D70, Y70, st70⟩ := newO X64 hx hZ hown (hw _ (List.mem_of_getElem? (i := 8) rfl)) (hw _ (List.mem_of_getElem? (i := 9) rfl)) w_10 rfl (g := (mkF m 146 #[.val (.int p_1), .val (.int p_2), .val (.int p_3), .val (.int p_4), .val (.int v1), .val (.int r3), .val (.int r7), .val (.int r11), .val (.int v14), .val (.int r16), .val (.int r20), .val (.int r24), .val (.int v27), .val (.int r29), .val (.int r33), .val (.int r37), .val (.int r41), .val (.int r45), .val (.int r49), .val (.ref x53), .val (.ref x59), .val (.ref x65), .unset, .unset, .unset, .unset] [])) rfl (hb hby at_146) (by rw [y64]; decide) (by rw [z64]; decide)
  obtain ⟨b70, g70⟩ : ∃ z, z = T64.heap.size := ⟨_, rfl⟩
  rw [← g70] at A70 D70 Y70 st70
  have z71 := E70.1
  have lt_b70 := own_lt A70.lt
  have F_heads_b70 : Fld Z h70 b70 "com/example/kalchas/kalchas/propositional/HornClauses" "heads" "[I" .null := D70 (Or.inl (hw _ (List.mem_of_getElem? (i := 18) rfl))) (ty := (.array .int)) (by decide)
  have F_bodyStarts_b70 : Fld Z h70 b70 "com/example/kalchas/kalchas/propositional/HornClauses" "bodyStarts" "[I" .null := D70 (Or.inl (hw _ (List.mem_of_getElem? (i := 20) rfl))) (ty := (.array .int)) (by decide)
  have F_bodies_b70 : Fld Z h70 b70 "com/example/kalchas/kalchas/propositional/HornClauses" "bodies" "[I" .null := D70 (Or.inl (hw _ (List.mem_of_getElem? (i := 22) rfl))) (ty := (.array .int)) (by decide)
  have F_occurrences_b70 : Fld Z h70 b70 "com/example/kalchas/kalchas/propositional/HornClauses" "occurrences" "[I" .null := D70 (Or.inl (hw _ (List.mem_of_getElem? (i := 29) rfl))) (ty := (.array .int)) (by decide)
  have F_variableCount_b70 : Fld Z h70 b70 "com/example/kalchas/kalchas/propositional/HornClauses" "variableCount" "I" (.int (0 : Int32)) := D70 (Or.inl (hw _ (List.mem_of_getElem? (i := 31) rfl))) (ty := .int) (by decide)
  have F_clauseCount_b70 : Fld Z h70 b70 "com/example/kalchas/kalchas/propositional/HornClauses" "clauseCount" "I" (.int (0 : Int32)) := D70 (Or.inl (hw _ (List.mem_of_getElem? (i := 54) rfl))) (ty := .int) (by decide)
  refine own_go (fun _ k => st70 _ k) ?_
  show own_Go _ _ _ _ T70 (mkF m 149 #[.val (.int p_1), .val (.int p_2), .val (.int p_3), .val (.int p_4), .val (.int v1), .val (.int r3), .val (.int r7), .val (.int r11), .val (.int v14), .val (.int r16), .val (.int r20), .val (.int r24), .val (.int v27), .val (.int r29), .val (.int r33), .val (.int r37), .val (.int r41), .val (.int r45), .val (.int r49), .val (.ref x53), .val (.ref x59), .val (.ref x65), .unset, .unset, .unset, .unset] [(.ref b70)])
  refine own_go (fun _ k => XS.dup X70.here hx rfl (hb hby at_149) rfl rfl k) ?_
  show own_Go _ _ _ _ T70 (mkF m 150 #[.val (.int p_1), .val (.int p_2), .val (.int p_3), .val (.int p_4), .val (.int v1), .val (.int r3), .val (.int r7), .val (.int r11), .val (.int v14), .val (.int r16), .val (.int r20), .val (.int r24), .val (.int v27), .val (.int r29), .val (.int r33), .val (.int r37), .val (.int r41), .val (.int r45), .val (.int r49), .val (.ref x53), .val (.ref x59), .val (.ref x65), .unset, .unset, .unset, .unset] [(.ref b70), (.ref b70)])
  obtain ⟨_, _, ⟨T72, L72, k72, n72⟩, -, X72, ⟨Lc72, hQ72, l72, y72, z72⟩, st72⟩ := X70.specialBack hx (y := (⟨"com/example/kalchas/kalchas/propositional/HornClauses", "<init>", "()V"⟩ : MethodName)) rfl hown (mvT hZ (hw _ (List.mem_of_getElem? (i := 11) rfl))) (mvT hZ (hw _ (List.mem_of_getElem? (i := 12) rfl))) (mvT hZ w_13) (by decide) (backOf (W := 1) (own_rm3 l Z a0 hw [] b70 .null .null .null .null (0 : Int32) (0 : Int32) h70 n0 (by omega) A70 F_heads_b70 F_bodyStarts_b70 F_bodies_b70 F_occurrences_b70 F_variableCount_b70 F_clauseCount_b70 (by omega)) hZ w_13 w_10 (by decide) (by decide)) (g := (mkF m 150 #[.val (.int p_1), .val (.int p_2), .val (.int p_3), .val (.int p_4), .val (.int v1), .val (.int r3), .val (.int r7), .val (.int r11), .val (.int v14), .val (.int r16), .val (.int r20), .val (.int r24), .val (.int v27), .val (.int r29), .val (.int r33), .val (.int r37), .val (.int r41), .val (.int r45), .val (.int r49), .val (.ref x53), .val (.ref x59), .val (.ref x65), .unset, .unset, .unset, .unset] [(.ref b70), (.ref b70)])) rfl (by rw [hml]; rfl) (Steps.refl _) (a := b70) (argsL := []) (rest := [(.ref b70)]) (lenOf own_pd6 rfl) rfl (by show 2 * 0 + _ ≤ _; exact Nat.le_of_eq rfl) (hb hby at_150) (fun _ _ => ⟨rfl, e70, (by show k64 + 1 + _ ≤ _; rw [y64]; decide), (by show n64 + 9 + _ ≤ _; rw [z64]; decide)⟩)
  dsimp only [Pt.U, Pt.locs, Pt.cells, Pt.slots] at X72 l72 y72 z72 st72 hQ72
  have y72 : k72 = 7 := own_addeq y72 (congrArg (fun q => q + 1) y64) rfl
  have z72 : n72 = 211 := own_addeq z72 (congrArg (fun q => q + 9) z64) rfl
  obtain ⟨x_73, x_74, x_75, rfl, N72q, K72q, f76, f77, f78, f79, f80, f81, f82, f83, f84, f85, f86, f87, f88, f89⟩ := hQ72
  have N72 : Fr n0 L72 := by rw [l72]; exact Fr.app N64 N72q
  have z90 := K72q.1
  have z91 := own_lt f76.lt
  have z92 := own_lt f77.lt
  have z93 := own_lt f78.lt
  have z94 := own_lt f79.lt
  have z95 := own_lt f80.lt
  have z96 := own_lt f81.lt
  have z97 := own_lt f82.lt
  have z98 := own_lt f83.lt
  have z99 := own_lt f84.lt
  have z100 := own_lt f85.lt
  simp only [own_lts, and_true] at f89
  refine own_go (fun _ k => st72.trans k) ?_
  show own_Go _ _ _ _ T72 (mkF m 153 #[.val (.int p_1), .val (.int p_2), .val (.int p_3), .val (.int p_4), .val (.int v1), .val (.int r3), .val (.int r7), .val (.int r11), .val (.int v14), .val (.int r16), .val (.int r20), .val (.int r24), .val (.int v27), .val (.int r29), .val (.int r33), .val (.int r37), .val (.int r41), .val (.int r45), .val (.int r49), .val (.ref x53), .val (.ref x59), .val (.ref x65), .unset, .unset, .unset, .unset] [(.ref b70)])
  refine own_go (fun _ k => XS.astore X72.here hx rfl (hb hby at_153) rfl rfl (l' := #[.val (.int p_1), .val (.int p_2), .val (.int p_3), .val (.int p_4), .val (.int v1), .val (.int r3), .val (.int r7), .val (.int r11), .val (.int v14), .val (.int r16), .val (.int r20), .val (.int r24), .val (.int v27), .val (.int r29), .val (.int r33), .val (.int r37), .val (.int r41), .val (.int r45), .val (.int r49), .val (.ref x53), .val (.ref x59), .val (.ref x65), .val (.ref b70), .unset, .unset, .unset]) rfl k) ?_
  show own_Go _ _ _ _ T72 (mkF m 155 #[.val (.int p_1), .val (.int p_2), .val (.int p_3), .val (.int p_4), .val (.int v1), .val (.int r3), .val (.int r7), .val (.int r11), .val (.int v14), .val (.int r16), .val (.int r20), .val (.int r24), .val (.int v27), .val (.int r29), .val (.int r33), .val (.int r37), .val (.int r41), .val (.int r45), .val (.int r49), .val (.ref x53), .val (.ref x59), .val (.ref x65), .val (.ref b70), .unset, .unset, .unset] [])
  refine own_go (fun _ k => XS.aload X72.here hx rfl (hb hby at_155) rfl rfl k) ?_
  show own_Go _ _ _ _ T72 (mkF m 157 #[.val (.int p_1), .val (.int p_2), .val (.int p_3), .val (.int p_4), .val (.int v1), .val (.int r3), .val (.int r7), .val (.int r11), .val (.int v14), .val (.int r16), .val (.int r20), .val (.int r24), .val (.int v27), .val (.int r29), .val (.int r33), .val (.int r37), .val (.int r41), .val (.int r45), .val (.int r49), .val (.ref x53), .val (.ref x59), .val (.ref x65), .val (.ref b70), .unset, .unset, .unset] [(.ref b70)])
  obtain ⟨cq101, kq101, q101a, q101b, q101c⟩ := isOf hZ rfl f76
  obtain ⟨_, _, ⟨T101, L101, k101, n101⟩, -, X101, ⟨Lc101, hQ101, l101, y101, z101⟩, st101⟩ := X72.virtualBack hx (y := (⟨"com/example/kalchas/kalchas/propositional/HornClauses", "newVariable", "()I"⟩ : MethodName)) (z := (⟨"com/example/kalchas/kalchas/propositional/HornClauses", "newVariable", "()I"⟩ : MethodName)) hown (mvT hZ w_23) (mvT hZ w_24) (notFace_of_selects (args := #[]) (mvT hZ w_26)) (mvT hZ w_26) (mvT hZ w_25) (by decide) (backOf (W := 0) (own_rm5 l Z a0 hw [] b70 (.ref x_73) (.ref x_74) (.ref x_75) .null (0 : Int32) (0 : Int32) T72.heap n0 (by omega) f76 f77 f78 f79 f80 f81 f82 (by omega)) hZ w_27 w_10 (by decide) (by decide)) q101a q101c (g := (mkF m 157 #[.val (.int p_1), .val (.int p_2), .val (.int p_3), .val (.int p_4), .val (.int v1), .val (.int r3), .val (.int r7), .val (.int r11), .val (.int v14), .val (.int r16), .val (.int r20), .val (.int r24), .val (.int v27), .val (.int r29), .val (.int r33), .val (.int r37), .val (.int r41), .val (.int r45), .val (.int r49), .val (.ref x53), .val (.ref x59), .val (.ref x65), .val (.ref b70), .unset, .unset, .unset] [(.ref b70)])) rfl (by rw [hml]; rfl) (Steps.refl _) (argsL := []) (rest := []) (lenOf own_pd7 rfl) rfl (by show 2 * 0 + _ ≤ _; exact Nat.le_of_eq rfl) (hb hby at_157) (fun _ _ => ⟨rfl, rfl, (by show k72 + _ ≤ _; rw [y72]; decide), (by show n72 + _ ≤ _; rw [z72]; decide)⟩)
  dsimp only [Pt.U, Pt.locs, Pt.cells, Pt.slots] at X101 l101 y101 z101 st101 hQ101
  have y101 : k101 = 7 := own_addeq y101 (congrArg (fun q => q) y72) rfl
  have z101 : n101 = 211 := own_addeq z101 (congrArg (fun q => q) z72) rfl
  obtain ⟨rfl, N101q, K101q, f102, f103, f104, f105, f106, f107, f108⟩ := hQ101
  have N101 : Fr n0 L101 := by rw [l101]; exact Fr.app N72 N101q
  have z109 := K101q.1
  have z110 := own_lt f102.lt
  have z111 := own_lt f103.lt
  have z112 := own_lt f104.lt
  have z113 := own_lt f105.lt
  have z114 := own_lt f106.lt
  have f107 : Fld Z T101.heap b70 "com/example/kalchas/kalchas/propositional/HornClauses" "variableCount" "I" (.int (1 : Int32)) := f107
  have z115 := own_lt f107.lt
  have z116 := own_lt f108.lt
  refine own_go (fun _ k => st101.trans k) ?_
  show own_Go _ _ _ _ T101 (mkF m 160 #[.val (.int p_1), .val (.int p_2), .val (.int p_3), .val (.int p_4), .val (.int v1), .val (.int r3), .val (.int r7), .val (.int r11), .val (.int v14), .val (.int r16), .val (.int r20), .val (.int r24), .val (.int v27), .val (.int r29), .val (.int r33), .val (.int r37), .val (.int r41), .val (.int r45), .val (.int r49), .val (.ref x53), .val (.ref x59), .val (.ref x65), .val (.ref b70), .unset, .unset, .unset] [(.int (0 : Int32))])
  refine own_go (fun _ k => XS.pop X101.here hx rfl (hb hby at_160) rfl rfl k) ?_
  show own_Go _ _ _ _ T101 (mkF m 161 #[.val (.int p_1), .val (.int p_2), .val (.int p_3), .val (.int p_4), .val (.int v1), .val (.int r3), .val (.int r7), .val (.int r11), .val (.int v14), .val (.int r16), .val (.int r20), .val (.int r24), .val (.int v27), .val (.int r29), .val (.int r33), .val (.int r37), .val (.int r41), .val (.int r45), .val (.int r49), .val (.ref x53), .val (.ref x59), .val (.ref x65), .val (.ref b70), .unset, .unset, .unset] [])
  refine own_go (fun _ k => XS.aload X101.here hx rfl (hb hby at_161) rfl rfl k) ?_
  show own_Go _ _ _ _ T101 (mkF m 163 #[.val (.int p_1), .val (.int p_2), .val (.int p_3), .val (.int p_4), .val (.int v1), .val (.int r3), .val (.int r7), .val (.int r11), .val (.int v14), .val (.int r16), .val (.int r20), .val (.int r24), .val (.int v27), .val (.int r29), .val (.int r33), .val (.int r37), .val (.int r41), .val (.int r45), .val (.int r49), .val (.ref x53), .val (.ref x59), .val (.ref x65), .val (.ref b70), .unset, .unset, .unset] [(.ref b70)])
  obtain ⟨cq117, kq117, q117a, q117b, q117c⟩ := isOf hZ rfl f102
  obtain ⟨_, _, ⟨T117, L117, k117, n117⟩, -, X117, ⟨Lc117, hQ117, l117, y117, z117⟩, st117⟩ := X101.virtualBack hx (y := (⟨"com/example/kalchas/kalchas/propositional/HornClauses", "newVariable", "()I"⟩ : MethodName)) (z := (⟨"com/example/kalchas/kalchas/propositional/HornClauses", "newVariable", "()I"⟩ : MethodName)) hown (mvT hZ w_23) (mvT hZ w_24) (notFace_of_selects (args := #[]) (mvT hZ w_26)) (mvT hZ w_26) (mvT hZ w_25) (by decide) (backOf (W := 0) (own_rm5 l Z a0 hw [] b70 (.ref x_73) (.ref x_74) (.ref x_75) .null (1 : Int32) (0 : Int32) T101.heap n0 (by omega) f102 f103 f104 f105 f106 f107 f108 (by omega)) hZ w_27 w_10 (by decide) (by decide)) q117a q117c (g := (mkF m 163 #[.val (.int p_1), .val (.int p_2), .val (.int p_3), .val (.int p_4), .val (.int v1), .val (.int r3), .val (.int r7), .val (.int r11), .val (.int v14), .val (.int r16), .val (.int r20), .val (.int r24), .val (.int v27), .val (.int r29), .val (.int r33), .val (.int r37), .val (.int r41), .val (.int r45), .val (.int r49), .val (.ref x53), .val (.ref x59), .val (.ref x65), .val (.ref b70), .unset, .unset, .unset] [(.ref b70)])) rfl (by rw [hml]; rfl) (Steps.refl _) (argsL := []) (rest := []) (lenOf own_pd7 rfl) rfl (by show 2 * 0 + _ ≤ _; exact Nat.le_of_eq rfl) (hb hby at_163) (fun _ _ => ⟨rfl, rfl, (by show k101 + _ ≤ _; rw [y101]; decide), (by show n101 + _ ≤ _; rw [z101]; decide)⟩)
  dsimp only [Pt.U, Pt.locs, Pt.cells, Pt.slots] at X117 l117 y117 z117 st117 hQ117
  have y117 : k117 = 7 := own_addeq y117 (congrArg (fun q => q) y101) rfl
  have z117 : n117 = 211 := own_addeq z117 (congrArg (fun q => q) z101) rfl
  obtain ⟨rfl, N117q, K117q, f118, f119, f120, f121, f122, f123, f124⟩ := hQ117
  have N117 : Fr n0 L117 := by rw [l117]; exact Fr.app N101 N117q
  have z125 := K117q.1
  have z126 := own_lt f118.lt
  have z127 := own_lt f119.lt
  have z128 := own_lt f120.lt
  have z129 := own_lt f121.lt
  have z130 := own_lt f122.lt
  have f123 : Fld Z T117.heap b70 "com/example/kalchas/kalchas/propositional/HornClauses" "variableCount" "I" (.int (2 : Int32)) := f123
  have z131 := own_lt f123.lt
  have z132 := own_lt f124.lt
  refine own_go (fun _ k => st117.trans k) ?_
  show own_Go _ _ _ _ T117 (mkF m 166 #[.val (.int p_1), .val (.int p_2), .val (.int p_3), .val (.int p_4), .val (.int v1), .val (.int r3), .val (.int r7), .val (.int r11), .val (.int v14), .val (.int r16), .val (.int r20), .val (.int r24), .val (.int v27), .val (.int r29), .val (.int r33), .val (.int r37), .val (.int r41), .val (.int r45), .val (.int r49), .val (.ref x53), .val (.ref x59), .val (.ref x65), .val (.ref b70), .unset, .unset, .unset] [(.int (1 : Int32))])
  refine own_go (fun _ k => XS.pop X117.here hx rfl (hb hby at_166) rfl rfl k) ?_
  show own_Go _ _ _ _ T117 (mkF m 167 #[.val (.int p_1), .val (.int p_2), .val (.int p_3), .val (.int p_4), .val (.int v1), .val (.int r3), .val (.int r7), .val (.int r11), .val (.int v14), .val (.int r16), .val (.int r20), .val (.int r24), .val (.int v27), .val (.int r29), .val (.int r33), .val (.int r37), .val (.int r41), .val (.int r45), .val (.int r49), .val (.ref x53), .val (.ref x59), .val (.ref x65), .val (.ref b70), .unset, .unset, .unset] [])
  refine own_go (fun _ k => XS.aload X117.here hx rfl (hb hby at_167) rfl rfl k) ?_
  show own_Go _ _ _ _ T117 (mkF m 169 #[.val (.int p_1), .val (.int p_2), .val (.int p_3), .val (.int p_4), .val (.int v1), .val (.int r3), .val (.int r7), .val (.int r11), .val (.int v14), .val (.int r16), .val (.int r20), .val (.int r24), .val (.int v27), .val (.int r29), .val (.int r33), .val (.int r37), .val (.int r41), .val (.int r45), .val (.int r49), .val (.ref x53), .val (.ref x59), .val (.ref x65), .val (.ref b70), .unset, .unset, .unset] [(.ref b70)])
  obtain ⟨cq133, kq133, q133a, q133b, q133c⟩ := isOf hZ rfl f118
  obtain ⟨_, _, ⟨T133, L133, k133, n133⟩, -, X133, ⟨Lc133, hQ133, l133, y133, z133⟩, st133⟩ := X117.virtualBack hx (y := (⟨"com/example/kalchas/kalchas/propositional/HornClauses", "newVariable", "()I"⟩ : MethodName)) (z := (⟨"com/example/kalchas/kalchas/propositional/HornClauses", "newVariable", "()I"⟩ : MethodName)) hown (mvT hZ w_23) (mvT hZ w_24) (notFace_of_selects (args := #[]) (mvT hZ w_26)) (mvT hZ w_26) (mvT hZ w_25) (by decide) (backOf (W := 0) (own_rm5 l Z a0 hw [] b70 (.ref x_73) (.ref x_74) (.ref x_75) .null (2 : Int32) (0 : Int32) T117.heap n0 (by omega) f118 f119 f120 f121 f122 f123 f124 (by omega)) hZ w_27 w_10 (by decide) (by decide)) q133a q133c (g := (mkF m 169 #[.val (.int p_1), .val (.int p_2), .val (.int p_3), .val (.int p_4), .val (.int v1), .val (.int r3), .val (.int r7), .val (.int r11), .val (.int v14), .val (.int r16), .val (.int r20), .val (.int r24), .val (.int v27), .val (.int r29), .val (.int r33), .val (.int r37), .val (.int r41), .val (.int r45), .val (.int r49), .val (.ref x53), .val (.ref x59), .val (.ref x65), .val (.ref b70), .unset, .unset, .unset] [(.ref b70)])) rfl (by rw [hml]; rfl) (Steps.refl _) (argsL := []) (rest := []) (lenOf own_pd7 rfl) rfl (by show 2 * 0 + _ ≤ _; exact Nat.le_of_eq rfl) (hb hby at_169) (fun _ _ => ⟨rfl, rfl, (by show k117 + _ ≤ _; rw [y117]; decide), (by show n117 + _ ≤ _; rw [z117]; decide)⟩)
  dsimp only [Pt.U, Pt.locs, Pt.cells, Pt.slots] at X133 l133 y133 z133 st133 hQ133
  have y133 : k133 = 7 := own_addeq y133 (congrArg (fun q => q) y117) rfl
  have z133 : n133 = 211 := own_addeq z133 (congrArg (fun q => q) z117) rfl
  obtain ⟨rfl, N133q, K133q, f134, f135, f136, f137, f138, f139, f140⟩ := hQ133
  have N133 : Fr n0 L133 := by rw [l133]; exact Fr.app N117 N133q
  have z141 := K133q.1
  have z142 := own_lt f134.lt
  have z143 := own_lt f135.lt
  have z144 := own_lt f136.lt
  have z145 := own_lt f137.lt
  have z146 := own_lt f138.lt
  have f139 : Fld Z T133.heap b70 "com/example/kalchas/kalchas/propositional/HornClauses" "variableCount" "I" (.int (3 : Int32)) := f139
  have z147 := own_lt f139.lt
  have z148 := own_lt f140.lt
  refine own_go (fun _ k => st133.trans k) ?_
  show own_Go _ _ _ _ T133 (mkF m 172 #[.val (.int p_1), .val (.int p_2), .val (.int p_3), .val (.int p_4), .val (.int v1), .val (.int r3), .val (.int r7), .val (.int r11), .val (.int v14), .val (.int r16), .val (.int r20), .val (.int r24), .val (.int v27), .val (.int r29), .val (.int r33), .val (.int r37), .val (.int r41), .val (.int r45), .val (.int r49), .val (.ref x53), .val (.ref x59), .val (.ref x65), .val (.ref b70), .unset, .unset, .unset] [(.int (2 : Int32))])
  refine own_go (fun _ k => XS.pop X133.here hx rfl (hb hby at_172) rfl rfl k) ?_
  show own_Go _ _ _ _ T133 (mkF m 173 #[.val (.int p_1), .val (.int p_2), .val (.int p_3), .val (.int p_4), .val (.int v1), .val (.int r3), .val (.int r7), .val (.int r11), .val (.int v14), .val (.int r16), .val (.int r20), .val (.int r24), .val (.int v27), .val (.int r29), .val (.int r33), .val (.int r37), .val (.int r41), .val (.int r45), .val (.int r49), .val (.ref x53), .val (.ref x59), .val (.ref x65), .val (.ref b70), .unset, .unset, .unset] [])
  refine own_go (fun _ k => XS.aload X133.here hx rfl (hb hby at_173) rfl rfl k) ?_
  show own_Go _ _ _ _ T133 (mkF m 175 #[.val (.int p_1), .val (.int p_2), .val (.int p_3), .val (.int p_4), .val (.int v1), .val (.int r3), .val (.int r7), .val (.int r11), .val (.int v14), .val (.int r16), .val (.int r20), .val (.int r24), .val (.int v27), .val (.int r29), .val (.int r33), .val (.int r37), .val (.int r41), .val (.int r45), .val (.int r49), .val (.ref x53), .val (.ref x59), .val (.ref x65), .val (.ref b70), .unset, .unset, .unset] [(.ref b70)])
  refine own_go (fun _ k => XS.iload X133.here hx rfl (hb hby at_175) rfl k) ?_
  show own_Go _ _ _ _ T133 (mkF m 177 #[.val (.int p_1), .val (.int p_2), .val (.int p_3), .val (.int p_4), .val (.int v1), .val (.int r3), .val (.int r7), .val (.int r11), .val (.int v14), .val (.int r16), .val (.int r20), .val (.int r24), .val (.int v27), .val (.int r29), .val (.int r33), .val (.int r37), .val (.int r41), .val (.int r45), .val (.int r49), .val (.ref x53), .val (.ref x59), .val (.ref x65), .val (.ref b70), .unset, .unset, .unset] [(.int r41), (.ref b70)])
  refine own_go (fun _ k => XS.aload X133.here hx rfl (hb hby at_177) rfl rfl k) ?_
  show own_Go _ _ _ _ T133 (mkF m 179 #[.val (.int p_1), .val (.int p_2), .val (.int p_3), .val (.int p_4), .val (.int v1), .val (.int r3), .val (.int r7), .val (.int r11), .val (.int v14), .val (.int r16), .val (.int r20), .val (.int r24), .val (.int v27), .val (.int r29), .val (.int r33), .val (.int r37), .val (.int r41), .val (.int r45), .val (.int r49), .val (.ref x53), .val (.ref x59), .val (.ref x65), .val (.ref b70), .unset, .unset, .unset] [(.ref x53), (.int r41), (.ref b70)])
  have f149 : own_AV Z T133.heap x_73 .int (64 : Int32) (fun _ => (.int (0 : Int32))) := (((f83.keep K101q (ninS (own_ne (by omega)) nin0)).keep K117q (ninS (own_ne (by omega)) nin0)).keep K133q (ninS (own_ne (by omega)) nin0))
  have f150 : own_AV Z T133.heap x_74 .int (65 : Int32) (fun _ => (.int (0 : Int32))) := (((f84.keep K101q (ninS (own_ne (by omega)) nin0)).keep K117q (ninS (own_ne (by omega)) nin0)).keep K133q (ninS (own_ne (by omega)) nin0))
  have f151 : own_AV Z T133.heap x_75 .int (64 : Int32) (fun _ => (.int (0 : Int32))) := (((f85.keep K101q (ninS (own_ne (by omega)) nin0)).keep K117q (ninS (own_ne (by omega)) nin0)).keep K133q (ninS (own_ne (by omega)) nin0))
  have f152 : own_AV Z T133.heap x53 .int v1 (own_n3 r3 r7 r11) := (((((((f54.keep K58q nin0).keep K64q nin0).ext E70).keep K72q (ninS (own_ne (by omega)) nin0)).keep K101q (ninS (own_ne (by omega)) nin0)).keep K117q (ninS (own_ne (by omega)) nin0)).keep K133q (ninS (own_ne (by omega)) nin0))
  obtain ⟨cq153, kq153, q153a, q153b, q153c⟩ := isOf hZ rfl f134
  obtain ⟨_, _, ⟨T153, L153, k153, n153⟩, -, X153, hS153, gr153, ⟨Lc153, ⟨hQ153, hV153⟩, l153, y153, z153⟩, st153⟩ := X133.virtualBackS hx (y := (⟨"com/example/kalchas/kalchas/propositional/HornClauses", "add", "(I[I)V"⟩ : MethodName)) (z := (⟨"com/example/kalchas/kalchas/propositional/HornClauses", "add", "(I[I)V"⟩ : MethodName)) hown (mvT hZ w_32) (mvT hZ w_33) (notFace_of_selects (args := #[]) (mvT hZ w_35)) (mvT hZ w_35) (mvT hZ w_34) (by decide) (own_backL (PV := (fun _ => True)) (QV := (own_LP Z "com/example/kalchas/kalchas/propositional/HornClauses" 178)) (W := 0) (own_rm6_0 l Z a0 hw [] b70 r41 x53 x_73 x_74 x_75 (fun _ => (.int (0 : Int32))) (fun _ => (.int (0 : Int32))) (fun _ => (.int (0 : Int32))) (0 : Int32) .null v1 r3 r7 r11 T133.heap n0 (by omega) f134 f139 f140 f135 f136 f137 f138 f149 f150 f151 f152 (by simp only [own_lts, and_true]; omega) rfl (by decide) (fun _ => rfl) (show ¬ (r41 < 0) by first | assumption | omega | decide) (show r41 < (3 : Int32) by first | assumption | omega | decide) (show v1 = (0 : Int32) ∨ v1 = (1 : Int32) ∨ v1 = (2 : Int32) ∨ v1 = (3 : Int32) by first | assumption | omega | decide) (show ¬ (r3 < 0) by first | assumption | omega | decide) (show r3 < (3 : Int32) by first | assumption | omega | decide) (show ¬ (r7 < 0) by first | assumption | omega | decide) (show r7 < (3 : Int32) by first | assumption | omega | decide) (show ¬ (r11 < 0) by first | assumption | omega | decide) (show r11 < (3 : Int32) by first | assumption | omega | decide) (by omega) (by omega) (by omega) (by omega)) hZ w_36 w_10 (by decide) (by decide) (fun _ _ => trivial)) q153a q153c (g := (mkF m 179 #[.val (.int p_1), .val (.int p_2), .val (.int p_3), .val (.int p_4), .val (.int v1), .val (.int r3), .val (.int r7), .val (.int r11), .val (.int v14), .val (.int r16), .val (.int r20), .val (.int r24), .val (.int v27), .val (.int r29), .val (.int r33), .val (.int r37), .val (.int r41), .val (.int r45), .val (.int r49), .val (.ref x53), .val (.ref x59), .val (.ref x65), .val (.ref b70), .unset, .unset, .unset] [(.ref x53), (.int r41), (.ref b70)])) rfl (by rw [hml]; rfl) (Steps.refl _) (argsL := [(.int r41), (.ref x53)]) (rest := []) (lenOf own_pd8 rfl) rfl (by show 2 * 0 + _ ≤ _; exact Nat.le_of_eq rfl) (hb hby at_179) (fun _ _ => ⟨rfl, rfl, (by show k133 + _ ≤ _; rw [y133]; decide), (by show n133 + _ ≤ _; rw [z133]; decide)⟩)
  dsimp only [Pt.U, Pt.locs, Pt.cells, Pt.slots] at X153 l153 y153 z153 st153 hQ153 hS153 gr153 hV153
  have y153 : k153 = 9 := own_addeq y153 (congrArg (fun q => q) y133) rfl
  have z153 : n153 = 247 := own_addeq z153 (congrArg (fun q => q) z133) rfl
  have Wn153 := hS153.1
  obtain ⟨X153, hS153, hZ, hown⟩ := rebS hS0 (n1 := T133.heap.size) (by omega) X153 hS153 gr153 hZ hown
  obtain ⟨bL153, Lq153⟩ := hV153
  have Lq153 : Lit (s.setVm T153.vm) "com/example/kalchas/kalchas/propositional/HornClauses" 178 bL153 := Lq153
  obtain ⟨rfl, N153q, K153q, f154, f155, f156, f157, f158, f159, f160, f161, f162, f163⟩ := hQ153
  have N153 : Fr n0 L153 := by rw [l153]; exact Fr.app N133 N153q
  have z164 := K153q.1
  have z165 := own_lt f154.lt
  have z166 := own_lt f155.lt
  have z167 := own_lt f156.lt
  have z168 := own_lt f157.lt
  have z169 := own_lt f158.lt
  have z170 := own_lt f159.lt
  have z171 := own_lt f160.lt
  have z172 := own_lt f161.lt
  have z173 := own_lt f162.lt
  have f163 : own_AV Z T153.heap x_75 .int (64 : Int32) (own_cpf (own_n3 r3 r7 r11) 0 (fun _ => (.int (0 : Int32))) 0 (v1).toNatClampNeg) := f163
  have z174 := own_lt f163.lt
  refine own_go (fun _ k => st153.trans k) ?_
  show own_Go _ _ _ _ T153 (mkF m 182 #[.val (.int p_1), .val (.int p_2), .val (.int p_3), .val (.int p_4), .val (.int v1), .val (.int r3), .val (.int r7), .val (.int r11), .val (.int v14), .val (.int r16), .val (.int r20), .val (.int r24), .val (.int v27), .val (.int r29), .val (.int r33), .val (.int r37), .val (.int r41), .val (.int r45), .val (.int r49), .val (.ref x53), .val (.ref x59), .val (.ref x65), .val (.ref b70), .unset, .unset, .unset] [])
  refine own_go (fun _ k => XS.aload X153.here hx rfl (hb hby at_182) rfl rfl k) ?_
  show own_Go _ _ _ _ T153 (mkF m 184 #[.val (.int p_1), .val (.int p_2), .val (.int p_3), .val (.int p_4), .val (.int v1), .val (.int r3), .val (.int r7), .val (.int r11), .val (.int v14), .val (.int r16), .val (.int r20), .val (.int r24), .val (.int v27), .val (.int r29), .val (.int r33), .val (.int r37), .val (.int r41), .val (.int r45), .val (.int r49), .val (.ref x53), .val (.ref x59), .val (.ref x65), .val (.ref b70), .unset, .unset, .unset] [(.ref b70)])
  refine own_go (fun _ k => XS.iload X153.here hx rfl (hb hby at_184) rfl k) ?_
  show own_Go _ _ _ _ T153 (mkF m 186 #[.val (.int p_1), .val (.int p_2), .val (.int p_3), .val (.int p_4), .val (.int v1), .val (.int r3), .val (.int r7), .val (.int r11), .val (.int v14), .val (.int r16), .val (.int r20), .val (.int r24), .val (.int v27), .val (.int r29), .val (.int r33), .val (.int r37), .val (.int r41), .val (.int r45), .val (.int r49), .val (.ref x53), .val (.ref x59), .val (.ref x65), .val (.ref b70), .unset, .unset, .unset] [(.int r45), (.ref b70)])
  refine own_go (fun _ k => XS.aload X153.here hx rfl (hb hby at_186) rfl rfl k) ?_
  show own_Go _ _ _ _ T153 (mkF m 188 #[.val (.int p_1), .val (.int p_2), .val (.int p_3), .val (.int p_4), .val (.int v1), .val (.int r3), .val (.int r7), .val (.int r11), .val (.int v14), .val (.int r16), .val (.int r20), .val (.int r24), .val (.int v27), .val (.int r29), .val (.int r33), .val (.int r37), .val (.int r41), .val (.int r45), .val (.int r49), .val (.ref x53), .val (.ref x59), .val (.ref x65), .val (.ref b70), .unset, .unset, .unset] [(.ref x59), (.int r45), (.ref b70)])
  have f175 : own_AV Z T153.heap x59 .int v14 (own_n3 r16 r20 r24) := (((((((f60.keep K64q nin0).ext E70).keep K72q (ninS (own_ne (by omega)) nin0)).keep K101q (ninS (own_ne (by omega)) nin0)).keep K117q (ninS (own_ne (by omega)) nin0)).keep K133q (ninS (own_ne (by omega)) nin0)).keep K153q (ninS (own_ne (by omega)) (ninS (own_ne (by omega)) (ninS (own_ne (by omega)) (ninS (own_ne (by omega)) nin0)))))
  obtain ⟨cq176, kq176, q176a, q176b, q176c⟩ := isOf hZ rfl f154
  obtain ⟨_, _, ⟨T176, L176, k176, n176⟩, -, X176, hS176, gr176, ⟨Lc176, ⟨hQ176, hV176⟩, l176, y176, z176⟩, st176⟩ := X153.virtualBackS hx (y := (⟨"com/example/kalchas/kalchas/propositional/HornClauses", "add", "(I[I)V"⟩ : MethodName)) (z := (⟨"com/example/kalchas/kalchas/propositional/HornClauses", "add", "(I[I)V"⟩ : MethodName)) hown (mvT hZ w_32) (mvT hZ w_33) (notFace_of_selects (args := #[]) (mvT hZ w_35)) (mvT hZ w_35) (mvT hZ w_34) (by decide) (own_backL (PV := (own_LP Z "com/example/kalchas/kalchas/propositional/HornClauses" 178)) (QV := (fun _ => True)) (W := 0) (own_rm6_1 l Z a0 hw [] b70 r45 x59 x_73 x_74 x_75 (own_upd (fun _ => (.int (0 : Int32))) 0 (.int r41)) (own_upd (fun _ => (.int (0 : Int32))) 1 (.int ((0 : Int32) + v1))) (own_cpf (own_n3 r3 r7 r11) 0 (fun _ => (.int (0 : Int32))) 0 (v1).toNatClampNeg) ((0 : Int32) + v1) .null v14 r16 r20 r24 (1 : Int32) T153.heap n0 (by omega) f154 f155 f156 f157 f158 f159 f160 f161 f162 f163 f175 (by simp only [own_lts, and_true]; omega) rfl (own_t0_1 v1 hl_v1) (own_cpff (fun _ => rfl) (fun _ => rfl)) (show ¬ (r45 < 0) by first | assumption | omega | decide) (show r45 < (3 : Int32) by first | assumption | omega | decide) (show v14 = (0 : Int32) ∨ v14 = (1 : Int32) ∨ v14 = (2 : Int32) ∨ v14 = (3 : Int32) by first | assumption | omega | decide) (show (1 : Int32) = (1 : Int32) ∨ (1 : Int32) = (2 : Int32) by first | assumption | omega | decide) (show ¬ (r16 < 0) by first | assumption | omega | decide) (show r16 < (3 : Int32) by first | assumption | omega | decide) (show ¬ (r20 < 0) by first | assumption | omega | decide) (show r20 < (3 : Int32) by first | assumption | omega | decide) (show ¬ (r24 < 0) by first | assumption | omega | decide) (show r24 < (3 : Int32) by first | assumption | omega | decide) (by omega) (by omega) (by omega) (by omega)) hZ w_36 w_10 (by decide) (by decide) (fun _ q => ⟨_, own_litW Lq153 q⟩)) q176a q176c (g := (mkF m 188 #[.val (.int p_1), .val (.int p_2), .val (.int p_3), .val (.int p_4), .val (.int v1), .val (.int r3), .val (.int r7), .val (.int r11), .val (.int v14), .val (.int r16), .val (.int r20), .val (.int r24), .val (.int v27), .val (.int r29), .val (.int r33), .val (.int r37), .val (.int r41), .val (.int r45), .val (.int r49), .val (.ref x53), .val (.ref x59), .val (.ref x65), .val (.ref b70), .unset, .unset, .unset] [(.ref x59), (.int r45), (.ref b70)])) rfl (by rw [hml]; rfl) (Steps.refl _) (argsL := [(.int r45), (.ref x59)]) (rest := []) (lenOf own_pd8 rfl) rfl (by show 2 * 0 + _ ≤ _; exact Nat.le_of_eq rfl) (hb hby at_188) (fun _ _ => ⟨rfl, rfl, (by show k153 + _ ≤ _; rw [y153]; decide), (by show n153 + _ ≤ _; rw [z153]; decide)⟩)
  dsimp only [Pt.U, Pt.locs, Pt.cells, Pt.slots] at X176 l176 y176 z176 st176 hQ176 hS176 gr176 hV176
  have y176 : k176 = 9 := own_addeq y176 (congrArg (fun q => q) y153) rfl
  have z176 : n176 = 247 := own_addeq z176 (congrArg (fun q => q) z153) rfl
  have Wn176 := hS176.1
  have Li177 := Lq153.stays Wn176
  obtain ⟨X176, hS176, hZ, hown⟩ := rebS hS153 (n1 := T153.heap.size) (by omega) X176 hS176 gr176 hZ hown
  obtain ⟨rfl, N176q, K176q, f178, f179, f180, f181, f182, f183, f184, f185, f186, f187⟩ := hQ176
  have N176 : Fr n0 L176 := by rw [l176]; exact Fr.app N153 N176q
  have z188 := K176q.1
  have z189 := own_lt f178.lt
  have z190 := own_lt f179.lt
  have f180 : Fld Z T176.heap b70 "com/example/kalchas/kalchas/propositional/HornClauses" "clauseCount" "I" (.int (2 : Int32)) := f180
  have z191 := own_lt f180.lt
  have z192 := own_lt f181.lt
  have z193 := own_lt f182.lt
  have z194 := own_lt f183.lt
  have z195 := own_lt f184.lt
  have f185 : own_AV Z T176.heap x_73 .int (64 : Int32) (own_upd (own_upd (fun _ => (.int (0 : Int32))) 0 (.int r41)) 1 (.int r45)) := f185
  have z196 := own_lt f185.lt
  have f186 : own_AV Z T176.heap x_74 .int (65 : Int32) (own_upd (own_upd (fun _ => (.int (0 : Int32))) 1 (.int ((0 : Int32) + v1))) 2 (.int (((0 : Int32) + v1) + v14))) := f186
  have z197 := own_lt f186.lt
  have f187 : own_AV Z T176.heap x_75 .int (64 : Int32) (own_cpf (own_n3 r16 r20 r24) 0 (own_cpf (own_n3 r3 r7 r11) 0 (fun _ => (.int (0 : Int32))) 0 (v1).toNatClampNeg) (((0 : Int32) + v1)).toNatClampNeg (v14).toNatClampNeg) := f187
  have z198 := own_lt f187.lt
  refine own_go (fun _ k => st176.trans k) ?_
  show own_Go _ _ _ _ T176 (mkF m 191 #[.val (.int p_1), .val (.int p_2), .val (.int p_3), .val (.int p_4), .val (.int v1), .val (.int r3), .val (.int r7), .val (.int r11), .val (.int v14), .val (.int r16), .val (.int r20), .val (.int r24), .val (.int v27), .val (.int r29), .val (.int r33), .val (.int r37), .val (.int r41), .val (.int r45), .val (.int r49), .val (.ref x53), .val (.ref x59), .val (.ref x65), .val (.ref b70), .unset, .unset, .unset] [])
  refine own_go (fun _ k => XS.aload X176.here hx rfl (hb hby at_191) rfl rfl k) ?_
  show own_Go _ _ _ _ T176 (mkF m 193 #[.val (.int p_1), .val (.int p_2), .val (.int p_3), .val (.int p_4), .val (.int v1), .val (.int r3), .val (.int r7), .val (.int r11), .val (.int v14), .val (.int r16), .val (.int r20), .val (.int r24), .val (.int v27), .val (.int r29), .val (.int r33), .val (.int r37), .val (.int r41), .val (.int r45), .val (.int r49), .val (.ref x53), .val (.ref x59), .val (.ref x65), .val (.ref b70), .unset, .unset, .unset] [(.ref b70)])
  refine own_go (fun _ k => XS.iload X176.here hx rfl (hb hby at_193) rfl k) ?_
  show own_Go _ _ _ _ T176 (mkF m 195 #[.val (.int p_1), .val (.int p_2), .val (.int p_3), .val (.int p_4), .val (.int v1), .val (.int r3), .val (.int r7), .val (.int r11), .val (.int v14), .val (.int r16), .val (.int r20), .val (.int r24), .val (.int v27), .val (.int r29), .val (.int r33), .val (.int r37), .val (.int r41), .val (.int r45), .val (.int r49), .val (.ref x53), .val (.ref x59), .val (.ref x65), .val (.ref b70), .unset, .unset, .unset] [(.int r49), (.ref b70)])
  refine own_go (fun _ k => XS.aload X176.here hx rfl (hb hby at_195) rfl rfl k) ?_
  show own_Go _ _ _ _ T176 (mkF m 197 #[.val (.int p_1), .val (.int p_2), .val (.int p_3), .val (.int p_4), .val (.int v1), .val (.int r3), .val (.int r7), .val (.int r11), .val (.int v14), .val (.int r16), .val (.int r20), .val (.int r24), .val (.int v27), .val (.int r29), .val (.int r33), .val (.int r37), .val (.int r41), .val (.int r45), .val (.int r49), .val (.ref x53), .val (.ref x59), .val (.ref x65), .val (.ref b70), .unset, .unset, .unset] [(.ref x65), (.int r49), (.ref b70)])
  have f199 : own_AV Z T176.heap x65 .int v27 (own_n3 r29 r33 r37) := (((((((f66.ext E70).keep K72q (ninS (own_ne (by omega)) nin0)).keep K101q (ninS (own_ne (by omega)) nin0)).keep K117q (ninS (own_ne (by omega)) nin0)).keep K133q (ninS (own_ne (by omega)) nin0)).keep K153q (ninS (own_ne (by omega)) (ninS (own_ne (by omega)) (ninS (own_ne (by omega)) (ninS (own_ne (by omega)) nin0))))).keep K176q (ninS (own_ne (by omega)) (ninS (own_ne (by omega)) (ninS (own_ne (by omega)) (ninS (own_ne (by omega)) nin0)))))
  obtain ⟨cq200, kq200, q200a, q200b, q200c⟩ := isOf hZ rfl f178
  obtain ⟨_, _, ⟨T200, L200, k200, n200⟩, -, X200, hS200, gr200, ⟨Lc200, ⟨hQ200, hV200⟩, l200, y200, z200⟩, st200⟩ := X176.virtualBackS hx (y := (⟨"com/example/kalchas/kalchas/propositional/HornClauses", "add", "(I[I)V"⟩ : MethodName)) (z := (⟨"com/example/kalchas/kalchas/propositional/HornClauses", "add", "(I[I)V"⟩ : MethodName)) hown (mvT hZ w_32) (mvT hZ w_33) (notFace_of_selects (args := #[]) (mvT hZ w_35)) (mvT hZ w_35) (mvT hZ w_34) (by decide) (own_backL (PV := (own_LP Z "com/example/kalchas/kalchas/propositional/HornClauses" 178)) (QV := (fun _ => True)) (W := 0) (own_rm6_1 l Z a0 hw [] b70 r49 x65 x_73 x_74 x_75 (own_upd (own_upd (fun _ => (.int (0 : Int32))) 0 (.int r41)) 1 (.int r45)) (own_upd (own_upd (fun _ => (.int (0 : Int32))) 1 (.int ((0 : Int32) + v1))) 2 (.int (((0 : Int32) + v1) + v14))) (own_cpf (own_n3 r16 r20 r24) 0 (own_cpf (own_n3 r3 r7 r11) 0 (fun _ => (.int (0 : Int32))) 0 (v1).toNatClampNeg) (((0 : Int32) + v1)).toNatClampNeg (v14).toNatClampNeg) (((0 : Int32) + v1) + v14) .null v27 r29 r33 r37 (2 : Int32) T176.heap n0 (by omega) f178 f179 f180 f181 f182 f183 f184 f185 f186 f187 f199 (by simp only [own_lts, and_true]; omega) rfl (own_t0_2 v1 v14 hl_v1 hl_v14) (own_cpff (fun _ => rfl) (own_cpff (fun _ => rfl) (fun _ => rfl))) (show ¬ (r49 < 0) by first | assumption | omega | decide) (show r49 < (3 : Int32) by first | assumption | omega | decide) (show v27 = (0 : Int32) ∨ v27 = (1 : Int32) ∨ v27 = (2 : Int32) ∨ v27 = (3 : Int32) by first | assumption | omega | decide) (show (2 : Int32) = (1 : Int32) ∨ (2 : Int32) = (2 : Int32) by first | assumption | omega | decide) (show ¬ (r29 < 0) by first | assumption | omega | decide) (show r29 < (3 : Int32) by first | assumption | omega | decide) (show ¬ (r33 < 0) by first | assumption | omega | decide) (show r33 < (3 : Int32) by first | assumption | omega | decide) (show ¬ (r37 < 0) by first | assumption | omega | decide) (show r37 < (3 : Int32) by first | assumption | omega | decide) (by omega) (by omega) (by omega) (by omega)) hZ w_36 w_10 (by decide) (by decide) (fun _ q => ⟨_, own_litW Li177 q⟩)) q200a q200c (g := (mkF m 197 #[.val (.int p_1), .val (.int p_2), .val (.int p_3), .val (.int p_4), .val (.int v1), .val (.int r3), .val (.int r7), .val (.int r11), .val (.int v14), .val (.int r16), .val (.int r20), .val (.int r24), .val (.int v27), .val (.int r29), .val (.int r33), .val (.int r37), .val (.int r41), .val (.int r45), .val (.int r49), .val (.ref x53), .val (.ref x59), .val (.ref x65), .val (.ref b70), .unset, .unset, .unset] [(.ref x65), (.int r49), (.ref b70)])) rfl (by rw [hml]; rfl) (Steps.refl _) (argsL := [(.int r49), (.ref x65)]) (rest := []) (lenOf own_pd8 rfl) rfl (by show 2 * 0 + _ ≤ _; exact Nat.le_of_eq rfl) (hb hby at_197) (fun _ _ => ⟨rfl, rfl, (by show k176 + _ ≤ _; rw [y176]; decide), (by show n176 + _ ≤ _; rw [z176]; decide)⟩)
  dsimp only [Pt.U, Pt.locs, Pt.cells, Pt.slots] at X200 l200 y200 z200 st200 hQ200 hS200 gr200 hV200
  have y200 : k200 = 9 := own_addeq y200 (congrArg (fun q => q) y176) rfl
  have z200 : n200 = 247 := own_addeq z200 (congrArg (fun q => q) z176) rfl
  have Wn200 := hS200.1
  have Li201 := Li177.stays Wn200
  obtain ⟨X200, hS200, hZ, hown⟩ := rebS hS176 (n1 := T176.heap.size) (by omega) X200 hS200 gr200 hZ hown
  obtain ⟨rfl, N200q, K200q, f202, f203, f204, f205, f206, f207, f208, f209, f210, f211⟩ := hQ200
  have N200 : Fr n0 L200 := by rw [l200]; exact Fr.app N176 N200q
  have z212 := K200q.1
  have z213 := own_lt f202.lt
  have z214 := own_lt f203.lt
  have f204 : Fld Z T200.heap b70 "com/example/kalchas/kalchas/propositional/HornClauses" "clauseCount" "I" (.int (3 : Int32)) := f204
  have z215 := own_lt f204.lt
  have z216 := own_lt f205.lt
  have z217 := own_lt f206.lt
  have z218 := own_lt f207.lt
  have z219 := own_lt f208.lt
  have f209 : own_AV Z T200.heap x_73 .int (64 : Int32) (own_upd (own_upd (own_upd (fun _ => (.int (0 : Int32))) 0 (.int r41)) 1 (.int r45)) 2 (.int r49)) := f209
  have z220 := own_lt f209.lt
  have f210 : own_AV Z T200.heap x_74 .int (65 : Int32) (own_upd (own_upd (own_upd (fun _ => (.int (0 : Int32))) 1 (.int ((0 : Int32) + v1))) 2 (.int (((0 : Int32) + v1) + v14))) 3 (.int ((((0 : Int32) + v1) + v14) + v27))) := f210
  have z221 := own_lt f210.lt
  have f211 : own_AV Z T200.heap x_75 .int (64 : Int32) (own_cpf (own_n3 r29 r33 r37) 0 (own_cpf (own_n3 r16 r20 r24) 0 (own_cpf (own_n3 r3 r7 r11) 0 (fun _ => (.int (0 : Int32))) 0 (v1).toNatClampNeg) (((0 : Int32) + v1)).toNatClampNeg (v14).toNatClampNeg) ((((0 : Int32) + v1) + v14)).toNatClampNeg (v27).toNatClampNeg) := f211
  have z222 := own_lt f211.lt
  refine own_go (fun _ k => st200.trans k) ?_
  show own_Go _ _ _ _ T200 (mkF m 200 #[.val (.int p_1), .val (.int p_2), .val (.int p_3), .val (.int p_4), .val (.int v1), .val (.int r3), .val (.int r7), .val (.int r11), .val (.int v14), .val (.int r16), .val (.int r20), .val (.int r24), .val (.int v27), .val (.int r29), .val (.int r33), .val (.int r37), .val (.int r41), .val (.int r45), .val (.int r49), .val (.ref x53), .val (.ref x59), .val (.ref x65), .val (.ref b70), .unset, .unset, .unset] [])
  refine own_go (fun _ k => XS.aload X200.here hx rfl (hb hby at_200) rfl rfl k) ?_
  show own_Go _ _ _ _ T200 (mkF m 202 #[.val (.int p_1), .val (.int p_2), .val (.int p_3), .val (.int p_4), .val (.int v1), .val (.int r3), .val (.int r7), .val (.int r11), .val (.int v14), .val (.int r16), .val (.int r20), .val (.int r24), .val (.int v27), .val (.int r29), .val (.int r33), .val (.int r37), .val (.int r41), .val (.int r45), .val (.int r49), .val (.ref x53), .val (.ref x59), .val (.ref x65), .val (.ref b70), .unset, .unset, .unset] [(.ref b70)])
  refine own_go (fun _ k => XS.iconst X200.here hx rfl (hb hby at_202) k) ?_
  show own_Go _ _ _ _ T200 (mkF m 203 #[.val (.int p_1), .val (.int p_2), .val (.int p_3), .val (.int p_4), .val (.int v1), .val (.int r3), .val (.int r7), .val (.int r11), .val (.int v14), .val (.int r16), .val (.int r20), .val (.int r24), .val (.int v27), .val (.int r29), .val (.int r33), .val (.int r37), .val (.int r41), .val (.int r45), .val (.int r49), .val (.ref x53), .val (.ref x59), .val (.ref x65), .val (.ref b70), .unset, .unset, .unset] [(.int (0 : Int32)), (.ref b70)])
  obtain ⟨cq223, kq223, q223a, q223b, q223c⟩ := isOf hZ rfl f202
  obtain ⟨_, _, ⟨T223, L223, k223, n223⟩, -, X223, hS223, gr223, ⟨Lc223, hQ223, l223, y223, z223⟩, st223⟩ := X200.virtualBackS hx (y := (⟨"com/example/kalchas/kalchas/propositional/HornClauses", "body", "(I)[I"⟩ : MethodName)) (z := (⟨"com/example/kalchas/kalchas/propositional/HornClauses", "body", "(I)[I"⟩ : MethodName)) hown (mvT hZ w_59) (mvT hZ w_60) (notFace_of_selects (args := #[]) (mvT hZ w_62)) (mvT hZ w_62) (mvT hZ w_61) (by decide) (backOfS (W := 0) (own_rm9_0 l Z a0 hw [] b70 x_74 x_75 (own_upd (own_upd (own_upd (fun _ => (.int (0 : Int32))) 1 (.int ((0 : Int32) + v1))) 2 (.int (((0 : Int32) + v1) + v14))) 3 (.int ((((0 : Int32) + v1) + v14) + v27))) (own_cpf (own_n3 r29 r33 r37) 0 (own_cpf (own_n3 r16 r20 r24) 0 (own_cpf (own_n3 r3 r7 r11) 0 (fun _ => (.int (0 : Int32))) 0 (v1).toNatClampNeg) (((0 : Int32) + v1)).toNatClampNeg (v14).toNatClampNeg) ((((0 : Int32) + v1) + v14)).toNatClampNeg (v27).toNatClampNeg) (0 : Int32) ((0 : Int32) + v1) T200.heap n0 (by omega) f202 f204 f206 f207 f210 f211 rfl rfl (own_t0_3 v1 hl_v1) (own_cpff (fun _ => rfl) (own_cpff (fun _ => rfl) (own_cpff (fun _ => rfl) (fun _ => rfl))))) hZ w_63 w_10 (by decide) (by decide)) q223a q223c (g := (mkF m 203 #[.val (.int p_1), .val (.int p_2), .val (.int p_3), .val (.int p_4), .val (.int v1), .val (.int r3), .val (.int r7), .val (.int r11), .val (.int v14), .val (.int r16), .val (.int r20), .val (.int r24), .val (.int v27), .val (.int r29), .val (.int r33), .val (.int r37), .val (.int r41), .val (.int r45), .val (.int r49), .val (.ref x53), .val (.ref x59), .val (.ref x65), .val (.ref b70), .unset, .unset, .unset] [(.int (0 : Int32)), (.ref b70)])) rfl (by rw [hml]; rfl) (Steps.refl _) (argsL := [(.int (0 : Int32))]) (rest := []) (lenOf own_pd9 rfl) rfl (by show 2 * 0 + _ ≤ _; exact Nat.le_of_eq rfl) (hb hby at_203) (fun _ _ => ⟨rfl, rfl, (by show k200 + _ ≤ _; rw [y200]; decide), (by show n200 + _ ≤ _; rw [z200]; decide)⟩)
  dsimp only [Pt.U, Pt.locs, Pt.cells, Pt.slots] at X223 l223 y223 z223 st223 hQ223 hS223 gr223
  have y223 : k223 = 12 := own_addeq y223 (congrArg (fun q => q) y200) rfl
  have z223 : n223 = 278 := own_addeq z223 (congrArg (fun q => q) z200) rfl
  have Wn223 := hS223.1
  have Li224 := Li201.stays Wn223
  obtain ⟨X223, hS223, hZ, hown⟩ := rebS hS200 (n1 := T200.heap.size) (by omega) X223 hS223 gr223 hZ hown
  obtain ⟨x225, rfl, N223q, K223q, f226, f227⟩ := hQ223
  have N223 : Fr n0 L223 := by rw [l223]; exact Fr.app N200 N223q
  have z228 := K223q.1
  have f226 : own_AV Z T223.heap x225 .int (((0 : Int32) + v1) - (0 : Int32)) (own_sh (own_cpf (own_n3 r29 r33 r37) 0 (own_cpf (own_n3 r16 r20 r24) 0 (own_cpf (own_n3 r3 r7 r11) 0 (fun _ => (.int (0 : Int32))) 0 (v1).toNatClampNeg) (((0 : Int32) + v1)).toNatClampNeg (v14).toNatClampNeg) ((((0 : Int32) + v1) + v14)).toNatClampNeg (v27).toNatClampNeg) 0) := f226
  have z229 := own_lt f226.lt
  refine own_go (fun _ k => st223.trans k) ?_
  show own_Go _ _ _ _ T223 (mkF m 206 #[.val (.int p_1), .val (.int p_2), .val (.int p_3), .val (.int p_4), .val (.int v1), .val (.int r3), .val (.int r7), .val (.int r11), .val (.int v14), .val (.int r16), .val (.int r20), .val (.int r24), .val (.int v27), .val (.int r29), .val (.int r33), .val (.int r37), .val (.int r41), .val (.int r45), .val (.int r49), .val (.ref x53), .val (.ref x59), .val (.ref x65), .val (.ref b70), .unset, .unset, .unset] [(.ref x225)])
  refine own_go (fun _ k => XS.astore X223.here hx rfl (hb hby at_206) rfl rfl (l' := #[.val (.int p_1), .val (.int p_2), .val (.int p_3), .val (.int p_4), .val (.int v1), .val (.int r3), .val (.int r7), .val (.int r11), .val (.int v14), .val (.int r16), .val (.int r20), .val (.int r24), .val (.int v27), .val (.int r29), .val (.int r33), .val (.int r37), .val (.int r41), .val (.int r45), .val (.int r49), .val (.ref x53), .val (.ref x59), .val (.ref x65), .val (.ref b70), .val (.ref x225), .unset, .unset]) rfl k) ?_
  show own_Go _ _ _ _ T223 (mkF m 208 #[.val (.int p_1), .val (.int p_2), .val (.int p_3), .val (.int p_4), .val (.int v1), .val (.int r3), .val (.int r7), .val (.int r11), .val (.int v14), .val (.int r16), .val (.int r20), .val (.int r24), .val (.int v27), .val (.int r29), .val (.int r33), .val (.int r37), .val (.int r41), .val (.int r45), .val (.int r49), .val (.ref x53), .val (.ref x59), .val (.ref x65), .val (.ref b70), .val (.ref x225), .unset, .unset] [])
  refine own_go (fun _ k => XS.aload X223.here hx rfl (hb hby at_208) rfl rfl k) ?_
  show own_Go _ _ _ _ T223 (mkF m 210 #[.val (.int p_1), .val (.int p_2), .val (.int p_3), .val (.int p_4), .val (.int v1), .val (.int r3), .val (.int r7), .val (.int r11), .val (.int v14), .val (.int r16), .val (.int r20), .val (.int r24), .val (.int v27), .val (.int r29), .val (.int r33), .val (.int r37), .val (.int r41), .val (.int r45), .val (.int r49), .val (.ref x53), .val (.ref x59), .val (.ref x65), .val (.ref b70), .val (.ref x225), .unset, .unset] [(.ref b70)])
  refine own_go (fun _ k => XS.iconst X223.here hx rfl (hb hby at_210) k) ?_
  show own_Go _ _ _ _ T223 (mkF m 211 #[.val (.int p_1), .val (.int p_2), .val (.int p_3), .val (.int p_4), .val (.int v1), .val (.int r3), .val (.int r7), .val (.int r11), .val (.int v14), .val (.int r16), .val (.int r20), .val (.int r24), .val (.int v27), .val (.int r29), .val (.int r33), .val (.int r37), .val (.int r41), .val (.int r45), .val (.int r49), .val (.ref x53), .val (.ref x59), .val (.ref x65), .val (.ref b70), .val (.ref x225), .unset, .unset] [(.int (1 : Int32)), (.ref b70)])
  have f230 : Exa Z T223.heap b70 "com/example/kalchas/kalchas/propositional/HornClauses" := (f202.keep K223q)
  have f231 : Fld Z T223.heap b70 "com/example/kalchas/kalchas/propositional/HornClauses" "clauseCount" "I" (.int (3 : Int32)) := (f204.keep K223q nin0)
  have f232 : Fld Z T223.heap b70 "com/example/kalchas/kalchas/propositional/HornClauses" "bodyStarts" "[I" (.ref x_74) := (f206.keep K223q nin0)
  have f233 : Fld Z T223.heap b70 "com/example/kalchas/kalchas/propositional/HornClauses" "bodies" "[I" (.ref x_75) := (f207.keep K223q nin0)
  have f234 : own_AV Z T223.heap x_74 .int (65 : Int32) (own_upd (own_upd (own_upd (fun _ => (.int (0 : Int32))) 1 (.int ((0 : Int32) + v1))) 2 (.int (((0 : Int32) + v1) + v14))) 3 (.int ((((0 : Int32) + v1) + v14) + v27))) := (f210.keep K223q nin0)
  have f235 : own_AV Z T223.heap x_75 .int (64 : Int32) (own_cpf (own_n3 r29 r33 r37) 0 (own_cpf (own_n3 r16 r20 r24) 0 (own_cpf (own_n3 r3 r7 r11) 0 (fun _ => (.int (0 : Int32))) 0 (v1).toNatClampNeg) (((0 : Int32) + v1)).toNatClampNeg (v14).toNatClampNeg) ((((0 : Int32) + v1) + v14)).toNatClampNeg (v27).toNatClampNeg) := (f211.keep K223q nin0)
  obtain ⟨cq236, kq236, q236a, q236b, q236c⟩ := isOf hZ rfl f230
  obtain ⟨_, _, ⟨T236, L236, k236, n236⟩, -, X236, hS236, gr236, ⟨Lc236, hQ236, l236, y236, z236⟩, st236⟩ := X223.virtualBackS hx (y := (⟨"com/example/kalchas/kalchas/propositional/HornClauses", "body", "(I)[I"⟩ : MethodName)) (z := (⟨"com/example/kalchas/kalchas/propositional/HornClauses", "body", "(I)[I"⟩ : MethodName)) hown (mvT hZ w_59) (mvT hZ w_60) (notFace_of_selects (args := #[]) (mvT hZ w_62)) (mvT hZ w_62) (mvT hZ w_61) (by decide) (backOfS (W := 0) (own_rm9_1 l Z a0 hw [] b70 x_74 x_75 (own_upd (own_upd (own_upd (fun _ => (.int (0 : Int32))) 1 (.int ((0 : Int32) + v1))) 2 (.int (((0 : Int32) + v1) + v14))) 3 (.int ((((0 : Int32) + v1) + v14) + v27))) (own_cpf (own_n3 r29 r33 r37) 0 (own_cpf (own_n3 r16 r20 r24) 0 (own_cpf (own_n3 r3 r7 r11) 0 (fun _ => (.int (0 : Int32))) 0 (v1).toNatClampNeg) (((0 : Int32) + v1)).toNatClampNeg (v14).toNatClampNeg) ((((0 : Int32) + v1) + v14)).toNatClampNeg (v27).toNatClampNeg) ((0 : Int32) + v1) (((0 : Int32) + v1) + v14) T223.heap n0 (by omega) f230 f231 f232 f233 f234 f235 rfl rfl (own_t0_4 v1 v14 hl_v1 hl_v14) (own_cpff (fun _ => rfl) (own_cpff (fun _ => rfl) (own_cpff (fun _ => rfl) (fun _ => rfl))))) hZ w_63 w_10 (by decide) (by decide)) q236a q236c (g := (mkF m 211 #[.val (.int p_1), .val (.int p_2), .val (.int p_3), .val (.int p_4), .val (.int v1), .val (.int r3), .val (.int r7), .val (.int r11), .val (.int v14), .val (.int r16), .val (.int r20), .val (.int r24), .val (.int v27), .val (.int r29), .val (.int r33), .val (.int r37), .val (.int r41), .val (.int r45), .val (.int r49), .val (.ref x53), .val (.ref x59), .val (.ref x65), .val (.ref b70), .val (.ref x225), .unset, .unset] [(.int (1 : Int32)), (.ref b70)])) rfl (by rw [hml]; rfl) (Steps.refl _) (argsL := [(.int (1 : Int32))]) (rest := []) (lenOf own_pd9 rfl) rfl (by show 2 * 0 + _ ≤ _; exact Nat.le_of_eq rfl) (hb hby at_211) (fun _ _ => ⟨rfl, rfl, (by show k223 + _ ≤ _; rw [y223]; decide), (by show n223 + _ ≤ _; rw [z223]; decide)⟩)
  dsimp only [Pt.U, Pt.locs, Pt.cells, Pt.slots] at X236 l236 y236 z236 st236 hQ236 hS236 gr236
  have y236 : k236 = 15 := own_addeq y236 (congrArg (fun q => q) y223) rfl
  have z236 : n236 = 309 := own_addeq z236 (congrArg (fun q => q) z223) rfl
  have Wn236 := hS236.1
  have Li237 := Li224.stays Wn236
  obtain ⟨X236, hS236, hZ, hown⟩ := rebS hS223 (n1 := T223.heap.size) (by omega) X236 hS236 gr236 hZ hown
  obtain ⟨x238, rfl, N236q, K236q, f239, f240⟩ := hQ236
  have N236 : Fr n0 L236 := by rw [l236]; exact Fr.app N223 N236q
  have z241 := K236q.1
  have z242 := own_lt f239.lt
  refine own_go (fun _ k => st236.trans k) ?_
  show own_Go _ _ _ _ T236 (mkF m 214 #[.val (.int p_1), .val (.int p_2), .val (.int p_3), .val (.int p_4), .val (.int v1), .val (.int r3), .val (.int r7), .val (.int r11), .val (.int v14), .val (.int r16), .val (.int r20), .val (.int r24), .val (.int v27), .val (.int r29), .val (.int r33), .val (.int r37), .val (.int r41), .val (.int r45), .val (.int r49), .val (.ref x53), .val (.ref x59), .val (.ref x65), .val (.ref b70), .val (.ref x225), .unset, .unset] [(.ref x238)])
  refine own_go (fun _ k => XS.astore X236.here hx rfl (hb hby at_214) rfl rfl (l' := #[.val (.int p_1), .val (.int p_2), .val (.int p_3), .val (.int p_4), .val (.int v1), .val (.int r3), .val (.int r7), .val (.int r11), .val (.int v14), .val (.int r16), .val (.int r20), .val (.int r24), .val (.int v27), .val (.int r29), .val (.int r33), .val (.int r37), .val (.int r41), .val (.int r45), .val (.int r49), .val (.ref x53), .val (.ref x59), .val (.ref x65), .val (.ref b70), .val (.ref x225), .val (.ref x238), .unset]) rfl k) ?_
  show own_Go _ _ _ _ T236 (mkF m 216 #[.val (.int p_1), .val (.int p_2), .val (.int p_3), .val (.int p_4), .val (.int v1), .val (.int r3), .val (.int r7), .val (.int r11), .val (.int v14), .val (.int r16), .val (.int r20), .val (.int r24), .val (.int v27), .val (.int r29), .val (.int r33), .val (.int r37), .val (.int r41), .val (.int r45), .val (.int r49), .val (.ref x53), .val (.ref x59), .val (.ref x65), .val (.ref b70), .val (.ref x225), .val (.ref x238), .unset] [])
  refine own_go (fun _ k => XS.aload X236.here hx rfl (hb hby at_216) rfl rfl k) ?_
  show own_Go _ _ _ _ T236 (mkF m 218 #[.val (.int p_1), .val (.int p_2), .val (.int p_3), .val (.int p_4), .val (.int v1), .val (.int r3), .val (.int r7), .val (.int r11), .val (.int v14), .val (.int r16), .val (.int r20), .val (.int r24), .val (.int v27), .val (.int r29), .val (.int r33), .val (.int r37), .val (.int r41), .val (.int r45), .val (.int r49), .val (.ref x53), .val (.ref x59), .val (.ref x65), .val (.ref b70), .val (.ref x225), .val (.ref x238), .unset] [(.ref b70)])
  refine own_go (fun _ k => XS.iconst X236.here hx rfl (hb hby at_218) k) ?_
  show own_Go _ _ _ _ T236 (mkF m 219 #[.val (.int p_1), .val (.int p_2), .val (.int p_3), .val (.int p_4), .val (.int v1), .val (.int r3), .val (.int r7), .val (.int r11), .val (.int v14), .val (.int r16), .val (.int r20), .val (.int r24), .val (.int v27), .val (.int r29), .val (.int r33), .val (.int r37), .val (.int r41), .val (.int r45), .val (.int r49), .val (.ref x53), .val (.ref x59), .val (.ref x65), .val (.ref b70), .val (.ref x225), .val (.ref x238), .unset] [(.int (2 : Int32)), (.ref b70)])
  have f243 : Exa Z T236.heap b70 "com/example/kalchas/kalchas/propositional/HornClauses" := (f230.keep K236q)
  have f244 : Fld Z T236.heap b70 "com/example/kalchas/kalchas/propositional/HornClauses" "clauseCount" "I" (.int (3 : Int32)) := (f231.keep K236q nin0)
  have f245 : Fld Z T236.heap b70 "com/example/kalchas/kalchas/propositional/HornClauses" "bodyStarts" "[I" (.ref x_74) := (f232.keep K236q nin0)
  have f246 : Fld Z T236.heap b70 "com/example/kalchas/kalchas/propositional/HornClauses" "bodies" "[I" (.ref x_75) := (f233.keep K236q nin0)
  have f247 : own_AV Z T236.heap x_74 .int (65 : Int32) (own_upd (own_upd (own_upd (fun _ => (.int (0 : Int32))) 1 (.int ((0 : Int32) + v1))) 2 (.int (((0 : Int32) + v1) + v14))) 3 (.int ((((0 : Int32) + v1) + v14) + v27))) := (f234.keep K236q nin0)
  have f248 : own_AV Z T236.heap x_75 .int (64 : Int32) (own_cpf (own_n3 r29 r33 r37) 0 (own_cpf (own_n3 r16 r20 r24) 0 (own_cpf (own_n3 r3 r7 r11) 0 (fun _ => (.int (0 : Int32))) 0 (v1).toNatClampNeg) (((0 : Int32) + v1)).toNatClampNeg (v14).toNatClampNeg) ((((0 : Int32) + v1) + v14)).toNatClampNeg (v27).toNatClampNeg) := (f235.keep K236q nin0)
  obtain ⟨cq249, kq249, q249a, q249b, q249c⟩ := isOf hZ rfl f243
  obtain ⟨_, _, ⟨T249, L249, k249, n249⟩, -, X249, hS249, gr249, ⟨Lc249, hQ249, l249, y249, z249⟩, st249⟩ := X236.virtualBackS hx (y := (⟨"com/example/kalchas/kalchas/propositional/HornClauses", "body", "(I)[I"⟩ : MethodName)) (z := (⟨"com/example/kalchas/kalchas/propositional/HornClauses", "body", "(I)[I"⟩ : MethodName)) hown (mvT hZ w_59) (mvT hZ w_60) (notFace_of_selects (args := #[]) (mvT hZ w_62)) (mvT hZ w_62) (mvT hZ w_61) (by decide) (backOfS (W := 0) (own_rm9_2 l Z a0 hw [] b70 x_74 x_75 (own_upd (own_upd (own_upd (fun _ => (.int (0 : Int32))) 1 (.int ((0 : Int32) + v1))) 2 (.int (((0 : Int32) + v1) + v14))) 3 (.int ((((0 : Int32) + v1) + v14) + v27))) (own_cpf (own_n3 r29 r33 r37) 0 (own_cpf (own_n3 r16 r20 r24) 0 (own_cpf (own_n3 r3 r7 r11) 0 (fun _ => (.int (0 : Int32))) 0 (v1).toNatClampNeg) (((0 : Int32) + v1)).toNatClampNeg (v14).toNatClampNeg) ((((0 : Int32) + v1) + v14)).toNatClampNeg (v27).toNatClampNeg) (((0 : Int32) + v1) + v14) ((((0 : Int32) + v1) + v14) + v27) T236.heap n0 (by omega) f243 f244 f245 f246 f247 f248 rfl rfl (own_t0_5 v1 v14 v27 hl_v1 hl_v14 hl_v27) (own_cpff (fun _ => rfl) (own_cpff (fun _ => rfl) (own_cpff (fun _ => rfl) (fun _ => rfl))))) hZ w_63 w_10 (by decide) (by decide)) q249a q249c (g := (mkF m 219 #[.val (.int p_1), .val (.int p_2), .val (.int p_3), .val (.int p_4), .val (.int v1), .val (.int r3), .val (.int r7), .val (.int r11), .val (.int v14), .val (.int r16), .val (.int r20), .val (.int r24), .val (.int v27), .val (.int r29), .val (.int r33), .val (.int r37), .val (.int r41), .val (.int r45), .val (.int r49), .val (.ref x53), .val (.ref x59), .val (.ref x65), .val (.ref b70), .val (.ref x225), .val (.ref x238), .unset] [(.int (2 : Int32)), (.ref b70)])) rfl (by rw [hml]; rfl) (Steps.refl _) (argsL := [(.int (2 : Int32))]) (rest := []) (lenOf own_pd9 rfl) rfl (by show 2 * 0 + _ ≤ _; exact Nat.le_of_eq rfl) (hb hby at_219) (fun _ _ => ⟨rfl, rfl, (by show k236 + _ ≤ _; rw [y236]; decide), (by show n236 + _ ≤ _; rw [z236]; decide)⟩)
  dsimp only [Pt.U, Pt.locs, Pt.cells, Pt.slots] at X249 l249 y249 z249 st249 hQ249 hS249 gr249
  have y249 : k249 = 18 := own_addeq y249 (congrArg (fun q => q) y236) rfl
  have z249 : n249 = 340 := own_addeq z249 (congrArg (fun q => q) z236) rfl
  have Wn249 := hS249.1
  have Li250 := Li237.stays Wn249
  obtain ⟨X249, hS249, hZ, hown⟩ := rebS hS236 (n1 := T236.heap.size) (by omega) X249 hS249 gr249 hZ hown
  obtain ⟨x251, rfl, N249q, K249q, f252, f253⟩ := hQ249
  have N249 : Fr n0 L249 := by rw [l249]; exact Fr.app N236 N249q
  have z254 := K249q.1
  have z255 := own_lt f252.lt
  refine own_go (fun _ k => st249.trans k) ?_
  show own_Go _ _ _ _ T249 (mkF m 222 #[.val (.int p_1), .val (.int p_2), .val (.int p_3), .val (.int p_4), .val (.int v1), .val (.int r3), .val (.int r7), .val (.int r11), .val (.int v14), .val (.int r16), .val (.int r20), .val (.int r24), .val (.int v27), .val (.int r29), .val (.int r33), .val (.int r37), .val (.int r41), .val (.int r45), .val (.int r49), .val (.ref x53), .val (.ref x59), .val (.ref x65), .val (.ref b70), .val (.ref x225), .val (.ref x238), .unset] [(.ref x251)])
  refine own_go (fun _ k => XS.astore X249.here hx rfl (hb hby at_222) rfl rfl (l' := #[.val (.int p_1), .val (.int p_2), .val (.int p_3), .val (.int p_4), .val (.int v1), .val (.int r3), .val (.int r7), .val (.int r11), .val (.int v14), .val (.int r16), .val (.int r20), .val (.int r24), .val (.int v27), .val (.int r29), .val (.int r33), .val (.int r37), .val (.int r41), .val (.int r45), .val (.int r49), .val (.ref x53), .val (.ref x59), .val (.ref x65), .val (.ref b70), .val (.ref x225), .val (.ref x238), .val (.ref x251)]) rfl k) ?_
  show own_Go _ _ _ _ T249 (mkF m 224 #[.val (.int p_1), .val (.int p_2), .val (.int p_3), .val (.int p_4), .val (.int v1), .val (.int r3), .val (.int r7), .val (.int r11), .val (.int v14), .val (.int r16), .val (.int r20), .val (.int r24), .val (.int v27), .val (.int r29), .val (.int r33), .val (.int r37), .val (.int r41), .val (.int r45), .val (.int r49), .val (.ref x53), .val (.ref x59), .val (.ref x65), .val (.ref b70), .val (.ref x225), .val (.ref x238), .val (.ref x251)] [])
  refine own_go (fun _ k => XS.aload X249.here hx rfl (hb hby at_224) rfl rfl k) ?_
  show own_Go _ _ _ _ T249 (mkF m 226 #[.val (.int p_1), .val (.int p_2), .val (.int p_3), .val (.int p_4), .val (.int v1), .val (.int r3), .val (.int r7), .val (.int r11), .val (.int v14), .val (.int r16), .val (.int r20), .val (.int r24), .val (.int v27), .val (.int r29), .val (.int r33), .val (.int r37), .val (.int r41), .val (.int r45), .val (.int r49), .val (.ref x53), .val (.ref x59), .val (.ref x65), .val (.ref b70), .val (.ref x225), .val (.ref x238), .val (.ref x251)] [(.ref x225)])
  refine own_go (fun _ k => XS.iload X249.here hx rfl (hb hby at_226) rfl k) ?_
  show own_Go _ _ _ _ T249 (mkF m 228 #[.val (.int p_1), .val (.int p_2), .val (.int p_3), .val (.int p_4), .val (.int v1), .val (.int r3), .val (.int r7), .val (.int r11), .val (.int v14), .val (.int r16), .val (.int r20), .val (.int r24), .val (.int v27), .val (.int r29), .val (.int r33), .val (.int r37), .val (.int r41), .val (.int r45), .val (.int r49), .val (.ref x53), .val (.ref x59), .val (.ref x65), .val (.ref b70), .val (.ref x225), .val (.ref x238), .val (.ref x251)] [(.int v1), (.ref x225)])
  refine own_go (fun _ k => XS.iload X249.here hx rfl (hb hby at_228) rfl k) ?_
  show own_Go _ _ _ _ T249 (mkF m 230 #[.val (.int p_1), .val (.int p_2), .val (.int p_3), .val (.int p_4), .val (.int v1), .val (.int r3), .val (.int r7), .val (.int r11), .val (.int v14), .val (.int r16), .val (.int r20), .val (.int r24), .val (.int v27), .val (.int r29), .val (.int r33), .val (.int r37), .val (.int r41), .val (.int r45), .val (.int r49), .val (.ref x53), .val (.ref x59), .val (.ref x65), .val (.ref b70), .val (.ref x225), .val (.ref x238), .val (.ref x251)] [(.int r3), (.int v1), (.ref x225)])
  refine own_go (fun _ k => XS.iload X249.here hx rfl (hb hby at_230) rfl k) ?_
  show own_Go _ _ _ _ T249 (mkF m 232 #[.val (.int p_1), .val (.int p_2), .val (.int p_3), .val (.int p_4), .val (.int v1), .val (.int r3), .val (.int r7), .val (.int r11), .val (.int v14), .val (.int r16), .val (.int r20), .val (.int r24), .val (.int v27), .val (.int r29), .val (.int r33), .val (.int r37), .val (.int r41), .val (.int r45), .val (.int r49), .val (.ref x53), .val (.ref x59), .val (.ref x65), .val (.ref b70), .val (.ref x225), .val (.ref x238), .val (.ref x251)] [(.int r7), (.int r3), (.int v1), (.ref x225)])
  refine own_go (fun _ k => XS.iload X249.here hx rfl (hb hby at_232) rfl k) ?_
  show own_Go _ _ _ _ T249 (mkF m 234 #[.val (.int p_1), .val (.int p_2), .val (.int p_3), .val (.int p_4), .val (.int v1), .val (.int r3), .val (.int r7), .val (.int r11), .val (.int v14), .val (.int r16), .val (.int r20), .val (.int r24), .val (.int v27), .val (.int r29), .val (.int r33), .val (.int r37), .val (.int r41), .val (.int r45), .val (.int r49), .val (.ref x53), .val (.ref x59), .val (.ref x65), .val (.ref b70), .val (.ref x225), .val (.ref x238), .val (.ref x251)] [(.int r11), (.int r7), (.int r3), (.int v1), (.ref x225)])
  have f256 : own_AV Z T249.heap x225 .int (((0 : Int32) + v1) - (0 : Int32)) (own_sh (own_cpf (own_n3 r29 r33 r37) 0 (own_cpf (own_n3 r16 r20 r24) 0 (own_cpf (own_n3 r3 r7 r11) 0 (fun _ => (.int (0 : Int32))) 0 (v1).toNatClampNeg) (((0 : Int32) + v1)).toNatClampNeg (v14).toNatClampNeg) ((((0 : Int32) + v1) + v14)).toNatClampNeg (v27).toNatClampNeg) 0) := ((f226.keep K236q nin0).keep K249q nin0)
  obtain ⟨_, _, ⟨T257, L257, k257, n257⟩, -, X257, ⟨Lc257, hQ257, l257, y257, z257⟩, st257⟩ := Jvm.LawKit.callS X249 hx (y := (⟨"com/example/kalchas/kalchas/propositional/HornClausesBodyPinLaw", "same", "([IIIII)Z"⟩ : MethodName)) hown (mvT hZ w_84) (mvT hZ w_85) (mvT hZ w_2) (mvT hZ w_86) (by decide) (backOf (W := 0) (own_rm15 l Z a0 hw [] x225 v1 r3 r7 r11 (((0 : Int32) + v1) - (0 : Int32)) (own_sh (own_cpf (own_n3 r29 r33 r37) 0 (own_cpf (own_n3 r16 r20 r24) 0 (own_cpf (own_n3 r3 r7 r11) 0 (fun _ => (.int (0 : Int32))) 0 (v1).toNatClampNeg) (((0 : Int32) + v1)).toNatClampNeg (v14).toNatClampNeg) ((((0 : Int32) + v1) + v14)).toNatClampNeg (v27).toNatClampNeg) 0) T249.heap n0 (by omega) f256 (Int32.toInt_inj.mp (own_t0_6 v1 hl_v1)) (show v1 = (0 : Int32) ∨ v1 = (1 : Int32) ∨ v1 = (2 : Int32) ∨ v1 = (3 : Int32) by first | assumption | omega | decide) (own_pick0 (by decide) (by decide) (own_t0_7 v1 hl_v1) (own_t0_8 v1 v14 hl_v1 hl_v14) (by decide))) hZ w_86 w_2 (by decide) (by decide)) (g := (mkF m 234 #[.val (.int p_1), .val (.int p_2), .val (.int p_3), .val (.int p_4), .val (.int v1), .val (.int r3), .val (.int r7), .val (.int r11), .val (.int v14), .val (.int r16), .val (.int r20), .val (.int r24), .val (.int v27), .val (.int r29), .val (.int r33), .val (.int r37), .val (.int r41), .val (.int r45), .val (.int r49), .val (.ref x53), .val (.ref x59), .val (.ref x65), .val (.ref b70), .val (.ref x225), .val (.ref x238), .val (.ref x251)] [(.int r11), (.int r7), (.int r3), (.int v1), (.ref x225)])) rfl (by rw [hml]; rfl) (argsL := [(.ref x225), (.int v1), (.int r3), (.int r7), (.int r11)]) (rest := []) (lenOf own_pd10 rfl) rfl (by show 2 * 0 + _ ≤ _; exact Nat.le_of_eq rfl) (hb hby at_234) (fun _ _ => ⟨rfl, rfl, (by show k249 + _ ≤ _; rw [y249]; decide), (by show n249 + _ ≤ _; rw [z249]; decide)⟩)
  dsimp only [Pt.U, Pt.locs, Pt.cells, Pt.slots] at X257 l257 y257 z257 st257 hQ257
  have y257 : k257 = 18 := own_addeq y257 (congrArg (fun q => q) y249) rfl
  have z257 : n257 = 340 := own_addeq z257 (congrArg (fun q => q) z249) rfl
  obtain ⟨rfl, N257q, e257⟩ := hQ257
  have N257 : Fr n0 L257 := by rw [l257]; exact Fr.app N249 N257q
  refine own_go (fun _ k => st257 _ k) ?_
  show own_Go _ _ _ _ T257 (mkF m 237 #[.val (.int p_1), .val (.int p_2), .val (.int p_3), .val (.int p_4), .val (.int v1), .val (.int r3), .val (.int r7), .val (.int r11), .val (.int v14), .val (.int r16), .val (.int r20), .val (.int r24), .val (.int v27), .val (.int r29), .val (.int r33), .val (.int r37), .val (.int r41), .val (.int r45), .val (.int r49), .val (.ref x53), .val (.ref x59), .val (.ref x65), .val (.ref b70), .val (.ref x225), .val (.ref x238), .val (.ref x251)] [(.int (1 : Int32))])
  have hc258 : ¬ ((1 : Int32) = 0) := by decide
  refine own_go (fun _ k => XS.ifNo X257.here hx rfl (hb hby at_237) rfl (Jvm.Free.XT.i0_eq_f hc258) k) ?_
  show own_Go _ _ _ _ T257 (mkF m 240 #[.val (.int p_1), .val (.int p_2), .val (.int p_3), .val (.int p_4), .val (.int v1), .val (.int r3), .val (.int r7), .val (.int r11), .val (.int v14), .val (.int r16), .val (.int r20), .val (.int r24), .val (.int v27), .val (.int r29), .val (.int r33), .val (.int r37), .val (.int r41), .val (.int r45), .val (.int r49), .val (.ref x53), .val (.ref x59), .val (.ref x65), .val (.ref b70), .val (.ref x225), .val (.ref x238), .val (.ref x251)] [])
  refine own_go (fun _ k => XS.aload X257.here hx rfl (hb hby at_240) rfl rfl k) ?_
  show own_Go _ _ _ _ T257 (mkF m 242 #[.val (.int p_1), .val (.int p_2), .val (.int p_3), .val (.int p_4), .val (.int v1), .val (.int r3), .val (.int r7), .val (.int r11), .val (.int v14), .val (.int r16), .val (.int r20), .val (.int r24), .val (.int v27), .val (.int r29), .val (.int r33), .val (.int r37), .val (.int r41), .val (.int r45), .val (.int r49), .val (.ref x53), .val (.ref x59), .val (.ref x65), .val (.ref b70), .val (.ref x225), .val (.ref x238), .val (.ref x251)] [(.ref x238)])
  refine own_go (fun _ k => XS.iload X257.here hx rfl (hb hby at_242) rfl k) ?_
  show own_Go _ _ _ _ T257 (mkF m 244 #[.val (.int p_1), .val (.int p_2), .val (.int p_3), .val (.int p_4), .val (.int v1), .val (.int r3), .val (.int r7), .val (.int r11), .val (.int v14), .val (.int r16), .val (.int r20), .val (.int r24), .val (.int v27), .val (.int r29), .val (.int r33), .val (.int r37), .val (.int r41), .val (.int r45), .val (.int r49), .val (.ref x53), .val (.ref x59), .val (.ref x65), .val (.ref b70), .val (.ref x225), .val (.ref x238), .val (.ref x251)] [(.int v14), (.ref x238)])
  refine own_go (fun _ k => XS.iload X257.here hx rfl (hb hby at_244) rfl k) ?_
  show own_Go _ _ _ _ T257 (mkF m 246 #[.val (.int p_1), .val (.int p_2), .val (.int p_3), .val (.int p_4), .val (.int v1), .val (.int r3), .val (.int r7), .val (.int r11), .val (.int v14), .val (.int r16), .val (.int r20), .val (.int r24), .val (.int v27), .val (.int r29), .val (.int r33), .val (.int r37), .val (.int r41), .val (.int r45), .val (.int r49), .val (.ref x53), .val (.ref x59), .val (.ref x65), .val (.ref b70), .val (.ref x225), .val (.ref x238), .val (.ref x251)] [(.int r16), (.int v14), (.ref x238)])
  refine own_go (fun _ k => XS.iload X257.here hx rfl (hb hby at_246) rfl k) ?_
  show own_Go _ _ _ _ T257 (mkF m 248 #[.val (.int p_1), .val (.int p_2), .val (.int p_3), .val (.int p_4), .val (.int v1), .val (.int r3), .val (.int r7), .val (.int r11), .val (.int v14), .val (.int r16), .val (.int r20), .val (.int r24), .val (.int v27), .val (.int r29), .val (.int r33), .val (.int r37), .val (.int r41), .val (.int r45), .val (.int r49), .val (.ref x53), .val (.ref x59), .val (.ref x65), .val (.ref b70), .val (.ref x225), .val (.ref x238), .val (.ref x251)] [(.int r20), (.int r16), (.int v14), (.ref x238)])
  refine own_go (fun _ k => XS.iload X257.here hx rfl (hb hby at_248) rfl k) ?_
  show own_Go _ _ _ _ T257 (mkF m 250 #[.val (.int p_1), .val (.int p_2), .val (.int p_3), .val (.int p_4), .val (.int v1), .val (.int r3), .val (.int r7), .val (.int r11), .val (.int v14), .val (.int r16), .val (.int r20), .val (.int r24), .val (.int v27), .val (.int r29), .val (.int r33), .val (.int r37), .val (.int r41), .val (.int r45), .val (.int r49), .val (.ref x53), .val (.ref x59), .val (.ref x65), .val (.ref b70), .val (.ref x225), .val (.ref x238), .val (.ref x251)] [(.int r24), (.int r20), (.int r16), (.int v14), (.ref x238)])
  have f259 : own_AV Z T249.heap x238 .int ((((0 : Int32) + v1) + v14) - ((0 : Int32) + v1)) (own_sh (own_cpf (own_n3 r29 r33 r37) 0 (own_cpf (own_n3 r16 r20 r24) 0 (own_cpf (own_n3 r3 r7 r11) 0 (fun _ => (.int (0 : Int32))) 0 (v1).toNatClampNeg) (((0 : Int32) + v1)).toNatClampNeg (v14).toNatClampNeg) ((((0 : Int32) + v1) + v14)).toNatClampNeg (v27).toNatClampNeg) (((0 : Int32) + v1)).toNatClampNeg) := (f239.keep K249q nin0)
  obtain ⟨_, _, ⟨T260, L260, k260, n260⟩, -, X260, ⟨Lc260, hQ260, l260, y260, z260⟩, st260⟩ := Jvm.LawKit.callS X257 hx (y := (⟨"com/example/kalchas/kalchas/propositional/HornClausesBodyPinLaw", "same", "([IIIII)Z"⟩ : MethodName)) hown (mvT hZ w_84) (mvT hZ w_85) (mvT hZ w_2) (mvT hZ w_86) (by decide) (backOf (W := 0) (own_rm15 l Z a0 hw [] x238 v14 r16 r20 r24 ((((0 : Int32) + v1) + v14) - ((0 : Int32) + v1)) (own_sh (own_cpf (own_n3 r29 r33 r37) 0 (own_cpf (own_n3 r16 r20 r24) 0 (own_cpf (own_n3 r3 r7 r11) 0 (fun _ => (.int (0 : Int32))) 0 (v1).toNatClampNeg) (((0 : Int32) + v1)).toNatClampNeg (v14).toNatClampNeg) ((((0 : Int32) + v1) + v14)).toNatClampNeg (v27).toNatClampNeg) (((0 : Int32) + v1)).toNatClampNeg) T249.heap n0 (by omega) f259 (Int32.toInt_inj.mp (own_t0_10 v1 v14 hl_v1 hl_v14)) (show v14 = (0 : Int32) ∨ v14 = (1 : Int32) ∨ v14 = (2 : Int32) ∨ v14 = (3 : Int32) by first | assumption | omega | decide) (own_pick1 (by decide) (own_t0_9 v1 v14 hl_v1 hl_v14) rfl)) hZ w_86 w_2 (by decide) (by decide)) (g := (mkF m 250 #[.val (.int p_1), .val (.int p_2), .val (.int p_3), .val (.int p_4), .val (.int v1), .val (.int r3), .val (.int r7), .val (.int r11), .val (.int v14), .val (.int r16), .val (.int r20), .val (.int r24), .val (.int v27), .val (.int r29), .val (.int r33), .val (.int r37), .val (.int r41), .val (.int r45), .val (.int r49), .val (.ref x53), .val (.ref x59), .val (.ref x65), .val (.ref b70), .val (.ref x225), .val (.ref x238), .val (.ref x251)] [(.int r24), (.int r20), (.int r16), (.int v14), (.ref x238)])) rfl (by rw [hml]; rfl) (argsL := [(.ref x238), (.int v14), (.int r16), (.int r20), (.int r24)]) (rest := []) (lenOf own_pd10 rfl) rfl (by show 2 * 0 + _ ≤ _; exact Nat.le_of_eq rfl) (hb hby at_250) (fun _ _ => ⟨rfl, e257, (by show k257 + _ ≤ _; rw [y257]; decide), (by show n257 + _ ≤ _; rw [z257]; decide)⟩)
  dsimp only [Pt.U, Pt.locs, Pt.cells, Pt.slots] at X260 l260 y260 z260 st260 hQ260
  have y260 : k260 = 18 := own_addeq y260 (congrArg (fun q => q) y257) rfl
  have z260 : n260 = 340 := own_addeq z260 (congrArg (fun q => q) z257) rfl
  obtain ⟨rfl, N260q, e260⟩ := hQ260
  have N260 : Fr n0 L260 := by rw [l260]; exact Fr.app N257 N260q
  refine own_go (fun _ k => st260 _ k) ?_
  show own_Go _ _ _ _ T260 (mkF m 253 #[.val (.int p_1), .val (.int p_2), .val (.int p_3), .val (.int p_4), .val (.int v1), .val (.int r3), .val (.int r7), .val (.int r11), .val (.int v14), .val (.int r16), .val (.int r20), .val (.int r24), .val (.int v27), .val (.int r29), .val (.int r33), .val (.int r37), .val (.int r41), .val (.int r45), .val (.int r49), .val (.ref x53), .val (.ref x59), .val (.ref x65), .val (.ref b70), .val (.ref x225), .val (.ref x238), .val (.ref x251)] [(.int (1 : Int32))])
  have hc261 : ¬ ((1 : Int32) = 0) := by decide
  refine own_go (fun _ k => XS.ifNo X260.here hx rfl (hb hby at_253) rfl (Jvm.Free.XT.i0_eq_f hc261) k) ?_
  show own_Go _ _ _ _ T260 (mkF m 256 #[.val (.int p_1), .val (.int p_2), .val (.int p_3), .val (.int p_4), .val (.int v1), .val (.int r3), .val (.int r7), .val (.int r11), .val (.int v14), .val (.int r16), .val (.int r20), .val (.int r24), .val (.int v27), .val (.int r29), .val (.int r33), .val (.int r37), .val (.int r41), .val (.int r45), .val (.int r49), .val (.ref x53), .val (.ref x59), .val (.ref x65), .val (.ref b70), .val (.ref x225), .val (.ref x238), .val (.ref x251)] [])
  refine own_go (fun _ k => XS.aload X260.here hx rfl (hb hby at_256) rfl rfl k) ?_
  show own_Go _ _ _ _ T260 (mkF m 258 #[.val (.int p_1), .val (.int p_2), .val (.int p_3), .val (.int p_4), .val (.int v1), .val (.int r3), .val (.int r7), .val (.int r11), .val (.int v14), .val (.int r16), .val (.int r20), .val (.int r24), .val (.int v27), .val (.int r29), .val (.int r33), .val (.int r37), .val (.int r41), .val (.int r45), .val (.int r49), .val (.ref x53), .val (.ref x59), .val (.ref x65), .val (.ref b70), .val (.ref x225), .val (.ref x238), .val (.ref x251)] [(.ref x251)])
  refine own_go (fun _ k => XS.iload X260.here hx rfl (hb hby at_258) rfl k) ?_
  show own_Go _ _ _ _ T260 (mkF m 260 #[.val (.int p_1), .val (.int p_2), .val (.int p_3), .val (.int p_4), .val (.int v1), .val (.int r3), .val (.int r7), .val (.int r11), .val (.int v14), .val (.int r16), .val (.int r20), .val (.int r24), .val (.int v27), .val (.int r29), .val (.int r33), .val (.int r37), .val (.int r41), .val (.int r45), .val (.int r49), .val (.ref x53), .val (.ref x59), .val (.ref x65), .val (.ref b70), .val (.ref x225), .val (.ref x238), .val (.ref x251)] [(.int v27), (.ref x251)])
  refine own_go (fun _ k => XS.iload X260.here hx rfl (hb hby at_260) rfl k) ?_
  show own_Go _ _ _ _ T260 (mkF m 262 #[.val (.int p_1), .val (.int p_2), .val (.int p_3), .val (.int p_4), .val (.int v1), .val (.int r3), .val (.int r7), .val (.int r11), .val (.int v14), .val (.int r16), .val (.int r20), .val (.int r24), .val (.int v27), .val (.int r29), .val (.int r33), .val (.int r37), .val (.int r41), .val (.int r45), .val (.int r49), .val (.ref x53), .val (.ref x59), .val (.ref x65), .val (.ref b70), .val (.ref x225), .val (.ref x238), .val (.ref x251)] [(.int r29), (.int v27), (.ref x251)])
  refine own_go (fun _ k => XS.iload X260.here hx rfl (hb hby at_262) rfl k) ?_
  show own_Go _ _ _ _ T260 (mkF m 264 #[.val (.int p_1), .val (.int p_2), .val (.int p_3), .val (.int p_4), .val (.int v1), .val (.int r3), .val (.int r7), .val (.int r11), .val (.int v14), .val (.int r16), .val (.int r20), .val (.int r24), .val (.int v27), .val (.int r29), .val (.int r33), .val (.int r37), .val (.int r41), .val (.int r45), .val (.int r49), .val (.ref x53), .val (.ref x59), .val (.ref x65), .val (.ref b70), .val (.ref x225), .val (.ref x238), .val (.ref x251)] [(.int r33), (.int r29), (.int v27), (.ref x251)])
  refine own_go (fun _ k => XS.iload X260.here hx rfl (hb hby at_264) rfl k) ?_
  show own_Go _ _ _ _ T260 (mkF m 266 #[.val (.int p_1), .val (.int p_2), .val (.int p_3), .val (.int p_4), .val (.int v1), .val (.int r3), .val (.int r7), .val (.int r11), .val (.int v14), .val (.int r16), .val (.int r20), .val (.int r24), .val (.int v27), .val (.int r29), .val (.int r33), .val (.int r37), .val (.int r41), .val (.int r45), .val (.int r49), .val (.ref x53), .val (.ref x59), .val (.ref x65), .val (.ref b70), .val (.ref x225), .val (.ref x238), .val (.ref x251)] [(.int r37), (.int r33), (.int r29), (.int v27), (.ref x251)])
  obtain ⟨_, _, ⟨T262, L262, k262, n262⟩, -, X262, ⟨Lc262, hQ262, l262, y262, z262⟩, st262⟩ := Jvm.LawKit.callS X260 hx (y := (⟨"com/example/kalchas/kalchas/propositional/HornClausesBodyPinLaw", "same", "([IIIII)Z"⟩ : MethodName)) hown (mvT hZ w_84) (mvT hZ w_85) (mvT hZ w_2) (mvT hZ w_86) (by decide) (backOf (W := 0) (own_rm15 l Z a0 hw [] x251 v27 r29 r33 r37 (((((0 : Int32) + v1) + v14) + v27) - (((0 : Int32) + v1) + v14)) (own_sh (own_cpf (own_n3 r29 r33 r37) 0 (own_cpf (own_n3 r16 r20 r24) 0 (own_cpf (own_n3 r3 r7 r11) 0 (fun _ => (.int (0 : Int32))) 0 (v1).toNatClampNeg) (((0 : Int32) + v1)).toNatClampNeg (v14).toNatClampNeg) ((((0 : Int32) + v1) + v14)).toNatClampNeg (v27).toNatClampNeg) ((((0 : Int32) + v1) + v14)).toNatClampNeg) T249.heap n0 (by omega) f252 (Int32.toInt_inj.mp (own_t0_11 v1 v14 v27 hl_v1 hl_v14 hl_v27)) (show v27 = (0 : Int32) ∨ v27 = (1 : Int32) ∨ v27 = (2 : Int32) ∨ v27 = (3 : Int32) by first | assumption | omega | decide) (own_pick2 (by decide) rfl)) hZ w_86 w_2 (by decide) (by decide)) (g := (mkF m 266 #[.val (.int p_1), .val (.int p_2), .val (.int p_3), .val (.int p_4), .val (.int v1), .val (.int r3), .val (.int r7), .val (.int r11), .val (.int v14), .val (.int r16), .val (.int r20), .val (.int r24), .val (.int v27), .val (.int r29), .val (.int r33), .val (.int r37), .val (.int r41), .val (.int r45), .val (.int r49), .val (.ref x53), .val (.ref x59), .val (.ref x65), .val (.ref b70), .val (.ref x225), .val (.ref x238), .val (.ref x251)] [(.int r37), (.int r33), (.int r29), (.int v27), (.ref x251)])) rfl (by rw [hml]; rfl) (argsL := [(.ref x251), (.int v27), (.int r29), (.int r33), (.int r37)]) (rest := []) (lenOf own_pd10 rfl) rfl (by show 2 * 0 + _ ≤ _; exact Nat.le_of_eq rfl) (hb hby at_266) (fun _ _ => ⟨rfl, e260, (by show k260 + _ ≤ _; rw [y260]; decide), (by show n260 + _ ≤ _; rw [z260]; decide)⟩)
  dsimp only [Pt.U, Pt.locs, Pt.cells, Pt.slots] at X262 l262 y262 z262 st262 hQ262
  have y262 : k262 = 18 := own_addeq y262 (congrArg (fun q => q) y260) rfl
  have z262 : n262 = 340 := own_addeq z262 (congrArg (fun q => q) z260) rfl
  obtain ⟨rfl, N262q, e262⟩ := hQ262
  have N262 : Fr n0 L262 := by rw [l262]; exact Fr.app N260 N262q
  refine own_go (fun _ k => st262 _ k) ?_
  show own_Go _ _ _ _ T262 (mkF m 269 #[.val (.int p_1), .val (.int p_2), .val (.int p_3), .val (.int p_4), .val (.int v1), .val (.int r3), .val (.int r7), .val (.int r11), .val (.int v14), .val (.int r16), .val (.int r20), .val (.int r24), .val (.int v27), .val (.int r29), .val (.int r33), .val (.int r37), .val (.int r41), .val (.int r45), .val (.int r49), .val (.ref x53), .val (.ref x59), .val (.ref x65), .val (.ref b70), .val (.ref x225), .val (.ref x238), .val (.ref x251)] [(.int (1 : Int32))])
  have hc263 : ¬ ((1 : Int32) = 0) := by decide
  refine own_go (fun _ k => XS.ifNo X262.here hx rfl (hb hby at_269) rfl (Jvm.Free.XT.i0_eq_f hc263) k) ?_
  show own_Go _ _ _ _ T262 (mkF m 272 #[.val (.int p_1), .val (.int p_2), .val (.int p_3), .val (.int p_4), .val (.int v1), .val (.int r3), .val (.int r7), .val (.int r11), .val (.int v14), .val (.int r16), .val (.int r20), .val (.int r24), .val (.int v27), .val (.int r29), .val (.int r33), .val (.int r37), .val (.int r41), .val (.int r45), .val (.int r49), .val (.ref x53), .val (.ref x59), .val (.ref x65), .val (.ref b70), .val (.ref x225), .val (.ref x238), .val (.ref x251)] [])
  refine own_go (fun _ k => XS.iconst X262.here hx rfl (hb hby at_272) k) ?_
  show own_Go _ _ _ _ T262 (mkF m 273 #[.val (.int p_1), .val (.int p_2), .val (.int p_3), .val (.int p_4), .val (.int v1), .val (.int r3), .val (.int r7), .val (.int r11), .val (.int v14), .val (.int r16), .val (.int r20), .val (.int r24), .val (.int v27), .val (.int r29), .val (.int r33), .val (.int r37), .val (.int r41), .val (.int r45), .val (.int r49), .val (.ref x53), .val (.ref x59), .val (.ref x65), .val (.ref b70), .val (.ref x225), .val (.ref x238), .val (.ref x251)] [(.int (1 : Int32))])
  refine own_go (fun _ k => XS.goto X262.here hx rfl (pc0 := 273) (pc' := 277) rfl (hb hby at_273) (by decide) (by decide) k) ?_
  show own_Go _ _ _ _ T262 (mkF m 277 #[.val (.int p_1), .val (.int p_2), .val (.int p_3), .val (.int p_4), .val (.int v1), .val (.int r3), .val (.int r7), .val (.int r11), .val (.int v14), .val (.int r16), .val (.int r20), .val (.int r24), .val (.int v27), .val (.int r29), .val (.int r33), .val (.int r37), .val (.int r41), .val (.int r45), .val (.int r49), .val (.ref x53), .val (.ref x59), .val (.ref x65), .val (.ref b70), .val (.ref x225), .val (.ref x238), .val (.ref x251)] [(.int (1 : Int32))])
  obtain ⟨fs, hr, hrun, hended, hRW⟩ := X262.leaveW hS249 (by rw [e262]; omega) (v := some (.int (1 : Int32))) (fun h => by rw [Bd.returns] at h; cases h)
  refine ⟨_, _, retOut X262 hx Bd.returns rfl (Or.inl ⟨rfl, Or.inr (Or.inl rfl), _, rfl⟩) (hb hby at_277) hr, hrun, hended, _, _, rfl, ?_, own_monoW hRW (by rw [y262]; decide) (by rw [z262]; decide)⟩
  show own_Q0 Z p_1 p_2 p_3 p_4 h0 n0 _ T262.heap _
  rw [e262]
  exact ⟨rfl, N262⟩
set_option maxRecDepth 65536 in
set_option maxHeartbeats 40000000 in
theorem comes_1 {Post : Tables → Env → Array Value → State → Outcome → State → Prop} (hpost : ∀ tb e args s v u, (limb_1_1.after args s (.returned v) u = true ∧ limb_1_2.after args s (.returned v) u = true ∧ True) → ReturnedEndW s (.returned v) u (Jvm.fieldLocs frame_1_writes args s ++ Jvm.arrayLocs frame_1_arrays args s ++ Jvm.staticLocs frame_1_statics s) 32 2560 → Post tb e args s (.returned v) u) :
    ArmFor flags0 classFile x code maxLocals ret World_1 tables_1 room_1 Calls_1 rest_1 Pre_1 Post := by
  intro l hfl _ _ p e ha hc hk s m args below hf hA hF happ hP
  obtain ⟨hcalls, hrest, hpre⟩ := hP
  obtain ⟨-, -, -, hnamed, -, -, -, hat⟩ := (Spec.applies_iff hf).mp happ
  obtain ⟨hg, hn⟩ := and_e (Cond.before_iff.mp (show (Jvm.Cond.and given_1 narrow_1).before args s = true from hpre))
  obtain ⟨g1, g2⟩ := and_e hg
  obtain ⟨g3, g4⟩ := and_e g2
  obtain ⟨g5, g6⟩ := and_e g4
  obtain ⟨g7, g8⟩ := and_e g6
  obtain ⟨w0, w1, w2, w3, rfl⟩ : ∃ w0 w1 w2 w3 : Value, args = #[w0, w1, w2, w3] := by
    have hs : args.size = 4 := by simpa [Cond.value, given_1] using g1
    obtain ⟨L⟩ := args
    match L, hs with
    | [w0, w1, w2, w3], _ => exact ⟨w0, w1, w2, w3, rfl⟩
  have hw := fun d (hd : d ∈ tables_1) => atoms_spec (ws := Jvm.Cond.code x code maxLocals ret :: tables_1) hat d (List.mem_cons_of_mem _ hd)
  have hfit : Fit s := fun {y c} hc i hi => by
    obtain ⟨ha, rfl⟩ := Array.getElem?_eq_some_iff.mp hc
    have q := List.all_eq_true.mp ((Array.all_eq_true_iff_forall_mem.mp hF) _ (Array.getElem_mem ha)) i (List.mem_range.mpr hi)
    simpa [Array.getElem?_eq_getElem hi] using q
  obtain ⟨i0, ei0⟩ := is_v g3
  obtain rfl : w0 = (.int i0) := Option.some.inj ei0
  obtain ⟨i1, ei1⟩ := is_v g5
  obtain rfl : w1 = (.int i1) := Option.some.inj ei1
  obtain ⟨i2, ei2⟩ := is_v g7
  obtain rfl : w2 = (.int i2) := Option.some.inj ei2
  obtain ⟨i3, ei3⟩ := is_v g8
  obtain rfl : w3 = (.int i3) := Option.some.inj ei3
  obtain ⟨n, o, h1, h2, h3, _, L, rfl, ⟨rfl, N⟩, hq⟩ := own_rm0 l s _ hw tables_1 i0 i1 i2 i3  s.heap s.heap.size (Nat.le_refl _)  p e ha hc hk s m _ below hf ((Spec.applies_iff_loose hf).mp happ).1 ⟨rfl, State.Warmed39.refl s, rfl⟩ trivial
  refine ⟨n, _, h1, h2, h3, hpost _ _ _ _ _ _ ⟨Cond.after_iff.mpr rfl, Cond.after_iff.mpr (eq_i res_at (Term.int_eval (1)) rfl), trivial⟩ ⟨hq.1, hq.2.1, hq.2.2.1, (hq.2.2.2.sift fun y hy => Or.inr (N y hy)).mono (by decide) (by decide)⟩⟩
theorem main_1_1 : Claimed_1_1 := comes_1 fun _ _ _ _ _ _ h hF => ⟨h.1, hF⟩
theorem main_1_2 : Claimed_1_2 := comes_1 fun _ _ _ _ _ _ h hF => ⟨h.2.1, hF⟩
end Jvm.Pilot.@@N@@
namespace Jvm.Pilot.@@N@@
open Jvm Jvm.ClassFile Sem Op Lib Jvm.Free Jvm.Stand Jvm.Pilot.@@N@@.Jvm.D
/-! MADE BY PROGRAM (witnessworld.py) out of the Statement's table words and the real class files: 17 classes; the members and pool entries that the words name. The judged class is class 1, her method 4. -/
namespace start1
open Jvm.ClassFile
def u (s : String) : CpInfo := .utf8 (stringToUtf16 s)
/-- a pool by its gaps: so many unusable entries, then the entry; so many at the end -/
def gap : Nat → List CpInfo → List CpInfo
  | 0, r => r
  | n + 1, r => .unusable :: gap n r
def poolList (es : List (Nat × CpInfo)) (last : Nat) : List CpInfo := es.foldr (fun e r => gap e.1 (e.2 :: r)) (gap last [])
def pool (es : List (Nat × CpInfo)) (last : Nat) : Array CpInfo := ⟨poolList es last⟩
def fileOf (pool : Array CpInfo) (this : Nat) (attrs : Array Attribute := #[]) (ms : Array MethodInfo := #[]) (fl : Nat := 33) (sup : Nat := 0) (ifs : Array Nat := #[]) (fds : Array FieldInfo := #[]) : ClassFile where
  minorVersion := 0
  majorVersion := 65
  constantPool := pool
  accessFlags := fl
  thisClass := this
  superClass := sup
  interfaces := ifs
  fields := fds
  methods := ms
  attributes := attrs
def plain (name : String) (sup : Option ClassId) : Class where
  name := name
  kind := .ordinary
  loader := none
  accessFlags := 33
  super := sup
  interfaces := #[]
  cf := none
  fields := #[]
  methods := #[]
  instanceTypes := #[]
  staticTypes := #[]
  resolved := #[]
  callSites := []
  init := .initialized
  statics := none
  mirror := none

def pool0 : Array CpInfo := pool [(5, u "<init>"), (0, u "()V"), (1, .class_ 10), (1, u "java/lang/Object")] 113

def k0c0 : Code := { maxStack := 0, maxLocals := 1, code := object_method_1_code, exceptionTable := #[], attributes := #[] }
def k0m0 : Method := { name := "<init>", desc := "()V", sig := { parameters := [], returnType := none }, accessFlags := 1, code := some k0c0 }
/-- java/lang/Object -/
def k0 : Class := { plain "java/lang/Object" none with
  accessFlags := 33
  interfaces := #[]
  cf := some (fileOf pool0 8 #[] #[{ accessFlags := 1, nameIndex := 5, descriptorIndex := 6, attributes := #[] }] 33 0 #[] #[])
  fields := #[]
  methods := #[k0m0]
  instanceTypes := #[]
  staticTypes := #[]
  resolved := Array.replicate 124 none
  statics := none }

def pool1 : Array CpInfo := pool [(2, .class_ 4), (0, .nameAndType 5 6), (0, u "java/lang/Object"), (0, u "<init>"), (0, u "()V"), (0, .methodref 8 9), (0, .class_ 10), (0, .nameAndType 11 12), (0, u "com/example/kalchas/kalchas/propositional/HornClausesBodyPinLaw"), (0, u "e"), (0, u "(II)I"), (0, .methodref 8 14), (0, .nameAndType 15 16), (0, u "mk"), (0, u "(IIII)[I"), (0, .class_ 18), (0, u "com/example/kalchas/kalchas/propositional/HornClauses"), (0, .methodref 17 3), (0, .methodref 17 21), (0, .nameAndType 22 23), (0, u "newVariable"), (0, u "()I"), (0, .methodref 17 25), (0, .nameAndType 26 27), (0, u "add"), (0, u "(I[I)V"), (0, .methodref 17 29), (0, .nameAndType 30 31), (0, u "body"), (0, u "(I)[I"), (0, .methodref 8 33), (0, .nameAndType 34 35), (0, u "same"), (0, u "([IIIII)Z"), (3, u "law"), (0, u "(IIII)Z")] 4

def k1m0 : Method := { name := "<init>", desc := "()V", sig := { parameters := [], returnType := none }, accessFlags := 1, code := none }
def k1c1 : Code := { maxStack := 4, maxLocals := 4, code := method_2_code, exceptionTable := #[], attributes := #[] }
def k1m1 : Method := { name := "mk", desc := "(IIII)[I", sig := { parameters := [.int, .int, .int, .int], returnType := some (.array .int) }, accessFlags := 10, code := some k1c1 }
def k1c2 : Code := { maxStack := 2, maxLocals := 5, code := method_3_code, exceptionTable := #[], attributes := #[] }
def k1m2 : Method := { name := "same", desc := "([IIIII)Z", sig := { parameters := [(.array .int), .int, .int, .int, .int], returnType := some .boolean }, accessFlags := 10, code := some k1c2 }
def k1c3 : Code := { maxStack := 2, maxLocals := 2, code := method_4_code, exceptionTable := #[], attributes := #[] }
def k1m3 : Method := { name := "e", desc := "(II)I", sig := { parameters := [.int, .int], returnType := some .int }, accessFlags := 10, code := some k1c3 }
def k1c4 : Code := { maxStack := 5, maxLocals := 26, code := code, exceptionTable := #[], attributes := #[] }
def k1m4 : Method := { name := "law", desc := "(IIII)Z", sig := { parameters := [.int, .int, .int, .int], returnType := some .boolean }, accessFlags := 9, code := some k1c4 }
/-- com/example/kalchas/kalchas/propositional/HornClausesBodyPinLaw -/
def k1 : Class := { plain "com/example/kalchas/kalchas/propositional/HornClausesBodyPinLaw" (some 0) with
  accessFlags := 49
  interfaces := #[]
  cf := some (fileOf pool1 8 #[] #[{ accessFlags := 1, nameIndex := 5, descriptorIndex := 6, attributes := #[] }, { accessFlags := 10, nameIndex := 15, descriptorIndex := 16, attributes := #[] }, { accessFlags := 10, nameIndex := 34, descriptorIndex := 35, attributes := #[] }, { accessFlags := 10, nameIndex := 11, descriptorIndex := 12, attributes := #[] }, { accessFlags := 9, nameIndex := 39, descriptorIndex := 40, attributes := #[] }] 49 2 #[] #[])
  fields := #[]
  methods := #[k1m0, k1m1, k1m2, k1m3, k1m4]
  instanceTypes := #[]
  staticTypes := #[]
  resolved := Array.replicate 45 none
  statics := none }

def pool2 : Array CpInfo := pool [(1, .methodref 2 3), (0, .class_ 4), (0, .nameAndType 5 6), (0, u "java/lang/Object"), (0, u "<init>"), (0, u "()V"), (0, .class_ 8), (0, u "com/example/kalchas/kalchas/propositional/HornClauses"), (0, .fieldref 7 10), (0, .nameAndType 11 12), (0, u "heads"), (0, u "[I"), (0, .fieldref 7 14), (0, .nameAndType 15 12), (0, u "bodyStarts"), (0, .fieldref 7 17), (0, .nameAndType 18 12), (0, u "bodies"), (0, .fieldref 7 20), (0, .nameAndType 21 12), (0, u "occurrences"), (0, .fieldref 7 23), (0, .nameAndType 24 25), (0, u "variableCount"), (0, u "I"), (0, .methodref 7 27), (0, .nameAndType 28 29), (0, u "checkVariable"), (0, u "(I)V"), (0, .fieldref 7 31), (0, .nameAndType 32 25), (0, u "clauseCount"), (1, .class_ 36), (1, u "java/util/Arrays"), (8, .methodref 46 47), (0, .class_ 48), (0, .nameAndType 49 50), (0, u "java/lang/System"), (0, u "arraycopy"), (0, u "(Ljava/lang/Object;ILjava/lang/Object;II)V"), (0, .methodref 7 52), (0, .nameAndType 53 29), (0, u "checkClause"), (0, .methodref 34 55), (0, .nameAndType 56 57), (0, u "copyOfRange"), (0, u "([III)[I"), (19, u "add"), (15, u "()I"), (2, u "derivationStarts"), (2, u "derivations"), (5, .class_ 107), (1, u "com/example/kalchas/kalchas/propositional/HornClauses$Trail"), (69, u "occurrenceStarts"), (0, .string 179), (0, u "variable"), (0, .methodref 7 181), (0, .nameAndType 182 183), (0, u "checkNumber"), (0, u "(Ljava/lang/String;II)V"), (0, .string 185), (0, u "clause"), (28, u "INITIAL_CAPACITY"), (2, u "ASSUMED"), (3, u "newVariable"), (0, u "(I[I)V"), (2, u "body"), (0, u "(I)[I")] 46

def k2c0 : Code := { maxStack := 2, maxLocals := 1, code := prog_6_method_1_code, exceptionTable := #[], attributes := #[] }
def k2m0 : Method := { name := "<init>", desc := "()V", sig := { parameters := [], returnType := none }, accessFlags := 1, code := some k2c0 }
def k2c1 : Code := { maxStack := 3, maxLocals := 2, code := prog_6_method_2_code, exceptionTable := #[], attributes := #[] }
def k2m1 : Method := { name := "newVariable", desc := "()I", sig := { parameters := [], returnType := some .int }, accessFlags := 1, code := some k2c1 }
def k2c2 : Code := { maxStack := 5, maxLocals := 7, code := prog_6_method_4_code, exceptionTable := #[], attributes := #[] }
def k2m2 : Method := { name := "add", desc := "(I[I)V", sig := { parameters := [.int, (.array .int)], returnType := none }, accessFlags := 129, code := some k2c2 }
def k2c3 : Code := { maxStack := 5, maxLocals := 2, code := prog_6_method_6_code, exceptionTable := #[], attributes := #[] }
def k2m3 : Method := { name := "body", desc := "(I)[I", sig := { parameters := [.int], returnType := some (.array .int) }, accessFlags := 1, code := some k2c3 }
def k2c4 : Code := { maxStack := 3, maxLocals := 2, code := prog_6_method_14_code, exceptionTable := #[], attributes := #[] }
def k2m4 : Method := { name := "checkVariable", desc := "(I)V", sig := { parameters := [.int], returnType := none }, accessFlags := 1, code := some k2c4 }
def k2c5 : Code := { maxStack := 3, maxLocals := 2, code := prog_6_method_15_code, exceptionTable := #[], attributes := #[] }
def k2m5 : Method := { name := "checkClause", desc := "(I)V", sig := { parameters := [.int], returnType := none }, accessFlags := 2, code := some k2c5 }
def k2c6 : Code := { maxStack := 5, maxLocals := 3, code := prog_6_method_16_code, exceptionTable := #[], attributes := #[] }
def k2m6 : Method := { name := "checkNumber", desc := "(Ljava/lang/String;II)V", sig := { parameters := [(.object "java/lang/String"), .int, .int], returnType := none }, accessFlags := 10, code := some k2c6 }
/-- com/example/kalchas/kalchas/propositional/HornClauses -/
def k2 : Class := { plain "com/example/kalchas/kalchas/propositional/HornClauses" (some 0) with
  accessFlags := 33
  interfaces := #[]
  cf := some (fileOf pool2 7 #[.nestMembers #[105]] #[{ accessFlags := 1, nameIndex := 5, descriptorIndex := 6, attributes := #[] }, { accessFlags := 1, nameIndex := 221, descriptorIndex := 93, attributes := #[] }, { accessFlags := 129, nameIndex := 77, descriptorIndex := 222, attributes := #[] }, { accessFlags := 1, nameIndex := 225, descriptorIndex := 226, attributes := #[] }, { accessFlags := 1, nameIndex := 28, descriptorIndex := 29, attributes := #[] }, { accessFlags := 2, nameIndex := 53, descriptorIndex := 29, attributes := #[] }, { accessFlags := 10, nameIndex := 182, descriptorIndex := 183, attributes := #[] }] 33 2 #[] #[{ accessFlags := 26, nameIndex := 214, descriptorIndex := 25, attributes := #[] }, { accessFlags := 26, nameIndex := 217, descriptorIndex := 25, attributes := #[] }, { accessFlags := 2, nameIndex := 24, descriptorIndex := 25, attributes := #[] }, { accessFlags := 2, nameIndex := 32, descriptorIndex := 25, attributes := #[] }, { accessFlags := 2, nameIndex := 11, descriptorIndex := 12, attributes := #[] }, { accessFlags := 2, nameIndex := 15, descriptorIndex := 12, attributes := #[] }, { accessFlags := 2, nameIndex := 18, descriptorIndex := 12, attributes := #[] }, { accessFlags := 2, nameIndex := 177, descriptorIndex := 12, attributes := #[] }, { accessFlags := 2, nameIndex := 21, descriptorIndex := 12, attributes := #[] }, { accessFlags := 2, nameIndex := 96, descriptorIndex := 12, attributes := #[] }, { accessFlags := 2, nameIndex := 99, descriptorIndex := 12, attributes := #[] }])
  fields := #[{ name := "INITIAL_CAPACITY", type := .int, accessFlags := 26, slot := 0, constantValue := 0 }, { name := "ASSUMED", type := .int, accessFlags := 26, slot := 1, constantValue := 0 }, { name := "variableCount", type := .int, accessFlags := 2, slot := 0, constantValue := 0 }, { name := "clauseCount", type := .int, accessFlags := 2, slot := 1, constantValue := 0 }, { name := "heads", type := (.array .int), accessFlags := 2, slot := 2, constantValue := 0 }, { name := "bodyStarts", type := (.array .int), accessFlags := 2, slot := 3, constantValue := 0 }, { name := "bodies", type := (.array .int), accessFlags := 2, slot := 4, constantValue := 0 }, { name := "occurrenceStarts", type := (.array .int), accessFlags := 2, slot := 5, constantValue := 0 }, { name := "occurrences", type := (.array .int), accessFlags := 2, slot := 6, constantValue := 0 }, { name := "derivationStarts", type := (.array .int), accessFlags := 2, slot := 7, constantValue := 0 }, { name := "derivations", type := (.array .int), accessFlags := 2, slot := 8, constantValue := 0 }]
  methods := #[k2m0, k2m1, k2m2, k2m3, k2m4, k2m5, k2m6]
  instanceTypes := #[.int, .int, (.array .int), (.array .int), (.array .int), (.array .int), (.array .int), (.array .int), (.array .int)]
  staticTypes := #[.int, .int]
  resolved := Array.replicate 273 none
  statics := none }

def pool3 : Array CpInfo := pool [(1, .class_ 2), (0, u "java/io/Serializable"), (0, .class_ 4), (0, u "java/lang/Object")] 2

/-- java/io/Serializable -/
def k3 : Class := { plain "java/io/Serializable" (some 0) with
  accessFlags := 1537
  interfaces := #[]
  cf := some (fileOf pool3 1 #[] #[] 1537 3 #[] #[])
  fields := #[]
  methods := #[]
  instanceTypes := #[]
  staticTypes := #[]
  resolved := Array.replicate 7 none
  statics := none }

def pool4 : Array CpInfo := pool [(1, .class_ 2), (0, u "java/lang/Comparable"), (0, .class_ 4), (0, u "java/lang/Object")] 7

/-- java/lang/Comparable -/
def k4 : Class := { plain "java/lang/Comparable" (some 0) with
  accessFlags := 1537
  interfaces := #[]
  cf := some (fileOf pool4 1 #[] #[] 1537 3 #[] #[])
  fields := #[]
  methods := #[]
  instanceTypes := #[]
  staticTypes := #[]
  resolved := Array.replicate 12 none
  statics := none }

def pool5 : Array CpInfo := pool [(2, .class_ 4), (1, u "java/lang/CharSequence"), (42, .class_ 48), (0, u "java/lang/CharSequence$1CodePointIterator"), (10, .class_ 60), (0, u "java/lang/CharSequence$1CharIterator"), (5, .class_ 67), (0, u "java/lang/Object")] 63

/-- java/lang/CharSequence -/
def k5 : Class := { plain "java/lang/CharSequence" (some 0) with
  accessFlags := 1537
  interfaces := #[]
  cf := some (fileOf pool5 2 #[.nestMembers #[47, 59]] #[] 1537 66 #[] #[])
  fields := #[]
  methods := #[]
  instanceTypes := #[]
  staticTypes := #[]
  resolved := Array.replicate 131 none
  statics := none }

def pool6 : Array CpInfo := pool [(1, .class_ 2), (0, u "java/lang/constant/Constable"), (0, .class_ 4), (0, u "java/lang/Object")] 6

/-- java/lang/constant/Constable -/
def k6 : Class := { plain "java/lang/constant/Constable" (some 0) with
  accessFlags := 1537
  interfaces := #[]
  cf := some (fileOf pool6 1 #[] #[] 1537 3 #[] #[])
  fields := #[]
  methods := #[]
  instanceTypes := #[]
  staticTypes := #[]
  resolved := Array.replicate 11 none
  statics := none }

def pool7 : Array CpInfo := pool [(1, .class_ 2), (0, u "java/lang/constant/ConstantDesc"), (0, .class_ 4), (0, u "java/lang/Object")] 32

/-- java/lang/constant/ConstantDesc -/
def k7 : Class := { plain "java/lang/constant/ConstantDesc" (some 0) with
  accessFlags := 1537
  interfaces := #[]
  cf := some (fileOf pool7 1 #[] #[] 1537 3 #[] #[])
  fields := #[]
  methods := #[]
  instanceTypes := #[]
  staticTypes := #[]
  resolved := Array.replicate 37 none
  statics := none }

def pool8 : Array CpInfo := pool [(2, .class_ 4), (1, u "java/lang/Object"), (0, u "<init>"), (0, u "()V"), (3, .class_ 12), (1, u "java/lang/String"), (0, u "value"), (0, u "[B"), (2, u "coder"), (0, u "B"), (2, u "hash"), (0, u "I"), (2, u "hashIsZero"), (0, u "Z"), (13, u "COMPACT_STRINGS"), (534, .class_ 576), (0, u "java/lang/CharSequence"), (22, u "CASE_INSENSITIVE_ORDER"), (0, u "Ljava/util/Comparator;"), (500, u "serialPersistentFields"), (0, u "[Ljava/io/ObjectStreamField;"), (0, .class_ 1104), (0, u "java/lang/String$CaseInsensitiveComparator"), (1, .class_ 1107), (0, u "java/io/Serializable"), (0, .class_ 1109), (0, u "java/lang/Comparable"), (0, .class_ 1111), (0, u "java/lang/constant/Constable"), (0, .class_ 1113), (0, u "java/lang/constant/ConstantDesc"), (2, u "serialVersionUID"), (0, u "J"), (3, u "REPL"), (0, u "C"), (2, u "LATIN1"), (1, u "UTF16")] 323

def k8m0 : Method := { name := "<init>", desc := "()V", sig := { parameters := [], returnType := none }, accessFlags := 1, code := none }
/-- java/lang/String -/
def k8 : Class := { plain "java/lang/String" (some 0) with
  accessFlags := 49
  interfaces := #[3, 4, 5, 6, 7]
  cf := some (fileOf pool8 10 #[.nestMembers #[1103]] #[{ accessFlags := 1, nameIndex := 5, descriptorIndex := 6, attributes := #[] }] 49 2 #[1106, 1108, 575, 1110, 1112] #[{ accessFlags := 18, nameIndex := 13, descriptorIndex := 14, attributes := #[] }, { accessFlags := 18, nameIndex := 17, descriptorIndex := 18, attributes := #[] }, { accessFlags := 2, nameIndex := 21, descriptorIndex := 22, attributes := #[] }, { accessFlags := 2, nameIndex := 25, descriptorIndex := 26, attributes := #[] }, { accessFlags := 26, nameIndex := 1116, descriptorIndex := 1117, attributes := #[] }, { accessFlags := 24, nameIndex := 40, descriptorIndex := 26, attributes := #[] }, { accessFlags := 26, nameIndex := 1101, descriptorIndex := 1102, attributes := #[] }, { accessFlags := 26, nameIndex := 1121, descriptorIndex := 1122, attributes := #[] }, { accessFlags := 25, nameIndex := 599, descriptorIndex := 600, attributes := #[] }, { accessFlags := 24, nameIndex := 1125, descriptorIndex := 18, attributes := #[] }, { accessFlags := 24, nameIndex := 1127, descriptorIndex := 18, attributes := #[] }])
  fields := #[{ name := "value", type := (.array .byte), accessFlags := 18, slot := 0, constantValue := 0 }, { name := "coder", type := .byte, accessFlags := 18, slot := 1, constantValue := 0 }, { name := "hash", type := .int, accessFlags := 2, slot := 2, constantValue := 0 }, { name := "hashIsZero", type := .boolean, accessFlags := 2, slot := 3, constantValue := 0 }, { name := "serialVersionUID", type := .long, accessFlags := 26, slot := 0, constantValue := 0 }, { name := "COMPACT_STRINGS", type := .boolean, accessFlags := 24, slot := 1, constantValue := 0 }, { name := "serialPersistentFields", type := (.array (.object "java/io/ObjectStreamField")), accessFlags := 26, slot := 2, constantValue := 0 }, { name := "REPL", type := .char, accessFlags := 26, slot := 3, constantValue := 0 }, { name := "CASE_INSENSITIVE_ORDER", type := (.object "java/util/Comparator"), accessFlags := 25, slot := 4, constantValue := 0 }, { name := "LATIN1", type := .byte, accessFlags := 24, slot := 5, constantValue := 0 }, { name := "UTF16", type := .byte, accessFlags := 24, slot := 6, constantValue := 0 }]
  methods := #[k8m0]
  instanceTypes := #[(.array .byte), .byte, .int, .boolean]
  staticTypes := #[.long, .boolean, (.array (.object "java/io/ObjectStreamField")), .char, (.object "java/util/Comparator"), .byte, .byte]
  resolved := Array.replicate 1451 none
  statics := none }

def pool9 : Array CpInfo := pool [(2, .class_ 4), (1, u "java/lang/Object"), (0, u "<init>"), (0, u "()V"), (1, .class_ 10), (1, u "java/lang/System"), (0, u "allowSecurityManager"), (0, u "I"), (16, u "cons"), (0, u "Ljava/io/Console;"), (77, .class_ 110), (1, u "java/lang/System$CallersHolder"), (43, u "initialErrStream"), (0, u "Ljava/io/PrintStream;"), (19, u "security"), (0, u "Ljava/lang/SecurityManager;"), (31, .class_ 209), (0, u "java/lang/System$1"), (7, u "props"), (0, u "Ljava/util/Properties;"), (2, u "lineSeparator"), (0, u "Ljava/lang/String;"), (96, .class_ 321), (1, u "java/lang/System$LoggerFinder"), (5, .class_ 328), (0, u "java/lang/System$Logger"), (67, u "err"), (2, u "out"), (91, u "notSupportedJnuEncoding"), (15, u "in"), (17, u "initialIn"), (0, u "Ljava/io/InputStream;"), (35, u "bootLayer"), (0, u "Ljava/lang/ModuleLayer;"), (99, .class_ 664), (0, u "java/lang/System$2"), (9, u "NEVER"), (2, u "MAYBE"), (49, u "arraycopy"), (0, u "(Ljava/lang/Object;ILjava/lang/Object;II)V"), (72, .class_ 802), (0, u "java/lang/System$Logger$Level")] 31

def k9m0 : Method := { name := "<init>", desc := "()V", sig := { parameters := [], returnType := none }, accessFlags := 2, code := none }
def k9m1 : Method := { name := "arraycopy", desc := "(Ljava/lang/Object;ILjava/lang/Object;II)V", sig := { parameters := [(.object "java/lang/Object"), .int, (.object "java/lang/Object"), .int, .int], returnType := none }, accessFlags := 265, code := none }
/-- java/lang/System -/
def k9 : Class := { plain "java/lang/System" (some 0) with
  accessFlags := 49
  interfaces := #[]
  cf := some (fileOf pool9 8 #[.nestMembers #[319, 327, 801, 108, 663, 208]] #[{ accessFlags := 2, nameIndex := 5, descriptorIndex := 6, attributes := #[] }, { accessFlags := 265, nameIndex := 727, descriptorIndex := 728, attributes := #[] }] 49 2 #[] #[{ accessFlags := 25, nameIndex := 507, descriptorIndex := 526, attributes := #[] }, { accessFlags := 25, nameIndex := 399, descriptorIndex := 155, attributes := #[] }, { accessFlags := 25, nameIndex := 396, descriptorIndex := 155, attributes := #[] }, { accessFlags := 10, nameIndex := 525, descriptorIndex := 526, attributes := #[] }, { accessFlags := 26, nameIndex := 674, descriptorIndex := 12, attributes := #[] }, { accessFlags := 26, nameIndex := 677, descriptorIndex := 12, attributes := #[] }, { accessFlags := 10, nameIndex := 11, descriptorIndex := 12, attributes := #[] }, { accessFlags := 74, nameIndex := 175, descriptorIndex := 176, attributes := #[] }, { accessFlags := 10, nameIndex := 491, descriptorIndex := 222, attributes := #[] }, { accessFlags := 74, nameIndex := 29, descriptorIndex := 30, attributes := #[] }, { accessFlags := 74, nameIndex := 154, descriptorIndex := 155, attributes := #[] }, { accessFlags := 10, nameIndex := 217, descriptorIndex := 218, attributes := #[] }, { accessFlags := 10, nameIndex := 221, descriptorIndex := 222, attributes := #[] }, { accessFlags := 8, nameIndex := 562, descriptorIndex := 563, attributes := #[] }])
  fields := #[{ name := "in", type := (.object "java/io/InputStream"), accessFlags := 25, slot := 0, constantValue := 0 }, { name := "out", type := (.object "java/io/PrintStream"), accessFlags := 25, slot := 1, constantValue := 0 }, { name := "err", type := (.object "java/io/PrintStream"), accessFlags := 25, slot := 2, constantValue := 0 }, { name := "initialIn", type := (.object "java/io/InputStream"), accessFlags := 10, slot := 3, constantValue := 0 }, { name := "NEVER", type := .int, accessFlags := 26, slot := 4, constantValue := 0 }, { name := "MAYBE", type := .int, accessFlags := 26, slot := 5, constantValue := 0 }, { name := "allowSecurityManager", type := .int, accessFlags := 10, slot := 6, constantValue := 0 }, { name := "security", type := (.object "java/lang/SecurityManager"), accessFlags := 74, slot := 7, constantValue := 0 }, { name := "notSupportedJnuEncoding", type := (.object "java/lang/String"), accessFlags := 10, slot := 8, constantValue := 0 }, { name := "cons", type := (.object "java/io/Console"), accessFlags := 74, slot := 9, constantValue := 0 }, { name := "initialErrStream", type := (.object "java/io/PrintStream"), accessFlags := 74, slot := 10, constantValue := 0 }, { name := "props", type := (.object "java/util/Properties"), accessFlags := 10, slot := 11, constantValue := 0 }, { name := "lineSeparator", type := (.object "java/lang/String"), accessFlags := 10, slot := 12, constantValue := 0 }, { name := "bootLayer", type := (.object "java/lang/ModuleLayer"), accessFlags := 8, slot := 13, constantValue := 0 }]
  methods := #[k9m0, k9m1]
  instanceTypes := #[]
  staticTypes := #[(.object "java/io/InputStream"), (.object "java/io/PrintStream"), (.object "java/io/PrintStream"), (.object "java/io/InputStream"), .int, .int, .int, (.object "java/lang/SecurityManager"), (.object "java/lang/String"), (.object "java/io/Console"), (.object "java/io/PrintStream"), (.object "java/util/Properties"), (.object "java/lang/String"), (.object "java/lang/ModuleLayer")]
  resolved := Array.replicate 834 none
  statics := none }

def pool10 : Array CpInfo := pool [(2, .class_ 4), (1, u "java/lang/Object"), (0, u "<init>"), (0, u "()V"), (7, .class_ 16), (1, u "java/util/Arrays"), (57, .class_ 76), (1, u "java/util/Arrays$NaturalOrder"), (36, .class_ 115), (1, u "java/util/Arrays$LegacyMergeSort"), (1, u "Z"), (21, u "copyOfRange"), (10, .methodref 151 152), (0, .class_ 153), (0, .nameAndType 154 155), (0, u "java/lang/System"), (0, u "arraycopy"), (0, u "(Ljava/lang/Object;ILjava/lang/Object;II)V"), (148, .methodref 305 306), (0, .class_ 307), (0, .nameAndType 308 309), (0, u "java/lang/Math"), (0, u "min"), (0, u "(II)I"), (33, .methodref 14 344), (0, .nameAndType 345 346), (0, u "checkLength"), (0, u "(II)V"), (4, .methodref 14 352), (0, .nameAndType 353 354), (0, u "copyOfRangeInt"), (0, u "([III)[I"), (20, .class_ 376), (0, u "java/util/Arrays$ArrayList"), (68, u "$assertionsDisabled"), (269, u "MIN_ARRAY_SORT_GRAN"), (0, u "I"), (2, u "INSERTIONSORT_THRESHOLD"), (255, .class_ 976), (0, u "java/util/Arrays$ArrayItr")] 52

def k10m0 : Method := { name := "<init>", desc := "()V", sig := { parameters := [], returnType := none }, accessFlags := 2, code := none }
def k10c1 : Code := { maxStack := 4, maxLocals := 2, code := jdk_65_method_131_code, exceptionTable := #[], attributes := #[] }
def k10m1 : Method := { name := "checkLength", desc := "(II)V", sig := { parameters := [.int, .int], returnType := none }, accessFlags := 10, code := some k10c1 }
def k10c2 : Code := { maxStack := 3, maxLocals := 3, code := jdk_65_method_136_code, exceptionTable := #[], attributes := #[] }
def k10m2 : Method := { name := "copyOfRange", desc := "([III)[I", sig := { parameters := [(.array .int), .int, .int], returnType := some (.array .int) }, accessFlags := 9, code := some k10c2 }
def k10c3 : Code := { maxStack := 6, maxLocals := 5, code := jdk_65_method_137_code, exceptionTable := #[], attributes := #[] }
def k10m3 : Method := { name := "copyOfRangeInt", desc := "([III)[I", sig := { parameters := [(.array .int), .int, .int], returnType := some (.array .int) }, accessFlags := 10, code := some k10c3 }
/-- java/util/Arrays -/
def k10 : Class := { plain "java/util/Arrays" (some 0) with
  accessFlags := 49
  interfaces := #[]
  cf := some (fileOf pool10 14 #[.nestMembers #[975, 375, 113, 74]] #[{ accessFlags := 2, nameIndex := 5, descriptorIndex := 6, attributes := #[] }, { accessFlags := 10, nameIndex := 345, descriptorIndex := 346, attributes := #[] }, { accessFlags := 9, nameIndex := 139, descriptorIndex := 354, attributes := #[] }, { accessFlags := 10, nameIndex := 353, descriptorIndex := 354, attributes := #[] }] 49 2 #[] #[{ accessFlags := 26, nameIndex := 715, descriptorIndex := 716, attributes := #[] }, { accessFlags := 26, nameIndex := 719, descriptorIndex := 716, attributes := #[] }, { accessFlags := 4120, nameIndex := 445, descriptorIndex := 117, attributes := #[] }])
  fields := #[{ name := "MIN_ARRAY_SORT_GRAN", type := .int, accessFlags := 26, slot := 0, constantValue := 0 }, { name := "INSERTIONSORT_THRESHOLD", type := .int, accessFlags := 26, slot := 1, constantValue := 0 }, { name := "$assertionsDisabled", type := .boolean, accessFlags := 4120, slot := 2, constantValue := 0 }]
  methods := #[k10m0, k10m1, k10m2, k10m3]
  instanceTypes := #[]
  staticTypes := #[.int, .int, .boolean]
  resolved := Array.replicate 1029 none
  statics := none }

def pool11 : Array CpInfo := pool [(1, .class_ 2), (0, u "java/lang/Math"), (1, .class_ 6), (1, u "java/lang/Object"), (0, u "<init>"), (0, u "()V"), (89, .class_ 100), (1, u "java/lang/Math$RandomNumberGeneratorHolder"), (71, u "negativeZeroFloatBits"), (0, u "J"), (2, u "negativeZeroDoubleBits"), (24, u "min"), (43, u "$assertionsDisabled"), (0, u "Z"), (88, u "(II)I"), (2, u "twoToTheDoubleScaleDown"), (0, u "D"), (4, u "twoToTheDoubleScaleUp"), (9, u "E"), (3, u "PI"), (2, u "TAU"), (2, u "DEGREES_TO_RADIANS"), (0, u "RADIANS_TO_DEGREES")] 94

def k11m0 : Method := { name := "<init>", desc := "()V", sig := { parameters := [], returnType := none }, accessFlags := 2, code := none }
def k11c1 : Code := { maxStack := 2, maxLocals := 2, code := jdk_29_method_69_code, exceptionTable := #[], attributes := #[] }
def k11m1 : Method := { name := "min", desc := "(II)I", sig := { parameters := [.int, .int], returnType := some .int }, accessFlags := 9, code := some k11c1 }
/-- java/lang/Math -/
def k11 : Class := { plain "java/lang/Math" (some 0) with
  accessFlags := 49
  interfaces := #[]
  cf := some (fileOf pool11 1 #[.nestMembers #[98]] #[{ accessFlags := 2, nameIndex := 7, descriptorIndex := 8, attributes := #[] }, { accessFlags := 9, nameIndex := 201, descriptorIndex := 335, attributes := #[] }] 49 4 #[] #[{ accessFlags := 25, nameIndex := 354, descriptorIndex := 339, attributes := #[] }, { accessFlags := 25, nameIndex := 358, descriptorIndex := 339, attributes := #[] }, { accessFlags := 25, nameIndex := 361, descriptorIndex := 339, attributes := #[] }, { accessFlags := 26, nameIndex := 364, descriptorIndex := 339, attributes := #[] }, { accessFlags := 26, nameIndex := 365, descriptorIndex := 339, attributes := #[] }, { accessFlags := 26, nameIndex := 172, descriptorIndex := 173, attributes := #[] }, { accessFlags := 26, nameIndex := 176, descriptorIndex := 173, attributes := #[] }, { accessFlags := 8, nameIndex := 344, descriptorIndex := 339, attributes := #[] }, { accessFlags := 8, nameIndex := 338, descriptorIndex := 339, attributes := #[] }, { accessFlags := 4120, nameIndex := 245, descriptorIndex := 246, attributes := #[] }])
  fields := #[{ name := "E", type := .double, accessFlags := 25, slot := 0, constantValue := 0 }, { name := "PI", type := .double, accessFlags := 25, slot := 1, constantValue := 0 }, { name := "TAU", type := .double, accessFlags := 25, slot := 2, constantValue := 0 }, { name := "DEGREES_TO_RADIANS", type := .double, accessFlags := 26, slot := 3, constantValue := 0 }, { name := "RADIANS_TO_DEGREES", type := .double, accessFlags := 26, slot := 4, constantValue := 0 }, { name := "negativeZeroFloatBits", type := .long, accessFlags := 26, slot := 5, constantValue := 0 }, { name := "negativeZeroDoubleBits", type := .long, accessFlags := 26, slot := 6, constantValue := 0 }, { name := "twoToTheDoubleScaleUp", type := .double, accessFlags := 8, slot := 7, constantValue := 0 }, { name := "twoToTheDoubleScaleDown", type := .double, accessFlags := 8, slot := 8, constantValue := 0 }, { name := "$assertionsDisabled", type := .boolean, accessFlags := 4120, slot := 9, constantValue := 0 }]
  methods := #[k11m0, k11m1]
  instanceTypes := #[]
  staticTypes := #[.double, .double, .double, .double, .double, .long, .long, .double, .double, .boolean]
  resolved := Array.replicate 460 none
  statics := none }

def pool12 : Array CpInfo := pool [(1, u "java/lang/Cloneable"), (0, .class_ 1), (0, u "java/lang/Object"), (0, .class_ 3)] 3

/-- java/lang/Cloneable -/
def k12 : Class := { plain "java/lang/Cloneable" (some 0) with
  accessFlags := 1537
  interfaces := #[]
  cf := some (fileOf pool12 2 #[] #[] 1537 4 #[] #[])
  fields := #[]
  methods := #[]
  instanceTypes := #[]
  staticTypes := #[]
  resolved := Array.replicate 8 none
  statics := none }

/-- the primitive byte -/
def k13 : Class := { plain "byte" none with kind := .primitive 'B', accessFlags := 0x411 }
/-- [B -/
def k14 : Class := { plain "[B" (some 0) with kind := .array 13 .byte, interfaces := #[12, 3], accessFlags := 1041 }

/-- the primitive int -/
def k15 : Class := { plain "int" none with kind := .primitive 'I', accessFlags := 0x411 }
/-- [I -/
def k16 : Class := { plain "[I" (some 0) with kind := .array 15 .int, interfaces := #[12, 3], accessFlags := 1041 }

def heap : Heap := #[]
def classes : Array Class := #[k0, k1, k2, k3, k4, k5, k6, k7, k8, k9, k10, k11, k12, k13, k14, k15, k16]
def interned : List (Array UInt16 × Addr) := []
def slotsUsed : Nat := 0
def theMethod : MethodId := ⟨1, 4⟩
def args0 : Array Value := #[.int 1, .int 2, .int 3, .int 4]
def aboutOver (below : List Frame) : State where
  vm := { classes := classes, interned := interned.toArray }
  heap := heap
  slotsUsed := slotsUsed
  threads := #[{ frames := .invoking theMethod args0 :: below }]
def below0 : List Frame := [.native { method := ⟨0, 0⟩, args := #[] }]
def about1 : State := aboutOver below0
def p0 : Program := .bare "" "" ""
def e0 : Env := launch0.env 0 0 0
theorem w_frames : about1.frames = Frame.invoking theMethod args0 :: below0 := rfl
set_option maxRecDepth 65536 in
theorem w_args : argsFit about1.vm theMethod args0 = true := by decide +kernel
set_option maxRecDepth 65536 in
theorem w_heap : heapFits about1 = true := by decide +kernel
set_option maxRecDepth 65536 in
theorem w_runnable : about1.curStatus? = some .runnable := by decide +kernel
set_option maxRecDepth 65536 in
theorem w_alone : about1.alone = true := by decide +kernel
set_option maxRecDepth 65536 in
theorem w_named : about1.methodNamed? x = some theMethod := by decide +kernel
set_option maxRecDepth 65536 in
theorem w_hears : about1.hears theMethod below0 = true := by decide +kernel
set_option maxRecDepth 65536 in
theorem w_ripe : about1.ripe theMethod args0 below0 = true := by decide +kernel
theorem w_running : about1.status = .running := rfl
set_option maxRecDepth 65536 in
theorem w_room : about1.hasRoom e0.platform room_1 = true :=
  launch0.hasRoom_least _ room_1 (by decide +kernel) (by decide +kernel) (by decide +kernel) (by decide +kernel) (by decide +kernel) (by decide +kernel)
theorem allAtoms_all (ts : List Jvm.Cond) (a : Array Jvm.Value) (st : Jvm.State) : (allAtoms ts).before a st = ts.all (fun c => c.before a st) := by
  induction ts with
  | nil => rfl
  | cons c t ih =>
    show (Jvm.Cond.and c (allAtoms t)).before a st = _
    rw [Jvm.Cond.before_and, ih, List.all_cons]
def words1 : List Jvm.Cond := Jvm.Cond.code x code maxLocals ret :: tables_1
/-- a 'code' word, met by the world's own term for the bytes: nothing is compared byte by byte -/
theorem code_word {y : MethodName} {bytes : ByteArray} {mx : Nat} {rt : Option FieldType} {a : Array Value} {s : State} {m : MethodId} {meth : Method} {c : Code} (h1 : s.methodNamed? y = some m) (h2 : s.vm.method? m = some meth) (h3 : meth.code = some c) (h4 : c.code = bytes)
    (h5 : (c.maxLocals == mx && c.exceptionTable.isEmpty && decide (c.maxStack ≤ mostOperands) && decide (meth.sig.returnType = rt) && !meth.locks && decide (parseMethodDescriptor y.desc = some meth.sig)) = true) : (Jvm.Cond.code y bytes mx rt).before a s = true := by
  simp only [Bool.and_eq_true, beq_iff_eq, Bool.not_eq_true', decide_eq_true_eq] at h5
  obtain ⟨⟨⟨⟨⟨g1, g2⟩, g3⟩, g4⟩, g5⟩, g6⟩ := h5
  simp [Cond.before, Cond.holds, Cond.value, h1, h2, h3, h4, g1, g2, g3, g4, g5, g6]
def isCode : Jvm.Cond → Bool
  | .code _ _ _ _ => true
  | _ => false
theorem all_split {L : List Jvm.Cond} {P : Jvm.Cond → Bool} (h1 : L.all (fun c => isCode c || P c) = true) (h2 : ∀ c ∈ L.filter isCode, P c = true) : L.all P = true := by
  refine List.all_eq_true.mpr fun c hc => ?_
  have h := List.all_eq_true.mp h1 c hc
  rcases Bool.eq_false_or_eq_true (isCode c) with hi | hi
  · exact h2 c (List.mem_filter.mpr ⟨hc, hi⟩)
  · simpa [hi] using h
set_option maxRecDepth 65536 in
theorem w_c0 : (Jvm.Cond.code x code maxLocals ret).before args0 about1 = true := code_word (m := ⟨1, 4⟩) (meth := k1m4) (c := k1c4) (by decide +kernel) rfl rfl rfl (by decide +kernel)
set_option maxRecDepth 65536 in
theorem w_c1 : (Jvm.Cond.code ({ cls := "com/example/kalchas/kalchas/propositional/HornClausesBodyPinLaw", name := "e", desc := "(II)I" } : Jvm.MethodName) method_4_code (2 : Nat) (Option.some Jvm.ClassFile.FieldType.int)).before args0 about1 = true := code_word (m := ⟨1, 3⟩) (meth := k1m3) (c := k1c3) (by decide +kernel) rfl rfl rfl (by decide +kernel)
set_option maxRecDepth 65536 in
theorem w_c2 : (Jvm.Cond.code ({ cls := "com/example/kalchas/kalchas/propositional/HornClausesBodyPinLaw", name := "mk", desc := "(IIII)[I" } : Jvm.MethodName) method_2_code (4 : Nat) (Option.some (Jvm.ClassFile.FieldType.array Jvm.ClassFile.FieldType.int))).before args0 about1 = true := code_word (m := ⟨1, 1⟩) (meth := k1m1) (c := k1c1) (by decide +kernel) rfl rfl rfl (by decide +kernel)
set_option maxRecDepth 65536 in
theorem w_c3 : (Jvm.Cond.code ({ cls := "com/example/kalchas/kalchas/propositional/HornClauses", name := "<init>", desc := "()V" } : Jvm.MethodName) prog_6_method_1_code (1 : Nat) (Option.none : Option Jvm.ClassFile.FieldType)).before args0 about1 = true := code_word (m := ⟨2, 0⟩) (meth := k2m0) (c := k2c0) (by decide +kernel) rfl rfl rfl (by decide +kernel)
set_option maxRecDepth 65536 in
theorem w_c4 : (Jvm.Cond.code ({ cls := "java/lang/Object", name := "<init>", desc := "()V" } : Jvm.MethodName) object_method_1_code (1 : Nat) (Option.none : Option Jvm.ClassFile.FieldType)).before args0 about1 = true := code_word (m := ⟨0, 0⟩) (meth := k0m0) (c := k0c0) (by decide +kernel) rfl rfl rfl (by decide +kernel)
set_option maxRecDepth 65536 in
theorem w_c5 : (Jvm.Cond.code ({ cls := "com/example/kalchas/kalchas/propositional/HornClauses", name := "newVariable", desc := "()I" } : Jvm.MethodName) prog_6_method_2_code (2 : Nat) (Option.some Jvm.ClassFile.FieldType.int)).before args0 about1 = true := code_word (m := ⟨2, 1⟩) (meth := k2m1) (c := k2c1) (by decide +kernel) rfl rfl rfl (by decide +kernel)
set_option maxRecDepth 65536 in
theorem w_c6 : (Jvm.Cond.code ({ cls := "com/example/kalchas/kalchas/propositional/HornClauses", name := "add", desc := "(I[I)V" } : Jvm.MethodName) prog_6_method_4_code (7 : Nat) (Option.none : Option Jvm.ClassFile.FieldType)).before args0 about1 = true := code_word (m := ⟨2, 2⟩) (meth := k2m2) (c := k2c2) (by decide +kernel) rfl rfl rfl (by decide +kernel)
set_option maxRecDepth 65536 in
theorem w_c7 : (Jvm.Cond.code ({ cls := "com/example/kalchas/kalchas/propositional/HornClauses", name := "checkVariable", desc := "(I)V" } : Jvm.MethodName) prog_6_method_14_code (2 : Nat) (Option.none : Option Jvm.ClassFile.FieldType)).before args0 about1 = true := code_word (m := ⟨2, 4⟩) (meth := k2m4) (c := k2c4) (by decide +kernel) rfl rfl rfl (by decide +kernel)
set_option maxRecDepth 65536 in
theorem w_c8 : (Jvm.Cond.code ({ cls := "com/example/kalchas/kalchas/propositional/HornClauses", name := "checkNumber", desc := "(Ljava/lang/String;II)V" } : Jvm.MethodName) prog_6_method_16_code (3 : Nat) (Option.none : Option Jvm.ClassFile.FieldType)).before args0 about1 = true := code_word (m := ⟨2, 6⟩) (meth := k2m6) (c := k2c6) (by decide +kernel) rfl rfl rfl (by decide +kernel)
set_option maxRecDepth 65536 in
theorem w_c9 : (Jvm.Cond.code ({ cls := "com/example/kalchas/kalchas/propositional/HornClauses", name := "body", desc := "(I)[I" } : Jvm.MethodName) prog_6_method_6_code (2 : Nat) (Option.some (Jvm.ClassFile.FieldType.array Jvm.ClassFile.FieldType.int))).before args0 about1 = true := code_word (m := ⟨2, 3⟩) (meth := k2m3) (c := k2c3) (by decide +kernel) rfl rfl rfl (by decide +kernel)
set_option maxRecDepth 65536 in
theorem w_c10 : (Jvm.Cond.code ({ cls := "com/example/kalchas/kalchas/propositional/HornClauses", name := "checkClause", desc := "(I)V" } : Jvm.MethodName) prog_6_method_15_code (2 : Nat) (Option.none : Option Jvm.ClassFile.FieldType)).before args0 about1 = true := code_word (m := ⟨2, 5⟩) (meth := k2m5) (c := k2c5) (by decide +kernel) rfl rfl rfl (by decide +kernel)
set_option maxRecDepth 65536 in
theorem w_c11 : (Jvm.Cond.code ({ cls := "java/util/Arrays", name := "copyOfRange", desc := "([III)[I" } : Jvm.MethodName) jdk_65_method_136_code (3 : Nat) (Option.some (Jvm.ClassFile.FieldType.array Jvm.ClassFile.FieldType.int))).before args0 about1 = true := code_word (m := ⟨10, 2⟩) (meth := k10m2) (c := k10c2) (by decide +kernel) rfl rfl rfl (by decide +kernel)
set_option maxRecDepth 65536 in
theorem w_c12 : (Jvm.Cond.code ({ cls := "java/util/Arrays", name := "copyOfRangeInt", desc := "([III)[I" } : Jvm.MethodName) jdk_65_method_137_code (5 : Nat) (Option.some (Jvm.ClassFile.FieldType.array Jvm.ClassFile.FieldType.int))).before args0 about1 = true := code_word (m := ⟨10, 3⟩) (meth := k10m3) (c := k10c3) (by decide +kernel) rfl rfl rfl (by decide +kernel)
set_option maxRecDepth 65536 in
theorem w_c13 : (Jvm.Cond.code ({ cls := "java/util/Arrays", name := "checkLength", desc := "(II)V" } : Jvm.MethodName) jdk_65_method_131_code (2 : Nat) (Option.none : Option Jvm.ClassFile.FieldType)).before args0 about1 = true := code_word (m := ⟨10, 1⟩) (meth := k10m1) (c := k10c1) (by decide +kernel) rfl rfl rfl (by decide +kernel)
set_option maxRecDepth 65536 in
theorem w_c14 : (Jvm.Cond.code ({ cls := "java/lang/Math", name := "min", desc := "(II)I" } : Jvm.MethodName) jdk_29_method_69_code (2 : Nat) (Option.some Jvm.ClassFile.FieldType.int)).before args0 about1 = true := code_word (m := ⟨11, 1⟩) (meth := k11m1) (c := k11c1) (by decide +kernel) rfl rfl rfl (by decide +kernel)
set_option maxRecDepth 65536 in
theorem w_c15 : (Jvm.Cond.code ({ cls := "com/example/kalchas/kalchas/propositional/HornClausesBodyPinLaw", name := "same", desc := "([IIIII)Z" } : Jvm.MethodName) method_3_code (5 : Nat) (Option.some Jvm.ClassFile.FieldType.boolean)).before args0 about1 = true := code_word (m := ⟨1, 2⟩) (meth := k1m2) (c := k1c2) (by decide +kernel) rfl rfl rfl (by decide +kernel)
def codes1 : List Jvm.Cond := [Jvm.Cond.code x code maxLocals ret, Jvm.Cond.code ({ cls := "com/example/kalchas/kalchas/propositional/HornClausesBodyPinLaw", name := "e", desc := "(II)I" } : Jvm.MethodName) method_4_code (2 : Nat) (Option.some Jvm.ClassFile.FieldType.int), Jvm.Cond.code ({ cls := "com/example/kalchas/kalchas/propositional/HornClausesBodyPinLaw", name := "mk", desc := "(IIII)[I" } : Jvm.MethodName) method_2_code (4 : Nat) (Option.some (Jvm.ClassFile.FieldType.array Jvm.ClassFile.FieldType.int)), Jvm.Cond.code ({ cls := "com/example/kalchas/kalchas/propositional/HornClauses", name := "<init>", desc := "()V" } : Jvm.MethodName) prog_6_method_1_code (1 : Nat) (Option.none : Option Jvm.ClassFile.FieldType), Jvm.Cond.code ({ cls := "java/lang/Object", name := "<init>", desc := "()V" } : Jvm.MethodName) object_method_1_code (1 : Nat) (Option.none : Option Jvm.ClassFile.FieldType), Jvm.Cond.code ({ cls := "com/example/kalchas/kalchas/propositional/HornClauses", name := "newVariable", desc := "()I" } : Jvm.MethodName) prog_6_method_2_code (2 : Nat) (Option.some Jvm.ClassFile.FieldType.int), Jvm.Cond.code ({ cls := "com/example/kalchas/kalchas/propositional/HornClauses", name := "add", desc := "(I[I)V" } : Jvm.MethodName) prog_6_method_4_code (7 : Nat) (Option.none : Option Jvm.ClassFile.FieldType), Jvm.Cond.code ({ cls := "com/example/kalchas/kalchas/propositional/HornClauses", name := "checkVariable", desc := "(I)V" } : Jvm.MethodName) prog_6_method_14_code (2 : Nat) (Option.none : Option Jvm.ClassFile.FieldType), Jvm.Cond.code ({ cls := "com/example/kalchas/kalchas/propositional/HornClauses", name := "checkNumber", desc := "(Ljava/lang/String;II)V" } : Jvm.MethodName) prog_6_method_16_code (3 : Nat) (Option.none : Option Jvm.ClassFile.FieldType), Jvm.Cond.code ({ cls := "com/example/kalchas/kalchas/propositional/HornClauses", name := "body", desc := "(I)[I" } : Jvm.MethodName) prog_6_method_6_code (2 : Nat) (Option.some (Jvm.ClassFile.FieldType.array Jvm.ClassFile.FieldType.int)), Jvm.Cond.code ({ cls := "com/example/kalchas/kalchas/propositional/HornClauses", name := "checkClause", desc := "(I)V" } : Jvm.MethodName) prog_6_method_15_code (2 : Nat) (Option.none : Option Jvm.ClassFile.FieldType), Jvm.Cond.code ({ cls := "java/util/Arrays", name := "copyOfRange", desc := "([III)[I" } : Jvm.MethodName) jdk_65_method_136_code (3 : Nat) (Option.some (Jvm.ClassFile.FieldType.array Jvm.ClassFile.FieldType.int)), Jvm.Cond.code ({ cls := "java/util/Arrays", name := "copyOfRangeInt", desc := "([III)[I" } : Jvm.MethodName) jdk_65_method_137_code (5 : Nat) (Option.some (Jvm.ClassFile.FieldType.array Jvm.ClassFile.FieldType.int)), Jvm.Cond.code ({ cls := "java/util/Arrays", name := "checkLength", desc := "(II)V" } : Jvm.MethodName) jdk_65_method_131_code (2 : Nat) (Option.none : Option Jvm.ClassFile.FieldType), Jvm.Cond.code ({ cls := "java/lang/Math", name := "min", desc := "(II)I" } : Jvm.MethodName) jdk_29_method_69_code (2 : Nat) (Option.some Jvm.ClassFile.FieldType.int), Jvm.Cond.code ({ cls := "com/example/kalchas/kalchas/propositional/HornClausesBodyPinLaw", name := "same", desc := "([IIIII)Z" } : Jvm.MethodName) method_3_code (5 : Nat) (Option.some Jvm.ClassFile.FieldType.boolean)]
set_option maxRecDepth 65536 in
theorem codes_eq : words1.filter isCode = codes1 := rfl
theorem w_codes : ∀ c ∈ words1.filter isCode, c.before args0 about1 = true := by
  rw [codes_eq]
  intro c hc
  simp only [codes1, List.mem_cons, List.not_mem_nil, or_false] at hc
  rcases hc with rfl | rfl | rfl | rfl | rfl | rfl | rfl | rfl | rfl | rfl | rfl | rfl | rfl | rfl | rfl | rfl
  · exact w_c0
  · exact w_c1
  · exact w_c2
  · exact w_c3
  · exact w_c4
  · exact w_c5
  · exact w_c6
  · exact w_c7
  · exact w_c8
  · exact w_c9
  · exact w_c10
  · exact w_c11
  · exact w_c12
  · exact w_c13
  · exact w_c14
  · exact w_c15
set_option maxRecDepth 65536 in
theorem w_t1 : (words1.take 24).all (fun c => isCode c || c.before args0 about1) = true := by decide +kernel
set_option maxRecDepth 65536 in
theorem w_t2 : ((words1.drop 24).take 24).all (fun c => isCode c || c.before args0 about1) = true := by decide +kernel
set_option maxRecDepth 65536 in
theorem w_t3 : (((words1.drop 24).drop 24).take 24).all (fun c => isCode c || c.before args0 about1) = true := by decide +kernel
set_option maxRecDepth 65536 in
theorem w_t4 : (((words1.drop 24).drop 24).drop 24).all (fun c => isCode c || c.before args0 about1) = true := by decide +kernel
theorem w_tables : (allAtoms (Jvm.Cond.code x code maxLocals ret :: tables_1)).before args0 about1 = true := by
  rw [allAtoms_all]
  show words1.all (fun c => c.before args0 about1) = true
  refine all_split ?_ w_codes
  rw [← List.take_append_drop 24 words1, List.all_append, w_t1, ← List.take_append_drop 24 (words1.drop 24), List.all_append, w_t2, ← List.take_append_drop 24 ((words1.drop 24).drop 24), List.all_append, w_t3, w_t4]
  rfl
set_option maxRecDepth 65536 in
theorem w_case : (Jvm.Cond.and given_1 narrow_1).before args0 about1 = true := by decide +kernel
theorem w_applies : (headSpec (Jvm.Cond.code x code maxLocals ret :: tables_1) room_1).applies x e0.platform about1 = true :=
  (Spec.applies_iff w_frames).mpr ⟨w_running, w_runnable, w_alone, w_named, w_hears, w_ripe, w_room, w_tables⟩
theorem atStart : AtStart classFile x code maxLocals ret World_1 tables_1 room_1 Calls_1 rest_1 Pre_1 launch0 p0 e0 about1 theMethod args0 below0 :=
  ⟨lists_1, trivial, launch0.admits_env _ _ _, launch0.least_env, fairChoices_fair.cas, fairChoices_fair.clock, w_frames, w_args, w_heap, w_applies, trivial, trivial, w_case⟩
end start1
theorem witness_1 : WitnessClaimed_1 := ⟨start1.p0, start1.e0, start1.about1, start1.theMethod, start1.args0, start1.below0, start1.atStart⟩
end Jvm.Pilot.@@N@@
