import JvmDerived
import JvmDerived.Pilot.@@N@@Statement
import JvmDerived.Pilot.@@N@@Code
set_option linter.unusedVariables false
set_option linter.unusedSimpArgs false
namespace Jvm.Pilot.@@N@@
open Jvm Jvm.ClassFile Sem Op Lib Jvm.Free Jvm.Stand Jvm.LawKit Jvm.RoadKit Bundle Jvm.Pilot.@@N@@.Jvm.D
def own_Go (tb : Tables) (e : Env) (below : List Frame) (P : State → Outcome → Prop) (T : State) (g : JFrame) : Prop := ∃ t o, Steps tb e below (T.setTop g) t ∧ P t o
theorem own_go {tb : Tables} {e : Env} {below : List Frame} {P : State → Outcome → Prop} {T T' : State} {g g' : JFrame} (k : ∀ target, Steps tb e below (T'.setTop g') target → Steps tb e below (T.setTop g) target) (h : own_Go tb e below P T' g') : own_Go tb e below P T g := by
  obtain ⟨t, o, a, b⟩ := h
  exact ⟨t, o, k t a, b⟩
theorem own_cast {P Q : Prop} (h : P = Q) (p : P) : Q := h ▸ p
def own_upd (f : Nat → Value) (k : Nat) (v : Value) : Nat → Value := fun i => if i = k then v else f i
/-- an array of length z at a, its element i being f i -/
def own_AV (Z : State) (h : Heap) (a : Addr) (ty : FieldType) (z : Int32) (f : Nat → Value) : Prop := ¬ z < 0 ∧ ∃ c : Cell, Arr Z h a c ty ∧ c.slots.size = z.toNatClampNeg ∧ ∀ i, i < c.slots.size → c.slots[i]? = some (f i)
section
variable {Z : State} {h h' : Heap} {a b : Addr} {ty : FieldType} {z j : Int32} {f : Nat → Value} {v w : Value} {sl k : Nat} {ws : List Addr} {cA : ClassId}
theorem own_AV.lt (F : own_AV Z h a ty z f) : a < h.size := by obtain ⟨_, c, A, -⟩ := F; exact A.lt
theorem own_AV.ext (F : own_AV Z h a ty z f) (E : Ext h h') : own_AV Z h' a ty z f := by obtain ⟨q, c, A, r⟩ := F; exact ⟨q, c, A.ext E, r⟩
theorem own_AV.other (F : own_AV Z h b ty z f) (W : Wr h h' a sl v) (q : b ≠ a) : own_AV Z h' b ty z f := by obtain ⟨q1, c, A, r⟩ := F; exact ⟨q1, c, A.other W q, r⟩
theorem own_AV.keep (F : own_AV Z h a ty z f) (K : Keep h h' ws) (q : a ∉ ws) : own_AV Z h' a ty z f := by obtain ⟨q1, c, A, r⟩ := F; exact ⟨q1, c, ⟨K.2.1 a c A.1 q, A.2⟩, r⟩
theorem own_AV.new (A : Arr Z h a (newA cA ty z) ty) (q : ¬ z < 0) : own_AV Z h a ty z (fun _ => defaultValue ty) :=
  ⟨q, _, A, sz_new _ _ _, fun i hi => by
    rw [sz_new] at hi
    simp [newA, hi]⟩
theorem own_AV.set (F : own_AV Z h a ty z f) (W : Wr h h' a j.toNatClampNeg v) (hk : j.toNatClampNeg = k) : own_AV Z h' a ty z (own_upd f k v) := by
  obtain ⟨q, c, A, s, t⟩ := F
  subst hk
  refine ⟨q, _, A.same W, by rw [sz_set]; exact s, fun i hi => ?_⟩
  rw [sz_set] at hi
  by_cases e : i = j.toNatClampNeg
  · subst e; simp [own_upd, Cell.setSlot, hi]
  · simp only [own_upd, if_neg e, Cell.setSlot]
    rw [Array.getElem?_setIfInBounds_ne (Ne.symm e)]; exact t i hi
theorem own_at {c : Cell} (t : ∀ i, i < c.slots.size → c.slots[i]? = some (f i)) (s : c.slots.size = z.toNatClampNeg) (hin : ¬ (j < 0 ∨ c.slots.size ≤ j.toNatClampNeg)) (hk : j.toNatClampNeg = k) (hv : f k = v) : c.slots[j.toNatClampNeg]? = some v := by
  rw [t _ (Nat.lt_of_not_le fun q => hin (Or.inr q)), hk, hv]
theorem own_sta_keep {C n d : String} (F : Sta Z h C n d w) (K : Keep h h' ws) (q : ∀ x ∈ ws, ∀ c : Cell, h[x]? = some c → c.vm.isStatics = false) : Sta Z h' C n d w := by
  obtain ⟨cf, i, k, f, st, cell, h1, h2, h3, h4, h5, h6, h7⟩ := F
  exact ⟨cf, i, k, f, st, cell, h1, h2, h3, h4, K.2.1 st cell h5 (fun m => by rw [q st m cell h5] at h6; cases h6), h6, h7⟩
theorem own_exa_plain {C : String} (F : Exa Z h a C) : ∀ c : Cell, h[a]? = some c → c.vm.isStatics = false := fun c hc => by
  obtain ⟨c1, k, h1, -, -, h4, -⟩ := F; cases h1.symm.trans hc; exact h4
theorem own_AV.plain (F : own_AV Z h a ty z f) : ∀ c : Cell, h[a]? = some c → c.vm.isStatics = false := fun c hc => by
  obtain ⟨_, c1, A, -⟩ := F; cases A.1.symm.trans hc; exact A.plain
end
theorem own_narb {x : Int32} (h : x = 0 ∨ x = 1) : nar .boolean x = x := by rcases h with rfl | rfl <;> rfl
theorem own_exa_ref {args : Array Value} {s : State} {t : Term} {C : String} (hx : (Jvm.Cond.exactly t C).value args s none s [] = some true) : ∃ a, t.eval args s none [] s = some (.ref a) ∧ Exa s s.heap a C := by
  obtain ⟨a', c', cell, k, e1, -⟩ := Cond.exactly_spec (Cond.before_iff.mpr hx)
  exact ⟨a', e1, Exa.start e1 hx⟩
theorem own_eq_int {args : Array Value} {s : State} {t : Term} {k : Int32} (h : (Jvm.Cond.eq t (Jvm.Term.int k)).value args s none s [] = some true) : t.eval args s none [] s = some (.int k) := by
  cases hv : t.eval args s none [] s with
  | none => simp [Cond.value, hv] at h
  | some v => cases v <;> simp [Cond.value, hv, Term.eval] at h <;> simp [h]
theorem own_fld_int {args : Array Value} {s : State} {t : Term} {C n d : String} {a : Addr} {k : Int32} (ev : t.eval args s none [] s = some (.ref a)) (h : (Jvm.Cond.eq (Jvm.Term.field t C n d) (Jvm.Term.int k)).value args s none s [] = some true) : Fld s s.heap a C n d (.int k) :=
  Fld.start ((fld_at ev).symm.trans (own_eq_int h))
theorem own_nar_c (x : Int32) : nar .char (x.toUInt32.toUInt16.toUInt32.toInt32) = x.toUInt32.toUInt16.toUInt32.toInt32 := Value.int.inj (Jvm.Free.XT.narrow_c x)
theorem own_nar_b (x : Int32) : nar .byte (x.toInt8.toInt32) = x.toInt8.toInt32 := Value.int.inj (Jvm.Free.XT.narrow_b x)
theorem own_NSroot {Z : State} {a0 : Array Value} {O K : String} {n : Nat} (w : (Jvm.Cond.noSuperclass O).before a0 Z = true) (wk : (Jvm.Cond.instantiable K n).before a0 Z = true) (hn : O ≠ K) : NS Z O K := by
  obtain ⟨c, k, h1, h2, h3, -, -⟩ := Cond.noSuperclass_spec w
  obtain ⟨t, kt, g1, -⟩ := Cond.instantiable_spec wk
  have ne := ids_ne h1 g1 hn
  refine ⟨c, t, h1, g1, fun fuel => ?_⟩
  cases fuel with
  | zero => rfl
  | succ f => simp [Vm.isSubclassAux, ne, h2, h3]
theorem own_NSno {Z : State} {a0 : Array Value} {C S K : String} {m : Nat} (w : (Jvm.Cond.superclass C S).before a0 Z = true) (wk : (Jvm.Cond.instantiable K m).before a0 Z = true) (n : NS Z C K) (hn : C ≠ K) : ∃ c t, Z.vm.findClass C = some c ∧ Z.vm.findClass K = some t ∧ Z.vm.assignable c t = false := by
  obtain ⟨c, t, h0, g0, n3⟩ := n
  obtain ⟨p, k, kp, h1, h2, h3, h4, h5, -, h7⟩ := Cond.superclass_spec h0 w
  obtain ⟨t', k', g1, g2, g5, g7, -⟩ := Cond.instantiable_spec wk
  cases g0.symm.trans g1
  have g8 : k'.isInterface = false := by
    cases hi : k'.isInterface <;> simp [hi] at g7 ⊢
  have ne := ids_ne h0 g0 hn
  refine ⟨c, t, h0, g0, ?_⟩
  show Z.vm.assignableAux (255 + 1) c t = false
  simp [Vm.assignableAux, ne, h2, g2, h5, g5, g8, Vm.isSubclass, n3]
theorem own_monoW {s t : State} {o : Outcome} {L : List Loc} {k n k' n' : Nat} (h : ReturnedEndW s o t L k n) (hk : k ≤ k') (hn : n ≤ n') : ReturnedEndW s o t L k' n' := ⟨h.1, h.2.1, h.2.2.1, h.2.2.2.mono hk hn⟩
theorem own_ldcSL {p : Program} {l : Launch} {e : Env} {R : Room} {s : State} {vm0 : Vm} {m : MethodId} {args : Array Value} {below : List Frame} {meth : Method} {c : Code} {T : State} {locs : List Loc} {cells slots : Nat} {Z : State} {a0 : Array Value} {h : Heap}
    (X : Stand p l e R (s.setVm vm0) m args below meth c T locs cells slots) (hx : p.tables.exec = Jvm.exec) (hZ : Z.Warmed39 vm0) {own text : String} {index : Nat} (hown : vm0.findClass own = some m.cls) (w : (Jvm.Cond.stringLink own index text).before a0 Z = true) (wS : ∀ a ∈ Bundle.stringAtoms, a.before a0 Z = true)
    (eT : T.heap = h) {k0 : Nat} (hS : s.Since vm0 k0) (hk : k0 ≤ h.size) {g : JFrame} (hg : g.method = m) (hd : decode c.code g.pc = .ok (.ldc index, 2)) {n : Nat} (hn : 4 * text.toList.length ≤ n) (hbig : n ≤ 536870912) (hc : cells + 2 ≤ R.cells) (hl : slots + (n + 4) ≤ R.slots) :
    ∃ (a : Addr) (T' : State) (h' : Heap) (k1 : Nat), Stand p l e R (s.setVm T'.vm) m args below meth c T' locs (cells + 2) (slots + (n + 4)) ∧ T'.heap = h' ∧ Ext h h' ∧ s.Since T'.vm k1 ∧ k1 ≤ h'.size ∧ Z.Warmed39 (s.setVm T'.vm).vm ∧ (s.setVm T'.vm).vm.findClass own = some m.cls ∧ Lit (s.setVm T'.vm) own index a ∧ (s.setVm vm0).Warmed39 T'.vm ∧
      ∀ target, Steps p.tables e below (T'.setTop { g with pc := g.pc + 2, stack := .ref a :: g.stack }) target → Steps p.tables e below (T.setTop g) target := by
  have wS' : ∀ d ∈ Bundle.stringAtoms, d.before args (s.setVm vm0) = true := fun d hd => by
    have q := wS d hd
    simp only [Bundle.stringAtoms, List.mem_cons, List.not_mem_nil, or_false] at hd
    rcases hd with rfl | rfl | rfl | rfl | rfl | rfl | rfl
    · exact mv (s := s.setVm vm0) hZ q
    · exact mv (s := s.setVm vm0) hZ q
    · exact mvA (s := s.setVm vm0) hZ q
    · exact mv (s := s.setVm vm0) hZ q
    · exact mv (s := s.setVm vm0) hZ q
    · exact mv (s := s.setVm vm0) hZ q
    · exact mv (s := s.setVm vm0) hZ q
  obtain ⟨a, T', X', hS', ⟨kk, hkk, hrr⟩, hb, -, st⟩ := X.ldcStringCold hx (own := own) hown (mvS hZ w) wS' hg hd hn hbig hc hl
  subst eT
  have hf : T'.vm.findClass own = some m.cls := by rw [hS'.1.alike.findClass]; exact hown
  exact ⟨a, T', _, _, X', rfl, ext_of hb, hS.trans hS' (Nat.le_trans hk (ext_of hb).1), Nat.le_refl _, State.Warmed39.trans (t := s.setVm vm0) hZ hS'.1, hf, by simp [Lit, State.resolvedAt?, hf, hkk, hrr], hS'.1, st⟩
theorem own_selfsel {Z s : State} {a0 args : Array Value} {y : MethodName} {n : Nat} (hZ : Z.Warmed39 s.vm) (wi : (Jvm.Cond.instantiable y.cls n).before a0 Z = true) (wm : (Jvm.Cond.instanceMethod y).before a0 Z = true) (wp : (Jvm.Cond.privateMethod y).before a0 Z = true) (hy : y.cls ≠ "java/lang/invoke/MethodHandle" ∧ y.cls ≠ "java/lang/invoke/VarHandle") : (Jvm.Cond.selects y.cls y y).before args s = true := by
  obtain ⟨c, k, h1, h2, -, h4, -⟩ := Cond.instantiable_spec (mvT (args := args) hZ wi)
  have g8 : k.isInterface = false := by
    cases hi : k.isInterface <;> simp [hi] at h4 ⊢
  exact selects_self_of_private h1 h2 g8 (Cond.privateMethod_at (mvP hZ wp (args := #[]))) (mvT hZ wm) hy
theorem own_addeq {k a b m n : Nat} (h : k = a + b) (h1 : a = m) (h2 : m + b = n) : k = n := by subst h1; exact h.trans h2
theorem own_lt {a b : Nat} (h : a < b) : a < b := h
theorem own_ne {a b : Nat} (h : a < b ∨ b < a) : a ≠ b := by omega
def own_lts : List Nat → Prop
  | a :: b :: r => a < b ∧ own_lts (b :: r)
  | _ => True

theorem own_pn0 : plainName "com/example/honest_codec/honestcodec/IllFormedSequencePutHexPinLaw" = true := by first | (simp [plainName, overriddenIn]; done) | decide +kernel
theorem own_pn1 : plainName "com/example/honest_codec/honestcodec/IllFormedSequence" = true := by first | (simp [plainName, overriddenIn]; done) | decide +kernel
theorem own_pd0 : parseMethodDescriptor "(I)B" = some ⟨[.int], some .byte⟩ := by decide +kernel
theorem own_pd1 : parseMethodDescriptor "([BI[BI)I" = some ⟨[(.array .byte), .int, (.array .byte), .int], some .int⟩ := by decide +kernel
theorem own_pd2 : parseMethodDescriptor "(IIIIB)B" = some ⟨[.int, .int, .int, .int, .byte], some .byte⟩ := by decide +kernel
theorem own_arr_start {args : Array Value} {s : State} {t : Term} {ty : FieldType} {n : Int32} {a : Addr} (ev : t.eval args s none [] s = some (.ref a)) (ha : (Jvm.Cond.arrayOf t ty).value args s none s [] = some true) (hl : (Jvm.Cond.eq (Jvm.Term.length t) (Jvm.Term.int n)).value args s none s [] = some true) (hn : ¬ n < 0) :
    ∃ c : Cell, Arr s s.heap a c ty ∧ s.arrayAt? a = some c ∧ c.slots.size = n.toNatClampNeg := by
  obtain ⟨c, A⟩ := Arr.start ev ha
  have hA : s.arrayAt? a = some c := A.fin (Vm.Alike.refl _)
  have h := own_eq_int hl
  simp [Term.eval, ev, hA] at h
  refine ⟨c, A, hA, ?_⟩
  obtain ⟨h1, h2⟩ := h
  have b := idx_in (i := c.slots.size) (n := 2147483647)
  subst h2
  simp only [Int32.toNatClampNeg]
  have : (Nat.toInt32 c.slots.size).toInt = (c.slots.size : Int) := by
    simp [Nat.toInt32, Int32.toInt_ofNat']
    have hs : ((Int32.size : Nat) : Int) = 4294967296 := rfl
    rw [Int.bmod_eq_of_le] <;> omega
  omega
theorem own_elem {args : Array Value} {s : State} {t : Term} {a : Addr} {c : Cell} {i : Nat} (ev : ∀ idx, t.eval args s none idx s = some (.ref a)) (hA : s.arrayAt? a = some c) (hi : i < 2147483648) : (Jvm.Term.elem t (Jvm.Term.index 0)).eval args s none [i] s = c.slots[i]? := by
  have e : (Nat.toInt32 i).toInt = (i : Int) := by
    simp [Nat.toInt32, Int32.toInt_ofNat']
    have hs : ((Int32.size : Nat) : Int) = 4294967296 := rfl
    rw [Int.bmod_eq_of_le] <;> omega
  have hn : ¬ (Nat.toInt32 i) < 0 := by rw [Int32.lt_iff_toInt_lt, e]; show ¬ (i : Int) < 0; omega
  have q := elem_f (args := args) (first := s) (o := none) (idx := [i]) (s := s) (a := Jvm.Term.index 0) (j := Nat.toInt32 i) (ev [i]) rfl hA hn
  rw [q]
  congr 1
  simp only [Int32.toNatClampNeg, e]; omega
def own_hd (n : Nat) : Int32 := (if n < 10 then Int32.ofNat (n + 48) else Int32.ofNat (n + 55)).toInt8.toInt32
theorem own_orf {args : Array Value} {s : State} {i : Nat} {p q : Jvm.Cond} (hp : p.value args s none s [i] = some false) (h : (Jvm.Cond.or p q).value args s none s [i] = some true) : q.value args s none s [i] = some true := by
  cases hq : q.value args s none s [i] with
  | none => simp [Cond.value, hp, hq] at h
  | some b => cases b <;> simp [Cond.value, hp, hq] at h ⊢
theorem own_elt {args : Array Value} {s : State} {t : Term} {a : Addr} {c : Cell} {i : Nat} {k : Int64} (ev : ∀ idx, t.eval args s none idx s = some (.ref a)) (hA : s.arrayAt? a = some c) (hi : i < 2147483648)
    (h : (Jvm.Cond.eq (Jvm.Term.op1 Jvm.Unary.i2l (Jvm.Term.elem t (Jvm.Term.index (0 : Nat)))) (Jvm.Term.op2 Jvm.Binary.ladd (Jvm.Term.op1 Jvm.Unary.i2l (Jvm.Term.index (0 : Nat))) (Jvm.Term.long k))).value args s none s [i] = some true) : ∃ x : Int32, c.slots[i]? = some (.int x) ∧ x.toInt64 = (Nat.toInt32 i).toInt64 + k := by
  have e := own_elem (args := args) (i := i) ev hA hi
  have e1 : (Jvm.Term.op1 Jvm.Unary.i2l (Jvm.Term.elem t (Jvm.Term.index (0 : Nat)))).eval args s none [i] s = (c.slots[i]?).bind fun v => Unary.apply .i2l v := by rw [← e]; rfl
  have e2 : (Jvm.Term.op2 Jvm.Binary.ladd (Jvm.Term.op1 Jvm.Unary.i2l (Jvm.Term.index (0 : Nat))) (Jvm.Term.long k)).eval args s none [i] s = some (.long ((Nat.toInt32 i).toInt64 + k)) := rfl
  simp only [Cond.value, e1, e2] at h
  cases hv : c.slots[i]? with
  | none => simp [hv] at h
  | some v =>
    rw [hv] at h
    cases v <;> simp [Unary.apply] at h
    exact ⟨_, rfl, h⟩
theorem own_hd_of {args : Array Value} {s : State} {t : Term} {a : Addr} {c : Cell} (ev : ∀ idx, t.eval args s none idx s = some (.ref a)) (hA : s.arrayAt? a = some c) (hsz : c.slots.size = (16 : Int32).toNatClampNeg)
    (h1 : (Jvm.Cond.all t (Jvm.Cond.or (Jvm.Cond.le (Jvm.Term.int (10 : Int32)) (Jvm.Term.index (0 : Nat))) (Jvm.Cond.eq (Jvm.Term.op1 Jvm.Unary.i2l (Jvm.Term.elem t (Jvm.Term.index (0 : Nat)))) (Jvm.Term.op2 Jvm.Binary.ladd (Jvm.Term.op1 Jvm.Unary.i2l (Jvm.Term.index (0 : Nat))) (Jvm.Term.long (48 : Int64)))))).value args s none s [] = some true)
    (h2 : (Jvm.Cond.all t (Jvm.Cond.or (Jvm.Cond.lt (Jvm.Term.index (0 : Nat)) (Jvm.Term.int (10 : Int32))) (Jvm.Cond.eq (Jvm.Term.op1 Jvm.Unary.i2l (Jvm.Term.elem t (Jvm.Term.index (0 : Nat)))) (Jvm.Term.op2 Jvm.Binary.ladd (Jvm.Term.op1 Jvm.Unary.i2l (Jvm.Term.index (0 : Nat))) (Jvm.Term.long (55 : Int64)))))).value args s none s [] = some true) :
    ∀ i, i < c.slots.size → c.slots[i]? = some (.int (own_hd i)) := fun i hi => by
  have q1 := Cond.all_elim (ev []) hA h1 i hi
  have q2 := Cond.all_elim (ev []) hA h2 i hi
  have hi' : i < 16 := by rw [hsz] at hi; exact hi
  have fin : ∀ {x : Int32} {y : Int64}, x.toInt64 = y → x = y.toInt32 := fun {x y} q => by rw [← q]; simp
  match i, hi' with
  | 0, _ => obtain ⟨x, e1, e2⟩ := own_elt ev hA (by decide) (own_orf (show _ = some false from rfl) q1); rw [e1, fin e2]; rfl
  | 1, _ => obtain ⟨x, e1, e2⟩ := own_elt ev hA (by decide) (own_orf (show _ = some false from rfl) q1); rw [e1, fin e2]; rfl
  | 2, _ => obtain ⟨x, e1, e2⟩ := own_elt ev hA (by decide) (own_orf (show _ = some false from rfl) q1); rw [e1, fin e2]; rfl
  | 3, _ => obtain ⟨x, e1, e2⟩ := own_elt ev hA (by decide) (own_orf (show _ = some false from rfl) q1); rw [e1, fin e2]; rfl
  | 4, _ => obtain ⟨x, e1, e2⟩ := own_elt ev hA (by decide) (own_orf (show _ = some false from rfl) q1); rw [e1, fin e2]; rfl
  | 5, _ => obtain ⟨x, e1, e2⟩ := own_elt ev hA (by decide) (own_orf (show _ = some false from rfl) q1); rw [e1, fin e2]; rfl
  | 6, _ => obtain ⟨x, e1, e2⟩ := own_elt ev hA (by decide) (own_orf (show _ = some false from rfl) q1); rw [e1, fin e2]; rfl
  | 7, _ => obtain ⟨x, e1, e2⟩ := own_elt ev hA (by decide) (own_orf (show _ = some false from rfl) q1); rw [e1, fin e2]; rfl
  | 8, _ => obtain ⟨x, e1, e2⟩ := own_elt ev hA (by decide) (own_orf (show _ = some false from rfl) q1); rw [e1, fin e2]; rfl
  | 9, _ => obtain ⟨x, e1, e2⟩ := own_elt ev hA (by decide) (own_orf (show _ = some false from rfl) q1); rw [e1, fin e2]; rfl
  | 10, _ => obtain ⟨x, e1, e2⟩ := own_elt ev hA (by decide) (own_orf (show _ = some false from rfl) q2); rw [e1, fin e2]; rfl
  | 11, _ => obtain ⟨x, e1, e2⟩ := own_elt ev hA (by decide) (own_orf (show _ = some false from rfl) q2); rw [e1, fin e2]; rfl
  | 12, _ => obtain ⟨x, e1, e2⟩ := own_elt ev hA (by decide) (own_orf (show _ = some false from rfl) q2); rw [e1, fin e2]; rfl
  | 13, _ => obtain ⟨x, e1, e2⟩ := own_elt ev hA (by decide) (own_orf (show _ = some false from rfl) q2); rw [e1, fin e2]; rfl
  | 14, _ => obtain ⟨x, e1, e2⟩ := own_elt ev hA (by decide) (own_orf (show _ = some false from rfl) q2); rw [e1, fin e2]; rfl
  | 15, _ => obtain ⟨x, e1, e2⟩ := own_elt ev hA (by decide) (own_orf (show _ = some false from rfl) q2); rw [e1, fin e2]; rfl
  | (n + 16), hh => exact absurd hh (by omega)

def own_hx (n : Nat) (p : Int32) (f : Nat → Value) (b0 b1 b2 b3 : Int32) : Nat → Value := match n with
  | 0 => f
  | 1 => (own_upd (own_upd f (p).toNatClampNeg (.int (own_hd (((b0 >>> ((4 : Int32) &&& 31)) &&& (15 : Int32))).toNatClampNeg))) ((p + (1 : Int32))).toNatClampNeg (.int (own_hd ((b0 &&& (15 : Int32))).toNatClampNeg)))
  | 2 => (own_upd (own_upd (own_upd (own_upd (own_upd f (p).toNatClampNeg (.int (own_hd (((b0 >>> ((4 : Int32) &&& 31)) &&& (15 : Int32))).toNatClampNeg))) ((p + (1 : Int32))).toNatClampNeg (.int (own_hd ((b0 &&& (15 : Int32))).toNatClampNeg))) (((p + (1 : Int32)) + (1 : Int32))).toNatClampNeg (.int (32 : Int32))) ((((p + (1 : Int32)) + (1 : Int32)) + (1 : Int32))).toNatClampNeg (.int (own_hd (((b1 >>> ((4 : Int32) &&& 31)) &&& (15 : Int32))).toNatClampNeg))) (((((p + (1 : Int32)) + (1 : Int32)) + (1 : Int32)) + (1 : Int32))).toNatClampNeg (.int (own_hd ((b1 &&& (15 : Int32))).toNatClampNeg)))
  | 3 => (own_upd (own_upd (own_upd (own_upd (own_upd (own_upd (own_upd (own_upd f (p).toNatClampNeg (.int (own_hd (((b0 >>> ((4 : Int32) &&& 31)) &&& (15 : Int32))).toNatClampNeg))) ((p + (1 : Int32))).toNatClampNeg (.int (own_hd ((b0 &&& (15 : Int32))).toNatClampNeg))) (((p + (1 : Int32)) + (1 : Int32))).toNatClampNeg (.int (32 : Int32))) ((((p + (1 : Int32)) + (1 : Int32)) + (1 : Int32))).toNatClampNeg (.int (own_hd (((b1 >>> ((4 : Int32) &&& 31)) &&& (15 : Int32))).toNatClampNeg))) (((((p + (1 : Int32)) + (1 : Int32)) + (1 : Int32)) + (1 : Int32))).toNatClampNeg (.int (own_hd ((b1 &&& (15 : Int32))).toNatClampNeg))) ((((((p + (1 : Int32)) + (1 : Int32)) + (1 : Int32)) + (1 : Int32)) + (1 : Int32))).toNatClampNeg (.int (32 : Int32))) (((((((p + (1 : Int32)) + (1 : Int32)) + (1 : Int32)) + (1 : Int32)) + (1 : Int32)) + (1 : Int32))).toNatClampNeg (.int (own_hd (((b2 >>> ((4 : Int32) &&& 31)) &&& (15 : Int32))).toNatClampNeg))) ((((((((p + (1 : Int32)) + (1 : Int32)) + (1 : Int32)) + (1 : Int32)) + (1 : Int32)) + (1 : Int32)) + (1 : Int32))).toNatClampNeg (.int (own_hd ((b2 &&& (15 : Int32))).toNatClampNeg)))
  | _ => (own_upd (own_upd (own_upd (own_upd (own_upd (own_upd (own_upd (own_upd (own_upd (own_upd (own_upd f (p).toNatClampNeg (.int (own_hd (((b0 >>> ((4 : Int32) &&& 31)) &&& (15 : Int32))).toNatClampNeg))) ((p + (1 : Int32))).toNatClampNeg (.int (own_hd ((b0 &&& (15 : Int32))).toNatClampNeg))) (((p + (1 : Int32)) + (1 : Int32))).toNatClampNeg (.int (32 : Int32))) ((((p + (1 : Int32)) + (1 : Int32)) + (1 : Int32))).toNatClampNeg (.int (own_hd (((b1 >>> ((4 : Int32) &&& 31)) &&& (15 : Int32))).toNatClampNeg))) (((((p + (1 : Int32)) + (1 : Int32)) + (1 : Int32)) + (1 : Int32))).toNatClampNeg (.int (own_hd ((b1 &&& (15 : Int32))).toNatClampNeg))) ((((((p + (1 : Int32)) + (1 : Int32)) + (1 : Int32)) + (1 : Int32)) + (1 : Int32))).toNatClampNeg (.int (32 : Int32))) (((((((p + (1 : Int32)) + (1 : Int32)) + (1 : Int32)) + (1 : Int32)) + (1 : Int32)) + (1 : Int32))).toNatClampNeg (.int (own_hd (((b2 >>> ((4 : Int32) &&& 31)) &&& (15 : Int32))).toNatClampNeg))) ((((((((p + (1 : Int32)) + (1 : Int32)) + (1 : Int32)) + (1 : Int32)) + (1 : Int32)) + (1 : Int32)) + (1 : Int32))).toNatClampNeg (.int (own_hd ((b2 &&& (15 : Int32))).toNatClampNeg))) (((((((((p + (1 : Int32)) + (1 : Int32)) + (1 : Int32)) + (1 : Int32)) + (1 : Int32)) + (1 : Int32)) + (1 : Int32)) + (1 : Int32))).toNatClampNeg (.int (32 : Int32))) ((((((((((p + (1 : Int32)) + (1 : Int32)) + (1 : Int32)) + (1 : Int32)) + (1 : Int32)) + (1 : Int32)) + (1 : Int32)) + (1 : Int32)) + (1 : Int32))).toNatClampNeg (.int (own_hd (((b3 >>> ((4 : Int32) &&& 31)) &&& (15 : Int32))).toNatClampNeg))) (((((((((((p + (1 : Int32)) + (1 : Int32)) + (1 : Int32)) + (1 : Int32)) + (1 : Int32)) + (1 : Int32)) + (1 : Int32)) + (1 : Int32)) + (1 : Int32)) + (1 : Int32))).toNatClampNeg (.int (own_hd ((b3 &&& (15 : Int32))).toNatClampNeg)))
def own_he (n : Nat) (p : Int32) : Int32 := match n with
  | 0 => p
  | 1 => ((p + (1 : Int32)) + (1 : Int32))
  | 2 => (((((p + (1 : Int32)) + (1 : Int32)) + (1 : Int32)) + (1 : Int32)) + (1 : Int32))
  | 3 => ((((((((p + (1 : Int32)) + (1 : Int32)) + (1 : Int32)) + (1 : Int32)) + (1 : Int32)) + (1 : Int32)) + (1 : Int32)) + (1 : Int32))
  | _ => (((((((((((p + (1 : Int32)) + (1 : Int32)) + (1 : Int32)) + (1 : Int32)) + (1 : Int32)) + (1 : Int32)) + (1 : Int32)) + (1 : Int32)) + (1 : Int32)) + (1 : Int32)) + (1 : Int32))
def own_hw (n : Nat) (p x b0 b1 b2 b3 : Int32) (k : Nat) : Int32 := match n with
  | 0 => x
  | 1 => (if k = ((p + (1 : Int32))).toNatClampNeg then (own_hd ((b0 &&& (15 : Int32))).toNatClampNeg) else (if k = (p).toNatClampNeg then (own_hd (((b0 >>> ((4 : Int32) &&& 31)) &&& (15 : Int32))).toNatClampNeg) else x))
  | 2 => (if k = (((((p + (1 : Int32)) + (1 : Int32)) + (1 : Int32)) + (1 : Int32))).toNatClampNeg then (own_hd ((b1 &&& (15 : Int32))).toNatClampNeg) else (if k = ((((p + (1 : Int32)) + (1 : Int32)) + (1 : Int32))).toNatClampNeg then (own_hd (((b1 >>> ((4 : Int32) &&& 31)) &&& (15 : Int32))).toNatClampNeg) else (if k = (((p + (1 : Int32)) + (1 : Int32))).toNatClampNeg then (32 : Int32) else (if k = ((p + (1 : Int32))).toNatClampNeg then (own_hd ((b0 &&& (15 : Int32))).toNatClampNeg) else (if k = (p).toNatClampNeg then (own_hd (((b0 >>> ((4 : Int32) &&& 31)) &&& (15 : Int32))).toNatClampNeg) else x)))))
  | 3 => (if k = ((((((((p + (1 : Int32)) + (1 : Int32)) + (1 : Int32)) + (1 : Int32)) + (1 : Int32)) + (1 : Int32)) + (1 : Int32))).toNatClampNeg then (own_hd ((b2 &&& (15 : Int32))).toNatClampNeg) else (if k = (((((((p + (1 : Int32)) + (1 : Int32)) + (1 : Int32)) + (1 : Int32)) + (1 : Int32)) + (1 : Int32))).toNatClampNeg then (own_hd (((b2 >>> ((4 : Int32) &&& 31)) &&& (15 : Int32))).toNatClampNeg) else (if k = ((((((p + (1 : Int32)) + (1 : Int32)) + (1 : Int32)) + (1 : Int32)) + (1 : Int32))).toNatClampNeg then (32 : Int32) else (if k = (((((p + (1 : Int32)) + (1 : Int32)) + (1 : Int32)) + (1 : Int32))).toNatClampNeg then (own_hd ((b1 &&& (15 : Int32))).toNatClampNeg) else (if k = ((((p + (1 : Int32)) + (1 : Int32)) + (1 : Int32))).toNatClampNeg then (own_hd (((b1 >>> ((4 : Int32) &&& 31)) &&& (15 : Int32))).toNatClampNeg) else (if k = (((p + (1 : Int32)) + (1 : Int32))).toNatClampNeg then (32 : Int32) else (if k = ((p + (1 : Int32))).toNatClampNeg then (own_hd ((b0 &&& (15 : Int32))).toNatClampNeg) else (if k = (p).toNatClampNeg then (own_hd (((b0 >>> ((4 : Int32) &&& 31)) &&& (15 : Int32))).toNatClampNeg) else x))))))))
  | _ => (if k = (((((((((((p + (1 : Int32)) + (1 : Int32)) + (1 : Int32)) + (1 : Int32)) + (1 : Int32)) + (1 : Int32)) + (1 : Int32)) + (1 : Int32)) + (1 : Int32)) + (1 : Int32))).toNatClampNeg then (own_hd ((b3 &&& (15 : Int32))).toNatClampNeg) else (if k = ((((((((((p + (1 : Int32)) + (1 : Int32)) + (1 : Int32)) + (1 : Int32)) + (1 : Int32)) + (1 : Int32)) + (1 : Int32)) + (1 : Int32)) + (1 : Int32))).toNatClampNeg then (own_hd (((b3 >>> ((4 : Int32) &&& 31)) &&& (15 : Int32))).toNatClampNeg) else (if k = (((((((((p + (1 : Int32)) + (1 : Int32)) + (1 : Int32)) + (1 : Int32)) + (1 : Int32)) + (1 : Int32)) + (1 : Int32)) + (1 : Int32))).toNatClampNeg then (32 : Int32) else (if k = ((((((((p + (1 : Int32)) + (1 : Int32)) + (1 : Int32)) + (1 : Int32)) + (1 : Int32)) + (1 : Int32)) + (1 : Int32))).toNatClampNeg then (own_hd ((b2 &&& (15 : Int32))).toNatClampNeg) else (if k = (((((((p + (1 : Int32)) + (1 : Int32)) + (1 : Int32)) + (1 : Int32)) + (1 : Int32)) + (1 : Int32))).toNatClampNeg then (own_hd (((b2 >>> ((4 : Int32) &&& 31)) &&& (15 : Int32))).toNatClampNeg) else (if k = ((((((p + (1 : Int32)) + (1 : Int32)) + (1 : Int32)) + (1 : Int32)) + (1 : Int32))).toNatClampNeg then (32 : Int32) else (if k = (((((p + (1 : Int32)) + (1 : Int32)) + (1 : Int32)) + (1 : Int32))).toNatClampNeg then (own_hd ((b1 &&& (15 : Int32))).toNatClampNeg) else (if k = ((((p + (1 : Int32)) + (1 : Int32)) + (1 : Int32))).toNatClampNeg then (own_hd (((b1 >>> ((4 : Int32) &&& 31)) &&& (15 : Int32))).toNatClampNeg) else (if k = (((p + (1 : Int32)) + (1 : Int32))).toNatClampNeg then (32 : Int32) else (if k = ((p + (1 : Int32))).toNatClampNeg then (own_hd ((b0 &&& (15 : Int32))).toNatClampNeg) else (if k = (p).toNatClampNeg then (own_hd (((b0 >>> ((4 : Int32) &&& 31)) &&& (15 : Int32))).toNatClampNeg) else x)))))))))))
theorem own_updi {f : Nat → Value} {i k : Nat} {v x : Int32} (h : f i = .int x) : own_upd f k (.int v) i = .int (if i = k then v else x) := by unfold own_upd; split <;> simp [h]
theorem own_hx_hw (n : Nat) (p x b0 b1 b2 b3 : Int32) (f : Nat → Value) (k : Nat) (h : f k = .int x) : own_hx n p f b0 b1 b2 b3 k = .int (own_hw n p x b0 b1 b2 b3 k) := by
  match n with
  | 0 => exact h
  | 1 => exact own_updi (own_updi (h))
  | 2 => exact own_updi (own_updi (own_updi (own_updi (own_updi (h)))))
  | 3 => exact own_updi (own_updi (own_updi (own_updi (own_updi (own_updi (own_updi (own_updi (h))))))))
  | (_ + 4) => exact own_updi (own_updi (own_updi (own_updi (own_updi (own_updi (own_updi (own_updi (own_updi (own_updi (own_updi (h)))))))))))
theorem own_nar_hd (n : Nat) : nar .byte (own_hd n) = own_hd n := own_nar_b _
theorem own_heq (len pos : Int32) (hl : len = (0 : Int32) ∨ len = (1 : Int32) ∨ len = (2 : Int32) ∨ len = (3 : Int32) ∨ len = (4 : Int32)) : own_he len.toNatClampNeg pos = if len = 0 then pos else ((pos + ((3 : Int32) * len)) - (1 : Int32)) := by
  rcases hl with rfl | rfl | rfl | rfl | rfl
  · rfl
  · rw [if_neg (by decide)]; show ((pos + (1 : Int32)) + (1 : Int32)) = _; grind
  · rw [if_neg (by decide)]; show (((((pos + (1 : Int32)) + (1 : Int32)) + (1 : Int32)) + (1 : Int32)) + (1 : Int32)) = _; grind
  · rw [if_neg (by decide)]; show ((((((((pos + (1 : Int32)) + (1 : Int32)) + (1 : Int32)) + (1 : Int32)) + (1 : Int32)) + (1 : Int32)) + (1 : Int32)) + (1 : Int32)) = _; grind
  · rw [if_neg (by decide)]; show (((((((((((pos + (1 : Int32)) + (1 : Int32)) + (1 : Int32)) + (1 : Int32)) + (1 : Int32)) + (1 : Int32)) + (1 : Int32)) + (1 : Int32)) + (1 : Int32)) + (1 : Int32)) + (1 : Int32)) = _; grind
theorem own_d3_0 : decode method_3_code 0 = .ok (.iload_n 0, 1) := by decide +kernel
theorem own_d3_1 : decode method_3_code 1 = .ok (.bipush 10, 2) := by decide +kernel
theorem own_d3_3 : decode method_3_code 3 = .ok (.if_icmp .ge 9, 3) := by decide +kernel
theorem own_d3_6 : decode method_3_code 6 = .ok (.bipush 48, 2) := by decide +kernel
theorem own_d3_8 : decode method_3_code 8 = .ok (.iload_n 0, 1) := by decide +kernel
theorem own_d3_9 : decode method_3_code 9 = .ok (.iadd, 1) := by decide +kernel
theorem own_d3_10 : decode method_3_code 10 = .ok (.i2b, 1) := by decide +kernel
theorem own_d3_11 : decode method_3_code 11 = .ok (.ireturn, 1) := by decide +kernel
theorem own_d3_12 : decode method_3_code 12 = .ok (.bipush 65, 2) := by decide +kernel
theorem own_d3_14 : decode method_3_code 14 = .ok (.iload_n 0, 1) := by decide +kernel
theorem own_d3_15 : decode method_3_code 15 = .ok (.bipush 10, 2) := by decide +kernel
theorem own_d3_17 : decode method_3_code 17 = .ok (.isub, 1) := by decide +kernel
theorem own_d3_18 : decode method_3_code 18 = .ok (.iadd, 1) := by decide +kernel
theorem own_d3_19 : decode method_3_code 19 = .ok (.i2b, 1) := by decide +kernel
theorem own_d3_20 : decode method_3_code 20 = .ok (.ireturn, 1) := by decide +kernel
theorem own_ef_own_rm3 (m : MethodId) (x0 : Int32) : entryFrame m #[(.int x0)] 1 = mkF m 0 #[.val (.int x0)] [] := by first | (simp [entryFrame, mkF, argsToLocals, Value.category]; done) | rfl
def own_rm3_ret (p_1 : Int32) : Int32 := if p_1 < (10 : Int32) then (((48 : Int32) + p_1).toInt8.toInt32) else (((65 : Int32) + (p_1 - (10 : Int32))).toInt8.toInt32)
def own_Q3 (Z : State) (p_1 : Int32) (h0 : Heap) (n0 : Nat) (v : Option Value) (h : Heap) (L : List Loc) : Prop := ∃ (r_ : Int32), v = some (.int r_) ∧ Fr n0 L ∧ r_ = (own_rm3_ret p_1) ∧ h = h0
set_option maxRecDepth 65536 in
set_option maxHeartbeats 40000000 in
theorem own_rm3 (l : Launch) (Z : State) (a0 : Array Value) (hw : ∀ d ∈ tables_1, d.before a0 Z = true) (ws : List Jvm.Cond) (p_1 : Int32) (h0 : Heap) (n0 : Nat) (Z0 : n0 ≤ h0.size) :
    MetFree l (⟨"com/example/honest_codec/honestcodec/IllFormedSequencePutHexPinLaw", "hexDigit", "(I)B"⟩ : MethodName) (head1 (Jvm.Cond.code (⟨"com/example/honest_codec/honestcodec/IllFormedSequencePutHexPinLaw", "hexDigit", "(I)B"⟩ : MethodName) method_3_code 1 (some .byte) :: ws) ({ frames := 0, cells := 0, slots := 0, locals := 0 } : Room)) (fun a U => a = #[(.int p_1)] ∧ Z.Warmed39 U.vm ∧ U.heap = h0) (fun _ _ _ _ _ => True) (fun _ U o U' => ∃ v L, o = .returned v ∧ own_Q3 Z p_1 h0 n0 v U'.heap L ∧ FrameEnd U o U' L ({ frames := 0, cells := 0, slots := 0, locals := 0 } : Room).cells ({ frames := 0, cells := 0, slots := 0, locals := 0 } : Room).slots) := by
  refine MetFree.of_bodySF (plainFor_of_name own_pn0) hisR ?_
  intro p e s m args below meth c s₁ Bd hml0 hP hK
  obtain ⟨rfl, hZ, hh⟩ := hP
  have hx := Bd.exec
  have hby := Bd.bytes
  have hml : c.maxLocals = 1 := hml0
  have hown : s.vm.findClass "com/example/honest_codec/honestcodec/IllFormedSequencePutHexPinLaw" = some m.cls := findClass_of_methodNamed Bd.named
  have hnm := (name_of_methodNamed Bd.named Bd.method).1
  have X0 : Stand p l e ({ frames := 0, cells := 0, slots := 0, locals := 0 } : Room) s m #[(.int p_1)] below meth c s₁ [] 0 0 := Stand.of_body Bd
  have e0 : s₁.heap = h0 := by rw [← hh, Bd.state]; rfl
  have N0 := Fr.nil n0
  have z0 : n0 ≤ h0.size := Z0
  show own_Go p.tables e below (fun t o => t.status = .running ∧ Ended t below o ∧ ∃ v L, o = .returned v ∧ own_Q3 Z p_1 h0 n0 v t.heap L ∧ FrameEnd s o t L ({ frames := 0, cells := 0, slots := 0, locals := 0 } : Room).cells ({ frames := 0, cells := 0, slots := 0, locals := 0 } : Room).slots) s₁ (entryFrame m #[(.int p_1)] 1)
  rw [own_ef_own_rm3 m p_1]
  show own_Go _ _ _ _ s₁ (mkF m 0 #[.val (.int p_1)] [])
  refine own_go (fun _ k => XS.iloadN X0.here hx rfl (hb hby own_d3_0) rfl k) ?_
  show own_Go _ _ _ _ s₁ (mkF m 1 #[.val (.int p_1)] [(.int p_1)])
  refine own_go (fun _ k => XS.bipush X0.here hx rfl (hb hby own_d3_1) k) ?_
  show own_Go _ _ _ _ s₁ (mkF m 3 #[.val (.int p_1)] [(.int (10 : Int32)), (.int p_1)])
  by_cases hc1 : p_1 < (10 : Int32)
  · refine own_go (fun _ k => XS.icmpNo X0.here hx rfl (hb hby own_d3_3) rfl (Jvm.Free.XT.ii_ge_f hc1) k) ?_
    show own_Go _ _ _ _ s₁ (mkF m 6 #[.val (.int p_1)] [])
    refine own_go (fun _ k => XS.bipush X0.here hx rfl (hb hby own_d3_6) k) ?_
    show own_Go _ _ _ _ s₁ (mkF m 8 #[.val (.int p_1)] [(.int (48 : Int32))])
    refine own_go (fun _ k => XS.iloadN X0.here hx rfl (hb hby own_d3_8) rfl k) ?_
    show own_Go _ _ _ _ s₁ (mkF m 9 #[.val (.int p_1)] [(.int p_1), (.int (48 : Int32))])
    refine own_go (fun _ k => XS.iadd X0.here hx rfl (hb hby own_d3_9) rfl k) ?_
    show own_Go _ _ _ _ s₁ (mkF m 10 #[.val (.int p_1)] [(.int ((48 : Int32) + p_1))])
    refine own_go (fun _ k => XS.i2b X0.here hx rfl (hb hby own_d3_10) rfl k) ?_
    show own_Go _ _ _ _ s₁ (mkF m 11 #[.val (.int p_1)] [(.int (((48 : Int32) + p_1).toInt8.toInt32))])
    obtain ⟨fs, hr, hrun, hended, hW, hsame⟩ := X0.leave (v := some (.int (((48 : Int32) + p_1).toInt8.toInt32))) (fun h => by rw [Bd.returns] at h; cases h)
    refine ⟨_, _, retOut X0 hx Bd.returns (show narrow .byte (.int (((48 : Int32) + p_1).toInt8.toInt32)) = (.int (((48 : Int32) + p_1).toInt8.toInt32)) from congrArg Value.int (own_nar_b _)) (Or.inl ⟨rfl, Or.inr (Or.inr (Or.inl rfl)), _, rfl⟩) (hb hby own_d3_11) hr, hrun, hended, _, _, rfl, ?_, ⟨_, rfl⟩, hW, hsame.mono (by decide) (by decide)⟩
    show own_Q3 Z p_1 h0 n0 _ s₁.heap _
    rw [e0]
    exact ⟨_, rfl, N0, (by first | rfl | simp only [own_rm3_ret, if_pos hc1]), rfl⟩
  · refine own_go (fun _ k => XS.icmpYes X0.here hx rfl (pc0 := 3) (pc' := 12) rfl (hb hby own_d3_3) rfl (Jvm.Free.XT.ii_ge_t hc1) (by decide) (by decide) k) ?_
    show own_Go _ _ _ _ s₁ (mkF m 12 #[.val (.int p_1)] [])
    refine own_go (fun _ k => XS.bipush X0.here hx rfl (hb hby own_d3_12) k) ?_
    show own_Go _ _ _ _ s₁ (mkF m 14 #[.val (.int p_1)] [(.int (65 : Int32))])
    refine own_go (fun _ k => XS.iloadN X0.here hx rfl (hb hby own_d3_14) rfl k) ?_
    show own_Go _ _ _ _ s₁ (mkF m 15 #[.val (.int p_1)] [(.int p_1), (.int (65 : Int32))])
    refine own_go (fun _ k => XS.bipush X0.here hx rfl (hb hby own_d3_15) k) ?_
    show own_Go _ _ _ _ s₁ (mkF m 17 #[.val (.int p_1)] [(.int (10 : Int32)), (.int p_1), (.int (65 : Int32))])
    refine own_go (fun _ k => XS.isub X0.here hx rfl (hb hby own_d3_17) rfl k) ?_
    show own_Go _ _ _ _ s₁ (mkF m 18 #[.val (.int p_1)] [(.int (p_1 - (10 : Int32))), (.int (65 : Int32))])
    refine own_go (fun _ k => XS.iadd X0.here hx rfl (hb hby own_d3_18) rfl k) ?_
    show own_Go _ _ _ _ s₁ (mkF m 19 #[.val (.int p_1)] [(.int ((65 : Int32) + (p_1 - (10 : Int32))))])
    refine own_go (fun _ k => XS.i2b X0.here hx rfl (hb hby own_d3_19) rfl k) ?_
    show own_Go _ _ _ _ s₁ (mkF m 20 #[.val (.int p_1)] [(.int (((65 : Int32) + (p_1 - (10 : Int32))).toInt8.toInt32))])
    obtain ⟨fs, hr, hrun, hended, hW, hsame⟩ := X0.leave (v := some (.int (((65 : Int32) + (p_1 - (10 : Int32))).toInt8.toInt32))) (fun h => by rw [Bd.returns] at h; cases h)
    refine ⟨_, _, retOut X0 hx Bd.returns (show narrow .byte (.int (((65 : Int32) + (p_1 - (10 : Int32))).toInt8.toInt32)) = (.int (((65 : Int32) + (p_1 - (10 : Int32))).toInt8.toInt32)) from congrArg Value.int (own_nar_b _)) (Or.inl ⟨rfl, Or.inr (Or.inr (Or.inl rfl)), _, rfl⟩) (hb hby own_d3_20) hr, hrun, hended, _, _, rfl, ?_, ⟨_, rfl⟩, hW, hsame.mono (by decide) (by decide)⟩
    show own_Q3 Z p_1 h0 n0 _ s₁.heap _
    rw [e0]
    exact ⟨_, rfl, N0, (by first | rfl | simp only [own_rm3_ret, if_neg hc1]), rfl⟩
theorem own_hxnar (n : Int32) : nar .byte (own_rm3_ret n) = own_rm3_ret n := by unfold own_rm3_ret; split <;> exact own_nar_b _
theorem own_hxd (n : Int32) (h : 0 ≤ n.toInt ∧ n.toInt < 16) : own_hd n.toNatClampNeg = own_rm3_ret n := by
  have e : n = (0 : Int32) ∨ n = (1 : Int32) ∨ n = (2 : Int32) ∨ n = (3 : Int32) ∨ n = (4 : Int32) ∨ n = (5 : Int32) ∨ n = (6 : Int32) ∨ n = (7 : Int32) ∨ n = (8 : Int32) ∨ n = (9 : Int32) ∨ n = (10 : Int32) ∨ n = (11 : Int32) ∨ n = (12 : Int32) ∨ n = (13 : Int32) ∨ n = (14 : Int32) ∨ n = (15 : Int32) := by
    simp only [← Int32.toInt_inj, (by decide : (0 : Int32).toInt = 0), (by decide : (1 : Int32).toInt = 1), (by decide : (2 : Int32).toInt = 2), (by decide : (3 : Int32).toInt = 3), (by decide : (4 : Int32).toInt = 4), (by decide : (5 : Int32).toInt = 5), (by decide : (6 : Int32).toInt = 6), (by decide : (7 : Int32).toInt = 7), (by decide : (8 : Int32).toInt = 8), (by decide : (9 : Int32).toInt = 9), (by decide : (10 : Int32).toInt = 10), (by decide : (11 : Int32).toInt = 11), (by decide : (12 : Int32).toInt = 12), (by decide : (13 : Int32).toInt = 13), (by decide : (14 : Int32).toInt = 14), (by decide : (15 : Int32).toInt = 15)]
    omega
  rcases e with rfl | rfl | rfl | rfl | rfl | rfl | rfl | rfl | rfl | rfl | rfl | rfl | rfl | rfl | rfl | rfl <;> decide
theorem own_i2b (x : Int32) : ∃ k : Int, x.toInt8.toInt32.toInt = x.toInt - 256 * k := by
  simp [Int32.toInt_toInt8]
  refine ⟨(x.toInt + 128) / 256, ?_⟩
  rw [Int.bmod_def]; split <;> omega
theorem own_nlo (x : Int32) : own_hd ((x.toInt8.toInt32 &&& (15 : Int32))).toNatClampNeg = own_rm3_ret ((x &&& (255 : Int32)) &&& (15 : Int32)) := by
  have a := c_mask x.toInt8.toInt32 15 4 (by decide) (by decide)
  have b := c_mask x 255 8 (by decide) (by decide)
  have c := c_mask (x &&& (255 : Int32)) 15 4 (by decide) (by decide)
  obtain ⟨k, d⟩ := own_i2b x
  rw [own_hxd _ (by omega)]
  congr 1
  apply Int32.toInt_inj.mp
  omega
theorem own_nhi (x : Int32) : own_hd (((x.toInt8.toInt32 >>> ((4 : Int32) &&& 31)) &&& (15 : Int32))).toNatClampNeg = own_rm3_ret (((x &&& (255 : Int32)).toUInt32 >>> ((4 : Int32) &&& 31).toUInt32).toInt32) := by
  have s := c_ishr x.toInt8.toInt32 4 4 (by decide)
  have a := c_mask (x.toInt8.toInt32 >>> ((4 : Int32) &&& 31)) 15 4 (by decide) (by decide)
  have b := c_mask x 255 8 (by decide) (by decide)
  have c := c_iushr (x &&& (255 : Int32)) 4 4 (by decide) (by decide)
  obtain ⟨k, d⟩ := own_i2b x
  rw [own_hxd _ (by omega)]
  congr 1
  apply Int32.toInt_inj.mp
  omega
theorem own_sh0 (x : Int32) : ((x.toUInt32 >>> (((8 : Int32) * (0 : Int32)) &&& 31).toUInt32).toInt32) = x := by
  have h : (((8 : Int32) * (0 : Int32)) &&& 31).toUInt32 = 0 := by decide
  rw [h]; simp
theorem own_zlo (x : Int32) : own_hd ((x.toInt8.toInt32 &&& (15 : Int32))).toNatClampNeg = own_rm3_ret ((((x.toUInt32 >>> (((8 : Int32) * (0 : Int32)) &&& 31).toUInt32).toInt32) &&& (255 : Int32)) &&& (15 : Int32)) := by rw [own_sh0]; exact own_nlo x
theorem own_zhi (x : Int32) : own_hd (((x.toInt8.toInt32 >>> ((4 : Int32) &&& 31)) &&& (15 : Int32))).toNatClampNeg = own_rm3_ret (((((x.toUInt32 >>> (((8 : Int32) * (0 : Int32)) &&& 31).toUInt32).toInt32) &&& (255 : Int32)).toUInt32 >>> ((4 : Int32) &&& 31).toUInt32).toInt32) := by rw [own_sh0]; exact own_nhi x

theorem own_d2_0 : decode method_4_code 0 = .ok (.iload_n 0, 1) := by decide +kernel
theorem own_d2_1 : decode method_4_code 1 = .ok (.iload_n 3, 1) := by decide +kernel
theorem own_d2_2 : decode method_4_code 2 = .ok (.isub, 1) := by decide +kernel
theorem own_d2_3 : decode method_4_code 3 = .ok (.istore 5, 2) := by decide +kernel
theorem own_d2_5 : decode method_4_code 5 = .ok (.iload 5, 2) := by decide +kernel
theorem own_d2_7 : decode method_4_code 7 = .ok (.ifCond .lt 17, 3) := by decide +kernel
theorem own_d2_10 : decode method_4_code 10 = .ok (.iload_n 2, 1) := by decide +kernel
theorem own_d2_11 : decode method_4_code 11 = .ok (.ifCond .eq 13, 3) := by decide +kernel
theorem own_d2_14 : decode method_4_code 14 = .ok (.iload 5, 2) := by decide +kernel
theorem own_d2_16 : decode method_4_code 16 = .ok (.iconst 3, 1) := by decide +kernel
theorem own_d2_17 : decode method_4_code 17 = .ok (.iload_n 2, 1) := by decide +kernel
theorem own_d2_18 : decode method_4_code 18 = .ok (.imul, 1) := by decide +kernel
theorem own_d2_19 : decode method_4_code 19 = .ok (.iconst 1, 1) := by decide +kernel
theorem own_d2_20 : decode method_4_code 20 = .ok (.isub, 1) := by decide +kernel
theorem own_d2_21 : decode method_4_code 21 = .ok (.if_icmp .lt 6, 3) := by decide +kernel
theorem own_d2_24 : decode method_4_code 24 = .ok (.iload 4, 2) := by decide +kernel
theorem own_d2_26 : decode method_4_code 26 = .ok (.ireturn, 1) := by decide +kernel
theorem own_d2_27 : decode method_4_code 27 = .ok (.iload 5, 2) := by decide +kernel
theorem own_d2_29 : decode method_4_code 29 = .ok (.iconst 3, 1) := by decide +kernel
theorem own_d2_30 : decode method_4_code 30 = .ok (.idiv, 1) := by decide +kernel
theorem own_d2_31 : decode method_4_code 31 = .ok (.istore 6, 2) := by decide +kernel
theorem own_d2_33 : decode method_4_code 33 = .ok (.iload 5, 2) := by decide +kernel
theorem own_d2_35 : decode method_4_code 35 = .ok (.iconst 3, 1) := by decide +kernel
theorem own_d2_36 : decode method_4_code 36 = .ok (.irem, 1) := by decide +kernel
theorem own_d2_37 : decode method_4_code 37 = .ok (.istore 7, 2) := by decide +kernel
theorem own_d2_39 : decode method_4_code 39 = .ok (.iload 7, 2) := by decide +kernel
theorem own_d2_41 : decode method_4_code 41 = .ok (.iconst 2, 1) := by decide +kernel
theorem own_d2_42 : decode method_4_code 42 = .ok (.if_icmp .ne 6, 3) := by decide +kernel
theorem own_d2_45 : decode method_4_code 45 = .ok (.bipush 32, 2) := by decide +kernel
theorem own_d2_47 : decode method_4_code 47 = .ok (.ireturn, 1) := by decide +kernel
theorem own_d2_48 : decode method_4_code 48 = .ok (.iload_n 1, 1) := by decide +kernel
theorem own_d2_49 : decode method_4_code 49 = .ok (.bipush 8, 2) := by decide +kernel
theorem own_d2_51 : decode method_4_code 51 = .ok (.iload 6, 2) := by decide +kernel
theorem own_d2_53 : decode method_4_code 53 = .ok (.imul, 1) := by decide +kernel
theorem own_d2_54 : decode method_4_code 54 = .ok (.iushr, 1) := by decide +kernel
theorem own_d2_55 : decode method_4_code 55 = .ok (.sipush 255, 3) := by decide +kernel
theorem own_d2_58 : decode method_4_code 58 = .ok (.iand, 1) := by decide +kernel
theorem own_d2_59 : decode method_4_code 59 = .ok (.istore 8, 2) := by decide +kernel
theorem own_d2_61 : decode method_4_code 61 = .ok (.iload 7, 2) := by decide +kernel
theorem own_d2_63 : decode method_4_code 63 = .ok (.ifCond .ne 11, 3) := by decide +kernel
theorem own_d2_66 : decode method_4_code 66 = .ok (.iload 8, 2) := by decide +kernel
theorem own_d2_68 : decode method_4_code 68 = .ok (.iconst 4, 1) := by decide +kernel
theorem own_d2_69 : decode method_4_code 69 = .ok (.iushr, 1) := by decide +kernel
theorem own_d2_70 : decode method_4_code 70 = .ok (.invokestatic 20, 3) := by decide +kernel
theorem own_d2_73 : decode method_4_code 73 = .ok (.ireturn, 1) := by decide +kernel
theorem own_d2_74 : decode method_4_code 74 = .ok (.iload 8, 2) := by decide +kernel
theorem own_d2_76 : decode method_4_code 76 = .ok (.bipush 15, 2) := by decide +kernel
theorem own_d2_78 : decode method_4_code 78 = .ok (.iand, 1) := by decide +kernel
theorem own_d2_79 : decode method_4_code 79 = .ok (.invokestatic 20, 3) := by decide +kernel
theorem own_d2_82 : decode method_4_code 82 = .ok (.ireturn, 1) := by decide +kernel
theorem own_ef_own_rm2 (m : MethodId) (x0 : Int32) (x1 : Int32) (x2 : Int32) (x3 : Int32) (x4 : Int32) : entryFrame m #[(.int x0), (.int x1), (.int x2), (.int x3), (.int x4)] 9 = mkF m 0 #[.val (.int x0), .val (.int x1), .val (.int x2), .val (.int x3), .val (.int x4), .unset, .unset, .unset, .unset] [] := by first | (simp [entryFrame, mkF, argsToLocals, Value.category]; done) | rfl
def own_rm2_ret (p_1 : Int32) (p_2 : Int32) (p_3 : Int32) (p_4 : Int32) (p_5 : Int32) : Int32 := if (p_1 - p_4) < 0 then p_5 else if p_3 = 0 then p_5 else if (p_1 - p_4) < (((3 : Int32) * p_3) - (1 : Int32)) then (if ((p_1 - p_4) % (3 : Int32)) = (2 : Int32) then (32 : Int32) else if ((p_1 - p_4) % (3 : Int32)) = 0 then (own_rm3_ret (((((p_2.toUInt32 >>> (((8 : Int32) * ((p_1 - p_4) / (3 : Int32))) &&& 31).toUInt32).toInt32) &&& (255 : Int32)).toUInt32 >>> ((4 : Int32) &&& 31).toUInt32).toInt32)) else (own_rm3_ret ((((p_2.toUInt32 >>> (((8 : Int32) * ((p_1 - p_4) / (3 : Int32))) &&& 31).toUInt32).toInt32) &&& (255 : Int32)) &&& (15 : Int32)))) else p_5
def own_Q2 (Z : State) (p_1 : Int32) (p_2 : Int32) (p_3 : Int32) (p_4 : Int32) (p_5 : Int32) (h0 : Heap) (n0 : Nat) (v : Option Value) (h : Heap) (L : List Loc) : Prop := ∃ (r_ : Int32), v = some (.int r_) ∧ Fr n0 L ∧ r_ = (own_rm2_ret p_1 p_2 p_3 p_4 p_5) ∧ h = h0
set_option maxRecDepth 65536 in
set_option maxHeartbeats 40000000 in
theorem own_rm2 (l : Launch) (Z : State) (a0 : Array Value) (hw : ∀ d ∈ tables_1, d.before a0 Z = true) (ws : List Jvm.Cond) (p_1 : Int32) (p_2 : Int32) (p_3 : Int32) (p_4 : Int32) (p_5 : Int32) (h0 : Heap) (n0 : Nat) (Z0 : n0 ≤ h0.size) (hg_fill : nar .byte p_5 = p_5) :
    MetFree l (⟨"com/example/honest_codec/honestcodec/IllFormedSequencePutHexPinLaw", "expectedAt", "(IIIIB)B"⟩ : MethodName) (head1 (Jvm.Cond.code (⟨"com/example/honest_codec/honestcodec/IllFormedSequencePutHexPinLaw", "expectedAt", "(IIIIB)B"⟩ : MethodName) method_4_code 9 (some .byte) :: ws) ({ frames := 1, cells := 0, slots := 0, locals := 12 } : Room)) (fun a U => a = #[(.int p_1), (.int p_2), (.int p_3), (.int p_4), (.int p_5)] ∧ Z.Warmed39 U.vm ∧ U.heap = h0) (fun _ _ _ _ _ => True) (fun _ U o U' => ∃ v L, o = .returned v ∧ own_Q2 Z p_1 p_2 p_3 p_4 p_5 h0 n0 v U'.heap L ∧ FrameEnd U o U' L ({ frames := 1, cells := 0, slots := 0, locals := 12 } : Room).cells ({ frames := 1, cells := 0, slots := 0, locals := 12 } : Room).slots) := by
  refine MetFree.of_bodySF (plainFor_of_name own_pn0) hisR ?_
  intro p e s m args below meth c s₁ Bd hml0 hP hK
  obtain ⟨rfl, hZ, hh⟩ := hP
  have hx := Bd.exec
  have hby := Bd.bytes
  have hml : c.maxLocals = 9 := hml0
  have hown : s.vm.findClass "com/example/honest_codec/honestcodec/IllFormedSequencePutHexPinLaw" = some m.cls := findClass_of_methodNamed Bd.named
  have hnm := (name_of_methodNamed Bd.named Bd.method).1
  have X0 : Stand p l e ({ frames := 1, cells := 0, slots := 0, locals := 12 } : Room) s m #[(.int p_1), (.int p_2), (.int p_3), (.int p_4), (.int p_5)] below meth c s₁ [] 0 0 := Stand.of_body Bd
  have e0 : s₁.heap = h0 := by rw [← hh, Bd.state]; rfl
  have N0 := Fr.nil n0
  have z0 : n0 ≤ h0.size := Z0
  show own_Go p.tables e below (fun t o => t.status = .running ∧ Ended t below o ∧ ∃ v L, o = .returned v ∧ own_Q2 Z p_1 p_2 p_3 p_4 p_5 h0 n0 v t.heap L ∧ FrameEnd s o t L ({ frames := 1, cells := 0, slots := 0, locals := 12 } : Room).cells ({ frames := 1, cells := 0, slots := 0, locals := 12 } : Room).slots) s₁ (entryFrame m #[(.int p_1), (.int p_2), (.int p_3), (.int p_4), (.int p_5)] 9)
  rw [own_ef_own_rm2 m p_1 p_2 p_3 p_4 p_5]
  show own_Go _ _ _ _ s₁ (mkF m 0 #[.val (.int p_1), .val (.int p_2), .val (.int p_3), .val (.int p_4), .val (.int p_5), .unset, .unset, .unset, .unset] [])
  refine own_go (fun _ k => XS.iloadN X0.here hx rfl (hb hby own_d2_0) rfl k) ?_
  show own_Go _ _ _ _ s₁ (mkF m 1 #[.val (.int p_1), .val (.int p_2), .val (.int p_3), .val (.int p_4), .val (.int p_5), .unset, .unset, .unset, .unset] [(.int p_1)])
  refine own_go (fun _ k => XS.iloadN X0.here hx rfl (hb hby own_d2_1) rfl k) ?_
  show own_Go _ _ _ _ s₁ (mkF m 2 #[.val (.int p_1), .val (.int p_2), .val (.int p_3), .val (.int p_4), .val (.int p_5), .unset, .unset, .unset, .unset] [(.int p_4), (.int p_1)])
  refine own_go (fun _ k => XS.isub X0.here hx rfl (hb hby own_d2_2) rfl k) ?_
  show own_Go _ _ _ _ s₁ (mkF m 3 #[.val (.int p_1), .val (.int p_2), .val (.int p_3), .val (.int p_4), .val (.int p_5), .unset, .unset, .unset, .unset] [(.int (p_1 - p_4))])
  refine own_go (fun _ k => XS.istore X0.here hx rfl (hb hby own_d2_3) rfl (l' := #[.val (.int p_1), .val (.int p_2), .val (.int p_3), .val (.int p_4), .val (.int p_5), .val (.int (p_1 - p_4)), .unset, .unset, .unset]) rfl k) ?_
  show own_Go _ _ _ _ s₁ (mkF m 5 #[.val (.int p_1), .val (.int p_2), .val (.int p_3), .val (.int p_4), .val (.int p_5), .val (.int (p_1 - p_4)), .unset, .unset, .unset] [])
  refine own_go (fun _ k => XS.iload X0.here hx rfl (hb hby own_d2_5) rfl k) ?_
  show own_Go _ _ _ _ s₁ (mkF m 7 #[.val (.int p_1), .val (.int p_2), .val (.int p_3), .val (.int p_4), .val (.int p_5), .val (.int (p_1 - p_4)), .unset, .unset, .unset] [(.int (p_1 - p_4))])
  by_cases hc1 : (p_1 - p_4) < 0
  · refine own_go (fun _ k => XS.ifYes X0.here hx rfl (pc0 := 7) (pc' := 24) rfl (hb hby own_d2_7) rfl (Jvm.Free.XT.i0_lt_t hc1) (by decide) (by decide) k) ?_
    show own_Go _ _ _ _ s₁ (mkF m 24 #[.val (.int p_1), .val (.int p_2), .val (.int p_3), .val (.int p_4), .val (.int p_5), .val (.int (p_1 - p_4)), .unset, .unset, .unset] [])
    refine own_go (fun _ k => XS.iload X0.here hx rfl (hb hby own_d2_24) rfl k) ?_
    show own_Go _ _ _ _ s₁ (mkF m 26 #[.val (.int p_1), .val (.int p_2), .val (.int p_3), .val (.int p_4), .val (.int p_5), .val (.int (p_1 - p_4)), .unset, .unset, .unset] [(.int p_5)])
    obtain ⟨fs, hr, hrun, hended, hW, hsame⟩ := X0.leave (v := some (.int p_5)) (fun h => by rw [Bd.returns] at h; cases h)
    refine ⟨_, _, retOut X0 hx Bd.returns (show narrow .byte (.int p_5) = (.int p_5) from congrArg Value.int hg_fill) (Or.inl ⟨rfl, Or.inr (Or.inr (Or.inl rfl)), _, rfl⟩) (hb hby own_d2_26) hr, hrun, hended, _, _, rfl, ?_, ⟨_, rfl⟩, hW, hsame.mono (by decide) (by decide)⟩
    show own_Q2 Z p_1 p_2 p_3 p_4 p_5 h0 n0 _ s₁.heap _
    rw [e0]
    exact ⟨_, rfl, N0, (by first | rfl | simp only [own_rm2_ret, if_pos hc1]), rfl⟩
  · refine own_go (fun _ k => XS.ifNo X0.here hx rfl (hb hby own_d2_7) rfl (Jvm.Free.XT.i0_lt_f hc1) k) ?_
    show own_Go _ _ _ _ s₁ (mkF m 10 #[.val (.int p_1), .val (.int p_2), .val (.int p_3), .val (.int p_4), .val (.int p_5), .val (.int (p_1 - p_4)), .unset, .unset, .unset] [])
    refine own_go (fun _ k => XS.iloadN X0.here hx rfl (hb hby own_d2_10) rfl k) ?_
    show own_Go _ _ _ _ s₁ (mkF m 11 #[.val (.int p_1), .val (.int p_2), .val (.int p_3), .val (.int p_4), .val (.int p_5), .val (.int (p_1 - p_4)), .unset, .unset, .unset] [(.int p_3)])
    by_cases hc3 : p_3 = 0
    · refine own_go (fun _ k => XS.ifYes X0.here hx rfl (pc0 := 11) (pc' := 24) rfl (hb hby own_d2_11) rfl (Jvm.Free.XT.i0_eq_t hc3) (by decide) (by decide) k) ?_
      show own_Go _ _ _ _ s₁ (mkF m 24 #[.val (.int p_1), .val (.int p_2), .val (.int p_3), .val (.int p_4), .val (.int p_5), .val (.int (p_1 - p_4)), .unset, .unset, .unset] [])
      refine own_go (fun _ k => XS.iload X0.here hx rfl (hb hby own_d2_24) rfl k) ?_
      show own_Go _ _ _ _ s₁ (mkF m 26 #[.val (.int p_1), .val (.int p_2), .val (.int p_3), .val (.int p_4), .val (.int p_5), .val (.int (p_1 - p_4)), .unset, .unset, .unset] [(.int p_5)])
      obtain ⟨fs, hr, hrun, hended, hW, hsame⟩ := X0.leave (v := some (.int p_5)) (fun h => by rw [Bd.returns] at h; cases h)
      refine ⟨_, _, retOut X0 hx Bd.returns (show narrow .byte (.int p_5) = (.int p_5) from congrArg Value.int hg_fill) (Or.inl ⟨rfl, Or.inr (Or.inr (Or.inl rfl)), _, rfl⟩) (hb hby own_d2_26) hr, hrun, hended, _, _, rfl, ?_, ⟨_, rfl⟩, hW, hsame.mono (by decide) (by decide)⟩
      show own_Q2 Z p_1 p_2 p_3 p_4 p_5 h0 n0 _ s₁.heap _
      rw [e0]
      exact ⟨_, rfl, N0, (by first | rfl | simp only [own_rm2_ret, if_neg hc1, if_pos hc3]), rfl⟩
    · refine own_go (fun _ k => XS.ifNo X0.here hx rfl (hb hby own_d2_11) rfl (Jvm.Free.XT.i0_eq_f hc3) k) ?_
      show own_Go _ _ _ _ s₁ (mkF m 14 #[.val (.int p_1), .val (.int p_2), .val (.int p_3), .val (.int p_4), .val (.int p_5), .val (.int (p_1 - p_4)), .unset, .unset, .unset] [])
      refine own_go (fun _ k => XS.iload X0.here hx rfl (hb hby own_d2_14) rfl k) ?_
      show own_Go _ _ _ _ s₁ (mkF m 16 #[.val (.int p_1), .val (.int p_2), .val (.int p_3), .val (.int p_4), .val (.int p_5), .val (.int (p_1 - p_4)), .unset, .unset, .unset] [(.int (p_1 - p_4))])
      refine own_go (fun _ k => XS.iconst X0.here hx rfl (hb hby own_d2_16) k) ?_
      show own_Go _ _ _ _ s₁ (mkF m 17 #[.val (.int p_1), .val (.int p_2), .val (.int p_3), .val (.int p_4), .val (.int p_5), .val (.int (p_1 - p_4)), .unset, .unset, .unset] [(.int (3 : Int32)), (.int (p_1 - p_4))])
      refine own_go (fun _ k => XS.iloadN X0.here hx rfl (hb hby own_d2_17) rfl k) ?_
      show own_Go _ _ _ _ s₁ (mkF m 18 #[.val (.int p_1), .val (.int p_2), .val (.int p_3), .val (.int p_4), .val (.int p_5), .val (.int (p_1 - p_4)), .unset, .unset, .unset] [(.int p_3), (.int (3 : Int32)), (.int (p_1 - p_4))])
      refine own_go (fun _ k => XS.imul X0.here hx rfl (hb hby own_d2_18) rfl k) ?_
      show own_Go _ _ _ _ s₁ (mkF m 19 #[.val (.int p_1), .val (.int p_2), .val (.int p_3), .val (.int p_4), .val (.int p_5), .val (.int (p_1 - p_4)), .unset, .unset, .unset] [(.int ((3 : Int32) * p_3)), (.int (p_1 - p_4))])
      refine own_go (fun _ k => XS.iconst X0.here hx rfl (hb hby own_d2_19) k) ?_
      show own_Go _ _ _ _ s₁ (mkF m 20 #[.val (.int p_1), .val (.int p_2), .val (.int p_3), .val (.int p_4), .val (.int p_5), .val (.int (p_1 - p_4)), .unset, .unset, .unset] [(.int (1 : Int32)), (.int ((3 : Int32) * p_3)), (.int (p_1 - p_4))])
      refine own_go (fun _ k => XS.isub X0.here hx rfl (hb hby own_d2_20) rfl k) ?_
      show own_Go _ _ _ _ s₁ (mkF m 21 #[.val (.int p_1), .val (.int p_2), .val (.int p_3), .val (.int p_4), .val (.int p_5), .val (.int (p_1 - p_4)), .unset, .unset, .unset] [(.int (((3 : Int32) * p_3) - (1 : Int32))), (.int (p_1 - p_4))])
      by_cases hc5 : (p_1 - p_4) < (((3 : Int32) * p_3) - (1 : Int32))
      · refine own_go (fun _ k => XS.icmpYes X0.here hx rfl (pc0 := 21) (pc' := 27) rfl (hb hby own_d2_21) rfl (Jvm.Free.XT.ii_lt_t hc5) (by decide) (by decide) k) ?_
        show own_Go _ _ _ _ s₁ (mkF m 27 #[.val (.int p_1), .val (.int p_2), .val (.int p_3), .val (.int p_4), .val (.int p_5), .val (.int (p_1 - p_4)), .unset, .unset, .unset] [])
        refine own_go (fun _ k => XS.iload X0.here hx rfl (hb hby own_d2_27) rfl k) ?_
        show own_Go _ _ _ _ s₁ (mkF m 29 #[.val (.int p_1), .val (.int p_2), .val (.int p_3), .val (.int p_4), .val (.int p_5), .val (.int (p_1 - p_4)), .unset, .unset, .unset] [(.int (p_1 - p_4))])
        refine own_go (fun _ k => XS.iconst X0.here hx rfl (hb hby own_d2_29) k) ?_
        show own_Go _ _ _ _ s₁ (mkF m 30 #[.val (.int p_1), .val (.int p_2), .val (.int p_3), .val (.int p_4), .val (.int p_5), .val (.int (p_1 - p_4)), .unset, .unset, .unset] [(.int (3 : Int32)), (.int (p_1 - p_4))])
        have nz6 : (3 : Int32) ≠ 0 := by decide
        refine own_go (fun _ k => XS.idiv X0.here hx rfl (hb hby own_d2_30) rfl nz6 k) ?_
        show own_Go _ _ _ _ s₁ (mkF m 31 #[.val (.int p_1), .val (.int p_2), .val (.int p_3), .val (.int p_4), .val (.int p_5), .val (.int (p_1 - p_4)), .unset, .unset, .unset] [(.int ((p_1 - p_4) / (3 : Int32)))])
        refine own_go (fun _ k => XS.istore X0.here hx rfl (hb hby own_d2_31) rfl (l' := #[.val (.int p_1), .val (.int p_2), .val (.int p_3), .val (.int p_4), .val (.int p_5), .val (.int (p_1 - p_4)), .val (.int ((p_1 - p_4) / (3 : Int32))), .unset, .unset]) rfl k) ?_
        show own_Go _ _ _ _ s₁ (mkF m 33 #[.val (.int p_1), .val (.int p_2), .val (.int p_3), .val (.int p_4), .val (.int p_5), .val (.int (p_1 - p_4)), .val (.int ((p_1 - p_4) / (3 : Int32))), .unset, .unset] [])
        refine own_go (fun _ k => XS.iload X0.here hx rfl (hb hby own_d2_33) rfl k) ?_
        show own_Go _ _ _ _ s₁ (mkF m 35 #[.val (.int p_1), .val (.int p_2), .val (.int p_3), .val (.int p_4), .val (.int p_5), .val (.int (p_1 - p_4)), .val (.int ((p_1 - p_4) / (3 : Int32))), .unset, .unset] [(.int (p_1 - p_4))])
        refine own_go (fun _ k => XS.iconst X0.here hx rfl (hb hby own_d2_35) k) ?_
        show own_Go _ _ _ _ s₁ (mkF m 36 #[.val (.int p_1), .val (.int p_2), .val (.int p_3), .val (.int p_4), .val (.int p_5), .val (.int (p_1 - p_4)), .val (.int ((p_1 - p_4) / (3 : Int32))), .unset, .unset] [(.int (3 : Int32)), (.int (p_1 - p_4))])
        have nz7 : (3 : Int32) ≠ 0 := by decide
        refine own_go (fun _ k => iremM X0 hx rfl (hb hby own_d2_36) rfl nz7 k) ?_
        show own_Go _ _ _ _ s₁ (mkF m 37 #[.val (.int p_1), .val (.int p_2), .val (.int p_3), .val (.int p_4), .val (.int p_5), .val (.int (p_1 - p_4)), .val (.int ((p_1 - p_4) / (3 : Int32))), .unset, .unset] [(.int ((p_1 - p_4) % (3 : Int32)))])
        refine own_go (fun _ k => XS.istore X0.here hx rfl (hb hby own_d2_37) rfl (l' := #[.val (.int p_1), .val (.int p_2), .val (.int p_3), .val (.int p_4), .val (.int p_5), .val (.int (p_1 - p_4)), .val (.int ((p_1 - p_4) / (3 : Int32))), .val (.int ((p_1 - p_4) % (3 : Int32))), .unset]) rfl k) ?_
        show own_Go _ _ _ _ s₁ (mkF m 39 #[.val (.int p_1), .val (.int p_2), .val (.int p_3), .val (.int p_4), .val (.int p_5), .val (.int (p_1 - p_4)), .val (.int ((p_1 - p_4) / (3 : Int32))), .val (.int ((p_1 - p_4) % (3 : Int32))), .unset] [])
        refine own_go (fun _ k => XS.iload X0.here hx rfl (hb hby own_d2_39) rfl k) ?_
        show own_Go _ _ _ _ s₁ (mkF m 41 #[.val (.int p_1), .val (.int p_2), .val (.int p_3), .val (.int p_4), .val (.int p_5), .val (.int (p_1 - p_4)), .val (.int ((p_1 - p_4) / (3 : Int32))), .val (.int ((p_1 - p_4) % (3 : Int32))), .unset] [(.int ((p_1 - p_4) % (3 : Int32)))])
        refine own_go (fun _ k => XS.iconst X0.here hx rfl (hb hby own_d2_41) k) ?_
        show own_Go _ _ _ _ s₁ (mkF m 42 #[.val (.int p_1), .val (.int p_2), .val (.int p_3), .val (.int p_4), .val (.int p_5), .val (.int (p_1 - p_4)), .val (.int ((p_1 - p_4) / (3 : Int32))), .val (.int ((p_1 - p_4) % (3 : Int32))), .unset] [(.int (2 : Int32)), (.int ((p_1 - p_4) % (3 : Int32)))])
        by_cases hc8 : ((p_1 - p_4) % (3 : Int32)) = (2 : Int32)
        · refine own_go (fun _ k => XS.icmpNo X0.here hx rfl (hb hby own_d2_42) rfl (Jvm.Free.XT.ii_ne_f hc8) k) ?_
          show own_Go _ _ _ _ s₁ (mkF m 45 #[.val (.int p_1), .val (.int p_2), .val (.int p_3), .val (.int p_4), .val (.int p_5), .val (.int (p_1 - p_4)), .val (.int ((p_1 - p_4) / (3 : Int32))), .val (.int ((p_1 - p_4) % (3 : Int32))), .unset] [])
          refine own_go (fun _ k => XS.bipush X0.here hx rfl (hb hby own_d2_45) k) ?_
          show own_Go _ _ _ _ s₁ (mkF m 47 #[.val (.int p_1), .val (.int p_2), .val (.int p_3), .val (.int p_4), .val (.int p_5), .val (.int (p_1 - p_4)), .val (.int ((p_1 - p_4) / (3 : Int32))), .val (.int ((p_1 - p_4) % (3 : Int32))), .unset] [(.int (32 : Int32))])
          obtain ⟨fs, hr, hrun, hended, hW, hsame⟩ := X0.leave (v := some (.int (32 : Int32))) (fun h => by rw [Bd.returns] at h; cases h)
          refine ⟨_, _, retOut X0 hx Bd.returns rfl (Or.inl ⟨rfl, Or.inr (Or.inr (Or.inl rfl)), _, rfl⟩) (hb hby own_d2_47) hr, hrun, hended, _, _, rfl, ?_, ⟨_, rfl⟩, hW, hsame.mono (by decide) (by decide)⟩
          show own_Q2 Z p_1 p_2 p_3 p_4 p_5 h0 n0 _ s₁.heap _
          rw [e0]
          exact ⟨_, rfl, N0, (by first | rfl | simp only [own_rm2_ret, if_neg hc1, if_neg hc3, if_pos hc5, if_pos hc8]), rfl⟩
        · refine own_go (fun _ k => XS.icmpYes X0.here hx rfl (pc0 := 42) (pc' := 48) rfl (hb hby own_d2_42) rfl (Jvm.Free.XT.ii_ne_t hc8) (by decide) (by decide) k) ?_
          show own_Go _ _ _ _ s₁ (mkF m 48 #[.val (.int p_1), .val (.int p_2), .val (.int p_3), .val (.int p_4), .val (.int p_5), .val (.int (p_1 - p_4)), .val (.int ((p_1 - p_4) / (3 : Int32))), .val (.int ((p_1 - p_4) % (3 : Int32))), .unset] [])
          refine own_go (fun _ k => XS.iloadN X0.here hx rfl (hb hby own_d2_48) rfl k) ?_
          show own_Go _ _ _ _ s₁ (mkF m 49 #[.val (.int p_1), .val (.int p_2), .val (.int p_3), .val (.int p_4), .val (.int p_5), .val (.int (p_1 - p_4)), .val (.int ((p_1 - p_4) / (3 : Int32))), .val (.int ((p_1 - p_4) % (3 : Int32))), .unset] [(.int p_2)])
          refine own_go (fun _ k => XS.bipush X0.here hx rfl (hb hby own_d2_49) k) ?_
          show own_Go _ _ _ _ s₁ (mkF m 51 #[.val (.int p_1), .val (.int p_2), .val (.int p_3), .val (.int p_4), .val (.int p_5), .val (.int (p_1 - p_4)), .val (.int ((p_1 - p_4) / (3 : Int32))), .val (.int ((p_1 - p_4) % (3 : Int32))), .unset] [(.int (8 : Int32)), (.int p_2)])
          refine own_go (fun _ k => XS.iload X0.here hx rfl (hb hby own_d2_51) rfl k) ?_
          show own_Go _ _ _ _ s₁ (mkF m 53 #[.val (.int p_1), .val (.int p_2), .val (.int p_3), .val (.int p_4), .val (.int p_5), .val (.int (p_1 - p_4)), .val (.int ((p_1 - p_4) / (3 : Int32))), .val (.int ((p_1 - p_4) % (3 : Int32))), .unset] [(.int ((p_1 - p_4) / (3 : Int32))), (.int (8 : Int32)), (.int p_2)])
          refine own_go (fun _ k => XS.imul X0.here hx rfl (hb hby own_d2_53) rfl k) ?_
          show own_Go _ _ _ _ s₁ (mkF m 54 #[.val (.int p_1), .val (.int p_2), .val (.int p_3), .val (.int p_4), .val (.int p_5), .val (.int (p_1 - p_4)), .val (.int ((p_1 - p_4) / (3 : Int32))), .val (.int ((p_1 - p_4) % (3 : Int32))), .unset] [(.int ((8 : Int32) * ((p_1 - p_4) / (3 : Int32)))), (.int p_2)])
          refine own_go (fun _ k => XS.iushr X0.here hx rfl (hb hby own_d2_54) rfl k) ?_
          show own_Go _ _ _ _ s₁ (mkF m 55 #[.val (.int p_1), .val (.int p_2), .val (.int p_3), .val (.int p_4), .val (.int p_5), .val (.int (p_1 - p_4)), .val (.int ((p_1 - p_4) / (3 : Int32))), .val (.int ((p_1 - p_4) % (3 : Int32))), .unset] [(.int ((p_2.toUInt32 >>> (((8 : Int32) * ((p_1 - p_4) / (3 : Int32))) &&& 31).toUInt32).toInt32))])
          refine own_go (fun _ k => XS.sipush X0.here hx rfl (hb hby own_d2_55) k) ?_
          show own_Go _ _ _ _ s₁ (mkF m 58 #[.val (.int p_1), .val (.int p_2), .val (.int p_3), .val (.int p_4), .val (.int p_5), .val (.int (p_1 - p_4)), .val (.int ((p_1 - p_4) / (3 : Int32))), .val (.int ((p_1 - p_4) % (3 : Int32))), .unset] [(.int (255 : Int32)), (.int ((p_2.toUInt32 >>> (((8 : Int32) * ((p_1 - p_4) / (3 : Int32))) &&& 31).toUInt32).toInt32))])
          refine own_go (fun _ k => XS.iand X0.here hx rfl (hb hby own_d2_58) rfl k) ?_
          show own_Go _ _ _ _ s₁ (mkF m 59 #[.val (.int p_1), .val (.int p_2), .val (.int p_3), .val (.int p_4), .val (.int p_5), .val (.int (p_1 - p_4)), .val (.int ((p_1 - p_4) / (3 : Int32))), .val (.int ((p_1 - p_4) % (3 : Int32))), .unset] [(.int (((p_2.toUInt32 >>> (((8 : Int32) * ((p_1 - p_4) / (3 : Int32))) &&& 31).toUInt32).toInt32) &&& (255 : Int32)))])
          refine own_go (fun _ k => XS.istore X0.here hx rfl (hb hby own_d2_59) rfl (l' := #[.val (.int p_1), .val (.int p_2), .val (.int p_3), .val (.int p_4), .val (.int p_5), .val (.int (p_1 - p_4)), .val (.int ((p_1 - p_4) / (3 : Int32))), .val (.int ((p_1 - p_4) % (3 : Int32))), .val (.int (((p_2.toUInt32 >>> (((8 : Int32) * ((p_1 - p_4) / (3 : Int32))) &&& 31).toUInt32).toInt32) &&& (255 : Int32)))]) rfl k) ?_
          show own_Go _ _ _ _ s₁ (mkF m 61 #[.val (.int p_1), .val (.int p_2), .val (.int p_3), .val (.int p_4), .val (.int p_5), .val (.int (p_1 - p_4)), .val (.int ((p_1 - p_4) / (3 : Int32))), .val (.int ((p_1 - p_4) % (3 : Int32))), .val (.int (((p_2.toUInt32 >>> (((8 : Int32) * ((p_1 - p_4) / (3 : Int32))) &&& 31).toUInt32).toInt32) &&& (255 : Int32)))] [])
          refine own_go (fun _ k => XS.iload X0.here hx rfl (hb hby own_d2_61) rfl k) ?_
          show own_Go _ _ _ _ s₁ (mkF m 63 #[.val (.int p_1), .val (.int p_2), .val (.int p_3), .val (.int p_4), .val (.int p_5), .val (.int (p_1 - p_4)), .val (.int ((p_1 - p_4) / (3 : Int32))), .val (.int ((p_1 - p_4) % (3 : Int32))), .val (.int (((p_2.toUInt32 >>> (((8 : Int32) * ((p_1 - p_4) / (3 : Int32))) &&& 31).toUInt32).toInt32) &&& (255 : Int32)))] [(.int ((p_1 - p_4) % (3 : Int32)))])
          by_cases hc10 : ((p_1 - p_4) % (3 : Int32)) = 0
          · refine own_go (fun _ k => XS.ifNo X0.here hx rfl (hb hby own_d2_63) rfl (Jvm.Free.XT.i0_ne_f hc10) k) ?_
            show own_Go _ _ _ _ s₁ (mkF m 66 #[.val (.int p_1), .val (.int p_2), .val (.int p_3), .val (.int p_4), .val (.int p_5), .val (.int (p_1 - p_4)), .val (.int ((p_1 - p_4) / (3 : Int32))), .val (.int ((p_1 - p_4) % (3 : Int32))), .val (.int (((p_2.toUInt32 >>> (((8 : Int32) * ((p_1 - p_4) / (3 : Int32))) &&& 31).toUInt32).toInt32) &&& (255 : Int32)))] [])
            refine own_go (fun _ k => XS.iload X0.here hx rfl (hb hby own_d2_66) rfl k) ?_
            show own_Go _ _ _ _ s₁ (mkF m 68 #[.val (.int p_1), .val (.int p_2), .val (.int p_3), .val (.int p_4), .val (.int p_5), .val (.int (p_1 - p_4)), .val (.int ((p_1 - p_4) / (3 : Int32))), .val (.int ((p_1 - p_4) % (3 : Int32))), .val (.int (((p_2.toUInt32 >>> (((8 : Int32) * ((p_1 - p_4) / (3 : Int32))) &&& 31).toUInt32).toInt32) &&& (255 : Int32)))] [(.int (((p_2.toUInt32 >>> (((8 : Int32) * ((p_1 - p_4) / (3 : Int32))) &&& 31).toUInt32).toInt32) &&& (255 : Int32)))])
            refine own_go (fun _ k => XS.iconst X0.here hx rfl (hb hby own_d2_68) k) ?_
            show own_Go _ _ _ _ s₁ (mkF m 69 #[.val (.int p_1), .val (.int p_2), .val (.int p_3), .val (.int p_4), .val (.int p_5), .val (.int (p_1 - p_4)), .val (.int ((p_1 - p_4) / (3 : Int32))), .val (.int ((p_1 - p_4) % (3 : Int32))), .val (.int (((p_2.toUInt32 >>> (((8 : Int32) * ((p_1 - p_4) / (3 : Int32))) &&& 31).toUInt32).toInt32) &&& (255 : Int32)))] [(.int (4 : Int32)), (.int (((p_2.toUInt32 >>> (((8 : Int32) * ((p_1 - p_4) / (3 : Int32))) &&& 31).toUInt32).toInt32) &&& (255 : Int32)))])
            refine own_go (fun _ k => XS.iushr X0.here hx rfl (hb hby own_d2_69) rfl k) ?_
            show own_Go _ _ _ _ s₁ (mkF m 70 #[.val (.int p_1), .val (.int p_2), .val (.int p_3), .val (.int p_4), .val (.int p_5), .val (.int (p_1 - p_4)), .val (.int ((p_1 - p_4) / (3 : Int32))), .val (.int ((p_1 - p_4) % (3 : Int32))), .val (.int (((p_2.toUInt32 >>> (((8 : Int32) * ((p_1 - p_4) / (3 : Int32))) &&& 31).toUInt32).toInt32) &&& (255 : Int32)))] [(.int (((((p_2.toUInt32 >>> (((8 : Int32) * ((p_1 - p_4) / (3 : Int32))) &&& 31).toUInt32).toInt32) &&& (255 : Int32)).toUInt32 >>> ((4 : Int32) &&& 31).toUInt32).toInt32))])
            obtain ⟨_, _, ⟨T11, L11, k11, n11⟩, -, X11, ⟨Lc11, hQ11, l11, y11, z11⟩, st11⟩ := Jvm.LawKit.callS X0 hx (y := (⟨"com/example/honest_codec/honestcodec/IllFormedSequencePutHexPinLaw", "hexDigit", "(I)B"⟩ : MethodName)) hown (mvT hZ (hw _ (List.mem_of_getElem? (i := 12) rfl))) (mvT hZ (hw _ (List.mem_of_getElem? (i := 13) rfl))) (mvT hZ (hw _ (List.mem_of_getElem? (i := 10) rfl))) (mvT hZ (hw _ (List.mem_of_getElem? (i := 14) rfl))) (by decide) (backOf (W := 0) (own_rm3 l Z a0 hw [] (((((p_2.toUInt32 >>> (((8 : Int32) * ((p_1 - p_4) / (3 : Int32))) &&& 31).toUInt32).toInt32) &&& (255 : Int32)).toUInt32 >>> ((4 : Int32) &&& 31).toUInt32).toInt32)  h0 n0 (by omega) ) hZ (hw _ (List.mem_of_getElem? (i := 14) rfl)) (hw _ (List.mem_of_getElem? (i := 10) rfl)) (by decide) (by decide)) (g := (mkF m 70 #[.val (.int p_1), .val (.int p_2), .val (.int p_3), .val (.int p_4), .val (.int p_5), .val (.int (p_1 - p_4)), .val (.int ((p_1 - p_4) / (3 : Int32))), .val (.int ((p_1 - p_4) % (3 : Int32))), .val (.int (((p_2.toUInt32 >>> (((8 : Int32) * ((p_1 - p_4) / (3 : Int32))) &&& 31).toUInt32).toInt32) &&& (255 : Int32)))] [(.int (((((p_2.toUInt32 >>> (((8 : Int32) * ((p_1 - p_4) / (3 : Int32))) &&& 31).toUInt32).toInt32) &&& (255 : Int32)).toUInt32 >>> ((4 : Int32) &&& 31).toUInt32).toInt32))])) rfl (by rw [hml]; rfl) (argsL := [(.int (((((p_2.toUInt32 >>> (((8 : Int32) * ((p_1 - p_4) / (3 : Int32))) &&& 31).toUInt32).toInt32) &&& (255 : Int32)).toUInt32 >>> ((4 : Int32) &&& 31).toUInt32).toInt32))]) (rest := []) (lenOf own_pd0 rfl) rfl (by show 2 * 0 + _ ≤ _; exact Nat.le_of_eq rfl) (hb hby own_d2_70) (fun _ _ => ⟨rfl, e0, (by decide : 0 + 0 ≤ _), (by decide : 0 + 0 ≤ _)⟩)
            dsimp only [Pt.U, Pt.locs, Pt.cells, Pt.slots] at X11 l11 y11 z11 st11 hQ11
            have y11 : k11 = 0 := y11
            have z11 : n11 = 0 := z11
            obtain ⟨r12, rfl, N11q, hr_r12, e11⟩ := hQ11
            have N11 : Fr n0 L11 := by rw [l11]; exact Fr.app N0 N11q
            refine own_go (fun _ k => st11 _ k) ?_
            show own_Go _ _ _ _ T11 (mkF m 73 #[.val (.int p_1), .val (.int p_2), .val (.int p_3), .val (.int p_4), .val (.int p_5), .val (.int (p_1 - p_4)), .val (.int ((p_1 - p_4) / (3 : Int32))), .val (.int ((p_1 - p_4) % (3 : Int32))), .val (.int (((p_2.toUInt32 >>> (((8 : Int32) * ((p_1 - p_4) / (3 : Int32))) &&& 31).toUInt32).toInt32) &&& (255 : Int32)))] [(.int r12)])
            obtain ⟨fs, hr, hrun, hended, hW, hsame⟩ := X11.leave (v := some (.int r12)) (fun h => by rw [Bd.returns] at h; cases h)
            refine ⟨_, _, retOut X11 hx Bd.returns (show narrow .byte (.int r12) = (.int r12) from congrArg Value.int (by rw [hr_r12]; exact own_hxnar _)) (Or.inl ⟨rfl, Or.inr (Or.inr (Or.inl rfl)), _, rfl⟩) (hb hby own_d2_73) hr, hrun, hended, _, _, rfl, ?_, ⟨_, rfl⟩, hW, hsame.mono (by rw [y11]; decide) (by rw [z11]; decide)⟩
            show own_Q2 Z p_1 p_2 p_3 p_4 p_5 h0 n0 _ T11.heap _
            rw [e11]
            exact ⟨_, rfl, N11, (by subst hr_r12; first | rfl | simp only [own_rm2_ret, if_neg hc1, if_neg hc3, if_pos hc5, if_neg hc8, if_pos hc10]), rfl⟩
          · refine own_go (fun _ k => XS.ifYes X0.here hx rfl (pc0 := 63) (pc' := 74) rfl (hb hby own_d2_63) rfl (Jvm.Free.XT.i0_ne_t hc10) (by decide) (by decide) k) ?_
            show own_Go _ _ _ _ s₁ (mkF m 74 #[.val (.int p_1), .val (.int p_2), .val (.int p_3), .val (.int p_4), .val (.int p_5), .val (.int (p_1 - p_4)), .val (.int ((p_1 - p_4) / (3 : Int32))), .val (.int ((p_1 - p_4) % (3 : Int32))), .val (.int (((p_2.toUInt32 >>> (((8 : Int32) * ((p_1 - p_4) / (3 : Int32))) &&& 31).toUInt32).toInt32) &&& (255 : Int32)))] [])
            refine own_go (fun _ k => XS.iload X0.here hx rfl (hb hby own_d2_74) rfl k) ?_
            show own_Go _ _ _ _ s₁ (mkF m 76 #[.val (.int p_1), .val (.int p_2), .val (.int p_3), .val (.int p_4), .val (.int p_5), .val (.int (p_1 - p_4)), .val (.int ((p_1 - p_4) / (3 : Int32))), .val (.int ((p_1 - p_4) % (3 : Int32))), .val (.int (((p_2.toUInt32 >>> (((8 : Int32) * ((p_1 - p_4) / (3 : Int32))) &&& 31).toUInt32).toInt32) &&& (255 : Int32)))] [(.int (((p_2.toUInt32 >>> (((8 : Int32) * ((p_1 - p_4) / (3 : Int32))) &&& 31).toUInt32).toInt32) &&& (255 : Int32)))])
            refine own_go (fun _ k => XS.bipush X0.here hx rfl (hb hby own_d2_76) k) ?_
            show own_Go _ _ _ _ s₁ (mkF m 78 #[.val (.int p_1), .val (.int p_2), .val (.int p_3), .val (.int p_4), .val (.int p_5), .val (.int (p_1 - p_4)), .val (.int ((p_1 - p_4) / (3 : Int32))), .val (.int ((p_1 - p_4) % (3 : Int32))), .val (.int (((p_2.toUInt32 >>> (((8 : Int32) * ((p_1 - p_4) / (3 : Int32))) &&& 31).toUInt32).toInt32) &&& (255 : Int32)))] [(.int (15 : Int32)), (.int (((p_2.toUInt32 >>> (((8 : Int32) * ((p_1 - p_4) / (3 : Int32))) &&& 31).toUInt32).toInt32) &&& (255 : Int32)))])
            refine own_go (fun _ k => XS.iand X0.here hx rfl (hb hby own_d2_78) rfl k) ?_
            show own_Go _ _ _ _ s₁ (mkF m 79 #[.val (.int p_1), .val (.int p_2), .val (.int p_3), .val (.int p_4), .val (.int p_5), .val (.int (p_1 - p_4)), .val (.int ((p_1 - p_4) / (3 : Int32))), .val (.int ((p_1 - p_4) % (3 : Int32))), .val (.int (((p_2.toUInt32 >>> (((8 : Int32) * ((p_1 - p_4) / (3 : Int32))) &&& 31).toUInt32).toInt32) &&& (255 : Int32)))] [(.int ((((p_2.toUInt32 >>> (((8 : Int32) * ((p_1 - p_4) / (3 : Int32))) &&& 31).toUInt32).toInt32) &&& (255 : Int32)) &&& (15 : Int32)))])
            obtain ⟨_, _, ⟨T14, L14, k14, n14⟩, -, X14, ⟨Lc14, hQ14, l14, y14, z14⟩, st14⟩ := Jvm.LawKit.callS X0 hx (y := (⟨"com/example/honest_codec/honestcodec/IllFormedSequencePutHexPinLaw", "hexDigit", "(I)B"⟩ : MethodName)) hown (mvT hZ (hw _ (List.mem_of_getElem? (i := 12) rfl))) (mvT hZ (hw _ (List.mem_of_getElem? (i := 13) rfl))) (mvT hZ (hw _ (List.mem_of_getElem? (i := 10) rfl))) (mvT hZ (hw _ (List.mem_of_getElem? (i := 14) rfl))) (by decide) (backOf (W := 0) (own_rm3 l Z a0 hw [] ((((p_2.toUInt32 >>> (((8 : Int32) * ((p_1 - p_4) / (3 : Int32))) &&& 31).toUInt32).toInt32) &&& (255 : Int32)) &&& (15 : Int32))  h0 n0 (by omega) ) hZ (hw _ (List.mem_of_getElem? (i := 14) rfl)) (hw _ (List.mem_of_getElem? (i := 10) rfl)) (by decide) (by decide)) (g := (mkF m 79 #[.val (.int p_1), .val (.int p_2), .val (.int p_3), .val (.int p_4), .val (.int p_5), .val (.int (p_1 - p_4)), .val (.int ((p_1 - p_4) / (3 : Int32))), .val (.int ((p_1 - p_4) % (3 : Int32))), .val (.int (((p_2.toUInt32 >>> (((8 : Int32) * ((p_1 - p_4) / (3 : Int32))) &&& 31).toUInt32).toInt32) &&& (255 : Int32)))] [(.int ((((p_2.toUInt32 >>> (((8 : Int32) * ((p_1 - p_4) / (3 : Int32))) &&& 31).toUInt32).toInt32) &&& (255 : Int32)) &&& (15 : Int32)))])) rfl (by rw [hml]; rfl) (argsL := [(.int ((((p_2.toUInt32 >>> (((8 : Int32) * ((p_1 - p_4) / (3 : Int32))) &&& 31).toUInt32).toInt32) &&& (255 : Int32)) &&& (15 : Int32)))]) (rest := []) (lenOf own_pd0 rfl) rfl (by show 2 * 0 + _ ≤ _; exact Nat.le_of_eq rfl) (hb hby own_d2_79) (fun _ _ => ⟨rfl, e0, (by decide : 0 + 0 ≤ _), (by decide : 0 + 0 ≤ _)⟩)
            dsimp only [Pt.U, Pt.locs, Pt.cells, Pt.slots] at X14 l14 y14 z14 st14 hQ14
            have y14 : k14 = 0 := y14
            have z14 : n14 = 0 := z14
            obtain ⟨r15, rfl, N14q, hr_r15, e14⟩ := hQ14
            have N14 : Fr n0 L14 := by rw [l14]; exact Fr.app N0 N14q
            refine own_go (fun _ k => st14 _ k) ?_
            show own_Go _ _ _ _ T14 (mkF m 82 #[.val (.int p_1), .val (.int p_2), .val (.int p_3), .val (.int p_4), .val (.int p_5), .val (.int (p_1 - p_4)), .val (.int ((p_1 - p_4) / (3 : Int32))), .val (.int ((p_1 - p_4) % (3 : Int32))), .val (.int (((p_2.toUInt32 >>> (((8 : Int32) * ((p_1 - p_4) / (3 : Int32))) &&& 31).toUInt32).toInt32) &&& (255 : Int32)))] [(.int r15)])
            obtain ⟨fs, hr, hrun, hended, hW, hsame⟩ := X14.leave (v := some (.int r15)) (fun h => by rw [Bd.returns] at h; cases h)
            refine ⟨_, _, retOut X14 hx Bd.returns (show narrow .byte (.int r15) = (.int r15) from congrArg Value.int (by rw [hr_r15]; exact own_hxnar _)) (Or.inl ⟨rfl, Or.inr (Or.inr (Or.inl rfl)), _, rfl⟩) (hb hby own_d2_82) hr, hrun, hended, _, _, rfl, ?_, ⟨_, rfl⟩, hW, hsame.mono (by rw [y14]; decide) (by rw [z14]; decide)⟩
            show own_Q2 Z p_1 p_2 p_3 p_4 p_5 h0 n0 _ T14.heap _
            rw [e14]
            exact ⟨_, rfl, N14, (by subst hr_r15; first | rfl | simp only [own_rm2_ret, if_neg hc1, if_neg hc3, if_pos hc5, if_neg hc8, if_neg hc10]), rfl⟩
      · refine own_go (fun _ k => XS.icmpNo X0.here hx rfl (hb hby own_d2_21) rfl (Jvm.Free.XT.ii_lt_f hc5) k) ?_
        show own_Go _ _ _ _ s₁ (mkF m 24 #[.val (.int p_1), .val (.int p_2), .val (.int p_3), .val (.int p_4), .val (.int p_5), .val (.int (p_1 - p_4)), .unset, .unset, .unset] [])
        refine own_go (fun _ k => XS.iload X0.here hx rfl (hb hby own_d2_24) rfl k) ?_
        show own_Go _ _ _ _ s₁ (mkF m 26 #[.val (.int p_1), .val (.int p_2), .val (.int p_3), .val (.int p_4), .val (.int p_5), .val (.int (p_1 - p_4)), .unset, .unset, .unset] [(.int p_5)])
        obtain ⟨fs, hr, hrun, hended, hW, hsame⟩ := X0.leave (v := some (.int p_5)) (fun h => by rw [Bd.returns] at h; cases h)
        refine ⟨_, _, retOut X0 hx Bd.returns (show narrow .byte (.int p_5) = (.int p_5) from congrArg Value.int hg_fill) (Or.inl ⟨rfl, Or.inr (Or.inr (Or.inl rfl)), _, rfl⟩) (hb hby own_d2_26) hr, hrun, hended, _, _, rfl, ?_, ⟨_, rfl⟩, hW, hsame.mono (by decide) (by decide)⟩
        show own_Q2 Z p_1 p_2 p_3 p_4 p_5 h0 n0 _ s₁.heap _
        rw [e0]
        exact ⟨_, rfl, N0, (by first | rfl | simp only [own_rm2_ret, if_neg hc1, if_neg hc3, if_neg hc5]), rfl⟩
theorem own_ck_0 (bits len pos x : Int32) (hl : len = (0 : Int32) ∨ len = (1 : Int32) ∨ len = (2 : Int32) ∨ len = (3 : Int32) ∨ len = (4 : Int32)) (hp : pos = (0 : Int32) ∨ pos = (1 : Int32) ∨ pos = (2 : Int32) ∨ pos = (3 : Int32)) : own_hw len.toNatClampNeg pos x (bits.toInt8.toInt32) (((bits.toUInt32 >>> ((8 : Int32) &&& 31).toUInt32).toInt32).toInt8.toInt32) (((bits.toUInt32 >>> ((16 : Int32) &&& 31).toUInt32).toInt32).toInt8.toInt32) (((bits.toUInt32 >>> ((24 : Int32) &&& 31).toUInt32).toInt32).toInt8.toInt32) 0 = own_rm2_ret (0 : Int32) bits len pos x := by
  rcases hl with rfl | rfl | rfl | rfl | rfl <;> rcases hp with rfl | rfl | rfl | rfl
  · exact rfl
  · exact rfl
  · exact rfl
  · exact rfl
  · exact own_zhi bits
  · exact rfl
  · exact rfl
  · exact rfl
  · exact own_zhi bits
  · exact rfl
  · exact rfl
  · exact rfl
  · exact own_zhi bits
  · exact rfl
  · exact rfl
  · exact rfl
  · exact own_zhi bits
  · exact rfl
  · exact rfl
  · exact rfl
theorem own_ck_1 (bits len pos x : Int32) (hl : len = (0 : Int32) ∨ len = (1 : Int32) ∨ len = (2 : Int32) ∨ len = (3 : Int32) ∨ len = (4 : Int32)) (hp : pos = (0 : Int32) ∨ pos = (1 : Int32) ∨ pos = (2 : Int32) ∨ pos = (3 : Int32)) : own_hw len.toNatClampNeg pos x (bits.toInt8.toInt32) (((bits.toUInt32 >>> ((8 : Int32) &&& 31).toUInt32).toInt32).toInt8.toInt32) (((bits.toUInt32 >>> ((16 : Int32) &&& 31).toUInt32).toInt32).toInt8.toInt32) (((bits.toUInt32 >>> ((24 : Int32) &&& 31).toUInt32).toInt32).toInt8.toInt32) 1 = own_rm2_ret (1 : Int32) bits len pos x := by
  rcases hl with rfl | rfl | rfl | rfl | rfl <;> rcases hp with rfl | rfl | rfl | rfl
  · exact rfl
  · exact rfl
  · exact rfl
  · exact rfl
  · exact own_zlo bits
  · exact own_zhi bits
  · exact rfl
  · exact rfl
  · exact own_zlo bits
  · exact own_zhi bits
  · exact rfl
  · exact rfl
  · exact own_zlo bits
  · exact own_zhi bits
  · exact rfl
  · exact rfl
  · exact own_zlo bits
  · exact own_zhi bits
  · exact rfl
  · exact rfl
theorem own_ck_2 (bits len pos x : Int32) (hl : len = (0 : Int32) ∨ len = (1 : Int32) ∨ len = (2 : Int32) ∨ len = (3 : Int32) ∨ len = (4 : Int32)) (hp : pos = (0 : Int32) ∨ pos = (1 : Int32) ∨ pos = (2 : Int32) ∨ pos = (3 : Int32)) : own_hw len.toNatClampNeg pos x (bits.toInt8.toInt32) (((bits.toUInt32 >>> ((8 : Int32) &&& 31).toUInt32).toInt32).toInt8.toInt32) (((bits.toUInt32 >>> ((16 : Int32) &&& 31).toUInt32).toInt32).toInt8.toInt32) (((bits.toUInt32 >>> ((24 : Int32) &&& 31).toUInt32).toInt32).toInt8.toInt32) 2 = own_rm2_ret (2 : Int32) bits len pos x := by
  rcases hl with rfl | rfl | rfl | rfl | rfl <;> rcases hp with rfl | rfl | rfl | rfl
  · exact rfl
  · exact rfl
  · exact rfl
  · exact rfl
  · exact rfl
  · exact own_zlo bits
  · exact own_zhi bits
  · exact rfl
  · exact rfl
  · exact own_zlo bits
  · exact own_zhi bits
  · exact rfl
  · exact rfl
  · exact own_zlo bits
  · exact own_zhi bits
  · exact rfl
  · exact rfl
  · exact own_zlo bits
  · exact own_zhi bits
  · exact rfl
theorem own_ck_3 (bits len pos x : Int32) (hl : len = (0 : Int32) ∨ len = (1 : Int32) ∨ len = (2 : Int32) ∨ len = (3 : Int32) ∨ len = (4 : Int32)) (hp : pos = (0 : Int32) ∨ pos = (1 : Int32) ∨ pos = (2 : Int32) ∨ pos = (3 : Int32)) : own_hw len.toNatClampNeg pos x (bits.toInt8.toInt32) (((bits.toUInt32 >>> ((8 : Int32) &&& 31).toUInt32).toInt32).toInt8.toInt32) (((bits.toUInt32 >>> ((16 : Int32) &&& 31).toUInt32).toInt32).toInt8.toInt32) (((bits.toUInt32 >>> ((24 : Int32) &&& 31).toUInt32).toInt32).toInt8.toInt32) 3 = own_rm2_ret (3 : Int32) bits len pos x := by
  rcases hl with rfl | rfl | rfl | rfl | rfl <;> rcases hp with rfl | rfl | rfl | rfl
  · exact rfl
  · exact rfl
  · exact rfl
  · exact rfl
  · exact rfl
  · exact rfl
  · exact own_zlo bits
  · exact own_zhi bits
  · exact own_nhi ((bits.toUInt32 >>> ((8 : Int32) &&& 31).toUInt32).toInt32)
  · exact rfl
  · exact own_zlo bits
  · exact own_zhi bits
  · exact own_nhi ((bits.toUInt32 >>> ((8 : Int32) &&& 31).toUInt32).toInt32)
  · exact rfl
  · exact own_zlo bits
  · exact own_zhi bits
  · exact own_nhi ((bits.toUInt32 >>> ((8 : Int32) &&& 31).toUInt32).toInt32)
  · exact rfl
  · exact own_zlo bits
  · exact own_zhi bits
theorem own_ck_4 (bits len pos x : Int32) (hl : len = (0 : Int32) ∨ len = (1 : Int32) ∨ len = (2 : Int32) ∨ len = (3 : Int32) ∨ len = (4 : Int32)) (hp : pos = (0 : Int32) ∨ pos = (1 : Int32) ∨ pos = (2 : Int32) ∨ pos = (3 : Int32)) : own_hw len.toNatClampNeg pos x (bits.toInt8.toInt32) (((bits.toUInt32 >>> ((8 : Int32) &&& 31).toUInt32).toInt32).toInt8.toInt32) (((bits.toUInt32 >>> ((16 : Int32) &&& 31).toUInt32).toInt32).toInt8.toInt32) (((bits.toUInt32 >>> ((24 : Int32) &&& 31).toUInt32).toInt32).toInt8.toInt32) 4 = own_rm2_ret (4 : Int32) bits len pos x := by
  rcases hl with rfl | rfl | rfl | rfl | rfl <;> rcases hp with rfl | rfl | rfl | rfl
  · exact rfl
  · exact rfl
  · exact rfl
  · exact rfl
  · exact rfl
  · exact rfl
  · exact rfl
  · exact own_zlo bits
  · exact own_nlo ((bits.toUInt32 >>> ((8 : Int32) &&& 31).toUInt32).toInt32)
  · exact own_nhi ((bits.toUInt32 >>> ((8 : Int32) &&& 31).toUInt32).toInt32)
  · exact rfl
  · exact own_zlo bits
  · exact own_nlo ((bits.toUInt32 >>> ((8 : Int32) &&& 31).toUInt32).toInt32)
  · exact own_nhi ((bits.toUInt32 >>> ((8 : Int32) &&& 31).toUInt32).toInt32)
  · exact rfl
  · exact own_zlo bits
  · exact own_nlo ((bits.toUInt32 >>> ((8 : Int32) &&& 31).toUInt32).toInt32)
  · exact own_nhi ((bits.toUInt32 >>> ((8 : Int32) &&& 31).toUInt32).toInt32)
  · exact rfl
  · exact own_zlo bits
theorem own_ck_5 (bits len pos x : Int32) (hl : len = (0 : Int32) ∨ len = (1 : Int32) ∨ len = (2 : Int32) ∨ len = (3 : Int32) ∨ len = (4 : Int32)) (hp : pos = (0 : Int32) ∨ pos = (1 : Int32) ∨ pos = (2 : Int32) ∨ pos = (3 : Int32)) : own_hw len.toNatClampNeg pos x (bits.toInt8.toInt32) (((bits.toUInt32 >>> ((8 : Int32) &&& 31).toUInt32).toInt32).toInt8.toInt32) (((bits.toUInt32 >>> ((16 : Int32) &&& 31).toUInt32).toInt32).toInt8.toInt32) (((bits.toUInt32 >>> ((24 : Int32) &&& 31).toUInt32).toInt32).toInt8.toInt32) 5 = own_rm2_ret (5 : Int32) bits len pos x := by
  rcases hl with rfl | rfl | rfl | rfl | rfl <;> rcases hp with rfl | rfl | rfl | rfl
  · exact rfl
  · exact rfl
  · exact rfl
  · exact rfl
  · exact rfl
  · exact rfl
  · exact rfl
  · exact rfl
  · exact rfl
  · exact own_nlo ((bits.toUInt32 >>> ((8 : Int32) &&& 31).toUInt32).toInt32)
  · exact own_nhi ((bits.toUInt32 >>> ((8 : Int32) &&& 31).toUInt32).toInt32)
  · exact rfl
  · exact rfl
  · exact own_nlo ((bits.toUInt32 >>> ((8 : Int32) &&& 31).toUInt32).toInt32)
  · exact own_nhi ((bits.toUInt32 >>> ((8 : Int32) &&& 31).toUInt32).toInt32)
  · exact rfl
  · exact rfl
  · exact own_nlo ((bits.toUInt32 >>> ((8 : Int32) &&& 31).toUInt32).toInt32)
  · exact own_nhi ((bits.toUInt32 >>> ((8 : Int32) &&& 31).toUInt32).toInt32)
  · exact rfl
theorem own_ck_6 (bits len pos x : Int32) (hl : len = (0 : Int32) ∨ len = (1 : Int32) ∨ len = (2 : Int32) ∨ len = (3 : Int32) ∨ len = (4 : Int32)) (hp : pos = (0 : Int32) ∨ pos = (1 : Int32) ∨ pos = (2 : Int32) ∨ pos = (3 : Int32)) : own_hw len.toNatClampNeg pos x (bits.toInt8.toInt32) (((bits.toUInt32 >>> ((8 : Int32) &&& 31).toUInt32).toInt32).toInt8.toInt32) (((bits.toUInt32 >>> ((16 : Int32) &&& 31).toUInt32).toInt32).toInt8.toInt32) (((bits.toUInt32 >>> ((24 : Int32) &&& 31).toUInt32).toInt32).toInt8.toInt32) 6 = own_rm2_ret (6 : Int32) bits len pos x := by
  rcases hl with rfl | rfl | rfl | rfl | rfl <;> rcases hp with rfl | rfl | rfl | rfl
  · exact rfl
  · exact rfl
  · exact rfl
  · exact rfl
  · exact rfl
  · exact rfl
  · exact rfl
  · exact rfl
  · exact rfl
  · exact rfl
  · exact own_nlo ((bits.toUInt32 >>> ((8 : Int32) &&& 31).toUInt32).toInt32)
  · exact own_nhi ((bits.toUInt32 >>> ((8 : Int32) &&& 31).toUInt32).toInt32)
  · exact own_nhi ((bits.toUInt32 >>> ((16 : Int32) &&& 31).toUInt32).toInt32)
  · exact rfl
  · exact own_nlo ((bits.toUInt32 >>> ((8 : Int32) &&& 31).toUInt32).toInt32)
  · exact own_nhi ((bits.toUInt32 >>> ((8 : Int32) &&& 31).toUInt32).toInt32)
  · exact own_nhi ((bits.toUInt32 >>> ((16 : Int32) &&& 31).toUInt32).toInt32)
  · exact rfl
  · exact own_nlo ((bits.toUInt32 >>> ((8 : Int32) &&& 31).toUInt32).toInt32)
  · exact own_nhi ((bits.toUInt32 >>> ((8 : Int32) &&& 31).toUInt32).toInt32)
theorem own_ck_7 (bits len pos x : Int32) (hl : len = (0 : Int32) ∨ len = (1 : Int32) ∨ len = (2 : Int32) ∨ len = (3 : Int32) ∨ len = (4 : Int32)) (hp : pos = (0 : Int32) ∨ pos = (1 : Int32) ∨ pos = (2 : Int32) ∨ pos = (3 : Int32)) : own_hw len.toNatClampNeg pos x (bits.toInt8.toInt32) (((bits.toUInt32 >>> ((8 : Int32) &&& 31).toUInt32).toInt32).toInt8.toInt32) (((bits.toUInt32 >>> ((16 : Int32) &&& 31).toUInt32).toInt32).toInt8.toInt32) (((bits.toUInt32 >>> ((24 : Int32) &&& 31).toUInt32).toInt32).toInt8.toInt32) 7 = own_rm2_ret (7 : Int32) bits len pos x := by
  rcases hl with rfl | rfl | rfl | rfl | rfl <;> rcases hp with rfl | rfl | rfl | rfl
  · exact rfl
  · exact rfl
  · exact rfl
  · exact rfl
  · exact rfl
  · exact rfl
  · exact rfl
  · exact rfl
  · exact rfl
  · exact rfl
  · exact rfl
  · exact own_nlo ((bits.toUInt32 >>> ((8 : Int32) &&& 31).toUInt32).toInt32)
  · exact own_nlo ((bits.toUInt32 >>> ((16 : Int32) &&& 31).toUInt32).toInt32)
  · exact own_nhi ((bits.toUInt32 >>> ((16 : Int32) &&& 31).toUInt32).toInt32)
  · exact rfl
  · exact own_nlo ((bits.toUInt32 >>> ((8 : Int32) &&& 31).toUInt32).toInt32)
  · exact own_nlo ((bits.toUInt32 >>> ((16 : Int32) &&& 31).toUInt32).toInt32)
  · exact own_nhi ((bits.toUInt32 >>> ((16 : Int32) &&& 31).toUInt32).toInt32)
  · exact rfl
  · exact own_nlo ((bits.toUInt32 >>> ((8 : Int32) &&& 31).toUInt32).toInt32)
theorem own_ck_8 (bits len pos x : Int32) (hl : len = (0 : Int32) ∨ len = (1 : Int32) ∨ len = (2 : Int32) ∨ len = (3 : Int32) ∨ len = (4 : Int32)) (hp : pos = (0 : Int32) ∨ pos = (1 : Int32) ∨ pos = (2 : Int32) ∨ pos = (3 : Int32)) : own_hw len.toNatClampNeg pos x (bits.toInt8.toInt32) (((bits.toUInt32 >>> ((8 : Int32) &&& 31).toUInt32).toInt32).toInt8.toInt32) (((bits.toUInt32 >>> ((16 : Int32) &&& 31).toUInt32).toInt32).toInt8.toInt32) (((bits.toUInt32 >>> ((24 : Int32) &&& 31).toUInt32).toInt32).toInt8.toInt32) 8 = own_rm2_ret (8 : Int32) bits len pos x := by
  rcases hl with rfl | rfl | rfl | rfl | rfl <;> rcases hp with rfl | rfl | rfl | rfl
  · exact rfl
  · exact rfl
  · exact rfl
  · exact rfl
  · exact rfl
  · exact rfl
  · exact rfl
  · exact rfl
  · exact rfl
  · exact rfl
  · exact rfl
  · exact rfl
  · exact rfl
  · exact own_nlo ((bits.toUInt32 >>> ((16 : Int32) &&& 31).toUInt32).toInt32)
  · exact own_nhi ((bits.toUInt32 >>> ((16 : Int32) &&& 31).toUInt32).toInt32)
  · exact rfl
  · exact rfl
  · exact own_nlo ((bits.toUInt32 >>> ((16 : Int32) &&& 31).toUInt32).toInt32)
  · exact own_nhi ((bits.toUInt32 >>> ((16 : Int32) &&& 31).toUInt32).toInt32)
  · exact rfl
theorem own_ck_9 (bits len pos x : Int32) (hl : len = (0 : Int32) ∨ len = (1 : Int32) ∨ len = (2 : Int32) ∨ len = (3 : Int32) ∨ len = (4 : Int32)) (hp : pos = (0 : Int32) ∨ pos = (1 : Int32) ∨ pos = (2 : Int32) ∨ pos = (3 : Int32)) : own_hw len.toNatClampNeg pos x (bits.toInt8.toInt32) (((bits.toUInt32 >>> ((8 : Int32) &&& 31).toUInt32).toInt32).toInt8.toInt32) (((bits.toUInt32 >>> ((16 : Int32) &&& 31).toUInt32).toInt32).toInt8.toInt32) (((bits.toUInt32 >>> ((24 : Int32) &&& 31).toUInt32).toInt32).toInt8.toInt32) 9 = own_rm2_ret (9 : Int32) bits len pos x := by
  rcases hl with rfl | rfl | rfl | rfl | rfl <;> rcases hp with rfl | rfl | rfl | rfl
  · exact rfl
  · exact rfl
  · exact rfl
  · exact rfl
  · exact rfl
  · exact rfl
  · exact rfl
  · exact rfl
  · exact rfl
  · exact rfl
  · exact rfl
  · exact rfl
  · exact rfl
  · exact rfl
  · exact own_nlo ((bits.toUInt32 >>> ((16 : Int32) &&& 31).toUInt32).toInt32)
  · exact own_nhi ((bits.toUInt32 >>> ((16 : Int32) &&& 31).toUInt32).toInt32)
  · exact own_nhi ((bits.toUInt32 >>> ((24 : Int32) &&& 31).toUInt32).toInt32)
  · exact rfl
  · exact own_nlo ((bits.toUInt32 >>> ((16 : Int32) &&& 31).toUInt32).toInt32)
  · exact own_nhi ((bits.toUInt32 >>> ((16 : Int32) &&& 31).toUInt32).toInt32)
theorem own_ck_10 (bits len pos x : Int32) (hl : len = (0 : Int32) ∨ len = (1 : Int32) ∨ len = (2 : Int32) ∨ len = (3 : Int32) ∨ len = (4 : Int32)) (hp : pos = (0 : Int32) ∨ pos = (1 : Int32) ∨ pos = (2 : Int32) ∨ pos = (3 : Int32)) : own_hw len.toNatClampNeg pos x (bits.toInt8.toInt32) (((bits.toUInt32 >>> ((8 : Int32) &&& 31).toUInt32).toInt32).toInt8.toInt32) (((bits.toUInt32 >>> ((16 : Int32) &&& 31).toUInt32).toInt32).toInt8.toInt32) (((bits.toUInt32 >>> ((24 : Int32) &&& 31).toUInt32).toInt32).toInt8.toInt32) 10 = own_rm2_ret (10 : Int32) bits len pos x := by
  rcases hl with rfl | rfl | rfl | rfl | rfl <;> rcases hp with rfl | rfl | rfl | rfl
  · exact rfl
  · exact rfl
  · exact rfl
  · exact rfl
  · exact rfl
  · exact rfl
  · exact rfl
  · exact rfl
  · exact rfl
  · exact rfl
  · exact rfl
  · exact rfl
  · exact rfl
  · exact rfl
  · exact rfl
  · exact own_nlo ((bits.toUInt32 >>> ((16 : Int32) &&& 31).toUInt32).toInt32)
  · exact own_nlo ((bits.toUInt32 >>> ((24 : Int32) &&& 31).toUInt32).toInt32)
  · exact own_nhi ((bits.toUInt32 >>> ((24 : Int32) &&& 31).toUInt32).toInt32)
  · exact rfl
  · exact own_nlo ((bits.toUInt32 >>> ((16 : Int32) &&& 31).toUInt32).toInt32)
theorem own_ck_11 (bits len pos x : Int32) (hl : len = (0 : Int32) ∨ len = (1 : Int32) ∨ len = (2 : Int32) ∨ len = (3 : Int32) ∨ len = (4 : Int32)) (hp : pos = (0 : Int32) ∨ pos = (1 : Int32) ∨ pos = (2 : Int32) ∨ pos = (3 : Int32)) : own_hw len.toNatClampNeg pos x (bits.toInt8.toInt32) (((bits.toUInt32 >>> ((8 : Int32) &&& 31).toUInt32).toInt32).toInt8.toInt32) (((bits.toUInt32 >>> ((16 : Int32) &&& 31).toUInt32).toInt32).toInt8.toInt32) (((bits.toUInt32 >>> ((24 : Int32) &&& 31).toUInt32).toInt32).toInt8.toInt32) 11 = own_rm2_ret (11 : Int32) bits len pos x := by
  rcases hl with rfl | rfl | rfl | rfl | rfl <;> rcases hp with rfl | rfl | rfl | rfl
  · exact rfl
  · exact rfl
  · exact rfl
  · exact rfl
  · exact rfl
  · exact rfl
  · exact rfl
  · exact rfl
  · exact rfl
  · exact rfl
  · exact rfl
  · exact rfl
  · exact rfl
  · exact rfl
  · exact rfl
  · exact rfl
  · exact rfl
  · exact own_nlo ((bits.toUInt32 >>> ((24 : Int32) &&& 31).toUInt32).toInt32)
  · exact own_nhi ((bits.toUInt32 >>> ((24 : Int32) &&& 31).toUInt32).toInt32)
  · exact rfl
theorem own_ck_12 (bits len pos x : Int32) (hl : len = (0 : Int32) ∨ len = (1 : Int32) ∨ len = (2 : Int32) ∨ len = (3 : Int32) ∨ len = (4 : Int32)) (hp : pos = (0 : Int32) ∨ pos = (1 : Int32) ∨ pos = (2 : Int32) ∨ pos = (3 : Int32)) : own_hw len.toNatClampNeg pos x (bits.toInt8.toInt32) (((bits.toUInt32 >>> ((8 : Int32) &&& 31).toUInt32).toInt32).toInt8.toInt32) (((bits.toUInt32 >>> ((16 : Int32) &&& 31).toUInt32).toInt32).toInt8.toInt32) (((bits.toUInt32 >>> ((24 : Int32) &&& 31).toUInt32).toInt32).toInt8.toInt32) 12 = own_rm2_ret (12 : Int32) bits len pos x := by
  rcases hl with rfl | rfl | rfl | rfl | rfl <;> rcases hp with rfl | rfl | rfl | rfl
  · exact rfl
  · exact rfl
  · exact rfl
  · exact rfl
  · exact rfl
  · exact rfl
  · exact rfl
  · exact rfl
  · exact rfl
  · exact rfl
  · exact rfl
  · exact rfl
  · exact rfl
  · exact rfl
  · exact rfl
  · exact rfl
  · exact rfl
  · exact rfl
  · exact own_nlo ((bits.toUInt32 >>> ((24 : Int32) &&& 31).toUInt32).toInt32)
  · exact own_nhi ((bits.toUInt32 >>> ((24 : Int32) &&& 31).toUInt32).toInt32)
theorem own_ck_13 (bits len pos x : Int32) (hl : len = (0 : Int32) ∨ len = (1 : Int32) ∨ len = (2 : Int32) ∨ len = (3 : Int32) ∨ len = (4 : Int32)) (hp : pos = (0 : Int32) ∨ pos = (1 : Int32) ∨ pos = (2 : Int32) ∨ pos = (3 : Int32)) : own_hw len.toNatClampNeg pos x (bits.toInt8.toInt32) (((bits.toUInt32 >>> ((8 : Int32) &&& 31).toUInt32).toInt32).toInt8.toInt32) (((bits.toUInt32 >>> ((16 : Int32) &&& 31).toUInt32).toInt32).toInt8.toInt32) (((bits.toUInt32 >>> ((24 : Int32) &&& 31).toUInt32).toInt32).toInt8.toInt32) 13 = own_rm2_ret (13 : Int32) bits len pos x := by
  rcases hl with rfl | rfl | rfl | rfl | rfl <;> rcases hp with rfl | rfl | rfl | rfl
  · exact rfl
  · exact rfl
  · exact rfl
  · exact rfl
  · exact rfl
  · exact rfl
  · exact rfl
  · exact rfl
  · exact rfl
  · exact rfl
  · exact rfl
  · exact rfl
  · exact rfl
  · exact rfl
  · exact rfl
  · exact rfl
  · exact rfl
  · exact rfl
  · exact rfl
  · exact own_nlo ((bits.toUInt32 >>> ((24 : Int32) &&& 31).toUInt32).toInt32)
theorem own_ck_14 (bits len pos x : Int32) (hl : len = (0 : Int32) ∨ len = (1 : Int32) ∨ len = (2 : Int32) ∨ len = (3 : Int32) ∨ len = (4 : Int32)) (hp : pos = (0 : Int32) ∨ pos = (1 : Int32) ∨ pos = (2 : Int32) ∨ pos = (3 : Int32)) : own_hw len.toNatClampNeg pos x (bits.toInt8.toInt32) (((bits.toUInt32 >>> ((8 : Int32) &&& 31).toUInt32).toInt32).toInt8.toInt32) (((bits.toUInt32 >>> ((16 : Int32) &&& 31).toUInt32).toInt32).toInt8.toInt32) (((bits.toUInt32 >>> ((24 : Int32) &&& 31).toUInt32).toInt32).toInt8.toInt32) 14 = own_rm2_ret (14 : Int32) bits len pos x := by
  rcases hl with rfl | rfl | rfl | rfl | rfl <;> rcases hp with rfl | rfl | rfl | rfl
  · exact rfl
  · exact rfl
  · exact rfl
  · exact rfl
  · exact rfl
  · exact rfl
  · exact rfl
  · exact rfl
  · exact rfl
  · exact rfl
  · exact rfl
  · exact rfl
  · exact rfl
  · exact rfl
  · exact rfl
  · exact rfl
  · exact rfl
  · exact rfl
  · exact rfl
  · exact rfl
theorem own_ck_15 (bits len pos x : Int32) (hl : len = (0 : Int32) ∨ len = (1 : Int32) ∨ len = (2 : Int32) ∨ len = (3 : Int32) ∨ len = (4 : Int32)) (hp : pos = (0 : Int32) ∨ pos = (1 : Int32) ∨ pos = (2 : Int32) ∨ pos = (3 : Int32)) : own_hw len.toNatClampNeg pos x (bits.toInt8.toInt32) (((bits.toUInt32 >>> ((8 : Int32) &&& 31).toUInt32).toInt32).toInt8.toInt32) (((bits.toUInt32 >>> ((16 : Int32) &&& 31).toUInt32).toInt32).toInt8.toInt32) (((bits.toUInt32 >>> ((24 : Int32) &&& 31).toUInt32).toInt32).toInt8.toInt32) 15 = own_rm2_ret (15 : Int32) bits len pos x := by
  rcases hl with rfl | rfl | rfl | rfl | rfl <;> rcases hp with rfl | rfl | rfl | rfl
  · exact rfl
  · exact rfl
  · exact rfl
  · exact rfl
  · exact rfl
  · exact rfl
  · exact rfl
  · exact rfl
  · exact rfl
  · exact rfl
  · exact rfl
  · exact rfl
  · exact rfl
  · exact rfl
  · exact rfl
  · exact rfl
  · exact rfl
  · exact rfl
  · exact rfl
  · exact rfl
theorem own_d1_0 : decode prog_23_method_6_code 0 = .ok (.iload_n 3, 1) := by decide +kernel
theorem own_d1_1 : decode prog_23_method_6_code 1 = .ok (.istore 4, 2) := by decide +kernel
theorem own_d1_3 : decode prog_23_method_6_code 3 = .ok (.iconst 0, 1) := by decide +kernel
theorem own_d1_4 : decode prog_23_method_6_code 4 = .ok (.istore 5, 2) := by decide +kernel
theorem own_d1_6 : decode prog_23_method_6_code 6 = .ok (.iload 5, 2) := by decide +kernel
theorem own_d1_8 : decode prog_23_method_6_code 8 = .ok (.iload_n 1, 1) := by decide +kernel
theorem own_d1_9 : decode prog_23_method_6_code 9 = .ok (.if_icmp .ge 61, 3) := by decide +kernel
theorem own_d1_12 : decode prog_23_method_6_code 12 = .ok (.iload 5, 2) := by decide +kernel
theorem own_d1_14 : decode prog_23_method_6_code 14 = .ok (.ifCond .le 12, 3) := by decide +kernel
theorem own_d1_17 : decode prog_23_method_6_code 17 = .ok (.aload_n 2, 1) := by decide +kernel
theorem own_d1_18 : decode prog_23_method_6_code 18 = .ok (.iload 4, 2) := by decide +kernel
theorem own_d1_20 : decode prog_23_method_6_code 20 = .ok (.iinc 4 1, 3) := by decide +kernel
theorem own_d1_23 : decode prog_23_method_6_code 23 = .ok (.bipush 32, 2) := by decide +kernel
theorem own_d1_25 : decode prog_23_method_6_code 25 = .ok (.bastore, 1) := by decide +kernel
theorem own_d1_26 : decode prog_23_method_6_code 26 = .ok (.aload_n 2, 1) := by decide +kernel
theorem own_d1_27 : decode prog_23_method_6_code 27 = .ok (.iload 4, 2) := by decide +kernel
theorem own_d1_29 : decode prog_23_method_6_code 29 = .ok (.iinc 4 1, 3) := by decide +kernel
theorem own_d1_32 : decode prog_23_method_6_code 32 = .ok (.getstatic 41, 3) := by decide +kernel
theorem own_d1_35 : decode prog_23_method_6_code 35 = .ok (.aload_n 0, 1) := by decide +kernel
theorem own_d1_36 : decode prog_23_method_6_code 36 = .ok (.iload 5, 2) := by decide +kernel
theorem own_d1_38 : decode prog_23_method_6_code 38 = .ok (.baload, 1) := by decide +kernel
theorem own_d1_39 : decode prog_23_method_6_code 39 = .ok (.iconst 4, 1) := by decide +kernel
theorem own_d1_40 : decode prog_23_method_6_code 40 = .ok (.ishr, 1) := by decide +kernel
theorem own_d1_41 : decode prog_23_method_6_code 41 = .ok (.bipush 15, 2) := by decide +kernel
theorem own_d1_43 : decode prog_23_method_6_code 43 = .ok (.iand, 1) := by decide +kernel
theorem own_d1_44 : decode prog_23_method_6_code 44 = .ok (.baload, 1) := by decide +kernel
theorem own_d1_45 : decode prog_23_method_6_code 45 = .ok (.bastore, 1) := by decide +kernel
theorem own_d1_46 : decode prog_23_method_6_code 46 = .ok (.aload_n 2, 1) := by decide +kernel
theorem own_d1_47 : decode prog_23_method_6_code 47 = .ok (.iload 4, 2) := by decide +kernel
theorem own_d1_49 : decode prog_23_method_6_code 49 = .ok (.iinc 4 1, 3) := by decide +kernel
theorem own_d1_52 : decode prog_23_method_6_code 52 = .ok (.getstatic 41, 3) := by decide +kernel
theorem own_d1_55 : decode prog_23_method_6_code 55 = .ok (.aload_n 0, 1) := by decide +kernel
theorem own_d1_56 : decode prog_23_method_6_code 56 = .ok (.iload 5, 2) := by decide +kernel
theorem own_d1_58 : decode prog_23_method_6_code 58 = .ok (.baload, 1) := by decide +kernel
theorem own_d1_59 : decode prog_23_method_6_code 59 = .ok (.bipush 15, 2) := by decide +kernel
theorem own_d1_61 : decode prog_23_method_6_code 61 = .ok (.iand, 1) := by decide +kernel
theorem own_d1_62 : decode prog_23_method_6_code 62 = .ok (.baload, 1) := by decide +kernel
theorem own_d1_63 : decode prog_23_method_6_code 63 = .ok (.bastore, 1) := by decide +kernel
theorem own_d1_64 : decode prog_23_method_6_code 64 = .ok (.iinc 5 1, 3) := by decide +kernel
theorem own_d1_67 : decode prog_23_method_6_code 67 = .ok (.goto (-61), 3) := by decide +kernel
theorem own_d1_70 : decode prog_23_method_6_code 70 = .ok (.iload 4, 2) := by decide +kernel
theorem own_d1_72 : decode prog_23_method_6_code 72 = .ok (.ireturn, 1) := by decide +kernel
theorem own_ef_own_rm1 (m : MethodId) (x0 : Addr) (x1 : Int32) (x2 : Addr) (x3 : Int32) : entryFrame m #[(.ref x0), (.int x1), (.ref x2), (.int x3)] 6 = mkF m 0 #[.val (.ref x0), .val (.int x1), .val (.ref x2), .val (.int x3), .unset, .unset] [] := by first | (simp [entryFrame, mkF, argsToLocals, Value.category]; done) | rfl
set_option maxRecDepth 65536 in
set_option maxHeartbeats 4000000 in
theorem own_t1_0 (p_2 : Int32) (hl : p_2 = (0 : Int32) ∨ p_2 = (1 : Int32) ∨ p_2 = (2 : Int32) ∨ p_2 = (3 : Int32) ∨ p_2 = (4 : Int32)) : p_2 = (0 : Int32) ∨ p_2 = (1 : Int32) ∨ p_2 = (2 : Int32) ∨ p_2 = (3 : Int32) ∨ p_2 = (4 : Int32) := by
  exact hl
set_option maxRecDepth 65536 in
set_option maxHeartbeats 4000000 in
theorem own_t1_1 (b0 : Int32)  : ¬ ((b0 >>> ((4 : Int32) &&& 31)) &&& (15 : Int32)) < 0 ∧ ((b0 >>> ((4 : Int32) &&& 31)) &&& (15 : Int32)) < (16 : Int32) := by
  have el0 : (4 : Int32).toInt = 4 := by decide
  have el1 : (15 : Int32).toInt = 15 := by decide
  have el2 : (16 : Int32).toInt = 16 := by decide
  have rv_b0 := rng32 b0
  have fa4 := c_ishr b0 (4 : Int32) 4 (by decide)
  have fa5 := rng32 (b0 >>> ((4 : Int32) &&& 31))
  have fa6 := c_mask (b0 >>> ((4 : Int32) &&& 31)) (15 : Int32) 4 (by decide) (by decide)
  have own0 : (0 : Int32).toInt = 0 := by decide
  simp only [← Int32.toInt_inj, Int32.lt_iff_toInt_lt, implies_true, and_true, true_and, own0, el0, el1, el2] at *
  omega
set_option maxRecDepth 65536 in
set_option maxHeartbeats 4000000 in
theorem own_t1_2 (p_4 : Int32) (hp : p_4 = (0 : Int32) ∨ p_4 = (1 : Int32) ∨ p_4 = (2 : Int32) ∨ p_4 = (3 : Int32)) : ¬ p_4 < 0 ∧ p_4 < (16 : Int32) := by
  have el0 : (0 : Int32).toInt = 0 := by decide
  have el1 : (1 : Int32).toInt = 1 := by decide
  have el2 : (2 : Int32).toInt = 2 := by decide
  have el3 : (3 : Int32).toInt = 3 := by decide
  have el4 : (16 : Int32).toInt = 16 := by decide
  have rv_p_4 := rng32 p_4
  have own0 : (0 : Int32).toInt = 0 := by decide
  simp only [← Int32.toInt_inj, Int32.lt_iff_toInt_lt, implies_true, and_true, true_and, own0, el0, el1, el2, el3, el4] at *
  omega
set_option maxRecDepth 65536 in
set_option maxHeartbeats 4000000 in
theorem own_t1_3 (b0 : Int32)  : ¬ (b0 &&& (15 : Int32)) < 0 ∧ (b0 &&& (15 : Int32)) < (16 : Int32) := by
  have el0 : (15 : Int32).toInt = 15 := by decide
  have el1 : (16 : Int32).toInt = 16 := by decide
  have rv_b0 := rng32 b0
  have fa3 := c_mask b0 (15 : Int32) 4 (by decide) (by decide)
  have own0 : (0 : Int32).toInt = 0 := by decide
  simp only [← Int32.toInt_inj, Int32.lt_iff_toInt_lt, implies_true, and_true, true_and, own0, el0, el1] at *
  omega
set_option maxRecDepth 65536 in
set_option maxHeartbeats 4000000 in
theorem own_t1_4 (p_4 : Int32) (hp : p_4 = (0 : Int32) ∨ p_4 = (1 : Int32) ∨ p_4 = (2 : Int32) ∨ p_4 = (3 : Int32)) : ¬ (p_4 + (1 : Int32)) < 0 ∧ (p_4 + (1 : Int32)) < (16 : Int32) := by
  have el0 : (0 : Int32).toInt = 0 := by decide
  have el1 : (1 : Int32).toInt = 1 := by decide
  have el2 : (2 : Int32).toInt = 2 := by decide
  have el3 : (3 : Int32).toInt = 3 := by decide
  have el4 : (16 : Int32).toInt = 16 := by decide
  have rv_p_4 := rng32 p_4
  have fa6 := c_iadd p_4 (1 : Int32)
  have fa7 := rng32 (p_4 + (1 : Int32))
  have own0 : (0 : Int32).toInt = 0 := by decide
  simp only [← Int32.toInt_inj, Int32.lt_iff_toInt_lt, implies_true, and_true, true_and, own0, el0, el1, el2, el3, el4] at *
  omega
set_option maxRecDepth 65536 in
set_option maxHeartbeats 4000000 in
theorem own_t1_5 (b0 : Int32)  : ¬ ((b0 >>> ((4 : Int32) &&& 31)) &&& (15 : Int32)) < 0 ∧ ((b0 >>> ((4 : Int32) &&& 31)) &&& (15 : Int32)) < (16 : Int32) := by
  have el0 : (4 : Int32).toInt = 4 := by decide
  have el1 : (15 : Int32).toInt = 15 := by decide
  have el2 : (16 : Int32).toInt = 16 := by decide
  have rv_b0 := rng32 b0
  have fa4 := c_ishr b0 (4 : Int32) 4 (by decide)
  have fa5 := rng32 (b0 >>> ((4 : Int32) &&& 31))
  have fa6 := c_mask (b0 >>> ((4 : Int32) &&& 31)) (15 : Int32) 4 (by decide) (by decide)
  have own0 : (0 : Int32).toInt = 0 := by decide
  simp only [← Int32.toInt_inj, Int32.lt_iff_toInt_lt, implies_true, and_true, true_and, own0, el0, el1, el2] at *
  omega
set_option maxRecDepth 65536 in
set_option maxHeartbeats 4000000 in
theorem own_t1_6 (p_4 : Int32) (hp : p_4 = (0 : Int32) ∨ p_4 = (1 : Int32) ∨ p_4 = (2 : Int32) ∨ p_4 = (3 : Int32)) : ¬ p_4 < 0 ∧ p_4 < (16 : Int32) := by
  have el0 : (0 : Int32).toInt = 0 := by decide
  have el1 : (1 : Int32).toInt = 1 := by decide
  have el2 : (2 : Int32).toInt = 2 := by decide
  have el3 : (3 : Int32).toInt = 3 := by decide
  have el4 : (16 : Int32).toInt = 16 := by decide
  have rv_p_4 := rng32 p_4
  have own0 : (0 : Int32).toInt = 0 := by decide
  simp only [← Int32.toInt_inj, Int32.lt_iff_toInt_lt, implies_true, and_true, true_and, own0, el0, el1, el2, el3, el4] at *
  omega
set_option maxRecDepth 65536 in
set_option maxHeartbeats 4000000 in
theorem own_t1_7 (b0 : Int32)  : ¬ (b0 &&& (15 : Int32)) < 0 ∧ (b0 &&& (15 : Int32)) < (16 : Int32) := by
  have el0 : (15 : Int32).toInt = 15 := by decide
  have el1 : (16 : Int32).toInt = 16 := by decide
  have rv_b0 := rng32 b0
  have fa3 := c_mask b0 (15 : Int32) 4 (by decide) (by decide)
  have own0 : (0 : Int32).toInt = 0 := by decide
  simp only [← Int32.toInt_inj, Int32.lt_iff_toInt_lt, implies_true, and_true, true_and, own0, el0, el1] at *
  omega
set_option maxRecDepth 65536 in
set_option maxHeartbeats 4000000 in
theorem own_t1_8 (p_4 : Int32) (hp : p_4 = (0 : Int32) ∨ p_4 = (1 : Int32) ∨ p_4 = (2 : Int32) ∨ p_4 = (3 : Int32)) : ¬ (p_4 + (1 : Int32)) < 0 ∧ (p_4 + (1 : Int32)) < (16 : Int32) := by
  have el0 : (0 : Int32).toInt = 0 := by decide
  have el1 : (1 : Int32).toInt = 1 := by decide
  have el2 : (2 : Int32).toInt = 2 := by decide
  have el3 : (3 : Int32).toInt = 3 := by decide
  have el4 : (16 : Int32).toInt = 16 := by decide
  have rv_p_4 := rng32 p_4
  have fa6 := c_iadd p_4 (1 : Int32)
  have fa7 := rng32 (p_4 + (1 : Int32))
  have own0 : (0 : Int32).toInt = 0 := by decide
  simp only [← Int32.toInt_inj, Int32.lt_iff_toInt_lt, implies_true, and_true, true_and, own0, el0, el1, el2, el3, el4] at *
  omega
set_option maxRecDepth 65536 in
set_option maxHeartbeats 4000000 in
theorem own_t1_9 (p_4 : Int32) (hp : p_4 = (0 : Int32) ∨ p_4 = (1 : Int32) ∨ p_4 = (2 : Int32) ∨ p_4 = (3 : Int32)) : ¬ ((p_4 + (1 : Int32)) + (1 : Int32)) < 0 ∧ ((p_4 + (1 : Int32)) + (1 : Int32)) < (16 : Int32) := by
  have el0 : (0 : Int32).toInt = 0 := by decide
  have el1 : (1 : Int32).toInt = 1 := by decide
  have el2 : (2 : Int32).toInt = 2 := by decide
  have el3 : (3 : Int32).toInt = 3 := by decide
  have el4 : (16 : Int32).toInt = 16 := by decide
  have rv_p_4 := rng32 p_4
  have fa6 := c_iadd p_4 (1 : Int32)
  have fa7 := rng32 (p_4 + (1 : Int32))
  have fa8 := c_iadd (p_4 + (1 : Int32)) (1 : Int32)
  have fa9 := rng32 ((p_4 + (1 : Int32)) + (1 : Int32))
  have own0 : (0 : Int32).toInt = 0 := by decide
  simp only [← Int32.toInt_inj, Int32.lt_iff_toInt_lt, implies_true, and_true, true_and, own0, el0, el1, el2, el3, el4] at *
  omega
set_option maxRecDepth 65536 in
set_option maxHeartbeats 4000000 in
theorem own_t1_10 (b1 : Int32)  : ¬ ((b1 >>> ((4 : Int32) &&& 31)) &&& (15 : Int32)) < 0 ∧ ((b1 >>> ((4 : Int32) &&& 31)) &&& (15 : Int32)) < (16 : Int32) := by
  have el0 : (4 : Int32).toInt = 4 := by decide
  have el1 : (15 : Int32).toInt = 15 := by decide
  have el2 : (16 : Int32).toInt = 16 := by decide
  have rv_b1 := rng32 b1
  have fa4 := c_ishr b1 (4 : Int32) 4 (by decide)
  have fa5 := rng32 (b1 >>> ((4 : Int32) &&& 31))
  have fa6 := c_mask (b1 >>> ((4 : Int32) &&& 31)) (15 : Int32) 4 (by decide) (by decide)
  have own0 : (0 : Int32).toInt = 0 := by decide
  simp only [← Int32.toInt_inj, Int32.lt_iff_toInt_lt, implies_true, and_true, true_and, own0, el0, el1, el2] at *
  omega
set_option maxRecDepth 65536 in
set_option maxHeartbeats 4000000 in
theorem own_t1_11 (p_4 : Int32) (hp : p_4 = (0 : Int32) ∨ p_4 = (1 : Int32) ∨ p_4 = (2 : Int32) ∨ p_4 = (3 : Int32)) : ¬ (((p_4 + (1 : Int32)) + (1 : Int32)) + (1 : Int32)) < 0 ∧ (((p_4 + (1 : Int32)) + (1 : Int32)) + (1 : Int32)) < (16 : Int32) := by
  have el0 : (0 : Int32).toInt = 0 := by decide
  have el1 : (1 : Int32).toInt = 1 := by decide
  have el2 : (2 : Int32).toInt = 2 := by decide
  have el3 : (3 : Int32).toInt = 3 := by decide
  have el4 : (16 : Int32).toInt = 16 := by decide
  have rv_p_4 := rng32 p_4
  have fa6 := c_iadd p_4 (1 : Int32)
  have fa7 := rng32 (p_4 + (1 : Int32))
  have fa8 := c_iadd (p_4 + (1 : Int32)) (1 : Int32)
  have fa9 := rng32 ((p_4 + (1 : Int32)) + (1 : Int32))
  have fa10 := c_iadd ((p_4 + (1 : Int32)) + (1 : Int32)) (1 : Int32)
  have fa11 := rng32 (((p_4 + (1 : Int32)) + (1 : Int32)) + (1 : Int32))
  have own0 : (0 : Int32).toInt = 0 := by decide
  simp only [← Int32.toInt_inj, Int32.lt_iff_toInt_lt, implies_true, and_true, true_and, own0, el0, el1, el2, el3, el4] at *
  omega
set_option maxRecDepth 65536 in
set_option maxHeartbeats 4000000 in
theorem own_t1_12 (b1 : Int32)  : ¬ (b1 &&& (15 : Int32)) < 0 ∧ (b1 &&& (15 : Int32)) < (16 : Int32) := by
  have el0 : (15 : Int32).toInt = 15 := by decide
  have el1 : (16 : Int32).toInt = 16 := by decide
  have rv_b1 := rng32 b1
  have fa3 := c_mask b1 (15 : Int32) 4 (by decide) (by decide)
  have own0 : (0 : Int32).toInt = 0 := by decide
  simp only [← Int32.toInt_inj, Int32.lt_iff_toInt_lt, implies_true, and_true, true_and, own0, el0, el1] at *
  omega
set_option maxRecDepth 65536 in
set_option maxHeartbeats 4000000 in
theorem own_t1_13 (p_4 : Int32) (hp : p_4 = (0 : Int32) ∨ p_4 = (1 : Int32) ∨ p_4 = (2 : Int32) ∨ p_4 = (3 : Int32)) : ¬ ((((p_4 + (1 : Int32)) + (1 : Int32)) + (1 : Int32)) + (1 : Int32)) < 0 ∧ ((((p_4 + (1 : Int32)) + (1 : Int32)) + (1 : Int32)) + (1 : Int32)) < (16 : Int32) := by
  have el0 : (0 : Int32).toInt = 0 := by decide
  have el1 : (1 : Int32).toInt = 1 := by decide
  have el2 : (2 : Int32).toInt = 2 := by decide
  have el3 : (3 : Int32).toInt = 3 := by decide
  have el4 : (16 : Int32).toInt = 16 := by decide
  have rv_p_4 := rng32 p_4
  have fa6 := c_iadd p_4 (1 : Int32)
  have fa7 := rng32 (p_4 + (1 : Int32))
  have fa8 := c_iadd (p_4 + (1 : Int32)) (1 : Int32)
  have fa9 := rng32 ((p_4 + (1 : Int32)) + (1 : Int32))
  have fa10 := c_iadd ((p_4 + (1 : Int32)) + (1 : Int32)) (1 : Int32)
  have fa11 := rng32 (((p_4 + (1 : Int32)) + (1 : Int32)) + (1 : Int32))
  have fa12 := c_iadd (((p_4 + (1 : Int32)) + (1 : Int32)) + (1 : Int32)) (1 : Int32)
  have fa13 := rng32 ((((p_4 + (1 : Int32)) + (1 : Int32)) + (1 : Int32)) + (1 : Int32))
  have own0 : (0 : Int32).toInt = 0 := by decide
  simp only [← Int32.toInt_inj, Int32.lt_iff_toInt_lt, implies_true, and_true, true_and, own0, el0, el1, el2, el3, el4] at *
  omega
set_option maxRecDepth 65536 in
set_option maxHeartbeats 4000000 in
theorem own_t1_14 (b0 : Int32)  : ¬ ((b0 >>> ((4 : Int32) &&& 31)) &&& (15 : Int32)) < 0 ∧ ((b0 >>> ((4 : Int32) &&& 31)) &&& (15 : Int32)) < (16 : Int32) := by
  have el0 : (4 : Int32).toInt = 4 := by decide
  have el1 : (15 : Int32).toInt = 15 := by decide
  have el2 : (16 : Int32).toInt = 16 := by decide
  have rv_b0 := rng32 b0
  have fa4 := c_ishr b0 (4 : Int32) 4 (by decide)
  have fa5 := rng32 (b0 >>> ((4 : Int32) &&& 31))
  have fa6 := c_mask (b0 >>> ((4 : Int32) &&& 31)) (15 : Int32) 4 (by decide) (by decide)
  have own0 : (0 : Int32).toInt = 0 := by decide
  simp only [← Int32.toInt_inj, Int32.lt_iff_toInt_lt, implies_true, and_true, true_and, own0, el0, el1, el2] at *
  omega
set_option maxRecDepth 65536 in
set_option maxHeartbeats 4000000 in
theorem own_t1_15 (p_4 : Int32) (hp : p_4 = (0 : Int32) ∨ p_4 = (1 : Int32) ∨ p_4 = (2 : Int32) ∨ p_4 = (3 : Int32)) : ¬ p_4 < 0 ∧ p_4 < (16 : Int32) := by
  have el0 : (0 : Int32).toInt = 0 := by decide
  have el1 : (1 : Int32).toInt = 1 := by decide
  have el2 : (2 : Int32).toInt = 2 := by decide
  have el3 : (3 : Int32).toInt = 3 := by decide
  have el4 : (16 : Int32).toInt = 16 := by decide
  have rv_p_4 := rng32 p_4
  have own0 : (0 : Int32).toInt = 0 := by decide
  simp only [← Int32.toInt_inj, Int32.lt_iff_toInt_lt, implies_true, and_true, true_and, own0, el0, el1, el2, el3, el4] at *
  omega
set_option maxRecDepth 65536 in
set_option maxHeartbeats 4000000 in
theorem own_t1_16 (b0 : Int32)  : ¬ (b0 &&& (15 : Int32)) < 0 ∧ (b0 &&& (15 : Int32)) < (16 : Int32) := by
  have el0 : (15 : Int32).toInt = 15 := by decide
  have el1 : (16 : Int32).toInt = 16 := by decide
  have rv_b0 := rng32 b0
  have fa3 := c_mask b0 (15 : Int32) 4 (by decide) (by decide)
  have own0 : (0 : Int32).toInt = 0 := by decide
  simp only [← Int32.toInt_inj, Int32.lt_iff_toInt_lt, implies_true, and_true, true_and, own0, el0, el1] at *
  omega
set_option maxRecDepth 65536 in
set_option maxHeartbeats 4000000 in
theorem own_t1_17 (p_4 : Int32) (hp : p_4 = (0 : Int32) ∨ p_4 = (1 : Int32) ∨ p_4 = (2 : Int32) ∨ p_4 = (3 : Int32)) : ¬ (p_4 + (1 : Int32)) < 0 ∧ (p_4 + (1 : Int32)) < (16 : Int32) := by
  have el0 : (0 : Int32).toInt = 0 := by decide
  have el1 : (1 : Int32).toInt = 1 := by decide
  have el2 : (2 : Int32).toInt = 2 := by decide
  have el3 : (3 : Int32).toInt = 3 := by decide
  have el4 : (16 : Int32).toInt = 16 := by decide
  have rv_p_4 := rng32 p_4
  have fa6 := c_iadd p_4 (1 : Int32)
  have fa7 := rng32 (p_4 + (1 : Int32))
  have own0 : (0 : Int32).toInt = 0 := by decide
  simp only [← Int32.toInt_inj, Int32.lt_iff_toInt_lt, implies_true, and_true, true_and, own0, el0, el1, el2, el3, el4] at *
  omega
set_option maxRecDepth 65536 in
set_option maxHeartbeats 4000000 in
theorem own_t1_18 (p_4 : Int32) (hp : p_4 = (0 : Int32) ∨ p_4 = (1 : Int32) ∨ p_4 = (2 : Int32) ∨ p_4 = (3 : Int32)) : ¬ ((p_4 + (1 : Int32)) + (1 : Int32)) < 0 ∧ ((p_4 + (1 : Int32)) + (1 : Int32)) < (16 : Int32) := by
  have el0 : (0 : Int32).toInt = 0 := by decide
  have el1 : (1 : Int32).toInt = 1 := by decide
  have el2 : (2 : Int32).toInt = 2 := by decide
  have el3 : (3 : Int32).toInt = 3 := by decide
  have el4 : (16 : Int32).toInt = 16 := by decide
  have rv_p_4 := rng32 p_4
  have fa6 := c_iadd p_4 (1 : Int32)
  have fa7 := rng32 (p_4 + (1 : Int32))
  have fa8 := c_iadd (p_4 + (1 : Int32)) (1 : Int32)
  have fa9 := rng32 ((p_4 + (1 : Int32)) + (1 : Int32))
  have own0 : (0 : Int32).toInt = 0 := by decide
  simp only [← Int32.toInt_inj, Int32.lt_iff_toInt_lt, implies_true, and_true, true_and, own0, el0, el1, el2, el3, el4] at *
  omega
set_option maxRecDepth 65536 in
set_option maxHeartbeats 4000000 in
theorem own_t1_19 (b1 : Int32)  : ¬ ((b1 >>> ((4 : Int32) &&& 31)) &&& (15 : Int32)) < 0 ∧ ((b1 >>> ((4 : Int32) &&& 31)) &&& (15 : Int32)) < (16 : Int32) := by
  have el0 : (4 : Int32).toInt = 4 := by decide
  have el1 : (15 : Int32).toInt = 15 := by decide
  have el2 : (16 : Int32).toInt = 16 := by decide
  have rv_b1 := rng32 b1
  have fa4 := c_ishr b1 (4 : Int32) 4 (by decide)
  have fa5 := rng32 (b1 >>> ((4 : Int32) &&& 31))
  have fa6 := c_mask (b1 >>> ((4 : Int32) &&& 31)) (15 : Int32) 4 (by decide) (by decide)
  have own0 : (0 : Int32).toInt = 0 := by decide
  simp only [← Int32.toInt_inj, Int32.lt_iff_toInt_lt, implies_true, and_true, true_and, own0, el0, el1, el2] at *
  omega
set_option maxRecDepth 65536 in
set_option maxHeartbeats 4000000 in
theorem own_t1_20 (p_4 : Int32) (hp : p_4 = (0 : Int32) ∨ p_4 = (1 : Int32) ∨ p_4 = (2 : Int32) ∨ p_4 = (3 : Int32)) : ¬ (((p_4 + (1 : Int32)) + (1 : Int32)) + (1 : Int32)) < 0 ∧ (((p_4 + (1 : Int32)) + (1 : Int32)) + (1 : Int32)) < (16 : Int32) := by
  have el0 : (0 : Int32).toInt = 0 := by decide
  have el1 : (1 : Int32).toInt = 1 := by decide
  have el2 : (2 : Int32).toInt = 2 := by decide
  have el3 : (3 : Int32).toInt = 3 := by decide
  have el4 : (16 : Int32).toInt = 16 := by decide
  have rv_p_4 := rng32 p_4
  have fa6 := c_iadd p_4 (1 : Int32)
  have fa7 := rng32 (p_4 + (1 : Int32))
  have fa8 := c_iadd (p_4 + (1 : Int32)) (1 : Int32)
  have fa9 := rng32 ((p_4 + (1 : Int32)) + (1 : Int32))
  have fa10 := c_iadd ((p_4 + (1 : Int32)) + (1 : Int32)) (1 : Int32)
  have fa11 := rng32 (((p_4 + (1 : Int32)) + (1 : Int32)) + (1 : Int32))
  have own0 : (0 : Int32).toInt = 0 := by decide
  simp only [← Int32.toInt_inj, Int32.lt_iff_toInt_lt, implies_true, and_true, true_and, own0, el0, el1, el2, el3, el4] at *
  omega
set_option maxRecDepth 65536 in
set_option maxHeartbeats 4000000 in
theorem own_t1_21 (b1 : Int32)  : ¬ (b1 &&& (15 : Int32)) < 0 ∧ (b1 &&& (15 : Int32)) < (16 : Int32) := by
  have el0 : (15 : Int32).toInt = 15 := by decide
  have el1 : (16 : Int32).toInt = 16 := by decide
  have rv_b1 := rng32 b1
  have fa3 := c_mask b1 (15 : Int32) 4 (by decide) (by decide)
  have own0 : (0 : Int32).toInt = 0 := by decide
  simp only [← Int32.toInt_inj, Int32.lt_iff_toInt_lt, implies_true, and_true, true_and, own0, el0, el1] at *
  omega
set_option maxRecDepth 65536 in
set_option maxHeartbeats 4000000 in
theorem own_t1_22 (p_4 : Int32) (hp : p_4 = (0 : Int32) ∨ p_4 = (1 : Int32) ∨ p_4 = (2 : Int32) ∨ p_4 = (3 : Int32)) : ¬ ((((p_4 + (1 : Int32)) + (1 : Int32)) + (1 : Int32)) + (1 : Int32)) < 0 ∧ ((((p_4 + (1 : Int32)) + (1 : Int32)) + (1 : Int32)) + (1 : Int32)) < (16 : Int32) := by
  have el0 : (0 : Int32).toInt = 0 := by decide
  have el1 : (1 : Int32).toInt = 1 := by decide
  have el2 : (2 : Int32).toInt = 2 := by decide
  have el3 : (3 : Int32).toInt = 3 := by decide
  have el4 : (16 : Int32).toInt = 16 := by decide
  have rv_p_4 := rng32 p_4
  have fa6 := c_iadd p_4 (1 : Int32)
  have fa7 := rng32 (p_4 + (1 : Int32))
  have fa8 := c_iadd (p_4 + (1 : Int32)) (1 : Int32)
  have fa9 := rng32 ((p_4 + (1 : Int32)) + (1 : Int32))
  have fa10 := c_iadd ((p_4 + (1 : Int32)) + (1 : Int32)) (1 : Int32)
  have fa11 := rng32 (((p_4 + (1 : Int32)) + (1 : Int32)) + (1 : Int32))
  have fa12 := c_iadd (((p_4 + (1 : Int32)) + (1 : Int32)) + (1 : Int32)) (1 : Int32)
  have fa13 := rng32 ((((p_4 + (1 : Int32)) + (1 : Int32)) + (1 : Int32)) + (1 : Int32))
  have own0 : (0 : Int32).toInt = 0 := by decide
  simp only [← Int32.toInt_inj, Int32.lt_iff_toInt_lt, implies_true, and_true, true_and, own0, el0, el1, el2, el3, el4] at *
  omega
set_option maxRecDepth 65536 in
set_option maxHeartbeats 4000000 in
theorem own_t1_23 (p_4 : Int32) (hp : p_4 = (0 : Int32) ∨ p_4 = (1 : Int32) ∨ p_4 = (2 : Int32) ∨ p_4 = (3 : Int32)) : ¬ (((((p_4 + (1 : Int32)) + (1 : Int32)) + (1 : Int32)) + (1 : Int32)) + (1 : Int32)) < 0 ∧ (((((p_4 + (1 : Int32)) + (1 : Int32)) + (1 : Int32)) + (1 : Int32)) + (1 : Int32)) < (16 : Int32) := by
  have el0 : (0 : Int32).toInt = 0 := by decide
  have el1 : (1 : Int32).toInt = 1 := by decide
  have el2 : (2 : Int32).toInt = 2 := by decide
  have el3 : (3 : Int32).toInt = 3 := by decide
  have el4 : (16 : Int32).toInt = 16 := by decide
  have rv_p_4 := rng32 p_4
  have fa6 := c_iadd p_4 (1 : Int32)
  have fa7 := rng32 (p_4 + (1 : Int32))
  have fa8 := c_iadd (p_4 + (1 : Int32)) (1 : Int32)
  have fa9 := rng32 ((p_4 + (1 : Int32)) + (1 : Int32))
  have fa10 := c_iadd ((p_4 + (1 : Int32)) + (1 : Int32)) (1 : Int32)
  have fa11 := rng32 (((p_4 + (1 : Int32)) + (1 : Int32)) + (1 : Int32))
  have fa12 := c_iadd (((p_4 + (1 : Int32)) + (1 : Int32)) + (1 : Int32)) (1 : Int32)
  have fa13 := rng32 ((((p_4 + (1 : Int32)) + (1 : Int32)) + (1 : Int32)) + (1 : Int32))
  have fa14 := c_iadd ((((p_4 + (1 : Int32)) + (1 : Int32)) + (1 : Int32)) + (1 : Int32)) (1 : Int32)
  have fa15 := rng32 (((((p_4 + (1 : Int32)) + (1 : Int32)) + (1 : Int32)) + (1 : Int32)) + (1 : Int32))
  have own0 : (0 : Int32).toInt = 0 := by decide
  simp only [← Int32.toInt_inj, Int32.lt_iff_toInt_lt, implies_true, and_true, true_and, own0, el0, el1, el2, el3, el4] at *
  omega
set_option maxRecDepth 65536 in
set_option maxHeartbeats 4000000 in
theorem own_t1_24 (b2 : Int32)  : ¬ ((b2 >>> ((4 : Int32) &&& 31)) &&& (15 : Int32)) < 0 ∧ ((b2 >>> ((4 : Int32) &&& 31)) &&& (15 : Int32)) < (16 : Int32) := by
  have el0 : (4 : Int32).toInt = 4 := by decide
  have el1 : (15 : Int32).toInt = 15 := by decide
  have el2 : (16 : Int32).toInt = 16 := by decide
  have rv_b2 := rng32 b2
  have fa4 := c_ishr b2 (4 : Int32) 4 (by decide)
  have fa5 := rng32 (b2 >>> ((4 : Int32) &&& 31))
  have fa6 := c_mask (b2 >>> ((4 : Int32) &&& 31)) (15 : Int32) 4 (by decide) (by decide)
  have own0 : (0 : Int32).toInt = 0 := by decide
  simp only [← Int32.toInt_inj, Int32.lt_iff_toInt_lt, implies_true, and_true, true_and, own0, el0, el1, el2] at *
  omega
set_option maxRecDepth 65536 in
set_option maxHeartbeats 4000000 in
theorem own_t1_25 (p_4 : Int32) (hp : p_4 = (0 : Int32) ∨ p_4 = (1 : Int32) ∨ p_4 = (2 : Int32) ∨ p_4 = (3 : Int32)) : ¬ ((((((p_4 + (1 : Int32)) + (1 : Int32)) + (1 : Int32)) + (1 : Int32)) + (1 : Int32)) + (1 : Int32)) < 0 ∧ ((((((p_4 + (1 : Int32)) + (1 : Int32)) + (1 : Int32)) + (1 : Int32)) + (1 : Int32)) + (1 : Int32)) < (16 : Int32) := by
  have el0 : (0 : Int32).toInt = 0 := by decide
  have el1 : (1 : Int32).toInt = 1 := by decide
  have el2 : (2 : Int32).toInt = 2 := by decide
  have el3 : (3 : Int32).toInt = 3 := by decide
  have el4 : (16 : Int32).toInt = 16 := by decide
  have rv_p_4 := rng32 p_4
  have fa6 := c_iadd p_4 (1 : Int32)
  have fa7 := rng32 (p_4 + (1 : Int32))
  have fa8 := c_iadd (p_4 + (1 : Int32)) (1 : Int32)
  have fa9 := rng32 ((p_4 + (1 : Int32)) + (1 : Int32))
  have fa10 := c_iadd ((p_4 + (1 : Int32)) + (1 : Int32)) (1 : Int32)
  have fa11 := rng32 (((p_4 + (1 : Int32)) + (1 : Int32)) + (1 : Int32))
  have fa12 := c_iadd (((p_4 + (1 : Int32)) + (1 : Int32)) + (1 : Int32)) (1 : Int32)
  have fa13 := rng32 ((((p_4 + (1 : Int32)) + (1 : Int32)) + (1 : Int32)) + (1 : Int32))
  have fa14 := c_iadd ((((p_4 + (1 : Int32)) + (1 : Int32)) + (1 : Int32)) + (1 : Int32)) (1 : Int32)
  have fa15 := rng32 (((((p_4 + (1 : Int32)) + (1 : Int32)) + (1 : Int32)) + (1 : Int32)) + (1 : Int32))
  have fa16 := c_iadd (((((p_4 + (1 : Int32)) + (1 : Int32)) + (1 : Int32)) + (1 : Int32)) + (1 : Int32)) (1 : Int32)
  have fa17 := rng32 ((((((p_4 + (1 : Int32)) + (1 : Int32)) + (1 : Int32)) + (1 : Int32)) + (1 : Int32)) + (1 : Int32))
  have own0 : (0 : Int32).toInt = 0 := by decide
  simp only [← Int32.toInt_inj, Int32.lt_iff_toInt_lt, implies_true, and_true, true_and, own0, el0, el1, el2, el3, el4] at *
  omega
set_option maxRecDepth 65536 in
set_option maxHeartbeats 4000000 in
theorem own_t1_26 (b2 : Int32)  : ¬ (b2 &&& (15 : Int32)) < 0 ∧ (b2 &&& (15 : Int32)) < (16 : Int32) := by
  have el0 : (15 : Int32).toInt = 15 := by decide
  have el1 : (16 : Int32).toInt = 16 := by decide
  have rv_b2 := rng32 b2
  have fa3 := c_mask b2 (15 : Int32) 4 (by decide) (by decide)
  have own0 : (0 : Int32).toInt = 0 := by decide
  simp only [← Int32.toInt_inj, Int32.lt_iff_toInt_lt, implies_true, and_true, true_and, own0, el0, el1] at *
  omega
set_option maxRecDepth 65536 in
set_option maxHeartbeats 4000000 in
theorem own_t1_27 (p_4 : Int32) (hp : p_4 = (0 : Int32) ∨ p_4 = (1 : Int32) ∨ p_4 = (2 : Int32) ∨ p_4 = (3 : Int32)) : ¬ (((((((p_4 + (1 : Int32)) + (1 : Int32)) + (1 : Int32)) + (1 : Int32)) + (1 : Int32)) + (1 : Int32)) + (1 : Int32)) < 0 ∧ (((((((p_4 + (1 : Int32)) + (1 : Int32)) + (1 : Int32)) + (1 : Int32)) + (1 : Int32)) + (1 : Int32)) + (1 : Int32)) < (16 : Int32) := by
  have el0 : (0 : Int32).toInt = 0 := by decide
  have el1 : (1 : Int32).toInt = 1 := by decide
  have el2 : (2 : Int32).toInt = 2 := by decide
  have el3 : (3 : Int32).toInt = 3 := by decide
  have el4 : (16 : Int32).toInt = 16 := by decide
  have rv_p_4 := rng32 p_4
  have fa6 := c_iadd p_4 (1 : Int32)
  have fa7 := rng32 (p_4 + (1 : Int32))
  have fa8 := c_iadd (p_4 + (1 : Int32)) (1 : Int32)
  have fa9 := rng32 ((p_4 + (1 : Int32)) + (1 : Int32))
  have fa10 := c_iadd ((p_4 + (1 : Int32)) + (1 : Int32)) (1 : Int32)
  have fa11 := rng32 (((p_4 + (1 : Int32)) + (1 : Int32)) + (1 : Int32))
  have fa12 := c_iadd (((p_4 + (1 : Int32)) + (1 : Int32)) + (1 : Int32)) (1 : Int32)
  have fa13 := rng32 ((((p_4 + (1 : Int32)) + (1 : Int32)) + (1 : Int32)) + (1 : Int32))
  have fa14 := c_iadd ((((p_4 + (1 : Int32)) + (1 : Int32)) + (1 : Int32)) + (1 : Int32)) (1 : Int32)
  have fa15 := rng32 (((((p_4 + (1 : Int32)) + (1 : Int32)) + (1 : Int32)) + (1 : Int32)) + (1 : Int32))
  have fa16 := c_iadd (((((p_4 + (1 : Int32)) + (1 : Int32)) + (1 : Int32)) + (1 : Int32)) + (1 : Int32)) (1 : Int32)
  have fa17 := rng32 ((((((p_4 + (1 : Int32)) + (1 : Int32)) + (1 : Int32)) + (1 : Int32)) + (1 : Int32)) + (1 : Int32))
  have fa18 := c_iadd ((((((p_4 + (1 : Int32)) + (1 : Int32)) + (1 : Int32)) + (1 : Int32)) + (1 : Int32)) + (1 : Int32)) (1 : Int32)
  have fa19 := rng32 (((((((p_4 + (1 : Int32)) + (1 : Int32)) + (1 : Int32)) + (1 : Int32)) + (1 : Int32)) + (1 : Int32)) + (1 : Int32))
  have own0 : (0 : Int32).toInt = 0 := by decide
  simp only [← Int32.toInt_inj, Int32.lt_iff_toInt_lt, implies_true, and_true, true_and, own0, el0, el1, el2, el3, el4] at *
  omega
set_option maxRecDepth 65536 in
set_option maxHeartbeats 4000000 in
theorem own_t1_28 (b0 : Int32)  : ¬ ((b0 >>> ((4 : Int32) &&& 31)) &&& (15 : Int32)) < 0 ∧ ((b0 >>> ((4 : Int32) &&& 31)) &&& (15 : Int32)) < (16 : Int32) := by
  have el0 : (4 : Int32).toInt = 4 := by decide
  have el1 : (15 : Int32).toInt = 15 := by decide
  have el2 : (16 : Int32).toInt = 16 := by decide
  have rv_b0 := rng32 b0
  have fa4 := c_ishr b0 (4 : Int32) 4 (by decide)
  have fa5 := rng32 (b0 >>> ((4 : Int32) &&& 31))
  have fa6 := c_mask (b0 >>> ((4 : Int32) &&& 31)) (15 : Int32) 4 (by decide) (by decide)
  have own0 : (0 : Int32).toInt = 0 := by decide
  simp only [← Int32.toInt_inj, Int32.lt_iff_toInt_lt, implies_true, and_true, true_and, own0, el0, el1, el2] at *
  omega
set_option maxRecDepth 65536 in
set_option maxHeartbeats 4000000 in
theorem own_t1_29 (p_4 : Int32) (hp : p_4 = (0 : Int32) ∨ p_4 = (1 : Int32) ∨ p_4 = (2 : Int32) ∨ p_4 = (3 : Int32)) : ¬ p_4 < 0 ∧ p_4 < (16 : Int32) := by
  have el0 : (0 : Int32).toInt = 0 := by decide
  have el1 : (1 : Int32).toInt = 1 := by decide
  have el2 : (2 : Int32).toInt = 2 := by decide
  have el3 : (3 : Int32).toInt = 3 := by decide
  have el4 : (16 : Int32).toInt = 16 := by decide
  have rv_p_4 := rng32 p_4
  have own0 : (0 : Int32).toInt = 0 := by decide
  simp only [← Int32.toInt_inj, Int32.lt_iff_toInt_lt, implies_true, and_true, true_and, own0, el0, el1, el2, el3, el4] at *
  omega
set_option maxRecDepth 65536 in
set_option maxHeartbeats 4000000 in
theorem own_t1_30 (b0 : Int32)  : ¬ (b0 &&& (15 : Int32)) < 0 ∧ (b0 &&& (15 : Int32)) < (16 : Int32) := by
  have el0 : (15 : Int32).toInt = 15 := by decide
  have el1 : (16 : Int32).toInt = 16 := by decide
  have rv_b0 := rng32 b0
  have fa3 := c_mask b0 (15 : Int32) 4 (by decide) (by decide)
  have own0 : (0 : Int32).toInt = 0 := by decide
  simp only [← Int32.toInt_inj, Int32.lt_iff_toInt_lt, implies_true, and_true, true_and, own0, el0, el1] at *
  omega
set_option maxRecDepth 65536 in
set_option maxHeartbeats 4000000 in
theorem own_t1_31 (p_4 : Int32) (hp : p_4 = (0 : Int32) ∨ p_4 = (1 : Int32) ∨ p_4 = (2 : Int32) ∨ p_4 = (3 : Int32)) : ¬ (p_4 + (1 : Int32)) < 0 ∧ (p_4 + (1 : Int32)) < (16 : Int32) := by
  have el0 : (0 : Int32).toInt = 0 := by decide
  have el1 : (1 : Int32).toInt = 1 := by decide
  have el2 : (2 : Int32).toInt = 2 := by decide
  have el3 : (3 : Int32).toInt = 3 := by decide
  have el4 : (16 : Int32).toInt = 16 := by decide
  have rv_p_4 := rng32 p_4
  have fa6 := c_iadd p_4 (1 : Int32)
  have fa7 := rng32 (p_4 + (1 : Int32))
  have own0 : (0 : Int32).toInt = 0 := by decide
  simp only [← Int32.toInt_inj, Int32.lt_iff_toInt_lt, implies_true, and_true, true_and, own0, el0, el1, el2, el3, el4] at *
  omega
set_option maxRecDepth 65536 in
set_option maxHeartbeats 4000000 in
theorem own_t1_32 (p_4 : Int32) (hp : p_4 = (0 : Int32) ∨ p_4 = (1 : Int32) ∨ p_4 = (2 : Int32) ∨ p_4 = (3 : Int32)) : ¬ ((p_4 + (1 : Int32)) + (1 : Int32)) < 0 ∧ ((p_4 + (1 : Int32)) + (1 : Int32)) < (16 : Int32) := by
  have el0 : (0 : Int32).toInt = 0 := by decide
  have el1 : (1 : Int32).toInt = 1 := by decide
  have el2 : (2 : Int32).toInt = 2 := by decide
  have el3 : (3 : Int32).toInt = 3 := by decide
  have el4 : (16 : Int32).toInt = 16 := by decide
  have rv_p_4 := rng32 p_4
  have fa6 := c_iadd p_4 (1 : Int32)
  have fa7 := rng32 (p_4 + (1 : Int32))
  have fa8 := c_iadd (p_4 + (1 : Int32)) (1 : Int32)
  have fa9 := rng32 ((p_4 + (1 : Int32)) + (1 : Int32))
  have own0 : (0 : Int32).toInt = 0 := by decide
  simp only [← Int32.toInt_inj, Int32.lt_iff_toInt_lt, implies_true, and_true, true_and, own0, el0, el1, el2, el3, el4] at *
  omega
set_option maxRecDepth 65536 in
set_option maxHeartbeats 4000000 in
theorem own_t1_33 (b1 : Int32)  : ¬ ((b1 >>> ((4 : Int32) &&& 31)) &&& (15 : Int32)) < 0 ∧ ((b1 >>> ((4 : Int32) &&& 31)) &&& (15 : Int32)) < (16 : Int32) := by
  have el0 : (4 : Int32).toInt = 4 := by decide
  have el1 : (15 : Int32).toInt = 15 := by decide
  have el2 : (16 : Int32).toInt = 16 := by decide
  have rv_b1 := rng32 b1
  have fa4 := c_ishr b1 (4 : Int32) 4 (by decide)
  have fa5 := rng32 (b1 >>> ((4 : Int32) &&& 31))
  have fa6 := c_mask (b1 >>> ((4 : Int32) &&& 31)) (15 : Int32) 4 (by decide) (by decide)
  have own0 : (0 : Int32).toInt = 0 := by decide
  simp only [← Int32.toInt_inj, Int32.lt_iff_toInt_lt, implies_true, and_true, true_and, own0, el0, el1, el2] at *
  omega
set_option maxRecDepth 65536 in
set_option maxHeartbeats 4000000 in
theorem own_t1_34 (p_4 : Int32) (hp : p_4 = (0 : Int32) ∨ p_4 = (1 : Int32) ∨ p_4 = (2 : Int32) ∨ p_4 = (3 : Int32)) : ¬ (((p_4 + (1 : Int32)) + (1 : Int32)) + (1 : Int32)) < 0 ∧ (((p_4 + (1 : Int32)) + (1 : Int32)) + (1 : Int32)) < (16 : Int32) := by
  have el0 : (0 : Int32).toInt = 0 := by decide
  have el1 : (1 : Int32).toInt = 1 := by decide
  have el2 : (2 : Int32).toInt = 2 := by decide
  have el3 : (3 : Int32).toInt = 3 := by decide
  have el4 : (16 : Int32).toInt = 16 := by decide
  have rv_p_4 := rng32 p_4
  have fa6 := c_iadd p_4 (1 : Int32)
  have fa7 := rng32 (p_4 + (1 : Int32))
  have fa8 := c_iadd (p_4 + (1 : Int32)) (1 : Int32)
  have fa9 := rng32 ((p_4 + (1 : Int32)) + (1 : Int32))
  have fa10 := c_iadd ((p_4 + (1 : Int32)) + (1 : Int32)) (1 : Int32)
  have fa11 := rng32 (((p_4 + (1 : Int32)) + (1 : Int32)) + (1 : Int32))
  have own0 : (0 : Int32).toInt = 0 := by decide
  simp only [← Int32.toInt_inj, Int32.lt_iff_toInt_lt, implies_true, and_true, true_and, own0, el0, el1, el2, el3, el4] at *
  omega
set_option maxRecDepth 65536 in
set_option maxHeartbeats 4000000 in
theorem own_t1_35 (b1 : Int32)  : ¬ (b1 &&& (15 : Int32)) < 0 ∧ (b1 &&& (15 : Int32)) < (16 : Int32) := by
  have el0 : (15 : Int32).toInt = 15 := by decide
  have el1 : (16 : Int32).toInt = 16 := by decide
  have rv_b1 := rng32 b1
  have fa3 := c_mask b1 (15 : Int32) 4 (by decide) (by decide)
  have own0 : (0 : Int32).toInt = 0 := by decide
  simp only [← Int32.toInt_inj, Int32.lt_iff_toInt_lt, implies_true, and_true, true_and, own0, el0, el1] at *
  omega
set_option maxRecDepth 65536 in
set_option maxHeartbeats 4000000 in
theorem own_t1_36 (p_4 : Int32) (hp : p_4 = (0 : Int32) ∨ p_4 = (1 : Int32) ∨ p_4 = (2 : Int32) ∨ p_4 = (3 : Int32)) : ¬ ((((p_4 + (1 : Int32)) + (1 : Int32)) + (1 : Int32)) + (1 : Int32)) < 0 ∧ ((((p_4 + (1 : Int32)) + (1 : Int32)) + (1 : Int32)) + (1 : Int32)) < (16 : Int32) := by
  have el0 : (0 : Int32).toInt = 0 := by decide
  have el1 : (1 : Int32).toInt = 1 := by decide
  have el2 : (2 : Int32).toInt = 2 := by decide
  have el3 : (3 : Int32).toInt = 3 := by decide
  have el4 : (16 : Int32).toInt = 16 := by decide
  have rv_p_4 := rng32 p_4
  have fa6 := c_iadd p_4 (1 : Int32)
  have fa7 := rng32 (p_4 + (1 : Int32))
  have fa8 := c_iadd (p_4 + (1 : Int32)) (1 : Int32)
  have fa9 := rng32 ((p_4 + (1 : Int32)) + (1 : Int32))
  have fa10 := c_iadd ((p_4 + (1 : Int32)) + (1 : Int32)) (1 : Int32)
  have fa11 := rng32 (((p_4 + (1 : Int32)) + (1 : Int32)) + (1 : Int32))
  have fa12 := c_iadd (((p_4 + (1 : Int32)) + (1 : Int32)) + (1 : Int32)) (1 : Int32)
  have fa13 := rng32 ((((p_4 + (1 : Int32)) + (1 : Int32)) + (1 : Int32)) + (1 : Int32))
  have own0 : (0 : Int32).toInt = 0 := by decide
  simp only [← Int32.toInt_inj, Int32.lt_iff_toInt_lt, implies_true, and_true, true_and, own0, el0, el1, el2, el3, el4] at *
  omega
set_option maxRecDepth 65536 in
set_option maxHeartbeats 4000000 in
theorem own_t1_37 (p_4 : Int32) (hp : p_4 = (0 : Int32) ∨ p_4 = (1 : Int32) ∨ p_4 = (2 : Int32) ∨ p_4 = (3 : Int32)) : ¬ (((((p_4 + (1 : Int32)) + (1 : Int32)) + (1 : Int32)) + (1 : Int32)) + (1 : Int32)) < 0 ∧ (((((p_4 + (1 : Int32)) + (1 : Int32)) + (1 : Int32)) + (1 : Int32)) + (1 : Int32)) < (16 : Int32) := by
  have el0 : (0 : Int32).toInt = 0 := by decide
  have el1 : (1 : Int32).toInt = 1 := by decide
  have el2 : (2 : Int32).toInt = 2 := by decide
  have el3 : (3 : Int32).toInt = 3 := by decide
  have el4 : (16 : Int32).toInt = 16 := by decide
  have rv_p_4 := rng32 p_4
  have fa6 := c_iadd p_4 (1 : Int32)
  have fa7 := rng32 (p_4 + (1 : Int32))
  have fa8 := c_iadd (p_4 + (1 : Int32)) (1 : Int32)
  have fa9 := rng32 ((p_4 + (1 : Int32)) + (1 : Int32))
  have fa10 := c_iadd ((p_4 + (1 : Int32)) + (1 : Int32)) (1 : Int32)
  have fa11 := rng32 (((p_4 + (1 : Int32)) + (1 : Int32)) + (1 : Int32))
  have fa12 := c_iadd (((p_4 + (1 : Int32)) + (1 : Int32)) + (1 : Int32)) (1 : Int32)
  have fa13 := rng32 ((((p_4 + (1 : Int32)) + (1 : Int32)) + (1 : Int32)) + (1 : Int32))
  have fa14 := c_iadd ((((p_4 + (1 : Int32)) + (1 : Int32)) + (1 : Int32)) + (1 : Int32)) (1 : Int32)
  have fa15 := rng32 (((((p_4 + (1 : Int32)) + (1 : Int32)) + (1 : Int32)) + (1 : Int32)) + (1 : Int32))
  have own0 : (0 : Int32).toInt = 0 := by decide
  simp only [← Int32.toInt_inj, Int32.lt_iff_toInt_lt, implies_true, and_true, true_and, own0, el0, el1, el2, el3, el4] at *
  omega
set_option maxRecDepth 65536 in
set_option maxHeartbeats 4000000 in
theorem own_t1_38 (b2 : Int32)  : ¬ ((b2 >>> ((4 : Int32) &&& 31)) &&& (15 : Int32)) < 0 ∧ ((b2 >>> ((4 : Int32) &&& 31)) &&& (15 : Int32)) < (16 : Int32) := by
  have el0 : (4 : Int32).toInt = 4 := by decide
  have el1 : (15 : Int32).toInt = 15 := by decide
  have el2 : (16 : Int32).toInt = 16 := by decide
  have rv_b2 := rng32 b2
  have fa4 := c_ishr b2 (4 : Int32) 4 (by decide)
  have fa5 := rng32 (b2 >>> ((4 : Int32) &&& 31))
  have fa6 := c_mask (b2 >>> ((4 : Int32) &&& 31)) (15 : Int32) 4 (by decide) (by decide)
  have own0 : (0 : Int32).toInt = 0 := by decide
  simp only [← Int32.toInt_inj, Int32.lt_iff_toInt_lt, implies_true, and_true, true_and, own0, el0, el1, el2] at *
  omega
set_option maxRecDepth 65536 in
set_option maxHeartbeats 4000000 in
theorem own_t1_39 (p_4 : Int32) (hp : p_4 = (0 : Int32) ∨ p_4 = (1 : Int32) ∨ p_4 = (2 : Int32) ∨ p_4 = (3 : Int32)) : ¬ ((((((p_4 + (1 : Int32)) + (1 : Int32)) + (1 : Int32)) + (1 : Int32)) + (1 : Int32)) + (1 : Int32)) < 0 ∧ ((((((p_4 + (1 : Int32)) + (1 : Int32)) + (1 : Int32)) + (1 : Int32)) + (1 : Int32)) + (1 : Int32)) < (16 : Int32) := by
  have el0 : (0 : Int32).toInt = 0 := by decide
  have el1 : (1 : Int32).toInt = 1 := by decide
  have el2 : (2 : Int32).toInt = 2 := by decide
  have el3 : (3 : Int32).toInt = 3 := by decide
  have el4 : (16 : Int32).toInt = 16 := by decide
  have rv_p_4 := rng32 p_4
  have fa6 := c_iadd p_4 (1 : Int32)
  have fa7 := rng32 (p_4 + (1 : Int32))
  have fa8 := c_iadd (p_4 + (1 : Int32)) (1 : Int32)
  have fa9 := rng32 ((p_4 + (1 : Int32)) + (1 : Int32))
  have fa10 := c_iadd ((p_4 + (1 : Int32)) + (1 : Int32)) (1 : Int32)
  have fa11 := rng32 (((p_4 + (1 : Int32)) + (1 : Int32)) + (1 : Int32))
  have fa12 := c_iadd (((p_4 + (1 : Int32)) + (1 : Int32)) + (1 : Int32)) (1 : Int32)
  have fa13 := rng32 ((((p_4 + (1 : Int32)) + (1 : Int32)) + (1 : Int32)) + (1 : Int32))
  have fa14 := c_iadd ((((p_4 + (1 : Int32)) + (1 : Int32)) + (1 : Int32)) + (1 : Int32)) (1 : Int32)
  have fa15 := rng32 (((((p_4 + (1 : Int32)) + (1 : Int32)) + (1 : Int32)) + (1 : Int32)) + (1 : Int32))
  have fa16 := c_iadd (((((p_4 + (1 : Int32)) + (1 : Int32)) + (1 : Int32)) + (1 : Int32)) + (1 : Int32)) (1 : Int32)
  have fa17 := rng32 ((((((p_4 + (1 : Int32)) + (1 : Int32)) + (1 : Int32)) + (1 : Int32)) + (1 : Int32)) + (1 : Int32))
  have own0 : (0 : Int32).toInt = 0 := by decide
  simp only [← Int32.toInt_inj, Int32.lt_iff_toInt_lt, implies_true, and_true, true_and, own0, el0, el1, el2, el3, el4] at *
  omega
set_option maxRecDepth 65536 in
set_option maxHeartbeats 4000000 in
theorem own_t1_40 (b2 : Int32)  : ¬ (b2 &&& (15 : Int32)) < 0 ∧ (b2 &&& (15 : Int32)) < (16 : Int32) := by
  have el0 : (15 : Int32).toInt = 15 := by decide
  have el1 : (16 : Int32).toInt = 16 := by decide
  have rv_b2 := rng32 b2
  have fa3 := c_mask b2 (15 : Int32) 4 (by decide) (by decide)
  have own0 : (0 : Int32).toInt = 0 := by decide
  simp only [← Int32.toInt_inj, Int32.lt_iff_toInt_lt, implies_true, and_true, true_and, own0, el0, el1] at *
  omega
set_option maxRecDepth 65536 in
set_option maxHeartbeats 4000000 in
theorem own_t1_41 (p_4 : Int32) (hp : p_4 = (0 : Int32) ∨ p_4 = (1 : Int32) ∨ p_4 = (2 : Int32) ∨ p_4 = (3 : Int32)) : ¬ (((((((p_4 + (1 : Int32)) + (1 : Int32)) + (1 : Int32)) + (1 : Int32)) + (1 : Int32)) + (1 : Int32)) + (1 : Int32)) < 0 ∧ (((((((p_4 + (1 : Int32)) + (1 : Int32)) + (1 : Int32)) + (1 : Int32)) + (1 : Int32)) + (1 : Int32)) + (1 : Int32)) < (16 : Int32) := by
  have el0 : (0 : Int32).toInt = 0 := by decide
  have el1 : (1 : Int32).toInt = 1 := by decide
  have el2 : (2 : Int32).toInt = 2 := by decide
  have el3 : (3 : Int32).toInt = 3 := by decide
  have el4 : (16 : Int32).toInt = 16 := by decide
  have rv_p_4 := rng32 p_4
  have fa6 := c_iadd p_4 (1 : Int32)
  have fa7 := rng32 (p_4 + (1 : Int32))
  have fa8 := c_iadd (p_4 + (1 : Int32)) (1 : Int32)
  have fa9 := rng32 ((p_4 + (1 : Int32)) + (1 : Int32))
  have fa10 := c_iadd ((p_4 + (1 : Int32)) + (1 : Int32)) (1 : Int32)
  have fa11 := rng32 (((p_4 + (1 : Int32)) + (1 : Int32)) + (1 : Int32))
  have fa12 := c_iadd (((p_4 + (1 : Int32)) + (1 : Int32)) + (1 : Int32)) (1 : Int32)
  have fa13 := rng32 ((((p_4 + (1 : Int32)) + (1 : Int32)) + (1 : Int32)) + (1 : Int32))
  have fa14 := c_iadd ((((p_4 + (1 : Int32)) + (1 : Int32)) + (1 : Int32)) + (1 : Int32)) (1 : Int32)
  have fa15 := rng32 (((((p_4 + (1 : Int32)) + (1 : Int32)) + (1 : Int32)) + (1 : Int32)) + (1 : Int32))
  have fa16 := c_iadd (((((p_4 + (1 : Int32)) + (1 : Int32)) + (1 : Int32)) + (1 : Int32)) + (1 : Int32)) (1 : Int32)
  have fa17 := rng32 ((((((p_4 + (1 : Int32)) + (1 : Int32)) + (1 : Int32)) + (1 : Int32)) + (1 : Int32)) + (1 : Int32))
  have fa18 := c_iadd ((((((p_4 + (1 : Int32)) + (1 : Int32)) + (1 : Int32)) + (1 : Int32)) + (1 : Int32)) + (1 : Int32)) (1 : Int32)
  have fa19 := rng32 (((((((p_4 + (1 : Int32)) + (1 : Int32)) + (1 : Int32)) + (1 : Int32)) + (1 : Int32)) + (1 : Int32)) + (1 : Int32))
  have own0 : (0 : Int32).toInt = 0 := by decide
  simp only [← Int32.toInt_inj, Int32.lt_iff_toInt_lt, implies_true, and_true, true_and, own0, el0, el1, el2, el3, el4] at *
  omega
set_option maxRecDepth 65536 in
set_option maxHeartbeats 4000000 in
theorem own_t1_42 (p_4 : Int32) (hp : p_4 = (0 : Int32) ∨ p_4 = (1 : Int32) ∨ p_4 = (2 : Int32) ∨ p_4 = (3 : Int32)) : ¬ ((((((((p_4 + (1 : Int32)) + (1 : Int32)) + (1 : Int32)) + (1 : Int32)) + (1 : Int32)) + (1 : Int32)) + (1 : Int32)) + (1 : Int32)) < 0 ∧ ((((((((p_4 + (1 : Int32)) + (1 : Int32)) + (1 : Int32)) + (1 : Int32)) + (1 : Int32)) + (1 : Int32)) + (1 : Int32)) + (1 : Int32)) < (16 : Int32) := by
  have el0 : (0 : Int32).toInt = 0 := by decide
  have el1 : (1 : Int32).toInt = 1 := by decide
  have el2 : (2 : Int32).toInt = 2 := by decide
  have el3 : (3 : Int32).toInt = 3 := by decide
  have el4 : (16 : Int32).toInt = 16 := by decide
  have rv_p_4 := rng32 p_4
  have fa6 := c_iadd p_4 (1 : Int32)
  have fa7 := rng32 (p_4 + (1 : Int32))
  have fa8 := c_iadd (p_4 + (1 : Int32)) (1 : Int32)
  have fa9 := rng32 ((p_4 + (1 : Int32)) + (1 : Int32))
  have fa10 := c_iadd ((p_4 + (1 : Int32)) + (1 : Int32)) (1 : Int32)
  have fa11 := rng32 (((p_4 + (1 : Int32)) + (1 : Int32)) + (1 : Int32))
  have fa12 := c_iadd (((p_4 + (1 : Int32)) + (1 : Int32)) + (1 : Int32)) (1 : Int32)
  have fa13 := rng32 ((((p_4 + (1 : Int32)) + (1 : Int32)) + (1 : Int32)) + (1 : Int32))
  have fa14 := c_iadd ((((p_4 + (1 : Int32)) + (1 : Int32)) + (1 : Int32)) + (1 : Int32)) (1 : Int32)
  have fa15 := rng32 (((((p_4 + (1 : Int32)) + (1 : Int32)) + (1 : Int32)) + (1 : Int32)) + (1 : Int32))
  have fa16 := c_iadd (((((p_4 + (1 : Int32)) + (1 : Int32)) + (1 : Int32)) + (1 : Int32)) + (1 : Int32)) (1 : Int32)
  have fa17 := rng32 ((((((p_4 + (1 : Int32)) + (1 : Int32)) + (1 : Int32)) + (1 : Int32)) + (1 : Int32)) + (1 : Int32))
  have fa18 := c_iadd ((((((p_4 + (1 : Int32)) + (1 : Int32)) + (1 : Int32)) + (1 : Int32)) + (1 : Int32)) + (1 : Int32)) (1 : Int32)
  have fa19 := rng32 (((((((p_4 + (1 : Int32)) + (1 : Int32)) + (1 : Int32)) + (1 : Int32)) + (1 : Int32)) + (1 : Int32)) + (1 : Int32))
  have fa20 := c_iadd (((((((p_4 + (1 : Int32)) + (1 : Int32)) + (1 : Int32)) + (1 : Int32)) + (1 : Int32)) + (1 : Int32)) + (1 : Int32)) (1 : Int32)
  have fa21 := rng32 ((((((((p_4 + (1 : Int32)) + (1 : Int32)) + (1 : Int32)) + (1 : Int32)) + (1 : Int32)) + (1 : Int32)) + (1 : Int32)) + (1 : Int32))
  have own0 : (0 : Int32).toInt = 0 := by decide
  simp only [← Int32.toInt_inj, Int32.lt_iff_toInt_lt, implies_true, and_true, true_and, own0, el0, el1, el2, el3, el4] at *
  omega
set_option maxRecDepth 65536 in
set_option maxHeartbeats 4000000 in
theorem own_t1_43 (b3 : Int32)  : ¬ ((b3 >>> ((4 : Int32) &&& 31)) &&& (15 : Int32)) < 0 ∧ ((b3 >>> ((4 : Int32) &&& 31)) &&& (15 : Int32)) < (16 : Int32) := by
  have el0 : (4 : Int32).toInt = 4 := by decide
  have el1 : (15 : Int32).toInt = 15 := by decide
  have el2 : (16 : Int32).toInt = 16 := by decide
  have rv_b3 := rng32 b3
  have fa4 := c_ishr b3 (4 : Int32) 4 (by decide)
  have fa5 := rng32 (b3 >>> ((4 : Int32) &&& 31))
  have fa6 := c_mask (b3 >>> ((4 : Int32) &&& 31)) (15 : Int32) 4 (by decide) (by decide)
  have own0 : (0 : Int32).toInt = 0 := by decide
  simp only [← Int32.toInt_inj, Int32.lt_iff_toInt_lt, implies_true, and_true, true_and, own0, el0, el1, el2] at *
  omega
set_option maxRecDepth 65536 in
set_option maxHeartbeats 4000000 in
theorem own_t1_44 (p_4 : Int32) (hp : p_4 = (0 : Int32) ∨ p_4 = (1 : Int32) ∨ p_4 = (2 : Int32) ∨ p_4 = (3 : Int32)) : ¬ (((((((((p_4 + (1 : Int32)) + (1 : Int32)) + (1 : Int32)) + (1 : Int32)) + (1 : Int32)) + (1 : Int32)) + (1 : Int32)) + (1 : Int32)) + (1 : Int32)) < 0 ∧ (((((((((p_4 + (1 : Int32)) + (1 : Int32)) + (1 : Int32)) + (1 : Int32)) + (1 : Int32)) + (1 : Int32)) + (1 : Int32)) + (1 : Int32)) + (1 : Int32)) < (16 : Int32) := by
  have el0 : (0 : Int32).toInt = 0 := by decide
  have el1 : (1 : Int32).toInt = 1 := by decide
  have el2 : (2 : Int32).toInt = 2 := by decide
  have el3 : (3 : Int32).toInt = 3 := by decide
  have el4 : (16 : Int32).toInt = 16 := by decide
  have rv_p_4 := rng32 p_4
  have fa6 := c_iadd p_4 (1 : Int32)
  have fa7 := rng32 (p_4 + (1 : Int32))
  have fa8 := c_iadd (p_4 + (1 : Int32)) (1 : Int32)
  have fa9 := rng32 ((p_4 + (1 : Int32)) + (1 : Int32))
  have fa10 := c_iadd ((p_4 + (1 : Int32)) + (1 : Int32)) (1 : Int32)
  have fa11 := rng32 (((p_4 + (1 : Int32)) + (1 : Int32)) + (1 : Int32))
  have fa12 := c_iadd (((p_4 + (1 : Int32)) + (1 : Int32)) + (1 : Int32)) (1 : Int32)
  have fa13 := rng32 ((((p_4 + (1 : Int32)) + (1 : Int32)) + (1 : Int32)) + (1 : Int32))
  have fa14 := c_iadd ((((p_4 + (1 : Int32)) + (1 : Int32)) + (1 : Int32)) + (1 : Int32)) (1 : Int32)
  have fa15 := rng32 (((((p_4 + (1 : Int32)) + (1 : Int32)) + (1 : Int32)) + (1 : Int32)) + (1 : Int32))
  have fa16 := c_iadd (((((p_4 + (1 : Int32)) + (1 : Int32)) + (1 : Int32)) + (1 : Int32)) + (1 : Int32)) (1 : Int32)
  have fa17 := rng32 ((((((p_4 + (1 : Int32)) + (1 : Int32)) + (1 : Int32)) + (1 : Int32)) + (1 : Int32)) + (1 : Int32))
  have fa18 := c_iadd ((((((p_4 + (1 : Int32)) + (1 : Int32)) + (1 : Int32)) + (1 : Int32)) + (1 : Int32)) + (1 : Int32)) (1 : Int32)
  have fa19 := rng32 (((((((p_4 + (1 : Int32)) + (1 : Int32)) + (1 : Int32)) + (1 : Int32)) + (1 : Int32)) + (1 : Int32)) + (1 : Int32))
  have fa20 := c_iadd (((((((p_4 + (1 : Int32)) + (1 : Int32)) + (1 : Int32)) + (1 : Int32)) + (1 : Int32)) + (1 : Int32)) + (1 : Int32)) (1 : Int32)
  have fa21 := rng32 ((((((((p_4 + (1 : Int32)) + (1 : Int32)) + (1 : Int32)) + (1 : Int32)) + (1 : Int32)) + (1 : Int32)) + (1 : Int32)) + (1 : Int32))
  have fa22 := c_iadd ((((((((p_4 + (1 : Int32)) + (1 : Int32)) + (1 : Int32)) + (1 : Int32)) + (1 : Int32)) + (1 : Int32)) + (1 : Int32)) + (1 : Int32)) (1 : Int32)
  have fa23 := rng32 (((((((((p_4 + (1 : Int32)) + (1 : Int32)) + (1 : Int32)) + (1 : Int32)) + (1 : Int32)) + (1 : Int32)) + (1 : Int32)) + (1 : Int32)) + (1 : Int32))
  have own0 : (0 : Int32).toInt = 0 := by decide
  simp only [← Int32.toInt_inj, Int32.lt_iff_toInt_lt, implies_true, and_true, true_and, own0, el0, el1, el2, el3, el4] at *
  omega
set_option maxRecDepth 65536 in
set_option maxHeartbeats 4000000 in
theorem own_t1_45 (b3 : Int32)  : ¬ (b3 &&& (15 : Int32)) < 0 ∧ (b3 &&& (15 : Int32)) < (16 : Int32) := by
  have el0 : (15 : Int32).toInt = 15 := by decide
  have el1 : (16 : Int32).toInt = 16 := by decide
  have rv_b3 := rng32 b3
  have fa3 := c_mask b3 (15 : Int32) 4 (by decide) (by decide)
  have own0 : (0 : Int32).toInt = 0 := by decide
  simp only [← Int32.toInt_inj, Int32.lt_iff_toInt_lt, implies_true, and_true, true_and, own0, el0, el1] at *
  omega
set_option maxRecDepth 65536 in
set_option maxHeartbeats 4000000 in
theorem own_t1_46 (p_4 : Int32) (hp : p_4 = (0 : Int32) ∨ p_4 = (1 : Int32) ∨ p_4 = (2 : Int32) ∨ p_4 = (3 : Int32)) : ¬ ((((((((((p_4 + (1 : Int32)) + (1 : Int32)) + (1 : Int32)) + (1 : Int32)) + (1 : Int32)) + (1 : Int32)) + (1 : Int32)) + (1 : Int32)) + (1 : Int32)) + (1 : Int32)) < 0 ∧ ((((((((((p_4 + (1 : Int32)) + (1 : Int32)) + (1 : Int32)) + (1 : Int32)) + (1 : Int32)) + (1 : Int32)) + (1 : Int32)) + (1 : Int32)) + (1 : Int32)) + (1 : Int32)) < (16 : Int32) := by
  have el0 : (0 : Int32).toInt = 0 := by decide
  have el1 : (1 : Int32).toInt = 1 := by decide
  have el2 : (2 : Int32).toInt = 2 := by decide
  have el3 : (3 : Int32).toInt = 3 := by decide
  have el4 : (16 : Int32).toInt = 16 := by decide
  have rv_p_4 := rng32 p_4
  have fa6 := c_iadd p_4 (1 : Int32)
  have fa7 := rng32 (p_4 + (1 : Int32))
  have fa8 := c_iadd (p_4 + (1 : Int32)) (1 : Int32)
  have fa9 := rng32 ((p_4 + (1 : Int32)) + (1 : Int32))
  have fa10 := c_iadd ((p_4 + (1 : Int32)) + (1 : Int32)) (1 : Int32)
  have fa11 := rng32 (((p_4 + (1 : Int32)) + (1 : Int32)) + (1 : Int32))
  have fa12 := c_iadd (((p_4 + (1 : Int32)) + (1 : Int32)) + (1 : Int32)) (1 : Int32)
  have fa13 := rng32 ((((p_4 + (1 : Int32)) + (1 : Int32)) + (1 : Int32)) + (1 : Int32))
  have fa14 := c_iadd ((((p_4 + (1 : Int32)) + (1 : Int32)) + (1 : Int32)) + (1 : Int32)) (1 : Int32)
  have fa15 := rng32 (((((p_4 + (1 : Int32)) + (1 : Int32)) + (1 : Int32)) + (1 : Int32)) + (1 : Int32))
  have fa16 := c_iadd (((((p_4 + (1 : Int32)) + (1 : Int32)) + (1 : Int32)) + (1 : Int32)) + (1 : Int32)) (1 : Int32)
  have fa17 := rng32 ((((((p_4 + (1 : Int32)) + (1 : Int32)) + (1 : Int32)) + (1 : Int32)) + (1 : Int32)) + (1 : Int32))
  have fa18 := c_iadd ((((((p_4 + (1 : Int32)) + (1 : Int32)) + (1 : Int32)) + (1 : Int32)) + (1 : Int32)) + (1 : Int32)) (1 : Int32)
  have fa19 := rng32 (((((((p_4 + (1 : Int32)) + (1 : Int32)) + (1 : Int32)) + (1 : Int32)) + (1 : Int32)) + (1 : Int32)) + (1 : Int32))
  have fa20 := c_iadd (((((((p_4 + (1 : Int32)) + (1 : Int32)) + (1 : Int32)) + (1 : Int32)) + (1 : Int32)) + (1 : Int32)) + (1 : Int32)) (1 : Int32)
  have fa21 := rng32 ((((((((p_4 + (1 : Int32)) + (1 : Int32)) + (1 : Int32)) + (1 : Int32)) + (1 : Int32)) + (1 : Int32)) + (1 : Int32)) + (1 : Int32))
  have fa22 := c_iadd ((((((((p_4 + (1 : Int32)) + (1 : Int32)) + (1 : Int32)) + (1 : Int32)) + (1 : Int32)) + (1 : Int32)) + (1 : Int32)) + (1 : Int32)) (1 : Int32)
  have fa23 := rng32 (((((((((p_4 + (1 : Int32)) + (1 : Int32)) + (1 : Int32)) + (1 : Int32)) + (1 : Int32)) + (1 : Int32)) + (1 : Int32)) + (1 : Int32)) + (1 : Int32))
  have fa24 := c_iadd (((((((((p_4 + (1 : Int32)) + (1 : Int32)) + (1 : Int32)) + (1 : Int32)) + (1 : Int32)) + (1 : Int32)) + (1 : Int32)) + (1 : Int32)) + (1 : Int32)) (1 : Int32)
  have fa25 := rng32 ((((((((((p_4 + (1 : Int32)) + (1 : Int32)) + (1 : Int32)) + (1 : Int32)) + (1 : Int32)) + (1 : Int32)) + (1 : Int32)) + (1 : Int32)) + (1 : Int32)) + (1 : Int32))
  have own0 : (0 : Int32).toInt = 0 := by decide
  simp only [← Int32.toInt_inj, Int32.lt_iff_toInt_lt, implies_true, and_true, true_and, own0, el0, el1, el2, el3, el4] at *
  omega
def own_Q1 (Z : State) (a_1 : Addr) (p_2 : Int32) (a_3 : Addr) (p_4 : Int32) (t_ : Addr) (gs : Nat → Value) (fa : Nat → Value) (b0 : Int32) (b1 : Int32) (b2 : Int32) (b3 : Int32) (h0 : Heap) (n0 : Nat) (v : Option Value) (h : Heap) (L : List Loc) : Prop := ∃ (r_ : Int32), v = some (.int r_) ∧ Fr n0 L ∧ r_ = (own_he (p_2).toNatClampNeg p_4) ∧ Keep h0 h [a_3] ∧ own_AV Z h a_3 .byte (16 : Int32) (own_hx (p_2).toNatClampNeg p_4 fa b0 b1 b2 b3)
set_option maxRecDepth 65536 in
set_option maxHeartbeats 40000000 in
theorem own_rm1 (l : Launch) (Z : State) (a0 : Array Value) (hw : ∀ d ∈ tables_1, d.before a0 Z = true) (ws : List Jvm.Cond) (a_1 : Addr) (p_2 : Int32) (a_3 : Addr) (p_4 : Int32) (t_ : Addr) (gs : Nat → Value) (fa : Nat → Value) (b0 : Int32) (b1 : Int32) (b2 : Int32) (b3 : Int32) (h0 : Heap) (n0 : Nat) (Z0 : n0 ≤ h0.size) (pr_S_com_example_honest_codec_honestcodec_IllFormedSequence_HEX_DIGITS : Sta Z h0 "com/example/honest_codec/honestcodec/IllFormedSequence" "HEX_DIGITS" "[B" (.ref t_)) (pr_A_t_ : own_AV Z h0 t_ .byte (16 : Int32) (fun i => .int (own_hd i))) (pr_A_a_1 : own_AV Z h0 a_1 .byte (4 : Int32) gs) (pr_A_a_3 : own_AV Z h0 a_3 .byte (16 : Int32) fa) (hg0 : gs 0 = .int b0) (hg1 : gs 1 = .int b1) (hg2 : gs 2 = .int b2) (hg3 : gs 3 = .int b3) (ho_t : own_lts [t_, n0]) (ho_l : own_lts [a_1, a_3]) (hl : p_2 = (0 : Int32) ∨ p_2 = (1 : Int32) ∨ p_2 = (2 : Int32) ∨ p_2 = (3 : Int32) ∨ p_2 = (4 : Int32)) (hp : p_4 = (0 : Int32) ∨ p_4 = (1 : Int32) ∨ p_4 = (2 : Int32) ∨ p_4 = (3 : Int32)) (gw_a_3 : n0 ≤ a_3) :
    MetFree l (⟨"com/example/honest_codec/honestcodec/IllFormedSequence", "putHex", "([BI[BI)I"⟩ : MethodName) (head1 (Jvm.Cond.code (⟨"com/example/honest_codec/honestcodec/IllFormedSequence", "putHex", "([BI[BI)I"⟩ : MethodName) prog_23_method_6_code 6 (some .int) :: ws) ({ frames := 0, cells := 0, slots := 0, locals := 0 } : Room)) (fun a U => a = #[(.ref a_1), (.int p_2), (.ref a_3), (.int p_4)] ∧ Z.Warmed39 U.vm ∧ U.heap = h0) (fun _ _ _ _ _ => True) (fun _ U o U' => ∃ v L, o = .returned v ∧ own_Q1 Z a_1 p_2 a_3 p_4 t_ gs fa b0 b1 b2 b3 h0 n0 v U'.heap L ∧ FrameEnd U o U' L ({ frames := 0, cells := 0, slots := 0, locals := 0 } : Room).cells ({ frames := 0, cells := 0, slots := 0, locals := 0 } : Room).slots) := by
  refine MetFree.of_bodySF (plainFor_of_name own_pn1) hisR ?_
  intro p e s m args below meth c s₁ Bd hml0 hP hK
  obtain ⟨rfl, hZ, hh⟩ := hP
  have hx := Bd.exec
  have hby := Bd.bytes
  have hml : c.maxLocals = 6 := hml0
  have hown : s.vm.findClass "com/example/honest_codec/honestcodec/IllFormedSequence" = some m.cls := findClass_of_methodNamed Bd.named
  have hnm := (name_of_methodNamed Bd.named Bd.method).1
  have X0 : Stand p l e ({ frames := 0, cells := 0, slots := 0, locals := 0 } : Room) s m #[(.ref a_1), (.int p_2), (.ref a_3), (.int p_4)] below meth c s₁ [] 0 0 := Stand.of_body Bd
  have e0 : s₁.heap = h0 := by rw [← hh, Bd.state]; rfl
  have N0 := Fr.nil n0
  have z0 : n0 ≤ h0.size := Z0
  have z1 := own_lt pr_A_t_.lt
  have z2 := own_lt pr_A_a_1.lt
  have z3 := own_lt pr_A_a_3.lt
  have ho4 := ho_t
  simp only [own_lts, and_true] at ho4
  have ho5 := ho_l
  simp only [own_lts, and_true] at ho5
  have K0 : Keep h0 h0 [a_3] := Keep.refl h0 _
  show own_Go p.tables e below (fun t o => t.status = .running ∧ Ended t below o ∧ ∃ v L, o = .returned v ∧ own_Q1 Z a_1 p_2 a_3 p_4 t_ gs fa b0 b1 b2 b3 h0 n0 v t.heap L ∧ FrameEnd s o t L ({ frames := 0, cells := 0, slots := 0, locals := 0 } : Room).cells ({ frames := 0, cells := 0, slots := 0, locals := 0 } : Room).slots) s₁ (entryFrame m #[(.ref a_1), (.int p_2), (.ref a_3), (.int p_4)] 6)
  rw [own_ef_own_rm1 m a_1 p_2 a_3 p_4]
  show own_Go _ _ _ _ s₁ (mkF m 0 #[.val (.ref a_1), .val (.int p_2), .val (.ref a_3), .val (.int p_4), .unset, .unset] [])
  have hs6 : p_2 = (0 : Int32) ∨ p_2 = (1 : Int32) ∨ p_2 = (2 : Int32) ∨ p_2 = (3 : Int32) ∨ p_2 = (4 : Int32) := own_t1_0 p_2 hl
  rcases hs6 with hs6 | hs6 | hs6 | hs6 | hs6
  · subst hs6
    show own_Go _ _ _ _ s₁ (mkF m 0 #[.val (.ref a_1), .val (.int (0 : Int32)), .val (.ref a_3), .val (.int p_4), .unset, .unset] [])
    refine own_go (fun _ k => XS.iloadN X0.here hx rfl (hb hby own_d1_0) rfl k) ?_
    show own_Go _ _ _ _ s₁ (mkF m 1 #[.val (.ref a_1), .val (.int (0 : Int32)), .val (.ref a_3), .val (.int p_4), .unset, .unset] [(.int p_4)])
    refine own_go (fun _ k => XS.istore X0.here hx rfl (hb hby own_d1_1) rfl (l' := #[.val (.ref a_1), .val (.int (0 : Int32)), .val (.ref a_3), .val (.int p_4), .val (.int p_4), .unset]) rfl k) ?_
    show own_Go _ _ _ _ s₁ (mkF m 3 #[.val (.ref a_1), .val (.int (0 : Int32)), .val (.ref a_3), .val (.int p_4), .val (.int p_4), .unset] [])
    refine own_go (fun _ k => XS.iconst X0.here hx rfl (hb hby own_d1_3) k) ?_
    show own_Go _ _ _ _ s₁ (mkF m 4 #[.val (.ref a_1), .val (.int (0 : Int32)), .val (.ref a_3), .val (.int p_4), .val (.int p_4), .unset] [(.int (0 : Int32))])
    refine own_go (fun _ k => XS.istore X0.here hx rfl (hb hby own_d1_4) rfl (l' := #[.val (.ref a_1), .val (.int (0 : Int32)), .val (.ref a_3), .val (.int p_4), .val (.int p_4), .val (.int (0 : Int32))]) rfl k) ?_
    show own_Go _ _ _ _ s₁ (mkF m 6 #[.val (.ref a_1), .val (.int (0 : Int32)), .val (.ref a_3), .val (.int p_4), .val (.int p_4), .val (.int (0 : Int32))] [])
    refine own_go (fun _ k => XS.iload X0.here hx rfl (hb hby own_d1_6) rfl k) ?_
    show own_Go _ _ _ _ s₁ (mkF m 8 #[.val (.ref a_1), .val (.int (0 : Int32)), .val (.ref a_3), .val (.int p_4), .val (.int p_4), .val (.int (0 : Int32))] [(.int (0 : Int32))])
    refine own_go (fun _ k => XS.iloadN X0.here hx rfl (hb hby own_d1_8) rfl k) ?_
    show own_Go _ _ _ _ s₁ (mkF m 9 #[.val (.ref a_1), .val (.int (0 : Int32)), .val (.ref a_3), .val (.int p_4), .val (.int p_4), .val (.int (0 : Int32))] [(.int (0 : Int32)), (.int (0 : Int32))])
    have hc7 : ¬ ((0 : Int32) < (0 : Int32)) := by decide
    refine own_go (fun _ k => XS.icmpYes X0.here hx rfl (pc0 := 9) (pc' := 70) rfl (hb hby own_d1_9) rfl (Jvm.Free.XT.ii_ge_t hc7) (by decide) (by decide) k) ?_
    show own_Go _ _ _ _ s₁ (mkF m 70 #[.val (.ref a_1), .val (.int (0 : Int32)), .val (.ref a_3), .val (.int p_4), .val (.int p_4), .val (.int (0 : Int32))] [])
    refine own_go (fun _ k => XS.iload X0.here hx rfl (hb hby own_d1_70) rfl k) ?_
    show own_Go _ _ _ _ s₁ (mkF m 72 #[.val (.ref a_1), .val (.int (0 : Int32)), .val (.ref a_3), .val (.int p_4), .val (.int p_4), .val (.int (0 : Int32))] [(.int p_4)])
    obtain ⟨fs, hr, hrun, hended, hW, hsame⟩ := X0.leave (v := some (.int p_4)) (fun h => by rw [Bd.returns] at h; cases h)
    refine ⟨_, _, retOut X0 hx Bd.returns rfl (Or.inl ⟨rfl, Or.inl rfl, _, rfl⟩) (hb hby own_d1_72) hr, hrun, hended, _, _, rfl, ?_, ⟨_, rfl⟩, hW, hsame.mono (by decide) (by decide)⟩
    show own_Q1 Z a_1 (0 : Int32) a_3 p_4 t_ gs fa b0 b1 b2 b3 h0 n0 _ s₁.heap _
    rw [e0]
    exact ⟨_, rfl, N0, rfl, K0, pr_A_a_3⟩
  · subst hs6
    show own_Go _ _ _ _ s₁ (mkF m 0 #[.val (.ref a_1), .val (.int (1 : Int32)), .val (.ref a_3), .val (.int p_4), .unset, .unset] [])
    refine own_go (fun _ k => XS.iloadN X0.here hx rfl (hb hby own_d1_0) rfl k) ?_
    show own_Go _ _ _ _ s₁ (mkF m 1 #[.val (.ref a_1), .val (.int (1 : Int32)), .val (.ref a_3), .val (.int p_4), .unset, .unset] [(.int p_4)])
    refine own_go (fun _ k => XS.istore X0.here hx rfl (hb hby own_d1_1) rfl (l' := #[.val (.ref a_1), .val (.int (1 : Int32)), .val (.ref a_3), .val (.int p_4), .val (.int p_4), .unset]) rfl k) ?_
    show own_Go _ _ _ _ s₁ (mkF m 3 #[.val (.ref a_1), .val (.int (1 : Int32)), .val (.ref a_3), .val (.int p_4), .val (.int p_4), .unset] [])
    refine own_go (fun _ k => XS.iconst X0.here hx rfl (hb hby own_d1_3) k) ?_
    show own_Go _ _ _ _ s₁ (mkF m 4 #[.val (.ref a_1), .val (.int (1 : Int32)), .val (.ref a_3), .val (.int p_4), .val (.int p_4), .unset] [(.int (0 : Int32))])
    refine own_go (fun _ k => XS.istore X0.here hx rfl (hb hby own_d1_4) rfl (l' := #[.val (.ref a_1), .val (.int (1 : Int32)), .val (.ref a_3), .val (.int p_4), .val (.int p_4), .val (.int (0 : Int32))]) rfl k) ?_
    show own_Go _ _ _ _ s₁ (mkF m 6 #[.val (.ref a_1), .val (.int (1 : Int32)), .val (.ref a_3), .val (.int p_4), .val (.int p_4), .val (.int (0 : Int32))] [])
    refine own_go (fun _ k => XS.iload X0.here hx rfl (hb hby own_d1_6) rfl k) ?_
    show own_Go _ _ _ _ s₁ (mkF m 8 #[.val (.ref a_1), .val (.int (1 : Int32)), .val (.ref a_3), .val (.int p_4), .val (.int p_4), .val (.int (0 : Int32))] [(.int (0 : Int32))])
    refine own_go (fun _ k => XS.iloadN X0.here hx rfl (hb hby own_d1_8) rfl k) ?_
    show own_Go _ _ _ _ s₁ (mkF m 9 #[.val (.ref a_1), .val (.int (1 : Int32)), .val (.ref a_3), .val (.int p_4), .val (.int p_4), .val (.int (0 : Int32))] [(.int (1 : Int32)), (.int (0 : Int32))])
    have hc9 : (0 : Int32) < (1 : Int32) := by decide
    refine own_go (fun _ k => XS.icmpNo X0.here hx rfl (hb hby own_d1_9) rfl (Jvm.Free.XT.ii_ge_f hc9) k) ?_
    show own_Go _ _ _ _ s₁ (mkF m 12 #[.val (.ref a_1), .val (.int (1 : Int32)), .val (.ref a_3), .val (.int p_4), .val (.int p_4), .val (.int (0 : Int32))] [])
    refine own_go (fun _ k => XS.iload X0.here hx rfl (hb hby own_d1_12) rfl k) ?_
    show own_Go _ _ _ _ s₁ (mkF m 14 #[.val (.ref a_1), .val (.int (1 : Int32)), .val (.ref a_3), .val (.int p_4), .val (.int p_4), .val (.int (0 : Int32))] [(.int (0 : Int32))])
    have hc10 : ¬ (0 < (0 : Int32)) := by decide
    refine own_go (fun _ k => XS.ifYes X0.here hx rfl (pc0 := 14) (pc' := 26) rfl (hb hby own_d1_14) rfl (Jvm.Free.XT.i0_le_t hc10) (by decide) (by decide) k) ?_
    show own_Go _ _ _ _ s₁ (mkF m 26 #[.val (.ref a_1), .val (.int (1 : Int32)), .val (.ref a_3), .val (.int p_4), .val (.int p_4), .val (.int (0 : Int32))] [])
    refine own_go (fun _ k => XS.aloadN X0.here hx rfl (hb hby own_d1_26) rfl rfl k) ?_
    show own_Go _ _ _ _ s₁ (mkF m 27 #[.val (.ref a_1), .val (.int (1 : Int32)), .val (.ref a_3), .val (.int p_4), .val (.int p_4), .val (.int (0 : Int32))] [(.ref a_3)])
    refine own_go (fun _ k => XS.iload X0.here hx rfl (hb hby own_d1_27) rfl k) ?_
    show own_Go _ _ _ _ s₁ (mkF m 29 #[.val (.ref a_1), .val (.int (1 : Int32)), .val (.ref a_3), .val (.int p_4), .val (.int p_4), .val (.int (0 : Int32))] [(.int p_4), (.ref a_3)])
    refine own_go (fun _ k => XS.iinc X0.here hx rfl (hb hby own_d1_29) rfl (l' := #[.val (.ref a_1), .val (.int (1 : Int32)), .val (.ref a_3), .val (.int p_4), .val (.int (p_4 + (1 : Int32))), .val (.int (0 : Int32))]) rfl k) ?_
    show own_Go _ _ _ _ s₁ (mkF m 32 #[.val (.ref a_1), .val (.int (1 : Int32)), .val (.ref a_3), .val (.int p_4), .val (.int (p_4 + (1 : Int32))), .val (.int (0 : Int32))] [(.int p_4), (.ref a_3)])
    obtain ⟨T11, X11, e11, st11⟩ := getS2 X0 hx hZ hown (host := "") (Or.inl (hw _ (List.mem_of_getElem? (i := 6) rfl))) Via.refl e0 pr_S_com_example_honest_codec_honestcodec_IllFormedSequence_HEX_DIGITS (g := (mkF m 32 #[.val (.ref a_1), .val (.int (1 : Int32)), .val (.ref a_3), .val (.int p_4), .val (.int (p_4 + (1 : Int32))), .val (.int (0 : Int32))] [(.int p_4), (.ref a_3)])) rfl (hb hby own_d1_32)
    refine own_go (fun _ k => st11 _ k) ?_
    show own_Go _ _ _ _ T11 (mkF m 35 #[.val (.ref a_1), .val (.int (1 : Int32)), .val (.ref a_3), .val (.int p_4), .val (.int (p_4 + (1 : Int32))), .val (.int (0 : Int32))] [(.ref t_), (.int p_4), (.ref a_3)])
    refine own_go (fun _ k => XS.aloadN X11.here hx rfl (hb hby own_d1_35) rfl rfl k) ?_
    show own_Go _ _ _ _ T11 (mkF m 36 #[.val (.ref a_1), .val (.int (1 : Int32)), .val (.ref a_3), .val (.int p_4), .val (.int (p_4 + (1 : Int32))), .val (.int (0 : Int32))] [(.ref a_1), (.ref t_), (.int p_4), (.ref a_3)])
    refine own_go (fun _ k => XS.iload X11.here hx rfl (hb hby own_d1_36) rfl k) ?_
    show own_Go _ _ _ _ T11 (mkF m 38 #[.val (.ref a_1), .val (.int (1 : Int32)), .val (.ref a_3), .val (.int p_4), .val (.int (p_4 + (1 : Int32))), .val (.int (0 : Int32))] [(.int (0 : Int32)), (.ref a_1), (.ref t_), (.int p_4), (.ref a_3)])
    obtain ⟨q12, c12, R12, s12, t12⟩ := id pr_A_a_1
    have hin12 : ¬ ((0 : Int32) < 0 ∨ c12.slots.size ≤ ((0 : Int32)).toNatClampNeg) := inb_of s12 ⟨by decide, by decide⟩
    have u12 : c12.slots[((0 : Int32)).toNatClampNeg]? = some (.int b0) := own_at (k := 0) t12 s12 hin12 (by decide) (hg0)
    refine own_go (fun _ k => X11.baloadBytes hx (j := (0 : Int32)) (v := (.int b0)) (by rw [e11]; exact R12.1) (State.isArrayOf_alike hZ.alike R12.2.1) R12.2.2 hin12 u12 (g := (mkF m 38 #[.val (.ref a_1), .val (.int (1 : Int32)), .val (.ref a_3), .val (.int p_4), .val (.int (p_4 + (1 : Int32))), .val (.int (0 : Int32))] [(.int (0 : Int32)), (.ref a_1), (.ref t_), (.int p_4), (.ref a_3)])) rfl rfl (hb hby own_d1_38) _ k) ?_
    show own_Go _ _ _ _ T11 (mkF m 39 #[.val (.ref a_1), .val (.int (1 : Int32)), .val (.ref a_3), .val (.int p_4), .val (.int (p_4 + (1 : Int32))), .val (.int (0 : Int32))] [(.int b0), (.ref t_), (.int p_4), (.ref a_3)])
    refine own_go (fun _ k => XS.iconst X11.here hx rfl (hb hby own_d1_39) k) ?_
    show own_Go _ _ _ _ T11 (mkF m 40 #[.val (.ref a_1), .val (.int (1 : Int32)), .val (.ref a_3), .val (.int p_4), .val (.int (p_4 + (1 : Int32))), .val (.int (0 : Int32))] [(.int (4 : Int32)), (.int b0), (.ref t_), (.int p_4), (.ref a_3)])
    refine own_go (fun _ k => XS.ishr X11.here hx rfl (hb hby own_d1_40) rfl k) ?_
    show own_Go _ _ _ _ T11 (mkF m 41 #[.val (.ref a_1), .val (.int (1 : Int32)), .val (.ref a_3), .val (.int p_4), .val (.int (p_4 + (1 : Int32))), .val (.int (0 : Int32))] [(.int (b0 >>> ((4 : Int32) &&& 31))), (.ref t_), (.int p_4), (.ref a_3)])
    refine own_go (fun _ k => XS.bipush X11.here hx rfl (hb hby own_d1_41) k) ?_
    show own_Go _ _ _ _ T11 (mkF m 43 #[.val (.ref a_1), .val (.int (1 : Int32)), .val (.ref a_3), .val (.int p_4), .val (.int (p_4 + (1 : Int32))), .val (.int (0 : Int32))] [(.int (15 : Int32)), (.int (b0 >>> ((4 : Int32) &&& 31))), (.ref t_), (.int p_4), (.ref a_3)])
    refine own_go (fun _ k => XS.iand X11.here hx rfl (hb hby own_d1_43) rfl k) ?_
    show own_Go _ _ _ _ T11 (mkF m 44 #[.val (.ref a_1), .val (.int (1 : Int32)), .val (.ref a_3), .val (.int p_4), .val (.int (p_4 + (1 : Int32))), .val (.int (0 : Int32))] [(.int ((b0 >>> ((4 : Int32) &&& 31)) &&& (15 : Int32))), (.ref t_), (.int p_4), (.ref a_3)])
    obtain ⟨q13, c13, R13, s13, t13⟩ := id pr_A_t_
    have hin13 : ¬ (((b0 >>> ((4 : Int32) &&& 31)) &&& (15 : Int32)) < 0 ∨ c13.slots.size ≤ (((b0 >>> ((4 : Int32) &&& 31)) &&& (15 : Int32))).toNatClampNeg) := inb_of s13 (own_t1_1 b0 )
    have u13 : c13.slots[(((b0 >>> ((4 : Int32) &&& 31)) &&& (15 : Int32))).toNatClampNeg]? = some (.int (own_hd (((b0 >>> ((4 : Int32) &&& 31)) &&& (15 : Int32))).toNatClampNeg)) := own_at (k := (((b0 >>> ((4 : Int32) &&& 31)) &&& (15 : Int32))).toNatClampNeg) t13 s13 hin13 rfl (rfl)
    refine own_go (fun _ k => X11.baloadBytes hx (j := ((b0 >>> ((4 : Int32) &&& 31)) &&& (15 : Int32))) (v := (.int (own_hd (((b0 >>> ((4 : Int32) &&& 31)) &&& (15 : Int32))).toNatClampNeg))) (by rw [e11]; exact R13.1) (State.isArrayOf_alike hZ.alike R13.2.1) R13.2.2 hin13 u13 (g := (mkF m 44 #[.val (.ref a_1), .val (.int (1 : Int32)), .val (.ref a_3), .val (.int p_4), .val (.int (p_4 + (1 : Int32))), .val (.int (0 : Int32))] [(.int ((b0 >>> ((4 : Int32) &&& 31)) &&& (15 : Int32))), (.ref t_), (.int p_4), (.ref a_3)])) rfl rfl (hb hby own_d1_44) _ k) ?_
    show own_Go _ _ _ _ T11 (mkF m 45 #[.val (.ref a_1), .val (.int (1 : Int32)), .val (.ref a_3), .val (.int p_4), .val (.int (p_4 + (1 : Int32))), .val (.int (0 : Int32))] [(.int (own_hd (((b0 >>> ((4 : Int32) &&& 31)) &&& (15 : Int32))).toNatClampNeg)), (.int p_4), (.ref a_3)])
    obtain ⟨q14, c14, R14, s14, t14⟩ := id pr_A_a_3
    have hin14 : ¬ (p_4 < 0 ∨ c14.slots.size ≤ (p_4).toNatClampNeg) := inb_of s14 (own_t1_2 p_4 hp)
    obtain ⟨T15, h15, X15, e15, W15, st15⟩ := stB X11 hx hZ e11 R14 (j := p_4) hin14 (g := (mkF m 45 #[.val (.ref a_1), .val (.int (1 : Int32)), .val (.ref a_3), .val (.int p_4), .val (.int (p_4 + (1 : Int32))), .val (.int (0 : Int32))] [(.int (own_hd (((b0 >>> ((4 : Int32) &&& 31)) &&& (15 : Int32))).toNatClampNeg)), (.int p_4), (.ref a_3)])) rfl rfl (hb hby own_d1_45)
    rw [own_nar_hd _] at W15
    have V15 : own_AV Z h15 a_3 .byte (16 : Int32) (own_upd fa (p_4).toNatClampNeg (.int (own_hd (((b0 >>> ((4 : Int32) &&& 31)) &&& (15 : Int32))).toNatClampNeg))) := own_AV.set (k := (p_4).toNatClampNeg) pr_A_a_3 W15 rfl
    have z16 := W15.size
    have K15 : Keep h0 h15 [a_3] := K0.wr W15 (Or.inl (List.mem_of_getElem? (i := 0) rfl))
    have N15 := Fr.snoc X15 N0 (by omega : n0 ≤ a_3)
    refine own_go (fun _ k => st15 _ k) ?_
    show own_Go _ _ _ _ T15 (mkF m 46 #[.val (.ref a_1), .val (.int (1 : Int32)), .val (.ref a_3), .val (.int p_4), .val (.int (p_4 + (1 : Int32))), .val (.int (0 : Int32))] [])
    refine own_go (fun _ k => XS.aloadN X15.here hx rfl (hb hby own_d1_46) rfl rfl k) ?_
    show own_Go _ _ _ _ T15 (mkF m 47 #[.val (.ref a_1), .val (.int (1 : Int32)), .val (.ref a_3), .val (.int p_4), .val (.int (p_4 + (1 : Int32))), .val (.int (0 : Int32))] [(.ref a_3)])
    refine own_go (fun _ k => XS.iload X15.here hx rfl (hb hby own_d1_47) rfl k) ?_
    show own_Go _ _ _ _ T15 (mkF m 49 #[.val (.ref a_1), .val (.int (1 : Int32)), .val (.ref a_3), .val (.int p_4), .val (.int (p_4 + (1 : Int32))), .val (.int (0 : Int32))] [(.int (p_4 + (1 : Int32))), (.ref a_3)])
    refine own_go (fun _ k => XS.iinc X15.here hx rfl (hb hby own_d1_49) rfl (l' := #[.val (.ref a_1), .val (.int (1 : Int32)), .val (.ref a_3), .val (.int p_4), .val (.int ((p_4 + (1 : Int32)) + (1 : Int32))), .val (.int (0 : Int32))]) rfl k) ?_
    show own_Go _ _ _ _ T15 (mkF m 52 #[.val (.ref a_1), .val (.int (1 : Int32)), .val (.ref a_3), .val (.int p_4), .val (.int ((p_4 + (1 : Int32)) + (1 : Int32))), .val (.int (0 : Int32))] [(.int (p_4 + (1 : Int32))), (.ref a_3)])
    have f17 : Sta Z h15 "com/example/honest_codec/honestcodec/IllFormedSequence" "HEX_DIGITS" "[B" (.ref t_) := (pr_S_com_example_honest_codec_honestcodec_IllFormedSequence_HEX_DIGITS.wr W15)
    obtain ⟨T18, X18, e18, st18⟩ := getS2 X15 hx hZ hown (host := "") (Or.inl (hw _ (List.mem_of_getElem? (i := 6) rfl))) Via.refl e15 f17 (g := (mkF m 52 #[.val (.ref a_1), .val (.int (1 : Int32)), .val (.ref a_3), .val (.int p_4), .val (.int ((p_4 + (1 : Int32)) + (1 : Int32))), .val (.int (0 : Int32))] [(.int (p_4 + (1 : Int32))), (.ref a_3)])) rfl (hb hby own_d1_52)
    refine own_go (fun _ k => st18 _ k) ?_
    show own_Go _ _ _ _ T18 (mkF m 55 #[.val (.ref a_1), .val (.int (1 : Int32)), .val (.ref a_3), .val (.int p_4), .val (.int ((p_4 + (1 : Int32)) + (1 : Int32))), .val (.int (0 : Int32))] [(.ref t_), (.int (p_4 + (1 : Int32))), (.ref a_3)])
    refine own_go (fun _ k => XS.aloadN X18.here hx rfl (hb hby own_d1_55) rfl rfl k) ?_
    show own_Go _ _ _ _ T18 (mkF m 56 #[.val (.ref a_1), .val (.int (1 : Int32)), .val (.ref a_3), .val (.int p_4), .val (.int ((p_4 + (1 : Int32)) + (1 : Int32))), .val (.int (0 : Int32))] [(.ref a_1), (.ref t_), (.int (p_4 + (1 : Int32))), (.ref a_3)])
    refine own_go (fun _ k => XS.iload X18.here hx rfl (hb hby own_d1_56) rfl k) ?_
    show own_Go _ _ _ _ T18 (mkF m 58 #[.val (.ref a_1), .val (.int (1 : Int32)), .val (.ref a_3), .val (.int p_4), .val (.int ((p_4 + (1 : Int32)) + (1 : Int32))), .val (.int (0 : Int32))] [(.int (0 : Int32)), (.ref a_1), (.ref t_), (.int (p_4 + (1 : Int32))), (.ref a_3)])
    have f19 : own_AV Z h15 a_1 .byte (4 : Int32) gs := (pr_A_a_1.other W15 (own_ne (by omega)))
    obtain ⟨q20, c20, R20, s20, t20⟩ := id f19
    have hin20 : ¬ ((0 : Int32) < 0 ∨ c20.slots.size ≤ ((0 : Int32)).toNatClampNeg) := inb_of s20 ⟨by decide, by decide⟩
    have u20 : c20.slots[((0 : Int32)).toNatClampNeg]? = some (.int b0) := own_at (k := 0) t20 s20 hin20 (by decide) (hg0)
    refine own_go (fun _ k => X18.baloadBytes hx (j := (0 : Int32)) (v := (.int b0)) (by rw [e18]; exact R20.1) (State.isArrayOf_alike hZ.alike R20.2.1) R20.2.2 hin20 u20 (g := (mkF m 58 #[.val (.ref a_1), .val (.int (1 : Int32)), .val (.ref a_3), .val (.int p_4), .val (.int ((p_4 + (1 : Int32)) + (1 : Int32))), .val (.int (0 : Int32))] [(.int (0 : Int32)), (.ref a_1), (.ref t_), (.int (p_4 + (1 : Int32))), (.ref a_3)])) rfl rfl (hb hby own_d1_58) _ k) ?_
    show own_Go _ _ _ _ T18 (mkF m 59 #[.val (.ref a_1), .val (.int (1 : Int32)), .val (.ref a_3), .val (.int p_4), .val (.int ((p_4 + (1 : Int32)) + (1 : Int32))), .val (.int (0 : Int32))] [(.int b0), (.ref t_), (.int (p_4 + (1 : Int32))), (.ref a_3)])
    refine own_go (fun _ k => XS.bipush X18.here hx rfl (hb hby own_d1_59) k) ?_
    show own_Go _ _ _ _ T18 (mkF m 61 #[.val (.ref a_1), .val (.int (1 : Int32)), .val (.ref a_3), .val (.int p_4), .val (.int ((p_4 + (1 : Int32)) + (1 : Int32))), .val (.int (0 : Int32))] [(.int (15 : Int32)), (.int b0), (.ref t_), (.int (p_4 + (1 : Int32))), (.ref a_3)])
    refine own_go (fun _ k => XS.iand X18.here hx rfl (hb hby own_d1_61) rfl k) ?_
    show own_Go _ _ _ _ T18 (mkF m 62 #[.val (.ref a_1), .val (.int (1 : Int32)), .val (.ref a_3), .val (.int p_4), .val (.int ((p_4 + (1 : Int32)) + (1 : Int32))), .val (.int (0 : Int32))] [(.int (b0 &&& (15 : Int32))), (.ref t_), (.int (p_4 + (1 : Int32))), (.ref a_3)])
    have f21 : own_AV Z h15 t_ .byte (16 : Int32) (fun i => .int (own_hd i)) := (pr_A_t_.other W15 (own_ne (by omega)))
    obtain ⟨q22, c22, R22, s22, t22⟩ := id f21
    have hin22 : ¬ ((b0 &&& (15 : Int32)) < 0 ∨ c22.slots.size ≤ ((b0 &&& (15 : Int32))).toNatClampNeg) := inb_of s22 (own_t1_3 b0 )
    have u22 : c22.slots[((b0 &&& (15 : Int32))).toNatClampNeg]? = some (.int (own_hd ((b0 &&& (15 : Int32))).toNatClampNeg)) := own_at (k := ((b0 &&& (15 : Int32))).toNatClampNeg) t22 s22 hin22 rfl (rfl)
    refine own_go (fun _ k => X18.baloadBytes hx (j := (b0 &&& (15 : Int32))) (v := (.int (own_hd ((b0 &&& (15 : Int32))).toNatClampNeg))) (by rw [e18]; exact R22.1) (State.isArrayOf_alike hZ.alike R22.2.1) R22.2.2 hin22 u22 (g := (mkF m 62 #[.val (.ref a_1), .val (.int (1 : Int32)), .val (.ref a_3), .val (.int p_4), .val (.int ((p_4 + (1 : Int32)) + (1 : Int32))), .val (.int (0 : Int32))] [(.int (b0 &&& (15 : Int32))), (.ref t_), (.int (p_4 + (1 : Int32))), (.ref a_3)])) rfl rfl (hb hby own_d1_62) _ k) ?_
    show own_Go _ _ _ _ T18 (mkF m 63 #[.val (.ref a_1), .val (.int (1 : Int32)), .val (.ref a_3), .val (.int p_4), .val (.int ((p_4 + (1 : Int32)) + (1 : Int32))), .val (.int (0 : Int32))] [(.int (own_hd ((b0 &&& (15 : Int32))).toNatClampNeg)), (.int (p_4 + (1 : Int32))), (.ref a_3)])
    obtain ⟨q23, c23, R23, s23, t23⟩ := id V15
    have hin23 : ¬ ((p_4 + (1 : Int32)) < 0 ∨ c23.slots.size ≤ ((p_4 + (1 : Int32))).toNatClampNeg) := inb_of s23 (own_t1_4 p_4 hp)
    obtain ⟨T24, h24, X24, e24, W24, st24⟩ := stB X18 hx hZ e18 R23 (j := (p_4 + (1 : Int32))) hin23 (g := (mkF m 63 #[.val (.ref a_1), .val (.int (1 : Int32)), .val (.ref a_3), .val (.int p_4), .val (.int ((p_4 + (1 : Int32)) + (1 : Int32))), .val (.int (0 : Int32))] [(.int (own_hd ((b0 &&& (15 : Int32))).toNatClampNeg)), (.int (p_4 + (1 : Int32))), (.ref a_3)])) rfl rfl (hb hby own_d1_63)
    rw [own_nar_hd _] at W24
    have V24 : own_AV Z h24 a_3 .byte (16 : Int32) (own_upd (own_upd fa (p_4).toNatClampNeg (.int (own_hd (((b0 >>> ((4 : Int32) &&& 31)) &&& (15 : Int32))).toNatClampNeg))) ((p_4 + (1 : Int32))).toNatClampNeg (.int (own_hd ((b0 &&& (15 : Int32))).toNatClampNeg))) := own_AV.set (k := ((p_4 + (1 : Int32))).toNatClampNeg) V15 W24 rfl
    have z25 := W24.size
    have K24 : Keep h0 h24 [a_3] := K15.wr W24 (Or.inl (List.mem_of_getElem? (i := 0) rfl))
    have N24 := Fr.snoc X24 N15 (by omega : n0 ≤ a_3)
    refine own_go (fun _ k => st24 _ k) ?_
    show own_Go _ _ _ _ T24 (mkF m 64 #[.val (.ref a_1), .val (.int (1 : Int32)), .val (.ref a_3), .val (.int p_4), .val (.int ((p_4 + (1 : Int32)) + (1 : Int32))), .val (.int (0 : Int32))] [])
    refine own_go (fun _ k => XS.iinc X24.here hx rfl (hb hby own_d1_64) rfl (l' := #[.val (.ref a_1), .val (.int (1 : Int32)), .val (.ref a_3), .val (.int p_4), .val (.int ((p_4 + (1 : Int32)) + (1 : Int32))), .val (.int (1 : Int32))]) rfl k) ?_
    show own_Go _ _ _ _ T24 (mkF m 67 #[.val (.ref a_1), .val (.int (1 : Int32)), .val (.ref a_3), .val (.int p_4), .val (.int ((p_4 + (1 : Int32)) + (1 : Int32))), .val (.int (1 : Int32))] [])
    refine own_go (fun _ k => XS.goto X24.here hx rfl (pc0 := 67) (pc' := 6) rfl (hb hby own_d1_67) (by decide) (by decide) k) ?_
    show own_Go _ _ _ _ T24 (mkF m 6 #[.val (.ref a_1), .val (.int (1 : Int32)), .val (.ref a_3), .val (.int p_4), .val (.int ((p_4 + (1 : Int32)) + (1 : Int32))), .val (.int (1 : Int32))] [])
    refine own_go (fun _ k => XS.iload X24.here hx rfl (hb hby own_d1_6) rfl k) ?_
    show own_Go _ _ _ _ T24 (mkF m 8 #[.val (.ref a_1), .val (.int (1 : Int32)), .val (.ref a_3), .val (.int p_4), .val (.int ((p_4 + (1 : Int32)) + (1 : Int32))), .val (.int (1 : Int32))] [(.int (1 : Int32))])
    refine own_go (fun _ k => XS.iloadN X24.here hx rfl (hb hby own_d1_8) rfl k) ?_
    show own_Go _ _ _ _ T24 (mkF m 9 #[.val (.ref a_1), .val (.int (1 : Int32)), .val (.ref a_3), .val (.int p_4), .val (.int ((p_4 + (1 : Int32)) + (1 : Int32))), .val (.int (1 : Int32))] [(.int (1 : Int32)), (.int (1 : Int32))])
    have hc26 : ¬ ((1 : Int32) < (1 : Int32)) := by decide
    refine own_go (fun _ k => XS.icmpYes X24.here hx rfl (pc0 := 9) (pc' := 70) rfl (hb hby own_d1_9) rfl (Jvm.Free.XT.ii_ge_t hc26) (by decide) (by decide) k) ?_
    show own_Go _ _ _ _ T24 (mkF m 70 #[.val (.ref a_1), .val (.int (1 : Int32)), .val (.ref a_3), .val (.int p_4), .val (.int ((p_4 + (1 : Int32)) + (1 : Int32))), .val (.int (1 : Int32))] [])
    refine own_go (fun _ k => XS.iload X24.here hx rfl (hb hby own_d1_70) rfl k) ?_
    show own_Go _ _ _ _ T24 (mkF m 72 #[.val (.ref a_1), .val (.int (1 : Int32)), .val (.ref a_3), .val (.int p_4), .val (.int ((p_4 + (1 : Int32)) + (1 : Int32))), .val (.int (1 : Int32))] [(.int ((p_4 + (1 : Int32)) + (1 : Int32)))])
    obtain ⟨fs, hr, hrun, hended, hW, hsame⟩ := X24.leave (v := some (.int ((p_4 + (1 : Int32)) + (1 : Int32)))) (fun h => by rw [Bd.returns] at h; cases h)
    refine ⟨_, _, retOut X24 hx Bd.returns rfl (Or.inl ⟨rfl, Or.inl rfl, _, rfl⟩) (hb hby own_d1_72) hr, hrun, hended, _, _, rfl, ?_, ⟨_, rfl⟩, hW, hsame.mono (by decide) (by decide)⟩
    show own_Q1 Z a_1 (1 : Int32) a_3 p_4 t_ gs fa b0 b1 b2 b3 h0 n0 _ T24.heap _
    rw [e24]
    exact ⟨_, rfl, N24, rfl, K24, V24⟩
  · subst hs6
    show own_Go _ _ _ _ s₁ (mkF m 0 #[.val (.ref a_1), .val (.int (2 : Int32)), .val (.ref a_3), .val (.int p_4), .unset, .unset] [])
    refine own_go (fun _ k => XS.iloadN X0.here hx rfl (hb hby own_d1_0) rfl k) ?_
    show own_Go _ _ _ _ s₁ (mkF m 1 #[.val (.ref a_1), .val (.int (2 : Int32)), .val (.ref a_3), .val (.int p_4), .unset, .unset] [(.int p_4)])
    refine own_go (fun _ k => XS.istore X0.here hx rfl (hb hby own_d1_1) rfl (l' := #[.val (.ref a_1), .val (.int (2 : Int32)), .val (.ref a_3), .val (.int p_4), .val (.int p_4), .unset]) rfl k) ?_
    show own_Go _ _ _ _ s₁ (mkF m 3 #[.val (.ref a_1), .val (.int (2 : Int32)), .val (.ref a_3), .val (.int p_4), .val (.int p_4), .unset] [])
    refine own_go (fun _ k => XS.iconst X0.here hx rfl (hb hby own_d1_3) k) ?_
    show own_Go _ _ _ _ s₁ (mkF m 4 #[.val (.ref a_1), .val (.int (2 : Int32)), .val (.ref a_3), .val (.int p_4), .val (.int p_4), .unset] [(.int (0 : Int32))])
    refine own_go (fun _ k => XS.istore X0.here hx rfl (hb hby own_d1_4) rfl (l' := #[.val (.ref a_1), .val (.int (2 : Int32)), .val (.ref a_3), .val (.int p_4), .val (.int p_4), .val (.int (0 : Int32))]) rfl k) ?_
    show own_Go _ _ _ _ s₁ (mkF m 6 #[.val (.ref a_1), .val (.int (2 : Int32)), .val (.ref a_3), .val (.int p_4), .val (.int p_4), .val (.int (0 : Int32))] [])
    refine own_go (fun _ k => XS.iload X0.here hx rfl (hb hby own_d1_6) rfl k) ?_
    show own_Go _ _ _ _ s₁ (mkF m 8 #[.val (.ref a_1), .val (.int (2 : Int32)), .val (.ref a_3), .val (.int p_4), .val (.int p_4), .val (.int (0 : Int32))] [(.int (0 : Int32))])
    refine own_go (fun _ k => XS.iloadN X0.here hx rfl (hb hby own_d1_8) rfl k) ?_
    show own_Go _ _ _ _ s₁ (mkF m 9 #[.val (.ref a_1), .val (.int (2 : Int32)), .val (.ref a_3), .val (.int p_4), .val (.int p_4), .val (.int (0 : Int32))] [(.int (2 : Int32)), (.int (0 : Int32))])
    have hc28 : (0 : Int32) < (2 : Int32) := by decide
    refine own_go (fun _ k => XS.icmpNo X0.here hx rfl (hb hby own_d1_9) rfl (Jvm.Free.XT.ii_ge_f hc28) k) ?_
    show own_Go _ _ _ _ s₁ (mkF m 12 #[.val (.ref a_1), .val (.int (2 : Int32)), .val (.ref a_3), .val (.int p_4), .val (.int p_4), .val (.int (0 : Int32))] [])
    refine own_go (fun _ k => XS.iload X0.here hx rfl (hb hby own_d1_12) rfl k) ?_
    show own_Go _ _ _ _ s₁ (mkF m 14 #[.val (.ref a_1), .val (.int (2 : Int32)), .val (.ref a_3), .val (.int p_4), .val (.int p_4), .val (.int (0 : Int32))] [(.int (0 : Int32))])
    have hc29 : ¬ (0 < (0 : Int32)) := by decide
    refine own_go (fun _ k => XS.ifYes X0.here hx rfl (pc0 := 14) (pc' := 26) rfl (hb hby own_d1_14) rfl (Jvm.Free.XT.i0_le_t hc29) (by decide) (by decide) k) ?_
    show own_Go _ _ _ _ s₁ (mkF m 26 #[.val (.ref a_1), .val (.int (2 : Int32)), .val (.ref a_3), .val (.int p_4), .val (.int p_4), .val (.int (0 : Int32))] [])
    refine own_go (fun _ k => XS.aloadN X0.here hx rfl (hb hby own_d1_26) rfl rfl k) ?_
    show own_Go _ _ _ _ s₁ (mkF m 27 #[.val (.ref a_1), .val (.int (2 : Int32)), .val (.ref a_3), .val (.int p_4), .val (.int p_4), .val (.int (0 : Int32))] [(.ref a_3)])
    refine own_go (fun _ k => XS.iload X0.here hx rfl (hb hby own_d1_27) rfl k) ?_
    show own_Go _ _ _ _ s₁ (mkF m 29 #[.val (.ref a_1), .val (.int (2 : Int32)), .val (.ref a_3), .val (.int p_4), .val (.int p_4), .val (.int (0 : Int32))] [(.int p_4), (.ref a_3)])
    refine own_go (fun _ k => XS.iinc X0.here hx rfl (hb hby own_d1_29) rfl (l' := #[.val (.ref a_1), .val (.int (2 : Int32)), .val (.ref a_3), .val (.int p_4), .val (.int (p_4 + (1 : Int32))), .val (.int (0 : Int32))]) rfl k) ?_
    show own_Go _ _ _ _ s₁ (mkF m 32 #[.val (.ref a_1), .val (.int (2 : Int32)), .val (.ref a_3), .val (.int p_4), .val (.int (p_4 + (1 : Int32))), .val (.int (0 : Int32))] [(.int p_4), (.ref a_3)])
    obtain ⟨T30, X30, e30, st30⟩ := getS2 X0 hx hZ hown (host := "") (Or.inl (hw _ (List.mem_of_getElem? (i := 6) rfl))) Via.refl e0 pr_S_com_example_honest_codec_honestcodec_IllFormedSequence_HEX_DIGITS (g := (mkF m 32 #[.val (.ref a_1), .val (.int (2 : Int32)), .val (.ref a_3), .val (.int p_4), .val (.int (p_4 + (1 : Int32))), .val (.int (0 : Int32))] [(.int p_4), (.ref a_3)])) rfl (hb hby own_d1_32)
    refine own_go (fun _ k => st30 _ k) ?_
    show own_Go _ _ _ _ T30 (mkF m 35 #[.val (.ref a_1), .val (.int (2 : Int32)), .val (.ref a_3), .val (.int p_4), .val (.int (p_4 + (1 : Int32))), .val (.int (0 : Int32))] [(.ref t_), (.int p_4), (.ref a_3)])
    refine own_go (fun _ k => XS.aloadN X30.here hx rfl (hb hby own_d1_35) rfl rfl k) ?_
    show own_Go _ _ _ _ T30 (mkF m 36 #[.val (.ref a_1), .val (.int (2 : Int32)), .val (.ref a_3), .val (.int p_4), .val (.int (p_4 + (1 : Int32))), .val (.int (0 : Int32))] [(.ref a_1), (.ref t_), (.int p_4), (.ref a_3)])
    refine own_go (fun _ k => XS.iload X30.here hx rfl (hb hby own_d1_36) rfl k) ?_
    show own_Go _ _ _ _ T30 (mkF m 38 #[.val (.ref a_1), .val (.int (2 : Int32)), .val (.ref a_3), .val (.int p_4), .val (.int (p_4 + (1 : Int32))), .val (.int (0 : Int32))] [(.int (0 : Int32)), (.ref a_1), (.ref t_), (.int p_4), (.ref a_3)])
    obtain ⟨q31, c31, R31, s31, t31⟩ := id pr_A_a_1
    have hin31 : ¬ ((0 : Int32) < 0 ∨ c31.slots.size ≤ ((0 : Int32)).toNatClampNeg) := inb_of s31 ⟨by decide, by decide⟩
    have u31 : c31.slots[((0 : Int32)).toNatClampNeg]? = some (.int b0) := own_at (k := 0) t31 s31 hin31 (by decide) (hg0)
    refine own_go (fun _ k => X30.baloadBytes hx (j := (0 : Int32)) (v := (.int b0)) (by rw [e30]; exact R31.1) (State.isArrayOf_alike hZ.alike R31.2.1) R31.2.2 hin31 u31 (g := (mkF m 38 #[.val (.ref a_1), .val (.int (2 : Int32)), .val (.ref a_3), .val (.int p_4), .val (.int (p_4 + (1 : Int32))), .val (.int (0 : Int32))] [(.int (0 : Int32)), (.ref a_1), (.ref t_), (.int p_4), (.ref a_3)])) rfl rfl (hb hby own_d1_38) _ k) ?_
    show own_Go _ _ _ _ T30 (mkF m 39 #[.val (.ref a_1), .val (.int (2 : Int32)), .val (.ref a_3), .val (.int p_4), .val (.int (p_4 + (1 : Int32))), .val (.int (0 : Int32))] [(.int b0), (.ref t_), (.int p_4), (.ref a_3)])
    refine own_go (fun _ k => XS.iconst X30.here hx rfl (hb hby own_d1_39) k) ?_
    show own_Go _ _ _ _ T30 (mkF m 40 #[.val (.ref a_1), .val (.int (2 : Int32)), .val (.ref a_3), .val (.int p_4), .val (.int (p_4 + (1 : Int32))), .val (.int (0 : Int32))] [(.int (4 : Int32)), (.int b0), (.ref t_), (.int p_4), (.ref a_3)])
    refine own_go (fun _ k => XS.ishr X30.here hx rfl (hb hby own_d1_40) rfl k) ?_
    show own_Go _ _ _ _ T30 (mkF m 41 #[.val (.ref a_1), .val (.int (2 : Int32)), .val (.ref a_3), .val (.int p_4), .val (.int (p_4 + (1 : Int32))), .val (.int (0 : Int32))] [(.int (b0 >>> ((4 : Int32) &&& 31))), (.ref t_), (.int p_4), (.ref a_3)])
    refine own_go (fun _ k => XS.bipush X30.here hx rfl (hb hby own_d1_41) k) ?_
    show own_Go _ _ _ _ T30 (mkF m 43 #[.val (.ref a_1), .val (.int (2 : Int32)), .val (.ref a_3), .val (.int p_4), .val (.int (p_4 + (1 : Int32))), .val (.int (0 : Int32))] [(.int (15 : Int32)), (.int (b0 >>> ((4 : Int32) &&& 31))), (.ref t_), (.int p_4), (.ref a_3)])
    refine own_go (fun _ k => XS.iand X30.here hx rfl (hb hby own_d1_43) rfl k) ?_
    show own_Go _ _ _ _ T30 (mkF m 44 #[.val (.ref a_1), .val (.int (2 : Int32)), .val (.ref a_3), .val (.int p_4), .val (.int (p_4 + (1 : Int32))), .val (.int (0 : Int32))] [(.int ((b0 >>> ((4 : Int32) &&& 31)) &&& (15 : Int32))), (.ref t_), (.int p_4), (.ref a_3)])
    obtain ⟨q32, c32, R32, s32, t32⟩ := id pr_A_t_
    have hin32 : ¬ (((b0 >>> ((4 : Int32) &&& 31)) &&& (15 : Int32)) < 0 ∨ c32.slots.size ≤ (((b0 >>> ((4 : Int32) &&& 31)) &&& (15 : Int32))).toNatClampNeg) := inb_of s32 (own_t1_5 b0 )
    have u32 : c32.slots[(((b0 >>> ((4 : Int32) &&& 31)) &&& (15 : Int32))).toNatClampNeg]? = some (.int (own_hd (((b0 >>> ((4 : Int32) &&& 31)) &&& (15 : Int32))).toNatClampNeg)) := own_at (k := (((b0 >>> ((4 : Int32) &&& 31)) &&& (15 : Int32))).toNatClampNeg) t32 s32 hin32 rfl (rfl)
    refine own_go (fun _ k => X30.baloadBytes hx (j := ((b0 >>> ((4 : Int32) &&& 31)) &&& (15 : Int32))) (v := (.int (own_hd (((b0 >>> ((4 : Int32) &&& 31)) &&& (15 : Int32))).toNatClampNeg))) (by rw [e30]; exact R32.1) (State.isArrayOf_alike hZ.alike R32.2.1) R32.2.2 hin32 u32 (g := (mkF m 44 #[.val (.ref a_1), .val (.int (2 : Int32)), .val (.ref a_3), .val (.int p_4), .val (.int (p_4 + (1 : Int32))), .val (.int (0 : Int32))] [(.int ((b0 >>> ((4 : Int32) &&& 31)) &&& (15 : Int32))), (.ref t_), (.int p_4), (.ref a_3)])) rfl rfl (hb hby own_d1_44) _ k) ?_
    show own_Go _ _ _ _ T30 (mkF m 45 #[.val (.ref a_1), .val (.int (2 : Int32)), .val (.ref a_3), .val (.int p_4), .val (.int (p_4 + (1 : Int32))), .val (.int (0 : Int32))] [(.int (own_hd (((b0 >>> ((4 : Int32) &&& 31)) &&& (15 : Int32))).toNatClampNeg)), (.int p_4), (.ref a_3)])
    obtain ⟨q33, c33, R33, s33, t33⟩ := id pr_A_a_3
    have hin33 : ¬ (p_4 < 0 ∨ c33.slots.size ≤ (p_4).toNatClampNeg) := inb_of s33 (own_t1_6 p_4 hp)
    obtain ⟨T34, h34, X34, e34, W34, st34⟩ := stB X30 hx hZ e30 R33 (j := p_4) hin33 (g := (mkF m 45 #[.val (.ref a_1), .val (.int (2 : Int32)), .val (.ref a_3), .val (.int p_4), .val (.int (p_4 + (1 : Int32))), .val (.int (0 : Int32))] [(.int (own_hd (((b0 >>> ((4 : Int32) &&& 31)) &&& (15 : Int32))).toNatClampNeg)), (.int p_4), (.ref a_3)])) rfl rfl (hb hby own_d1_45)
    rw [own_nar_hd _] at W34
    have V34 : own_AV Z h34 a_3 .byte (16 : Int32) (own_upd fa (p_4).toNatClampNeg (.int (own_hd (((b0 >>> ((4 : Int32) &&& 31)) &&& (15 : Int32))).toNatClampNeg))) := own_AV.set (k := (p_4).toNatClampNeg) pr_A_a_3 W34 rfl
    have z35 := W34.size
    have K34 : Keep h0 h34 [a_3] := K0.wr W34 (Or.inl (List.mem_of_getElem? (i := 0) rfl))
    have N34 := Fr.snoc X34 N0 (by omega : n0 ≤ a_3)
    refine own_go (fun _ k => st34 _ k) ?_
    show own_Go _ _ _ _ T34 (mkF m 46 #[.val (.ref a_1), .val (.int (2 : Int32)), .val (.ref a_3), .val (.int p_4), .val (.int (p_4 + (1 : Int32))), .val (.int (0 : Int32))] [])
    refine own_go (fun _ k => XS.aloadN X34.here hx rfl (hb hby own_d1_46) rfl rfl k) ?_
    show own_Go _ _ _ _ T34 (mkF m 47 #[.val (.ref a_1), .val (.int (2 : Int32)), .val (.ref a_3), .val (.int p_4), .val (.int (p_4 + (1 : Int32))), .val (.int (0 : Int32))] [(.ref a_3)])
    refine own_go (fun _ k => XS.iload X34.here hx rfl (hb hby own_d1_47) rfl k) ?_
    show own_Go _ _ _ _ T34 (mkF m 49 #[.val (.ref a_1), .val (.int (2 : Int32)), .val (.ref a_3), .val (.int p_4), .val (.int (p_4 + (1 : Int32))), .val (.int (0 : Int32))] [(.int (p_4 + (1 : Int32))), (.ref a_3)])
    refine own_go (fun _ k => XS.iinc X34.here hx rfl (hb hby own_d1_49) rfl (l' := #[.val (.ref a_1), .val (.int (2 : Int32)), .val (.ref a_3), .val (.int p_4), .val (.int ((p_4 + (1 : Int32)) + (1 : Int32))), .val (.int (0 : Int32))]) rfl k) ?_
    show own_Go _ _ _ _ T34 (mkF m 52 #[.val (.ref a_1), .val (.int (2 : Int32)), .val (.ref a_3), .val (.int p_4), .val (.int ((p_4 + (1 : Int32)) + (1 : Int32))), .val (.int (0 : Int32))] [(.int (p_4 + (1 : Int32))), (.ref a_3)])
    have f36 : Sta Z h34 "com/example/honest_codec/honestcodec/IllFormedSequence" "HEX_DIGITS" "[B" (.ref t_) := (pr_S_com_example_honest_codec_honestcodec_IllFormedSequence_HEX_DIGITS.wr W34)
    obtain ⟨T37, X37, e37, st37⟩ := getS2 X34 hx hZ hown (host := "") (Or.inl (hw _ (List.mem_of_getElem? (i := 6) rfl))) Via.refl e34 f36 (g := (mkF m 52 #[.val (.ref a_1), .val (.int (2 : Int32)), .val (.ref a_3), .val (.int p_4), .val (.int ((p_4 + (1 : Int32)) + (1 : Int32))), .val (.int (0 : Int32))] [(.int (p_4 + (1 : Int32))), (.ref a_3)])) rfl (hb hby own_d1_52)
    refine own_go (fun _ k => st37 _ k) ?_
    show own_Go _ _ _ _ T37 (mkF m 55 #[.val (.ref a_1), .val (.int (2 : Int32)), .val (.ref a_3), .val (.int p_4), .val (.int ((p_4 + (1 : Int32)) + (1 : Int32))), .val (.int (0 : Int32))] [(.ref t_), (.int (p_4 + (1 : Int32))), (.ref a_3)])
    refine own_go (fun _ k => XS.aloadN X37.here hx rfl (hb hby own_d1_55) rfl rfl k) ?_
    show own_Go _ _ _ _ T37 (mkF m 56 #[.val (.ref a_1), .val (.int (2 : Int32)), .val (.ref a_3), .val (.int p_4), .val (.int ((p_4 + (1 : Int32)) + (1 : Int32))), .val (.int (0 : Int32))] [(.ref a_1), (.ref t_), (.int (p_4 + (1 : Int32))), (.ref a_3)])
    refine own_go (fun _ k => XS.iload X37.here hx rfl (hb hby own_d1_56) rfl k) ?_
    show own_Go _ _ _ _ T37 (mkF m 58 #[.val (.ref a_1), .val (.int (2 : Int32)), .val (.ref a_3), .val (.int p_4), .val (.int ((p_4 + (1 : Int32)) + (1 : Int32))), .val (.int (0 : Int32))] [(.int (0 : Int32)), (.ref a_1), (.ref t_), (.int (p_4 + (1 : Int32))), (.ref a_3)])
    have f38 : own_AV Z h34 a_1 .byte (4 : Int32) gs := (pr_A_a_1.other W34 (own_ne (by omega)))
    obtain ⟨q39, c39, R39, s39, t39⟩ := id f38
    have hin39 : ¬ ((0 : Int32) < 0 ∨ c39.slots.size ≤ ((0 : Int32)).toNatClampNeg) := inb_of s39 ⟨by decide, by decide⟩
    have u39 : c39.slots[((0 : Int32)).toNatClampNeg]? = some (.int b0) := own_at (k := 0) t39 s39 hin39 (by decide) (hg0)
    refine own_go (fun _ k => X37.baloadBytes hx (j := (0 : Int32)) (v := (.int b0)) (by rw [e37]; exact R39.1) (State.isArrayOf_alike hZ.alike R39.2.1) R39.2.2 hin39 u39 (g := (mkF m 58 #[.val (.ref a_1), .val (.int (2 : Int32)), .val (.ref a_3), .val (.int p_4), .val (.int ((p_4 + (1 : Int32)) + (1 : Int32))), .val (.int (0 : Int32))] [(.int (0 : Int32)), (.ref a_1), (.ref t_), (.int (p_4 + (1 : Int32))), (.ref a_3)])) rfl rfl (hb hby own_d1_58) _ k) ?_
    show own_Go _ _ _ _ T37 (mkF m 59 #[.val (.ref a_1), .val (.int (2 : Int32)), .val (.ref a_3), .val (.int p_4), .val (.int ((p_4 + (1 : Int32)) + (1 : Int32))), .val (.int (0 : Int32))] [(.int b0), (.ref t_), (.int (p_4 + (1 : Int32))), (.ref a_3)])
    refine own_go (fun _ k => XS.bipush X37.here hx rfl (hb hby own_d1_59) k) ?_
    show own_Go _ _ _ _ T37 (mkF m 61 #[.val (.ref a_1), .val (.int (2 : Int32)), .val (.ref a_3), .val (.int p_4), .val (.int ((p_4 + (1 : Int32)) + (1 : Int32))), .val (.int (0 : Int32))] [(.int (15 : Int32)), (.int b0), (.ref t_), (.int (p_4 + (1 : Int32))), (.ref a_3)])
    refine own_go (fun _ k => XS.iand X37.here hx rfl (hb hby own_d1_61) rfl k) ?_
    show own_Go _ _ _ _ T37 (mkF m 62 #[.val (.ref a_1), .val (.int (2 : Int32)), .val (.ref a_3), .val (.int p_4), .val (.int ((p_4 + (1 : Int32)) + (1 : Int32))), .val (.int (0 : Int32))] [(.int (b0 &&& (15 : Int32))), (.ref t_), (.int (p_4 + (1 : Int32))), (.ref a_3)])
    have f40 : own_AV Z h34 t_ .byte (16 : Int32) (fun i => .int (own_hd i)) := (pr_A_t_.other W34 (own_ne (by omega)))
    obtain ⟨q41, c41, R41, s41, t41⟩ := id f40
    have hin41 : ¬ ((b0 &&& (15 : Int32)) < 0 ∨ c41.slots.size ≤ ((b0 &&& (15 : Int32))).toNatClampNeg) := inb_of s41 (own_t1_7 b0 )
    have u41 : c41.slots[((b0 &&& (15 : Int32))).toNatClampNeg]? = some (.int (own_hd ((b0 &&& (15 : Int32))).toNatClampNeg)) := own_at (k := ((b0 &&& (15 : Int32))).toNatClampNeg) t41 s41 hin41 rfl (rfl)
    refine own_go (fun _ k => X37.baloadBytes hx (j := (b0 &&& (15 : Int32))) (v := (.int (own_hd ((b0 &&& (15 : Int32))).toNatClampNeg))) (by rw [e37]; exact R41.1) (State.isArrayOf_alike hZ.alike R41.2.1) R41.2.2 hin41 u41 (g := (mkF m 62 #[.val (.ref a_1), .val (.int (2 : Int32)), .val (.ref a_3), .val (.int p_4), .val (.int ((p_4 + (1 : Int32)) + (1 : Int32))), .val (.int (0 : Int32))] [(.int (b0 &&& (15 : Int32))), (.ref t_), (.int (p_4 + (1 : Int32))), (.ref a_3)])) rfl rfl (hb hby own_d1_62) _ k) ?_
    show own_Go _ _ _ _ T37 (mkF m 63 #[.val (.ref a_1), .val (.int (2 : Int32)), .val (.ref a_3), .val (.int p_4), .val (.int ((p_4 + (1 : Int32)) + (1 : Int32))), .val (.int (0 : Int32))] [(.int (own_hd ((b0 &&& (15 : Int32))).toNatClampNeg)), (.int (p_4 + (1 : Int32))), (.ref a_3)])
    obtain ⟨q42, c42, R42, s42, t42⟩ := id V34
    have hin42 : ¬ ((p_4 + (1 : Int32)) < 0 ∨ c42.slots.size ≤ ((p_4 + (1 : Int32))).toNatClampNeg) := inb_of s42 (own_t1_8 p_4 hp)
    obtain ⟨T43, h43, X43, e43, W43, st43⟩ := stB X37 hx hZ e37 R42 (j := (p_4 + (1 : Int32))) hin42 (g := (mkF m 63 #[.val (.ref a_1), .val (.int (2 : Int32)), .val (.ref a_3), .val (.int p_4), .val (.int ((p_4 + (1 : Int32)) + (1 : Int32))), .val (.int (0 : Int32))] [(.int (own_hd ((b0 &&& (15 : Int32))).toNatClampNeg)), (.int (p_4 + (1 : Int32))), (.ref a_3)])) rfl rfl (hb hby own_d1_63)
    rw [own_nar_hd _] at W43
    have V43 : own_AV Z h43 a_3 .byte (16 : Int32) (own_upd (own_upd fa (p_4).toNatClampNeg (.int (own_hd (((b0 >>> ((4 : Int32) &&& 31)) &&& (15 : Int32))).toNatClampNeg))) ((p_4 + (1 : Int32))).toNatClampNeg (.int (own_hd ((b0 &&& (15 : Int32))).toNatClampNeg))) := own_AV.set (k := ((p_4 + (1 : Int32))).toNatClampNeg) V34 W43 rfl
    have z44 := W43.size
    have K43 : Keep h0 h43 [a_3] := K34.wr W43 (Or.inl (List.mem_of_getElem? (i := 0) rfl))
    have N43 := Fr.snoc X43 N34 (by omega : n0 ≤ a_3)
    refine own_go (fun _ k => st43 _ k) ?_
    show own_Go _ _ _ _ T43 (mkF m 64 #[.val (.ref a_1), .val (.int (2 : Int32)), .val (.ref a_3), .val (.int p_4), .val (.int ((p_4 + (1 : Int32)) + (1 : Int32))), .val (.int (0 : Int32))] [])
    refine own_go (fun _ k => XS.iinc X43.here hx rfl (hb hby own_d1_64) rfl (l' := #[.val (.ref a_1), .val (.int (2 : Int32)), .val (.ref a_3), .val (.int p_4), .val (.int ((p_4 + (1 : Int32)) + (1 : Int32))), .val (.int (1 : Int32))]) rfl k) ?_
    show own_Go _ _ _ _ T43 (mkF m 67 #[.val (.ref a_1), .val (.int (2 : Int32)), .val (.ref a_3), .val (.int p_4), .val (.int ((p_4 + (1 : Int32)) + (1 : Int32))), .val (.int (1 : Int32))] [])
    refine own_go (fun _ k => XS.goto X43.here hx rfl (pc0 := 67) (pc' := 6) rfl (hb hby own_d1_67) (by decide) (by decide) k) ?_
    show own_Go _ _ _ _ T43 (mkF m 6 #[.val (.ref a_1), .val (.int (2 : Int32)), .val (.ref a_3), .val (.int p_4), .val (.int ((p_4 + (1 : Int32)) + (1 : Int32))), .val (.int (1 : Int32))] [])
    refine own_go (fun _ k => XS.iload X43.here hx rfl (hb hby own_d1_6) rfl k) ?_
    show own_Go _ _ _ _ T43 (mkF m 8 #[.val (.ref a_1), .val (.int (2 : Int32)), .val (.ref a_3), .val (.int p_4), .val (.int ((p_4 + (1 : Int32)) + (1 : Int32))), .val (.int (1 : Int32))] [(.int (1 : Int32))])
    refine own_go (fun _ k => XS.iloadN X43.here hx rfl (hb hby own_d1_8) rfl k) ?_
    show own_Go _ _ _ _ T43 (mkF m 9 #[.val (.ref a_1), .val (.int (2 : Int32)), .val (.ref a_3), .val (.int p_4), .val (.int ((p_4 + (1 : Int32)) + (1 : Int32))), .val (.int (1 : Int32))] [(.int (2 : Int32)), (.int (1 : Int32))])
    have hc45 : (1 : Int32) < (2 : Int32) := by decide
    refine own_go (fun _ k => XS.icmpNo X43.here hx rfl (hb hby own_d1_9) rfl (Jvm.Free.XT.ii_ge_f hc45) k) ?_
    show own_Go _ _ _ _ T43 (mkF m 12 #[.val (.ref a_1), .val (.int (2 : Int32)), .val (.ref a_3), .val (.int p_4), .val (.int ((p_4 + (1 : Int32)) + (1 : Int32))), .val (.int (1 : Int32))] [])
    refine own_go (fun _ k => XS.iload X43.here hx rfl (hb hby own_d1_12) rfl k) ?_
    show own_Go _ _ _ _ T43 (mkF m 14 #[.val (.ref a_1), .val (.int (2 : Int32)), .val (.ref a_3), .val (.int p_4), .val (.int ((p_4 + (1 : Int32)) + (1 : Int32))), .val (.int (1 : Int32))] [(.int (1 : Int32))])
    have hc46 : 0 < (1 : Int32) := by decide
    refine own_go (fun _ k => XS.ifNo X43.here hx rfl (hb hby own_d1_14) rfl (Jvm.Free.XT.i0_le_f hc46) k) ?_
    show own_Go _ _ _ _ T43 (mkF m 17 #[.val (.ref a_1), .val (.int (2 : Int32)), .val (.ref a_3), .val (.int p_4), .val (.int ((p_4 + (1 : Int32)) + (1 : Int32))), .val (.int (1 : Int32))] [])
    refine own_go (fun _ k => XS.aloadN X43.here hx rfl (hb hby own_d1_17) rfl rfl k) ?_
    show own_Go _ _ _ _ T43 (mkF m 18 #[.val (.ref a_1), .val (.int (2 : Int32)), .val (.ref a_3), .val (.int p_4), .val (.int ((p_4 + (1 : Int32)) + (1 : Int32))), .val (.int (1 : Int32))] [(.ref a_3)])
    refine own_go (fun _ k => XS.iload X43.here hx rfl (hb hby own_d1_18) rfl k) ?_
    show own_Go _ _ _ _ T43 (mkF m 20 #[.val (.ref a_1), .val (.int (2 : Int32)), .val (.ref a_3), .val (.int p_4), .val (.int ((p_4 + (1 : Int32)) + (1 : Int32))), .val (.int (1 : Int32))] [(.int ((p_4 + (1 : Int32)) + (1 : Int32))), (.ref a_3)])
    refine own_go (fun _ k => XS.iinc X43.here hx rfl (hb hby own_d1_20) rfl (l' := #[.val (.ref a_1), .val (.int (2 : Int32)), .val (.ref a_3), .val (.int p_4), .val (.int (((p_4 + (1 : Int32)) + (1 : Int32)) + (1 : Int32))), .val (.int (1 : Int32))]) rfl k) ?_
    show own_Go _ _ _ _ T43 (mkF m 23 #[.val (.ref a_1), .val (.int (2 : Int32)), .val (.ref a_3), .val (.int p_4), .val (.int (((p_4 + (1 : Int32)) + (1 : Int32)) + (1 : Int32))), .val (.int (1 : Int32))] [(.int ((p_4 + (1 : Int32)) + (1 : Int32))), (.ref a_3)])
    refine own_go (fun _ k => XS.bipush X43.here hx rfl (hb hby own_d1_23) k) ?_
    show own_Go _ _ _ _ T43 (mkF m 25 #[.val (.ref a_1), .val (.int (2 : Int32)), .val (.ref a_3), .val (.int p_4), .val (.int (((p_4 + (1 : Int32)) + (1 : Int32)) + (1 : Int32))), .val (.int (1 : Int32))] [(.int (32 : Int32)), (.int ((p_4 + (1 : Int32)) + (1 : Int32))), (.ref a_3)])
    obtain ⟨q47, c47, R47, s47, t47⟩ := id V43
    have hin47 : ¬ (((p_4 + (1 : Int32)) + (1 : Int32)) < 0 ∨ c47.slots.size ≤ (((p_4 + (1 : Int32)) + (1 : Int32))).toNatClampNeg) := inb_of s47 (own_t1_9 p_4 hp)
    obtain ⟨T48, h48, X48, e48, W48, st48⟩ := stB X43 hx hZ e43 R47 (j := ((p_4 + (1 : Int32)) + (1 : Int32))) hin47 (g := (mkF m 25 #[.val (.ref a_1), .val (.int (2 : Int32)), .val (.ref a_3), .val (.int p_4), .val (.int (((p_4 + (1 : Int32)) + (1 : Int32)) + (1 : Int32))), .val (.int (1 : Int32))] [(.int (32 : Int32)), (.int ((p_4 + (1 : Int32)) + (1 : Int32))), (.ref a_3)])) rfl rfl (hb hby own_d1_25)
    have V48 : own_AV Z h48 a_3 .byte (16 : Int32) (own_upd (own_upd (own_upd fa (p_4).toNatClampNeg (.int (own_hd (((b0 >>> ((4 : Int32) &&& 31)) &&& (15 : Int32))).toNatClampNeg))) ((p_4 + (1 : Int32))).toNatClampNeg (.int (own_hd ((b0 &&& (15 : Int32))).toNatClampNeg))) (((p_4 + (1 : Int32)) + (1 : Int32))).toNatClampNeg (.int (32 : Int32))) := own_AV.set (k := (((p_4 + (1 : Int32)) + (1 : Int32))).toNatClampNeg) V43 W48 rfl
    have z49 := W48.size
    have K48 : Keep h0 h48 [a_3] := K43.wr W48 (Or.inl (List.mem_of_getElem? (i := 0) rfl))
    have N48 := Fr.snoc X48 N43 (by omega : n0 ≤ a_3)
    refine own_go (fun _ k => st48 _ k) ?_
    show own_Go _ _ _ _ T48 (mkF m 26 #[.val (.ref a_1), .val (.int (2 : Int32)), .val (.ref a_3), .val (.int p_4), .val (.int (((p_4 + (1 : Int32)) + (1 : Int32)) + (1 : Int32))), .val (.int (1 : Int32))] [])
    refine own_go (fun _ k => XS.aloadN X48.here hx rfl (hb hby own_d1_26) rfl rfl k) ?_
    show own_Go _ _ _ _ T48 (mkF m 27 #[.val (.ref a_1), .val (.int (2 : Int32)), .val (.ref a_3), .val (.int p_4), .val (.int (((p_4 + (1 : Int32)) + (1 : Int32)) + (1 : Int32))), .val (.int (1 : Int32))] [(.ref a_3)])
    refine own_go (fun _ k => XS.iload X48.here hx rfl (hb hby own_d1_27) rfl k) ?_
    show own_Go _ _ _ _ T48 (mkF m 29 #[.val (.ref a_1), .val (.int (2 : Int32)), .val (.ref a_3), .val (.int p_4), .val (.int (((p_4 + (1 : Int32)) + (1 : Int32)) + (1 : Int32))), .val (.int (1 : Int32))] [(.int (((p_4 + (1 : Int32)) + (1 : Int32)) + (1 : Int32))), (.ref a_3)])
    refine own_go (fun _ k => XS.iinc X48.here hx rfl (hb hby own_d1_29) rfl (l' := #[.val (.ref a_1), .val (.int (2 : Int32)), .val (.ref a_3), .val (.int p_4), .val (.int ((((p_4 + (1 : Int32)) + (1 : Int32)) + (1 : Int32)) + (1 : Int32))), .val (.int (1 : Int32))]) rfl k) ?_
    show own_Go _ _ _ _ T48 (mkF m 32 #[.val (.ref a_1), .val (.int (2 : Int32)), .val (.ref a_3), .val (.int p_4), .val (.int ((((p_4 + (1 : Int32)) + (1 : Int32)) + (1 : Int32)) + (1 : Int32))), .val (.int (1 : Int32))] [(.int (((p_4 + (1 : Int32)) + (1 : Int32)) + (1 : Int32))), (.ref a_3)])
    have f50 : Sta Z h48 "com/example/honest_codec/honestcodec/IllFormedSequence" "HEX_DIGITS" "[B" (.ref t_) := ((f36.wr W43).wr W48)
    obtain ⟨T51, X51, e51, st51⟩ := getS2 X48 hx hZ hown (host := "") (Or.inl (hw _ (List.mem_of_getElem? (i := 6) rfl))) Via.refl e48 f50 (g := (mkF m 32 #[.val (.ref a_1), .val (.int (2 : Int32)), .val (.ref a_3), .val (.int p_4), .val (.int ((((p_4 + (1 : Int32)) + (1 : Int32)) + (1 : Int32)) + (1 : Int32))), .val (.int (1 : Int32))] [(.int (((p_4 + (1 : Int32)) + (1 : Int32)) + (1 : Int32))), (.ref a_3)])) rfl (hb hby own_d1_32)
    refine own_go (fun _ k => st51 _ k) ?_
    show own_Go _ _ _ _ T51 (mkF m 35 #[.val (.ref a_1), .val (.int (2 : Int32)), .val (.ref a_3), .val (.int p_4), .val (.int ((((p_4 + (1 : Int32)) + (1 : Int32)) + (1 : Int32)) + (1 : Int32))), .val (.int (1 : Int32))] [(.ref t_), (.int (((p_4 + (1 : Int32)) + (1 : Int32)) + (1 : Int32))), (.ref a_3)])
    refine own_go (fun _ k => XS.aloadN X51.here hx rfl (hb hby own_d1_35) rfl rfl k) ?_
    show own_Go _ _ _ _ T51 (mkF m 36 #[.val (.ref a_1), .val (.int (2 : Int32)), .val (.ref a_3), .val (.int p_4), .val (.int ((((p_4 + (1 : Int32)) + (1 : Int32)) + (1 : Int32)) + (1 : Int32))), .val (.int (1 : Int32))] [(.ref a_1), (.ref t_), (.int (((p_4 + (1 : Int32)) + (1 : Int32)) + (1 : Int32))), (.ref a_3)])
    refine own_go (fun _ k => XS.iload X51.here hx rfl (hb hby own_d1_36) rfl k) ?_
    show own_Go _ _ _ _ T51 (mkF m 38 #[.val (.ref a_1), .val (.int (2 : Int32)), .val (.ref a_3), .val (.int p_4), .val (.int ((((p_4 + (1 : Int32)) + (1 : Int32)) + (1 : Int32)) + (1 : Int32))), .val (.int (1 : Int32))] [(.int (1 : Int32)), (.ref a_1), (.ref t_), (.int (((p_4 + (1 : Int32)) + (1 : Int32)) + (1 : Int32))), (.ref a_3)])
    have f52 : own_AV Z h48 a_1 .byte (4 : Int32) gs := ((f38.other W43 (own_ne (by omega))).other W48 (own_ne (by omega)))
    obtain ⟨q53, c53, R53, s53, t53⟩ := id f52
    have hin53 : ¬ ((1 : Int32) < 0 ∨ c53.slots.size ≤ ((1 : Int32)).toNatClampNeg) := inb_of s53 ⟨by decide, by decide⟩
    have u53 : c53.slots[((1 : Int32)).toNatClampNeg]? = some (.int b1) := own_at (k := 1) t53 s53 hin53 (by decide) (hg1)
    refine own_go (fun _ k => X51.baloadBytes hx (j := (1 : Int32)) (v := (.int b1)) (by rw [e51]; exact R53.1) (State.isArrayOf_alike hZ.alike R53.2.1) R53.2.2 hin53 u53 (g := (mkF m 38 #[.val (.ref a_1), .val (.int (2 : Int32)), .val (.ref a_3), .val (.int p_4), .val (.int ((((p_4 + (1 : Int32)) + (1 : Int32)) + (1 : Int32)) + (1 : Int32))), .val (.int (1 : Int32))] [(.int (1 : Int32)), (.ref a_1), (.ref t_), (.int (((p_4 + (1 : Int32)) + (1 : Int32)) + (1 : Int32))), (.ref a_3)])) rfl rfl (hb hby own_d1_38) _ k) ?_
    show own_Go _ _ _ _ T51 (mkF m 39 #[.val (.ref a_1), .val (.int (2 : Int32)), .val (.ref a_3), .val (.int p_4), .val (.int ((((p_4 + (1 : Int32)) + (1 : Int32)) + (1 : Int32)) + (1 : Int32))), .val (.int (1 : Int32))] [(.int b1), (.ref t_), (.int (((p_4 + (1 : Int32)) + (1 : Int32)) + (1 : Int32))), (.ref a_3)])
    refine own_go (fun _ k => XS.iconst X51.here hx rfl (hb hby own_d1_39) k) ?_
    show own_Go _ _ _ _ T51 (mkF m 40 #[.val (.ref a_1), .val (.int (2 : Int32)), .val (.ref a_3), .val (.int p_4), .val (.int ((((p_4 + (1 : Int32)) + (1 : Int32)) + (1 : Int32)) + (1 : Int32))), .val (.int (1 : Int32))] [(.int (4 : Int32)), (.int b1), (.ref t_), (.int (((p_4 + (1 : Int32)) + (1 : Int32)) + (1 : Int32))), (.ref a_3)])
    refine own_go (fun _ k => XS.ishr X51.here hx rfl (hb hby own_d1_40) rfl k) ?_
    show own_Go _ _ _ _ T51 (mkF m 41 #[.val (.ref a_1), .val (.int (2 : Int32)), .val (.ref a_3), .val (.int p_4), .val (.int ((((p_4 + (1 : Int32)) + (1 : Int32)) + (1 : Int32)) + (1 : Int32))), .val (.int (1 : Int32))] [(.int (b1 >>> ((4 : Int32) &&& 31))), (.ref t_), (.int (((p_4 + (1 : Int32)) + (1 : Int32)) + (1 : Int32))), (.ref a_3)])
    refine own_go (fun _ k => XS.bipush X51.here hx rfl (hb hby own_d1_41) k) ?_
    show own_Go _ _ _ _ T51 (mkF m 43 #[.val (.ref a_1), .val (.int (2 : Int32)), .val (.ref a_3), .val (.int p_4), .val (.int ((((p_4 + (1 : Int32)) + (1 : Int32)) + (1 : Int32)) + (1 : Int32))), .val (.int (1 : Int32))] [(.int (15 : Int32)), (.int (b1 >>> ((4 : Int32) &&& 31))), (.ref t_), (.int (((p_4 + (1 : Int32)) + (1 : Int32)) + (1 : Int32))), (.ref a_3)])
    refine own_go (fun _ k => XS.iand X51.here hx rfl (hb hby own_d1_43) rfl k) ?_
    show own_Go _ _ _ _ T51 (mkF m 44 #[.val (.ref a_1), .val (.int (2 : Int32)), .val (.ref a_3), .val (.int p_4), .val (.int ((((p_4 + (1 : Int32)) + (1 : Int32)) + (1 : Int32)) + (1 : Int32))), .val (.int (1 : Int32))] [(.int ((b1 >>> ((4 : Int32) &&& 31)) &&& (15 : Int32))), (.ref t_), (.int (((p_4 + (1 : Int32)) + (1 : Int32)) + (1 : Int32))), (.ref a_3)])
    have f54 : own_AV Z h48 t_ .byte (16 : Int32) (fun i => .int (own_hd i)) := ((f40.other W43 (own_ne (by omega))).other W48 (own_ne (by omega)))
    obtain ⟨q55, c55, R55, s55, t55⟩ := id f54
    have hin55 : ¬ (((b1 >>> ((4 : Int32) &&& 31)) &&& (15 : Int32)) < 0 ∨ c55.slots.size ≤ (((b1 >>> ((4 : Int32) &&& 31)) &&& (15 : Int32))).toNatClampNeg) := inb_of s55 (own_t1_10 b1 )
    have u55 : c55.slots[(((b1 >>> ((4 : Int32) &&& 31)) &&& (15 : Int32))).toNatClampNeg]? = some (.int (own_hd (((b1 >>> ((4 : Int32) &&& 31)) &&& (15 : Int32))).toNatClampNeg)) := own_at (k := (((b1 >>> ((4 : Int32) &&& 31)) &&& (15 : Int32))).toNatClampNeg) t55 s55 hin55 rfl (rfl)
    refine own_go (fun _ k => X51.baloadBytes hx (j := ((b1 >>> ((4 : Int32) &&& 31)) &&& (15 : Int32))) (v := (.int (own_hd (((b1 >>> ((4 : Int32) &&& 31)) &&& (15 : Int32))).toNatClampNeg))) (by rw [e51]; exact R55.1) (State.isArrayOf_alike hZ.alike R55.2.1) R55.2.2 hin55 u55 (g := (mkF m 44 #[.val (.ref a_1), .val (.int (2 : Int32)), .val (.ref a_3), .val (.int p_4), .val (.int ((((p_4 + (1 : Int32)) + (1 : Int32)) + (1 : Int32)) + (1 : Int32))), .val (.int (1 : Int32))] [(.int ((b1 >>> ((4 : Int32) &&& 31)) &&& (15 : Int32))), (.ref t_), (.int (((p_4 + (1 : Int32)) + (1 : Int32)) + (1 : Int32))), (.ref a_3)])) rfl rfl (hb hby own_d1_44) _ k) ?_
    show own_Go _ _ _ _ T51 (mkF m 45 #[.val (.ref a_1), .val (.int (2 : Int32)), .val (.ref a_3), .val (.int p_4), .val (.int ((((p_4 + (1 : Int32)) + (1 : Int32)) + (1 : Int32)) + (1 : Int32))), .val (.int (1 : Int32))] [(.int (own_hd (((b1 >>> ((4 : Int32) &&& 31)) &&& (15 : Int32))).toNatClampNeg)), (.int (((p_4 + (1 : Int32)) + (1 : Int32)) + (1 : Int32))), (.ref a_3)])
    obtain ⟨q56, c56, R56, s56, t56⟩ := id V48
    have hin56 : ¬ ((((p_4 + (1 : Int32)) + (1 : Int32)) + (1 : Int32)) < 0 ∨ c56.slots.size ≤ ((((p_4 + (1 : Int32)) + (1 : Int32)) + (1 : Int32))).toNatClampNeg) := inb_of s56 (own_t1_11 p_4 hp)
    obtain ⟨T57, h57, X57, e57, W57, st57⟩ := stB X51 hx hZ e51 R56 (j := (((p_4 + (1 : Int32)) + (1 : Int32)) + (1 : Int32))) hin56 (g := (mkF m 45 #[.val (.ref a_1), .val (.int (2 : Int32)), .val (.ref a_3), .val (.int p_4), .val (.int ((((p_4 + (1 : Int32)) + (1 : Int32)) + (1 : Int32)) + (1 : Int32))), .val (.int (1 : Int32))] [(.int (own_hd (((b1 >>> ((4 : Int32) &&& 31)) &&& (15 : Int32))).toNatClampNeg)), (.int (((p_4 + (1 : Int32)) + (1 : Int32)) + (1 : Int32))), (.ref a_3)])) rfl rfl (hb hby own_d1_45)
    rw [own_nar_hd _] at W57
    have V57 : own_AV Z h57 a_3 .byte (16 : Int32) (own_upd (own_upd (own_upd (own_upd fa (p_4).toNatClampNeg (.int (own_hd (((b0 >>> ((4 : Int32) &&& 31)) &&& (15 : Int32))).toNatClampNeg))) ((p_4 + (1 : Int32))).toNatClampNeg (.int (own_hd ((b0 &&& (15 : Int32))).toNatClampNeg))) (((p_4 + (1 : Int32)) + (1 : Int32))).toNatClampNeg (.int (32 : Int32))) ((((p_4 + (1 : Int32)) + (1 : Int32)) + (1 : Int32))).toNatClampNeg (.int (own_hd (((b1 >>> ((4 : Int32) &&& 31)) &&& (15 : Int32))).toNatClampNeg))) := own_AV.set (k := ((((p_4 + (1 : Int32)) + (1 : Int32)) + (1 : Int32))).toNatClampNeg) V48 W57 rfl
    have z58 := W57.size
    have K57 : Keep h0 h57 [a_3] := K48.wr W57 (Or.inl (List.mem_of_getElem? (i := 0) rfl))
    have N57 := Fr.snoc X57 N48 (by omega : n0 ≤ a_3)
    refine own_go (fun _ k => st57 _ k) ?_
    show own_Go _ _ _ _ T57 (mkF m 46 #[.val (.ref a_1), .val (.int (2 : Int32)), .val (.ref a_3), .val (.int p_4), .val (.int ((((p_4 + (1 : Int32)) + (1 : Int32)) + (1 : Int32)) + (1 : Int32))), .val (.int (1 : Int32))] [])
    refine own_go (fun _ k => XS.aloadN X57.here hx rfl (hb hby own_d1_46) rfl rfl k) ?_
    show own_Go _ _ _ _ T57 (mkF m 47 #[.val (.ref a_1), .val (.int (2 : Int32)), .val (.ref a_3), .val (.int p_4), .val (.int ((((p_4 + (1 : Int32)) + (1 : Int32)) + (1 : Int32)) + (1 : Int32))), .val (.int (1 : Int32))] [(.ref a_3)])
    refine own_go (fun _ k => XS.iload X57.here hx rfl (hb hby own_d1_47) rfl k) ?_
    show own_Go _ _ _ _ T57 (mkF m 49 #[.val (.ref a_1), .val (.int (2 : Int32)), .val (.ref a_3), .val (.int p_4), .val (.int ((((p_4 + (1 : Int32)) + (1 : Int32)) + (1 : Int32)) + (1 : Int32))), .val (.int (1 : Int32))] [(.int ((((p_4 + (1 : Int32)) + (1 : Int32)) + (1 : Int32)) + (1 : Int32))), (.ref a_3)])
    refine own_go (fun _ k => XS.iinc X57.here hx rfl (hb hby own_d1_49) rfl (l' := #[.val (.ref a_1), .val (.int (2 : Int32)), .val (.ref a_3), .val (.int p_4), .val (.int (((((p_4 + (1 : Int32)) + (1 : Int32)) + (1 : Int32)) + (1 : Int32)) + (1 : Int32))), .val (.int (1 : Int32))]) rfl k) ?_
    show own_Go _ _ _ _ T57 (mkF m 52 #[.val (.ref a_1), .val (.int (2 : Int32)), .val (.ref a_3), .val (.int p_4), .val (.int (((((p_4 + (1 : Int32)) + (1 : Int32)) + (1 : Int32)) + (1 : Int32)) + (1 : Int32))), .val (.int (1 : Int32))] [(.int ((((p_4 + (1 : Int32)) + (1 : Int32)) + (1 : Int32)) + (1 : Int32))), (.ref a_3)])
    have f59 : Sta Z h57 "com/example/honest_codec/honestcodec/IllFormedSequence" "HEX_DIGITS" "[B" (.ref t_) := (f50.wr W57)
    obtain ⟨T60, X60, e60, st60⟩ := getS2 X57 hx hZ hown (host := "") (Or.inl (hw _ (List.mem_of_getElem? (i := 6) rfl))) Via.refl e57 f59 (g := (mkF m 52 #[.val (.ref a_1), .val (.int (2 : Int32)), .val (.ref a_3), .val (.int p_4), .val (.int (((((p_4 + (1 : Int32)) + (1 : Int32)) + (1 : Int32)) + (1 : Int32)) + (1 : Int32))), .val (.int (1 : Int32))] [(.int ((((p_4 + (1 : Int32)) + (1 : Int32)) + (1 : Int32)) + (1 : Int32))), (.ref a_3)])) rfl (hb hby own_d1_52)
    refine own_go (fun _ k => st60 _ k) ?_
    show own_Go _ _ _ _ T60 (mkF m 55 #[.val (.ref a_1), .val (.int (2 : Int32)), .val (.ref a_3), .val (.int p_4), .val (.int (((((p_4 + (1 : Int32)) + (1 : Int32)) + (1 : Int32)) + (1 : Int32)) + (1 : Int32))), .val (.int (1 : Int32))] [(.ref t_), (.int ((((p_4 + (1 : Int32)) + (1 : Int32)) + (1 : Int32)) + (1 : Int32))), (.ref a_3)])
    refine own_go (fun _ k => XS.aloadN X60.here hx rfl (hb hby own_d1_55) rfl rfl k) ?_
    show own_Go _ _ _ _ T60 (mkF m 56 #[.val (.ref a_1), .val (.int (2 : Int32)), .val (.ref a_3), .val (.int p_4), .val (.int (((((p_4 + (1 : Int32)) + (1 : Int32)) + (1 : Int32)) + (1 : Int32)) + (1 : Int32))), .val (.int (1 : Int32))] [(.ref a_1), (.ref t_), (.int ((((p_4 + (1 : Int32)) + (1 : Int32)) + (1 : Int32)) + (1 : Int32))), (.ref a_3)])
    refine own_go (fun _ k => XS.iload X60.here hx rfl (hb hby own_d1_56) rfl k) ?_
    show own_Go _ _ _ _ T60 (mkF m 58 #[.val (.ref a_1), .val (.int (2 : Int32)), .val (.ref a_3), .val (.int p_4), .val (.int (((((p_4 + (1 : Int32)) + (1 : Int32)) + (1 : Int32)) + (1 : Int32)) + (1 : Int32))), .val (.int (1 : Int32))] [(.int (1 : Int32)), (.ref a_1), (.ref t_), (.int ((((p_4 + (1 : Int32)) + (1 : Int32)) + (1 : Int32)) + (1 : Int32))), (.ref a_3)])
    have f61 : own_AV Z h57 a_1 .byte (4 : Int32) gs := (f52.other W57 (own_ne (by omega)))
    obtain ⟨q62, c62, R62, s62, t62⟩ := id f61
    have hin62 : ¬ ((1 : Int32) < 0 ∨ c62.slots.size ≤ ((1 : Int32)).toNatClampNeg) := inb_of s62 ⟨by decide, by decide⟩
    have u62 : c62.slots[((1 : Int32)).toNatClampNeg]? = some (.int b1) := own_at (k := 1) t62 s62 hin62 (by decide) (hg1)
    refine own_go (fun _ k => X60.baloadBytes hx (j := (1 : Int32)) (v := (.int b1)) (by rw [e60]; exact R62.1) (State.isArrayOf_alike hZ.alike R62.2.1) R62.2.2 hin62 u62 (g := (mkF m 58 #[.val (.ref a_1), .val (.int (2 : Int32)), .val (.ref a_3), .val (.int p_4), .val (.int (((((p_4 + (1 : Int32)) + (1 : Int32)) + (1 : Int32)) + (1 : Int32)) + (1 : Int32))), .val (.int (1 : Int32))] [(.int (1 : Int32)), (.ref a_1), (.ref t_), (.int ((((p_4 + (1 : Int32)) + (1 : Int32)) + (1 : Int32)) + (1 : Int32))), (.ref a_3)])) rfl rfl (hb hby own_d1_58) _ k) ?_
    show own_Go _ _ _ _ T60 (mkF m 59 #[.val (.ref a_1), .val (.int (2 : Int32)), .val (.ref a_3), .val (.int p_4), .val (.int (((((p_4 + (1 : Int32)) + (1 : Int32)) + (1 : Int32)) + (1 : Int32)) + (1 : Int32))), .val (.int (1 : Int32))] [(.int b1), (.ref t_), (.int ((((p_4 + (1 : Int32)) + (1 : Int32)) + (1 : Int32)) + (1 : Int32))), (.ref a_3)])
    refine own_go (fun _ k => XS.bipush X60.here hx rfl (hb hby own_d1_59) k) ?_
    show own_Go _ _ _ _ T60 (mkF m 61 #[.val (.ref a_1), .val (.int (2 : Int32)), .val (.ref a_3), .val (.int p_4), .val (.int (((((p_4 + (1 : Int32)) + (1 : Int32)) + (1 : Int32)) + (1 : Int32)) + (1 : Int32))), .val (.int (1 : Int32))] [(.int (15 : Int32)), (.int b1), (.ref t_), (.int ((((p_4 + (1 : Int32)) + (1 : Int32)) + (1 : Int32)) + (1 : Int32))), (.ref a_3)])
    refine own_go (fun _ k => XS.iand X60.here hx rfl (hb hby own_d1_61) rfl k) ?_
    show own_Go _ _ _ _ T60 (mkF m 62 #[.val (.ref a_1), .val (.int (2 : Int32)), .val (.ref a_3), .val (.int p_4), .val (.int (((((p_4 + (1 : Int32)) + (1 : Int32)) + (1 : Int32)) + (1 : Int32)) + (1 : Int32))), .val (.int (1 : Int32))] [(.int (b1 &&& (15 : Int32))), (.ref t_), (.int ((((p_4 + (1 : Int32)) + (1 : Int32)) + (1 : Int32)) + (1 : Int32))), (.ref a_3)])
    have f63 : own_AV Z h57 t_ .byte (16 : Int32) (fun i => .int (own_hd i)) := (f54.other W57 (own_ne (by omega)))
    obtain ⟨q64, c64, R64, s64, t64⟩ := id f63
    have hin64 : ¬ ((b1 &&& (15 : Int32)) < 0 ∨ c64.slots.size ≤ ((b1 &&& (15 : Int32))).toNatClampNeg) := inb_of s64 (own_t1_12 b1 )
    have u64 : c64.slots[((b1 &&& (15 : Int32))).toNatClampNeg]? = some (.int (own_hd ((b1 &&& (15 : Int32))).toNatClampNeg)) := own_at (k := ((b1 &&& (15 : Int32))).toNatClampNeg) t64 s64 hin64 rfl (rfl)
    refine own_go (fun _ k => X60.baloadBytes hx (j := (b1 &&& (15 : Int32))) (v := (.int (own_hd ((b1 &&& (15 : Int32))).toNatClampNeg))) (by rw [e60]; exact R64.1) (State.isArrayOf_alike hZ.alike R64.2.1) R64.2.2 hin64 u64 (g := (mkF m 62 #[.val (.ref a_1), .val (.int (2 : Int32)), .val (.ref a_3), .val (.int p_4), .val (.int (((((p_4 + (1 : Int32)) + (1 : Int32)) + (1 : Int32)) + (1 : Int32)) + (1 : Int32))), .val (.int (1 : Int32))] [(.int (b1 &&& (15 : Int32))), (.ref t_), (.int ((((p_4 + (1 : Int32)) + (1 : Int32)) + (1 : Int32)) + (1 : Int32))), (.ref a_3)])) rfl rfl (hb hby own_d1_62) _ k) ?_
    show own_Go _ _ _ _ T60 (mkF m 63 #[.val (.ref a_1), .val (.int (2 : Int32)), .val (.ref a_3), .val (.int p_4), .val (.int (((((p_4 + (1 : Int32)) + (1 : Int32)) + (1 : Int32)) + (1 : Int32)) + (1 : Int32))), .val (.int (1 : Int32))] [(.int (own_hd ((b1 &&& (15 : Int32))).toNatClampNeg)), (.int ((((p_4 + (1 : Int32)) + (1 : Int32)) + (1 : Int32)) + (1 : Int32))), (.ref a_3)])
    obtain ⟨q65, c65, R65, s65, t65⟩ := id V57
    have hin65 : ¬ (((((p_4 + (1 : Int32)) + (1 : Int32)) + (1 : Int32)) + (1 : Int32)) < 0 ∨ c65.slots.size ≤ (((((p_4 + (1 : Int32)) + (1 : Int32)) + (1 : Int32)) + (1 : Int32))).toNatClampNeg) := inb_of s65 (own_t1_13 p_4 hp)
    obtain ⟨T66, h66, X66, e66, W66, st66⟩ := stB X60 hx hZ e60 R65 (j := ((((p_4 + (1 : Int32)) + (1 : Int32)) + (1 : Int32)) + (1 : Int32))) hin65 (g := (mkF m 63 #[.val (.ref a_1), .val (.int (2 : Int32)), .val (.ref a_3), .val (.int p_4), .val (.int (((((p_4 + (1 : Int32)) + (1 : Int32)) + (1 : Int32)) + (1 : Int32)) + (1 : Int32))), .val (.int (1 : Int32))] [(.int (own_hd ((b1 &&& (15 : Int32))).toNatClampNeg)), (.int ((((p_4 + (1 : Int32)) + (1 : Int32)) + (1 : Int32)) + (1 : Int32))), (.ref a_3)])) rfl rfl (hb hby own_d1_63)
    rw [own_nar_hd _] at W66
    have V66 : own_AV Z h66 a_3 .byte (16 : Int32) (own_upd (own_upd (own_upd (own_upd (own_upd fa (p_4).toNatClampNeg (.int (own_hd (((b0 >>> ((4 : Int32) &&& 31)) &&& (15 : Int32))).toNatClampNeg))) ((p_4 + (1 : Int32))).toNatClampNeg (.int (own_hd ((b0 &&& (15 : Int32))).toNatClampNeg))) (((p_4 + (1 : Int32)) + (1 : Int32))).toNatClampNeg (.int (32 : Int32))) ((((p_4 + (1 : Int32)) + (1 : Int32)) + (1 : Int32))).toNatClampNeg (.int (own_hd (((b1 >>> ((4 : Int32) &&& 31)) &&& (15 : Int32))).toNatClampNeg))) (((((p_4 + (1 : Int32)) + (1 : Int32)) + (1 : Int32)) + (1 : Int32))).toNatClampNeg (.int (own_hd ((b1 &&& (15 : Int32))).toNatClampNeg))) := own_AV.set (k := (((((p_4 + (1 : Int32)) + (1 : Int32)) + (1 : Int32)) + (1 : Int32))).toNatClampNeg) V57 W66 rfl
    have z67 := W66.size
    have K66 : Keep h0 h66 [a_3] := K57.wr W66 (Or.inl (List.mem_of_getElem? (i := 0) rfl))
    have N66 := Fr.snoc X66 N57 (by omega : n0 ≤ a_3)
    refine own_go (fun _ k => st66 _ k) ?_
    show own_Go _ _ _ _ T66 (mkF m 64 #[.val (.ref a_1), .val (.int (2 : Int32)), .val (.ref a_3), .val (.int p_4), .val (.int (((((p_4 + (1 : Int32)) + (1 : Int32)) + (1 : Int32)) + (1 : Int32)) + (1 : Int32))), .val (.int (1 : Int32))] [])
    refine own_go (fun _ k => XS.iinc X66.here hx rfl (hb hby own_d1_64) rfl (l' := #[.val (.ref a_1), .val (.int (2 : Int32)), .val (.ref a_3), .val (.int p_4), .val (.int (((((p_4 + (1 : Int32)) + (1 : Int32)) + (1 : Int32)) + (1 : Int32)) + (1 : Int32))), .val (.int (2 : Int32))]) rfl k) ?_
    show own_Go _ _ _ _ T66 (mkF m 67 #[.val (.ref a_1), .val (.int (2 : Int32)), .val (.ref a_3), .val (.int p_4), .val (.int (((((p_4 + (1 : Int32)) + (1 : Int32)) + (1 : Int32)) + (1 : Int32)) + (1 : Int32))), .val (.int (2 : Int32))] [])
    refine own_go (fun _ k => XS.goto X66.here hx rfl (pc0 := 67) (pc' := 6) rfl (hb hby own_d1_67) (by decide) (by decide) k) ?_
    show own_Go _ _ _ _ T66 (mkF m 6 #[.val (.ref a_1), .val (.int (2 : Int32)), .val (.ref a_3), .val (.int p_4), .val (.int (((((p_4 + (1 : Int32)) + (1 : Int32)) + (1 : Int32)) + (1 : Int32)) + (1 : Int32))), .val (.int (2 : Int32))] [])
    refine own_go (fun _ k => XS.iload X66.here hx rfl (hb hby own_d1_6) rfl k) ?_
    show own_Go _ _ _ _ T66 (mkF m 8 #[.val (.ref a_1), .val (.int (2 : Int32)), .val (.ref a_3), .val (.int p_4), .val (.int (((((p_4 + (1 : Int32)) + (1 : Int32)) + (1 : Int32)) + (1 : Int32)) + (1 : Int32))), .val (.int (2 : Int32))] [(.int (2 : Int32))])
    refine own_go (fun _ k => XS.iloadN X66.here hx rfl (hb hby own_d1_8) rfl k) ?_
    show own_Go _ _ _ _ T66 (mkF m 9 #[.val (.ref a_1), .val (.int (2 : Int32)), .val (.ref a_3), .val (.int p_4), .val (.int (((((p_4 + (1 : Int32)) + (1 : Int32)) + (1 : Int32)) + (1 : Int32)) + (1 : Int32))), .val (.int (2 : Int32))] [(.int (2 : Int32)), (.int (2 : Int32))])
    have hc68 : ¬ ((2 : Int32) < (2 : Int32)) := by decide
    refine own_go (fun _ k => XS.icmpYes X66.here hx rfl (pc0 := 9) (pc' := 70) rfl (hb hby own_d1_9) rfl (Jvm.Free.XT.ii_ge_t hc68) (by decide) (by decide) k) ?_
    show own_Go _ _ _ _ T66 (mkF m 70 #[.val (.ref a_1), .val (.int (2 : Int32)), .val (.ref a_3), .val (.int p_4), .val (.int (((((p_4 + (1 : Int32)) + (1 : Int32)) + (1 : Int32)) + (1 : Int32)) + (1 : Int32))), .val (.int (2 : Int32))] [])
    refine own_go (fun _ k => XS.iload X66.here hx rfl (hb hby own_d1_70) rfl k) ?_
    show own_Go _ _ _ _ T66 (mkF m 72 #[.val (.ref a_1), .val (.int (2 : Int32)), .val (.ref a_3), .val (.int p_4), .val (.int (((((p_4 + (1 : Int32)) + (1 : Int32)) + (1 : Int32)) + (1 : Int32)) + (1 : Int32))), .val (.int (2 : Int32))] [(.int (((((p_4 + (1 : Int32)) + (1 : Int32)) + (1 : Int32)) + (1 : Int32)) + (1 : Int32)))])
    obtain ⟨fs, hr, hrun, hended, hW, hsame⟩ := X66.leave (v := some (.int (((((p_4 + (1 : Int32)) + (1 : Int32)) + (1 : Int32)) + (1 : Int32)) + (1 : Int32)))) (fun h => by rw [Bd.returns] at h; cases h)
    refine ⟨_, _, retOut X66 hx Bd.returns rfl (Or.inl ⟨rfl, Or.inl rfl, _, rfl⟩) (hb hby own_d1_72) hr, hrun, hended, _, _, rfl, ?_, ⟨_, rfl⟩, hW, hsame.mono (by decide) (by decide)⟩
    show own_Q1 Z a_1 (2 : Int32) a_3 p_4 t_ gs fa b0 b1 b2 b3 h0 n0 _ T66.heap _
    rw [e66]
    exact ⟨_, rfl, N66, rfl, K66, V66⟩
  · subst hs6
    show own_Go _ _ _ _ s₁ (mkF m 0 #[.val (.ref a_1), .val (.int (3 : Int32)), .val (.ref a_3), .val (.int p_4), .unset, .unset] [])
    refine own_go (fun _ k => XS.iloadN X0.here hx rfl (hb hby own_d1_0) rfl k) ?_
    show own_Go _ _ _ _ s₁ (mkF m 1 #[.val (.ref a_1), .val (.int (3 : Int32)), .val (.ref a_3), .val (.int p_4), .unset, .unset] [(.int p_4)])
    refine own_go (fun _ k => XS.istore X0.here hx rfl (hb hby own_d1_1) rfl (l' := #[.val (.ref a_1), .val (.int (3 : Int32)), .val (.ref a_3), .val (.int p_4), .val (.int p_4), .unset]) rfl k) ?_
    show own_Go _ _ _ _ s₁ (mkF m 3 #[.val (.ref a_1), .val (.int (3 : Int32)), .val (.ref a_3), .val (.int p_4), .val (.int p_4), .unset] [])
    refine own_go (fun _ k => XS.iconst X0.here hx rfl (hb hby own_d1_3) k) ?_
    show own_Go _ _ _ _ s₁ (mkF m 4 #[.val (.ref a_1), .val (.int (3 : Int32)), .val (.ref a_3), .val (.int p_4), .val (.int p_4), .unset] [(.int (0 : Int32))])
    refine own_go (fun _ k => XS.istore X0.here hx rfl (hb hby own_d1_4) rfl (l' := #[.val (.ref a_1), .val (.int (3 : Int32)), .val (.ref a_3), .val (.int p_4), .val (.int p_4), .val (.int (0 : Int32))]) rfl k) ?_
    show own_Go _ _ _ _ s₁ (mkF m 6 #[.val (.ref a_1), .val (.int (3 : Int32)), .val (.ref a_3), .val (.int p_4), .val (.int p_4), .val (.int (0 : Int32))] [])
    refine own_go (fun _ k => XS.iload X0.here hx rfl (hb hby own_d1_6) rfl k) ?_
    show own_Go _ _ _ _ s₁ (mkF m 8 #[.val (.ref a_1), .val (.int (3 : Int32)), .val (.ref a_3), .val (.int p_4), .val (.int p_4), .val (.int (0 : Int32))] [(.int (0 : Int32))])
    refine own_go (fun _ k => XS.iloadN X0.here hx rfl (hb hby own_d1_8) rfl k) ?_
    show own_Go _ _ _ _ s₁ (mkF m 9 #[.val (.ref a_1), .val (.int (3 : Int32)), .val (.ref a_3), .val (.int p_4), .val (.int p_4), .val (.int (0 : Int32))] [(.int (3 : Int32)), (.int (0 : Int32))])
    have hc70 : (0 : Int32) < (3 : Int32) := by decide
    refine own_go (fun _ k => XS.icmpNo X0.here hx rfl (hb hby own_d1_9) rfl (Jvm.Free.XT.ii_ge_f hc70) k) ?_
    show own_Go _ _ _ _ s₁ (mkF m 12 #[.val (.ref a_1), .val (.int (3 : Int32)), .val (.ref a_3), .val (.int p_4), .val (.int p_4), .val (.int (0 : Int32))] [])
    refine own_go (fun _ k => XS.iload X0.here hx rfl (hb hby own_d1_12) rfl k) ?_
    show own_Go _ _ _ _ s₁ (mkF m 14 #[.val (.ref a_1), .val (.int (3 : Int32)), .val (.ref a_3), .val (.int p_4), .val (.int p_4), .val (.int (0 : Int32))] [(.int (0 : Int32))])
    have hc71 : ¬ (0 < (0 : Int32)) := by decide
    refine own_go (fun _ k => XS.ifYes X0.here hx rfl (pc0 := 14) (pc' := 26) rfl (hb hby own_d1_14) rfl (Jvm.Free.XT.i0_le_t hc71) (by decide) (by decide) k) ?_
    show own_Go _ _ _ _ s₁ (mkF m 26 #[.val (.ref a_1), .val (.int (3 : Int32)), .val (.ref a_3), .val (.int p_4), .val (.int p_4), .val (.int (0 : Int32))] [])
    refine own_go (fun _ k => XS.aloadN X0.here hx rfl (hb hby own_d1_26) rfl rfl k) ?_
    show own_Go _ _ _ _ s₁ (mkF m 27 #[.val (.ref a_1), .val (.int (3 : Int32)), .val (.ref a_3), .val (.int p_4), .val (.int p_4), .val (.int (0 : Int32))] [(.ref a_3)])
    refine own_go (fun _ k => XS.iload X0.here hx rfl (hb hby own_d1_27) rfl k) ?_
    show own_Go _ _ _ _ s₁ (mkF m 29 #[.val (.ref a_1), .val (.int (3 : Int32)), .val (.ref a_3), .val (.int p_4), .val (.int p_4), .val (.int (0 : Int32))] [(.int p_4), (.ref a_3)])
    refine own_go (fun _ k => XS.iinc X0.here hx rfl (hb hby own_d1_29) rfl (l' := #[.val (.ref a_1), .val (.int (3 : Int32)), .val (.ref a_3), .val (.int p_4), .val (.int (p_4 + (1 : Int32))), .val (.int (0 : Int32))]) rfl k) ?_
    show own_Go _ _ _ _ s₁ (mkF m 32 #[.val (.ref a_1), .val (.int (3 : Int32)), .val (.ref a_3), .val (.int p_4), .val (.int (p_4 + (1 : Int32))), .val (.int (0 : Int32))] [(.int p_4), (.ref a_3)])
    obtain ⟨T72, X72, e72, st72⟩ := getS2 X0 hx hZ hown (host := "") (Or.inl (hw _ (List.mem_of_getElem? (i := 6) rfl))) Via.refl e0 pr_S_com_example_honest_codec_honestcodec_IllFormedSequence_HEX_DIGITS (g := (mkF m 32 #[.val (.ref a_1), .val (.int (3 : Int32)), .val (.ref a_3), .val (.int p_4), .val (.int (p_4 + (1 : Int32))), .val (.int (0 : Int32))] [(.int p_4), (.ref a_3)])) rfl (hb hby own_d1_32)
    refine own_go (fun _ k => st72 _ k) ?_
    show own_Go _ _ _ _ T72 (mkF m 35 #[.val (.ref a_1), .val (.int (3 : Int32)), .val (.ref a_3), .val (.int p_4), .val (.int (p_4 + (1 : Int32))), .val (.int (0 : Int32))] [(.ref t_), (.int p_4), (.ref a_3)])
    refine own_go (fun _ k => XS.aloadN X72.here hx rfl (hb hby own_d1_35) rfl rfl k) ?_
    show own_Go _ _ _ _ T72 (mkF m 36 #[.val (.ref a_1), .val (.int (3 : Int32)), .val (.ref a_3), .val (.int p_4), .val (.int (p_4 + (1 : Int32))), .val (.int (0 : Int32))] [(.ref a_1), (.ref t_), (.int p_4), (.ref a_3)])
    refine own_go (fun _ k => XS.iload X72.here hx rfl (hb hby own_d1_36) rfl k) ?_
    show own_Go _ _ _ _ T72 (mkF m 38 #[.val (.ref a_1), .val (.int (3 : Int32)), .val (.ref a_3), .val (.int p_4), .val (.int (p_4 + (1 : Int32))), .val (.int (0 : Int32))] [(.int (0 : Int32)), (.ref a_1), (.ref t_), (.int p_4), (.ref a_3)])
    obtain ⟨q73, c73, R73, s73, t73⟩ := id pr_A_a_1
    have hin73 : ¬ ((0 : Int32) < 0 ∨ c73.slots.size ≤ ((0 : Int32)).toNatClampNeg) := inb_of s73 ⟨by decide, by decide⟩
    have u73 : c73.slots[((0 : Int32)).toNatClampNeg]? = some (.int b0) := own_at (k := 0) t73 s73 hin73 (by decide) (hg0)
    refine own_go (fun _ k => X72.baloadBytes hx (j := (0 : Int32)) (v := (.int b0)) (by rw [e72]; exact R73.1) (State.isArrayOf_alike hZ.alike R73.2.1) R73.2.2 hin73 u73 (g := (mkF m 38 #[.val (.ref a_1), .val (.int (3 : Int32)), .val (.ref a_3), .val (.int p_4), .val (.int (p_4 + (1 : Int32))), .val (.int (0 : Int32))] [(.int (0 : Int32)), (.ref a_1), (.ref t_), (.int p_4), (.ref a_3)])) rfl rfl (hb hby own_d1_38) _ k) ?_
    show own_Go _ _ _ _ T72 (mkF m 39 #[.val (.ref a_1), .val (.int (3 : Int32)), .val (.ref a_3), .val (.int p_4), .val (.int (p_4 + (1 : Int32))), .val (.int (0 : Int32))] [(.int b0), (.ref t_), (.int p_4), (.ref a_3)])
    refine own_go (fun _ k => XS.iconst X72.here hx rfl (hb hby own_d1_39) k) ?_
    show own_Go _ _ _ _ T72 (mkF m 40 #[.val (.ref a_1), .val (.int (3 : Int32)), .val (.ref a_3), .val (.int p_4), .val (.int (p_4 + (1 : Int32))), .val (.int (0 : Int32))] [(.int (4 : Int32)), (.int b0), (.ref t_), (.int p_4), (.ref a_3)])
    refine own_go (fun _ k => XS.ishr X72.here hx rfl (hb hby own_d1_40) rfl k) ?_
    show own_Go _ _ _ _ T72 (mkF m 41 #[.val (.ref a_1), .val (.int (3 : Int32)), .val (.ref a_3), .val (.int p_4), .val (.int (p_4 + (1 : Int32))), .val (.int (0 : Int32))] [(.int (b0 >>> ((4 : Int32) &&& 31))), (.ref t_), (.int p_4), (.ref a_3)])
    refine own_go (fun _ k => XS.bipush X72.here hx rfl (hb hby own_d1_41) k) ?_
    show own_Go _ _ _ _ T72 (mkF m 43 #[.val (.ref a_1), .val (.int (3 : Int32)), .val (.ref a_3), .val (.int p_4), .val (.int (p_4 + (1 : Int32))), .val (.int (0 : Int32))] [(.int (15 : Int32)), (.int (b0 >>> ((4 : Int32) &&& 31))), (.ref t_), (.int p_4), (.ref a_3)])
    refine own_go (fun _ k => XS.iand X72.here hx rfl (hb hby own_d1_43) rfl k) ?_
    show own_Go _ _ _ _ T72 (mkF m 44 #[.val (.ref a_1), .val (.int (3 : Int32)), .val (.ref a_3), .val (.int p_4), .val (.int (p_4 + (1 : Int32))), .val (.int (0 : Int32))] [(.int ((b0 >>> ((4 : Int32) &&& 31)) &&& (15 : Int32))), (.ref t_), (.int p_4), (.ref a_3)])
    obtain ⟨q74, c74, R74, s74, t74⟩ := id pr_A_t_
    have hin74 : ¬ (((b0 >>> ((4 : Int32) &&& 31)) &&& (15 : Int32)) < 0 ∨ c74.slots.size ≤ (((b0 >>> ((4 : Int32) &&& 31)) &&& (15 : Int32))).toNatClampNeg) := inb_of s74 (own_t1_14 b0 )
    have u74 : c74.slots[(((b0 >>> ((4 : Int32) &&& 31)) &&& (15 : Int32))).toNatClampNeg]? = some (.int (own_hd (((b0 >>> ((4 : Int32) &&& 31)) &&& (15 : Int32))).toNatClampNeg)) := own_at (k := (((b0 >>> ((4 : Int32) &&& 31)) &&& (15 : Int32))).toNatClampNeg) t74 s74 hin74 rfl (rfl)
    refine own_go (fun _ k => X72.baloadBytes hx (j := ((b0 >>> ((4 : Int32) &&& 31)) &&& (15 : Int32))) (v := (.int (own_hd (((b0 >>> ((4 : Int32) &&& 31)) &&& (15 : Int32))).toNatClampNeg))) (by rw [e72]; exact R74.1) (State.isArrayOf_alike hZ.alike R74.2.1) R74.2.2 hin74 u74 (g := (mkF m 44 #[.val (.ref a_1), .val (.int (3 : Int32)), .val (.ref a_3), .val (.int p_4), .val (.int (p_4 + (1 : Int32))), .val (.int (0 : Int32))] [(.int ((b0 >>> ((4 : Int32) &&& 31)) &&& (15 : Int32))), (.ref t_), (.int p_4), (.ref a_3)])) rfl rfl (hb hby own_d1_44) _ k) ?_
    show own_Go _ _ _ _ T72 (mkF m 45 #[.val (.ref a_1), .val (.int (3 : Int32)), .val (.ref a_3), .val (.int p_4), .val (.int (p_4 + (1 : Int32))), .val (.int (0 : Int32))] [(.int (own_hd (((b0 >>> ((4 : Int32) &&& 31)) &&& (15 : Int32))).toNatClampNeg)), (.int p_4), (.ref a_3)])
    obtain ⟨q75, c75, R75, s75, t75⟩ := id pr_A_a_3
    have hin75 : ¬ (p_4 < 0 ∨ c75.slots.size ≤ (p_4).toNatClampNeg) := inb_of s75 (own_t1_15 p_4 hp)
    obtain ⟨T76, h76, X76, e76, W76, st76⟩ := stB X72 hx hZ e72 R75 (j := p_4) hin75 (g := (mkF m 45 #[.val (.ref a_1), .val (.int (3 : Int32)), .val (.ref a_3), .val (.int p_4), .val (.int (p_4 + (1 : Int32))), .val (.int (0 : Int32))] [(.int (own_hd (((b0 >>> ((4 : Int32) &&& 31)) &&& (15 : Int32))).toNatClampNeg)), (.int p_4), (.ref a_3)])) rfl rfl (hb hby own_d1_45)
    rw [own_nar_hd _] at W76
    have V76 : own_AV Z h76 a_3 .byte (16 : Int32) (own_upd fa (p_4).toNatClampNeg (.int (own_hd (((b0 >>> ((4 : Int32) &&& 31)) &&& (15 : Int32))).toNatClampNeg))) := own_AV.set (k := (p_4).toNatClampNeg) pr_A_a_3 W76 rfl
    have z77 := W76.size
    have K76 : Keep h0 h76 [a_3] := K0.wr W76 (Or.inl (List.mem_of_getElem? (i := 0) rfl))
    have N76 := Fr.snoc X76 N0 (by omega : n0 ≤ a_3)
    refine own_go (fun _ k => st76 _ k) ?_
    show own_Go _ _ _ _ T76 (mkF m 46 #[.val (.ref a_1), .val (.int (3 : Int32)), .val (.ref a_3), .val (.int p_4), .val (.int (p_4 + (1 : Int32))), .val (.int (0 : Int32))] [])
    refine own_go (fun _ k => XS.aloadN X76.here hx rfl (hb hby own_d1_46) rfl rfl k) ?_
    show own_Go _ _ _ _ T76 (mkF m 47 #[.val (.ref a_1), .val (.int (3 : Int32)), .val (.ref a_3), .val (.int p_4), .val (.int (p_4 + (1 : Int32))), .val (.int (0 : Int32))] [(.ref a_3)])
    refine own_go (fun _ k => XS.iload X76.here hx rfl (hb hby own_d1_47) rfl k) ?_
    show own_Go _ _ _ _ T76 (mkF m 49 #[.val (.ref a_1), .val (.int (3 : Int32)), .val (.ref a_3), .val (.int p_4), .val (.int (p_4 + (1 : Int32))), .val (.int (0 : Int32))] [(.int (p_4 + (1 : Int32))), (.ref a_3)])
    refine own_go (fun _ k => XS.iinc X76.here hx rfl (hb hby own_d1_49) rfl (l' := #[.val (.ref a_1), .val (.int (3 : Int32)), .val (.ref a_3), .val (.int p_4), .val (.int ((p_4 + (1 : Int32)) + (1 : Int32))), .val (.int (0 : Int32))]) rfl k) ?_
    show own_Go _ _ _ _ T76 (mkF m 52 #[.val (.ref a_1), .val (.int (3 : Int32)), .val (.ref a_3), .val (.int p_4), .val (.int ((p_4 + (1 : Int32)) + (1 : Int32))), .val (.int (0 : Int32))] [(.int (p_4 + (1 : Int32))), (.ref a_3)])
    have f78 : Sta Z h76 "com/example/honest_codec/honestcodec/IllFormedSequence" "HEX_DIGITS" "[B" (.ref t_) := (pr_S_com_example_honest_codec_honestcodec_IllFormedSequence_HEX_DIGITS.wr W76)
    obtain ⟨T79, X79, e79, st79⟩ := getS2 X76 hx hZ hown (host := "") (Or.inl (hw _ (List.mem_of_getElem? (i := 6) rfl))) Via.refl e76 f78 (g := (mkF m 52 #[.val (.ref a_1), .val (.int (3 : Int32)), .val (.ref a_3), .val (.int p_4), .val (.int ((p_4 + (1 : Int32)) + (1 : Int32))), .val (.int (0 : Int32))] [(.int (p_4 + (1 : Int32))), (.ref a_3)])) rfl (hb hby own_d1_52)
    refine own_go (fun _ k => st79 _ k) ?_
    show own_Go _ _ _ _ T79 (mkF m 55 #[.val (.ref a_1), .val (.int (3 : Int32)), .val (.ref a_3), .val (.int p_4), .val (.int ((p_4 + (1 : Int32)) + (1 : Int32))), .val (.int (0 : Int32))] [(.ref t_), (.int (p_4 + (1 : Int32))), (.ref a_3)])
    refine own_go (fun _ k => XS.aloadN X79.here hx rfl (hb hby own_d1_55) rfl rfl k) ?_
    show own_Go _ _ _ _ T79 (mkF m 56 #[.val (.ref a_1), .val (.int (3 : Int32)), .val (.ref a_3), .val (.int p_4), .val (.int ((p_4 + (1 : Int32)) + (1 : Int32))), .val (.int (0 : Int32))] [(.ref a_1), (.ref t_), (.int (p_4 + (1 : Int32))), (.ref a_3)])
    refine own_go (fun _ k => XS.iload X79.here hx rfl (hb hby own_d1_56) rfl k) ?_
    show own_Go _ _ _ _ T79 (mkF m 58 #[.val (.ref a_1), .val (.int (3 : Int32)), .val (.ref a_3), .val (.int p_4), .val (.int ((p_4 + (1 : Int32)) + (1 : Int32))), .val (.int (0 : Int32))] [(.int (0 : Int32)), (.ref a_1), (.ref t_), (.int (p_4 + (1 : Int32))), (.ref a_3)])
    have f80 : own_AV Z h76 a_1 .byte (4 : Int32) gs := (pr_A_a_1.other W76 (own_ne (by omega)))
    obtain ⟨q81, c81, R81, s81, t81⟩ := id f80
    have hin81 : ¬ ((0 : Int32) < 0 ∨ c81.slots.size ≤ ((0 : Int32)).toNatClampNeg) := inb_of s81 ⟨by decide, by decide⟩
    have u81 : c81.slots[((0 : Int32)).toNatClampNeg]? = some (.int b0) := own_at (k := 0) t81 s81 hin81 (by decide) (hg0)
    refine own_go (fun _ k => X79.baloadBytes hx (j := (0 : Int32)) (v := (.int b0)) (by rw [e79]; exact R81.1) (State.isArrayOf_alike hZ.alike R81.2.1) R81.2.2 hin81 u81 (g := (mkF m 58 #[.val (.ref a_1), .val (.int (3 : Int32)), .val (.ref a_3), .val (.int p_4), .val (.int ((p_4 + (1 : Int32)) + (1 : Int32))), .val (.int (0 : Int32))] [(.int (0 : Int32)), (.ref a_1), (.ref t_), (.int (p_4 + (1 : Int32))), (.ref a_3)])) rfl rfl (hb hby own_d1_58) _ k) ?_
    show own_Go _ _ _ _ T79 (mkF m 59 #[.val (.ref a_1), .val (.int (3 : Int32)), .val (.ref a_3), .val (.int p_4), .val (.int ((p_4 + (1 : Int32)) + (1 : Int32))), .val (.int (0 : Int32))] [(.int b0), (.ref t_), (.int (p_4 + (1 : Int32))), (.ref a_3)])
    refine own_go (fun _ k => XS.bipush X79.here hx rfl (hb hby own_d1_59) k) ?_
    show own_Go _ _ _ _ T79 (mkF m 61 #[.val (.ref a_1), .val (.int (3 : Int32)), .val (.ref a_3), .val (.int p_4), .val (.int ((p_4 + (1 : Int32)) + (1 : Int32))), .val (.int (0 : Int32))] [(.int (15 : Int32)), (.int b0), (.ref t_), (.int (p_4 + (1 : Int32))), (.ref a_3)])
    refine own_go (fun _ k => XS.iand X79.here hx rfl (hb hby own_d1_61) rfl k) ?_
    show own_Go _ _ _ _ T79 (mkF m 62 #[.val (.ref a_1), .val (.int (3 : Int32)), .val (.ref a_3), .val (.int p_4), .val (.int ((p_4 + (1 : Int32)) + (1 : Int32))), .val (.int (0 : Int32))] [(.int (b0 &&& (15 : Int32))), (.ref t_), (.int (p_4 + (1 : Int32))), (.ref a_3)])
    have f82 : own_AV Z h76 t_ .byte (16 : Int32) (fun i => .int (own_hd i)) := (pr_A_t_.other W76 (own_ne (by omega)))
    obtain ⟨q83, c83, R83, s83, t83⟩ := id f82
    have hin83 : ¬ ((b0 &&& (15 : Int32)) < 0 ∨ c83.slots.size ≤ ((b0 &&& (15 : Int32))).toNatClampNeg) := inb_of s83 (own_t1_16 b0 )
    have u83 : c83.slots[((b0 &&& (15 : Int32))).toNatClampNeg]? = some (.int (own_hd ((b0 &&& (15 : Int32))).toNatClampNeg)) := own_at (k := ((b0 &&& (15 : Int32))).toNatClampNeg) t83 s83 hin83 rfl (rfl)
    refine own_go (fun _ k => X79.baloadBytes hx (j := (b0 &&& (15 : Int32))) (v := (.int (own_hd ((b0 &&& (15 : Int32))).toNatClampNeg))) (by rw [e79]; exact R83.1) (State.isArrayOf_alike hZ.alike R83.2.1) R83.2.2 hin83 u83 (g := (mkF m 62 #[.val (.ref a_1), .val (.int (3 : Int32)), .val (.ref a_3), .val (.int p_4), .val (.int ((p_4 + (1 : Int32)) + (1 : Int32))), .val (.int (0 : Int32))] [(.int (b0 &&& (15 : Int32))), (.ref t_), (.int (p_4 + (1 : Int32))), (.ref a_3)])) rfl rfl (hb hby own_d1_62) _ k) ?_
    show own_Go _ _ _ _ T79 (mkF m 63 #[.val (.ref a_1), .val (.int (3 : Int32)), .val (.ref a_3), .val (.int p_4), .val (.int ((p_4 + (1 : Int32)) + (1 : Int32))), .val (.int (0 : Int32))] [(.int (own_hd ((b0 &&& (15 : Int32))).toNatClampNeg)), (.int (p_4 + (1 : Int32))), (.ref a_3)])
    obtain ⟨q84, c84, R84, s84, t84⟩ := id V76
    have hin84 : ¬ ((p_4 + (1 : Int32)) < 0 ∨ c84.slots.size ≤ ((p_4 + (1 : Int32))).toNatClampNeg) := inb_of s84 (own_t1_17 p_4 hp)
    obtain ⟨T85, h85, X85, e85, W85, st85⟩ := stB X79 hx hZ e79 R84 (j := (p_4 + (1 : Int32))) hin84 (g := (mkF m 63 #[.val (.ref a_1), .val (.int (3 : Int32)), .val (.ref a_3), .val (.int p_4), .val (.int ((p_4 + (1 : Int32)) + (1 : Int32))), .val (.int (0 : Int32))] [(.int (own_hd ((b0 &&& (15 : Int32))).toNatClampNeg)), (.int (p_4 + (1 : Int32))), (.ref a_3)])) rfl rfl (hb hby own_d1_63)
    rw [own_nar_hd _] at W85
    have V85 : own_AV Z h85 a_3 .byte (16 : Int32) (own_upd (own_upd fa (p_4).toNatClampNeg (.int (own_hd (((b0 >>> ((4 : Int32) &&& 31)) &&& (15 : Int32))).toNatClampNeg))) ((p_4 + (1 : Int32))).toNatClampNeg (.int (own_hd ((b0 &&& (15 : Int32))).toNatClampNeg))) := own_AV.set (k := ((p_4 + (1 : Int32))).toNatClampNeg) V76 W85 rfl
    have z86 := W85.size
    have K85 : Keep h0 h85 [a_3] := K76.wr W85 (Or.inl (List.mem_of_getElem? (i := 0) rfl))
    have N85 := Fr.snoc X85 N76 (by omega : n0 ≤ a_3)
    refine own_go (fun _ k => st85 _ k) ?_
    show own_Go _ _ _ _ T85 (mkF m 64 #[.val (.ref a_1), .val (.int (3 : Int32)), .val (.ref a_3), .val (.int p_4), .val (.int ((p_4 + (1 : Int32)) + (1 : Int32))), .val (.int (0 : Int32))] [])
    refine own_go (fun _ k => XS.iinc X85.here hx rfl (hb hby own_d1_64) rfl (l' := #[.val (.ref a_1), .val (.int (3 : Int32)), .val (.ref a_3), .val (.int p_4), .val (.int ((p_4 + (1 : Int32)) + (1 : Int32))), .val (.int (1 : Int32))]) rfl k) ?_
    show own_Go _ _ _ _ T85 (mkF m 67 #[.val (.ref a_1), .val (.int (3 : Int32)), .val (.ref a_3), .val (.int p_4), .val (.int ((p_4 + (1 : Int32)) + (1 : Int32))), .val (.int (1 : Int32))] [])
    refine own_go (fun _ k => XS.goto X85.here hx rfl (pc0 := 67) (pc' := 6) rfl (hb hby own_d1_67) (by decide) (by decide) k) ?_
    show own_Go _ _ _ _ T85 (mkF m 6 #[.val (.ref a_1), .val (.int (3 : Int32)), .val (.ref a_3), .val (.int p_4), .val (.int ((p_4 + (1 : Int32)) + (1 : Int32))), .val (.int (1 : Int32))] [])
    refine own_go (fun _ k => XS.iload X85.here hx rfl (hb hby own_d1_6) rfl k) ?_
    show own_Go _ _ _ _ T85 (mkF m 8 #[.val (.ref a_1), .val (.int (3 : Int32)), .val (.ref a_3), .val (.int p_4), .val (.int ((p_4 + (1 : Int32)) + (1 : Int32))), .val (.int (1 : Int32))] [(.int (1 : Int32))])
    refine own_go (fun _ k => XS.iloadN X85.here hx rfl (hb hby own_d1_8) rfl k) ?_
    show own_Go _ _ _ _ T85 (mkF m 9 #[.val (.ref a_1), .val (.int (3 : Int32)), .val (.ref a_3), .val (.int p_4), .val (.int ((p_4 + (1 : Int32)) + (1 : Int32))), .val (.int (1 : Int32))] [(.int (3 : Int32)), (.int (1 : Int32))])
    have hc87 : (1 : Int32) < (3 : Int32) := by decide
    refine own_go (fun _ k => XS.icmpNo X85.here hx rfl (hb hby own_d1_9) rfl (Jvm.Free.XT.ii_ge_f hc87) k) ?_
    show own_Go _ _ _ _ T85 (mkF m 12 #[.val (.ref a_1), .val (.int (3 : Int32)), .val (.ref a_3), .val (.int p_4), .val (.int ((p_4 + (1 : Int32)) + (1 : Int32))), .val (.int (1 : Int32))] [])
    refine own_go (fun _ k => XS.iload X85.here hx rfl (hb hby own_d1_12) rfl k) ?_
    show own_Go _ _ _ _ T85 (mkF m 14 #[.val (.ref a_1), .val (.int (3 : Int32)), .val (.ref a_3), .val (.int p_4), .val (.int ((p_4 + (1 : Int32)) + (1 : Int32))), .val (.int (1 : Int32))] [(.int (1 : Int32))])
    have hc88 : 0 < (1 : Int32) := by decide
    refine own_go (fun _ k => XS.ifNo X85.here hx rfl (hb hby own_d1_14) rfl (Jvm.Free.XT.i0_le_f hc88) k) ?_
    show own_Go _ _ _ _ T85 (mkF m 17 #[.val (.ref a_1), .val (.int (3 : Int32)), .val (.ref a_3), .val (.int p_4), .val (.int ((p_4 + (1 : Int32)) + (1 : Int32))), .val (.int (1 : Int32))] [])
    refine own_go (fun _ k => XS.aloadN X85.here hx rfl (hb hby own_d1_17) rfl rfl k) ?_
    show own_Go _ _ _ _ T85 (mkF m 18 #[.val (.ref a_1), .val (.int (3 : Int32)), .val (.ref a_3), .val (.int p_4), .val (.int ((p_4 + (1 : Int32)) + (1 : Int32))), .val (.int (1 : Int32))] [(.ref a_3)])
    refine own_go (fun _ k => XS.iload X85.here hx rfl (hb hby own_d1_18) rfl k) ?_
    show own_Go _ _ _ _ T85 (mkF m 20 #[.val (.ref a_1), .val (.int (3 : Int32)), .val (.ref a_3), .val (.int p_4), .val (.int ((p_4 + (1 : Int32)) + (1 : Int32))), .val (.int (1 : Int32))] [(.int ((p_4 + (1 : Int32)) + (1 : Int32))), (.ref a_3)])
    refine own_go (fun _ k => XS.iinc X85.here hx rfl (hb hby own_d1_20) rfl (l' := #[.val (.ref a_1), .val (.int (3 : Int32)), .val (.ref a_3), .val (.int p_4), .val (.int (((p_4 + (1 : Int32)) + (1 : Int32)) + (1 : Int32))), .val (.int (1 : Int32))]) rfl k) ?_
    show own_Go _ _ _ _ T85 (mkF m 23 #[.val (.ref a_1), .val (.int (3 : Int32)), .val (.ref a_3), .val (.int p_4), .val (.int (((p_4 + (1 : Int32)) + (1 : Int32)) + (1 : Int32))), .val (.int (1 : Int32))] [(.int ((p_4 + (1 : Int32)) + (1 : Int32))), (.ref a_3)])
    refine own_go (fun _ k => XS.bipush X85.here hx rfl (hb hby own_d1_23) k) ?_
    show own_Go _ _ _ _ T85 (mkF m 25 #[.val (.ref a_1), .val (.int (3 : Int32)), .val (.ref a_3), .val (.int p_4), .val (.int (((p_4 + (1 : Int32)) + (1 : Int32)) + (1 : Int32))), .val (.int (1 : Int32))] [(.int (32 : Int32)), (.int ((p_4 + (1 : Int32)) + (1 : Int32))), (.ref a_3)])
    obtain ⟨q89, c89, R89, s89, t89⟩ := id V85
    have hin89 : ¬ (((p_4 + (1 : Int32)) + (1 : Int32)) < 0 ∨ c89.slots.size ≤ (((p_4 + (1 : Int32)) + (1 : Int32))).toNatClampNeg) := inb_of s89 (own_t1_18 p_4 hp)
    obtain ⟨T90, h90, X90, e90, W90, st90⟩ := stB X85 hx hZ e85 R89 (j := ((p_4 + (1 : Int32)) + (1 : Int32))) hin89 (g := (mkF m 25 #[.val (.ref a_1), .val (.int (3 : Int32)), .val (.ref a_3), .val (.int p_4), .val (.int (((p_4 + (1 : Int32)) + (1 : Int32)) + (1 : Int32))), .val (.int (1 : Int32))] [(.int (32 : Int32)), (.int ((p_4 + (1 : Int32)) + (1 : Int32))), (.ref a_3)])) rfl rfl (hb hby own_d1_25)
    have V90 : own_AV Z h90 a_3 .byte (16 : Int32) (own_upd (own_upd (own_upd fa (p_4).toNatClampNeg (.int (own_hd (((b0 >>> ((4 : Int32) &&& 31)) &&& (15 : Int32))).toNatClampNeg))) ((p_4 + (1 : Int32))).toNatClampNeg (.int (own_hd ((b0 &&& (15 : Int32))).toNatClampNeg))) (((p_4 + (1 : Int32)) + (1 : Int32))).toNatClampNeg (.int (32 : Int32))) := own_AV.set (k := (((p_4 + (1 : Int32)) + (1 : Int32))).toNatClampNeg) V85 W90 rfl
    have z91 := W90.size
    have K90 : Keep h0 h90 [a_3] := K85.wr W90 (Or.inl (List.mem_of_getElem? (i := 0) rfl))
    have N90 := Fr.snoc X90 N85 (by omega : n0 ≤ a_3)
    refine own_go (fun _ k => st90 _ k) ?_
    show own_Go _ _ _ _ T90 (mkF m 26 #[.val (.ref a_1), .val (.int (3 : Int32)), .val (.ref a_3), .val (.int p_4), .val (.int (((p_4 + (1 : Int32)) + (1 : Int32)) + (1 : Int32))), .val (.int (1 : Int32))] [])
    refine own_go (fun _ k => XS.aloadN X90.here hx rfl (hb hby own_d1_26) rfl rfl k) ?_
    show own_Go _ _ _ _ T90 (mkF m 27 #[.val (.ref a_1), .val (.int (3 : Int32)), .val (.ref a_3), .val (.int p_4), .val (.int (((p_4 + (1 : Int32)) + (1 : Int32)) + (1 : Int32))), .val (.int (1 : Int32))] [(.ref a_3)])
    refine own_go (fun _ k => XS.iload X90.here hx rfl (hb hby own_d1_27) rfl k) ?_
    show own_Go _ _ _ _ T90 (mkF m 29 #[.val (.ref a_1), .val (.int (3 : Int32)), .val (.ref a_3), .val (.int p_4), .val (.int (((p_4 + (1 : Int32)) + (1 : Int32)) + (1 : Int32))), .val (.int (1 : Int32))] [(.int (((p_4 + (1 : Int32)) + (1 : Int32)) + (1 : Int32))), (.ref a_3)])
    refine own_go (fun _ k => XS.iinc X90.here hx rfl (hb hby own_d1_29) rfl (l' := #[.val (.ref a_1), .val (.int (3 : Int32)), .val (.ref a_3), .val (.int p_4), .val (.int ((((p_4 + (1 : Int32)) + (1 : Int32)) + (1 : Int32)) + (1 : Int32))), .val (.int (1 : Int32))]) rfl k) ?_
    show own_Go _ _ _ _ T90 (mkF m 32 #[.val (.ref a_1), .val (.int (3 : Int32)), .val (.ref a_3), .val (.int p_4), .val (.int ((((p_4 + (1 : Int32)) + (1 : Int32)) + (1 : Int32)) + (1 : Int32))), .val (.int (1 : Int32))] [(.int (((p_4 + (1 : Int32)) + (1 : Int32)) + (1 : Int32))), (.ref a_3)])
    have f92 : Sta Z h90 "com/example/honest_codec/honestcodec/IllFormedSequence" "HEX_DIGITS" "[B" (.ref t_) := ((f78.wr W85).wr W90)
    obtain ⟨T93, X93, e93, st93⟩ := getS2 X90 hx hZ hown (host := "") (Or.inl (hw _ (List.mem_of_getElem? (i := 6) rfl))) Via.refl e90 f92 (g := (mkF m 32 #[.val (.ref a_1), .val (.int (3 : Int32)), .val (.ref a_3), .val (.int p_4), .val (.int ((((p_4 + (1 : Int32)) + (1 : Int32)) + (1 : Int32)) + (1 : Int32))), .val (.int (1 : Int32))] [(.int (((p_4 + (1 : Int32)) + (1 : Int32)) + (1 : Int32))), (.ref a_3)])) rfl (hb hby own_d1_32)
    refine own_go (fun _ k => st93 _ k) ?_
    show own_Go _ _ _ _ T93 (mkF m 35 #[.val (.ref a_1), .val (.int (3 : Int32)), .val (.ref a_3), .val (.int p_4), .val (.int ((((p_4 + (1 : Int32)) + (1 : Int32)) + (1 : Int32)) + (1 : Int32))), .val (.int (1 : Int32))] [(.ref t_), (.int (((p_4 + (1 : Int32)) + (1 : Int32)) + (1 : Int32))), (.ref a_3)])
    refine own_go (fun _ k => XS.aloadN X93.here hx rfl (hb hby own_d1_35) rfl rfl k) ?_
    show own_Go _ _ _ _ T93 (mkF m 36 #[.val (.ref a_1), .val (.int (3 : Int32)), .val (.ref a_3), .val (.int p_4), .val (.int ((((p_4 + (1 : Int32)) + (1 : Int32)) + (1 : Int32)) + (1 : Int32))), .val (.int (1 : Int32))] [(.ref a_1), (.ref t_), (.int (((p_4 + (1 : Int32)) + (1 : Int32)) + (1 : Int32))), (.ref a_3)])
    refine own_go (fun _ k => XS.iload X93.here hx rfl (hb hby own_d1_36) rfl k) ?_
    show own_Go _ _ _ _ T93 (mkF m 38 #[.val (.ref a_1), .val (.int (3 : Int32)), .val (.ref a_3), .val (.int p_4), .val (.int ((((p_4 + (1 : Int32)) + (1 : Int32)) + (1 : Int32)) + (1 : Int32))), .val (.int (1 : Int32))] [(.int (1 : Int32)), (.ref a_1), (.ref t_), (.int (((p_4 + (1 : Int32)) + (1 : Int32)) + (1 : Int32))), (.ref a_3)])
    have f94 : own_AV Z h90 a_1 .byte (4 : Int32) gs := ((f80.other W85 (own_ne (by omega))).other W90 (own_ne (by omega)))
    obtain ⟨q95, c95, R95, s95, t95⟩ := id f94
    have hin95 : ¬ ((1 : Int32) < 0 ∨ c95.slots.size ≤ ((1 : Int32)).toNatClampNeg) := inb_of s95 ⟨by decide, by decide⟩
    have u95 : c95.slots[((1 : Int32)).toNatClampNeg]? = some (.int b1) := own_at (k := 1) t95 s95 hin95 (by decide) (hg1)
    refine own_go (fun _ k => X93.baloadBytes hx (j := (1 : Int32)) (v := (.int b1)) (by rw [e93]; exact R95.1) (State.isArrayOf_alike hZ.alike R95.2.1) R95.2.2 hin95 u95 (g := (mkF m 38 #[.val (.ref a_1), .val (.int (3 : Int32)), .val (.ref a_3), .val (.int p_4), .val (.int ((((p_4 + (1 : Int32)) + (1 : Int32)) + (1 : Int32)) + (1 : Int32))), .val (.int (1 : Int32))] [(.int (1 : Int32)), (.ref a_1), (.ref t_), (.int (((p_4 + (1 : Int32)) + (1 : Int32)) + (1 : Int32))), (.ref a_3)])) rfl rfl (hb hby own_d1_38) _ k) ?_
    show own_Go _ _ _ _ T93 (mkF m 39 #[.val (.ref a_1), .val (.int (3 : Int32)), .val (.ref a_3), .val (.int p_4), .val (.int ((((p_4 + (1 : Int32)) + (1 : Int32)) + (1 : Int32)) + (1 : Int32))), .val (.int (1 : Int32))] [(.int b1), (.ref t_), (.int (((p_4 + (1 : Int32)) + (1 : Int32)) + (1 : Int32))), (.ref a_3)])
    refine own_go (fun _ k => XS.iconst X93.here hx rfl (hb hby own_d1_39) k) ?_
    show own_Go _ _ _ _ T93 (mkF m 40 #[.val (.ref a_1), .val (.int (3 : Int32)), .val (.ref a_3), .val (.int p_4), .val (.int ((((p_4 + (1 : Int32)) + (1 : Int32)) + (1 : Int32)) + (1 : Int32))), .val (.int (1 : Int32))] [(.int (4 : Int32)), (.int b1), (.ref t_), (.int (((p_4 + (1 : Int32)) + (1 : Int32)) + (1 : Int32))), (.ref a_3)])
    refine own_go (fun _ k => XS.ishr X93.here hx rfl (hb hby own_d1_40) rfl k) ?_
    show own_Go _ _ _ _ T93 (mkF m 41 #[.val (.ref a_1), .val (.int (3 : Int32)), .val (.ref a_3), .val (.int p_4), .val (.int ((((p_4 + (1 : Int32)) + (1 : Int32)) + (1 : Int32)) + (1 : Int32))), .val (.int (1 : Int32))] [(.int (b1 >>> ((4 : Int32) &&& 31))), (.ref t_), (.int (((p_4 + (1 : Int32)) + (1 : Int32)) + (1 : Int32))), (.ref a_3)])
    refine own_go (fun _ k => XS.bipush X93.here hx rfl (hb hby own_d1_41) k) ?_
    show own_Go _ _ _ _ T93 (mkF m 43 #[.val (.ref a_1), .val (.int (3 : Int32)), .val (.ref a_3), .val (.int p_4), .val (.int ((((p_4 + (1 : Int32)) + (1 : Int32)) + (1 : Int32)) + (1 : Int32))), .val (.int (1 : Int32))] [(.int (15 : Int32)), (.int (b1 >>> ((4 : Int32) &&& 31))), (.ref t_), (.int (((p_4 + (1 : Int32)) + (1 : Int32)) + (1 : Int32))), (.ref a_3)])
    refine own_go (fun _ k => XS.iand X93.here hx rfl (hb hby own_d1_43) rfl k) ?_
    show own_Go _ _ _ _ T93 (mkF m 44 #[.val (.ref a_1), .val (.int (3 : Int32)), .val (.ref a_3), .val (.int p_4), .val (.int ((((p_4 + (1 : Int32)) + (1 : Int32)) + (1 : Int32)) + (1 : Int32))), .val (.int (1 : Int32))] [(.int ((b1 >>> ((4 : Int32) &&& 31)) &&& (15 : Int32))), (.ref t_), (.int (((p_4 + (1 : Int32)) + (1 : Int32)) + (1 : Int32))), (.ref a_3)])
    have f96 : own_AV Z h90 t_ .byte (16 : Int32) (fun i => .int (own_hd i)) := ((f82.other W85 (own_ne (by omega))).other W90 (own_ne (by omega)))
    obtain ⟨q97, c97, R97, s97, t97⟩ := id f96
    have hin97 : ¬ (((b1 >>> ((4 : Int32) &&& 31)) &&& (15 : Int32)) < 0 ∨ c97.slots.size ≤ (((b1 >>> ((4 : Int32) &&& 31)) &&& (15 : Int32))).toNatClampNeg) := inb_of s97 (own_t1_19 b1 )
    have u97 : c97.slots[(((b1 >>> ((4 : Int32) &&& 31)) &&& (15 : Int32))).toNatClampNeg]? = some (.int (own_hd (((b1 >>> ((4 : Int32) &&& 31)) &&& (15 : Int32))).toNatClampNeg)) := own_at (k := (((b1 >>> ((4 : Int32) &&& 31)) &&& (15 : Int32))).toNatClampNeg) t97 s97 hin97 rfl (rfl)
    refine own_go (fun _ k => X93.baloadBytes hx (j := ((b1 >>> ((4 : Int32) &&& 31)) &&& (15 : Int32))) (v := (.int (own_hd (((b1 >>> ((4 : Int32) &&& 31)) &&& (15 : Int32))).toNatClampNeg))) (by rw [e93]; exact R97.1) (State.isArrayOf_alike hZ.alike R97.2.1) R97.2.2 hin97 u97 (g := (mkF m 44 #[.val (.ref a_1), .val (.int (3 : Int32)), .val (.ref a_3), .val (.int p_4), .val (.int ((((p_4 + (1 : Int32)) + (1 : Int32)) + (1 : Int32)) + (1 : Int32))), .val (.int (1 : Int32))] [(.int ((b1 >>> ((4 : Int32) &&& 31)) &&& (15 : Int32))), (.ref t_), (.int (((p_4 + (1 : Int32)) + (1 : Int32)) + (1 : Int32))), (.ref a_3)])) rfl rfl (hb hby own_d1_44) _ k) ?_
    show own_Go _ _ _ _ T93 (mkF m 45 #[.val (.ref a_1), .val (.int (3 : Int32)), .val (.ref a_3), .val (.int p_4), .val (.int ((((p_4 + (1 : Int32)) + (1 : Int32)) + (1 : Int32)) + (1 : Int32))), .val (.int (1 : Int32))] [(.int (own_hd (((b1 >>> ((4 : Int32) &&& 31)) &&& (15 : Int32))).toNatClampNeg)), (.int (((p_4 + (1 : Int32)) + (1 : Int32)) + (1 : Int32))), (.ref a_3)])
    obtain ⟨q98, c98, R98, s98, t98⟩ := id V90
    have hin98 : ¬ ((((p_4 + (1 : Int32)) + (1 : Int32)) + (1 : Int32)) < 0 ∨ c98.slots.size ≤ ((((p_4 + (1 : Int32)) + (1 : Int32)) + (1 : Int32))).toNatClampNeg) := inb_of s98 (own_t1_20 p_4 hp)
    obtain ⟨T99, h99, X99, e99, W99, st99⟩ := stB X93 hx hZ e93 R98 (j := (((p_4 + (1 : Int32)) + (1 : Int32)) + (1 : Int32))) hin98 (g := (mkF m 45 #[.val (.ref a_1), .val (.int (3 : Int32)), .val (.ref a_3), .val (.int p_4), .val (.int ((((p_4 + (1 : Int32)) + (1 : Int32)) + (1 : Int32)) + (1 : Int32))), .val (.int (1 : Int32))] [(.int (own_hd (((b1 >>> ((4 : Int32) &&& 31)) &&& (15 : Int32))).toNatClampNeg)), (.int (((p_4 + (1 : Int32)) + (1 : Int32)) + (1 : Int32))), (.ref a_3)])) rfl rfl (hb hby own_d1_45)
    rw [own_nar_hd _] at W99
    have V99 : own_AV Z h99 a_3 .byte (16 : Int32) (own_upd (own_upd (own_upd (own_upd fa (p_4).toNatClampNeg (.int (own_hd (((b0 >>> ((4 : Int32) &&& 31)) &&& (15 : Int32))).toNatClampNeg))) ((p_4 + (1 : Int32))).toNatClampNeg (.int (own_hd ((b0 &&& (15 : Int32))).toNatClampNeg))) (((p_4 + (1 : Int32)) + (1 : Int32))).toNatClampNeg (.int (32 : Int32))) ((((p_4 + (1 : Int32)) + (1 : Int32)) + (1 : Int32))).toNatClampNeg (.int (own_hd (((b1 >>> ((4 : Int32) &&& 31)) &&& (15 : Int32))).toNatClampNeg))) := own_AV.set (k := ((((p_4 + (1 : Int32)) + (1 : Int32)) + (1 : Int32))).toNatClampNeg) V90 W99 rfl
    have z100 := W99.size
    have K99 : Keep h0 h99 [a_3] := K90.wr W99 (Or.inl (List.mem_of_getElem? (i := 0) rfl))
    have N99 := Fr.snoc X99 N90 (by omega : n0 ≤ a_3)
    refine own_go (fun _ k => st99 _ k) ?_
    show own_Go _ _ _ _ T99 (mkF m 46 #[.val (.ref a_1), .val (.int (3 : Int32)), .val (.ref a_3), .val (.int p_4), .val (.int ((((p_4 + (1 : Int32)) + (1 : Int32)) + (1 : Int32)) + (1 : Int32))), .val (.int (1 : Int32))] [])
    refine own_go (fun _ k => XS.aloadN X99.here hx rfl (hb hby own_d1_46) rfl rfl k) ?_
    show own_Go _ _ _ _ T99 (mkF m 47 #[.val (.ref a_1), .val (.int (3 : Int32)), .val (.ref a_3), .val (.int p_4), .val (.int ((((p_4 + (1 : Int32)) + (1 : Int32)) + (1 : Int32)) + (1 : Int32))), .val (.int (1 : Int32))] [(.ref a_3)])
    refine own_go (fun _ k => XS.iload X99.here hx rfl (hb hby own_d1_47) rfl k) ?_
    show own_Go _ _ _ _ T99 (mkF m 49 #[.val (.ref a_1), .val (.int (3 : Int32)), .val (.ref a_3), .val (.int p_4), .val (.int ((((p_4 + (1 : Int32)) + (1 : Int32)) + (1 : Int32)) + (1 : Int32))), .val (.int (1 : Int32))] [(.int ((((p_4 + (1 : Int32)) + (1 : Int32)) + (1 : Int32)) + (1 : Int32))), (.ref a_3)])
    refine own_go (fun _ k => XS.iinc X99.here hx rfl (hb hby own_d1_49) rfl (l' := #[.val (.ref a_1), .val (.int (3 : Int32)), .val (.ref a_3), .val (.int p_4), .val (.int (((((p_4 + (1 : Int32)) + (1 : Int32)) + (1 : Int32)) + (1 : Int32)) + (1 : Int32))), .val (.int (1 : Int32))]) rfl k) ?_
    show own_Go _ _ _ _ T99 (mkF m 52 #[.val (.ref a_1), .val (.int (3 : Int32)), .val (.ref a_3), .val (.int p_4), .val (.int (((((p_4 + (1 : Int32)) + (1 : Int32)) + (1 : Int32)) + (1 : Int32)) + (1 : Int32))), .val (.int (1 : Int32))] [(.int ((((p_4 + (1 : Int32)) + (1 : Int32)) + (1 : Int32)) + (1 : Int32))), (.ref a_3)])
    have f101 : Sta Z h99 "com/example/honest_codec/honestcodec/IllFormedSequence" "HEX_DIGITS" "[B" (.ref t_) := (f92.wr W99)
    obtain ⟨T102, X102, e102, st102⟩ := getS2 X99 hx hZ hown (host := "") (Or.inl (hw _ (List.mem_of_getElem? (i := 6) rfl))) Via.refl e99 f101 (g := (mkF m 52 #[.val (.ref a_1), .val (.int (3 : Int32)), .val (.ref a_3), .val (.int p_4), .val (.int (((((p_4 + (1 : Int32)) + (1 : Int32)) + (1 : Int32)) + (1 : Int32)) + (1 : Int32))), .val (.int (1 : Int32))] [(.int ((((p_4 + (1 : Int32)) + (1 : Int32)) + (1 : Int32)) + (1 : Int32))), (.ref a_3)])) rfl (hb hby own_d1_52)
    refine own_go (fun _ k => st102 _ k) ?_
    show own_Go _ _ _ _ T102 (mkF m 55 #[.val (.ref a_1), .val (.int (3 : Int32)), .val (.ref a_3), .val (.int p_4), .val (.int (((((p_4 + (1 : Int32)) + (1 : Int32)) + (1 : Int32)) + (1 : Int32)) + (1 : Int32))), .val (.int (1 : Int32))] [(.ref t_), (.int ((((p_4 + (1 : Int32)) + (1 : Int32)) + (1 : Int32)) + (1 : Int32))), (.ref a_3)])
    refine own_go (fun _ k => XS.aloadN X102.here hx rfl (hb hby own_d1_55) rfl rfl k) ?_
    show own_Go _ _ _ _ T102 (mkF m 56 #[.val (.ref a_1), .val (.int (3 : Int32)), .val (.ref a_3), .val (.int p_4), .val (.int (((((p_4 + (1 : Int32)) + (1 : Int32)) + (1 : Int32)) + (1 : Int32)) + (1 : Int32))), .val (.int (1 : Int32))] [(.ref a_1), (.ref t_), (.int ((((p_4 + (1 : Int32)) + (1 : Int32)) + (1 : Int32)) + (1 : Int32))), (.ref a_3)])
    refine own_go (fun _ k => XS.iload X102.here hx rfl (hb hby own_d1_56) rfl k) ?_
    show own_Go _ _ _ _ T102 (mkF m 58 #[.val (.ref a_1), .val (.int (3 : Int32)), .val (.ref a_3), .val (.int p_4), .val (.int (((((p_4 + (1 : Int32)) + (1 : Int32)) + (1 : Int32)) + (1 : Int32)) + (1 : Int32))), .val (.int (1 : Int32))] [(.int (1 : Int32)), (.ref a_1), (.ref t_), (.int ((((p_4 + (1 : Int32)) + (1 : Int32)) + (1 : Int32)) + (1 : Int32))), (.ref a_3)])
    have f103 : own_AV Z h99 a_1 .byte (4 : Int32) gs := (f94.other W99 (own_ne (by omega)))
    obtain ⟨q104, c104, R104, s104, t104⟩ := id f103
    have hin104 : ¬ ((1 : Int32) < 0 ∨ c104.slots.size ≤ ((1 : Int32)).toNatClampNeg) := inb_of s104 ⟨by decide, by decide⟩
    have u104 : c104.slots[((1 : Int32)).toNatClampNeg]? = some (.int b1) := own_at (k := 1) t104 s104 hin104 (by decide) (hg1)
    refine own_go (fun _ k => X102.baloadBytes hx (j := (1 : Int32)) (v := (.int b1)) (by rw [e102]; exact R104.1) (State.isArrayOf_alike hZ.alike R104.2.1) R104.2.2 hin104 u104 (g := (mkF m 58 #[.val (.ref a_1), .val (.int (3 : Int32)), .val (.ref a_3), .val (.int p_4), .val (.int (((((p_4 + (1 : Int32)) + (1 : Int32)) + (1 : Int32)) + (1 : Int32)) + (1 : Int32))), .val (.int (1 : Int32))] [(.int (1 : Int32)), (.ref a_1), (.ref t_), (.int ((((p_4 + (1 : Int32)) + (1 : Int32)) + (1 : Int32)) + (1 : Int32))), (.ref a_3)])) rfl rfl (hb hby own_d1_58) _ k) ?_
    show own_Go _ _ _ _ T102 (mkF m 59 #[.val (.ref a_1), .val (.int (3 : Int32)), .val (.ref a_3), .val (.int p_4), .val (.int (((((p_4 + (1 : Int32)) + (1 : Int32)) + (1 : Int32)) + (1 : Int32)) + (1 : Int32))), .val (.int (1 : Int32))] [(.int b1), (.ref t_), (.int ((((p_4 + (1 : Int32)) + (1 : Int32)) + (1 : Int32)) + (1 : Int32))), (.ref a_3)])
    refine own_go (fun _ k => XS.bipush X102.here hx rfl (hb hby own_d1_59) k) ?_
    show own_Go _ _ _ _ T102 (mkF m 61 #[.val (.ref a_1), .val (.int (3 : Int32)), .val (.ref a_3), .val (.int p_4), .val (.int (((((p_4 + (1 : Int32)) + (1 : Int32)) + (1 : Int32)) + (1 : Int32)) + (1 : Int32))), .val (.int (1 : Int32))] [(.int (15 : Int32)), (.int b1), (.ref t_), (.int ((((p_4 + (1 : Int32)) + (1 : Int32)) + (1 : Int32)) + (1 : Int32))), (.ref a_3)])
    refine own_go (fun _ k => XS.iand X102.here hx rfl (hb hby own_d1_61) rfl k) ?_
    show own_Go _ _ _ _ T102 (mkF m 62 #[.val (.ref a_1), .val (.int (3 : Int32)), .val (.ref a_3), .val (.int p_4), .val (.int (((((p_4 + (1 : Int32)) + (1 : Int32)) + (1 : Int32)) + (1 : Int32)) + (1 : Int32))), .val (.int (1 : Int32))] [(.int (b1 &&& (15 : Int32))), (.ref t_), (.int ((((p_4 + (1 : Int32)) + (1 : Int32)) + (1 : Int32)) + (1 : Int32))), (.ref a_3)])
    have f105 : own_AV Z h99 t_ .byte (16 : Int32) (fun i => .int (own_hd i)) := (f96.other W99 (own_ne (by omega)))
    obtain ⟨q106, c106, R106, s106, t106⟩ := id f105
    have hin106 : ¬ ((b1 &&& (15 : Int32)) < 0 ∨ c106.slots.size ≤ ((b1 &&& (15 : Int32))).toNatClampNeg) := inb_of s106 (own_t1_21 b1 )
    have u106 : c106.slots[((b1 &&& (15 : Int32))).toNatClampNeg]? = some (.int (own_hd ((b1 &&& (15 : Int32))).toNatClampNeg)) := own_at (k := ((b1 &&& (15 : Int32))).toNatClampNeg) t106 s106 hin106 rfl (rfl)
    refine own_go (fun _ k => X102.baloadBytes hx (j := (b1 &&& (15 : Int32))) (v := (.int (own_hd ((b1 &&& (15 : Int32))).toNatClampNeg))) (by rw [e102]; exact R106.1) (State.isArrayOf_alike hZ.alike R106.2.1) R106.2.2 hin106 u106 (g := (mkF m 62 #[.val (.ref a_1), .val (.int (3 : Int32)), .val (.ref a_3), .val (.int p_4), .val (.int (((((p_4 + (1 : Int32)) + (1 : Int32)) + (1 : Int32)) + (1 : Int32)) + (1 : Int32))), .val (.int (1 : Int32))] [(.int (b1 &&& (15 : Int32))), (.ref t_), (.int ((((p_4 + (1 : Int32)) + (1 : Int32)) + (1 : Int32)) + (1 : Int32))), (.ref a_3)])) rfl rfl (hb hby own_d1_62) _ k) ?_
    show own_Go _ _ _ _ T102 (mkF m 63 #[.val (.ref a_1), .val (.int (3 : Int32)), .val (.ref a_3), .val (.int p_4), .val (.int (((((p_4 + (1 : Int32)) + (1 : Int32)) + (1 : Int32)) + (1 : Int32)) + (1 : Int32))), .val (.int (1 : Int32))] [(.int (own_hd ((b1 &&& (15 : Int32))).toNatClampNeg)), (.int ((((p_4 + (1 : Int32)) + (1 : Int32)) + (1 : Int32)) + (1 : Int32))), (.ref a_3)])
    obtain ⟨q107, c107, R107, s107, t107⟩ := id V99
    have hin107 : ¬ (((((p_4 + (1 : Int32)) + (1 : Int32)) + (1 : Int32)) + (1 : Int32)) < 0 ∨ c107.slots.size ≤ (((((p_4 + (1 : Int32)) + (1 : Int32)) + (1 : Int32)) + (1 : Int32))).toNatClampNeg) := inb_of s107 (own_t1_22 p_4 hp)
    obtain ⟨T108, h108, X108, e108, W108, st108⟩ := stB X102 hx hZ e102 R107 (j := ((((p_4 + (1 : Int32)) + (1 : Int32)) + (1 : Int32)) + (1 : Int32))) hin107 (g := (mkF m 63 #[.val (.ref a_1), .val (.int (3 : Int32)), .val (.ref a_3), .val (.int p_4), .val (.int (((((p_4 + (1 : Int32)) + (1 : Int32)) + (1 : Int32)) + (1 : Int32)) + (1 : Int32))), .val (.int (1 : Int32))] [(.int (own_hd ((b1 &&& (15 : Int32))).toNatClampNeg)), (.int ((((p_4 + (1 : Int32)) + (1 : Int32)) + (1 : Int32)) + (1 : Int32))), (.ref a_3)])) rfl rfl (hb hby own_d1_63)
    rw [own_nar_hd _] at W108
    have V108 : own_AV Z h108 a_3 .byte (16 : Int32) (own_upd (own_upd (own_upd (own_upd (own_upd fa (p_4).toNatClampNeg (.int (own_hd (((b0 >>> ((4 : Int32) &&& 31)) &&& (15 : Int32))).toNatClampNeg))) ((p_4 + (1 : Int32))).toNatClampNeg (.int (own_hd ((b0 &&& (15 : Int32))).toNatClampNeg))) (((p_4 + (1 : Int32)) + (1 : Int32))).toNatClampNeg (.int (32 : Int32))) ((((p_4 + (1 : Int32)) + (1 : Int32)) + (1 : Int32))).toNatClampNeg (.int (own_hd (((b1 >>> ((4 : Int32) &&& 31)) &&& (15 : Int32))).toNatClampNeg))) (((((p_4 + (1 : Int32)) + (1 : Int32)) + (1 : Int32)) + (1 : Int32))).toNatClampNeg (.int (own_hd ((b1 &&& (15 : Int32))).toNatClampNeg))) := own_AV.set (k := (((((p_4 + (1 : Int32)) + (1 : Int32)) + (1 : Int32)) + (1 : Int32))).toNatClampNeg) V99 W108 rfl
    have z109 := W108.size
    have K108 : Keep h0 h108 [a_3] := K99.wr W108 (Or.inl (List.mem_of_getElem? (i := 0) rfl))
    have N108 := Fr.snoc X108 N99 (by omega : n0 ≤ a_3)
    refine own_go (fun _ k => st108 _ k) ?_
    show own_Go _ _ _ _ T108 (mkF m 64 #[.val (.ref a_1), .val (.int (3 : Int32)), .val (.ref a_3), .val (.int p_4), .val (.int (((((p_4 + (1 : Int32)) + (1 : Int32)) + (1 : Int32)) + (1 : Int32)) + (1 : Int32))), .val (.int (1 : Int32))] [])
    refine own_go (fun _ k => XS.iinc X108.here hx rfl (hb hby own_d1_64) rfl (l' := #[.val (.ref a_1), .val (.int (3 : Int32)), .val (.ref a_3), .val (.int p_4), .val (.int (((((p_4 + (1 : Int32)) + (1 : Int32)) + (1 : Int32)) + (1 : Int32)) + (1 : Int32))), .val (.int (2 : Int32))]) rfl k) ?_
    show own_Go _ _ _ _ T108 (mkF m 67 #[.val (.ref a_1), .val (.int (3 : Int32)), .val (.ref a_3), .val (.int p_4), .val (.int (((((p_4 + (1 : Int32)) + (1 : Int32)) + (1 : Int32)) + (1 : Int32)) + (1 : Int32))), .val (.int (2 : Int32))] [])
    refine own_go (fun _ k => XS.goto X108.here hx rfl (pc0 := 67) (pc' := 6) rfl (hb hby own_d1_67) (by decide) (by decide) k) ?_
    show own_Go _ _ _ _ T108 (mkF m 6 #[.val (.ref a_1), .val (.int (3 : Int32)), .val (.ref a_3), .val (.int p_4), .val (.int (((((p_4 + (1 : Int32)) + (1 : Int32)) + (1 : Int32)) + (1 : Int32)) + (1 : Int32))), .val (.int (2 : Int32))] [])
    refine own_go (fun _ k => XS.iload X108.here hx rfl (hb hby own_d1_6) rfl k) ?_
    show own_Go _ _ _ _ T108 (mkF m 8 #[.val (.ref a_1), .val (.int (3 : Int32)), .val (.ref a_3), .val (.int p_4), .val (.int (((((p_4 + (1 : Int32)) + (1 : Int32)) + (1 : Int32)) + (1 : Int32)) + (1 : Int32))), .val (.int (2 : Int32))] [(.int (2 : Int32))])
    refine own_go (fun _ k => XS.iloadN X108.here hx rfl (hb hby own_d1_8) rfl k) ?_
    show own_Go _ _ _ _ T108 (mkF m 9 #[.val (.ref a_1), .val (.int (3 : Int32)), .val (.ref a_3), .val (.int p_4), .val (.int (((((p_4 + (1 : Int32)) + (1 : Int32)) + (1 : Int32)) + (1 : Int32)) + (1 : Int32))), .val (.int (2 : Int32))] [(.int (3 : Int32)), (.int (2 : Int32))])
    have hc110 : (2 : Int32) < (3 : Int32) := by decide
    refine own_go (fun _ k => XS.icmpNo X108.here hx rfl (hb hby own_d1_9) rfl (Jvm.Free.XT.ii_ge_f hc110) k) ?_
    show own_Go _ _ _ _ T108 (mkF m 12 #[.val (.ref a_1), .val (.int (3 : Int32)), .val (.ref a_3), .val (.int p_4), .val (.int (((((p_4 + (1 : Int32)) + (1 : Int32)) + (1 : Int32)) + (1 : Int32)) + (1 : Int32))), .val (.int (2 : Int32))] [])
    refine own_go (fun _ k => XS.iload X108.here hx rfl (hb hby own_d1_12) rfl k) ?_
    show own_Go _ _ _ _ T108 (mkF m 14 #[.val (.ref a_1), .val (.int (3 : Int32)), .val (.ref a_3), .val (.int p_4), .val (.int (((((p_4 + (1 : Int32)) + (1 : Int32)) + (1 : Int32)) + (1 : Int32)) + (1 : Int32))), .val (.int (2 : Int32))] [(.int (2 : Int32))])
    have hc111 : 0 < (2 : Int32) := by decide
    refine own_go (fun _ k => XS.ifNo X108.here hx rfl (hb hby own_d1_14) rfl (Jvm.Free.XT.i0_le_f hc111) k) ?_
    show own_Go _ _ _ _ T108 (mkF m 17 #[.val (.ref a_1), .val (.int (3 : Int32)), .val (.ref a_3), .val (.int p_4), .val (.int (((((p_4 + (1 : Int32)) + (1 : Int32)) + (1 : Int32)) + (1 : Int32)) + (1 : Int32))), .val (.int (2 : Int32))] [])
    refine own_go (fun _ k => XS.aloadN X108.here hx rfl (hb hby own_d1_17) rfl rfl k) ?_
    show own_Go _ _ _ _ T108 (mkF m 18 #[.val (.ref a_1), .val (.int (3 : Int32)), .val (.ref a_3), .val (.int p_4), .val (.int (((((p_4 + (1 : Int32)) + (1 : Int32)) + (1 : Int32)) + (1 : Int32)) + (1 : Int32))), .val (.int (2 : Int32))] [(.ref a_3)])
    refine own_go (fun _ k => XS.iload X108.here hx rfl (hb hby own_d1_18) rfl k) ?_
    show own_Go _ _ _ _ T108 (mkF m 20 #[.val (.ref a_1), .val (.int (3 : Int32)), .val (.ref a_3), .val (.int p_4), .val (.int (((((p_4 + (1 : Int32)) + (1 : Int32)) + (1 : Int32)) + (1 : Int32)) + (1 : Int32))), .val (.int (2 : Int32))] [(.int (((((p_4 + (1 : Int32)) + (1 : Int32)) + (1 : Int32)) + (1 : Int32)) + (1 : Int32))), (.ref a_3)])
    refine own_go (fun _ k => XS.iinc X108.here hx rfl (hb hby own_d1_20) rfl (l' := #[.val (.ref a_1), .val (.int (3 : Int32)), .val (.ref a_3), .val (.int p_4), .val (.int ((((((p_4 + (1 : Int32)) + (1 : Int32)) + (1 : Int32)) + (1 : Int32)) + (1 : Int32)) + (1 : Int32))), .val (.int (2 : Int32))]) rfl k) ?_
    show own_Go _ _ _ _ T108 (mkF m 23 #[.val (.ref a_1), .val (.int (3 : Int32)), .val (.ref a_3), .val (.int p_4), .val (.int ((((((p_4 + (1 : Int32)) + (1 : Int32)) + (1 : Int32)) + (1 : Int32)) + (1 : Int32)) + (1 : Int32))), .val (.int (2 : Int32))] [(.int (((((p_4 + (1 : Int32)) + (1 : Int32)) + (1 : Int32)) + (1 : Int32)) + (1 : Int32))), (.ref a_3)])
    refine own_go (fun _ k => XS.bipush X108.here hx rfl (hb hby own_d1_23) k) ?_
    show own_Go _ _ _ _ T108 (mkF m 25 #[.val (.ref a_1), .val (.int (3 : Int32)), .val (.ref a_3), .val (.int p_4), .val (.int ((((((p_4 + (1 : Int32)) + (1 : Int32)) + (1 : Int32)) + (1 : Int32)) + (1 : Int32)) + (1 : Int32))), .val (.int (2 : Int32))] [(.int (32 : Int32)), (.int (((((p_4 + (1 : Int32)) + (1 : Int32)) + (1 : Int32)) + (1 : Int32)) + (1 : Int32))), (.ref a_3)])
    obtain ⟨q112, c112, R112, s112, t112⟩ := id V108
    have hin112 : ¬ ((((((p_4 + (1 : Int32)) + (1 : Int32)) + (1 : Int32)) + (1 : Int32)) + (1 : Int32)) < 0 ∨ c112.slots.size ≤ ((((((p_4 + (1 : Int32)) + (1 : Int32)) + (1 : Int32)) + (1 : Int32)) + (1 : Int32))).toNatClampNeg) := inb_of s112 (own_t1_23 p_4 hp)
    obtain ⟨T113, h113, X113, e113, W113, st113⟩ := stB X108 hx hZ e108 R112 (j := (((((p_4 + (1 : Int32)) + (1 : Int32)) + (1 : Int32)) + (1 : Int32)) + (1 : Int32))) hin112 (g := (mkF m 25 #[.val (.ref a_1), .val (.int (3 : Int32)), .val (.ref a_3), .val (.int p_4), .val (.int ((((((p_4 + (1 : Int32)) + (1 : Int32)) + (1 : Int32)) + (1 : Int32)) + (1 : Int32)) + (1 : Int32))), .val (.int (2 : Int32))] [(.int (32 : Int32)), (.int (((((p_4 + (1 : Int32)) + (1 : Int32)) + (1 : Int32)) + (1 : Int32)) + (1 : Int32))), (.ref a_3)])) rfl rfl (hb hby own_d1_25)
    have V113 : own_AV Z h113 a_3 .byte (16 : Int32) (own_upd (own_upd (own_upd (own_upd (own_upd (own_upd fa (p_4).toNatClampNeg (.int (own_hd (((b0 >>> ((4 : Int32) &&& 31)) &&& (15 : Int32))).toNatClampNeg))) ((p_4 + (1 : Int32))).toNatClampNeg (.int (own_hd ((b0 &&& (15 : Int32))).toNatClampNeg))) (((p_4 + (1 : Int32)) + (1 : Int32))).toNatClampNeg (.int (32 : Int32))) ((((p_4 + (1 : Int32)) + (1 : Int32)) + (1 : Int32))).toNatClampNeg (.int (own_hd (((b1 >>> ((4 : Int32) &&& 31)) &&& (15 : Int32))).toNatClampNeg))) (((((p_4 + (1 : Int32)) + (1 : Int32)) + (1 : Int32)) + (1 : Int32))).toNatClampNeg (.int (own_hd ((b1 &&& (15 : Int32))).toNatClampNeg))) ((((((p_4 + (1 : Int32)) + (1 : Int32)) + (1 : Int32)) + (1 : Int32)) + (1 : Int32))).toNatClampNeg (.int (32 : Int32))) := own_AV.set (k := ((((((p_4 + (1 : Int32)) + (1 : Int32)) + (1 : Int32)) + (1 : Int32)) + (1 : Int32))).toNatClampNeg) V108 W113 rfl
    have z114 := W113.size
    have K113 : Keep h0 h113 [a_3] := K108.wr W113 (Or.inl (List.mem_of_getElem? (i := 0) rfl))
    have N113 := Fr.snoc X113 N108 (by omega : n0 ≤ a_3)
    refine own_go (fun _ k => st113 _ k) ?_
    show own_Go _ _ _ _ T113 (mkF m 26 #[.val (.ref a_1), .val (.int (3 : Int32)), .val (.ref a_3), .val (.int p_4), .val (.int ((((((p_4 + (1 : Int32)) + (1 : Int32)) + (1 : Int32)) + (1 : Int32)) + (1 : Int32)) + (1 : Int32))), .val (.int (2 : Int32))] [])
    refine own_go (fun _ k => XS.aloadN X113.here hx rfl (hb hby own_d1_26) rfl rfl k) ?_
    show own_Go _ _ _ _ T113 (mkF m 27 #[.val (.ref a_1), .val (.int (3 : Int32)), .val (.ref a_3), .val (.int p_4), .val (.int ((((((p_4 + (1 : Int32)) + (1 : Int32)) + (1 : Int32)) + (1 : Int32)) + (1 : Int32)) + (1 : Int32))), .val (.int (2 : Int32))] [(.ref a_3)])
    refine own_go (fun _ k => XS.iload X113.here hx rfl (hb hby own_d1_27) rfl k) ?_
    show own_Go _ _ _ _ T113 (mkF m 29 #[.val (.ref a_1), .val (.int (3 : Int32)), .val (.ref a_3), .val (.int p_4), .val (.int ((((((p_4 + (1 : Int32)) + (1 : Int32)) + (1 : Int32)) + (1 : Int32)) + (1 : Int32)) + (1 : Int32))), .val (.int (2 : Int32))] [(.int ((((((p_4 + (1 : Int32)) + (1 : Int32)) + (1 : Int32)) + (1 : Int32)) + (1 : Int32)) + (1 : Int32))), (.ref a_3)])
    refine own_go (fun _ k => XS.iinc X113.here hx rfl (hb hby own_d1_29) rfl (l' := #[.val (.ref a_1), .val (.int (3 : Int32)), .val (.ref a_3), .val (.int p_4), .val (.int (((((((p_4 + (1 : Int32)) + (1 : Int32)) + (1 : Int32)) + (1 : Int32)) + (1 : Int32)) + (1 : Int32)) + (1 : Int32))), .val (.int (2 : Int32))]) rfl k) ?_
    show own_Go _ _ _ _ T113 (mkF m 32 #[.val (.ref a_1), .val (.int (3 : Int32)), .val (.ref a_3), .val (.int p_4), .val (.int (((((((p_4 + (1 : Int32)) + (1 : Int32)) + (1 : Int32)) + (1 : Int32)) + (1 : Int32)) + (1 : Int32)) + (1 : Int32))), .val (.int (2 : Int32))] [(.int ((((((p_4 + (1 : Int32)) + (1 : Int32)) + (1 : Int32)) + (1 : Int32)) + (1 : Int32)) + (1 : Int32))), (.ref a_3)])
    have f115 : Sta Z h113 "com/example/honest_codec/honestcodec/IllFormedSequence" "HEX_DIGITS" "[B" (.ref t_) := ((f101.wr W108).wr W113)
    obtain ⟨T116, X116, e116, st116⟩ := getS2 X113 hx hZ hown (host := "") (Or.inl (hw _ (List.mem_of_getElem? (i := 6) rfl))) Via.refl e113 f115 (g := (mkF m 32 #[.val (.ref a_1), .val (.int (3 : Int32)), .val (.ref a_3), .val (.int p_4), .val (.int (((((((p_4 + (1 : Int32)) + (1 : Int32)) + (1 : Int32)) + (1 : Int32)) + (1 : Int32)) + (1 : Int32)) + (1 : Int32))), .val (.int (2 : Int32))] [(.int ((((((p_4 + (1 : Int32)) + (1 : Int32)) + (1 : Int32)) + (1 : Int32)) + (1 : Int32)) + (1 : Int32))), (.ref a_3)])) rfl (hb hby own_d1_32)
    refine own_go (fun _ k => st116 _ k) ?_
    show own_Go _ _ _ _ T116 (mkF m 35 #[.val (.ref a_1), .val (.int (3 : Int32)), .val (.ref a_3), .val (.int p_4), .val (.int (((((((p_4 + (1 : Int32)) + (1 : Int32)) + (1 : Int32)) + (1 : Int32)) + (1 : Int32)) + (1 : Int32)) + (1 : Int32))), .val (.int (2 : Int32))] [(.ref t_), (.int ((((((p_4 + (1 : Int32)) + (1 : Int32)) + (1 : Int32)) + (1 : Int32)) + (1 : Int32)) + (1 : Int32))), (.ref a_3)])
    refine own_go (fun _ k => XS.aloadN X116.here hx rfl (hb hby own_d1_35) rfl rfl k) ?_
    show own_Go _ _ _ _ T116 (mkF m 36 #[.val (.ref a_1), .val (.int (3 : Int32)), .val (.ref a_3), .val (.int p_4), .val (.int (((((((p_4 + (1 : Int32)) + (1 : Int32)) + (1 : Int32)) + (1 : Int32)) + (1 : Int32)) + (1 : Int32)) + (1 : Int32))), .val (.int (2 : Int32))] [(.ref a_1), (.ref t_), (.int ((((((p_4 + (1 : Int32)) + (1 : Int32)) + (1 : Int32)) + (1 : Int32)) + (1 : Int32)) + (1 : Int32))), (.ref a_3)])
    refine own_go (fun _ k => XS.iload X116.here hx rfl (hb hby own_d1_36) rfl k) ?_
    show own_Go _ _ _ _ T116 (mkF m 38 #[.val (.ref a_1), .val (.int (3 : Int32)), .val (.ref a_3), .val (.int p_4), .val (.int (((((((p_4 + (1 : Int32)) + (1 : Int32)) + (1 : Int32)) + (1 : Int32)) + (1 : Int32)) + (1 : Int32)) + (1 : Int32))), .val (.int (2 : Int32))] [(.int (2 : Int32)), (.ref a_1), (.ref t_), (.int ((((((p_4 + (1 : Int32)) + (1 : Int32)) + (1 : Int32)) + (1 : Int32)) + (1 : Int32)) + (1 : Int32))), (.ref a_3)])
    have f117 : own_AV Z h113 a_1 .byte (4 : Int32) gs := ((f103.other W108 (own_ne (by omega))).other W113 (own_ne (by omega)))
    obtain ⟨q118, c118, R118, s118, t118⟩ := id f117
    have hin118 : ¬ ((2 : Int32) < 0 ∨ c118.slots.size ≤ ((2 : Int32)).toNatClampNeg) := inb_of s118 ⟨by decide, by decide⟩
    have u118 : c118.slots[((2 : Int32)).toNatClampNeg]? = some (.int b2) := own_at (k := 2) t118 s118 hin118 (by decide) (hg2)
    refine own_go (fun _ k => X116.baloadBytes hx (j := (2 : Int32)) (v := (.int b2)) (by rw [e116]; exact R118.1) (State.isArrayOf_alike hZ.alike R118.2.1) R118.2.2 hin118 u118 (g := (mkF m 38 #[.val (.ref a_1), .val (.int (3 : Int32)), .val (.ref a_3), .val (.int p_4), .val (.int (((((((p_4 + (1 : Int32)) + (1 : Int32)) + (1 : Int32)) + (1 : Int32)) + (1 : Int32)) + (1 : Int32)) + (1 : Int32))), .val (.int (2 : Int32))] [(.int (2 : Int32)), (.ref a_1), (.ref t_), (.int ((((((p_4 + (1 : Int32)) + (1 : Int32)) + (1 : Int32)) + (1 : Int32)) + (1 : Int32)) + (1 : Int32))), (.ref a_3)])) rfl rfl (hb hby own_d1_38) _ k) ?_
    show own_Go _ _ _ _ T116 (mkF m 39 #[.val (.ref a_1), .val (.int (3 : Int32)), .val (.ref a_3), .val (.int p_4), .val (.int (((((((p_4 + (1 : Int32)) + (1 : Int32)) + (1 : Int32)) + (1 : Int32)) + (1 : Int32)) + (1 : Int32)) + (1 : Int32))), .val (.int (2 : Int32))] [(.int b2), (.ref t_), (.int ((((((p_4 + (1 : Int32)) + (1 : Int32)) + (1 : Int32)) + (1 : Int32)) + (1 : Int32)) + (1 : Int32))), (.ref a_3)])
    refine own_go (fun _ k => XS.iconst X116.here hx rfl (hb hby own_d1_39) k) ?_
    show own_Go _ _ _ _ T116 (mkF m 40 #[.val (.ref a_1), .val (.int (3 : Int32)), .val (.ref a_3), .val (.int p_4), .val (.int (((((((p_4 + (1 : Int32)) + (1 : Int32)) + (1 : Int32)) + (1 : Int32)) + (1 : Int32)) + (1 : Int32)) + (1 : Int32))), .val (.int (2 : Int32))] [(.int (4 : Int32)), (.int b2), (.ref t_), (.int ((((((p_4 + (1 : Int32)) + (1 : Int32)) + (1 : Int32)) + (1 : Int32)) + (1 : Int32)) + (1 : Int32))), (.ref a_3)])
    refine own_go (fun _ k => XS.ishr X116.here hx rfl (hb hby own_d1_40) rfl k) ?_
    show own_Go _ _ _ _ T116 (mkF m 41 #[.val (.ref a_1), .val (.int (3 : Int32)), .val (.ref a_3), .val (.int p_4), .val (.int (((((((p_4 + (1 : Int32)) + (1 : Int32)) + (1 : Int32)) + (1 : Int32)) + (1 : Int32)) + (1 : Int32)) + (1 : Int32))), .val (.int (2 : Int32))] [(.int (b2 >>> ((4 : Int32) &&& 31))), (.ref t_), (.int ((((((p_4 + (1 : Int32)) + (1 : Int32)) + (1 : Int32)) + (1 : Int32)) + (1 : Int32)) + (1 : Int32))), (.ref a_3)])
    refine own_go (fun _ k => XS.bipush X116.here hx rfl (hb hby own_d1_41) k) ?_
    show own_Go _ _ _ _ T116 (mkF m 43 #[.val (.ref a_1), .val (.int (3 : Int32)), .val (.ref a_3), .val (.int p_4), .val (.int (((((((p_4 + (1 : Int32)) + (1 : Int32)) + (1 : Int32)) + (1 : Int32)) + (1 : Int32)) + (1 : Int32)) + (1 : Int32))), .val (.int (2 : Int32))] [(.int (15 : Int32)), (.int (b2 >>> ((4 : Int32) &&& 31))), (.ref t_), (.int ((((((p_4 + (1 : Int32)) + (1 : Int32)) + (1 : Int32)) + (1 : Int32)) + (1 : Int32)) + (1 : Int32))), (.ref a_3)])
    refine own_go (fun _ k => XS.iand X116.here hx rfl (hb hby own_d1_43) rfl k) ?_
    show own_Go _ _ _ _ T116 (mkF m 44 #[.val (.ref a_1), .val (.int (3 : Int32)), .val (.ref a_3), .val (.int p_4), .val (.int (((((((p_4 + (1 : Int32)) + (1 : Int32)) + (1 : Int32)) + (1 : Int32)) + (1 : Int32)) + (1 : Int32)) + (1 : Int32))), .val (.int (2 : Int32))] [(.int ((b2 >>> ((4 : Int32) &&& 31)) &&& (15 : Int32))), (.ref t_), (.int ((((((p_4 + (1 : Int32)) + (1 : Int32)) + (1 : Int32)) + (1 : Int32)) + (1 : Int32)) + (1 : Int32))), (.ref a_3)])
    have f119 : own_AV Z h113 t_ .byte (16 : Int32) (fun i => .int (own_hd i)) := ((f105.other W108 (own_ne (by omega))).other W113 (own_ne (by omega)))
    obtain ⟨q120, c120, R120, s120, t120⟩ := id f119
    have hin120 : ¬ (((b2 >>> ((4 : Int32) &&& 31)) &&& (15 : Int32)) < 0 ∨ c120.slots.size ≤ (((b2 >>> ((4 : Int32) &&& 31)) &&& (15 : Int32))).toNatClampNeg) := inb_of s120 (own_t1_24 b2 )
    have u120 : c120.slots[(((b2 >>> ((4 : Int32) &&& 31)) &&& (15 : Int32))).toNatClampNeg]? = some (.int (own_hd (((b2 >>> ((4 : Int32) &&& 31)) &&& (15 : Int32))).toNatClampNeg)) := own_at (k := (((b2 >>> ((4 : Int32) &&& 31)) &&& (15 : Int32))).toNatClampNeg) t120 s120 hin120 rfl (rfl)
    refine own_go (fun _ k => X116.baloadBytes hx (j := ((b2 >>> ((4 : Int32) &&& 31)) &&& (15 : Int32))) (v := (.int (own_hd (((b2 >>> ((4 : Int32) &&& 31)) &&& (15 : Int32))).toNatClampNeg))) (by rw [e116]; exact R120.1) (State.isArrayOf_alike hZ.alike R120.2.1) R120.2.2 hin120 u120 (g := (mkF m 44 #[.val (.ref a_1), .val (.int (3 : Int32)), .val (.ref a_3), .val (.int p_4), .val (.int (((((((p_4 + (1 : Int32)) + (1 : Int32)) + (1 : Int32)) + (1 : Int32)) + (1 : Int32)) + (1 : Int32)) + (1 : Int32))), .val (.int (2 : Int32))] [(.int ((b2 >>> ((4 : Int32) &&& 31)) &&& (15 : Int32))), (.ref t_), (.int ((((((p_4 + (1 : Int32)) + (1 : Int32)) + (1 : Int32)) + (1 : Int32)) + (1 : Int32)) + (1 : Int32))), (.ref a_3)])) rfl rfl (hb hby own_d1_44) _ k) ?_
    show own_Go _ _ _ _ T116 (mkF m 45 #[.val (.ref a_1), .val (.int (3 : Int32)), .val (.ref a_3), .val (.int p_4), .val (.int (((((((p_4 + (1 : Int32)) + (1 : Int32)) + (1 : Int32)) + (1 : Int32)) + (1 : Int32)) + (1 : Int32)) + (1 : Int32))), .val (.int (2 : Int32))] [(.int (own_hd (((b2 >>> ((4 : Int32) &&& 31)) &&& (15 : Int32))).toNatClampNeg)), (.int ((((((p_4 + (1 : Int32)) + (1 : Int32)) + (1 : Int32)) + (1 : Int32)) + (1 : Int32)) + (1 : Int32))), (.ref a_3)])
    obtain ⟨q121, c121, R121, s121, t121⟩ := id V113
    have hin121 : ¬ (((((((p_4 + (1 : Int32)) + (1 : Int32)) + (1 : Int32)) + (1 : Int32)) + (1 : Int32)) + (1 : Int32)) < 0 ∨ c121.slots.size ≤ (((((((p_4 + (1 : Int32)) + (1 : Int32)) + (1 : Int32)) + (1 : Int32)) + (1 : Int32)) + (1 : Int32))).toNatClampNeg) := inb_of s121 (own_t1_25 p_4 hp)
    obtain ⟨T122, h122, X122, e122, W122, st122⟩ := stB X116 hx hZ e116 R121 (j := ((((((p_4 + (1 : Int32)) + (1 : Int32)) + (1 : Int32)) + (1 : Int32)) + (1 : Int32)) + (1 : Int32))) hin121 (g := (mkF m 45 #[.val (.ref a_1), .val (.int (3 : Int32)), .val (.ref a_3), .val (.int p_4), .val (.int (((((((p_4 + (1 : Int32)) + (1 : Int32)) + (1 : Int32)) + (1 : Int32)) + (1 : Int32)) + (1 : Int32)) + (1 : Int32))), .val (.int (2 : Int32))] [(.int (own_hd (((b2 >>> ((4 : Int32) &&& 31)) &&& (15 : Int32))).toNatClampNeg)), (.int ((((((p_4 + (1 : Int32)) + (1 : Int32)) + (1 : Int32)) + (1 : Int32)) + (1 : Int32)) + (1 : Int32))), (.ref a_3)])) rfl rfl (hb hby own_d1_45)
    rw [own_nar_hd _] at W122
    have V122 : own_AV Z h122 a_3 .byte (16 : Int32) (own_upd (own_upd (own_upd (own_upd (own_upd (own_upd (own_upd fa (p_4).toNatClampNeg (.int (own_hd (((b0 >>> ((4 : Int32) &&& 31)) &&& (15 : Int32))).toNatClampNeg))) ((p_4 + (1 : Int32))).toNatClampNeg (.int (own_hd ((b0 &&& (15 : Int32))).toNatClampNeg))) (((p_4 + (1 : Int32)) + (1 : Int32))).toNatClampNeg (.int (32 : Int32))) ((((p_4 + (1 : Int32)) + (1 : Int32)) + (1 : Int32))).toNatClampNeg (.int (own_hd (((b1 >>> ((4 : Int32) &&& 31)) &&& (15 : Int32))).toNatClampNeg))) (((((p_4 + (1 : Int32)) + (1 : Int32)) + (1 : Int32)) + (1 : Int32))).toNatClampNeg (.int (own_hd ((b1 &&& (15 : Int32))).toNatClampNeg))) ((((((p_4 + (1 : Int32)) + (1 : Int32)) + (1 : Int32)) + (1 : Int32)) + (1 : Int32))).toNatClampNeg (.int (32 : Int32))) (((((((p_4 + (1 : Int32)) + (1 : Int32)) + (1 : Int32)) + (1 : Int32)) + (1 : Int32)) + (1 : Int32))).toNatClampNeg (.int (own_hd (((b2 >>> ((4 : Int32) &&& 31)) &&& (15 : Int32))).toNatClampNeg))) := own_AV.set (k := (((((((p_4 + (1 : Int32)) + (1 : Int32)) + (1 : Int32)) + (1 : Int32)) + (1 : Int32)) + (1 : Int32))).toNatClampNeg) V113 W122 rfl
    have z123 := W122.size
    have K122 : Keep h0 h122 [a_3] := K113.wr W122 (Or.inl (List.mem_of_getElem? (i := 0) rfl))
    have N122 := Fr.snoc X122 N113 (by omega : n0 ≤ a_3)
    refine own_go (fun _ k => st122 _ k) ?_
    show own_Go _ _ _ _ T122 (mkF m 46 #[.val (.ref a_1), .val (.int (3 : Int32)), .val (.ref a_3), .val (.int p_4), .val (.int (((((((p_4 + (1 : Int32)) + (1 : Int32)) + (1 : Int32)) + (1 : Int32)) + (1 : Int32)) + (1 : Int32)) + (1 : Int32))), .val (.int (2 : Int32))] [])
    refine own_go (fun _ k => XS.aloadN X122.here hx rfl (hb hby own_d1_46) rfl rfl k) ?_
    show own_Go _ _ _ _ T122 (mkF m 47 #[.val (.ref a_1), .val (.int (3 : Int32)), .val (.ref a_3), .val (.int p_4), .val (.int (((((((p_4 + (1 : Int32)) + (1 : Int32)) + (1 : Int32)) + (1 : Int32)) + (1 : Int32)) + (1 : Int32)) + (1 : Int32))), .val (.int (2 : Int32))] [(.ref a_3)])
    refine own_go (fun _ k => XS.iload X122.here hx rfl (hb hby own_d1_47) rfl k) ?_
    show own_Go _ _ _ _ T122 (mkF m 49 #[.val (.ref a_1), .val (.int (3 : Int32)), .val (.ref a_3), .val (.int p_4), .val (.int (((((((p_4 + (1 : Int32)) + (1 : Int32)) + (1 : Int32)) + (1 : Int32)) + (1 : Int32)) + (1 : Int32)) + (1 : Int32))), .val (.int (2 : Int32))] [(.int (((((((p_4 + (1 : Int32)) + (1 : Int32)) + (1 : Int32)) + (1 : Int32)) + (1 : Int32)) + (1 : Int32)) + (1 : Int32))), (.ref a_3)])
    refine own_go (fun _ k => XS.iinc X122.here hx rfl (hb hby own_d1_49) rfl (l' := #[.val (.ref a_1), .val (.int (3 : Int32)), .val (.ref a_3), .val (.int p_4), .val (.int ((((((((p_4 + (1 : Int32)) + (1 : Int32)) + (1 : Int32)) + (1 : Int32)) + (1 : Int32)) + (1 : Int32)) + (1 : Int32)) + (1 : Int32))), .val (.int (2 : Int32))]) rfl k) ?_
    show own_Go _ _ _ _ T122 (mkF m 52 #[.val (.ref a_1), .val (.int (3 : Int32)), .val (.ref a_3), .val (.int p_4), .val (.int ((((((((p_4 + (1 : Int32)) + (1 : Int32)) + (1 : Int32)) + (1 : Int32)) + (1 : Int32)) + (1 : Int32)) + (1 : Int32)) + (1 : Int32))), .val (.int (2 : Int32))] [(.int (((((((p_4 + (1 : Int32)) + (1 : Int32)) + (1 : Int32)) + (1 : Int32)) + (1 : Int32)) + (1 : Int32)) + (1 : Int32))), (.ref a_3)])
    have f124 : Sta Z h122 "com/example/honest_codec/honestcodec/IllFormedSequence" "HEX_DIGITS" "[B" (.ref t_) := (f115.wr W122)
    obtain ⟨T125, X125, e125, st125⟩ := getS2 X122 hx hZ hown (host := "") (Or.inl (hw _ (List.mem_of_getElem? (i := 6) rfl))) Via.refl e122 f124 (g := (mkF m 52 #[.val (.ref a_1), .val (.int (3 : Int32)), .val (.ref a_3), .val (.int p_4), .val (.int ((((((((p_4 + (1 : Int32)) + (1 : Int32)) + (1 : Int32)) + (1 : Int32)) + (1 : Int32)) + (1 : Int32)) + (1 : Int32)) + (1 : Int32))), .val (.int (2 : Int32))] [(.int (((((((p_4 + (1 : Int32)) + (1 : Int32)) + (1 : Int32)) + (1 : Int32)) + (1 : Int32)) + (1 : Int32)) + (1 : Int32))), (.ref a_3)])) rfl (hb hby own_d1_52)
    refine own_go (fun _ k => st125 _ k) ?_
    show own_Go _ _ _ _ T125 (mkF m 55 #[.val (.ref a_1), .val (.int (3 : Int32)), .val (.ref a_3), .val (.int p_4), .val (.int ((((((((p_4 + (1 : Int32)) + (1 : Int32)) + (1 : Int32)) + (1 : Int32)) + (1 : Int32)) + (1 : Int32)) + (1 : Int32)) + (1 : Int32))), .val (.int (2 : Int32))] [(.ref t_), (.int (((((((p_4 + (1 : Int32)) + (1 : Int32)) + (1 : Int32)) + (1 : Int32)) + (1 : Int32)) + (1 : Int32)) + (1 : Int32))), (.ref a_3)])
    refine own_go (fun _ k => XS.aloadN X125.here hx rfl (hb hby own_d1_55) rfl rfl k) ?_
    show own_Go _ _ _ _ T125 (mkF m 56 #[.val (.ref a_1), .val (.int (3 : Int32)), .val (.ref a_3), .val (.int p_4), .val (.int ((((((((p_4 + (1 : Int32)) + (1 : Int32)) + (1 : Int32)) + (1 : Int32)) + (1 : Int32)) + (1 : Int32)) + (1 : Int32)) + (1 : Int32))), .val (.int (2 : Int32))] [(.ref a_1), (.ref t_), (.int (((((((p_4 + (1 : Int32)) + (1 : Int32)) + (1 : Int32)) + (1 : Int32)) + (1 : Int32)) + (1 : Int32)) + (1 : Int32))), (.ref a_3)])
    refine own_go (fun _ k => XS.iload X125.here hx rfl (hb hby own_d1_56) rfl k) ?_
    show own_Go _ _ _ _ T125 (mkF m 58 #[.val (.ref a_1), .val (.int (3 : Int32)), .val (.ref a_3), .val (.int p_4), .val (.int ((((((((p_4 + (1 : Int32)) + (1 : Int32)) + (1 : Int32)) + (1 : Int32)) + (1 : Int32)) + (1 : Int32)) + (1 : Int32)) + (1 : Int32))), .val (.int (2 : Int32))] [(.int (2 : Int32)), (.ref a_1), (.ref t_), (.int (((((((p_4 + (1 : Int32)) + (1 : Int32)) + (1 : Int32)) + (1 : Int32)) + (1 : Int32)) + (1 : Int32)) + (1 : Int32))), (.ref a_3)])
    have f126 : own_AV Z h122 a_1 .byte (4 : Int32) gs := (f117.other W122 (own_ne (by omega)))
    obtain ⟨q127, c127, R127, s127, t127⟩ := id f126
    have hin127 : ¬ ((2 : Int32) < 0 ∨ c127.slots.size ≤ ((2 : Int32)).toNatClampNeg) := inb_of s127 ⟨by decide, by decide⟩
    have u127 : c127.slots[((2 : Int32)).toNatClampNeg]? = some (.int b2) := own_at (k := 2) t127 s127 hin127 (by decide) (hg2)
    refine own_go (fun _ k => X125.baloadBytes hx (j := (2 : Int32)) (v := (.int b2)) (by rw [e125]; exact R127.1) (State.isArrayOf_alike hZ.alike R127.2.1) R127.2.2 hin127 u127 (g := (mkF m 58 #[.val (.ref a_1), .val (.int (3 : Int32)), .val (.ref a_3), .val (.int p_4), .val (.int ((((((((p_4 + (1 : Int32)) + (1 : Int32)) + (1 : Int32)) + (1 : Int32)) + (1 : Int32)) + (1 : Int32)) + (1 : Int32)) + (1 : Int32))), .val (.int (2 : Int32))] [(.int (2 : Int32)), (.ref a_1), (.ref t_), (.int (((((((p_4 + (1 : Int32)) + (1 : Int32)) + (1 : Int32)) + (1 : Int32)) + (1 : Int32)) + (1 : Int32)) + (1 : Int32))), (.ref a_3)])) rfl rfl (hb hby own_d1_58) _ k) ?_
    show own_Go _ _ _ _ T125 (mkF m 59 #[.val (.ref a_1), .val (.int (3 : Int32)), .val (.ref a_3), .val (.int p_4), .val (.int ((((((((p_4 + (1 : Int32)) + (1 : Int32)) + (1 : Int32)) + (1 : Int32)) + (1 : Int32)) + (1 : Int32)) + (1 : Int32)) + (1 : Int32))), .val (.int (2 : Int32))] [(.int b2), (.ref t_), (.int (((((((p_4 + (1 : Int32)) + (1 : Int32)) + (1 : Int32)) + (1 : Int32)) + (1 : Int32)) + (1 : Int32)) + (1 : Int32))), (.ref a_3)])
    refine own_go (fun _ k => XS.bipush X125.here hx rfl (hb hby own_d1_59) k) ?_
    show own_Go _ _ _ _ T125 (mkF m 61 #[.val (.ref a_1), .val (.int (3 : Int32)), .val (.ref a_3), .val (.int p_4), .val (.int ((((((((p_4 + (1 : Int32)) + (1 : Int32)) + (1 : Int32)) + (1 : Int32)) + (1 : Int32)) + (1 : Int32)) + (1 : Int32)) + (1 : Int32))), .val (.int (2 : Int32))] [(.int (15 : Int32)), (.int b2), (.ref t_), (.int (((((((p_4 + (1 : Int32)) + (1 : Int32)) + (1 : Int32)) + (1 : Int32)) + (1 : Int32)) + (1 : Int32)) + (1 : Int32))), (.ref a_3)])
    refine own_go (fun _ k => XS.iand X125.here hx rfl (hb hby own_d1_61) rfl k) ?_
    show own_Go _ _ _ _ T125 (mkF m 62 #[.val (.ref a_1), .val (.int (3 : Int32)), .val (.ref a_3), .val (.int p_4), .val (.int ((((((((p_4 + (1 : Int32)) + (1 : Int32)) + (1 : Int32)) + (1 : Int32)) + (1 : Int32)) + (1 : Int32)) + (1 : Int32)) + (1 : Int32))), .val (.int (2 : Int32))] [(.int (b2 &&& (15 : Int32))), (.ref t_), (.int (((((((p_4 + (1 : Int32)) + (1 : Int32)) + (1 : Int32)) + (1 : Int32)) + (1 : Int32)) + (1 : Int32)) + (1 : Int32))), (.ref a_3)])
    have f128 : own_AV Z h122 t_ .byte (16 : Int32) (fun i => .int (own_hd i)) := (f119.other W122 (own_ne (by omega)))
    obtain ⟨q129, c129, R129, s129, t129⟩ := id f128
    have hin129 : ¬ ((b2 &&& (15 : Int32)) < 0 ∨ c129.slots.size ≤ ((b2 &&& (15 : Int32))).toNatClampNeg) := inb_of s129 (own_t1_26 b2 )
    have u129 : c129.slots[((b2 &&& (15 : Int32))).toNatClampNeg]? = some (.int (own_hd ((b2 &&& (15 : Int32))).toNatClampNeg)) := own_at (k := ((b2 &&& (15 : Int32))).toNatClampNeg) t129 s129 hin129 rfl (rfl)
    refine own_go (fun _ k => X125.baloadBytes hx (j := (b2 &&& (15 : Int32))) (v := (.int (own_hd ((b2 &&& (15 : Int32))).toNatClampNeg))) (by rw [e125]; exact R129.1) (State.isArrayOf_alike hZ.alike R129.2.1) R129.2.2 hin129 u129 (g := (mkF m 62 #[.val (.ref a_1), .val (.int (3 : Int32)), .val (.ref a_3), .val (.int p_4), .val (.int ((((((((p_4 + (1 : Int32)) + (1 : Int32)) + (1 : Int32)) + (1 : Int32)) + (1 : Int32)) + (1 : Int32)) + (1 : Int32)) + (1 : Int32))), .val (.int (2 : Int32))] [(.int (b2 &&& (15 : Int32))), (.ref t_), (.int (((((((p_4 + (1 : Int32)) + (1 : Int32)) + (1 : Int32)) + (1 : Int32)) + (1 : Int32)) + (1 : Int32)) + (1 : Int32))), (.ref a_3)])) rfl rfl (hb hby own_d1_62) _ k) ?_
    show own_Go _ _ _ _ T125 (mkF m 63 #[.val (.ref a_1), .val (.int (3 : Int32)), .val (.ref a_3), .val (.int p_4), .val (.int ((((((((p_4 + (1 : Int32)) + (1 : Int32)) + (1 : Int32)) + (1 : Int32)) + (1 : Int32)) + (1 : Int32)) + (1 : Int32)) + (1 : Int32))), .val (.int (2 : Int32))] [(.int (own_hd ((b2 &&& (15 : Int32))).toNatClampNeg)), (.int (((((((p_4 + (1 : Int32)) + (1 : Int32)) + (1 : Int32)) + (1 : Int32)) + (1 : Int32)) + (1 : Int32)) + (1 : Int32))), (.ref a_3)])
    obtain ⟨q130, c130, R130, s130, t130⟩ := id V122
    have hin130 : ¬ ((((((((p_4 + (1 : Int32)) + (1 : Int32)) + (1 : Int32)) + (1 : Int32)) + (1 : Int32)) + (1 : Int32)) + (1 : Int32)) < 0 ∨ c130.slots.size ≤ ((((((((p_4 + (1 : Int32)) + (1 : Int32)) + (1 : Int32)) + (1 : Int32)) + (1 : Int32)) + (1 : Int32)) + (1 : Int32))).toNatClampNeg) := inb_of s130 (own_t1_27 p_4 hp)
    obtain ⟨T131, h131, X131, e131, W131, st131⟩ := stB X125 hx hZ e125 R130 (j := (((((((p_4 + (1 : Int32)) + (1 : Int32)) + (1 : Int32)) + (1 : Int32)) + (1 : Int32)) + (1 : Int32)) + (1 : Int32))) hin130 (g := (mkF m 63 #[.val (.ref a_1), .val (.int (3 : Int32)), .val (.ref a_3), .val (.int p_4), .val (.int ((((((((p_4 + (1 : Int32)) + (1 : Int32)) + (1 : Int32)) + (1 : Int32)) + (1 : Int32)) + (1 : Int32)) + (1 : Int32)) + (1 : Int32))), .val (.int (2 : Int32))] [(.int (own_hd ((b2 &&& (15 : Int32))).toNatClampNeg)), (.int (((((((p_4 + (1 : Int32)) + (1 : Int32)) + (1 : Int32)) + (1 : Int32)) + (1 : Int32)) + (1 : Int32)) + (1 : Int32))), (.ref a_3)])) rfl rfl (hb hby own_d1_63)
    rw [own_nar_hd _] at W131
    have V131 : own_AV Z h131 a_3 .byte (16 : Int32) (own_upd (own_upd (own_upd (own_upd (own_upd (own_upd (own_upd (own_upd fa (p_4).toNatClampNeg (.int (own_hd (((b0 >>> ((4 : Int32) &&& 31)) &&& (15 : Int32))).toNatClampNeg))) ((p_4 + (1 : Int32))).toNatClampNeg (.int (own_hd ((b0 &&& (15 : Int32))).toNatClampNeg))) (((p_4 + (1 : Int32)) + (1 : Int32))).toNatClampNeg (.int (32 : Int32))) ((((p_4 + (1 : Int32)) + (1 : Int32)) + (1 : Int32))).toNatClampNeg (.int (own_hd (((b1 >>> ((4 : Int32) &&& 31)) &&& (15 : Int32))).toNatClampNeg))) (((((p_4 + (1 : Int32)) + (1 : Int32)) + (1 : Int32)) + (1 : Int32))).toNatClampNeg (.int (own_hd ((b1 &&& (15 : Int32))).toNatClampNeg))) ((((((p_4 + (1 : Int32)) + (1 : Int32)) + (1 : Int32)) + (1 : Int32)) + (1 : Int32))).toNatClampNeg (.int (32 : Int32))) (((((((p_4 + (1 : Int32)) + (1 : Int32)) + (1 : Int32)) + (1 : Int32)) + (1 : Int32)) + (1 : Int32))).toNatClampNeg (.int (own_hd (((b2 >>> ((4 : Int32) &&& 31)) &&& (15 : Int32))).toNatClampNeg))) ((((((((p_4 + (1 : Int32)) + (1 : Int32)) + (1 : Int32)) + (1 : Int32)) + (1 : Int32)) + (1 : Int32)) + (1 : Int32))).toNatClampNeg (.int (own_hd ((b2 &&& (15 : Int32))).toNatClampNeg))) := own_AV.set (k := ((((((((p_4 + (1 : Int32)) + (1 : Int32)) + (1 : Int32)) + (1 : Int32)) + (1 : Int32)) + (1 : Int32)) + (1 : Int32))).toNatClampNeg) V122 W131 rfl
    have z132 := W131.size
    have K131 : Keep h0 h131 [a_3] := K122.wr W131 (Or.inl (List.mem_of_getElem? (i := 0) rfl))
    have N131 := Fr.snoc X131 N122 (by omega : n0 ≤ a_3)
    refine own_go (fun _ k => st131 _ k) ?_
    show own_Go _ _ _ _ T131 (mkF m 64 #[.val (.ref a_1), .val (.int (3 : Int32)), .val (.ref a_3), .val (.int p_4), .val (.int ((((((((p_4 + (1 : Int32)) + (1 : Int32)) + (1 : Int32)) + (1 : Int32)) + (1 : Int32)) + (1 : Int32)) + (1 : Int32)) + (1 : Int32))), .val (.int (2 : Int32))] [])
    refine own_go (fun _ k => XS.iinc X131.here hx rfl (hb hby own_d1_64) rfl (l' := #[.val (.ref a_1), .val (.int (3 : Int32)), .val (.ref a_3), .val (.int p_4), .val (.int ((((((((p_4 + (1 : Int32)) + (1 : Int32)) + (1 : Int32)) + (1 : Int32)) + (1 : Int32)) + (1 : Int32)) + (1 : Int32)) + (1 : Int32))), .val (.int (3 : Int32))]) rfl k) ?_
    show own_Go _ _ _ _ T131 (mkF m 67 #[.val (.ref a_1), .val (.int (3 : Int32)), .val (.ref a_3), .val (.int p_4), .val (.int ((((((((p_4 + (1 : Int32)) + (1 : Int32)) + (1 : Int32)) + (1 : Int32)) + (1 : Int32)) + (1 : Int32)) + (1 : Int32)) + (1 : Int32))), .val (.int (3 : Int32))] [])
    refine own_go (fun _ k => XS.goto X131.here hx rfl (pc0 := 67) (pc' := 6) rfl (hb hby own_d1_67) (by decide) (by decide) k) ?_
    show own_Go _ _ _ _ T131 (mkF m 6 #[.val (.ref a_1), .val (.int (3 : Int32)), .val (.ref a_3), .val (.int p_4), .val (.int ((((((((p_4 + (1 : Int32)) + (1 : Int32)) + (1 : Int32)) + (1 : Int32)) + (1 : Int32)) + (1 : Int32)) + (1 : Int32)) + (1 : Int32))), .val (.int (3 : Int32))] [])
    refine own_go (fun _ k => XS.iload X131.here hx rfl (hb hby own_d1_6) rfl k) ?_
    show own_Go _ _ _ _ T131 (mkF m 8 #[.val (.ref a_1), .val (.int (3 : Int32)), .val (.ref a_3), .val (.int p_4), .val (.int ((((((((p_4 + (1 : Int32)) + (1 : Int32)) + (1 : Int32)) + (1 : Int32)) + (1 : Int32)) + (1 : Int32)) + (1 : Int32)) + (1 : Int32))), .val (.int (3 : Int32))] [(.int (3 : Int32))])
    refine own_go (fun _ k => XS.iloadN X131.here hx rfl (hb hby own_d1_8) rfl k) ?_
    show own_Go _ _ _ _ T131 (mkF m 9 #[.val (.ref a_1), .val (.int (3 : Int32)), .val (.ref a_3), .val (.int p_4), .val (.int ((((((((p_4 + (1 : Int32)) + (1 : Int32)) + (1 : Int32)) + (1 : Int32)) + (1 : Int32)) + (1 : Int32)) + (1 : Int32)) + (1 : Int32))), .val (.int (3 : Int32))] [(.int (3 : Int32)), (.int (3 : Int32))])
    have hc133 : ¬ ((3 : Int32) < (3 : Int32)) := by decide
    refine own_go (fun _ k => XS.icmpYes X131.here hx rfl (pc0 := 9) (pc' := 70) rfl (hb hby own_d1_9) rfl (Jvm.Free.XT.ii_ge_t hc133) (by decide) (by decide) k) ?_
    show own_Go _ _ _ _ T131 (mkF m 70 #[.val (.ref a_1), .val (.int (3 : Int32)), .val (.ref a_3), .val (.int p_4), .val (.int ((((((((p_4 + (1 : Int32)) + (1 : Int32)) + (1 : Int32)) + (1 : Int32)) + (1 : Int32)) + (1 : Int32)) + (1 : Int32)) + (1 : Int32))), .val (.int (3 : Int32))] [])
    refine own_go (fun _ k => XS.iload X131.here hx rfl (hb hby own_d1_70) rfl k) ?_
    show own_Go _ _ _ _ T131 (mkF m 72 #[.val (.ref a_1), .val (.int (3 : Int32)), .val (.ref a_3), .val (.int p_4), .val (.int ((((((((p_4 + (1 : Int32)) + (1 : Int32)) + (1 : Int32)) + (1 : Int32)) + (1 : Int32)) + (1 : Int32)) + (1 : Int32)) + (1 : Int32))), .val (.int (3 : Int32))] [(.int ((((((((p_4 + (1 : Int32)) + (1 : Int32)) + (1 : Int32)) + (1 : Int32)) + (1 : Int32)) + (1 : Int32)) + (1 : Int32)) + (1 : Int32)))])
    obtain ⟨fs, hr, hrun, hended, hW, hsame⟩ := X131.leave (v := some (.int ((((((((p_4 + (1 : Int32)) + (1 : Int32)) + (1 : Int32)) + (1 : Int32)) + (1 : Int32)) + (1 : Int32)) + (1 : Int32)) + (1 : Int32)))) (fun h => by rw [Bd.returns] at h; cases h)
    refine ⟨_, _, retOut X131 hx Bd.returns rfl (Or.inl ⟨rfl, Or.inl rfl, _, rfl⟩) (hb hby own_d1_72) hr, hrun, hended, _, _, rfl, ?_, ⟨_, rfl⟩, hW, hsame.mono (by decide) (by decide)⟩
    show own_Q1 Z a_1 (3 : Int32) a_3 p_4 t_ gs fa b0 b1 b2 b3 h0 n0 _ T131.heap _
    rw [e131]
    exact ⟨_, rfl, N131, rfl, K131, V131⟩
  · subst hs6
    show own_Go _ _ _ _ s₁ (mkF m 0 #[.val (.ref a_1), .val (.int (4 : Int32)), .val (.ref a_3), .val (.int p_4), .unset, .unset] [])
    refine own_go (fun _ k => XS.iloadN X0.here hx rfl (hb hby own_d1_0) rfl k) ?_
    show own_Go _ _ _ _ s₁ (mkF m 1 #[.val (.ref a_1), .val (.int (4 : Int32)), .val (.ref a_3), .val (.int p_4), .unset, .unset] [(.int p_4)])
    refine own_go (fun _ k => XS.istore X0.here hx rfl (hb hby own_d1_1) rfl (l' := #[.val (.ref a_1), .val (.int (4 : Int32)), .val (.ref a_3), .val (.int p_4), .val (.int p_4), .unset]) rfl k) ?_
    show own_Go _ _ _ _ s₁ (mkF m 3 #[.val (.ref a_1), .val (.int (4 : Int32)), .val (.ref a_3), .val (.int p_4), .val (.int p_4), .unset] [])
    refine own_go (fun _ k => XS.iconst X0.here hx rfl (hb hby own_d1_3) k) ?_
    show own_Go _ _ _ _ s₁ (mkF m 4 #[.val (.ref a_1), .val (.int (4 : Int32)), .val (.ref a_3), .val (.int p_4), .val (.int p_4), .unset] [(.int (0 : Int32))])
    refine own_go (fun _ k => XS.istore X0.here hx rfl (hb hby own_d1_4) rfl (l' := #[.val (.ref a_1), .val (.int (4 : Int32)), .val (.ref a_3), .val (.int p_4), .val (.int p_4), .val (.int (0 : Int32))]) rfl k) ?_
    show own_Go _ _ _ _ s₁ (mkF m 6 #[.val (.ref a_1), .val (.int (4 : Int32)), .val (.ref a_3), .val (.int p_4), .val (.int p_4), .val (.int (0 : Int32))] [])
    refine own_go (fun _ k => XS.iload X0.here hx rfl (hb hby own_d1_6) rfl k) ?_
    show own_Go _ _ _ _ s₁ (mkF m 8 #[.val (.ref a_1), .val (.int (4 : Int32)), .val (.ref a_3), .val (.int p_4), .val (.int p_4), .val (.int (0 : Int32))] [(.int (0 : Int32))])
    refine own_go (fun _ k => XS.iloadN X0.here hx rfl (hb hby own_d1_8) rfl k) ?_
    show own_Go _ _ _ _ s₁ (mkF m 9 #[.val (.ref a_1), .val (.int (4 : Int32)), .val (.ref a_3), .val (.int p_4), .val (.int p_4), .val (.int (0 : Int32))] [(.int (4 : Int32)), (.int (0 : Int32))])
    have hc135 : (0 : Int32) < (4 : Int32) := by decide
    refine own_go (fun _ k => XS.icmpNo X0.here hx rfl (hb hby own_d1_9) rfl (Jvm.Free.XT.ii_ge_f hc135) k) ?_
    show own_Go _ _ _ _ s₁ (mkF m 12 #[.val (.ref a_1), .val (.int (4 : Int32)), .val (.ref a_3), .val (.int p_4), .val (.int p_4), .val (.int (0 : Int32))] [])
    refine own_go (fun _ k => XS.iload X0.here hx rfl (hb hby own_d1_12) rfl k) ?_
    show own_Go _ _ _ _ s₁ (mkF m 14 #[.val (.ref a_1), .val (.int (4 : Int32)), .val (.ref a_3), .val (.int p_4), .val (.int p_4), .val (.int (0 : Int32))] [(.int (0 : Int32))])
    have hc136 : ¬ (0 < (0 : Int32)) := by decide
    refine own_go (fun _ k => XS.ifYes X0.here hx rfl (pc0 := 14) (pc' := 26) rfl (hb hby own_d1_14) rfl (Jvm.Free.XT.i0_le_t hc136) (by decide) (by decide) k) ?_
    show own_Go _ _ _ _ s₁ (mkF m 26 #[.val (.ref a_1), .val (.int (4 : Int32)), .val (.ref a_3), .val (.int p_4), .val (.int p_4), .val (.int (0 : Int32))] [])
    refine own_go (fun _ k => XS.aloadN X0.here hx rfl (hb hby own_d1_26) rfl rfl k) ?_
    show own_Go _ _ _ _ s₁ (mkF m 27 #[.val (.ref a_1), .val (.int (4 : Int32)), .val (.ref a_3), .val (.int p_4), .val (.int p_4), .val (.int (0 : Int32))] [(.ref a_3)])
    refine own_go (fun _ k => XS.iload X0.here hx rfl (hb hby own_d1_27) rfl k) ?_
    show own_Go _ _ _ _ s₁ (mkF m 29 #[.val (.ref a_1), .val (.int (4 : Int32)), .val (.ref a_3), .val (.int p_4), .val (.int p_4), .val (.int (0 : Int32))] [(.int p_4), (.ref a_3)])
    refine own_go (fun _ k => XS.iinc X0.here hx rfl (hb hby own_d1_29) rfl (l' := #[.val (.ref a_1), .val (.int (4 : Int32)), .val (.ref a_3), .val (.int p_4), .val (.int (p_4 + (1 : Int32))), .val (.int (0 : Int32))]) rfl k) ?_
    show own_Go _ _ _ _ s₁ (mkF m 32 #[.val (.ref a_1), .val (.int (4 : Int32)), .val (.ref a_3), .val (.int p_4), .val (.int (p_4 + (1 : Int32))), .val (.int (0 : Int32))] [(.int p_4), (.ref a_3)])
    obtain ⟨T137, X137, e137, st137⟩ := getS2 X0 hx hZ hown (host := "") (Or.inl (hw _ (List.mem_of_getElem? (i := 6) rfl))) Via.refl e0 pr_S_com_example_honest_codec_honestcodec_IllFormedSequence_HEX_DIGITS (g := (mkF m 32 #[.val (.ref a_1), .val (.int (4 : Int32)), .val (.ref a_3), .val (.int p_4), .val (.int (p_4 + (1 : Int32))), .val (.int (0 : Int32))] [(.int p_4), (.ref a_3)])) rfl (hb hby own_d1_32)
    refine own_go (fun _ k => st137 _ k) ?_
    show own_Go _ _ _ _ T137 (mkF m 35 #[.val (.ref a_1), .val (.int (4 : Int32)), .val (.ref a_3), .val (.int p_4), .val (.int (p_4 + (1 : Int32))), .val (.int (0 : Int32))] [(.ref t_), (.int p_4), (.ref a_3)])
    refine own_go (fun _ k => XS.aloadN X137.here hx rfl (hb hby own_d1_35) rfl rfl k) ?_
    show own_Go _ _ _ _ T137 (mkF m 36 #[.val (.ref a_1), .val (.int (4 : Int32)), .val (.ref a_3), .val (.int p_4), .val (.int (p_4 + (1 : Int32))), .val (.int (0 : Int32))] [(.ref a_1), (.ref t_), (.int p_4), (.ref a_3)])
    refine own_go (fun _ k => XS.iload X137.here hx rfl (hb hby own_d1_36) rfl k) ?_
    show own_Go _ _ _ _ T137 (mkF m 38 #[.val (.ref a_1), .val (.int (4 : Int32)), .val (.ref a_3), .val (.int p_4), .val (.int (p_4 + (1 : Int32))), .val (.int (0 : Int32))] [(.int (0 : Int32)), (.ref a_1), (.ref t_), (.int p_4), (.ref a_3)])
    obtain ⟨q138, c138, R138, s138, t138⟩ := id pr_A_a_1
    have hin138 : ¬ ((0 : Int32) < 0 ∨ c138.slots.size ≤ ((0 : Int32)).toNatClampNeg) := inb_of s138 ⟨by decide, by decide⟩
    have u138 : c138.slots[((0 : Int32)).toNatClampNeg]? = some (.int b0) := own_at (k := 0) t138 s138 hin138 (by decide) (hg0)
    refine own_go (fun _ k => X137.baloadBytes hx (j := (0 : Int32)) (v := (.int b0)) (by rw [e137]; exact R138.1) (State.isArrayOf_alike hZ.alike R138.2.1) R138.2.2 hin138 u138 (g := (mkF m 38 #[.val (.ref a_1), .val (.int (4 : Int32)), .val (.ref a_3), .val (.int p_4), .val (.int (p_4 + (1 : Int32))), .val (.int (0 : Int32))] [(.int (0 : Int32)), (.ref a_1), (.ref t_), (.int p_4), (.ref a_3)])) rfl rfl (hb hby own_d1_38) _ k) ?_
    show own_Go _ _ _ _ T137 (mkF m 39 #[.val (.ref a_1), .val (.int (4 : Int32)), .val (.ref a_3), .val (.int p_4), .val (.int (p_4 + (1 : Int32))), .val (.int (0 : Int32))] [(.int b0), (.ref t_), (.int p_4), (.ref a_3)])
    refine own_go (fun _ k => XS.iconst X137.here hx rfl (hb hby own_d1_39) k) ?_
    show own_Go _ _ _ _ T137 (mkF m 40 #[.val (.ref a_1), .val (.int (4 : Int32)), .val (.ref a_3), .val (.int p_4), .val (.int (p_4 + (1 : Int32))), .val (.int (0 : Int32))] [(.int (4 : Int32)), (.int b0), (.ref t_), (.int p_4), (.ref a_3)])
    refine own_go (fun _ k => XS.ishr X137.here hx rfl (hb hby own_d1_40) rfl k) ?_
    show own_Go _ _ _ _ T137 (mkF m 41 #[.val (.ref a_1), .val (.int (4 : Int32)), .val (.ref a_3), .val (.int p_4), .val (.int (p_4 + (1 : Int32))), .val (.int (0 : Int32))] [(.int (b0 >>> ((4 : Int32) &&& 31))), (.ref t_), (.int p_4), (.ref a_3)])
    refine own_go (fun _ k => XS.bipush X137.here hx rfl (hb hby own_d1_41) k) ?_
    show own_Go _ _ _ _ T137 (mkF m 43 #[.val (.ref a_1), .val (.int (4 : Int32)), .val (.ref a_3), .val (.int p_4), .val (.int (p_4 + (1 : Int32))), .val (.int (0 : Int32))] [(.int (15 : Int32)), (.int (b0 >>> ((4 : Int32) &&& 31))), (.ref t_), (.int p_4), (.ref a_3)])
    refine own_go (fun _ k => XS.iand X137.here hx rfl (hb hby own_d1_43) rfl k) ?_
    show own_Go _ _ _ _ T137 (mkF m 44 #[.val (.ref a_1), .val (.int (4 : Int32)), .val (.ref a_3), .val (.int p_4), .val (.int (p_4 + (1 : Int32))), .val (.int (0 : Int32))] [(.int ((b0 >>> ((4 : Int32) &&& 31)) &&& (15 : Int32))), (.ref t_), (.int p_4), (.ref a_3)])
    obtain ⟨q139, c139, R139, s139, t139⟩ := id pr_A_t_
    have hin139 : ¬ (((b0 >>> ((4 : Int32) &&& 31)) &&& (15 : Int32)) < 0 ∨ c139.slots.size ≤ (((b0 >>> ((4 : Int32) &&& 31)) &&& (15 : Int32))).toNatClampNeg) := inb_of s139 (own_t1_28 b0 )
    have u139 : c139.slots[(((b0 >>> ((4 : Int32) &&& 31)) &&& (15 : Int32))).toNatClampNeg]? = some (.int (own_hd (((b0 >>> ((4 : Int32) &&& 31)) &&& (15 : Int32))).toNatClampNeg)) := own_at (k := (((b0 >>> ((4 : Int32) &&& 31)) &&& (15 : Int32))).toNatClampNeg) t139 s139 hin139 rfl (rfl)
    refine own_go (fun _ k => X137.baloadBytes hx (j := ((b0 >>> ((4 : Int32) &&& 31)) &&& (15 : Int32))) (v := (.int (own_hd (((b0 >>> ((4 : Int32) &&& 31)) &&& (15 : Int32))).toNatClampNeg))) (by rw [e137]; exact R139.1) (State.isArrayOf_alike hZ.alike R139.2.1) R139.2.2 hin139 u139 (g := (mkF m 44 #[.val (.ref a_1), .val (.int (4 : Int32)), .val (.ref a_3), .val (.int p_4), .val (.int (p_4 + (1 : Int32))), .val (.int (0 : Int32))] [(.int ((b0 >>> ((4 : Int32) &&& 31)) &&& (15 : Int32))), (.ref t_), (.int p_4), (.ref a_3)])) rfl rfl (hb hby own_d1_44) _ k) ?_
    show own_Go _ _ _ _ T137 (mkF m 45 #[.val (.ref a_1), .val (.int (4 : Int32)), .val (.ref a_3), .val (.int p_4), .val (.int (p_4 + (1 : Int32))), .val (.int (0 : Int32))] [(.int (own_hd (((b0 >>> ((4 : Int32) &&& 31)) &&& (15 : Int32))).toNatClampNeg)), (.int p_4), (.ref a_3)])
    obtain ⟨q140, c140, R140, s140, t140⟩ := id pr_A_a_3
    have hin140 : ¬ (p_4 < 0 ∨ c140.slots.size ≤ (p_4).toNatClampNeg) := inb_of s140 (own_t1_29 p_4 hp)
    obtain ⟨T141, h141, X141, e141, W141, st141⟩ := stB X137 hx hZ e137 R140 (j := p_4) hin140 (g := (mkF m 45 #[.val (.ref a_1), .val (.int (4 : Int32)), .val (.ref a_3), .val (.int p_4), .val (.int (p_4 + (1 : Int32))), .val (.int (0 : Int32))] [(.int (own_hd (((b0 >>> ((4 : Int32) &&& 31)) &&& (15 : Int32))).toNatClampNeg)), (.int p_4), (.ref a_3)])) rfl rfl (hb hby own_d1_45)
    rw [own_nar_hd _] at W141
    have V141 : own_AV Z h141 a_3 .byte (16 : Int32) (own_upd fa (p_4).toNatClampNeg (.int (own_hd (((b0 >>> ((4 : Int32) &&& 31)) &&& (15 : Int32))).toNatClampNeg))) := own_AV.set (k := (p_4).toNatClampNeg) pr_A_a_3 W141 rfl
    have z142 := W141.size
    have K141 : Keep h0 h141 [a_3] := K0.wr W141 (Or.inl (List.mem_of_getElem? (i := 0) rfl))
    have N141 := Fr.snoc X141 N0 (by omega : n0 ≤ a_3)
    refine own_go (fun _ k => st141 _ k) ?_
    show own_Go _ _ _ _ T141 (mkF m 46 #[.val (.ref a_1), .val (.int (4 : Int32)), .val (.ref a_3), .val (.int p_4), .val (.int (p_4 + (1 : Int32))), .val (.int (0 : Int32))] [])
    refine own_go (fun _ k => XS.aloadN X141.here hx rfl (hb hby own_d1_46) rfl rfl k) ?_
    show own_Go _ _ _ _ T141 (mkF m 47 #[.val (.ref a_1), .val (.int (4 : Int32)), .val (.ref a_3), .val (.int p_4), .val (.int (p_4 + (1 : Int32))), .val (.int (0 : Int32))] [(.ref a_3)])
    refine own_go (fun _ k => XS.iload X141.here hx rfl (hb hby own_d1_47) rfl k) ?_
    show own_Go _ _ _ _ T141 (mkF m 49 #[.val (.ref a_1), .val (.int (4 : Int32)), .val (.ref a_3), .val (.int p_4), .val (.int (p_4 + (1 : Int32))), .val (.int (0 : Int32))] [(.int (p_4 + (1 : Int32))), (.ref a_3)])
    refine own_go (fun _ k => XS.iinc X141.here hx rfl (hb hby own_d1_49) rfl (l' := #[.val (.ref a_1), .val (.int (4 : Int32)), .val (.ref a_3), .val (.int p_4), .val (.int ((p_4 + (1 : Int32)) + (1 : Int32))), .val (.int (0 : Int32))]) rfl k) ?_
    show own_Go _ _ _ _ T141 (mkF m 52 #[.val (.ref a_1), .val (.int (4 : Int32)), .val (.ref a_3), .val (.int p_4), .val (.int ((p_4 + (1 : Int32)) + (1 : Int32))), .val (.int (0 : Int32))] [(.int (p_4 + (1 : Int32))), (.ref a_3)])
    have f143 : Sta Z h141 "com/example/honest_codec/honestcodec/IllFormedSequence" "HEX_DIGITS" "[B" (.ref t_) := (pr_S_com_example_honest_codec_honestcodec_IllFormedSequence_HEX_DIGITS.wr W141)
    obtain ⟨T144, X144, e144, st144⟩ := getS2 X141 hx hZ hown (host := "") (Or.inl (hw _ (List.mem_of_getElem? (i := 6) rfl))) Via.refl e141 f143 (g := (mkF m 52 #[.val (.ref a_1), .val (.int (4 : Int32)), .val (.ref a_3), .val (.int p_4), .val (.int ((p_4 + (1 : Int32)) + (1 : Int32))), .val (.int (0 : Int32))] [(.int (p_4 + (1 : Int32))), (.ref a_3)])) rfl (hb hby own_d1_52)
    refine own_go (fun _ k => st144 _ k) ?_
    show own_Go _ _ _ _ T144 (mkF m 55 #[.val (.ref a_1), .val (.int (4 : Int32)), .val (.ref a_3), .val (.int p_4), .val (.int ((p_4 + (1 : Int32)) + (1 : Int32))), .val (.int (0 : Int32))] [(.ref t_), (.int (p_4 + (1 : Int32))), (.ref a_3)])
    refine own_go (fun _ k => XS.aloadN X144.here hx rfl (hb hby own_d1_55) rfl rfl k) ?_
    show own_Go _ _ _ _ T144 (mkF m 56 #[.val (.ref a_1), .val (.int (4 : Int32)), .val (.ref a_3), .val (.int p_4), .val (.int ((p_4 + (1 : Int32)) + (1 : Int32))), .val (.int (0 : Int32))] [(.ref a_1), (.ref t_), (.int (p_4 + (1 : Int32))), (.ref a_3)])
    refine own_go (fun _ k => XS.iload X144.here hx rfl (hb hby own_d1_56) rfl k) ?_
    show own_Go _ _ _ _ T144 (mkF m 58 #[.val (.ref a_1), .val (.int (4 : Int32)), .val (.ref a_3), .val (.int p_4), .val (.int ((p_4 + (1 : Int32)) + (1 : Int32))), .val (.int (0 : Int32))] [(.int (0 : Int32)), (.ref a_1), (.ref t_), (.int (p_4 + (1 : Int32))), (.ref a_3)])
    have f145 : own_AV Z h141 a_1 .byte (4 : Int32) gs := (pr_A_a_1.other W141 (own_ne (by omega)))
    obtain ⟨q146, c146, R146, s146, t146⟩ := id f145
    have hin146 : ¬ ((0 : Int32) < 0 ∨ c146.slots.size ≤ ((0 : Int32)).toNatClampNeg) := inb_of s146 ⟨by decide, by decide⟩
    have u146 : c146.slots[((0 : Int32)).toNatClampNeg]? = some (.int b0) := own_at (k := 0) t146 s146 hin146 (by decide) (hg0)
    refine own_go (fun _ k => X144.baloadBytes hx (j := (0 : Int32)) (v := (.int b0)) (by rw [e144]; exact R146.1) (State.isArrayOf_alike hZ.alike R146.2.1) R146.2.2 hin146 u146 (g := (mkF m 58 #[.val (.ref a_1), .val (.int (4 : Int32)), .val (.ref a_3), .val (.int p_4), .val (.int ((p_4 + (1 : Int32)) + (1 : Int32))), .val (.int (0 : Int32))] [(.int (0 : Int32)), (.ref a_1), (.ref t_), (.int (p_4 + (1 : Int32))), (.ref a_3)])) rfl rfl (hb hby own_d1_58) _ k) ?_
    show own_Go _ _ _ _ T144 (mkF m 59 #[.val (.ref a_1), .val (.int (4 : Int32)), .val (.ref a_3), .val (.int p_4), .val (.int ((p_4 + (1 : Int32)) + (1 : Int32))), .val (.int (0 : Int32))] [(.int b0), (.ref t_), (.int (p_4 + (1 : Int32))), (.ref a_3)])
    refine own_go (fun _ k => XS.bipush X144.here hx rfl (hb hby own_d1_59) k) ?_
    show own_Go _ _ _ _ T144 (mkF m 61 #[.val (.ref a_1), .val (.int (4 : Int32)), .val (.ref a_3), .val (.int p_4), .val (.int ((p_4 + (1 : Int32)) + (1 : Int32))), .val (.int (0 : Int32))] [(.int (15 : Int32)), (.int b0), (.ref t_), (.int (p_4 + (1 : Int32))), (.ref a_3)])
    refine own_go (fun _ k => XS.iand X144.here hx rfl (hb hby own_d1_61) rfl k) ?_
    show own_Go _ _ _ _ T144 (mkF m 62 #[.val (.ref a_1), .val (.int (4 : Int32)), .val (.ref a_3), .val (.int p_4), .val (.int ((p_4 + (1 : Int32)) + (1 : Int32))), .val (.int (0 : Int32))] [(.int (b0 &&& (15 : Int32))), (.ref t_), (.int (p_4 + (1 : Int32))), (.ref a_3)])
    have f147 : own_AV Z h141 t_ .byte (16 : Int32) (fun i => .int (own_hd i)) := (pr_A_t_.other W141 (own_ne (by omega)))
    obtain ⟨q148, c148, R148, s148, t148⟩ := id f147
    have hin148 : ¬ ((b0 &&& (15 : Int32)) < 0 ∨ c148.slots.size ≤ ((b0 &&& (15 : Int32))).toNatClampNeg) := inb_of s148 (own_t1_30 b0 )
    have u148 : c148.slots[((b0 &&& (15 : Int32))).toNatClampNeg]? = some (.int (own_hd ((b0 &&& (15 : Int32))).toNatClampNeg)) := own_at (k := ((b0 &&& (15 : Int32))).toNatClampNeg) t148 s148 hin148 rfl (rfl)
    refine own_go (fun _ k => X144.baloadBytes hx (j := (b0 &&& (15 : Int32))) (v := (.int (own_hd ((b0 &&& (15 : Int32))).toNatClampNeg))) (by rw [e144]; exact R148.1) (State.isArrayOf_alike hZ.alike R148.2.1) R148.2.2 hin148 u148 (g := (mkF m 62 #[.val (.ref a_1), .val (.int (4 : Int32)), .val (.ref a_3), .val (.int p_4), .val (.int ((p_4 + (1 : Int32)) + (1 : Int32))), .val (.int (0 : Int32))] [(.int (b0 &&& (15 : Int32))), (.ref t_), (.int (p_4 + (1 : Int32))), (.ref a_3)])) rfl rfl (hb hby own_d1_62) _ k) ?_
    show own_Go _ _ _ _ T144 (mkF m 63 #[.val (.ref a_1), .val (.int (4 : Int32)), .val (.ref a_3), .val (.int p_4), .val (.int ((p_4 + (1 : Int32)) + (1 : Int32))), .val (.int (0 : Int32))] [(.int (own_hd ((b0 &&& (15 : Int32))).toNatClampNeg)), (.int (p_4 + (1 : Int32))), (.ref a_3)])
    obtain ⟨q149, c149, R149, s149, t149⟩ := id V141
    have hin149 : ¬ ((p_4 + (1 : Int32)) < 0 ∨ c149.slots.size ≤ ((p_4 + (1 : Int32))).toNatClampNeg) := inb_of s149 (own_t1_31 p_4 hp)
    obtain ⟨T150, h150, X150, e150, W150, st150⟩ := stB X144 hx hZ e144 R149 (j := (p_4 + (1 : Int32))) hin149 (g := (mkF m 63 #[.val (.ref a_1), .val (.int (4 : Int32)), .val (.ref a_3), .val (.int p_4), .val (.int ((p_4 + (1 : Int32)) + (1 : Int32))), .val (.int (0 : Int32))] [(.int (own_hd ((b0 &&& (15 : Int32))).toNatClampNeg)), (.int (p_4 + (1 : Int32))), (.ref a_3)])) rfl rfl (hb hby own_d1_63)
    rw [own_nar_hd _] at W150
    have V150 : own_AV Z h150 a_3 .byte (16 : Int32) (own_upd (own_upd fa (p_4).toNatClampNeg (.int (own_hd (((b0 >>> ((4 : Int32) &&& 31)) &&& (15 : Int32))).toNatClampNeg))) ((p_4 + (1 : Int32))).toNatClampNeg (.int (own_hd ((b0 &&& (15 : Int32))).toNatClampNeg))) := own_AV.set (k := ((p_4 + (1 : Int32))).toNatClampNeg) V141 W150 rfl
    have z151 := W150.size
    have K150 : Keep h0 h150 [a_3] := K141.wr W150 (Or.inl (List.mem_of_getElem? (i := 0) rfl))
    have N150 := Fr.snoc X150 N141 (by omega : n0 ≤ a_3)
    refine own_go (fun _ k => st150 _ k) ?_
    show own_Go _ _ _ _ T150 (mkF m 64 #[.val (.ref a_1), .val (.int (4 : Int32)), .val (.ref a_3), .val (.int p_4), .val (.int ((p_4 + (1 : Int32)) + (1 : Int32))), .val (.int (0 : Int32))] [])
    refine own_go (fun _ k => XS.iinc X150.here hx rfl (hb hby own_d1_64) rfl (l' := #[.val (.ref a_1), .val (.int (4 : Int32)), .val (.ref a_3), .val (.int p_4), .val (.int ((p_4 + (1 : Int32)) + (1 : Int32))), .val (.int (1 : Int32))]) rfl k) ?_
    show own_Go _ _ _ _ T150 (mkF m 67 #[.val (.ref a_1), .val (.int (4 : Int32)), .val (.ref a_3), .val (.int p_4), .val (.int ((p_4 + (1 : Int32)) + (1 : Int32))), .val (.int (1 : Int32))] [])
    refine own_go (fun _ k => XS.goto X150.here hx rfl (pc0 := 67) (pc' := 6) rfl (hb hby own_d1_67) (by decide) (by decide) k) ?_
    show own_Go _ _ _ _ T150 (mkF m 6 #[.val (.ref a_1), .val (.int (4 : Int32)), .val (.ref a_3), .val (.int p_4), .val (.int ((p_4 + (1 : Int32)) + (1 : Int32))), .val (.int (1 : Int32))] [])
    refine own_go (fun _ k => XS.iload X150.here hx rfl (hb hby own_d1_6) rfl k) ?_
    show own_Go _ _ _ _ T150 (mkF m 8 #[.val (.ref a_1), .val (.int (4 : Int32)), .val (.ref a_3), .val (.int p_4), .val (.int ((p_4 + (1 : Int32)) + (1 : Int32))), .val (.int (1 : Int32))] [(.int (1 : Int32))])
    refine own_go (fun _ k => XS.iloadN X150.here hx rfl (hb hby own_d1_8) rfl k) ?_
    show own_Go _ _ _ _ T150 (mkF m 9 #[.val (.ref a_1), .val (.int (4 : Int32)), .val (.ref a_3), .val (.int p_4), .val (.int ((p_4 + (1 : Int32)) + (1 : Int32))), .val (.int (1 : Int32))] [(.int (4 : Int32)), (.int (1 : Int32))])
    have hc152 : (1 : Int32) < (4 : Int32) := by decide
    refine own_go (fun _ k => XS.icmpNo X150.here hx rfl (hb hby own_d1_9) rfl (Jvm.Free.XT.ii_ge_f hc152) k) ?_
    show own_Go _ _ _ _ T150 (mkF m 12 #[.val (.ref a_1), .val (.int (4 : Int32)), .val (.ref a_3), .val (.int p_4), .val (.int ((p_4 + (1 : Int32)) + (1 : Int32))), .val (.int (1 : Int32))] [])
    refine own_go (fun _ k => XS.iload X150.here hx rfl (hb hby own_d1_12) rfl k) ?_
    show own_Go _ _ _ _ T150 (mkF m 14 #[.val (.ref a_1), .val (.int (4 : Int32)), .val (.ref a_3), .val (.int p_4), .val (.int ((p_4 + (1 : Int32)) + (1 : Int32))), .val (.int (1 : Int32))] [(.int (1 : Int32))])
    have hc153 : 0 < (1 : Int32) := by decide
    refine own_go (fun _ k => XS.ifNo X150.here hx rfl (hb hby own_d1_14) rfl (Jvm.Free.XT.i0_le_f hc153) k) ?_
    show own_Go _ _ _ _ T150 (mkF m 17 #[.val (.ref a_1), .val (.int (4 : Int32)), .val (.ref a_3), .val (.int p_4), .val (.int ((p_4 + (1 : Int32)) + (1 : Int32))), .val (.int (1 : Int32))] [])
    refine own_go (fun _ k => XS.aloadN X150.here hx rfl (hb hby own_d1_17) rfl rfl k) ?_
    show own_Go _ _ _ _ T150 (mkF m 18 #[.val (.ref a_1), .val (.int (4 : Int32)), .val (.ref a_3), .val (.int p_4), .val (.int ((p_4 + (1 : Int32)) + (1 : Int32))), .val (.int (1 : Int32))] [(.ref a_3)])
    refine own_go (fun _ k => XS.iload X150.here hx rfl (hb hby own_d1_18) rfl k) ?_
    show own_Go _ _ _ _ T150 (mkF m 20 #[.val (.ref a_1), .val (.int (4 : Int32)), .val (.ref a_3), .val (.int p_4), .val (.int ((p_4 + (1 : Int32)) + (1 : Int32))), .val (.int (1 : Int32))] [(.int ((p_4 + (1 : Int32)) + (1 : Int32))), (.ref a_3)])
    refine own_go (fun _ k => XS.iinc X150.here hx rfl (hb hby own_d1_20) rfl (l' := #[.val (.ref a_1), .val (.int (4 : Int32)), .val (.ref a_3), .val (.int p_4), .val (.int (((p_4 + (1 : Int32)) + (1 : Int32)) + (1 : Int32))), .val (.int (1 : Int32))]) rfl k) ?_
    show own_Go _ _ _ _ T150 (mkF m 23 #[.val (.ref a_1), .val (.int (4 : Int32)), .val (.ref a_3), .val (.int p_4), .val (.int (((p_4 + (1 : Int32)) + (1 : Int32)) + (1 : Int32))), .val (.int (1 : Int32))] [(.int ((p_4 + (1 : Int32)) + (1 : Int32))), (.ref a_3)])
    refine own_go (fun _ k => XS.bipush X150.here hx rfl (hb hby own_d1_23) k) ?_
    show own_Go _ _ _ _ T150 (mkF m 25 #[.val (.ref a_1), .val (.int (4 : Int32)), .val (.ref a_3), .val (.int p_4), .val (.int (((p_4 + (1 : Int32)) + (1 : Int32)) + (1 : Int32))), .val (.int (1 : Int32))] [(.int (32 : Int32)), (.int ((p_4 + (1 : Int32)) + (1 : Int32))), (.ref a_3)])
    obtain ⟨q154, c154, R154, s154, t154⟩ := id V150
    have hin154 : ¬ (((p_4 + (1 : Int32)) + (1 : Int32)) < 0 ∨ c154.slots.size ≤ (((p_4 + (1 : Int32)) + (1 : Int32))).toNatClampNeg) := inb_of s154 (own_t1_32 p_4 hp)
    obtain ⟨T155, h155, X155, e155, W155, st155⟩ := stB X150 hx hZ e150 R154 (j := ((p_4 + (1 : Int32)) + (1 : Int32))) hin154 (g := (mkF m 25 #[.val (.ref a_1), .val (.int (4 : Int32)), .val (.ref a_3), .val (.int p_4), .val (.int (((p_4 + (1 : Int32)) + (1 : Int32)) + (1 : Int32))), .val (.int (1 : Int32))] [(.int (32 : Int32)), (.int ((p_4 + (1 : Int32)) + (1 : Int32))), (.ref a_3)])) rfl rfl (hb hby own_d1_25)
    have V155 : own_AV Z h155 a_3 .byte (16 : Int32) (own_upd (own_upd (own_upd fa (p_4).toNatClampNeg (.int (own_hd (((b0 >>> ((4 : Int32) &&& 31)) &&& (15 : Int32))).toNatClampNeg))) ((p_4 + (1 : Int32))).toNatClampNeg (.int (own_hd ((b0 &&& (15 : Int32))).toNatClampNeg))) (((p_4 + (1 : Int32)) + (1 : Int32))).toNatClampNeg (.int (32 : Int32))) := own_AV.set (k := (((p_4 + (1 : Int32)) + (1 : Int32))).toNatClampNeg) V150 W155 rfl
    have z156 := W155.size
    have K155 : Keep h0 h155 [a_3] := K150.wr W155 (Or.inl (List.mem_of_getElem? (i := 0) rfl))
    have N155 := Fr.snoc X155 N150 (by omega : n0 ≤ a_3)
    refine own_go (fun _ k => st155 _ k) ?_
    show own_Go _ _ _ _ T155 (mkF m 26 #[.val (.ref a_1), .val (.int (4 : Int32)), .val (.ref a_3), .val (.int p_4), .val (.int (((p_4 + (1 : Int32)) + (1 : Int32)) + (1 : Int32))), .val (.int (1 : Int32))] [])
    refine own_go (fun _ k => XS.aloadN X155.here hx rfl (hb hby own_d1_26) rfl rfl k) ?_
    show own_Go _ _ _ _ T155 (mkF m 27 #[.val (.ref a_1), .val (.int (4 : Int32)), .val (.ref a_3), .val (.int p_4), .val (.int (((p_4 + (1 : Int32)) + (1 : Int32)) + (1 : Int32))), .val (.int (1 : Int32))] [(.ref a_3)])
    refine own_go (fun _ k => XS.iload X155.here hx rfl (hb hby own_d1_27) rfl k) ?_
    show own_Go _ _ _ _ T155 (mkF m 29 #[.val (.ref a_1), .val (.int (4 : Int32)), .val (.ref a_3), .val (.int p_4), .val (.int (((p_4 + (1 : Int32)) + (1 : Int32)) + (1 : Int32))), .val (.int (1 : Int32))] [(.int (((p_4 + (1 : Int32)) + (1 : Int32)) + (1 : Int32))), (.ref a_3)])
    refine own_go (fun _ k => XS.iinc X155.here hx rfl (hb hby own_d1_29) rfl (l' := #[.val (.ref a_1), .val (.int (4 : Int32)), .val (.ref a_3), .val (.int p_4), .val (.int ((((p_4 + (1 : Int32)) + (1 : Int32)) + (1 : Int32)) + (1 : Int32))), .val (.int (1 : Int32))]) rfl k) ?_
    show own_Go _ _ _ _ T155 (mkF m 32 #[.val (.ref a_1), .val (.int (4 : Int32)), .val (.ref a_3), .val (.int p_4), .val (.int ((((p_4 + (1 : Int32)) + (1 : Int32)) + (1 : Int32)) + (1 : Int32))), .val (.int (1 : Int32))] [(.int (((p_4 + (1 : Int32)) + (1 : Int32)) + (1 : Int32))), (.ref a_3)])
    have f157 : Sta Z h155 "com/example/honest_codec/honestcodec/IllFormedSequence" "HEX_DIGITS" "[B" (.ref t_) := ((f143.wr W150).wr W155)
    obtain ⟨T158, X158, e158, st158⟩ := getS2 X155 hx hZ hown (host := "") (Or.inl (hw _ (List.mem_of_getElem? (i := 6) rfl))) Via.refl e155 f157 (g := (mkF m 32 #[.val (.ref a_1), .val (.int (4 : Int32)), .val (.ref a_3), .val (.int p_4), .val (.int ((((p_4 + (1 : Int32)) + (1 : Int32)) + (1 : Int32)) + (1 : Int32))), .val (.int (1 : Int32))] [(.int (((p_4 + (1 : Int32)) + (1 : Int32)) + (1 : Int32))), (.ref a_3)])) rfl (hb hby own_d1_32)
    refine own_go (fun _ k => st158 _ k) ?_
    show own_Go _ _ _ _ T158 (mkF m 35 #[.val (.ref a_1), .val (.int (4 : Int32)), .val (.ref a_3), .val (.int p_4), .val (.int ((((p_4 + (1 : Int32)) + (1 : Int32)) + (1 : Int32)) + (1 : Int32))), .val (.int (1 : Int32))] [(.ref t_), (.int (((p_4 + (1 : Int32)) + (1 : Int32)) + (1 : Int32))), (.ref a_3)])
    refine own_go (fun _ k => XS.aloadN X158.here hx rfl (hb hby own_d1_35) rfl rfl k) ?_
    show own_Go _ _ _ _ T158 (mkF m 36 #[.val (.ref a_1), .val (.int (4 : Int32)), .val (.ref a_3), .val (.int p_4), .val (.int ((((p_4 + (1 : Int32)) + (1 : Int32)) + (1 : Int32)) + (1 : Int32))), .val (.int (1 : Int32))] [(.ref a_1), (.ref t_), (.int (((p_4 + (1 : Int32)) + (1 : Int32)) + (1 : Int32))), (.ref a_3)])
    refine own_go (fun _ k => XS.iload X158.here hx rfl (hb hby own_d1_36) rfl k) ?_
    show own_Go _ _ _ _ T158 (mkF m 38 #[.val (.ref a_1), .val (.int (4 : Int32)), .val (.ref a_3), .val (.int p_4), .val (.int ((((p_4 + (1 : Int32)) + (1 : Int32)) + (1 : Int32)) + (1 : Int32))), .val (.int (1 : Int32))] [(.int (1 : Int32)), (.ref a_1), (.ref t_), (.int (((p_4 + (1 : Int32)) + (1 : Int32)) + (1 : Int32))), (.ref a_3)])
    have f159 : own_AV Z h155 a_1 .byte (4 : Int32) gs := ((f145.other W150 (own_ne (by omega))).other W155 (own_ne (by omega)))
    obtain ⟨q160, c160, R160, s160, t160⟩ := id f159
    have hin160 : ¬ ((1 : Int32) < 0 ∨ c160.slots.size ≤ ((1 : Int32)).toNatClampNeg) := inb_of s160 ⟨by decide, by decide⟩
    have u160 : c160.slots[((1 : Int32)).toNatClampNeg]? = some (.int b1) := own_at (k := 1) t160 s160 hin160 (by decide) (hg1)
    refine own_go (fun _ k => X158.baloadBytes hx (j := (1 : Int32)) (v := (.int b1)) (by rw [e158]; exact R160.1) (State.isArrayOf_alike hZ.alike R160.2.1) R160.2.2 hin160 u160 (g := (mkF m 38 #[.val (.ref a_1), .val (.int (4 : Int32)), .val (.ref a_3), .val (.int p_4), .val (.int ((((p_4 + (1 : Int32)) + (1 : Int32)) + (1 : Int32)) + (1 : Int32))), .val (.int (1 : Int32))] [(.int (1 : Int32)), (.ref a_1), (.ref t_), (.int (((p_4 + (1 : Int32)) + (1 : Int32)) + (1 : Int32))), (.ref a_3)])) rfl rfl (hb hby own_d1_38) _ k) ?_
    show own_Go _ _ _ _ T158 (mkF m 39 #[.val (.ref a_1), .val (.int (4 : Int32)), .val (.ref a_3), .val (.int p_4), .val (.int ((((p_4 + (1 : Int32)) + (1 : Int32)) + (1 : Int32)) + (1 : Int32))), .val (.int (1 : Int32))] [(.int b1), (.ref t_), (.int (((p_4 + (1 : Int32)) + (1 : Int32)) + (1 : Int32))), (.ref a_3)])
    refine own_go (fun _ k => XS.iconst X158.here hx rfl (hb hby own_d1_39) k) ?_
    show own_Go _ _ _ _ T158 (mkF m 40 #[.val (.ref a_1), .val (.int (4 : Int32)), .val (.ref a_3), .val (.int p_4), .val (.int ((((p_4 + (1 : Int32)) + (1 : Int32)) + (1 : Int32)) + (1 : Int32))), .val (.int (1 : Int32))] [(.int (4 : Int32)), (.int b1), (.ref t_), (.int (((p_4 + (1 : Int32)) + (1 : Int32)) + (1 : Int32))), (.ref a_3)])
    refine own_go (fun _ k => XS.ishr X158.here hx rfl (hb hby own_d1_40) rfl k) ?_
    show own_Go _ _ _ _ T158 (mkF m 41 #[.val (.ref a_1), .val (.int (4 : Int32)), .val (.ref a_3), .val (.int p_4), .val (.int ((((p_4 + (1 : Int32)) + (1 : Int32)) + (1 : Int32)) + (1 : Int32))), .val (.int (1 : Int32))] [(.int (b1 >>> ((4 : Int32) &&& 31))), (.ref t_), (.int (((p_4 + (1 : Int32)) + (1 : Int32)) + (1 : Int32))), (.ref a_3)])
    refine own_go (fun _ k => XS.bipush X158.here hx rfl (hb hby own_d1_41) k) ?_
    show own_Go _ _ _ _ T158 (mkF m 43 #[.val (.ref a_1), .val (.int (4 : Int32)), .val (.ref a_3), .val (.int p_4), .val (.int ((((p_4 + (1 : Int32)) + (1 : Int32)) + (1 : Int32)) + (1 : Int32))), .val (.int (1 : Int32))] [(.int (15 : Int32)), (.int (b1 >>> ((4 : Int32) &&& 31))), (.ref t_), (.int (((p_4 + (1 : Int32)) + (1 : Int32)) + (1 : Int32))), (.ref a_3)])
    refine own_go (fun _ k => XS.iand X158.here hx rfl (hb hby own_d1_43) rfl k) ?_
    show own_Go _ _ _ _ T158 (mkF m 44 #[.val (.ref a_1), .val (.int (4 : Int32)), .val (.ref a_3), .val (.int p_4), .val (.int ((((p_4 + (1 : Int32)) + (1 : Int32)) + (1 : Int32)) + (1 : Int32))), .val (.int (1 : Int32))] [(.int ((b1 >>> ((4 : Int32) &&& 31)) &&& (15 : Int32))), (.ref t_), (.int (((p_4 + (1 : Int32)) + (1 : Int32)) + (1 : Int32))), (.ref a_3)])
    have f161 : own_AV Z h155 t_ .byte (16 : Int32) (fun i => .int (own_hd i)) := ((f147.other W150 (own_ne (by omega))).other W155 (own_ne (by omega)))
    obtain ⟨q162, c162, R162, s162, t162⟩ := id f161
    have hin162 : ¬ (((b1 >>> ((4 : Int32) &&& 31)) &&& (15 : Int32)) < 0 ∨ c162.slots.size ≤ (((b1 >>> ((4 : Int32) &&& 31)) &&& (15 : Int32))).toNatClampNeg) := inb_of s162 (own_t1_33 b1 )
    have u162 : c162.slots[(((b1 >>> ((4 : Int32) &&& 31)) &&& (15 : Int32))).toNatClampNeg]? = some (.int (own_hd (((b1 >>> ((4 : Int32) &&& 31)) &&& (15 : Int32))).toNatClampNeg)) := own_at (k := (((b1 >>> ((4 : Int32) &&& 31)) &&& (15 : Int32))).toNatClampNeg) t162 s162 hin162 rfl (rfl)
    refine own_go (fun _ k => X158.baloadBytes hx (j := ((b1 >>> ((4 : Int32) &&& 31)) &&& (15 : Int32))) (v := (.int (own_hd (((b1 >>> ((4 : Int32) &&& 31)) &&& (15 : Int32))).toNatClampNeg))) (by rw [e158]; exact R162.1) (State.isArrayOf_alike hZ.alike R162.2.1) R162.2.2 hin162 u162 (g := (mkF m 44 #[.val (.ref a_1), .val (.int (4 : Int32)), .val (.ref a_3), .val (.int p_4), .val (.int ((((p_4 + (1 : Int32)) + (1 : Int32)) + (1 : Int32)) + (1 : Int32))), .val (.int (1 : Int32))] [(.int ((b1 >>> ((4 : Int32) &&& 31)) &&& (15 : Int32))), (.ref t_), (.int (((p_4 + (1 : Int32)) + (1 : Int32)) + (1 : Int32))), (.ref a_3)])) rfl rfl (hb hby own_d1_44) _ k) ?_
    show own_Go _ _ _ _ T158 (mkF m 45 #[.val (.ref a_1), .val (.int (4 : Int32)), .val (.ref a_3), .val (.int p_4), .val (.int ((((p_4 + (1 : Int32)) + (1 : Int32)) + (1 : Int32)) + (1 : Int32))), .val (.int (1 : Int32))] [(.int (own_hd (((b1 >>> ((4 : Int32) &&& 31)) &&& (15 : Int32))).toNatClampNeg)), (.int (((p_4 + (1 : Int32)) + (1 : Int32)) + (1 : Int32))), (.ref a_3)])
    obtain ⟨q163, c163, R163, s163, t163⟩ := id V155
    have hin163 : ¬ ((((p_4 + (1 : Int32)) + (1 : Int32)) + (1 : Int32)) < 0 ∨ c163.slots.size ≤ ((((p_4 + (1 : Int32)) + (1 : Int32)) + (1 : Int32))).toNatClampNeg) := inb_of s163 (own_t1_34 p_4 hp)
    obtain ⟨T164, h164, X164, e164, W164, st164⟩ := stB X158 hx hZ e158 R163 (j := (((p_4 + (1 : Int32)) + (1 : Int32)) + (1 : Int32))) hin163 (g := (mkF m 45 #[.val (.ref a_1), .val (.int (4 : Int32)), .val (.ref a_3), .val (.int p_4), .val (.int ((((p_4 + (1 : Int32)) + (1 : Int32)) + (1 : Int32)) + (1 : Int32))), .val (.int (1 : Int32))] [(.int (own_hd (((b1 >>> ((4 : Int32) &&& 31)) &&& (15 : Int32))).toNatClampNeg)), (.int (((p_4 + (1 : Int32)) + (1 : Int32)) + (1 : Int32))), (.ref a_3)])) rfl rfl (hb hby own_d1_45)
    rw [own_nar_hd _] at W164
    have V164 : own_AV Z h164 a_3 .byte (16 : Int32) (own_upd (own_upd (own_upd (own_upd fa (p_4).toNatClampNeg (.int (own_hd (((b0 >>> ((4 : Int32) &&& 31)) &&& (15 : Int32))).toNatClampNeg))) ((p_4 + (1 : Int32))).toNatClampNeg (.int (own_hd ((b0 &&& (15 : Int32))).toNatClampNeg))) (((p_4 + (1 : Int32)) + (1 : Int32))).toNatClampNeg (.int (32 : Int32))) ((((p_4 + (1 : Int32)) + (1 : Int32)) + (1 : Int32))).toNatClampNeg (.int (own_hd (((b1 >>> ((4 : Int32) &&& 31)) &&& (15 : Int32))).toNatClampNeg))) := own_AV.set (k := ((((p_4 + (1 : Int32)) + (1 : Int32)) + (1 : Int32))).toNatClampNeg) V155 W164 rfl
    have z165 := W164.size
    have K164 : Keep h0 h164 [a_3] := K155.wr W164 (Or.inl (List.mem_of_getElem? (i := 0) rfl))
    have N164 := Fr.snoc X164 N155 (by omega : n0 ≤ a_3)
    refine own_go (fun _ k => st164 _ k) ?_
    show own_Go _ _ _ _ T164 (mkF m 46 #[.val (.ref a_1), .val (.int (4 : Int32)), .val (.ref a_3), .val (.int p_4), .val (.int ((((p_4 + (1 : Int32)) + (1 : Int32)) + (1 : Int32)) + (1 : Int32))), .val (.int (1 : Int32))] [])
    refine own_go (fun _ k => XS.aloadN X164.here hx rfl (hb hby own_d1_46) rfl rfl k) ?_
    show own_Go _ _ _ _ T164 (mkF m 47 #[.val (.ref a_1), .val (.int (4 : Int32)), .val (.ref a_3), .val (.int p_4), .val (.int ((((p_4 + (1 : Int32)) + (1 : Int32)) + (1 : Int32)) + (1 : Int32))), .val (.int (1 : Int32))] [(.ref a_3)])
    refine own_go (fun _ k => XS.iload X164.here hx rfl (hb hby own_d1_47) rfl k) ?_
    show own_Go _ _ _ _ T164 (mkF m 49 #[.val (.ref a_1), .val (.int (4 : Int32)), .val (.ref a_3), .val (.int p_4), .val (.int ((((p_4 + (1 : Int32)) + (1 : Int32)) + (1 : Int32)) + (1 : Int32))), .val (.int (1 : Int32))] [(.int ((((p_4 + (1 : Int32)) + (1 : Int32)) + (1 : Int32)) + (1 : Int32))), (.ref a_3)])
    refine own_go (fun _ k => XS.iinc X164.here hx rfl (hb hby own_d1_49) rfl (l' := #[.val (.ref a_1), .val (.int (4 : Int32)), .val (.ref a_3), .val (.int p_4), .val (.int (((((p_4 + (1 : Int32)) + (1 : Int32)) + (1 : Int32)) + (1 : Int32)) + (1 : Int32))), .val (.int (1 : Int32))]) rfl k) ?_
    show own_Go _ _ _ _ T164 (mkF m 52 #[.val (.ref a_1), .val (.int (4 : Int32)), .val (.ref a_3), .val (.int p_4), .val (.int (((((p_4 + (1 : Int32)) + (1 : Int32)) + (1 : Int32)) + (1 : Int32)) + (1 : Int32))), .val (.int (1 : Int32))] [(.int ((((p_4 + (1 : Int32)) + (1 : Int32)) + (1 : Int32)) + (1 : Int32))), (.ref a_3)])
    have f166 : Sta Z h164 "com/example/honest_codec/honestcodec/IllFormedSequence" "HEX_DIGITS" "[B" (.ref t_) := (f157.wr W164)
    obtain ⟨T167, X167, e167, st167⟩ := getS2 X164 hx hZ hown (host := "") (Or.inl (hw _ (List.mem_of_getElem? (i := 6) rfl))) Via.refl e164 f166 (g := (mkF m 52 #[.val (.ref a_1), .val (.int (4 : Int32)), .val (.ref a_3), .val (.int p_4), .val (.int (((((p_4 + (1 : Int32)) + (1 : Int32)) + (1 : Int32)) + (1 : Int32)) + (1 : Int32))), .val (.int (1 : Int32))] [(.int ((((p_4 + (1 : Int32)) + (1 : Int32)) + (1 : Int32)) + (1 : Int32))), (.ref a_3)])) rfl (hb hby own_d1_52)
    refine own_go (fun _ k => st167 _ k) ?_
    show own_Go _ _ _ _ T167 (mkF m 55 #[.val (.ref a_1), .val (.int (4 : Int32)), .val (.ref a_3), .val (.int p_4), .val (.int (((((p_4 + (1 : Int32)) + (1 : Int32)) + (1 : Int32)) + (1 : Int32)) + (1 : Int32))), .val (.int (1 : Int32))] [(.ref t_), (.int ((((p_4 + (1 : Int32)) + (1 : Int32)) + (1 : Int32)) + (1 : Int32))), (.ref a_3)])
    refine own_go (fun _ k => XS.aloadN X167.here hx rfl (hb hby own_d1_55) rfl rfl k) ?_
    show own_Go _ _ _ _ T167 (mkF m 56 #[.val (.ref a_1), .val (.int (4 : Int32)), .val (.ref a_3), .val (.int p_4), .val (.int (((((p_4 + (1 : Int32)) + (1 : Int32)) + (1 : Int32)) + (1 : Int32)) + (1 : Int32))), .val (.int (1 : Int32))] [(.ref a_1), (.ref t_), (.int ((((p_4 + (1 : Int32)) + (1 : Int32)) + (1 : Int32)) + (1 : Int32))), (.ref a_3)])
    refine own_go (fun _ k => XS.iload X167.here hx rfl (hb hby own_d1_56) rfl k) ?_
    show own_Go _ _ _ _ T167 (mkF m 58 #[.val (.ref a_1), .val (.int (4 : Int32)), .val (.ref a_3), .val (.int p_4), .val (.int (((((p_4 + (1 : Int32)) + (1 : Int32)) + (1 : Int32)) + (1 : Int32)) + (1 : Int32))), .val (.int (1 : Int32))] [(.int (1 : Int32)), (.ref a_1), (.ref t_), (.int ((((p_4 + (1 : Int32)) + (1 : Int32)) + (1 : Int32)) + (1 : Int32))), (.ref a_3)])
    have f168 : own_AV Z h164 a_1 .byte (4 : Int32) gs := (f159.other W164 (own_ne (by omega)))
    obtain ⟨q169, c169, R169, s169, t169⟩ := id f168
    have hin169 : ¬ ((1 : Int32) < 0 ∨ c169.slots.size ≤ ((1 : Int32)).toNatClampNeg) := inb_of s169 ⟨by decide, by decide⟩
    have u169 : c169.slots[((1 : Int32)).toNatClampNeg]? = some (.int b1) := own_at (k := 1) t169 s169 hin169 (by decide) (hg1)
    refine own_go (fun _ k => X167.baloadBytes hx (j := (1 : Int32)) (v := (.int b1)) (by rw [e167]; exact R169.1) (State.isArrayOf_alike hZ.alike R169.2.1) R169.2.2 hin169 u169 (g := (mkF m 58 #[.val (.ref a_1), .val (.int (4 : Int32)), .val (.ref a_3), .val (.int p_4), .val (.int (((((p_4 + (1 : Int32)) + (1 : Int32)) + (1 : Int32)) + (1 : Int32)) + (1 : Int32))), .val (.int (1 : Int32))] [(.int (1 : Int32)), (.ref a_1), (.ref t_), (.int ((((p_4 + (1 : Int32)) + (1 : Int32)) + (1 : Int32)) + (1 : Int32))), (.ref a_3)])) rfl rfl (hb hby own_d1_58) _ k) ?_
    show own_Go _ _ _ _ T167 (mkF m 59 #[.val (.ref a_1), .val (.int (4 : Int32)), .val (.ref a_3), .val (.int p_4), .val (.int (((((p_4 + (1 : Int32)) + (1 : Int32)) + (1 : Int32)) + (1 : Int32)) + (1 : Int32))), .val (.int (1 : Int32))] [(.int b1), (.ref t_), (.int ((((p_4 + (1 : Int32)) + (1 : Int32)) + (1 : Int32)) + (1 : Int32))), (.ref a_3)])
    refine own_go (fun _ k => XS.bipush X167.here hx rfl (hb hby own_d1_59) k) ?_
    show own_Go _ _ _ _ T167 (mkF m 61 #[.val (.ref a_1), .val (.int (4 : Int32)), .val (.ref a_3), .val (.int p_4), .val (.int (((((p_4 + (1 : Int32)) + (1 : Int32)) + (1 : Int32)) + (1 : Int32)) + (1 : Int32))), .val (.int (1 : Int32))] [(.int (15 : Int32)), (.int b1), (.ref t_), (.int ((((p_4 + (1 : Int32)) + (1 : Int32)) + (1 : Int32)) + (1 : Int32))), (.ref a_3)])
    refine own_go (fun _ k => XS.iand X167.here hx rfl (hb hby own_d1_61) rfl k) ?_
    show own_Go _ _ _ _ T167 (mkF m 62 #[.val (.ref a_1), .val (.int (4 : Int32)), .val (.ref a_3), .val (.int p_4), .val (.int (((((p_4 + (1 : Int32)) + (1 : Int32)) + (1 : Int32)) + (1 : Int32)) + (1 : Int32))), .val (.int (1 : Int32))] [(.int (b1 &&& (15 : Int32))), (.ref t_), (.int ((((p_4 + (1 : Int32)) + (1 : Int32)) + (1 : Int32)) + (1 : Int32))), (.ref a_3)])
    have f170 : own_AV Z h164 t_ .byte (16 : Int32) (fun i => .int (own_hd i)) := (f161.other W164 (own_ne (by omega)))
    obtain ⟨q171, c171, R171, s171, t171⟩ := id f170
    have hin171 : ¬ ((b1 &&& (15 : Int32)) < 0 ∨ c171.slots.size ≤ ((b1 &&& (15 : Int32))).toNatClampNeg) := inb_of s171 (own_t1_35 b1 )
    have u171 : c171.slots[((b1 &&& (15 : Int32))).toNatClampNeg]? = some (.int (own_hd ((b1 &&& (15 : Int32))).toNatClampNeg)) := own_at (k := ((b1 &&& (15 : Int32))).toNatClampNeg) t171 s171 hin171 rfl (rfl)
    refine own_go (fun _ k => X167.baloadBytes hx (j := (b1 &&& (15 : Int32))) (v := (.int (own_hd ((b1 &&& (15 : Int32))).toNatClampNeg))) (by rw [e167]; exact R171.1) (State.isArrayOf_alike hZ.alike R171.2.1) R171.2.2 hin171 u171 (g := (mkF m 62 #[.val (.ref a_1), .val (.int (4 : Int32)), .val (.ref a_3), .val (.int p_4), .val (.int (((((p_4 + (1 : Int32)) + (1 : Int32)) + (1 : Int32)) + (1 : Int32)) + (1 : Int32))), .val (.int (1 : Int32))] [(.int (b1 &&& (15 : Int32))), (.ref t_), (.int ((((p_4 + (1 : Int32)) + (1 : Int32)) + (1 : Int32)) + (1 : Int32))), (.ref a_3)])) rfl rfl (hb hby own_d1_62) _ k) ?_
    show own_Go _ _ _ _ T167 (mkF m 63 #[.val (.ref a_1), .val (.int (4 : Int32)), .val (.ref a_3), .val (.int p_4), .val (.int (((((p_4 + (1 : Int32)) + (1 : Int32)) + (1 : Int32)) + (1 : Int32)) + (1 : Int32))), .val (.int (1 : Int32))] [(.int (own_hd ((b1 &&& (15 : Int32))).toNatClampNeg)), (.int ((((p_4 + (1 : Int32)) + (1 : Int32)) + (1 : Int32)) + (1 : Int32))), (.ref a_3)])
    obtain ⟨q172, c172, R172, s172, t172⟩ := id V164
    have hin172 : ¬ (((((p_4 + (1 : Int32)) + (1 : Int32)) + (1 : Int32)) + (1 : Int32)) < 0 ∨ c172.slots.size ≤ (((((p_4 + (1 : Int32)) + (1 : Int32)) + (1 : Int32)) + (1 : Int32))).toNatClampNeg) := inb_of s172 (own_t1_36 p_4 hp)
    obtain ⟨T173, h173, X173, e173, W173, st173⟩ := stB X167 hx hZ e167 R172 (j := ((((p_4 + (1 : Int32)) + (1 : Int32)) + (1 : Int32)) + (1 : Int32))) hin172 (g := (mkF m 63 #[.val (.ref a_1), .val (.int (4 : Int32)), .val (.ref a_3), .val (.int p_4), .val (.int (((((p_4 + (1 : Int32)) + (1 : Int32)) + (1 : Int32)) + (1 : Int32)) + (1 : Int32))), .val (.int (1 : Int32))] [(.int (own_hd ((b1 &&& (15 : Int32))).toNatClampNeg)), (.int ((((p_4 + (1 : Int32)) + (1 : Int32)) + (1 : Int32)) + (1 : Int32))), (.ref a_3)])) rfl rfl (hb hby own_d1_63)
    rw [own_nar_hd _] at W173
    have V173 : own_AV Z h173 a_3 .byte (16 : Int32) (own_upd (own_upd (own_upd (own_upd (own_upd fa (p_4).toNatClampNeg (.int (own_hd (((b0 >>> ((4 : Int32) &&& 31)) &&& (15 : Int32))).toNatClampNeg))) ((p_4 + (1 : Int32))).toNatClampNeg (.int (own_hd ((b0 &&& (15 : Int32))).toNatClampNeg))) (((p_4 + (1 : Int32)) + (1 : Int32))).toNatClampNeg (.int (32 : Int32))) ((((p_4 + (1 : Int32)) + (1 : Int32)) + (1 : Int32))).toNatClampNeg (.int (own_hd (((b1 >>> ((4 : Int32) &&& 31)) &&& (15 : Int32))).toNatClampNeg))) (((((p_4 + (1 : Int32)) + (1 : Int32)) + (1 : Int32)) + (1 : Int32))).toNatClampNeg (.int (own_hd ((b1 &&& (15 : Int32))).toNatClampNeg))) := own_AV.set (k := (((((p_4 + (1 : Int32)) + (1 : Int32)) + (1 : Int32)) + (1 : Int32))).toNatClampNeg) V164 W173 rfl
    have z174 := W173.size
    have K173 : Keep h0 h173 [a_3] := K164.wr W173 (Or.inl (List.mem_of_getElem? (i := 0) rfl))
    have N173 := Fr.snoc X173 N164 (by omega : n0 ≤ a_3)
    refine own_go (fun _ k => st173 _ k) ?_
    show own_Go _ _ _ _ T173 (mkF m 64 #[.val (.ref a_1), .val (.int (4 : Int32)), .val (.ref a_3), .val (.int p_4), .val (.int (((((p_4 + (1 : Int32)) + (1 : Int32)) + (1 : Int32)) + (1 : Int32)) + (1 : Int32))), .val (.int (1 : Int32))] [])
    refine own_go (fun _ k => XS.iinc X173.here hx rfl (hb hby own_d1_64) rfl (l' := #[.val (.ref a_1), .val (.int (4 : Int32)), .val (.ref a_3), .val (.int p_4), .val (.int (((((p_4 + (1 : Int32)) + (1 : Int32)) + (1 : Int32)) + (1 : Int32)) + (1 : Int32))), .val (.int (2 : Int32))]) rfl k) ?_
    show own_Go _ _ _ _ T173 (mkF m 67 #[.val (.ref a_1), .val (.int (4 : Int32)), .val (.ref a_3), .val (.int p_4), .val (.int (((((p_4 + (1 : Int32)) + (1 : Int32)) + (1 : Int32)) + (1 : Int32)) + (1 : Int32))), .val (.int (2 : Int32))] [])
    refine own_go (fun _ k => XS.goto X173.here hx rfl (pc0 := 67) (pc' := 6) rfl (hb hby own_d1_67) (by decide) (by decide) k) ?_
    show own_Go _ _ _ _ T173 (mkF m 6 #[.val (.ref a_1), .val (.int (4 : Int32)), .val (.ref a_3), .val (.int p_4), .val (.int (((((p_4 + (1 : Int32)) + (1 : Int32)) + (1 : Int32)) + (1 : Int32)) + (1 : Int32))), .val (.int (2 : Int32))] [])
    refine own_go (fun _ k => XS.iload X173.here hx rfl (hb hby own_d1_6) rfl k) ?_
    show own_Go _ _ _ _ T173 (mkF m 8 #[.val (.ref a_1), .val (.int (4 : Int32)), .val (.ref a_3), .val (.int p_4), .val (.int (((((p_4 + (1 : Int32)) + (1 : Int32)) + (1 : Int32)) + (1 : Int32)) + (1 : Int32))), .val (.int (2 : Int32))] [(.int (2 : Int32))])
    refine own_go (fun _ k => XS.iloadN X173.here hx rfl (hb hby own_d1_8) rfl k) ?_
    show own_Go _ _ _ _ T173 (mkF m 9 #[.val (.ref a_1), .val (.int (4 : Int32)), .val (.ref a_3), .val (.int p_4), .val (.int (((((p_4 + (1 : Int32)) + (1 : Int32)) + (1 : Int32)) + (1 : Int32)) + (1 : Int32))), .val (.int (2 : Int32))] [(.int (4 : Int32)), (.int (2 : Int32))])
    have hc175 : (2 : Int32) < (4 : Int32) := by decide
    refine own_go (fun _ k => XS.icmpNo X173.here hx rfl (hb hby own_d1_9) rfl (Jvm.Free.XT.ii_ge_f hc175) k) ?_
    show own_Go _ _ _ _ T173 (mkF m 12 #[.val (.ref a_1), .val (.int (4 : Int32)), .val (.ref a_3), .val (.int p_4), .val (.int (((((p_4 + (1 : Int32)) + (1 : Int32)) + (1 : Int32)) + (1 : Int32)) + (1 : Int32))), .val (.int (2 : Int32))] [])
    refine own_go (fun _ k => XS.iload X173.here hx rfl (hb hby own_d1_12) rfl k) ?_
    show own_Go _ _ _ _ T173 (mkF m 14 #[.val (.ref a_1), .val (.int (4 : Int32)), .val (.ref a_3), .val (.int p_4), .val (.int (((((p_4 + (1 : Int32)) + (1 : Int32)) + (1 : Int32)) + (1 : Int32)) + (1 : Int32))), .val (.int (2 : Int32))] [(.int (2 : Int32))])
    have hc176 : 0 < (2 : Int32) := by decide
    refine own_go (fun _ k => XS.ifNo X173.here hx rfl (hb hby own_d1_14) rfl (Jvm.Free.XT.i0_le_f hc176) k) ?_
    show own_Go _ _ _ _ T173 (mkF m 17 #[.val (.ref a_1), .val (.int (4 : Int32)), .val (.ref a_3), .val (.int p_4), .val (.int (((((p_4 + (1 : Int32)) + (1 : Int32)) + (1 : Int32)) + (1 : Int32)) + (1 : Int32))), .val (.int (2 : Int32))] [])
    refine own_go (fun _ k => XS.aloadN X173.here hx rfl (hb hby own_d1_17) rfl rfl k) ?_
    show own_Go _ _ _ _ T173 (mkF m 18 #[.val (.ref a_1), .val (.int (4 : Int32)), .val (.ref a_3), .val (.int p_4), .val (.int (((((p_4 + (1 : Int32)) + (1 : Int32)) + (1 : Int32)) + (1 : Int32)) + (1 : Int32))), .val (.int (2 : Int32))] [(.ref a_3)])
    refine own_go (fun _ k => XS.iload X173.here hx rfl (hb hby own_d1_18) rfl k) ?_
    show own_Go _ _ _ _ T173 (mkF m 20 #[.val (.ref a_1), .val (.int (4 : Int32)), .val (.ref a_3), .val (.int p_4), .val (.int (((((p_4 + (1 : Int32)) + (1 : Int32)) + (1 : Int32)) + (1 : Int32)) + (1 : Int32))), .val (.int (2 : Int32))] [(.int (((((p_4 + (1 : Int32)) + (1 : Int32)) + (1 : Int32)) + (1 : Int32)) + (1 : Int32))), (.ref a_3)])
    refine own_go (fun _ k => XS.iinc X173.here hx rfl (hb hby own_d1_20) rfl (l' := #[.val (.ref a_1), .val (.int (4 : Int32)), .val (.ref a_3), .val (.int p_4), .val (.int ((((((p_4 + (1 : Int32)) + (1 : Int32)) + (1 : Int32)) + (1 : Int32)) + (1 : Int32)) + (1 : Int32))), .val (.int (2 : Int32))]) rfl k) ?_
    show own_Go _ _ _ _ T173 (mkF m 23 #[.val (.ref a_1), .val (.int (4 : Int32)), .val (.ref a_3), .val (.int p_4), .val (.int ((((((p_4 + (1 : Int32)) + (1 : Int32)) + (1 : Int32)) + (1 : Int32)) + (1 : Int32)) + (1 : Int32))), .val (.int (2 : Int32))] [(.int (((((p_4 + (1 : Int32)) + (1 : Int32)) + (1 : Int32)) + (1 : Int32)) + (1 : Int32))), (.ref a_3)])
    refine own_go (fun _ k => XS.bipush X173.here hx rfl (hb hby own_d1_23) k) ?_
    show own_Go _ _ _ _ T173 (mkF m 25 #[.val (.ref a_1), .val (.int (4 : Int32)), .val (.ref a_3), .val (.int p_4), .val (.int ((((((p_4 + (1 : Int32)) + (1 : Int32)) + (1 : Int32)) + (1 : Int32)) + (1 : Int32)) + (1 : Int32))), .val (.int (2 : Int32))] [(.int (32 : Int32)), (.int (((((p_4 + (1 : Int32)) + (1 : Int32)) + (1 : Int32)) + (1 : Int32)) + (1 : Int32))), (.ref a_3)])
    obtain ⟨q177, c177, R177, s177, t177⟩ := id V173
    have hin177 : ¬ ((((((p_4 + (1 : Int32)) + (1 : Int32)) + (1 : Int32)) + (1 : Int32)) + (1 : Int32)) < 0 ∨ c177.slots.size ≤ ((((((p_4 + (1 : Int32)) + (1 : Int32)) + (1 : Int32)) + (1 : Int32)) + (1 : Int32))).toNatClampNeg) := inb_of s177 (own_t1_37 p_4 hp)
    obtain ⟨T178, h178, X178, e178, W178, st178⟩ := stB X173 hx hZ e173 R177 (j := (((((p_4 + (1 : Int32)) + (1 : Int32)) + (1 : Int32)) + (1 : Int32)) + (1 : Int32))) hin177 (g := (mkF m 25 #[.val (.ref a_1), .val (.int (4 : Int32)), .val (.ref a_3), .val (.int p_4), .val (.int ((((((p_4 + (1 : Int32)) + (1 : Int32)) + (1 : Int32)) + (1 : Int32)) + (1 : Int32)) + (1 : Int32))), .val (.int (2 : Int32))] [(.int (32 : Int32)), (.int (((((p_4 + (1 : Int32)) + (1 : Int32)) + (1 : Int32)) + (1 : Int32)) + (1 : Int32))), (.ref a_3)])) rfl rfl (hb hby own_d1_25)
    have V178 : own_AV Z h178 a_3 .byte (16 : Int32) (own_upd (own_upd (own_upd (own_upd (own_upd (own_upd fa (p_4).toNatClampNeg (.int (own_hd (((b0 >>> ((4 : Int32) &&& 31)) &&& (15 : Int32))).toNatClampNeg))) ((p_4 + (1 : Int32))).toNatClampNeg (.int (own_hd ((b0 &&& (15 : Int32))).toNatClampNeg))) (((p_4 + (1 : Int32)) + (1 : Int32))).toNatClampNeg (.int (32 : Int32))) ((((p_4 + (1 : Int32)) + (1 : Int32)) + (1 : Int32))).toNatClampNeg (.int (own_hd (((b1 >>> ((4 : Int32) &&& 31)) &&& (15 : Int32))).toNatClampNeg))) (((((p_4 + (1 : Int32)) + (1 : Int32)) + (1 : Int32)) + (1 : Int32))).toNatClampNeg (.int (own_hd ((b1 &&& (15 : Int32))).toNatClampNeg))) ((((((p_4 + (1 : Int32)) + (1 : Int32)) + (1 : Int32)) + (1 : Int32)) + (1 : Int32))).toNatClampNeg (.int (32 : Int32))) := own_AV.set (k := ((((((p_4 + (1 : Int32)) + (1 : Int32)) + (1 : Int32)) + (1 : Int32)) + (1 : Int32))).toNatClampNeg) V173 W178 rfl
    have z179 := W178.size
    have K178 : Keep h0 h178 [a_3] := K173.wr W178 (Or.inl (List.mem_of_getElem? (i := 0) rfl))
    have N178 := Fr.snoc X178 N173 (by omega : n0 ≤ a_3)
    refine own_go (fun _ k => st178 _ k) ?_
    show own_Go _ _ _ _ T178 (mkF m 26 #[.val (.ref a_1), .val (.int (4 : Int32)), .val (.ref a_3), .val (.int p_4), .val (.int ((((((p_4 + (1 : Int32)) + (1 : Int32)) + (1 : Int32)) + (1 : Int32)) + (1 : Int32)) + (1 : Int32))), .val (.int (2 : Int32))] [])
    refine own_go (fun _ k => XS.aloadN X178.here hx rfl (hb hby own_d1_26) rfl rfl k) ?_
    show own_Go _ _ _ _ T178 (mkF m 27 #[.val (.ref a_1), .val (.int (4 : Int32)), .val (.ref a_3), .val (.int p_4), .val (.int ((((((p_4 + (1 : Int32)) + (1 : Int32)) + (1 : Int32)) + (1 : Int32)) + (1 : Int32)) + (1 : Int32))), .val (.int (2 : Int32))] [(.ref a_3)])
    refine own_go (fun _ k => XS.iload X178.here hx rfl (hb hby own_d1_27) rfl k) ?_
    show own_Go _ _ _ _ T178 (mkF m 29 #[.val (.ref a_1), .val (.int (4 : Int32)), .val (.ref a_3), .val (.int p_4), .val (.int ((((((p_4 + (1 : Int32)) + (1 : Int32)) + (1 : Int32)) + (1 : Int32)) + (1 : Int32)) + (1 : Int32))), .val (.int (2 : Int32))] [(.int ((((((p_4 + (1 : Int32)) + (1 : Int32)) + (1 : Int32)) + (1 : Int32)) + (1 : Int32)) + (1 : Int32))), (.ref a_3)])
    refine own_go (fun _ k => XS.iinc X178.here hx rfl (hb hby own_d1_29) rfl (l' := #[.val (.ref a_1), .val (.int (4 : Int32)), .val (.ref a_3), .val (.int p_4), .val (.int (((((((p_4 + (1 : Int32)) + (1 : Int32)) + (1 : Int32)) + (1 : Int32)) + (1 : Int32)) + (1 : Int32)) + (1 : Int32))), .val (.int (2 : Int32))]) rfl k) ?_
    show own_Go _ _ _ _ T178 (mkF m 32 #[.val (.ref a_1), .val (.int (4 : Int32)), .val (.ref a_3), .val (.int p_4), .val (.int (((((((p_4 + (1 : Int32)) + (1 : Int32)) + (1 : Int32)) + (1 : Int32)) + (1 : Int32)) + (1 : Int32)) + (1 : Int32))), .val (.int (2 : Int32))] [(.int ((((((p_4 + (1 : Int32)) + (1 : Int32)) + (1 : Int32)) + (1 : Int32)) + (1 : Int32)) + (1 : Int32))), (.ref a_3)])
    have f180 : Sta Z h178 "com/example/honest_codec/honestcodec/IllFormedSequence" "HEX_DIGITS" "[B" (.ref t_) := ((f166.wr W173).wr W178)
    obtain ⟨T181, X181, e181, st181⟩ := getS2 X178 hx hZ hown (host := "") (Or.inl (hw _ (List.mem_of_getElem? (i := 6) rfl))) Via.refl e178 f180 (g := (mkF m 32 #[.val (.ref a_1), .val (.int (4 : Int32)), .val (.ref a_3), .val (.int p_4), .val (.int (((((((p_4 + (1 : Int32)) + (1 : Int32)) + (1 : Int32)) + (1 : Int32)) + (1 : Int32)) + (1 : Int32)) + (1 : Int32))), .val (.int (2 : Int32))] [(.int ((((((p_4 + (1 : Int32)) + (1 : Int32)) + (1 : Int32)) + (1 : Int32)) + (1 : Int32)) + (1 : Int32))), (.ref a_3)])) rfl (hb hby own_d1_32)
    refine own_go (fun _ k => st181 _ k) ?_
    show own_Go _ _ _ _ T181 (mkF m 35 #[.val (.ref a_1), .val (.int (4 : Int32)), .val (.ref a_3), .val (.int p_4), .val (.int (((((((p_4 + (1 : Int32)) + (1 : Int32)) + (1 : Int32)) + (1 : Int32)) + (1 : Int32)) + (1 : Int32)) + (1 : Int32))), .val (.int (2 : Int32))] [(.ref t_), (.int ((((((p_4 + (1 : Int32)) + (1 : Int32)) + (1 : Int32)) + (1 : Int32)) + (1 : Int32)) + (1 : Int32))), (.ref a_3)])
    refine own_go (fun _ k => XS.aloadN X181.here hx rfl (hb hby own_d1_35) rfl rfl k) ?_
    show own_Go _ _ _ _ T181 (mkF m 36 #[.val (.ref a_1), .val (.int (4 : Int32)), .val (.ref a_3), .val (.int p_4), .val (.int (((((((p_4 + (1 : Int32)) + (1 : Int32)) + (1 : Int32)) + (1 : Int32)) + (1 : Int32)) + (1 : Int32)) + (1 : Int32))), .val (.int (2 : Int32))] [(.ref a_1), (.ref t_), (.int ((((((p_4 + (1 : Int32)) + (1 : Int32)) + (1 : Int32)) + (1 : Int32)) + (1 : Int32)) + (1 : Int32))), (.ref a_3)])
    refine own_go (fun _ k => XS.iload X181.here hx rfl (hb hby own_d1_36) rfl k) ?_
    show own_Go _ _ _ _ T181 (mkF m 38 #[.val (.ref a_1), .val (.int (4 : Int32)), .val (.ref a_3), .val (.int p_4), .val (.int (((((((p_4 + (1 : Int32)) + (1 : Int32)) + (1 : Int32)) + (1 : Int32)) + (1 : Int32)) + (1 : Int32)) + (1 : Int32))), .val (.int (2 : Int32))] [(.int (2 : Int32)), (.ref a_1), (.ref t_), (.int ((((((p_4 + (1 : Int32)) + (1 : Int32)) + (1 : Int32)) + (1 : Int32)) + (1 : Int32)) + (1 : Int32))), (.ref a_3)])
    have f182 : own_AV Z h178 a_1 .byte (4 : Int32) gs := ((f168.other W173 (own_ne (by omega))).other W178 (own_ne (by omega)))
    obtain ⟨q183, c183, R183, s183, t183⟩ := id f182
    have hin183 : ¬ ((2 : Int32) < 0 ∨ c183.slots.size ≤ ((2 : Int32)).toNatClampNeg) := inb_of s183 ⟨by decide, by decide⟩
    have u183 : c183.slots[((2 : Int32)).toNatClampNeg]? = some (.int b2) := own_at (k := 2) t183 s183 hin183 (by decide) (hg2)
    refine own_go (fun _ k => X181.baloadBytes hx (j := (2 : Int32)) (v := (.int b2)) (by rw [e181]; exact R183.1) (State.isArrayOf_alike hZ.alike R183.2.1) R183.2.2 hin183 u183 (g := (mkF m 38 #[.val (.ref a_1), .val (.int (4 : Int32)), .val (.ref a_3), .val (.int p_4), .val (.int (((((((p_4 + (1 : Int32)) + (1 : Int32)) + (1 : Int32)) + (1 : Int32)) + (1 : Int32)) + (1 : Int32)) + (1 : Int32))), .val (.int (2 : Int32))] [(.int (2 : Int32)), (.ref a_1), (.ref t_), (.int ((((((p_4 + (1 : Int32)) + (1 : Int32)) + (1 : Int32)) + (1 : Int32)) + (1 : Int32)) + (1 : Int32))), (.ref a_3)])) rfl rfl (hb hby own_d1_38) _ k) ?_
    show own_Go _ _ _ _ T181 (mkF m 39 #[.val (.ref a_1), .val (.int (4 : Int32)), .val (.ref a_3), .val (.int p_4), .val (.int (((((((p_4 + (1 : Int32)) + (1 : Int32)) + (1 : Int32)) + (1 : Int32)) + (1 : Int32)) + (1 : Int32)) + (1 : Int32))), .val (.int (2 : Int32))] [(.int b2), (.ref t_), (.int ((((((p_4 + (1 : Int32)) + (1 : Int32)) + (1 : Int32)) + (1 : Int32)) + (1 : Int32)) + (1 : Int32))), (.ref a_3)])
    refine own_go (fun _ k => XS.iconst X181.here hx rfl (hb hby own_d1_39) k) ?_
    show own_Go _ _ _ _ T181 (mkF m 40 #[.val (.ref a_1), .val (.int (4 : Int32)), .val (.ref a_3), .val (.int p_4), .val (.int (((((((p_4 + (1 : Int32)) + (1 : Int32)) + (1 : Int32)) + (1 : Int32)) + (1 : Int32)) + (1 : Int32)) + (1 : Int32))), .val (.int (2 : Int32))] [(.int (4 : Int32)), (.int b2), (.ref t_), (.int ((((((p_4 + (1 : Int32)) + (1 : Int32)) + (1 : Int32)) + (1 : Int32)) + (1 : Int32)) + (1 : Int32))), (.ref a_3)])
    refine own_go (fun _ k => XS.ishr X181.here hx rfl (hb hby own_d1_40) rfl k) ?_
    show own_Go _ _ _ _ T181 (mkF m 41 #[.val (.ref a_1), .val (.int (4 : Int32)), .val (.ref a_3), .val (.int p_4), .val (.int (((((((p_4 + (1 : Int32)) + (1 : Int32)) + (1 : Int32)) + (1 : Int32)) + (1 : Int32)) + (1 : Int32)) + (1 : Int32))), .val (.int (2 : Int32))] [(.int (b2 >>> ((4 : Int32) &&& 31))), (.ref t_), (.int ((((((p_4 + (1 : Int32)) + (1 : Int32)) + (1 : Int32)) + (1 : Int32)) + (1 : Int32)) + (1 : Int32))), (.ref a_3)])
    refine own_go (fun _ k => XS.bipush X181.here hx rfl (hb hby own_d1_41) k) ?_
    show own_Go _ _ _ _ T181 (mkF m 43 #[.val (.ref a_1), .val (.int (4 : Int32)), .val (.ref a_3), .val (.int p_4), .val (.int (((((((p_4 + (1 : Int32)) + (1 : Int32)) + (1 : Int32)) + (1 : Int32)) + (1 : Int32)) + (1 : Int32)) + (1 : Int32))), .val (.int (2 : Int32))] [(.int (15 : Int32)), (.int (b2 >>> ((4 : Int32) &&& 31))), (.ref t_), (.int ((((((p_4 + (1 : Int32)) + (1 : Int32)) + (1 : Int32)) + (1 : Int32)) + (1 : Int32)) + (1 : Int32))), (.ref a_3)])
    refine own_go (fun _ k => XS.iand X181.here hx rfl (hb hby own_d1_43) rfl k) ?_
    show own_Go _ _ _ _ T181 (mkF m 44 #[.val (.ref a_1), .val (.int (4 : Int32)), .val (.ref a_3), .val (.int p_4), .val (.int (((((((p_4 + (1 : Int32)) + (1 : Int32)) + (1 : Int32)) + (1 : Int32)) + (1 : Int32)) + (1 : Int32)) + (1 : Int32))), .val (.int (2 : Int32))] [(.int ((b2 >>> ((4 : Int32) &&& 31)) &&& (15 : Int32))), (.ref t_), (.int ((((((p_4 + (1 : Int32)) + (1 : Int32)) + (1 : Int32)) + (1 : Int32)) + (1 : Int32)) + (1 : Int32))), (.ref a_3)])
    have f184 : own_AV Z h178 t_ .byte (16 : Int32) (fun i => .int (own_hd i)) := ((f170.other W173 (own_ne (by omega))).other W178 (own_ne (by omega)))
    obtain ⟨q185, c185, R185, s185, t185⟩ := id f184
    have hin185 : ¬ (((b2 >>> ((4 : Int32) &&& 31)) &&& (15 : Int32)) < 0 ∨ c185.slots.size ≤ (((b2 >>> ((4 : Int32) &&& 31)) &&& (15 : Int32))).toNatClampNeg) := inb_of s185 (own_t1_38 b2 )
    have u185 : c185.slots[(((b2 >>> ((4 : Int32) &&& 31)) &&& (15 : Int32))).toNatClampNeg]? = some (.int (own_hd (((b2 >>> ((4 : Int32) &&& 31)) &&& (15 : Int32))).toNatClampNeg)) := own_at (k := (((b2 >>> ((4 : Int32) &&& 31)) &&& (15 : Int32))).toNatClampNeg) t185 s185 hin185 rfl (rfl)
    refine own_go (fun _ k => X181.baloadBytes hx (j := ((b2 >>> ((4 : Int32) &&& 31)) &&& (15 : Int32))) (v := (.int (own_hd (((b2 >>> ((4 : Int32) &&& 31)) &&& (15 : Int32))).toNatClampNeg))) (by rw [e181]; exact R185.1) (State.isArrayOf_alike hZ.alike R185.2.1) R185.2.2 hin185 u185 (g := (mkF m 44 #[.val (.ref a_1), .val (.int (4 : Int32)), .val (.ref a_3), .val (.int p_4), .val (.int (((((((p_4 + (1 : Int32)) + (1 : Int32)) + (1 : Int32)) + (1 : Int32)) + (1 : Int32)) + (1 : Int32)) + (1 : Int32))), .val (.int (2 : Int32))] [(.int ((b2 >>> ((4 : Int32) &&& 31)) &&& (15 : Int32))), (.ref t_), (.int ((((((p_4 + (1 : Int32)) + (1 : Int32)) + (1 : Int32)) + (1 : Int32)) + (1 : Int32)) + (1 : Int32))), (.ref a_3)])) rfl rfl (hb hby own_d1_44) _ k) ?_
    show own_Go _ _ _ _ T181 (mkF m 45 #[.val (.ref a_1), .val (.int (4 : Int32)), .val (.ref a_3), .val (.int p_4), .val (.int (((((((p_4 + (1 : Int32)) + (1 : Int32)) + (1 : Int32)) + (1 : Int32)) + (1 : Int32)) + (1 : Int32)) + (1 : Int32))), .val (.int (2 : Int32))] [(.int (own_hd (((b2 >>> ((4 : Int32) &&& 31)) &&& (15 : Int32))).toNatClampNeg)), (.int ((((((p_4 + (1 : Int32)) + (1 : Int32)) + (1 : Int32)) + (1 : Int32)) + (1 : Int32)) + (1 : Int32))), (.ref a_3)])
    obtain ⟨q186, c186, R186, s186, t186⟩ := id V178
    have hin186 : ¬ (((((((p_4 + (1 : Int32)) + (1 : Int32)) + (1 : Int32)) + (1 : Int32)) + (1 : Int32)) + (1 : Int32)) < 0 ∨ c186.slots.size ≤ (((((((p_4 + (1 : Int32)) + (1 : Int32)) + (1 : Int32)) + (1 : Int32)) + (1 : Int32)) + (1 : Int32))).toNatClampNeg) := inb_of s186 (own_t1_39 p_4 hp)
    obtain ⟨T187, h187, X187, e187, W187, st187⟩ := stB X181 hx hZ e181 R186 (j := ((((((p_4 + (1 : Int32)) + (1 : Int32)) + (1 : Int32)) + (1 : Int32)) + (1 : Int32)) + (1 : Int32))) hin186 (g := (mkF m 45 #[.val (.ref a_1), .val (.int (4 : Int32)), .val (.ref a_3), .val (.int p_4), .val (.int (((((((p_4 + (1 : Int32)) + (1 : Int32)) + (1 : Int32)) + (1 : Int32)) + (1 : Int32)) + (1 : Int32)) + (1 : Int32))), .val (.int (2 : Int32))] [(.int (own_hd (((b2 >>> ((4 : Int32) &&& 31)) &&& (15 : Int32))).toNatClampNeg)), (.int ((((((p_4 + (1 : Int32)) + (1 : Int32)) + (1 : Int32)) + (1 : Int32)) + (1 : Int32)) + (1 : Int32))), (.ref a_3)])) rfl rfl (hb hby own_d1_45)
    rw [own_nar_hd _] at W187
    have V187 : own_AV Z h187 a_3 .byte (16 : Int32) (own_upd (own_upd (own_upd (own_upd (own_upd (own_upd (own_upd fa (p_4).toNatClampNeg (.int (own_hd (((b0 >>> ((4 : Int32) &&& 31)) &&& (15 : Int32))).toNatClampNeg))) ((p_4 + (1 : Int32))).toNatClampNeg (.int (own_hd ((b0 &&& (15 : Int32))).toNatClampNeg))) (((p_4 + (1 : Int32)) + (1 : Int32))).toNatClampNeg (.int (32 : Int32))) ((((p_4 + (1 : Int32)) + (1 : Int32)) + (1 : Int32))).toNatClampNeg (.int (own_hd (((b1 >>> ((4 : Int32) &&& 31)) &&& (15 : Int32))).toNatClampNeg))) (((((p_4 + (1 : Int32)) + (1 : Int32)) + (1 : Int32)) + (1 : Int32))).toNatClampNeg (.int (own_hd ((b1 &&& (15 : Int32))).toNatClampNeg))) ((((((p_4 + (1 : Int32)) + (1 : Int32)) + (1 : Int32)) + (1 : Int32)) + (1 : Int32))).toNatClampNeg (.int (32 : Int32))) (((((((p_4 + (1 : Int32)) + (1 : Int32)) + (1 : Int32)) + (1 : Int32)) + (1 : Int32)) + (1 : Int32))).toNatClampNeg (.int (own_hd (((b2 >>> ((4 : Int32) &&& 31)) &&& (15 : Int32))).toNatClampNeg))) := own_AV.set (k := (((((((p_4 + (1 : Int32)) + (1 : Int32)) + (1 : Int32)) + (1 : Int32)) + (1 : Int32)) + (1 : Int32))).toNatClampNeg) V178 W187 rfl
    have z188 := W187.size
    have K187 : Keep h0 h187 [a_3] := K178.wr W187 (Or.inl (List.mem_of_getElem? (i := 0) rfl))
    have N187 := Fr.snoc X187 N178 (by omega : n0 ≤ a_3)
    refine own_go (fun _ k => st187 _ k) ?_
    show own_Go _ _ _ _ T187 (mkF m 46 #[.val (.ref a_1), .val (.int (4 : Int32)), .val (.ref a_3), .val (.int p_4), .val (.int (((((((p_4 + (1 : Int32)) + (1 : Int32)) + (1 : Int32)) + (1 : Int32)) + (1 : Int32)) + (1 : Int32)) + (1 : Int32))), .val (.int (2 : Int32))] [])
    refine own_go (fun _ k => XS.aloadN X187.here hx rfl (hb hby own_d1_46) rfl rfl k) ?_
    show own_Go _ _ _ _ T187 (mkF m 47 #[.val (.ref a_1), .val (.int (4 : Int32)), .val (.ref a_3), .val (.int p_4), .val (.int (((((((p_4 + (1 : Int32)) + (1 : Int32)) + (1 : Int32)) + (1 : Int32)) + (1 : Int32)) + (1 : Int32)) + (1 : Int32))), .val (.int (2 : Int32))] [(.ref a_3)])
    refine own_go (fun _ k => XS.iload X187.here hx rfl (hb hby own_d1_47) rfl k) ?_
    show own_Go _ _ _ _ T187 (mkF m 49 #[.val (.ref a_1), .val (.int (4 : Int32)), .val (.ref a_3), .val (.int p_4), .val (.int (((((((p_4 + (1 : Int32)) + (1 : Int32)) + (1 : Int32)) + (1 : Int32)) + (1 : Int32)) + (1 : Int32)) + (1 : Int32))), .val (.int (2 : Int32))] [(.int (((((((p_4 + (1 : Int32)) + (1 : Int32)) + (1 : Int32)) + (1 : Int32)) + (1 : Int32)) + (1 : Int32)) + (1 : Int32))), (.ref a_3)])
    refine own_go (fun _ k => XS.iinc X187.here hx rfl (hb hby own_d1_49) rfl (l' := #[.val (.ref a_1), .val (.int (4 : Int32)), .val (.ref a_3), .val (.int p_4), .val (.int ((((((((p_4 + (1 : Int32)) + (1 : Int32)) + (1 : Int32)) + (1 : Int32)) + (1 : Int32)) + (1 : Int32)) + (1 : Int32)) + (1 : Int32))), .val (.int (2 : Int32))]) rfl k) ?_
    show own_Go _ _ _ _ T187 (mkF m 52 #[.val (.ref a_1), .val (.int (4 : Int32)), .val (.ref a_3), .val (.int p_4), .val (.int ((((((((p_4 + (1 : Int32)) + (1 : Int32)) + (1 : Int32)) + (1 : Int32)) + (1 : Int32)) + (1 : Int32)) + (1 : Int32)) + (1 : Int32))), .val (.int (2 : Int32))] [(.int (((((((p_4 + (1 : Int32)) + (1 : Int32)) + (1 : Int32)) + (1 : Int32)) + (1 : Int32)) + (1 : Int32)) + (1 : Int32))), (.ref a_3)])
    have f189 : Sta Z h187 "com/example/honest_codec/honestcodec/IllFormedSequence" "HEX_DIGITS" "[B" (.ref t_) := (f180.wr W187)
    obtain ⟨T190, X190, e190, st190⟩ := getS2 X187 hx hZ hown (host := "") (Or.inl (hw _ (List.mem_of_getElem? (i := 6) rfl))) Via.refl e187 f189 (g := (mkF m 52 #[.val (.ref a_1), .val (.int (4 : Int32)), .val (.ref a_3), .val (.int p_4), .val (.int ((((((((p_4 + (1 : Int32)) + (1 : Int32)) + (1 : Int32)) + (1 : Int32)) + (1 : Int32)) + (1 : Int32)) + (1 : Int32)) + (1 : Int32))), .val (.int (2 : Int32))] [(.int (((((((p_4 + (1 : Int32)) + (1 : Int32)) + (1 : Int32)) + (1 : Int32)) + (1 : Int32)) + (1 : Int32)) + (1 : Int32))), (.ref a_3)])) rfl (hb hby own_d1_52)
    refine own_go (fun _ k => st190 _ k) ?_
    show own_Go _ _ _ _ T190 (mkF m 55 #[.val (.ref a_1), .val (.int (4 : Int32)), .val (.ref a_3), .val (.int p_4), .val (.int ((((((((p_4 + (1 : Int32)) + (1 : Int32)) + (1 : Int32)) + (1 : Int32)) + (1 : Int32)) + (1 : Int32)) + (1 : Int32)) + (1 : Int32))), .val (.int (2 : Int32))] [(.ref t_), (.int (((((((p_4 + (1 : Int32)) + (1 : Int32)) + (1 : Int32)) + (1 : Int32)) + (1 : Int32)) + (1 : Int32)) + (1 : Int32))), (.ref a_3)])
    refine own_go (fun _ k => XS.aloadN X190.here hx rfl (hb hby own_d1_55) rfl rfl k) ?_
    show own_Go _ _ _ _ T190 (mkF m 56 #[.val (.ref a_1), .val (.int (4 : Int32)), .val (.ref a_3), .val (.int p_4), .val (.int ((((((((p_4 + (1 : Int32)) + (1 : Int32)) + (1 : Int32)) + (1 : Int32)) + (1 : Int32)) + (1 : Int32)) + (1 : Int32)) + (1 : Int32))), .val (.int (2 : Int32))] [(.ref a_1), (.ref t_), (.int (((((((p_4 + (1 : Int32)) + (1 : Int32)) + (1 : Int32)) + (1 : Int32)) + (1 : Int32)) + (1 : Int32)) + (1 : Int32))), (.ref a_3)])
    refine own_go (fun _ k => XS.iload X190.here hx rfl (hb hby own_d1_56) rfl k) ?_
    show own_Go _ _ _ _ T190 (mkF m 58 #[.val (.ref a_1), .val (.int (4 : Int32)), .val (.ref a_3), .val (.int p_4), .val (.int ((((((((p_4 + (1 : Int32)) + (1 : Int32)) + (1 : Int32)) + (1 : Int32)) + (1 : Int32)) + (1 : Int32)) + (1 : Int32)) + (1 : Int32))), .val (.int (2 : Int32))] [(.int (2 : Int32)), (.ref a_1), (.ref t_), (.int (((((((p_4 + (1 : Int32)) + (1 : Int32)) + (1 : Int32)) + (1 : Int32)) + (1 : Int32)) + (1 : Int32)) + (1 : Int32))), (.ref a_3)])
    have f191 : own_AV Z h187 a_1 .byte (4 : Int32) gs := (f182.other W187 (own_ne (by omega)))
    obtain ⟨q192, c192, R192, s192, t192⟩ := id f191
    have hin192 : ¬ ((2 : Int32) < 0 ∨ c192.slots.size ≤ ((2 : Int32)).toNatClampNeg) := inb_of s192 ⟨by decide, by decide⟩
    have u192 : c192.slots[((2 : Int32)).toNatClampNeg]? = some (.int b2) := own_at (k := 2) t192 s192 hin192 (by decide) (hg2)
    refine own_go (fun _ k => X190.baloadBytes hx (j := (2 : Int32)) (v := (.int b2)) (by rw [e190]; exact R192.1) (State.isArrayOf_alike hZ.alike R192.2.1) R192.2.2 hin192 u192 (g := (mkF m 58 #[.val (.ref a_1), .val (.int (4 : Int32)), .val (.ref a_3), .val (.int p_4), .val (.int ((((((((p_4 + (1 : Int32)) + (1 : Int32)) + (1 : Int32)) + (1 : Int32)) + (1 : Int32)) + (1 : Int32)) + (1 : Int32)) + (1 : Int32))), .val (.int (2 : Int32))] [(.int (2 : Int32)), (.ref a_1), (.ref t_), (.int (((((((p_4 + (1 : Int32)) + (1 : Int32)) + (1 : Int32)) + (1 : Int32)) + (1 : Int32)) + (1 : Int32)) + (1 : Int32))), (.ref a_3)])) rfl rfl (hb hby own_d1_58) _ k) ?_
    show own_Go _ _ _ _ T190 (mkF m 59 #[.val (.ref a_1), .val (.int (4 : Int32)), .val (.ref a_3), .val (.int p_4), .val (.int ((((((((p_4 + (1 : Int32)) + (1 : Int32)) + (1 : Int32)) + (1 : Int32)) + (1 : Int32)) + (1 : Int32)) + (1 : Int32)) + (1 : Int32))), .val (.int (2 : Int32))] [(.int b2), (.ref t_), (.int (((((((p_4 + (1 : Int32)) + (1 : Int32)) + (1 : Int32)) + (1 : Int32)) + (1 : Int32)) + (1 : Int32)) + (1 : Int32))), (.ref a_3)])
    refine own_go (fun _ k => XS.bipush X190.here hx rfl (hb hby own_d1_59) k) ?_
    show own_Go _ _ _ _ T190 (mkF m 61 #[.val (.ref a_1), .val (.int (4 : Int32)), .val (.ref a_3), .val (.int p_4), .val (.int ((((((((p_4 + (1 : Int32)) + (1 : Int32)) + (1 : Int32)) + (1 : Int32)) + (1 : Int32)) + (1 : Int32)) + (1 : Int32)) + (1 : Int32))), .val (.int (2 : Int32))] [(.int (15 : Int32)), (.int b2), (.ref t_), (.int (((((((p_4 + (1 : Int32)) + (1 : Int32)) + (1 : Int32)) + (1 : Int32)) + (1 : Int32)) + (1 : Int32)) + (1 : Int32))), (.ref a_3)])
    refine own_go (fun _ k => XS.iand X190.here hx rfl (hb hby own_d1_61) rfl k) ?_
    show own_Go _ _ _ _ T190 (mkF m 62 #[.val (.ref a_1), .val (.int (4 : Int32)), .val (.ref a_3), .val (.int p_4), .val (.int ((((((((p_4 + (1 : Int32)) + (1 : Int32)) + (1 : Int32)) + (1 : Int32)) + (1 : Int32)) + (1 : Int32)) + (1 : Int32)) + (1 : Int32))), .val (.int (2 : Int32))] [(.int (b2 &&& (15 : Int32))), (.ref t_), (.int (((((((p_4 + (1 : Int32)) + (1 : Int32)) + (1 : Int32)) + (1 : Int32)) + (1 : Int32)) + (1 : Int32)) + (1 : Int32))), (.ref a_3)])
    have f193 : own_AV Z h187 t_ .byte (16 : Int32) (fun i => .int (own_hd i)) := (f184.other W187 (own_ne (by omega)))
    obtain ⟨q194, c194, R194, s194, t194⟩ := id f193
    have hin194 : ¬ ((b2 &&& (15 : Int32)) < 0 ∨ c194.slots.size ≤ ((b2 &&& (15 : Int32))).toNatClampNeg) := inb_of s194 (own_t1_40 b2 )
    have u194 : c194.slots[((b2 &&& (15 : Int32))).toNatClampNeg]? = some (.int (own_hd ((b2 &&& (15 : Int32))).toNatClampNeg)) := own_at (k := ((b2 &&& (15 : Int32))).toNatClampNeg) t194 s194 hin194 rfl (rfl)
    refine own_go (fun _ k => X190.baloadBytes hx (j := (b2 &&& (15 : Int32))) (v := (.int (own_hd ((b2 &&& (15 : Int32))).toNatClampNeg))) (by rw [e190]; exact R194.1) (State.isArrayOf_alike hZ.alike R194.2.1) R194.2.2 hin194 u194 (g := (mkF m 62 #[.val (.ref a_1), .val (.int (4 : Int32)), .val (.ref a_3), .val (.int p_4), .val (.int ((((((((p_4 + (1 : Int32)) + (1 : Int32)) + (1 : Int32)) + (1 : Int32)) + (1 : Int32)) + (1 : Int32)) + (1 : Int32)) + (1 : Int32))), .val (.int (2 : Int32))] [(.int (b2 &&& (15 : Int32))), (.ref t_), (.int (((((((p_4 + (1 : Int32)) + (1 : Int32)) + (1 : Int32)) + (1 : Int32)) + (1 : Int32)) + (1 : Int32)) + (1 : Int32))), (.ref a_3)])) rfl rfl (hb hby own_d1_62) _ k) ?_
    show own_Go _ _ _ _ T190 (mkF m 63 #[.val (.ref a_1), .val (.int (4 : Int32)), .val (.ref a_3), .val (.int p_4), .val (.int ((((((((p_4 + (1 : Int32)) + (1 : Int32)) + (1 : Int32)) + (1 : Int32)) + (1 : Int32)) + (1 : Int32)) + (1 : Int32)) + (1 : Int32))), .val (.int (2 : Int32))] [(.int (own_hd ((b2 &&& (15 : Int32))).toNatClampNeg)), (.int (((((((p_4 + (1 : Int32)) + (1 : Int32)) + (1 : Int32)) + (1 : Int32)) + (1 : Int32)) + (1 : Int32)) + (1 : Int32))), (.ref a_3)])
    obtain ⟨q195, c195, R195, s195, t195⟩ := id V187
    have hin195 : ¬ ((((((((p_4 + (1 : Int32)) + (1 : Int32)) + (1 : Int32)) + (1 : Int32)) + (1 : Int32)) + (1 : Int32)) + (1 : Int32)) < 0 ∨ c195.slots.size ≤ ((((((((p_4 + (1 : Int32)) + (1 : Int32)) + (1 : Int32)) + (1 : Int32)) + (1 : Int32)) + (1 : Int32)) + (1 : Int32))).toNatClampNeg) := inb_of s195 (own_t1_41 p_4 hp)
    obtain ⟨T196, h196, X196, e196, W196, st196⟩ := stB X190 hx hZ e190 R195 (j := (((((((p_4 + (1 : Int32)) + (1 : Int32)) + (1 : Int32)) + (1 : Int32)) + (1 : Int32)) + (1 : Int32)) + (1 : Int32))) hin195 (g := (mkF m 63 #[.val (.ref a_1), .val (.int (4 : Int32)), .val (.ref a_3), .val (.int p_4), .val (.int ((((((((p_4 + (1 : Int32)) + (1 : Int32)) + (1 : Int32)) + (1 : Int32)) + (1 : Int32)) + (1 : Int32)) + (1 : Int32)) + (1 : Int32))), .val (.int (2 : Int32))] [(.int (own_hd ((b2 &&& (15 : Int32))).toNatClampNeg)), (.int (((((((p_4 + (1 : Int32)) + (1 : Int32)) + (1 : Int32)) + (1 : Int32)) + (1 : Int32)) + (1 : Int32)) + (1 : Int32))), (.ref a_3)])) rfl rfl (hb hby own_d1_63)
    rw [own_nar_hd _] at W196
    have V196 : own_AV Z h196 a_3 .byte (16 : Int32) (own_upd (own_upd (own_upd (own_upd (own_upd (own_upd (own_upd (own_upd fa (p_4).toNatClampNeg (.int (own_hd (((b0 >>> ((4 : Int32) &&& 31)) &&& (15 : Int32))).toNatClampNeg))) ((p_4 + (1 : Int32))).toNatClampNeg (.int (own_hd ((b0 &&& (15 : Int32))).toNatClampNeg))) (((p_4 + (1 : Int32)) + (1 : Int32))).toNatClampNeg (.int (32 : Int32))) ((((p_4 + (1 : Int32)) + (1 : Int32)) + (1 : Int32))).toNatClampNeg (.int (own_hd (((b1 >>> ((4 : Int32) &&& 31)) &&& (15 : Int32))).toNatClampNeg))) (((((p_4 + (1 : Int32)) + (1 : Int32)) + (1 : Int32)) + (1 : Int32))).toNatClampNeg (.int (own_hd ((b1 &&& (15 : Int32))).toNatClampNeg))) ((((((p_4 + (1 : Int32)) + (1 : Int32)) + (1 : Int32)) + (1 : Int32)) + (1 : Int32))).toNatClampNeg (.int (32 : Int32))) (((((((p_4 + (1 : Int32)) + (1 : Int32)) + (1 : Int32)) + (1 : Int32)) + (1 : Int32)) + (1 : Int32))).toNatClampNeg (.int (own_hd (((b2 >>> ((4 : Int32) &&& 31)) &&& (15 : Int32))).toNatClampNeg))) ((((((((p_4 + (1 : Int32)) + (1 : Int32)) + (1 : Int32)) + (1 : Int32)) + (1 : Int32)) + (1 : Int32)) + (1 : Int32))).toNatClampNeg (.int (own_hd ((b2 &&& (15 : Int32))).toNatClampNeg))) := own_AV.set (k := ((((((((p_4 + (1 : Int32)) + (1 : Int32)) + (1 : Int32)) + (1 : Int32)) + (1 : Int32)) + (1 : Int32)) + (1 : Int32))).toNatClampNeg) V187 W196 rfl
    have z197 := W196.size
    have K196 : Keep h0 h196 [a_3] := K187.wr W196 (Or.inl (List.mem_of_getElem? (i := 0) rfl))
    have N196 := Fr.snoc X196 N187 (by omega : n0 ≤ a_3)
    refine own_go (fun _ k => st196 _ k) ?_
    show own_Go _ _ _ _ T196 (mkF m 64 #[.val (.ref a_1), .val (.int (4 : Int32)), .val (.ref a_3), .val (.int p_4), .val (.int ((((((((p_4 + (1 : Int32)) + (1 : Int32)) + (1 : Int32)) + (1 : Int32)) + (1 : Int32)) + (1 : Int32)) + (1 : Int32)) + (1 : Int32))), .val (.int (2 : Int32))] [])
    refine own_go (fun _ k => XS.iinc X196.here hx rfl (hb hby own_d1_64) rfl (l' := #[.val (.ref a_1), .val (.int (4 : Int32)), .val (.ref a_3), .val (.int p_4), .val (.int ((((((((p_4 + (1 : Int32)) + (1 : Int32)) + (1 : Int32)) + (1 : Int32)) + (1 : Int32)) + (1 : Int32)) + (1 : Int32)) + (1 : Int32))), .val (.int (3 : Int32))]) rfl k) ?_
    show own_Go _ _ _ _ T196 (mkF m 67 #[.val (.ref a_1), .val (.int (4 : Int32)), .val (.ref a_3), .val (.int p_4), .val (.int ((((((((p_4 + (1 : Int32)) + (1 : Int32)) + (1 : Int32)) + (1 : Int32)) + (1 : Int32)) + (1 : Int32)) + (1 : Int32)) + (1 : Int32))), .val (.int (3 : Int32))] [])
    refine own_go (fun _ k => XS.goto X196.here hx rfl (pc0 := 67) (pc' := 6) rfl (hb hby own_d1_67) (by decide) (by decide) k) ?_
    show own_Go _ _ _ _ T196 (mkF m 6 #[.val (.ref a_1), .val (.int (4 : Int32)), .val (.ref a_3), .val (.int p_4), .val (.int ((((((((p_4 + (1 : Int32)) + (1 : Int32)) + (1 : Int32)) + (1 : Int32)) + (1 : Int32)) + (1 : Int32)) + (1 : Int32)) + (1 : Int32))), .val (.int (3 : Int32))] [])
    refine own_go (fun _ k => XS.iload X196.here hx rfl (hb hby own_d1_6) rfl k) ?_
    show own_Go _ _ _ _ T196 (mkF m 8 #[.val (.ref a_1), .val (.int (4 : Int32)), .val (.ref a_3), .val (.int p_4), .val (.int ((((((((p_4 + (1 : Int32)) + (1 : Int32)) + (1 : Int32)) + (1 : Int32)) + (1 : Int32)) + (1 : Int32)) + (1 : Int32)) + (1 : Int32))), .val (.int (3 : Int32))] [(.int (3 : Int32))])
    refine own_go (fun _ k => XS.iloadN X196.here hx rfl (hb hby own_d1_8) rfl k) ?_
    show own_Go _ _ _ _ T196 (mkF m 9 #[.val (.ref a_1), .val (.int (4 : Int32)), .val (.ref a_3), .val (.int p_4), .val (.int ((((((((p_4 + (1 : Int32)) + (1 : Int32)) + (1 : Int32)) + (1 : Int32)) + (1 : Int32)) + (1 : Int32)) + (1 : Int32)) + (1 : Int32))), .val (.int (3 : Int32))] [(.int (4 : Int32)), (.int (3 : Int32))])
    have hc198 : (3 : Int32) < (4 : Int32) := by decide
    refine own_go (fun _ k => XS.icmpNo X196.here hx rfl (hb hby own_d1_9) rfl (Jvm.Free.XT.ii_ge_f hc198) k) ?_
    show own_Go _ _ _ _ T196 (mkF m 12 #[.val (.ref a_1), .val (.int (4 : Int32)), .val (.ref a_3), .val (.int p_4), .val (.int ((((((((p_4 + (1 : Int32)) + (1 : Int32)) + (1 : Int32)) + (1 : Int32)) + (1 : Int32)) + (1 : Int32)) + (1 : Int32)) + (1 : Int32))), .val (.int (3 : Int32))] [])
    refine own_go (fun _ k => XS.iload X196.here hx rfl (hb hby own_d1_12) rfl k) ?_
    show own_Go _ _ _ _ T196 (mkF m 14 #[.val (.ref a_1), .val (.int (4 : Int32)), .val (.ref a_3), .val (.int p_4), .val (.int ((((((((p_4 + (1 : Int32)) + (1 : Int32)) + (1 : Int32)) + (1 : Int32)) + (1 : Int32)) + (1 : Int32)) + (1 : Int32)) + (1 : Int32))), .val (.int (3 : Int32))] [(.int (3 : Int32))])
    have hc199 : 0 < (3 : Int32) := by decide
    refine own_go (fun _ k => XS.ifNo X196.here hx rfl (hb hby own_d1_14) rfl (Jvm.Free.XT.i0_le_f hc199) k) ?_
    show own_Go _ _ _ _ T196 (mkF m 17 #[.val (.ref a_1), .val (.int (4 : Int32)), .val (.ref a_3), .val (.int p_4), .val (.int ((((((((p_4 + (1 : Int32)) + (1 : Int32)) + (1 : Int32)) + (1 : Int32)) + (1 : Int32)) + (1 : Int32)) + (1 : Int32)) + (1 : Int32))), .val (.int (3 : Int32))] [])
    refine own_go (fun _ k => XS.aloadN X196.here hx rfl (hb hby own_d1_17) rfl rfl k) ?_
    show own_Go _ _ _ _ T196 (mkF m 18 #[.val (.ref a_1), .val (.int (4 : Int32)), .val (.ref a_3), .val (.int p_4), .val (.int ((((((((p_4 + (1 : Int32)) + (1 : Int32)) + (1 : Int32)) + (1 : Int32)) + (1 : Int32)) + (1 : Int32)) + (1 : Int32)) + (1 : Int32))), .val (.int (3 : Int32))] [(.ref a_3)])
    refine own_go (fun _ k => XS.iload X196.here hx rfl (hb hby own_d1_18) rfl k) ?_
    show own_Go _ _ _ _ T196 (mkF m 20 #[.val (.ref a_1), .val (.int (4 : Int32)), .val (.ref a_3), .val (.int p_4), .val (.int ((((((((p_4 + (1 : Int32)) + (1 : Int32)) + (1 : Int32)) + (1 : Int32)) + (1 : Int32)) + (1 : Int32)) + (1 : Int32)) + (1 : Int32))), .val (.int (3 : Int32))] [(.int ((((((((p_4 + (1 : Int32)) + (1 : Int32)) + (1 : Int32)) + (1 : Int32)) + (1 : Int32)) + (1 : Int32)) + (1 : Int32)) + (1 : Int32))), (.ref a_3)])
    refine own_go (fun _ k => XS.iinc X196.here hx rfl (hb hby own_d1_20) rfl (l' := #[.val (.ref a_1), .val (.int (4 : Int32)), .val (.ref a_3), .val (.int p_4), .val (.int (((((((((p_4 + (1 : Int32)) + (1 : Int32)) + (1 : Int32)) + (1 : Int32)) + (1 : Int32)) + (1 : Int32)) + (1 : Int32)) + (1 : Int32)) + (1 : Int32))), .val (.int (3 : Int32))]) rfl k) ?_
    show own_Go _ _ _ _ T196 (mkF m 23 #[.val (.ref a_1), .val (.int (4 : Int32)), .val (.ref a_3), .val (.int p_4), .val (.int (((((((((p_4 + (1 : Int32)) + (1 : Int32)) + (1 : Int32)) + (1 : Int32)) + (1 : Int32)) + (1 : Int32)) + (1 : Int32)) + (1 : Int32)) + (1 : Int32))), .val (.int (3 : Int32))] [(.int ((((((((p_4 + (1 : Int32)) + (1 : Int32)) + (1 : Int32)) + (1 : Int32)) + (1 : Int32)) + (1 : Int32)) + (1 : Int32)) + (1 : Int32))), (.ref a_3)])
    refine own_go (fun _ k => XS.bipush X196.here hx rfl (hb hby own_d1_23) k) ?_
    show own_Go _ _ _ _ T196 (mkF m 25 #[.val (.ref a_1), .val (.int (4 : Int32)), .val (.ref a_3), .val (.int p_4), .val (.int (((((((((p_4 + (1 : Int32)) + (1 : Int32)) + (1 : Int32)) + (1 : Int32)) + (1 : Int32)) + (1 : Int32)) + (1 : Int32)) + (1 : Int32)) + (1 : Int32))), .val (.int (3 : Int32))] [(.int (32 : Int32)), (.int ((((((((p_4 + (1 : Int32)) + (1 : Int32)) + (1 : Int32)) + (1 : Int32)) + (1 : Int32)) + (1 : Int32)) + (1 : Int32)) + (1 : Int32))), (.ref a_3)])
    obtain ⟨q200, c200, R200, s200, t200⟩ := id V196
    have hin200 : ¬ (((((((((p_4 + (1 : Int32)) + (1 : Int32)) + (1 : Int32)) + (1 : Int32)) + (1 : Int32)) + (1 : Int32)) + (1 : Int32)) + (1 : Int32)) < 0 ∨ c200.slots.size ≤ (((((((((p_4 + (1 : Int32)) + (1 : Int32)) + (1 : Int32)) + (1 : Int32)) + (1 : Int32)) + (1 : Int32)) + (1 : Int32)) + (1 : Int32))).toNatClampNeg) := inb_of s200 (own_t1_42 p_4 hp)
    obtain ⟨T201, h201, X201, e201, W201, st201⟩ := stB X196 hx hZ e196 R200 (j := ((((((((p_4 + (1 : Int32)) + (1 : Int32)) + (1 : Int32)) + (1 : Int32)) + (1 : Int32)) + (1 : Int32)) + (1 : Int32)) + (1 : Int32))) hin200 (g := (mkF m 25 #[.val (.ref a_1), .val (.int (4 : Int32)), .val (.ref a_3), .val (.int p_4), .val (.int (((((((((p_4 + (1 : Int32)) + (1 : Int32)) + (1 : Int32)) + (1 : Int32)) + (1 : Int32)) + (1 : Int32)) + (1 : Int32)) + (1 : Int32)) + (1 : Int32))), .val (.int (3 : Int32))] [(.int (32 : Int32)), (.int ((((((((p_4 + (1 : Int32)) + (1 : Int32)) + (1 : Int32)) + (1 : Int32)) + (1 : Int32)) + (1 : Int32)) + (1 : Int32)) + (1 : Int32))), (.ref a_3)])) rfl rfl (hb hby own_d1_25)
    have V201 : own_AV Z h201 a_3 .byte (16 : Int32) (own_upd (own_upd (own_upd (own_upd (own_upd (own_upd (own_upd (own_upd (own_upd fa (p_4).toNatClampNeg (.int (own_hd (((b0 >>> ((4 : Int32) &&& 31)) &&& (15 : Int32))).toNatClampNeg))) ((p_4 + (1 : Int32))).toNatClampNeg (.int (own_hd ((b0 &&& (15 : Int32))).toNatClampNeg))) (((p_4 + (1 : Int32)) + (1 : Int32))).toNatClampNeg (.int (32 : Int32))) ((((p_4 + (1 : Int32)) + (1 : Int32)) + (1 : Int32))).toNatClampNeg (.int (own_hd (((b1 >>> ((4 : Int32) &&& 31)) &&& (15 : Int32))).toNatClampNeg))) (((((p_4 + (1 : Int32)) + (1 : Int32)) + (1 : Int32)) + (1 : Int32))).toNatClampNeg (.int (own_hd ((b1 &&& (15 : Int32))).toNatClampNeg))) ((((((p_4 + (1 : Int32)) + (1 : Int32)) + (1 : Int32)) + (1 : Int32)) + (1 : Int32))).toNatClampNeg (.int (32 : Int32))) (((((((p_4 + (1 : Int32)) + (1 : Int32)) + (1 : Int32)) + (1 : Int32)) + (1 : Int32)) + (1 : Int32))).toNatClampNeg (.int (own_hd (((b2 >>> ((4 : Int32) &&& 31)) &&& (15 : Int32))).toNatClampNeg))) ((((((((p_4 + (1 : Int32)) + (1 : Int32)) + (1 : Int32)) + (1 : Int32)) + (1 : Int32)) + (1 : Int32)) + (1 : Int32))).toNatClampNeg (.int (own_hd ((b2 &&& (15 : Int32))).toNatClampNeg))) (((((((((p_4 + (1 : Int32)) + (1 : Int32)) + (1 : Int32)) + (1 : Int32)) + (1 : Int32)) + (1 : Int32)) + (1 : Int32)) + (1 : Int32))).toNatClampNeg (.int (32 : Int32))) := own_AV.set (k := (((((((((p_4 + (1 : Int32)) + (1 : Int32)) + (1 : Int32)) + (1 : Int32)) + (1 : Int32)) + (1 : Int32)) + (1 : Int32)) + (1 : Int32))).toNatClampNeg) V196 W201 rfl
    have z202 := W201.size
    have K201 : Keep h0 h201 [a_3] := K196.wr W201 (Or.inl (List.mem_of_getElem? (i := 0) rfl))
    have N201 := Fr.snoc X201 N196 (by omega : n0 ≤ a_3)
    refine own_go (fun _ k => st201 _ k) ?_
    show own_Go _ _ _ _ T201 (mkF m 26 #[.val (.ref a_1), .val (.int (4 : Int32)), .val (.ref a_3), .val (.int p_4), .val (.int (((((((((p_4 + (1 : Int32)) + (1 : Int32)) + (1 : Int32)) + (1 : Int32)) + (1 : Int32)) + (1 : Int32)) + (1 : Int32)) + (1 : Int32)) + (1 : Int32))), .val (.int (3 : Int32))] [])
    refine own_go (fun _ k => XS.aloadN X201.here hx rfl (hb hby own_d1_26) rfl rfl k) ?_
    show own_Go _ _ _ _ T201 (mkF m 27 #[.val (.ref a_1), .val (.int (4 : Int32)), .val (.ref a_3), .val (.int p_4), .val (.int (((((((((p_4 + (1 : Int32)) + (1 : Int32)) + (1 : Int32)) + (1 : Int32)) + (1 : Int32)) + (1 : Int32)) + (1 : Int32)) + (1 : Int32)) + (1 : Int32))), .val (.int (3 : Int32))] [(.ref a_3)])
    refine own_go (fun _ k => XS.iload X201.here hx rfl (hb hby own_d1_27) rfl k) ?_
    show own_Go _ _ _ _ T201 (mkF m 29 #[.val (.ref a_1), .val (.int (4 : Int32)), .val (.ref a_3), .val (.int p_4), .val (.int (((((((((p_4 + (1 : Int32)) + (1 : Int32)) + (1 : Int32)) + (1 : Int32)) + (1 : Int32)) + (1 : Int32)) + (1 : Int32)) + (1 : Int32)) + (1 : Int32))), .val (.int (3 : Int32))] [(.int (((((((((p_4 + (1 : Int32)) + (1 : Int32)) + (1 : Int32)) + (1 : Int32)) + (1 : Int32)) + (1 : Int32)) + (1 : Int32)) + (1 : Int32)) + (1 : Int32))), (.ref a_3)])
    refine own_go (fun _ k => XS.iinc X201.here hx rfl (hb hby own_d1_29) rfl (l' := #[.val (.ref a_1), .val (.int (4 : Int32)), .val (.ref a_3), .val (.int p_4), .val (.int ((((((((((p_4 + (1 : Int32)) + (1 : Int32)) + (1 : Int32)) + (1 : Int32)) + (1 : Int32)) + (1 : Int32)) + (1 : Int32)) + (1 : Int32)) + (1 : Int32)) + (1 : Int32))), .val (.int (3 : Int32))]) rfl k) ?_
    show own_Go _ _ _ _ T201 (mkF m 32 #[.val (.ref a_1), .val (.int (4 : Int32)), .val (.ref a_3), .val (.int p_4), .val (.int ((((((((((p_4 + (1 : Int32)) + (1 : Int32)) + (1 : Int32)) + (1 : Int32)) + (1 : Int32)) + (1 : Int32)) + (1 : Int32)) + (1 : Int32)) + (1 : Int32)) + (1 : Int32))), .val (.int (3 : Int32))] [(.int (((((((((p_4 + (1 : Int32)) + (1 : Int32)) + (1 : Int32)) + (1 : Int32)) + (1 : Int32)) + (1 : Int32)) + (1 : Int32)) + (1 : Int32)) + (1 : Int32))), (.ref a_3)])
    have f203 : Sta Z h201 "com/example/honest_codec/honestcodec/IllFormedSequence" "HEX_DIGITS" "[B" (.ref t_) := ((f189.wr W196).wr W201)
    obtain ⟨T204, X204, e204, st204⟩ := getS2 X201 hx hZ hown (host := "") (Or.inl (hw _ (List.mem_of_getElem? (i := 6) rfl))) Via.refl e201 f203 (g := (mkF m 32 #[.val (.ref a_1), .val (.int (4 : Int32)), .val (.ref a_3), .val (.int p_4), .val (.int ((((((((((p_4 + (1 : Int32)) + (1 : Int32)) + (1 : Int32)) + (1 : Int32)) + (1 : Int32)) + (1 : Int32)) + (1 : Int32)) + (1 : Int32)) + (1 : Int32)) + (1 : Int32))), .val (.int (3 : Int32))] [(.int (((((((((p_4 + (1 : Int32)) + (1 : Int32)) + (1 : Int32)) + (1 : Int32)) + (1 : Int32)) + (1 : Int32)) + (1 : Int32)) + (1 : Int32)) + (1 : Int32))), (.ref a_3)])) rfl (hb hby own_d1_32)
    refine own_go (fun _ k => st204 _ k) ?_
    show own_Go _ _ _ _ T204 (mkF m 35 #[.val (.ref a_1), .val (.int (4 : Int32)), .val (.ref a_3), .val (.int p_4), .val (.int ((((((((((p_4 + (1 : Int32)) + (1 : Int32)) + (1 : Int32)) + (1 : Int32)) + (1 : Int32)) + (1 : Int32)) + (1 : Int32)) + (1 : Int32)) + (1 : Int32)) + (1 : Int32))), .val (.int (3 : Int32))] [(.ref t_), (.int (((((((((p_4 + (1 : Int32)) + (1 : Int32)) + (1 : Int32)) + (1 : Int32)) + (1 : Int32)) + (1 : Int32)) + (1 : Int32)) + (1 : Int32)) + (1 : Int32))), (.ref a_3)])
    refine own_go (fun _ k => XS.aloadN X204.here hx rfl (hb hby own_d1_35) rfl rfl k) ?_
    show own_Go _ _ _ _ T204 (mkF m 36 #[.val (.ref a_1), .val (.int (4 : Int32)), .val (.ref a_3), .val (.int p_4), .val (.int ((((((((((p_4 + (1 : Int32)) + (1 : Int32)) + (1 : Int32)) + (1 : Int32)) + (1 : Int32)) + (1 : Int32)) + (1 : Int32)) + (1 : Int32)) + (1 : Int32)) + (1 : Int32))), .val (.int (3 : Int32))] [(.ref a_1), (.ref t_), (.int (((((((((p_4 + (1 : Int32)) + (1 : Int32)) + (1 : Int32)) + (1 : Int32)) + (1 : Int32)) + (1 : Int32)) + (1 : Int32)) + (1 : Int32)) + (1 : Int32))), (.ref a_3)])
    refine own_go (fun _ k => XS.iload X204.here hx rfl (hb hby own_d1_36) rfl k) ?_
    show own_Go _ _ _ _ T204 (mkF m 38 #[.val (.ref a_1), .val (.int (4 : Int32)), .val (.ref a_3), .val (.int p_4), .val (.int ((((((((((p_4 + (1 : Int32)) + (1 : Int32)) + (1 : Int32)) + (1 : Int32)) + (1 : Int32)) + (1 : Int32)) + (1 : Int32)) + (1 : Int32)) + (1 : Int32)) + (1 : Int32))), .val (.int (3 : Int32))] [(.int (3 : Int32)), (.ref a_1), (.ref t_), (.int (((((((((p_4 + (1 : Int32)) + (1 : Int32)) + (1 : Int32)) + (1 : Int32)) + (1 : Int32)) + (1 : Int32)) + (1 : Int32)) + (1 : Int32)) + (1 : Int32))), (.ref a_3)])
    have f205 : own_AV Z h201 a_1 .byte (4 : Int32) gs := ((f191.other W196 (own_ne (by omega))).other W201 (own_ne (by omega)))
    obtain ⟨q206, c206, R206, s206, t206⟩ := id f205
    have hin206 : ¬ ((3 : Int32) < 0 ∨ c206.slots.size ≤ ((3 : Int32)).toNatClampNeg) := inb_of s206 ⟨by decide, by decide⟩
    have u206 : c206.slots[((3 : Int32)).toNatClampNeg]? = some (.int b3) := own_at (k := 3) t206 s206 hin206 (by decide) (hg3)
    refine own_go (fun _ k => X204.baloadBytes hx (j := (3 : Int32)) (v := (.int b3)) (by rw [e204]; exact R206.1) (State.isArrayOf_alike hZ.alike R206.2.1) R206.2.2 hin206 u206 (g := (mkF m 38 #[.val (.ref a_1), .val (.int (4 : Int32)), .val (.ref a_3), .val (.int p_4), .val (.int ((((((((((p_4 + (1 : Int32)) + (1 : Int32)) + (1 : Int32)) + (1 : Int32)) + (1 : Int32)) + (1 : Int32)) + (1 : Int32)) + (1 : Int32)) + (1 : Int32)) + (1 : Int32))), .val (.int (3 : Int32))] [(.int (3 : Int32)), (.ref a_1), (.ref t_), (.int (((((((((p_4 + (1 : Int32)) + (1 : Int32)) + (1 : Int32)) + (1 : Int32)) + (1 : Int32)) + (1 : Int32)) + (1 : Int32)) + (1 : Int32)) + (1 : Int32))), (.ref a_3)])) rfl rfl (hb hby own_d1_38) _ k) ?_
    show own_Go _ _ _ _ T204 (mkF m 39 #[.val (.ref a_1), .val (.int (4 : Int32)), .val (.ref a_3), .val (.int p_4), .val (.int ((((((((((p_4 + (1 : Int32)) + (1 : Int32)) + (1 : Int32)) + (1 : Int32)) + (1 : Int32)) + (1 : Int32)) + (1 : Int32)) + (1 : Int32)) + (1 : Int32)) + (1 : Int32))), .val (.int (3 : Int32))] [(.int b3), (.ref t_), (.int (((((((((p_4 + (1 : Int32)) + (1 : Int32)) + (1 : Int32)) + (1 : Int32)) + (1 : Int32)) + (1 : Int32)) + (1 : Int32)) + (1 : Int32)) + (1 : Int32))), (.ref a_3)])
    refine own_go (fun _ k => XS.iconst X204.here hx rfl (hb hby own_d1_39) k) ?_
    show own_Go _ _ _ _ T204 (mkF m 40 #[.val (.ref a_1), .val (.int (4 : Int32)), .val (.ref a_3), .val (.int p_4), .val (.int ((((((((((p_4 + (1 : Int32)) + (1 : Int32)) + (1 : Int32)) + (1 : Int32)) + (1 : Int32)) + (1 : Int32)) + (1 : Int32)) + (1 : Int32)) + (1 : Int32)) + (1 : Int32))), .val (.int (3 : Int32))] [(.int (4 : Int32)), (.int b3), (.ref t_), (.int (((((((((p_4 + (1 : Int32)) + (1 : Int32)) + (1 : Int32)) + (1 : Int32)) + (1 : Int32)) + (1 : Int32)) + (1 : Int32)) + (1 : Int32)) + (1 : Int32))), (.ref a_3)])
    refine own_go (fun _ k => XS.ishr X204.here hx rfl (hb hby own_d1_40) rfl k) ?_
    show own_Go _ _ _ _ T204 (mkF m 41 #[.val (.ref a_1), .val (.int (4 : Int32)), .val (.ref a_3), .val (.int p_4), .val (.int ((((((((((p_4 + (1 : Int32)) + (1 : Int32)) + (1 : Int32)) + (1 : Int32)) + (1 : Int32)) + (1 : Int32)) + (1 : Int32)) + (1 : Int32)) + (1 : Int32)) + (1 : Int32))), .val (.int (3 : Int32))] [(.int (b3 >>> ((4 : Int32) &&& 31))), (.ref t_), (.int (((((((((p_4 + (1 : Int32)) + (1 : Int32)) + (1 : Int32)) + (1 : Int32)) + (1 : Int32)) + (1 : Int32)) + (1 : Int32)) + (1 : Int32)) + (1 : Int32))), (.ref a_3)])
    refine own_go (fun _ k => XS.bipush X204.here hx rfl (hb hby own_d1_41) k) ?_
    show own_Go _ _ _ _ T204 (mkF m 43 #[.val (.ref a_1), .val (.int (4 : Int32)), .val (.ref a_3), .val (.int p_4), .val (.int ((((((((((p_4 + (1 : Int32)) + (1 : Int32)) + (1 : Int32)) + (1 : Int32)) + (1 : Int32)) + (1 : Int32)) + (1 : Int32)) + (1 : Int32)) + (1 : Int32)) + (1 : Int32))), .val (.int (3 : Int32))] [(.int (15 : Int32)), (.int (b3 >>> ((4 : Int32) &&& 31))), (.ref t_), (.int (((((((((p_4 + (1 : Int32)) + (1 : Int32)) + (1 : Int32)) + (1 : Int32)) + (1 : Int32)) + (1 : Int32)) + (1 : Int32)) + (1 : Int32)) + (1 : Int32))), (.ref a_3)])
    refine own_go (fun _ k => XS.iand X204.here hx rfl (hb hby own_d1_43) rfl k) ?_
    show own_Go _ _ _ _ T204 (mkF m 44 #[.val (.ref a_1), .val (.int (4 : Int32)), .val (.ref a_3), .val (.int p_4), .val (.int ((((((((((p_4 + (1 : Int32)) + (1 : Int32)) + (1 : Int32)) + (1 : Int32)) + (1 : Int32)) + (1 : Int32)) + (1 : Int32)) + (1 : Int32)) + (1 : Int32)) + (1 : Int32))), .val (.int (3 : Int32))] [(.int ((b3 >>> ((4 : Int32) &&& 31)) &&& (15 : Int32))), (.ref t_), (.int (((((((((p_4 + (1 : Int32)) + (1 : Int32)) + (1 : Int32)) + (1 : Int32)) + (1 : Int32)) + (1 : Int32)) + (1 : Int32)) + (1 : Int32)) + (1 : Int32))), (.ref a_3)])
    have f207 : own_AV Z h201 t_ .byte (16 : Int32) (fun i => .int (own_hd i)) := ((f193.other W196 (own_ne (by omega))).other W201 (own_ne (by omega)))
    obtain ⟨q208, c208, R208, s208, t208⟩ := id f207
    have hin208 : ¬ (((b3 >>> ((4 : Int32) &&& 31)) &&& (15 : Int32)) < 0 ∨ c208.slots.size ≤ (((b3 >>> ((4 : Int32) &&& 31)) &&& (15 : Int32))).toNatClampNeg) := inb_of s208 (own_t1_43 b3 )
    have u208 : c208.slots[(((b3 >>> ((4 : Int32) &&& 31)) &&& (15 : Int32))).toNatClampNeg]? = some (.int (own_hd (((b3 >>> ((4 : Int32) &&& 31)) &&& (15 : Int32))).toNatClampNeg)) := own_at (k := (((b3 >>> ((4 : Int32) &&& 31)) &&& (15 : Int32))).toNatClampNeg) t208 s208 hin208 rfl (rfl)
    refine own_go (fun _ k => X204.baloadBytes hx (j := ((b3 >>> ((4 : Int32) &&& 31)) &&& (15 : Int32))) (v := (.int (own_hd (((b3 >>> ((4 : Int32) &&& 31)) &&& (15 : Int32))).toNatClampNeg))) (by rw [e204]; exact R208.1) (State.isArrayOf_alike hZ.alike R208.2.1) R208.2.2 hin208 u208 (g := (mkF m 44 #[.val (.ref a_1), .val (.int (4 : Int32)), .val (.ref a_3), .val (.int p_4), .val (.int ((((((((((p_4 + (1 : Int32)) + (1 : Int32)) + (1 : Int32)) + (1 : Int32)) + (1 : Int32)) + (1 : Int32)) + (1 : Int32)) + (1 : Int32)) + (1 : Int32)) + (1 : Int32))), .val (.int (3 : Int32))] [(.int ((b3 >>> ((4 : Int32) &&& 31)) &&& (15 : Int32))), (.ref t_), (.int (((((((((p_4 + (1 : Int32)) + (1 : Int32)) + (1 : Int32)) + (1 : Int32)) + (1 : Int32)) + (1 : Int32)) + (1 : Int32)) + (1 : Int32)) + (1 : Int32))), (.ref a_3)])) rfl rfl (hb hby own_d1_44) _ k) ?_
    show own_Go _ _ _ _ T204 (mkF m 45 #[.val (.ref a_1), .val (.int (4 : Int32)), .val (.ref a_3), .val (.int p_4), .val (.int ((((((((((p_4 + (1 : Int32)) + (1 : Int32)) + (1 : Int32)) + (1 : Int32)) + (1 : Int32)) + (1 : Int32)) + (1 : Int32)) + (1 : Int32)) + (1 : Int32)) + (1 : Int32))), .val (.int (3 : Int32))] [(.int (own_hd (((b3 >>> ((4 : Int32) &&& 31)) &&& (15 : Int32))).toNatClampNeg)), (.int (((((((((p_4 + (1 : Int32)) + (1 : Int32)) + (1 : Int32)) + (1 : Int32)) + (1 : Int32)) + (1 : Int32)) + (1 : Int32)) + (1 : Int32)) + (1 : Int32))), (.ref a_3)])
    obtain ⟨q209, c209, R209, s209, t209⟩ := id V201
    have hin209 : ¬ ((((((((((p_4 + (1 : Int32)) + (1 : Int32)) + (1 : Int32)) + (1 : Int32)) + (1 : Int32)) + (1 : Int32)) + (1 : Int32)) + (1 : Int32)) + (1 : Int32)) < 0 ∨ c209.slots.size ≤ ((((((((((p_4 + (1 : Int32)) + (1 : Int32)) + (1 : Int32)) + (1 : Int32)) + (1 : Int32)) + (1 : Int32)) + (1 : Int32)) + (1 : Int32)) + (1 : Int32))).toNatClampNeg) := inb_of s209 (own_t1_44 p_4 hp)
    obtain ⟨T210, h210, X210, e210, W210, st210⟩ := stB X204 hx hZ e204 R209 (j := (((((((((p_4 + (1 : Int32)) + (1 : Int32)) + (1 : Int32)) + (1 : Int32)) + (1 : Int32)) + (1 : Int32)) + (1 : Int32)) + (1 : Int32)) + (1 : Int32))) hin209 (g := (mkF m 45 #[.val (.ref a_1), .val (.int (4 : Int32)), .val (.ref a_3), .val (.int p_4), .val (.int ((((((((((p_4 + (1 : Int32)) + (1 : Int32)) + (1 : Int32)) + (1 : Int32)) + (1 : Int32)) + (1 : Int32)) + (1 : Int32)) + (1 : Int32)) + (1 : Int32)) + (1 : Int32))), .val (.int (3 : Int32))] [(.int (own_hd (((b3 >>> ((4 : Int32) &&& 31)) &&& (15 : Int32))).toNatClampNeg)), (.int (((((((((p_4 + (1 : Int32)) + (1 : Int32)) + (1 : Int32)) + (1 : Int32)) + (1 : Int32)) + (1 : Int32)) + (1 : Int32)) + (1 : Int32)) + (1 : Int32))), (.ref a_3)])) rfl rfl (hb hby own_d1_45)
    rw [own_nar_hd _] at W210
    have V210 : own_AV Z h210 a_3 .byte (16 : Int32) (own_upd (own_upd (own_upd (own_upd (own_upd (own_upd (own_upd (own_upd (own_upd (own_upd fa (p_4).toNatClampNeg (.int (own_hd (((b0 >>> ((4 : Int32) &&& 31)) &&& (15 : Int32))).toNatClampNeg))) ((p_4 + (1 : Int32))).toNatClampNeg (.int (own_hd ((b0 &&& (15 : Int32))).toNatClampNeg))) (((p_4 + (1 : Int32)) + (1 : Int32))).toNatClampNeg (.int (32 : Int32))) ((((p_4 + (1 : Int32)) + (1 : Int32)) + (1 : Int32))).toNatClampNeg (.int (own_hd (((b1 >>> ((4 : Int32) &&& 31)) &&& (15 : Int32))).toNatClampNeg))) (((((p_4 + (1 : Int32)) + (1 : Int32)) + (1 : Int32)) + (1 : Int32))).toNatClampNeg (.int (own_hd ((b1 &&& (15 : Int32))).toNatClampNeg))) ((((((p_4 + (1 : Int32)) + (1 : Int32)) + (1 : Int32)) + (1 : Int32)) + (1 : Int32))).toNatClampNeg (.int (32 : Int32))) (((((((p_4 + (1 : Int32)) + (1 : Int32)) + (1 : Int32)) + (1 : Int32)) + (1 : Int32)) + (1 : Int32))).toNatClampNeg (.int (own_hd (((b2 >>> ((4 : Int32) &&& 31)) &&& (15 : Int32))).toNatClampNeg))) ((((((((p_4 + (1 : Int32)) + (1 : Int32)) + (1 : Int32)) + (1 : Int32)) + (1 : Int32)) + (1 : Int32)) + (1 : Int32))).toNatClampNeg (.int (own_hd ((b2 &&& (15 : Int32))).toNatClampNeg))) (((((((((p_4 + (1 : Int32)) + (1 : Int32)) + (1 : Int32)) + (1 : Int32)) + (1 : Int32)) + (1 : Int32)) + (1 : Int32)) + (1 : Int32))).toNatClampNeg (.int (32 : Int32))) ((((((((((p_4 + (1 : Int32)) + (1 : Int32)) + (1 : Int32)) + (1 : Int32)) + (1 : Int32)) + (1 : Int32)) + (1 : Int32)) + (1 : Int32)) + (1 : Int32))).toNatClampNeg (.int (own_hd (((b3 >>> ((4 : Int32) &&& 31)) &&& (15 : Int32))).toNatClampNeg))) := own_AV.set (k := ((((((((((p_4 + (1 : Int32)) + (1 : Int32)) + (1 : Int32)) + (1 : Int32)) + (1 : Int32)) + (1 : Int32)) + (1 : Int32)) + (1 : Int32)) + (1 : Int32))).toNatClampNeg) V201 W210 rfl
    have z211 := W210.size
    have K210 : Keep h0 h210 [a_3] := K201.wr W210 (Or.inl (List.mem_of_getElem? (i := 0) rfl))
    have N210 := Fr.snoc X210 N201 (by omega : n0 ≤ a_3)
    refine own_go (fun _ k => st210 _ k) ?_
    show own_Go _ _ _ _ T210 (mkF m 46 #[.val (.ref a_1), .val (.int (4 : Int32)), .val (.ref a_3), .val (.int p_4), .val (.int ((((((((((p_4 + (1 : Int32)) + (1 : Int32)) + (1 : Int32)) + (1 : Int32)) + (1 : Int32)) + (1 : Int32)) + (1 : Int32)) + (1 : Int32)) + (1 : Int32)) + (1 : Int32))), .val (.int (3 : Int32))] [])
    refine own_go (fun _ k => XS.aloadN X210.here hx rfl (hb hby own_d1_46) rfl rfl k) ?_
    show own_Go _ _ _ _ T210 (mkF m 47 #[.val (.ref a_1), .val (.int (4 : Int32)), .val (.ref a_3), .val (.int p_4), .val (.int ((((((((((p_4 + (1 : Int32)) + (1 : Int32)) + (1 : Int32)) + (1 : Int32)) + (1 : Int32)) + (1 : Int32)) + (1 : Int32)) + (1 : Int32)) + (1 : Int32)) + (1 : Int32))), .val (.int (3 : Int32))] [(.ref a_3)])
    refine own_go (fun _ k => XS.iload X210.here hx rfl (hb hby own_d1_47) rfl k) ?_
    show own_Go _ _ _ _ T210 (mkF m 49 #[.val (.ref a_1), .val (.int (4 : Int32)), .val (.ref a_3), .val (.int p_4), .val (.int ((((((((((p_4 + (1 : Int32)) + (1 : Int32)) + (1 : Int32)) + (1 : Int32)) + (1 : Int32)) + (1 : Int32)) + (1 : Int32)) + (1 : Int32)) + (1 : Int32)) + (1 : Int32))), .val (.int (3 : Int32))] [(.int ((((((((((p_4 + (1 : Int32)) + (1 : Int32)) + (1 : Int32)) + (1 : Int32)) + (1 : Int32)) + (1 : Int32)) + (1 : Int32)) + (1 : Int32)) + (1 : Int32)) + (1 : Int32))), (.ref a_3)])
    refine own_go (fun _ k => XS.iinc X210.here hx rfl (hb hby own_d1_49) rfl (l' := #[.val (.ref a_1), .val (.int (4 : Int32)), .val (.ref a_3), .val (.int p_4), .val (.int (((((((((((p_4 + (1 : Int32)) + (1 : Int32)) + (1 : Int32)) + (1 : Int32)) + (1 : Int32)) + (1 : Int32)) + (1 : Int32)) + (1 : Int32)) + (1 : Int32)) + (1 : Int32)) + (1 : Int32))), .val (.int (3 : Int32))]) rfl k) ?_
    show own_Go _ _ _ _ T210 (mkF m 52 #[.val (.ref a_1), .val (.int (4 : Int32)), .val (.ref a_3), .val (.int p_4), .val (.int (((((((((((p_4 + (1 : Int32)) + (1 : Int32)) + (1 : Int32)) + (1 : Int32)) + (1 : Int32)) + (1 : Int32)) + (1 : Int32)) + (1 : Int32)) + (1 : Int32)) + (1 : Int32)) + (1 : Int32))), .val (.int (3 : Int32))] [(.int ((((((((((p_4 + (1 : Int32)) + (1 : Int32)) + (1 : Int32)) + (1 : Int32)) + (1 : Int32)) + (1 : Int32)) + (1 : Int32)) + (1 : Int32)) + (1 : Int32)) + (1 : Int32))), (.ref a_3)])
    have f212 : Sta Z h210 "com/example/honest_codec/honestcodec/IllFormedSequence" "HEX_DIGITS" "[B" (.ref t_) := (f203.wr W210)
    obtain ⟨T213, X213, e213, st213⟩ := getS2 X210 hx hZ hown (host := "") (Or.inl (hw _ (List.mem_of_getElem? (i := 6) rfl))) Via.refl e210 f212 (g := (mkF m 52 #[.val (.ref a_1), .val (.int (4 : Int32)), .val (.ref a_3), .val (.int p_4), .val (.int (((((((((((p_4 + (1 : Int32)) + (1 : Int32)) + (1 : Int32)) + (1 : Int32)) + (1 : Int32)) + (1 : Int32)) + (1 : Int32)) + (1 : Int32)) + (1 : Int32)) + (1 : Int32)) + (1 : Int32))), .val (.int (3 : Int32))] [(.int ((((((((((p_4 + (1 : Int32)) + (1 : Int32)) + (1 : Int32)) + (1 : Int32)) + (1 : Int32)) + (1 : Int32)) + (1 : Int32)) + (1 : Int32)) + (1 : Int32)) + (1 : Int32))), (.ref a_3)])) rfl (hb hby own_d1_52)
    refine own_go (fun _ k => st213 _ k) ?_
    show own_Go _ _ _ _ T213 (mkF m 55 #[.val (.ref a_1), .val (.int (4 : Int32)), .val (.ref a_3), .val (.int p_4), .val (.int (((((((((((p_4 + (1 : Int32)) + (1 : Int32)) + (1 : Int32)) + (1 : Int32)) + (1 : Int32)) + (1 : Int32)) + (1 : Int32)) + (1 : Int32)) + (1 : Int32)) + (1 : Int32)) + (1 : Int32))), .val (.int (3 : Int32))] [(.ref t_), (.int ((((((((((p_4 + (1 : Int32)) + (1 : Int32)) + (1 : Int32)) + (1 : Int32)) + (1 : Int32)) + (1 : Int32)) + (1 : Int32)) + (1 : Int32)) + (1 : Int32)) + (1 : Int32))), (.ref a_3)])
    refine own_go (fun _ k => XS.aloadN X213.here hx rfl (hb hby own_d1_55) rfl rfl k) ?_
    show own_Go _ _ _ _ T213 (mkF m 56 #[.val (.ref a_1), .val (.int (4 : Int32)), .val (.ref a_3), .val (.int p_4), .val (.int (((((((((((p_4 + (1 : Int32)) + (1 : Int32)) + (1 : Int32)) + (1 : Int32)) + (1 : Int32)) + (1 : Int32)) + (1 : Int32)) + (1 : Int32)) + (1 : Int32)) + (1 : Int32)) + (1 : Int32))), .val (.int (3 : Int32))] [(.ref a_1), (.ref t_), (.int ((((((((((p_4 + (1 : Int32)) + (1 : Int32)) + (1 : Int32)) + (1 : Int32)) + (1 : Int32)) + (1 : Int32)) + (1 : Int32)) + (1 : Int32)) + (1 : Int32)) + (1 : Int32))), (.ref a_3)])
    refine own_go (fun _ k => XS.iload X213.here hx rfl (hb hby own_d1_56) rfl k) ?_
    show own_Go _ _ _ _ T213 (mkF m 58 #[.val (.ref a_1), .val (.int (4 : Int32)), .val (.ref a_3), .val (.int p_4), .val (.int (((((((((((p_4 + (1 : Int32)) + (1 : Int32)) + (1 : Int32)) + (1 : Int32)) + (1 : Int32)) + (1 : Int32)) + (1 : Int32)) + (1 : Int32)) + (1 : Int32)) + (1 : Int32)) + (1 : Int32))), .val (.int (3 : Int32))] [(.int (3 : Int32)), (.ref a_1), (.ref t_), (.int ((((((((((p_4 + (1 : Int32)) + (1 : Int32)) + (1 : Int32)) + (1 : Int32)) + (1 : Int32)) + (1 : Int32)) + (1 : Int32)) + (1 : Int32)) + (1 : Int32)) + (1 : Int32))), (.ref a_3)])
    have f214 : own_AV Z h210 a_1 .byte (4 : Int32) gs := (f205.other W210 (own_ne (by omega)))
    obtain ⟨q215, c215, R215, s215, t215⟩ := id f214
    have hin215 : ¬ ((3 : Int32) < 0 ∨ c215.slots.size ≤ ((3 : Int32)).toNatClampNeg) := inb_of s215 ⟨by decide, by decide⟩
    have u215 : c215.slots[((3 : Int32)).toNatClampNeg]? = some (.int b3) := own_at (k := 3) t215 s215 hin215 (by decide) (hg3)
    refine own_go (fun _ k => X213.baloadBytes hx (j := (3 : Int32)) (v := (.int b3)) (by rw [e213]; exact R215.1) (State.isArrayOf_alike hZ.alike R215.2.1) R215.2.2 hin215 u215 (g := (mkF m 58 #[.val (.ref a_1), .val (.int (4 : Int32)), .val (.ref a_3), .val (.int p_4), .val (.int (((((((((((p_4 + (1 : Int32)) + (1 : Int32)) + (1 : Int32)) + (1 : Int32)) + (1 : Int32)) + (1 : Int32)) + (1 : Int32)) + (1 : Int32)) + (1 : Int32)) + (1 : Int32)) + (1 : Int32))), .val (.int (3 : Int32))] [(.int (3 : Int32)), (.ref a_1), (.ref t_), (.int ((((((((((p_4 + (1 : Int32)) + (1 : Int32)) + (1 : Int32)) + (1 : Int32)) + (1 : Int32)) + (1 : Int32)) + (1 : Int32)) + (1 : Int32)) + (1 : Int32)) + (1 : Int32))), (.ref a_3)])) rfl rfl (hb hby own_d1_58) _ k) ?_
    show own_Go _ _ _ _ T213 (mkF m 59 #[.val (.ref a_1), .val (.int (4 : Int32)), .val (.ref a_3), .val (.int p_4), .val (.int (((((((((((p_4 + (1 : Int32)) + (1 : Int32)) + (1 : Int32)) + (1 : Int32)) + (1 : Int32)) + (1 : Int32)) + (1 : Int32)) + (1 : Int32)) + (1 : Int32)) + (1 : Int32)) + (1 : Int32))), .val (.int (3 : Int32))] [(.int b3), (.ref t_), (.int ((((((((((p_4 + (1 : Int32)) + (1 : Int32)) + (1 : Int32)) + (1 : Int32)) + (1 : Int32)) + (1 : Int32)) + (1 : Int32)) + (1 : Int32)) + (1 : Int32)) + (1 : Int32))), (.ref a_3)])
    refine own_go (fun _ k => XS.bipush X213.here hx rfl (hb hby own_d1_59) k) ?_
    show own_Go _ _ _ _ T213 (mkF m 61 #[.val (.ref a_1), .val (.int (4 : Int32)), .val (.ref a_3), .val (.int p_4), .val (.int (((((((((((p_4 + (1 : Int32)) + (1 : Int32)) + (1 : Int32)) + (1 : Int32)) + (1 : Int32)) + (1 : Int32)) + (1 : Int32)) + (1 : Int32)) + (1 : Int32)) + (1 : Int32)) + (1 : Int32))), .val (.int (3 : Int32))] [(.int (15 : Int32)), (.int b3), (.ref t_), (.int ((((((((((p_4 + (1 : Int32)) + (1 : Int32)) + (1 : Int32)) + (1 : Int32)) + (1 : Int32)) + (1 : Int32)) + (1 : Int32)) + (1 : Int32)) + (1 : Int32)) + (1 : Int32))), (.ref a_3)])
    refine own_go (fun _ k => XS.iand X213.here hx rfl (hb hby own_d1_61) rfl k) ?_
    show own_Go _ _ _ _ T213 (mkF m 62 #[.val (.ref a_1), .val (.int (4 : Int32)), .val (.ref a_3), .val (.int p_4), .val (.int (((((((((((p_4 + (1 : Int32)) + (1 : Int32)) + (1 : Int32)) + (1 : Int32)) + (1 : Int32)) + (1 : Int32)) + (1 : Int32)) + (1 : Int32)) + (1 : Int32)) + (1 : Int32)) + (1 : Int32))), .val (.int (3 : Int32))] [(.int (b3 &&& (15 : Int32))), (.ref t_), (.int ((((((((((p_4 + (1 : Int32)) + (1 : Int32)) + (1 : Int32)) + (1 : Int32)) + (1 : Int32)) + (1 : Int32)) + (1 : Int32)) + (1 : Int32)) + (1 : Int32)) + (1 : Int32))), (.ref a_3)])
    have f216 : own_AV Z h210 t_ .byte (16 : Int32) (fun i => .int (own_hd i)) := (f207.other W210 (own_ne (by omega)))
    obtain ⟨q217, c217, R217, s217, t217⟩ := id f216
    have hin217 : ¬ ((b3 &&& (15 : Int32)) < 0 ∨ c217.slots.size ≤ ((b3 &&& (15 : Int32))).toNatClampNeg) := inb_of s217 (own_t1_45 b3 )
    have u217 : c217.slots[((b3 &&& (15 : Int32))).toNatClampNeg]? = some (.int (own_hd ((b3 &&& (15 : Int32))).toNatClampNeg)) := own_at (k := ((b3 &&& (15 : Int32))).toNatClampNeg) t217 s217 hin217 rfl (rfl)
    refine own_go (fun _ k => X213.baloadBytes hx (j := (b3 &&& (15 : Int32))) (v := (.int (own_hd ((b3 &&& (15 : Int32))).toNatClampNeg))) (by rw [e213]; exact R217.1) (State.isArrayOf_alike hZ.alike R217.2.1) R217.2.2 hin217 u217 (g := (mkF m 62 #[.val (.ref a_1), .val (.int (4 : Int32)), .val (.ref a_3), .val (.int p_4), .val (.int (((((((((((p_4 + (1 : Int32)) + (1 : Int32)) + (1 : Int32)) + (1 : Int32)) + (1 : Int32)) + (1 : Int32)) + (1 : Int32)) + (1 : Int32)) + (1 : Int32)) + (1 : Int32)) + (1 : Int32))), .val (.int (3 : Int32))] [(.int (b3 &&& (15 : Int32))), (.ref t_), (.int ((((((((((p_4 + (1 : Int32)) + (1 : Int32)) + (1 : Int32)) + (1 : Int32)) + (1 : Int32)) + (1 : Int32)) + (1 : Int32)) + (1 : Int32)) + (1 : Int32)) + (1 : Int32))), (.ref a_3)])) rfl rfl (hb hby own_d1_62) _ k) ?_
    show own_Go _ _ _ _ T213 (mkF m 63 #[.val (.ref a_1), .val (.int (4 : Int32)), .val (.ref a_3), .val (.int p_4), .val (.int (((((((((((p_4 + (1 : Int32)) + (1 : Int32)) + (1 : Int32)) + (1 : Int32)) + (1 : Int32)) + (1 : Int32)) + (1 : Int32)) + (1 : Int32)) + (1 : Int32)) + (1 : Int32)) + (1 : Int32))), .val (.int (3 : Int32))] [(.int (own_hd ((b3 &&& (15 : Int32))).toNatClampNeg)), (.int ((((((((((p_4 + (1 : Int32)) + (1 : Int32)) + (1 : Int32)) + (1 : Int32)) + (1 : Int32)) + (1 : Int32)) + (1 : Int32)) + (1 : Int32)) + (1 : Int32)) + (1 : Int32))), (.ref a_3)])
    obtain ⟨q218, c218, R218, s218, t218⟩ := id V210
    have hin218 : ¬ (((((((((((p_4 + (1 : Int32)) + (1 : Int32)) + (1 : Int32)) + (1 : Int32)) + (1 : Int32)) + (1 : Int32)) + (1 : Int32)) + (1 : Int32)) + (1 : Int32)) + (1 : Int32)) < 0 ∨ c218.slots.size ≤ (((((((((((p_4 + (1 : Int32)) + (1 : Int32)) + (1 : Int32)) + (1 : Int32)) + (1 : Int32)) + (1 : Int32)) + (1 : Int32)) + (1 : Int32)) + (1 : Int32)) + (1 : Int32))).toNatClampNeg) := inb_of s218 (own_t1_46 p_4 hp)
    obtain ⟨T219, h219, X219, e219, W219, st219⟩ := stB X213 hx hZ e213 R218 (j := ((((((((((p_4 + (1 : Int32)) + (1 : Int32)) + (1 : Int32)) + (1 : Int32)) + (1 : Int32)) + (1 : Int32)) + (1 : Int32)) + (1 : Int32)) + (1 : Int32)) + (1 : Int32))) hin218 (g := (mkF m 63 #[.val (.ref a_1), .val (.int (4 : Int32)), .val (.ref a_3), .val (.int p_4), .val (.int (((((((((((p_4 + (1 : Int32)) + (1 : Int32)) + (1 : Int32)) + (1 : Int32)) + (1 : Int32)) + (1 : Int32)) + (1 : Int32)) + (1 : Int32)) + (1 : Int32)) + (1 : Int32)) + (1 : Int32))), .val (.int (3 : Int32))] [(.int (own_hd ((b3 &&& (15 : Int32))).toNatClampNeg)), (.int ((((((((((p_4 + (1 : Int32)) + (1 : Int32)) + (1 : Int32)) + (1 : Int32)) + (1 : Int32)) + (1 : Int32)) + (1 : Int32)) + (1 : Int32)) + (1 : Int32)) + (1 : Int32))), (.ref a_3)])) rfl rfl (hb hby own_d1_63)
    rw [own_nar_hd _] at W219
    have V219 : own_AV Z h219 a_3 .byte (16 : Int32) (own_upd (own_upd (own_upd (own_upd (own_upd (own_upd (own_upd (own_upd (own_upd (own_upd (own_upd fa (p_4).toNatClampNeg (.int (own_hd (((b0 >>> ((4 : Int32) &&& 31)) &&& (15 : Int32))).toNatClampNeg))) ((p_4 + (1 : Int32))).toNatClampNeg (.int (own_hd ((b0 &&& (15 : Int32))).toNatClampNeg))) (((p_4 + (1 : Int32)) + (1 : Int32))).toNatClampNeg (.int (32 : Int32))) ((((p_4 + (1 : Int32)) + (1 : Int32)) + (1 : Int32))).toNatClampNeg (.int (own_hd (((b1 >>> ((4 : Int32) &&& 31)) &&& (15 : Int32))).toNatClampNeg))) (((((p_4 + (1 : Int32)) + (1 : Int32)) + (1 : Int32)) + (1 : Int32))).toNatClampNeg (.int (own_hd ((b1 &&& (15 : Int32))).toNatClampNeg))) ((((((p_4 + (1 : Int32)) + (1 : Int32)) + (1 : Int32)) + (1 : Int32)) + (1 : Int32))).toNatClampNeg (.int (32 : Int32))) (((((((p_4 + (1 : Int32)) + (1 : Int32)) + (1 : Int32)) + (1 : Int32)) + (1 : Int32)) + (1 : Int32))).toNatClampNeg (.int (own_hd (((b2 >>> ((4 : Int32) &&& 31)) &&& (15 : Int32))).toNatClampNeg))) ((((((((p_4 + (1 : Int32)) + (1 : Int32)) + (1 : Int32)) + (1 : Int32)) + (1 : Int32)) + (1 : Int32)) + (1 : Int32))).toNatClampNeg (.int (own_hd ((b2 &&& (15 : Int32))).toNatClampNeg))) (((((((((p_4 + (1 : Int32)) + (1 : Int32)) + (1 : Int32)) + (1 : Int32)) + (1 : Int32)) + (1 : Int32)) + (1 : Int32)) + (1 : Int32))).toNatClampNeg (.int (32 : Int32))) ((((((((((p_4 + (1 : Int32)) + (1 : Int32)) + (1 : Int32)) + (1 : Int32)) + (1 : Int32)) + (1 : Int32)) + (1 : Int32)) + (1 : Int32)) + (1 : Int32))).toNatClampNeg (.int (own_hd (((b3 >>> ((4 : Int32) &&& 31)) &&& (15 : Int32))).toNatClampNeg))) (((((((((((p_4 + (1 : Int32)) + (1 : Int32)) + (1 : Int32)) + (1 : Int32)) + (1 : Int32)) + (1 : Int32)) + (1 : Int32)) + (1 : Int32)) + (1 : Int32)) + (1 : Int32))).toNatClampNeg (.int (own_hd ((b3 &&& (15 : Int32))).toNatClampNeg))) := own_AV.set (k := (((((((((((p_4 + (1 : Int32)) + (1 : Int32)) + (1 : Int32)) + (1 : Int32)) + (1 : Int32)) + (1 : Int32)) + (1 : Int32)) + (1 : Int32)) + (1 : Int32)) + (1 : Int32))).toNatClampNeg) V210 W219 rfl
    have z220 := W219.size
    have K219 : Keep h0 h219 [a_3] := K210.wr W219 (Or.inl (List.mem_of_getElem? (i := 0) rfl))
    have N219 := Fr.snoc X219 N210 (by omega : n0 ≤ a_3)
    refine own_go (fun _ k => st219 _ k) ?_
    show own_Go _ _ _ _ T219 (mkF m 64 #[.val (.ref a_1), .val (.int (4 : Int32)), .val (.ref a_3), .val (.int p_4), .val (.int (((((((((((p_4 + (1 : Int32)) + (1 : Int32)) + (1 : Int32)) + (1 : Int32)) + (1 : Int32)) + (1 : Int32)) + (1 : Int32)) + (1 : Int32)) + (1 : Int32)) + (1 : Int32)) + (1 : Int32))), .val (.int (3 : Int32))] [])
    refine own_go (fun _ k => XS.iinc X219.here hx rfl (hb hby own_d1_64) rfl (l' := #[.val (.ref a_1), .val (.int (4 : Int32)), .val (.ref a_3), .val (.int p_4), .val (.int (((((((((((p_4 + (1 : Int32)) + (1 : Int32)) + (1 : Int32)) + (1 : Int32)) + (1 : Int32)) + (1 : Int32)) + (1 : Int32)) + (1 : Int32)) + (1 : Int32)) + (1 : Int32)) + (1 : Int32))), .val (.int (4 : Int32))]) rfl k) ?_
    show own_Go _ _ _ _ T219 (mkF m 67 #[.val (.ref a_1), .val (.int (4 : Int32)), .val (.ref a_3), .val (.int p_4), .val (.int (((((((((((p_4 + (1 : Int32)) + (1 : Int32)) + (1 : Int32)) + (1 : Int32)) + (1 : Int32)) + (1 : Int32)) + (1 : Int32)) + (1 : Int32)) + (1 : Int32)) + (1 : Int32)) + (1 : Int32))), .val (.int (4 : Int32))] [])
    refine own_go (fun _ k => XS.goto X219.here hx rfl (pc0 := 67) (pc' := 6) rfl (hb hby own_d1_67) (by decide) (by decide) k) ?_
    show own_Go _ _ _ _ T219 (mkF m 6 #[.val (.ref a_1), .val (.int (4 : Int32)), .val (.ref a_3), .val (.int p_4), .val (.int (((((((((((p_4 + (1 : Int32)) + (1 : Int32)) + (1 : Int32)) + (1 : Int32)) + (1 : Int32)) + (1 : Int32)) + (1 : Int32)) + (1 : Int32)) + (1 : Int32)) + (1 : Int32)) + (1 : Int32))), .val (.int (4 : Int32))] [])
    refine own_go (fun _ k => XS.iload X219.here hx rfl (hb hby own_d1_6) rfl k) ?_
    show own_Go _ _ _ _ T219 (mkF m 8 #[.val (.ref a_1), .val (.int (4 : Int32)), .val (.ref a_3), .val (.int p_4), .val (.int (((((((((((p_4 + (1 : Int32)) + (1 : Int32)) + (1 : Int32)) + (1 : Int32)) + (1 : Int32)) + (1 : Int32)) + (1 : Int32)) + (1 : Int32)) + (1 : Int32)) + (1 : Int32)) + (1 : Int32))), .val (.int (4 : Int32))] [(.int (4 : Int32))])
    refine own_go (fun _ k => XS.iloadN X219.here hx rfl (hb hby own_d1_8) rfl k) ?_
    show own_Go _ _ _ _ T219 (mkF m 9 #[.val (.ref a_1), .val (.int (4 : Int32)), .val (.ref a_3), .val (.int p_4), .val (.int (((((((((((p_4 + (1 : Int32)) + (1 : Int32)) + (1 : Int32)) + (1 : Int32)) + (1 : Int32)) + (1 : Int32)) + (1 : Int32)) + (1 : Int32)) + (1 : Int32)) + (1 : Int32)) + (1 : Int32))), .val (.int (4 : Int32))] [(.int (4 : Int32)), (.int (4 : Int32))])
    have hc221 : ¬ ((4 : Int32) < (4 : Int32)) := by decide
    refine own_go (fun _ k => XS.icmpYes X219.here hx rfl (pc0 := 9) (pc' := 70) rfl (hb hby own_d1_9) rfl (Jvm.Free.XT.ii_ge_t hc221) (by decide) (by decide) k) ?_
    show own_Go _ _ _ _ T219 (mkF m 70 #[.val (.ref a_1), .val (.int (4 : Int32)), .val (.ref a_3), .val (.int p_4), .val (.int (((((((((((p_4 + (1 : Int32)) + (1 : Int32)) + (1 : Int32)) + (1 : Int32)) + (1 : Int32)) + (1 : Int32)) + (1 : Int32)) + (1 : Int32)) + (1 : Int32)) + (1 : Int32)) + (1 : Int32))), .val (.int (4 : Int32))] [])
    refine own_go (fun _ k => XS.iload X219.here hx rfl (hb hby own_d1_70) rfl k) ?_
    show own_Go _ _ _ _ T219 (mkF m 72 #[.val (.ref a_1), .val (.int (4 : Int32)), .val (.ref a_3), .val (.int p_4), .val (.int (((((((((((p_4 + (1 : Int32)) + (1 : Int32)) + (1 : Int32)) + (1 : Int32)) + (1 : Int32)) + (1 : Int32)) + (1 : Int32)) + (1 : Int32)) + (1 : Int32)) + (1 : Int32)) + (1 : Int32))), .val (.int (4 : Int32))] [(.int (((((((((((p_4 + (1 : Int32)) + (1 : Int32)) + (1 : Int32)) + (1 : Int32)) + (1 : Int32)) + (1 : Int32)) + (1 : Int32)) + (1 : Int32)) + (1 : Int32)) + (1 : Int32)) + (1 : Int32)))])
    obtain ⟨fs, hr, hrun, hended, hW, hsame⟩ := X219.leave (v := some (.int (((((((((((p_4 + (1 : Int32)) + (1 : Int32)) + (1 : Int32)) + (1 : Int32)) + (1 : Int32)) + (1 : Int32)) + (1 : Int32)) + (1 : Int32)) + (1 : Int32)) + (1 : Int32)) + (1 : Int32)))) (fun h => by rw [Bd.returns] at h; cases h)
    refine ⟨_, _, retOut X219 hx Bd.returns rfl (Or.inl ⟨rfl, Or.inl rfl, _, rfl⟩) (hb hby own_d1_72) hr, hrun, hended, _, _, rfl, ?_, ⟨_, rfl⟩, hW, hsame.mono (by decide) (by decide)⟩
    show own_Q1 Z a_1 (4 : Int32) a_3 p_4 t_ gs fa b0 b1 b2 b3 h0 n0 _ T219.heap _
    rw [e219]
    exact ⟨_, rfl, N219, rfl, K219, V219⟩
theorem own_ef_own_rm0 (m : MethodId) (x0 : Int32) (x1 : Int32) (x2 : Int32) (x3 : Int32) : entryFrame m #[(.int x0), (.int x1), (.int x2), (.int x3)] maxLocals = mkF m 0 #[.val (.int x0), .val (.int x1), .val (.int x2), .val (.int x3), .unset, .unset, .unset, .unset, .unset, .unset, .unset, .unset, .unset, .unset, .unset, .unset] [] := by first | (simp [entryFrame, mkF, argsToLocals, Value.category, maxLocals]; done) | rfl
set_option maxRecDepth 65536 in
set_option maxHeartbeats 4000000 in
theorem own_t0_0 (p_2 : Int32) (v21 : Int32) (hdv21 : ((p_2 &&& (2147483647 : Int32)) % (5 : Int32)) = v21) : v21 = (0 : Int32) ∨ v21 = (1 : Int32) ∨ v21 = (2 : Int32) ∨ v21 = (3 : Int32) ∨ v21 = (4 : Int32) := by
  have el0 : (0 : Int32).toInt = 0 := by decide
  have el1 : (1 : Int32).toInt = 1 := by decide
  have el2 : (2 : Int32).toInt = 2 := by decide
  have el3 : (3 : Int32).toInt = 3 := by decide
  have el4 : (4 : Int32).toInt = 4 := by decide
  have el5 : (5 : Int32).toInt = 5 := by decide
  have el6 : (2147483647 : Int32).toInt = 2147483647 := by decide
  have rv_p_2 := rng32 p_2
  have rv_v21 := rng32 v21
  have fa9 := c_mask p_2 (2147483647 : Int32) 31 (by decide) (by decide)
  have fa10 := c_irem (p_2 &&& (2147483647 : Int32)) (5 : Int32) 5 (by decide)
  have own0 : (0 : Int32).toInt = 0 := by decide
  simp only [← Int32.toInt_inj, Int32.lt_iff_toInt_lt, implies_true, and_true, true_and, own0, el0, el1, el2, el3, el4, el5, el6] at *
  omega
set_option maxRecDepth 65536 in
set_option maxHeartbeats 4000000 in
theorem own_t0_1 (p_3 : Int32) (v23 : Int32) (hdv23 : ((p_3 &&& (2147483647 : Int32)) % (4 : Int32)) = v23) : v23 = (0 : Int32) ∨ v23 = (1 : Int32) ∨ v23 = (2 : Int32) ∨ v23 = (3 : Int32) := by
  have el0 : (0 : Int32).toInt = 0 := by decide
  have el1 : (1 : Int32).toInt = 1 := by decide
  have el2 : (2 : Int32).toInt = 2 := by decide
  have el3 : (3 : Int32).toInt = 3 := by decide
  have el4 : (4 : Int32).toInt = 4 := by decide
  have el5 : (2147483647 : Int32).toInt = 2147483647 := by decide
  have rv_p_3 := rng32 p_3
  have rv_v23 := rng32 v23
  have fa8 := c_mask p_3 (2147483647 : Int32) 31 (by decide) (by decide)
  have fa9 := c_irem (p_3 &&& (2147483647 : Int32)) (4 : Int32) 4 (by decide)
  have own0 : (0 : Int32).toInt = 0 := by decide
  simp only [← Int32.toInt_inj, Int32.lt_iff_toInt_lt, implies_true, and_true, true_and, own0, el0, el1, el2, el3, el4, el5] at *
  omega
set_option maxRecDepth 65536 in
set_option maxHeartbeats 4000000 in
theorem own_t0_2 (p_2 : Int32) (p_3 : Int32) (v21 : Int32) (v23 : Int32) (r78 : Int32) (hdv21 : ((p_2 &&& (2147483647 : Int32)) % (5 : Int32)) = v21) (hdv23 : ((p_3 &&& (2147483647 : Int32)) % (4 : Int32)) = v23) (hl : v21 = (0 : Int32) ∨ v21 = (1 : Int32) ∨ v21 = (2 : Int32) ∨ v21 = (3 : Int32) ∨ v21 = (4 : Int32)) (hp : v23 = (0 : Int32) ∨ v23 = (1 : Int32) ∨ v23 = (2 : Int32) ∨ v23 = (3 : Int32)) (hr_r78 : r78 = (own_he (v21).toNatClampNeg v23)) (hc82 : v21 = 0) : r78 = v23 := by
  have e := own_heq v21 v23 hl
  grind
set_option maxRecDepth 65536 in
set_option maxHeartbeats 4000000 in
theorem own_t0_3 (p_1 : Int32) (p_2 : Int32) (p_3 : Int32) (p_4 : Int32) (v3 : Int32) (v4 : Int32) (v5 : Int32) (v21 : Int32) (v23 : Int32) (r97 : Int32) (hdv3 : (((p_1.toUInt32 >>> ((8 : Int32) &&& 31).toUInt32).toInt32).toInt8.toInt32) = v3) (hdv4 : (((p_1.toUInt32 >>> ((16 : Int32) &&& 31).toUInt32).toInt32).toInt8.toInt32) = v4) (hdv5 : (((p_1.toUInt32 >>> ((24 : Int32) &&& 31).toUInt32).toInt32).toInt8.toInt32) = v5) (hdv21 : ((p_2 &&& (2147483647 : Int32)) % (5 : Int32)) = v21) (hdv23 : ((p_3 &&& (2147483647 : Int32)) % (4 : Int32)) = v23) (hl : v21 = (0 : Int32) ∨ v21 = (1 : Int32) ∨ v21 = (2 : Int32) ∨ v21 = (3 : Int32) ∨ v21 = (4 : Int32)) (hp : v23 = (0 : Int32) ∨ v23 = (1 : Int32) ∨ v23 = (2 : Int32) ∨ v23 = (3 : Int32)) (hr_r97 : r97 = (own_rm2_ret (0 : Int32) p_1 v21 v23 (p_4.toInt8.toInt32))) : (own_hw (v21).toNatClampNeg v23 (p_4.toInt8.toInt32) (p_1.toInt8.toInt32) v3 v4 v5 0) = r97 := by
  subst_vars
  exact own_ck_0 _ _ _ _ hl hp
set_option maxRecDepth 65536 in
set_option maxHeartbeats 4000000 in
theorem own_t0_4 (p_1 : Int32) (p_2 : Int32) (p_3 : Int32) (p_4 : Int32) (v3 : Int32) (v4 : Int32) (v5 : Int32) (v21 : Int32) (v23 : Int32) (r102 : Int32) (hdv3 : (((p_1.toUInt32 >>> ((8 : Int32) &&& 31).toUInt32).toInt32).toInt8.toInt32) = v3) (hdv4 : (((p_1.toUInt32 >>> ((16 : Int32) &&& 31).toUInt32).toInt32).toInt8.toInt32) = v4) (hdv5 : (((p_1.toUInt32 >>> ((24 : Int32) &&& 31).toUInt32).toInt32).toInt8.toInt32) = v5) (hdv21 : ((p_2 &&& (2147483647 : Int32)) % (5 : Int32)) = v21) (hdv23 : ((p_3 &&& (2147483647 : Int32)) % (4 : Int32)) = v23) (hl : v21 = (0 : Int32) ∨ v21 = (1 : Int32) ∨ v21 = (2 : Int32) ∨ v21 = (3 : Int32) ∨ v21 = (4 : Int32)) (hp : v23 = (0 : Int32) ∨ v23 = (1 : Int32) ∨ v23 = (2 : Int32) ∨ v23 = (3 : Int32)) (hr_r102 : r102 = (own_rm2_ret (1 : Int32) p_1 v21 v23 (p_4.toInt8.toInt32))) : (own_hw (v21).toNatClampNeg v23 (p_4.toInt8.toInt32) (p_1.toInt8.toInt32) v3 v4 v5 1) = r102 := by
  subst_vars
  exact own_ck_1 _ _ _ _ hl hp
set_option maxRecDepth 65536 in
set_option maxHeartbeats 4000000 in
theorem own_t0_5 (p_1 : Int32) (p_2 : Int32) (p_3 : Int32) (p_4 : Int32) (v3 : Int32) (v4 : Int32) (v5 : Int32) (v21 : Int32) (v23 : Int32) (r107 : Int32) (hdv3 : (((p_1.toUInt32 >>> ((8 : Int32) &&& 31).toUInt32).toInt32).toInt8.toInt32) = v3) (hdv4 : (((p_1.toUInt32 >>> ((16 : Int32) &&& 31).toUInt32).toInt32).toInt8.toInt32) = v4) (hdv5 : (((p_1.toUInt32 >>> ((24 : Int32) &&& 31).toUInt32).toInt32).toInt8.toInt32) = v5) (hdv21 : ((p_2 &&& (2147483647 : Int32)) % (5 : Int32)) = v21) (hdv23 : ((p_3 &&& (2147483647 : Int32)) % (4 : Int32)) = v23) (hl : v21 = (0 : Int32) ∨ v21 = (1 : Int32) ∨ v21 = (2 : Int32) ∨ v21 = (3 : Int32) ∨ v21 = (4 : Int32)) (hp : v23 = (0 : Int32) ∨ v23 = (1 : Int32) ∨ v23 = (2 : Int32) ∨ v23 = (3 : Int32)) (hr_r107 : r107 = (own_rm2_ret (2 : Int32) p_1 v21 v23 (p_4.toInt8.toInt32))) : (own_hw (v21).toNatClampNeg v23 (p_4.toInt8.toInt32) (p_1.toInt8.toInt32) v3 v4 v5 2) = r107 := by
  subst_vars
  exact own_ck_2 _ _ _ _ hl hp
set_option maxRecDepth 65536 in
set_option maxHeartbeats 4000000 in
theorem own_t0_6 (p_1 : Int32) (p_2 : Int32) (p_3 : Int32) (p_4 : Int32) (v3 : Int32) (v4 : Int32) (v5 : Int32) (v21 : Int32) (v23 : Int32) (r112 : Int32) (hdv3 : (((p_1.toUInt32 >>> ((8 : Int32) &&& 31).toUInt32).toInt32).toInt8.toInt32) = v3) (hdv4 : (((p_1.toUInt32 >>> ((16 : Int32) &&& 31).toUInt32).toInt32).toInt8.toInt32) = v4) (hdv5 : (((p_1.toUInt32 >>> ((24 : Int32) &&& 31).toUInt32).toInt32).toInt8.toInt32) = v5) (hdv21 : ((p_2 &&& (2147483647 : Int32)) % (5 : Int32)) = v21) (hdv23 : ((p_3 &&& (2147483647 : Int32)) % (4 : Int32)) = v23) (hl : v21 = (0 : Int32) ∨ v21 = (1 : Int32) ∨ v21 = (2 : Int32) ∨ v21 = (3 : Int32) ∨ v21 = (4 : Int32)) (hp : v23 = (0 : Int32) ∨ v23 = (1 : Int32) ∨ v23 = (2 : Int32) ∨ v23 = (3 : Int32)) (hr_r112 : r112 = (own_rm2_ret (3 : Int32) p_1 v21 v23 (p_4.toInt8.toInt32))) : (own_hw (v21).toNatClampNeg v23 (p_4.toInt8.toInt32) (p_1.toInt8.toInt32) v3 v4 v5 3) = r112 := by
  subst_vars
  exact own_ck_3 _ _ _ _ hl hp
set_option maxRecDepth 65536 in
set_option maxHeartbeats 4000000 in
theorem own_t0_7 (p_1 : Int32) (p_2 : Int32) (p_3 : Int32) (p_4 : Int32) (v3 : Int32) (v4 : Int32) (v5 : Int32) (v21 : Int32) (v23 : Int32) (r117 : Int32) (hdv3 : (((p_1.toUInt32 >>> ((8 : Int32) &&& 31).toUInt32).toInt32).toInt8.toInt32) = v3) (hdv4 : (((p_1.toUInt32 >>> ((16 : Int32) &&& 31).toUInt32).toInt32).toInt8.toInt32) = v4) (hdv5 : (((p_1.toUInt32 >>> ((24 : Int32) &&& 31).toUInt32).toInt32).toInt8.toInt32) = v5) (hdv21 : ((p_2 &&& (2147483647 : Int32)) % (5 : Int32)) = v21) (hdv23 : ((p_3 &&& (2147483647 : Int32)) % (4 : Int32)) = v23) (hl : v21 = (0 : Int32) ∨ v21 = (1 : Int32) ∨ v21 = (2 : Int32) ∨ v21 = (3 : Int32) ∨ v21 = (4 : Int32)) (hp : v23 = (0 : Int32) ∨ v23 = (1 : Int32) ∨ v23 = (2 : Int32) ∨ v23 = (3 : Int32)) (hr_r117 : r117 = (own_rm2_ret (4 : Int32) p_1 v21 v23 (p_4.toInt8.toInt32))) : (own_hw (v21).toNatClampNeg v23 (p_4.toInt8.toInt32) (p_1.toInt8.toInt32) v3 v4 v5 4) = r117 := by
  subst_vars
  exact own_ck_4 _ _ _ _ hl hp
set_option maxRecDepth 65536 in
set_option maxHeartbeats 4000000 in
theorem own_t0_8 (p_1 : Int32) (p_2 : Int32) (p_3 : Int32) (p_4 : Int32) (v3 : Int32) (v4 : Int32) (v5 : Int32) (v21 : Int32) (v23 : Int32) (r122 : Int32) (hdv3 : (((p_1.toUInt32 >>> ((8 : Int32) &&& 31).toUInt32).toInt32).toInt8.toInt32) = v3) (hdv4 : (((p_1.toUInt32 >>> ((16 : Int32) &&& 31).toUInt32).toInt32).toInt8.toInt32) = v4) (hdv5 : (((p_1.toUInt32 >>> ((24 : Int32) &&& 31).toUInt32).toInt32).toInt8.toInt32) = v5) (hdv21 : ((p_2 &&& (2147483647 : Int32)) % (5 : Int32)) = v21) (hdv23 : ((p_3 &&& (2147483647 : Int32)) % (4 : Int32)) = v23) (hl : v21 = (0 : Int32) ∨ v21 = (1 : Int32) ∨ v21 = (2 : Int32) ∨ v21 = (3 : Int32) ∨ v21 = (4 : Int32)) (hp : v23 = (0 : Int32) ∨ v23 = (1 : Int32) ∨ v23 = (2 : Int32) ∨ v23 = (3 : Int32)) (hr_r122 : r122 = (own_rm2_ret (5 : Int32) p_1 v21 v23 (p_4.toInt8.toInt32))) : (own_hw (v21).toNatClampNeg v23 (p_4.toInt8.toInt32) (p_1.toInt8.toInt32) v3 v4 v5 5) = r122 := by
  subst_vars
  exact own_ck_5 _ _ _ _ hl hp
set_option maxRecDepth 65536 in
set_option maxHeartbeats 4000000 in
theorem own_t0_9 (p_1 : Int32) (p_2 : Int32) (p_3 : Int32) (p_4 : Int32) (v3 : Int32) (v4 : Int32) (v5 : Int32) (v21 : Int32) (v23 : Int32) (r127 : Int32) (hdv3 : (((p_1.toUInt32 >>> ((8 : Int32) &&& 31).toUInt32).toInt32).toInt8.toInt32) = v3) (hdv4 : (((p_1.toUInt32 >>> ((16 : Int32) &&& 31).toUInt32).toInt32).toInt8.toInt32) = v4) (hdv5 : (((p_1.toUInt32 >>> ((24 : Int32) &&& 31).toUInt32).toInt32).toInt8.toInt32) = v5) (hdv21 : ((p_2 &&& (2147483647 : Int32)) % (5 : Int32)) = v21) (hdv23 : ((p_3 &&& (2147483647 : Int32)) % (4 : Int32)) = v23) (hl : v21 = (0 : Int32) ∨ v21 = (1 : Int32) ∨ v21 = (2 : Int32) ∨ v21 = (3 : Int32) ∨ v21 = (4 : Int32)) (hp : v23 = (0 : Int32) ∨ v23 = (1 : Int32) ∨ v23 = (2 : Int32) ∨ v23 = (3 : Int32)) (hr_r127 : r127 = (own_rm2_ret (6 : Int32) p_1 v21 v23 (p_4.toInt8.toInt32))) : (own_hw (v21).toNatClampNeg v23 (p_4.toInt8.toInt32) (p_1.toInt8.toInt32) v3 v4 v5 6) = r127 := by
  subst_vars
  exact own_ck_6 _ _ _ _ hl hp
set_option maxRecDepth 65536 in
set_option maxHeartbeats 4000000 in
theorem own_t0_10 (p_1 : Int32) (p_2 : Int32) (p_3 : Int32) (p_4 : Int32) (v3 : Int32) (v4 : Int32) (v5 : Int32) (v21 : Int32) (v23 : Int32) (r132 : Int32) (hdv3 : (((p_1.toUInt32 >>> ((8 : Int32) &&& 31).toUInt32).toInt32).toInt8.toInt32) = v3) (hdv4 : (((p_1.toUInt32 >>> ((16 : Int32) &&& 31).toUInt32).toInt32).toInt8.toInt32) = v4) (hdv5 : (((p_1.toUInt32 >>> ((24 : Int32) &&& 31).toUInt32).toInt32).toInt8.toInt32) = v5) (hdv21 : ((p_2 &&& (2147483647 : Int32)) % (5 : Int32)) = v21) (hdv23 : ((p_3 &&& (2147483647 : Int32)) % (4 : Int32)) = v23) (hl : v21 = (0 : Int32) ∨ v21 = (1 : Int32) ∨ v21 = (2 : Int32) ∨ v21 = (3 : Int32) ∨ v21 = (4 : Int32)) (hp : v23 = (0 : Int32) ∨ v23 = (1 : Int32) ∨ v23 = (2 : Int32) ∨ v23 = (3 : Int32)) (hr_r132 : r132 = (own_rm2_ret (7 : Int32) p_1 v21 v23 (p_4.toInt8.toInt32))) : (own_hw (v21).toNatClampNeg v23 (p_4.toInt8.toInt32) (p_1.toInt8.toInt32) v3 v4 v5 7) = r132 := by
  subst_vars
  exact own_ck_7 _ _ _ _ hl hp
set_option maxRecDepth 65536 in
set_option maxHeartbeats 4000000 in
theorem own_t0_11 (p_1 : Int32) (p_2 : Int32) (p_3 : Int32) (p_4 : Int32) (v3 : Int32) (v4 : Int32) (v5 : Int32) (v21 : Int32) (v23 : Int32) (r137 : Int32) (hdv3 : (((p_1.toUInt32 >>> ((8 : Int32) &&& 31).toUInt32).toInt32).toInt8.toInt32) = v3) (hdv4 : (((p_1.toUInt32 >>> ((16 : Int32) &&& 31).toUInt32).toInt32).toInt8.toInt32) = v4) (hdv5 : (((p_1.toUInt32 >>> ((24 : Int32) &&& 31).toUInt32).toInt32).toInt8.toInt32) = v5) (hdv21 : ((p_2 &&& (2147483647 : Int32)) % (5 : Int32)) = v21) (hdv23 : ((p_3 &&& (2147483647 : Int32)) % (4 : Int32)) = v23) (hl : v21 = (0 : Int32) ∨ v21 = (1 : Int32) ∨ v21 = (2 : Int32) ∨ v21 = (3 : Int32) ∨ v21 = (4 : Int32)) (hp : v23 = (0 : Int32) ∨ v23 = (1 : Int32) ∨ v23 = (2 : Int32) ∨ v23 = (3 : Int32)) (hr_r137 : r137 = (own_rm2_ret (8 : Int32) p_1 v21 v23 (p_4.toInt8.toInt32))) : (own_hw (v21).toNatClampNeg v23 (p_4.toInt8.toInt32) (p_1.toInt8.toInt32) v3 v4 v5 8) = r137 := by
  subst_vars
  exact own_ck_8 _ _ _ _ hl hp
set_option maxRecDepth 65536 in
set_option maxHeartbeats 4000000 in
theorem own_t0_12 (p_1 : Int32) (p_2 : Int32) (p_3 : Int32) (p_4 : Int32) (v3 : Int32) (v4 : Int32) (v5 : Int32) (v21 : Int32) (v23 : Int32) (r142 : Int32) (hdv3 : (((p_1.toUInt32 >>> ((8 : Int32) &&& 31).toUInt32).toInt32).toInt8.toInt32) = v3) (hdv4 : (((p_1.toUInt32 >>> ((16 : Int32) &&& 31).toUInt32).toInt32).toInt8.toInt32) = v4) (hdv5 : (((p_1.toUInt32 >>> ((24 : Int32) &&& 31).toUInt32).toInt32).toInt8.toInt32) = v5) (hdv21 : ((p_2 &&& (2147483647 : Int32)) % (5 : Int32)) = v21) (hdv23 : ((p_3 &&& (2147483647 : Int32)) % (4 : Int32)) = v23) (hl : v21 = (0 : Int32) ∨ v21 = (1 : Int32) ∨ v21 = (2 : Int32) ∨ v21 = (3 : Int32) ∨ v21 = (4 : Int32)) (hp : v23 = (0 : Int32) ∨ v23 = (1 : Int32) ∨ v23 = (2 : Int32) ∨ v23 = (3 : Int32)) (hr_r142 : r142 = (own_rm2_ret (9 : Int32) p_1 v21 v23 (p_4.toInt8.toInt32))) : (own_hw (v21).toNatClampNeg v23 (p_4.toInt8.toInt32) (p_1.toInt8.toInt32) v3 v4 v5 9) = r142 := by
  subst_vars
  exact own_ck_9 _ _ _ _ hl hp
set_option maxRecDepth 65536 in
set_option maxHeartbeats 4000000 in
theorem own_t0_13 (p_1 : Int32) (p_2 : Int32) (p_3 : Int32) (p_4 : Int32) (v3 : Int32) (v4 : Int32) (v5 : Int32) (v21 : Int32) (v23 : Int32) (r147 : Int32) (hdv3 : (((p_1.toUInt32 >>> ((8 : Int32) &&& 31).toUInt32).toInt32).toInt8.toInt32) = v3) (hdv4 : (((p_1.toUInt32 >>> ((16 : Int32) &&& 31).toUInt32).toInt32).toInt8.toInt32) = v4) (hdv5 : (((p_1.toUInt32 >>> ((24 : Int32) &&& 31).toUInt32).toInt32).toInt8.toInt32) = v5) (hdv21 : ((p_2 &&& (2147483647 : Int32)) % (5 : Int32)) = v21) (hdv23 : ((p_3 &&& (2147483647 : Int32)) % (4 : Int32)) = v23) (hl : v21 = (0 : Int32) ∨ v21 = (1 : Int32) ∨ v21 = (2 : Int32) ∨ v21 = (3 : Int32) ∨ v21 = (4 : Int32)) (hp : v23 = (0 : Int32) ∨ v23 = (1 : Int32) ∨ v23 = (2 : Int32) ∨ v23 = (3 : Int32)) (hr_r147 : r147 = (own_rm2_ret (10 : Int32) p_1 v21 v23 (p_4.toInt8.toInt32))) : (own_hw (v21).toNatClampNeg v23 (p_4.toInt8.toInt32) (p_1.toInt8.toInt32) v3 v4 v5 10) = r147 := by
  subst_vars
  exact own_ck_10 _ _ _ _ hl hp
set_option maxRecDepth 65536 in
set_option maxHeartbeats 4000000 in
theorem own_t0_14 (p_1 : Int32) (p_2 : Int32) (p_3 : Int32) (p_4 : Int32) (v3 : Int32) (v4 : Int32) (v5 : Int32) (v21 : Int32) (v23 : Int32) (r152 : Int32) (hdv3 : (((p_1.toUInt32 >>> ((8 : Int32) &&& 31).toUInt32).toInt32).toInt8.toInt32) = v3) (hdv4 : (((p_1.toUInt32 >>> ((16 : Int32) &&& 31).toUInt32).toInt32).toInt8.toInt32) = v4) (hdv5 : (((p_1.toUInt32 >>> ((24 : Int32) &&& 31).toUInt32).toInt32).toInt8.toInt32) = v5) (hdv21 : ((p_2 &&& (2147483647 : Int32)) % (5 : Int32)) = v21) (hdv23 : ((p_3 &&& (2147483647 : Int32)) % (4 : Int32)) = v23) (hl : v21 = (0 : Int32) ∨ v21 = (1 : Int32) ∨ v21 = (2 : Int32) ∨ v21 = (3 : Int32) ∨ v21 = (4 : Int32)) (hp : v23 = (0 : Int32) ∨ v23 = (1 : Int32) ∨ v23 = (2 : Int32) ∨ v23 = (3 : Int32)) (hr_r152 : r152 = (own_rm2_ret (11 : Int32) p_1 v21 v23 (p_4.toInt8.toInt32))) : (own_hw (v21).toNatClampNeg v23 (p_4.toInt8.toInt32) (p_1.toInt8.toInt32) v3 v4 v5 11) = r152 := by
  subst_vars
  exact own_ck_11 _ _ _ _ hl hp
set_option maxRecDepth 65536 in
set_option maxHeartbeats 4000000 in
theorem own_t0_15 (p_1 : Int32) (p_2 : Int32) (p_3 : Int32) (p_4 : Int32) (v3 : Int32) (v4 : Int32) (v5 : Int32) (v21 : Int32) (v23 : Int32) (r157 : Int32) (hdv3 : (((p_1.toUInt32 >>> ((8 : Int32) &&& 31).toUInt32).toInt32).toInt8.toInt32) = v3) (hdv4 : (((p_1.toUInt32 >>> ((16 : Int32) &&& 31).toUInt32).toInt32).toInt8.toInt32) = v4) (hdv5 : (((p_1.toUInt32 >>> ((24 : Int32) &&& 31).toUInt32).toInt32).toInt8.toInt32) = v5) (hdv21 : ((p_2 &&& (2147483647 : Int32)) % (5 : Int32)) = v21) (hdv23 : ((p_3 &&& (2147483647 : Int32)) % (4 : Int32)) = v23) (hl : v21 = (0 : Int32) ∨ v21 = (1 : Int32) ∨ v21 = (2 : Int32) ∨ v21 = (3 : Int32) ∨ v21 = (4 : Int32)) (hp : v23 = (0 : Int32) ∨ v23 = (1 : Int32) ∨ v23 = (2 : Int32) ∨ v23 = (3 : Int32)) (hr_r157 : r157 = (own_rm2_ret (12 : Int32) p_1 v21 v23 (p_4.toInt8.toInt32))) : (own_hw (v21).toNatClampNeg v23 (p_4.toInt8.toInt32) (p_1.toInt8.toInt32) v3 v4 v5 12) = r157 := by
  subst_vars
  exact own_ck_12 _ _ _ _ hl hp
set_option maxRecDepth 65536 in
set_option maxHeartbeats 4000000 in
theorem own_t0_16 (p_1 : Int32) (p_2 : Int32) (p_3 : Int32) (p_4 : Int32) (v3 : Int32) (v4 : Int32) (v5 : Int32) (v21 : Int32) (v23 : Int32) (r162 : Int32) (hdv3 : (((p_1.toUInt32 >>> ((8 : Int32) &&& 31).toUInt32).toInt32).toInt8.toInt32) = v3) (hdv4 : (((p_1.toUInt32 >>> ((16 : Int32) &&& 31).toUInt32).toInt32).toInt8.toInt32) = v4) (hdv5 : (((p_1.toUInt32 >>> ((24 : Int32) &&& 31).toUInt32).toInt32).toInt8.toInt32) = v5) (hdv21 : ((p_2 &&& (2147483647 : Int32)) % (5 : Int32)) = v21) (hdv23 : ((p_3 &&& (2147483647 : Int32)) % (4 : Int32)) = v23) (hl : v21 = (0 : Int32) ∨ v21 = (1 : Int32) ∨ v21 = (2 : Int32) ∨ v21 = (3 : Int32) ∨ v21 = (4 : Int32)) (hp : v23 = (0 : Int32) ∨ v23 = (1 : Int32) ∨ v23 = (2 : Int32) ∨ v23 = (3 : Int32)) (hr_r162 : r162 = (own_rm2_ret (13 : Int32) p_1 v21 v23 (p_4.toInt8.toInt32))) : (own_hw (v21).toNatClampNeg v23 (p_4.toInt8.toInt32) (p_1.toInt8.toInt32) v3 v4 v5 13) = r162 := by
  subst_vars
  exact own_ck_13 _ _ _ _ hl hp
set_option maxRecDepth 65536 in
set_option maxHeartbeats 4000000 in
theorem own_t0_17 (p_1 : Int32) (p_2 : Int32) (p_3 : Int32) (p_4 : Int32) (v3 : Int32) (v4 : Int32) (v5 : Int32) (v21 : Int32) (v23 : Int32) (r167 : Int32) (hdv3 : (((p_1.toUInt32 >>> ((8 : Int32) &&& 31).toUInt32).toInt32).toInt8.toInt32) = v3) (hdv4 : (((p_1.toUInt32 >>> ((16 : Int32) &&& 31).toUInt32).toInt32).toInt8.toInt32) = v4) (hdv5 : (((p_1.toUInt32 >>> ((24 : Int32) &&& 31).toUInt32).toInt32).toInt8.toInt32) = v5) (hdv21 : ((p_2 &&& (2147483647 : Int32)) % (5 : Int32)) = v21) (hdv23 : ((p_3 &&& (2147483647 : Int32)) % (4 : Int32)) = v23) (hl : v21 = (0 : Int32) ∨ v21 = (1 : Int32) ∨ v21 = (2 : Int32) ∨ v21 = (3 : Int32) ∨ v21 = (4 : Int32)) (hp : v23 = (0 : Int32) ∨ v23 = (1 : Int32) ∨ v23 = (2 : Int32) ∨ v23 = (3 : Int32)) (hr_r167 : r167 = (own_rm2_ret (14 : Int32) p_1 v21 v23 (p_4.toInt8.toInt32))) : (own_hw (v21).toNatClampNeg v23 (p_4.toInt8.toInt32) (p_1.toInt8.toInt32) v3 v4 v5 14) = r167 := by
  subst_vars
  exact own_ck_14 _ _ _ _ hl hp
set_option maxRecDepth 65536 in
set_option maxHeartbeats 4000000 in
theorem own_t0_18 (p_1 : Int32) (p_2 : Int32) (p_3 : Int32) (p_4 : Int32) (v3 : Int32) (v4 : Int32) (v5 : Int32) (v21 : Int32) (v23 : Int32) (r172 : Int32) (hdv3 : (((p_1.toUInt32 >>> ((8 : Int32) &&& 31).toUInt32).toInt32).toInt8.toInt32) = v3) (hdv4 : (((p_1.toUInt32 >>> ((16 : Int32) &&& 31).toUInt32).toInt32).toInt8.toInt32) = v4) (hdv5 : (((p_1.toUInt32 >>> ((24 : Int32) &&& 31).toUInt32).toInt32).toInt8.toInt32) = v5) (hdv21 : ((p_2 &&& (2147483647 : Int32)) % (5 : Int32)) = v21) (hdv23 : ((p_3 &&& (2147483647 : Int32)) % (4 : Int32)) = v23) (hl : v21 = (0 : Int32) ∨ v21 = (1 : Int32) ∨ v21 = (2 : Int32) ∨ v21 = (3 : Int32) ∨ v21 = (4 : Int32)) (hp : v23 = (0 : Int32) ∨ v23 = (1 : Int32) ∨ v23 = (2 : Int32) ∨ v23 = (3 : Int32)) (hr_r172 : r172 = (own_rm2_ret (15 : Int32) p_1 v21 v23 (p_4.toInt8.toInt32))) : (own_hw (v21).toNatClampNeg v23 (p_4.toInt8.toInt32) (p_1.toInt8.toInt32) v3 v4 v5 15) = r172 := by
  subst_vars
  exact own_ck_15 _ _ _ _ hl hp
set_option maxRecDepth 65536 in
set_option maxHeartbeats 4000000 in
theorem own_t0_19 (p_2 : Int32) (p_3 : Int32) (v21 : Int32) (v23 : Int32) (r78 : Int32) (v175 : Int32) (hdv21 : ((p_2 &&& (2147483647 : Int32)) % (5 : Int32)) = v21) (hdv23 : ((p_3 &&& (2147483647 : Int32)) % (4 : Int32)) = v23) (hl : v21 = (0 : Int32) ∨ v21 = (1 : Int32) ∨ v21 = (2 : Int32) ∨ v21 = (3 : Int32) ∨ v21 = (4 : Int32)) (hp : v23 = (0 : Int32) ∨ v23 = (1 : Int32) ∨ v23 = (2 : Int32) ∨ v23 = (3 : Int32)) (hr_r78 : r78 = (own_he (v21).toNatClampNeg v23)) (hc82 : ¬ (v21 = 0)) (hdv175 : ((v23 + ((3 : Int32) * v21)) - (1 : Int32)) = v175) : r78 = v175 := by
  have e := own_heq v21 v23 hl
  grind
set_option maxRecDepth 65536 in
set_option maxHeartbeats 4000000 in
theorem own_t0_20 (p_1 : Int32) (p_2 : Int32) (p_3 : Int32) (p_4 : Int32) (v3 : Int32) (v4 : Int32) (v5 : Int32) (v21 : Int32) (v23 : Int32) (v175 : Int32) (r190 : Int32) (hdv3 : (((p_1.toUInt32 >>> ((8 : Int32) &&& 31).toUInt32).toInt32).toInt8.toInt32) = v3) (hdv4 : (((p_1.toUInt32 >>> ((16 : Int32) &&& 31).toUInt32).toInt32).toInt8.toInt32) = v4) (hdv5 : (((p_1.toUInt32 >>> ((24 : Int32) &&& 31).toUInt32).toInt32).toInt8.toInt32) = v5) (hdv21 : ((p_2 &&& (2147483647 : Int32)) % (5 : Int32)) = v21) (hdv23 : ((p_3 &&& (2147483647 : Int32)) % (4 : Int32)) = v23) (hl : v21 = (0 : Int32) ∨ v21 = (1 : Int32) ∨ v21 = (2 : Int32) ∨ v21 = (3 : Int32) ∨ v21 = (4 : Int32)) (hp : v23 = (0 : Int32) ∨ v23 = (1 : Int32) ∨ v23 = (2 : Int32) ∨ v23 = (3 : Int32)) (hdv175 : ((v23 + ((3 : Int32) * v21)) - (1 : Int32)) = v175) (hr_r190 : r190 = (own_rm2_ret (0 : Int32) p_1 v21 v23 (p_4.toInt8.toInt32))) : (own_hw (v21).toNatClampNeg v23 (p_4.toInt8.toInt32) (p_1.toInt8.toInt32) v3 v4 v5 0) = r190 := by
  subst_vars
  exact own_ck_0 _ _ _ _ hl hp
set_option maxRecDepth 65536 in
set_option maxHeartbeats 4000000 in
theorem own_t0_21 (p_1 : Int32) (p_2 : Int32) (p_3 : Int32) (p_4 : Int32) (v3 : Int32) (v4 : Int32) (v5 : Int32) (v21 : Int32) (v23 : Int32) (v175 : Int32) (r195 : Int32) (hdv3 : (((p_1.toUInt32 >>> ((8 : Int32) &&& 31).toUInt32).toInt32).toInt8.toInt32) = v3) (hdv4 : (((p_1.toUInt32 >>> ((16 : Int32) &&& 31).toUInt32).toInt32).toInt8.toInt32) = v4) (hdv5 : (((p_1.toUInt32 >>> ((24 : Int32) &&& 31).toUInt32).toInt32).toInt8.toInt32) = v5) (hdv21 : ((p_2 &&& (2147483647 : Int32)) % (5 : Int32)) = v21) (hdv23 : ((p_3 &&& (2147483647 : Int32)) % (4 : Int32)) = v23) (hl : v21 = (0 : Int32) ∨ v21 = (1 : Int32) ∨ v21 = (2 : Int32) ∨ v21 = (3 : Int32) ∨ v21 = (4 : Int32)) (hp : v23 = (0 : Int32) ∨ v23 = (1 : Int32) ∨ v23 = (2 : Int32) ∨ v23 = (3 : Int32)) (hdv175 : ((v23 + ((3 : Int32) * v21)) - (1 : Int32)) = v175) (hr_r195 : r195 = (own_rm2_ret (1 : Int32) p_1 v21 v23 (p_4.toInt8.toInt32))) : (own_hw (v21).toNatClampNeg v23 (p_4.toInt8.toInt32) (p_1.toInt8.toInt32) v3 v4 v5 1) = r195 := by
  subst_vars
  exact own_ck_1 _ _ _ _ hl hp
set_option maxRecDepth 65536 in
set_option maxHeartbeats 4000000 in
theorem own_t0_22 (p_1 : Int32) (p_2 : Int32) (p_3 : Int32) (p_4 : Int32) (v3 : Int32) (v4 : Int32) (v5 : Int32) (v21 : Int32) (v23 : Int32) (v175 : Int32) (r200 : Int32) (hdv3 : (((p_1.toUInt32 >>> ((8 : Int32) &&& 31).toUInt32).toInt32).toInt8.toInt32) = v3) (hdv4 : (((p_1.toUInt32 >>> ((16 : Int32) &&& 31).toUInt32).toInt32).toInt8.toInt32) = v4) (hdv5 : (((p_1.toUInt32 >>> ((24 : Int32) &&& 31).toUInt32).toInt32).toInt8.toInt32) = v5) (hdv21 : ((p_2 &&& (2147483647 : Int32)) % (5 : Int32)) = v21) (hdv23 : ((p_3 &&& (2147483647 : Int32)) % (4 : Int32)) = v23) (hl : v21 = (0 : Int32) ∨ v21 = (1 : Int32) ∨ v21 = (2 : Int32) ∨ v21 = (3 : Int32) ∨ v21 = (4 : Int32)) (hp : v23 = (0 : Int32) ∨ v23 = (1 : Int32) ∨ v23 = (2 : Int32) ∨ v23 = (3 : Int32)) (hdv175 : ((v23 + ((3 : Int32) * v21)) - (1 : Int32)) = v175) (hr_r200 : r200 = (own_rm2_ret (2 : Int32) p_1 v21 v23 (p_4.toInt8.toInt32))) : (own_hw (v21).toNatClampNeg v23 (p_4.toInt8.toInt32) (p_1.toInt8.toInt32) v3 v4 v5 2) = r200 := by
  subst_vars
  exact own_ck_2 _ _ _ _ hl hp
set_option maxRecDepth 65536 in
set_option maxHeartbeats 4000000 in
theorem own_t0_23 (p_1 : Int32) (p_2 : Int32) (p_3 : Int32) (p_4 : Int32) (v3 : Int32) (v4 : Int32) (v5 : Int32) (v21 : Int32) (v23 : Int32) (v175 : Int32) (r205 : Int32) (hdv3 : (((p_1.toUInt32 >>> ((8 : Int32) &&& 31).toUInt32).toInt32).toInt8.toInt32) = v3) (hdv4 : (((p_1.toUInt32 >>> ((16 : Int32) &&& 31).toUInt32).toInt32).toInt8.toInt32) = v4) (hdv5 : (((p_1.toUInt32 >>> ((24 : Int32) &&& 31).toUInt32).toInt32).toInt8.toInt32) = v5) (hdv21 : ((p_2 &&& (2147483647 : Int32)) % (5 : Int32)) = v21) (hdv23 : ((p_3 &&& (2147483647 : Int32)) % (4 : Int32)) = v23) (hl : v21 = (0 : Int32) ∨ v21 = (1 : Int32) ∨ v21 = (2 : Int32) ∨ v21 = (3 : Int32) ∨ v21 = (4 : Int32)) (hp : v23 = (0 : Int32) ∨ v23 = (1 : Int32) ∨ v23 = (2 : Int32) ∨ v23 = (3 : Int32)) (hdv175 : ((v23 + ((3 : Int32) * v21)) - (1 : Int32)) = v175) (hr_r205 : r205 = (own_rm2_ret (3 : Int32) p_1 v21 v23 (p_4.toInt8.toInt32))) : (own_hw (v21).toNatClampNeg v23 (p_4.toInt8.toInt32) (p_1.toInt8.toInt32) v3 v4 v5 3) = r205 := by
  subst_vars
  exact own_ck_3 _ _ _ _ hl hp
set_option maxRecDepth 65536 in
set_option maxHeartbeats 4000000 in
theorem own_t0_24 (p_1 : Int32) (p_2 : Int32) (p_3 : Int32) (p_4 : Int32) (v3 : Int32) (v4 : Int32) (v5 : Int32) (v21 : Int32) (v23 : Int32) (v175 : Int32) (r210 : Int32) (hdv3 : (((p_1.toUInt32 >>> ((8 : Int32) &&& 31).toUInt32).toInt32).toInt8.toInt32) = v3) (hdv4 : (((p_1.toUInt32 >>> ((16 : Int32) &&& 31).toUInt32).toInt32).toInt8.toInt32) = v4) (hdv5 : (((p_1.toUInt32 >>> ((24 : Int32) &&& 31).toUInt32).toInt32).toInt8.toInt32) = v5) (hdv21 : ((p_2 &&& (2147483647 : Int32)) % (5 : Int32)) = v21) (hdv23 : ((p_3 &&& (2147483647 : Int32)) % (4 : Int32)) = v23) (hl : v21 = (0 : Int32) ∨ v21 = (1 : Int32) ∨ v21 = (2 : Int32) ∨ v21 = (3 : Int32) ∨ v21 = (4 : Int32)) (hp : v23 = (0 : Int32) ∨ v23 = (1 : Int32) ∨ v23 = (2 : Int32) ∨ v23 = (3 : Int32)) (hdv175 : ((v23 + ((3 : Int32) * v21)) - (1 : Int32)) = v175) (hr_r210 : r210 = (own_rm2_ret (4 : Int32) p_1 v21 v23 (p_4.toInt8.toInt32))) : (own_hw (v21).toNatClampNeg v23 (p_4.toInt8.toInt32) (p_1.toInt8.toInt32) v3 v4 v5 4) = r210 := by
  subst_vars
  exact own_ck_4 _ _ _ _ hl hp
set_option maxRecDepth 65536 in
set_option maxHeartbeats 4000000 in
theorem own_t0_25 (p_1 : Int32) (p_2 : Int32) (p_3 : Int32) (p_4 : Int32) (v3 : Int32) (v4 : Int32) (v5 : Int32) (v21 : Int32) (v23 : Int32) (v175 : Int32) (r215 : Int32) (hdv3 : (((p_1.toUInt32 >>> ((8 : Int32) &&& 31).toUInt32).toInt32).toInt8.toInt32) = v3) (hdv4 : (((p_1.toUInt32 >>> ((16 : Int32) &&& 31).toUInt32).toInt32).toInt8.toInt32) = v4) (hdv5 : (((p_1.toUInt32 >>> ((24 : Int32) &&& 31).toUInt32).toInt32).toInt8.toInt32) = v5) (hdv21 : ((p_2 &&& (2147483647 : Int32)) % (5 : Int32)) = v21) (hdv23 : ((p_3 &&& (2147483647 : Int32)) % (4 : Int32)) = v23) (hl : v21 = (0 : Int32) ∨ v21 = (1 : Int32) ∨ v21 = (2 : Int32) ∨ v21 = (3 : Int32) ∨ v21 = (4 : Int32)) (hp : v23 = (0 : Int32) ∨ v23 = (1 : Int32) ∨ v23 = (2 : Int32) ∨ v23 = (3 : Int32)) (hdv175 : ((v23 + ((3 : Int32) * v21)) - (1 : Int32)) = v175) (hr_r215 : r215 = (own_rm2_ret (5 : Int32) p_1 v21 v23 (p_4.toInt8.toInt32))) : (own_hw (v21).toNatClampNeg v23 (p_4.toInt8.toInt32) (p_1.toInt8.toInt32) v3 v4 v5 5) = r215 := by
  subst_vars
  exact own_ck_5 _ _ _ _ hl hp
set_option maxRecDepth 65536 in
set_option maxHeartbeats 4000000 in
theorem own_t0_26 (p_1 : Int32) (p_2 : Int32) (p_3 : Int32) (p_4 : Int32) (v3 : Int32) (v4 : Int32) (v5 : Int32) (v21 : Int32) (v23 : Int32) (v175 : Int32) (r220 : Int32) (hdv3 : (((p_1.toUInt32 >>> ((8 : Int32) &&& 31).toUInt32).toInt32).toInt8.toInt32) = v3) (hdv4 : (((p_1.toUInt32 >>> ((16 : Int32) &&& 31).toUInt32).toInt32).toInt8.toInt32) = v4) (hdv5 : (((p_1.toUInt32 >>> ((24 : Int32) &&& 31).toUInt32).toInt32).toInt8.toInt32) = v5) (hdv21 : ((p_2 &&& (2147483647 : Int32)) % (5 : Int32)) = v21) (hdv23 : ((p_3 &&& (2147483647 : Int32)) % (4 : Int32)) = v23) (hl : v21 = (0 : Int32) ∨ v21 = (1 : Int32) ∨ v21 = (2 : Int32) ∨ v21 = (3 : Int32) ∨ v21 = (4 : Int32)) (hp : v23 = (0 : Int32) ∨ v23 = (1 : Int32) ∨ v23 = (2 : Int32) ∨ v23 = (3 : Int32)) (hdv175 : ((v23 + ((3 : Int32) * v21)) - (1 : Int32)) = v175) (hr_r220 : r220 = (own_rm2_ret (6 : Int32) p_1 v21 v23 (p_4.toInt8.toInt32))) : (own_hw (v21).toNatClampNeg v23 (p_4.toInt8.toInt32) (p_1.toInt8.toInt32) v3 v4 v5 6) = r220 := by
  subst_vars
  exact own_ck_6 _ _ _ _ hl hp
set_option maxRecDepth 65536 in
set_option maxHeartbeats 4000000 in
theorem own_t0_27 (p_1 : Int32) (p_2 : Int32) (p_3 : Int32) (p_4 : Int32) (v3 : Int32) (v4 : Int32) (v5 : Int32) (v21 : Int32) (v23 : Int32) (v175 : Int32) (r225 : Int32) (hdv3 : (((p_1.toUInt32 >>> ((8 : Int32) &&& 31).toUInt32).toInt32).toInt8.toInt32) = v3) (hdv4 : (((p_1.toUInt32 >>> ((16 : Int32) &&& 31).toUInt32).toInt32).toInt8.toInt32) = v4) (hdv5 : (((p_1.toUInt32 >>> ((24 : Int32) &&& 31).toUInt32).toInt32).toInt8.toInt32) = v5) (hdv21 : ((p_2 &&& (2147483647 : Int32)) % (5 : Int32)) = v21) (hdv23 : ((p_3 &&& (2147483647 : Int32)) % (4 : Int32)) = v23) (hl : v21 = (0 : Int32) ∨ v21 = (1 : Int32) ∨ v21 = (2 : Int32) ∨ v21 = (3 : Int32) ∨ v21 = (4 : Int32)) (hp : v23 = (0 : Int32) ∨ v23 = (1 : Int32) ∨ v23 = (2 : Int32) ∨ v23 = (3 : Int32)) (hdv175 : ((v23 + ((3 : Int32) * v21)) - (1 : Int32)) = v175) (hr_r225 : r225 = (own_rm2_ret (7 : Int32) p_1 v21 v23 (p_4.toInt8.toInt32))) : (own_hw (v21).toNatClampNeg v23 (p_4.toInt8.toInt32) (p_1.toInt8.toInt32) v3 v4 v5 7) = r225 := by
  subst_vars
  exact own_ck_7 _ _ _ _ hl hp
set_option maxRecDepth 65536 in
set_option maxHeartbeats 4000000 in
theorem own_t0_28 (p_1 : Int32) (p_2 : Int32) (p_3 : Int32) (p_4 : Int32) (v3 : Int32) (v4 : Int32) (v5 : Int32) (v21 : Int32) (v23 : Int32) (v175 : Int32) (r230 : Int32) (hdv3 : (((p_1.toUInt32 >>> ((8 : Int32) &&& 31).toUInt32).toInt32).toInt8.toInt32) = v3) (hdv4 : (((p_1.toUInt32 >>> ((16 : Int32) &&& 31).toUInt32).toInt32).toInt8.toInt32) = v4) (hdv5 : (((p_1.toUInt32 >>> ((24 : Int32) &&& 31).toUInt32).toInt32).toInt8.toInt32) = v5) (hdv21 : ((p_2 &&& (2147483647 : Int32)) % (5 : Int32)) = v21) (hdv23 : ((p_3 &&& (2147483647 : Int32)) % (4 : Int32)) = v23) (hl : v21 = (0 : Int32) ∨ v21 = (1 : Int32) ∨ v21 = (2 : Int32) ∨ v21 = (3 : Int32) ∨ v21 = (4 : Int32)) (hp : v23 = (0 : Int32) ∨ v23 = (1 : Int32) ∨ v23 = (2 : Int32) ∨ v23 = (3 : Int32)) (hdv175 : ((v23 + ((3 : Int32) * v21)) - (1 : Int32)) = v175) (hr_r230 : r230 = (own_rm2_ret (8 : Int32) p_1 v21 v23 (p_4.toInt8.toInt32))) : (own_hw (v21).toNatClampNeg v23 (p_4.toInt8.toInt32) (p_1.toInt8.toInt32) v3 v4 v5 8) = r230 := by
  subst_vars
  exact own_ck_8 _ _ _ _ hl hp
set_option maxRecDepth 65536 in
set_option maxHeartbeats 4000000 in
theorem own_t0_29 (p_1 : Int32) (p_2 : Int32) (p_3 : Int32) (p_4 : Int32) (v3 : Int32) (v4 : Int32) (v5 : Int32) (v21 : Int32) (v23 : Int32) (v175 : Int32) (r235 : Int32) (hdv3 : (((p_1.toUInt32 >>> ((8 : Int32) &&& 31).toUInt32).toInt32).toInt8.toInt32) = v3) (hdv4 : (((p_1.toUInt32 >>> ((16 : Int32) &&& 31).toUInt32).toInt32).toInt8.toInt32) = v4) (hdv5 : (((p_1.toUInt32 >>> ((24 : Int32) &&& 31).toUInt32).toInt32).toInt8.toInt32) = v5) (hdv21 : ((p_2 &&& (2147483647 : Int32)) % (5 : Int32)) = v21) (hdv23 : ((p_3 &&& (2147483647 : Int32)) % (4 : Int32)) = v23) (hl : v21 = (0 : Int32) ∨ v21 = (1 : Int32) ∨ v21 = (2 : Int32) ∨ v21 = (3 : Int32) ∨ v21 = (4 : Int32)) (hp : v23 = (0 : Int32) ∨ v23 = (1 : Int32) ∨ v23 = (2 : Int32) ∨ v23 = (3 : Int32)) (hdv175 : ((v23 + ((3 : Int32) * v21)) - (1 : Int32)) = v175) (hr_r235 : r235 = (own_rm2_ret (9 : Int32) p_1 v21 v23 (p_4.toInt8.toInt32))) : (own_hw (v21).toNatClampNeg v23 (p_4.toInt8.toInt32) (p_1.toInt8.toInt32) v3 v4 v5 9) = r235 := by
  subst_vars
  exact own_ck_9 _ _ _ _ hl hp
set_option maxRecDepth 65536 in
set_option maxHeartbeats 4000000 in
theorem own_t0_30 (p_1 : Int32) (p_2 : Int32) (p_3 : Int32) (p_4 : Int32) (v3 : Int32) (v4 : Int32) (v5 : Int32) (v21 : Int32) (v23 : Int32) (v175 : Int32) (r240 : Int32) (hdv3 : (((p_1.toUInt32 >>> ((8 : Int32) &&& 31).toUInt32).toInt32).toInt8.toInt32) = v3) (hdv4 : (((p_1.toUInt32 >>> ((16 : Int32) &&& 31).toUInt32).toInt32).toInt8.toInt32) = v4) (hdv5 : (((p_1.toUInt32 >>> ((24 : Int32) &&& 31).toUInt32).toInt32).toInt8.toInt32) = v5) (hdv21 : ((p_2 &&& (2147483647 : Int32)) % (5 : Int32)) = v21) (hdv23 : ((p_3 &&& (2147483647 : Int32)) % (4 : Int32)) = v23) (hl : v21 = (0 : Int32) ∨ v21 = (1 : Int32) ∨ v21 = (2 : Int32) ∨ v21 = (3 : Int32) ∨ v21 = (4 : Int32)) (hp : v23 = (0 : Int32) ∨ v23 = (1 : Int32) ∨ v23 = (2 : Int32) ∨ v23 = (3 : Int32)) (hdv175 : ((v23 + ((3 : Int32) * v21)) - (1 : Int32)) = v175) (hr_r240 : r240 = (own_rm2_ret (10 : Int32) p_1 v21 v23 (p_4.toInt8.toInt32))) : (own_hw (v21).toNatClampNeg v23 (p_4.toInt8.toInt32) (p_1.toInt8.toInt32) v3 v4 v5 10) = r240 := by
  subst_vars
  exact own_ck_10 _ _ _ _ hl hp
set_option maxRecDepth 65536 in
set_option maxHeartbeats 4000000 in
theorem own_t0_31 (p_1 : Int32) (p_2 : Int32) (p_3 : Int32) (p_4 : Int32) (v3 : Int32) (v4 : Int32) (v5 : Int32) (v21 : Int32) (v23 : Int32) (v175 : Int32) (r245 : Int32) (hdv3 : (((p_1.toUInt32 >>> ((8 : Int32) &&& 31).toUInt32).toInt32).toInt8.toInt32) = v3) (hdv4 : (((p_1.toUInt32 >>> ((16 : Int32) &&& 31).toUInt32).toInt32).toInt8.toInt32) = v4) (hdv5 : (((p_1.toUInt32 >>> ((24 : Int32) &&& 31).toUInt32).toInt32).toInt8.toInt32) = v5) (hdv21 : ((p_2 &&& (2147483647 : Int32)) % (5 : Int32)) = v21) (hdv23 : ((p_3 &&& (2147483647 : Int32)) % (4 : Int32)) = v23) (hl : v21 = (0 : Int32) ∨ v21 = (1 : Int32) ∨ v21 = (2 : Int32) ∨ v21 = (3 : Int32) ∨ v21 = (4 : Int32)) (hp : v23 = (0 : Int32) ∨ v23 = (1 : Int32) ∨ v23 = (2 : Int32) ∨ v23 = (3 : Int32)) (hdv175 : ((v23 + ((3 : Int32) * v21)) - (1 : Int32)) = v175) (hr_r245 : r245 = (own_rm2_ret (11 : Int32) p_1 v21 v23 (p_4.toInt8.toInt32))) : (own_hw (v21).toNatClampNeg v23 (p_4.toInt8.toInt32) (p_1.toInt8.toInt32) v3 v4 v5 11) = r245 := by
  subst_vars
  exact own_ck_11 _ _ _ _ hl hp
set_option maxRecDepth 65536 in
set_option maxHeartbeats 4000000 in
theorem own_t0_32 (p_1 : Int32) (p_2 : Int32) (p_3 : Int32) (p_4 : Int32) (v3 : Int32) (v4 : Int32) (v5 : Int32) (v21 : Int32) (v23 : Int32) (v175 : Int32) (r250 : Int32) (hdv3 : (((p_1.toUInt32 >>> ((8 : Int32) &&& 31).toUInt32).toInt32).toInt8.toInt32) = v3) (hdv4 : (((p_1.toUInt32 >>> ((16 : Int32) &&& 31).toUInt32).toInt32).toInt8.toInt32) = v4) (hdv5 : (((p_1.toUInt32 >>> ((24 : Int32) &&& 31).toUInt32).toInt32).toInt8.toInt32) = v5) (hdv21 : ((p_2 &&& (2147483647 : Int32)) % (5 : Int32)) = v21) (hdv23 : ((p_3 &&& (2147483647 : Int32)) % (4 : Int32)) = v23) (hl : v21 = (0 : Int32) ∨ v21 = (1 : Int32) ∨ v21 = (2 : Int32) ∨ v21 = (3 : Int32) ∨ v21 = (4 : Int32)) (hp : v23 = (0 : Int32) ∨ v23 = (1 : Int32) ∨ v23 = (2 : Int32) ∨ v23 = (3 : Int32)) (hdv175 : ((v23 + ((3 : Int32) * v21)) - (1 : Int32)) = v175) (hr_r250 : r250 = (own_rm2_ret (12 : Int32) p_1 v21 v23 (p_4.toInt8.toInt32))) : (own_hw (v21).toNatClampNeg v23 (p_4.toInt8.toInt32) (p_1.toInt8.toInt32) v3 v4 v5 12) = r250 := by
  subst_vars
  exact own_ck_12 _ _ _ _ hl hp
set_option maxRecDepth 65536 in
set_option maxHeartbeats 4000000 in
theorem own_t0_33 (p_1 : Int32) (p_2 : Int32) (p_3 : Int32) (p_4 : Int32) (v3 : Int32) (v4 : Int32) (v5 : Int32) (v21 : Int32) (v23 : Int32) (v175 : Int32) (r255 : Int32) (hdv3 : (((p_1.toUInt32 >>> ((8 : Int32) &&& 31).toUInt32).toInt32).toInt8.toInt32) = v3) (hdv4 : (((p_1.toUInt32 >>> ((16 : Int32) &&& 31).toUInt32).toInt32).toInt8.toInt32) = v4) (hdv5 : (((p_1.toUInt32 >>> ((24 : Int32) &&& 31).toUInt32).toInt32).toInt8.toInt32) = v5) (hdv21 : ((p_2 &&& (2147483647 : Int32)) % (5 : Int32)) = v21) (hdv23 : ((p_3 &&& (2147483647 : Int32)) % (4 : Int32)) = v23) (hl : v21 = (0 : Int32) ∨ v21 = (1 : Int32) ∨ v21 = (2 : Int32) ∨ v21 = (3 : Int32) ∨ v21 = (4 : Int32)) (hp : v23 = (0 : Int32) ∨ v23 = (1 : Int32) ∨ v23 = (2 : Int32) ∨ v23 = (3 : Int32)) (hdv175 : ((v23 + ((3 : Int32) * v21)) - (1 : Int32)) = v175) (hr_r255 : r255 = (own_rm2_ret (13 : Int32) p_1 v21 v23 (p_4.toInt8.toInt32))) : (own_hw (v21).toNatClampNeg v23 (p_4.toInt8.toInt32) (p_1.toInt8.toInt32) v3 v4 v5 13) = r255 := by
  subst_vars
  exact own_ck_13 _ _ _ _ hl hp
set_option maxRecDepth 65536 in
set_option maxHeartbeats 4000000 in
theorem own_t0_34 (p_1 : Int32) (p_2 : Int32) (p_3 : Int32) (p_4 : Int32) (v3 : Int32) (v4 : Int32) (v5 : Int32) (v21 : Int32) (v23 : Int32) (v175 : Int32) (r260 : Int32) (hdv3 : (((p_1.toUInt32 >>> ((8 : Int32) &&& 31).toUInt32).toInt32).toInt8.toInt32) = v3) (hdv4 : (((p_1.toUInt32 >>> ((16 : Int32) &&& 31).toUInt32).toInt32).toInt8.toInt32) = v4) (hdv5 : (((p_1.toUInt32 >>> ((24 : Int32) &&& 31).toUInt32).toInt32).toInt8.toInt32) = v5) (hdv21 : ((p_2 &&& (2147483647 : Int32)) % (5 : Int32)) = v21) (hdv23 : ((p_3 &&& (2147483647 : Int32)) % (4 : Int32)) = v23) (hl : v21 = (0 : Int32) ∨ v21 = (1 : Int32) ∨ v21 = (2 : Int32) ∨ v21 = (3 : Int32) ∨ v21 = (4 : Int32)) (hp : v23 = (0 : Int32) ∨ v23 = (1 : Int32) ∨ v23 = (2 : Int32) ∨ v23 = (3 : Int32)) (hdv175 : ((v23 + ((3 : Int32) * v21)) - (1 : Int32)) = v175) (hr_r260 : r260 = (own_rm2_ret (14 : Int32) p_1 v21 v23 (p_4.toInt8.toInt32))) : (own_hw (v21).toNatClampNeg v23 (p_4.toInt8.toInt32) (p_1.toInt8.toInt32) v3 v4 v5 14) = r260 := by
  subst_vars
  exact own_ck_14 _ _ _ _ hl hp
set_option maxRecDepth 65536 in
set_option maxHeartbeats 4000000 in
theorem own_t0_35 (p_1 : Int32) (p_2 : Int32) (p_3 : Int32) (p_4 : Int32) (v3 : Int32) (v4 : Int32) (v5 : Int32) (v21 : Int32) (v23 : Int32) (v175 : Int32) (r265 : Int32) (hdv3 : (((p_1.toUInt32 >>> ((8 : Int32) &&& 31).toUInt32).toInt32).toInt8.toInt32) = v3) (hdv4 : (((p_1.toUInt32 >>> ((16 : Int32) &&& 31).toUInt32).toInt32).toInt8.toInt32) = v4) (hdv5 : (((p_1.toUInt32 >>> ((24 : Int32) &&& 31).toUInt32).toInt32).toInt8.toInt32) = v5) (hdv21 : ((p_2 &&& (2147483647 : Int32)) % (5 : Int32)) = v21) (hdv23 : ((p_3 &&& (2147483647 : Int32)) % (4 : Int32)) = v23) (hl : v21 = (0 : Int32) ∨ v21 = (1 : Int32) ∨ v21 = (2 : Int32) ∨ v21 = (3 : Int32) ∨ v21 = (4 : Int32)) (hp : v23 = (0 : Int32) ∨ v23 = (1 : Int32) ∨ v23 = (2 : Int32) ∨ v23 = (3 : Int32)) (hdv175 : ((v23 + ((3 : Int32) * v21)) - (1 : Int32)) = v175) (hr_r265 : r265 = (own_rm2_ret (15 : Int32) p_1 v21 v23 (p_4.toInt8.toInt32))) : (own_hw (v21).toNatClampNeg v23 (p_4.toInt8.toInt32) (p_1.toInt8.toInt32) v3 v4 v5 15) = r265 := by
  subst_vars
  exact own_ck_15 _ _ _ _ hl hp
def own_Q0 (Z : State) (p_1 : Int32) (p_2 : Int32) (p_3 : Int32) (p_4 : Int32) (t_ : Addr) (h0 : Heap) (n0 : Nat) (v : Option Value) (h : Heap) (L : List Loc) : Prop := v = some (.int (1 : Int32)) ∧ Fr n0 L
set_option maxRecDepth 65536 in
set_option maxHeartbeats 40000000 in
theorem own_rm0 (l : Launch) (Z : State) (a0 : Array Value) (hw : ∀ d ∈ tables_1, d.before a0 Z = true) (ws : List Jvm.Cond) (p_1 : Int32) (p_2 : Int32) (p_3 : Int32) (p_4 : Int32) (t_ : Addr) (h0 : Heap) (n0 : Nat) (Z0 : n0 ≤ h0.size) (pr_S_com_example_honest_codec_honestcodec_IllFormedSequence_HEX_DIGITS : Sta Z h0 "com/example/honest_codec/honestcodec/IllFormedSequence" "HEX_DIGITS" "[B" (.ref t_)) (pr_A_t_ : own_AV Z h0 t_ .byte (16 : Int32) (fun i => .int (own_hd i))) (ho_t : own_lts [t_, n0]) :
    MetFree l x (head1 (Jvm.Cond.code x code maxLocals ret :: ws) room_1) (fun a U => a = #[(.int p_1), (.int p_2), (.int p_3), (.int p_4)] ∧ Z.Warmed39 U.vm ∧ U.heap = h0) (fun _ _ _ _ _ => True) (fun _ U o U' => ∃ v L, o = .returned v ∧ own_Q0 Z p_1 p_2 p_3 p_4 t_ h0 n0 v U'.heap L ∧ FrameEnd U o U' L 2 20) := by
  refine MetFree.of_bodySF (plainFor_of_name own_pn0) hisR ?_
  intro p e s m args below meth c s₁ Bd hml0 hP hK
  obtain ⟨rfl, hZ, hh⟩ := hP
  have hx := Bd.exec
  have hby := Bd.bytes
  have hml : c.maxLocals = 16 := hml0
  have hown : s.vm.findClass "com/example/honest_codec/honestcodec/IllFormedSequencePutHexPinLaw" = some m.cls := findClass_of_methodNamed Bd.named
  have hnm := (name_of_methodNamed Bd.named Bd.method).1
  have X0 : Stand p l e room_1 s m #[(.int p_1), (.int p_2), (.int p_3), (.int p_4)] below meth c s₁ [] 0 0 := Stand.of_body Bd
  have e0 : s₁.heap = h0 := by rw [← hh, Bd.state]; rfl
  have N0 := Fr.nil n0
  have z0 : n0 ≤ h0.size := Z0
  have z1 := own_lt pr_A_t_.lt
  have ho2 := ho_t
  simp only [own_lts, and_true] at ho2
  have K0 : Keep h0 h0 [] := Keep.refl h0 _
  show own_Go p.tables e below (fun t o => t.status = .running ∧ Ended t below o ∧ ∃ v L, o = .returned v ∧ own_Q0 Z p_1 p_2 p_3 p_4 t_ h0 n0 v t.heap L ∧ FrameEnd s o t L 2 20) s₁ (entryFrame m #[(.int p_1), (.int p_2), (.int p_3), (.int p_4)] maxLocals)
  rw [own_ef_own_rm0 m p_1 p_2 p_3 p_4]
  show own_Go _ _ _ _ s₁ (mkF m 0 #[.val (.int p_1), .val (.int p_2), .val (.int p_3), .val (.int p_4), .unset, .unset, .unset, .unset, .unset, .unset, .unset, .unset, .unset, .unset, .unset, .unset] [])
  refine own_go (fun _ k => XS.iloadN X0.here hx rfl (hb hby at_0) rfl k) ?_
  show own_Go _ _ _ _ s₁ (mkF m 1 #[.val (.int p_1), .val (.int p_2), .val (.int p_3), .val (.int p_4), .unset, .unset, .unset, .unset, .unset, .unset, .unset, .unset, .unset, .unset, .unset, .unset] [(.int p_1)])
  refine own_go (fun _ k => XS.i2b X0.here hx rfl (hb hby at_1) rfl k) ?_
  show own_Go _ _ _ _ s₁ (mkF m 2 #[.val (.int p_1), .val (.int p_2), .val (.int p_3), .val (.int p_4), .unset, .unset, .unset, .unset, .unset, .unset, .unset, .unset, .unset, .unset, .unset, .unset] [(.int (p_1.toInt8.toInt32))])
  refine own_go (fun _ k => XS.istore X0.here hx rfl (hb hby at_2) rfl (l' := #[.val (.int p_1), .val (.int p_2), .val (.int p_3), .val (.int p_4), .val (.int (p_1.toInt8.toInt32)), .unset, .unset, .unset, .unset, .unset, .unset, .unset, .unset, .unset, .unset, .unset]) rfl k) ?_
  show own_Go _ _ _ _ s₁ (mkF m 4 #[.val (.int p_1), .val (.int p_2), .val (.int p_3), .val (.int p_4), .val (.int (p_1.toInt8.toInt32)), .unset, .unset, .unset, .unset, .unset, .unset, .unset, .unset, .unset, .unset, .unset] [])
  refine own_go (fun _ k => XS.iloadN X0.here hx rfl (hb hby at_4) rfl k) ?_
  show own_Go _ _ _ _ s₁ (mkF m 5 #[.val (.int p_1), .val (.int p_2), .val (.int p_3), .val (.int p_4), .val (.int (p_1.toInt8.toInt32)), .unset, .unset, .unset, .unset, .unset, .unset, .unset, .unset, .unset, .unset, .unset] [(.int p_1)])
  refine own_go (fun _ k => XS.bipush X0.here hx rfl (hb hby at_5) k) ?_
  show own_Go _ _ _ _ s₁ (mkF m 7 #[.val (.int p_1), .val (.int p_2), .val (.int p_3), .val (.int p_4), .val (.int (p_1.toInt8.toInt32)), .unset, .unset, .unset, .unset, .unset, .unset, .unset, .unset, .unset, .unset, .unset] [(.int (8 : Int32)), (.int p_1)])
  refine own_go (fun _ k => XS.iushr X0.here hx rfl (hb hby at_7) rfl k) ?_
  show own_Go _ _ _ _ s₁ (mkF m 8 #[.val (.int p_1), .val (.int p_2), .val (.int p_3), .val (.int p_4), .val (.int (p_1.toInt8.toInt32)), .unset, .unset, .unset, .unset, .unset, .unset, .unset, .unset, .unset, .unset, .unset] [(.int ((p_1.toUInt32 >>> ((8 : Int32) &&& 31).toUInt32).toInt32))])
  refine own_go (fun _ k => XS.i2b X0.here hx rfl (hb hby at_8) rfl k) ?_
  show own_Go _ _ _ _ s₁ (mkF m 9 #[.val (.int p_1), .val (.int p_2), .val (.int p_3), .val (.int p_4), .val (.int (p_1.toInt8.toInt32)), .unset, .unset, .unset, .unset, .unset, .unset, .unset, .unset, .unset, .unset, .unset] [(.int (((p_1.toUInt32 >>> ((8 : Int32) &&& 31).toUInt32).toInt32).toInt8.toInt32))])
  refine own_go (fun _ k => XS.istore X0.here hx rfl (hb hby at_9) rfl (l' := #[.val (.int p_1), .val (.int p_2), .val (.int p_3), .val (.int p_4), .val (.int (p_1.toInt8.toInt32)), .val (.int (((p_1.toUInt32 >>> ((8 : Int32) &&& 31).toUInt32).toInt32).toInt8.toInt32)), .unset, .unset, .unset, .unset, .unset, .unset, .unset, .unset, .unset, .unset]) rfl k) ?_
  show own_Go _ _ _ _ s₁ (mkF m 11 #[.val (.int p_1), .val (.int p_2), .val (.int p_3), .val (.int p_4), .val (.int (p_1.toInt8.toInt32)), .val (.int (((p_1.toUInt32 >>> ((8 : Int32) &&& 31).toUInt32).toInt32).toInt8.toInt32)), .unset, .unset, .unset, .unset, .unset, .unset, .unset, .unset, .unset, .unset] [])
  generalize hdv3 : (((p_1.toUInt32 >>> ((8 : Int32) &&& 31).toUInt32).toInt32).toInt8.toInt32) = v3
  show own_Go _ _ _ _ s₁ (mkF m 11 #[.val (.int p_1), .val (.int p_2), .val (.int p_3), .val (.int p_4), .val (.int (p_1.toInt8.toInt32)), .val (.int v3), .unset, .unset, .unset, .unset, .unset, .unset, .unset, .unset, .unset, .unset] [])
  refine own_go (fun _ k => XS.iloadN X0.here hx rfl (hb hby at_11) rfl k) ?_
  show own_Go _ _ _ _ s₁ (mkF m 12 #[.val (.int p_1), .val (.int p_2), .val (.int p_3), .val (.int p_4), .val (.int (p_1.toInt8.toInt32)), .val (.int v3), .unset, .unset, .unset, .unset, .unset, .unset, .unset, .unset, .unset, .unset] [(.int p_1)])
  refine own_go (fun _ k => XS.bipush X0.here hx rfl (hb hby at_12) k) ?_
  show own_Go _ _ _ _ s₁ (mkF m 14 #[.val (.int p_1), .val (.int p_2), .val (.int p_3), .val (.int p_4), .val (.int (p_1.toInt8.toInt32)), .val (.int v3), .unset, .unset, .unset, .unset, .unset, .unset, .unset, .unset, .unset, .unset] [(.int (16 : Int32)), (.int p_1)])
  refine own_go (fun _ k => XS.iushr X0.here hx rfl (hb hby at_14) rfl k) ?_
  show own_Go _ _ _ _ s₁ (mkF m 15 #[.val (.int p_1), .val (.int p_2), .val (.int p_3), .val (.int p_4), .val (.int (p_1.toInt8.toInt32)), .val (.int v3), .unset, .unset, .unset, .unset, .unset, .unset, .unset, .unset, .unset, .unset] [(.int ((p_1.toUInt32 >>> ((16 : Int32) &&& 31).toUInt32).toInt32))])
  refine own_go (fun _ k => XS.i2b X0.here hx rfl (hb hby at_15) rfl k) ?_
  show own_Go _ _ _ _ s₁ (mkF m 16 #[.val (.int p_1), .val (.int p_2), .val (.int p_3), .val (.int p_4), .val (.int (p_1.toInt8.toInt32)), .val (.int v3), .unset, .unset, .unset, .unset, .unset, .unset, .unset, .unset, .unset, .unset] [(.int (((p_1.toUInt32 >>> ((16 : Int32) &&& 31).toUInt32).toInt32).toInt8.toInt32))])
  refine own_go (fun _ k => XS.istore X0.here hx rfl (hb hby at_16) rfl (l' := #[.val (.int p_1), .val (.int p_2), .val (.int p_3), .val (.int p_4), .val (.int (p_1.toInt8.toInt32)), .val (.int v3), .val (.int (((p_1.toUInt32 >>> ((16 : Int32) &&& 31).toUInt32).toInt32).toInt8.toInt32)), .unset, .unset, .unset, .unset, .unset, .unset, .unset, .unset, .unset]) rfl k) ?_
  show own_Go _ _ _ _ s₁ (mkF m 18 #[.val (.int p_1), .val (.int p_2), .val (.int p_3), .val (.int p_4), .val (.int (p_1.toInt8.toInt32)), .val (.int v3), .val (.int (((p_1.toUInt32 >>> ((16 : Int32) &&& 31).toUInt32).toInt32).toInt8.toInt32)), .unset, .unset, .unset, .unset, .unset, .unset, .unset, .unset, .unset] [])
  generalize hdv4 : (((p_1.toUInt32 >>> ((16 : Int32) &&& 31).toUInt32).toInt32).toInt8.toInt32) = v4
  show own_Go _ _ _ _ s₁ (mkF m 18 #[.val (.int p_1), .val (.int p_2), .val (.int p_3), .val (.int p_4), .val (.int (p_1.toInt8.toInt32)), .val (.int v3), .val (.int v4), .unset, .unset, .unset, .unset, .unset, .unset, .unset, .unset, .unset] [])
  refine own_go (fun _ k => XS.iloadN X0.here hx rfl (hb hby at_18) rfl k) ?_
  show own_Go _ _ _ _ s₁ (mkF m 19 #[.val (.int p_1), .val (.int p_2), .val (.int p_3), .val (.int p_4), .val (.int (p_1.toInt8.toInt32)), .val (.int v3), .val (.int v4), .unset, .unset, .unset, .unset, .unset, .unset, .unset, .unset, .unset] [(.int p_1)])
  refine own_go (fun _ k => XS.bipush X0.here hx rfl (hb hby at_19) k) ?_
  show own_Go _ _ _ _ s₁ (mkF m 21 #[.val (.int p_1), .val (.int p_2), .val (.int p_3), .val (.int p_4), .val (.int (p_1.toInt8.toInt32)), .val (.int v3), .val (.int v4), .unset, .unset, .unset, .unset, .unset, .unset, .unset, .unset, .unset] [(.int (24 : Int32)), (.int p_1)])
  refine own_go (fun _ k => XS.iushr X0.here hx rfl (hb hby at_21) rfl k) ?_
  show own_Go _ _ _ _ s₁ (mkF m 22 #[.val (.int p_1), .val (.int p_2), .val (.int p_3), .val (.int p_4), .val (.int (p_1.toInt8.toInt32)), .val (.int v3), .val (.int v4), .unset, .unset, .unset, .unset, .unset, .unset, .unset, .unset, .unset] [(.int ((p_1.toUInt32 >>> ((24 : Int32) &&& 31).toUInt32).toInt32))])
  refine own_go (fun _ k => XS.i2b X0.here hx rfl (hb hby at_22) rfl k) ?_
  show own_Go _ _ _ _ s₁ (mkF m 23 #[.val (.int p_1), .val (.int p_2), .val (.int p_3), .val (.int p_4), .val (.int (p_1.toInt8.toInt32)), .val (.int v3), .val (.int v4), .unset, .unset, .unset, .unset, .unset, .unset, .unset, .unset, .unset] [(.int (((p_1.toUInt32 >>> ((24 : Int32) &&& 31).toUInt32).toInt32).toInt8.toInt32))])
  refine own_go (fun _ k => XS.istore X0.here hx rfl (hb hby at_23) rfl (l' := #[.val (.int p_1), .val (.int p_2), .val (.int p_3), .val (.int p_4), .val (.int (p_1.toInt8.toInt32)), .val (.int v3), .val (.int v4), .val (.int (((p_1.toUInt32 >>> ((24 : Int32) &&& 31).toUInt32).toInt32).toInt8.toInt32)), .unset, .unset, .unset, .unset, .unset, .unset, .unset, .unset]) rfl k) ?_
  show own_Go _ _ _ _ s₁ (mkF m 25 #[.val (.int p_1), .val (.int p_2), .val (.int p_3), .val (.int p_4), .val (.int (p_1.toInt8.toInt32)), .val (.int v3), .val (.int v4), .val (.int (((p_1.toUInt32 >>> ((24 : Int32) &&& 31).toUInt32).toInt32).toInt8.toInt32)), .unset, .unset, .unset, .unset, .unset, .unset, .unset, .unset] [])
  generalize hdv5 : (((p_1.toUInt32 >>> ((24 : Int32) &&& 31).toUInt32).toInt32).toInt8.toInt32) = v5
  show own_Go _ _ _ _ s₁ (mkF m 25 #[.val (.int p_1), .val (.int p_2), .val (.int p_3), .val (.int p_4), .val (.int (p_1.toInt8.toInt32)), .val (.int v3), .val (.int v4), .val (.int v5), .unset, .unset, .unset, .unset, .unset, .unset, .unset, .unset] [])
  refine own_go (fun _ k => XS.iconst X0.here hx rfl (hb hby at_25) k) ?_
  show own_Go _ _ _ _ s₁ (mkF m 26 #[.val (.int p_1), .val (.int p_2), .val (.int p_3), .val (.int p_4), .val (.int (p_1.toInt8.toInt32)), .val (.int v3), .val (.int v4), .val (.int v5), .unset, .unset, .unset, .unset, .unset, .unset, .unset, .unset] [(.int (4 : Int32))])
  obtain ⟨T6, h6, k6, X6, e6, E6, A6, st6⟩ := newP X0 hx hZ (hw _ (List.mem_of_getElem? (i := 0) rfl)) e0 (g := (mkF m 26 #[.val (.int p_1), .val (.int p_2), .val (.int p_3), .val (.int p_4), .val (.int (p_1.toInt8.toInt32)), .val (.int v3), .val (.int v4), .val (.int v5), .unset, .unset, .unset, .unset, .unset, .unset, .unset, .unset] [(.int (4 : Int32))])) rfl (hb hby at_26) rfl (by decide) (cap := 4) (by decide) (by decide) (by decide) (by decide)
  obtain ⟨b6, g6⟩ : ∃ z, z = h0.size := ⟨_, rfl⟩
  rw [← g6] at A6 st6
  have z7 := E6.1
  have lt_b6 := own_lt A6.lt
  have K6 : Keep h0 h6 [] := K0.ext E6
  have V_b6 : own_AV Z h6 b6 .byte (4 : Int32) (fun _ => (.int (0 : Int32))) := own_AV.new A6 (by decide)
  refine own_go (fun _ k => st6 _ k) ?_
  show own_Go _ _ _ _ T6 (mkF m 28 #[.val (.int p_1), .val (.int p_2), .val (.int p_3), .val (.int p_4), .val (.int (p_1.toInt8.toInt32)), .val (.int v3), .val (.int v4), .val (.int v5), .unset, .unset, .unset, .unset, .unset, .unset, .unset, .unset] [(.ref b6)])
  refine own_go (fun _ k => XS.dup X6.here hx rfl (hb hby at_28) rfl rfl k) ?_
  show own_Go _ _ _ _ T6 (mkF m 29 #[.val (.int p_1), .val (.int p_2), .val (.int p_3), .val (.int p_4), .val (.int (p_1.toInt8.toInt32)), .val (.int v3), .val (.int v4), .val (.int v5), .unset, .unset, .unset, .unset, .unset, .unset, .unset, .unset] [(.ref b6), (.ref b6)])
  refine own_go (fun _ k => XS.iconst X6.here hx rfl (hb hby at_29) k) ?_
  show own_Go _ _ _ _ T6 (mkF m 30 #[.val (.int p_1), .val (.int p_2), .val (.int p_3), .val (.int p_4), .val (.int (p_1.toInt8.toInt32)), .val (.int v3), .val (.int v4), .val (.int v5), .unset, .unset, .unset, .unset, .unset, .unset, .unset, .unset] [(.int (0 : Int32)), (.ref b6), (.ref b6)])
  refine own_go (fun _ k => XS.iload X6.here hx rfl (hb hby at_30) rfl k) ?_
  show own_Go _ _ _ _ T6 (mkF m 32 #[.val (.int p_1), .val (.int p_2), .val (.int p_3), .val (.int p_4), .val (.int (p_1.toInt8.toInt32)), .val (.int v3), .val (.int v4), .val (.int v5), .unset, .unset, .unset, .unset, .unset, .unset, .unset, .unset] [(.int (p_1.toInt8.toInt32)), (.int (0 : Int32)), (.ref b6), (.ref b6)])
  obtain ⟨q8, c8, R8, s8, t8⟩ := id V_b6
  have hin8 : ¬ ((0 : Int32) < 0 ∨ c8.slots.size ≤ ((0 : Int32)).toNatClampNeg) := inb_of s8 ⟨by decide, by decide⟩
  obtain ⟨T9, h9, X9, e9, W9, st9⟩ := stB X6 hx hZ e6 R8 (j := (0 : Int32)) hin8 (g := (mkF m 32 #[.val (.int p_1), .val (.int p_2), .val (.int p_3), .val (.int p_4), .val (.int (p_1.toInt8.toInt32)), .val (.int v3), .val (.int v4), .val (.int v5), .unset, .unset, .unset, .unset, .unset, .unset, .unset, .unset] [(.int (p_1.toInt8.toInt32)), (.int (0 : Int32)), (.ref b6), (.ref b6)])) rfl rfl (hb hby at_32)
  rw [(own_nar_b _)] at W9
  have V9 : own_AV Z h9 b6 .byte (4 : Int32) (own_upd (fun _ => (.int (0 : Int32))) 0 (.int (p_1.toInt8.toInt32))) := own_AV.set (k := 0) V_b6 W9 (by decide)
  have z10 := W9.size
  have K9 : Keep h0 h9 [] := K6.wr W9 (Or.inr (by omega))
  have N9 := Fr.snoc X9 N0 (by omega : n0 ≤ b6)
  refine own_go (fun _ k => st9 _ k) ?_
  show own_Go _ _ _ _ T9 (mkF m 33 #[.val (.int p_1), .val (.int p_2), .val (.int p_3), .val (.int p_4), .val (.int (p_1.toInt8.toInt32)), .val (.int v3), .val (.int v4), .val (.int v5), .unset, .unset, .unset, .unset, .unset, .unset, .unset, .unset] [(.ref b6)])
  refine own_go (fun _ k => XS.dup X9.here hx rfl (hb hby at_33) rfl rfl k) ?_
  show own_Go _ _ _ _ T9 (mkF m 34 #[.val (.int p_1), .val (.int p_2), .val (.int p_3), .val (.int p_4), .val (.int (p_1.toInt8.toInt32)), .val (.int v3), .val (.int v4), .val (.int v5), .unset, .unset, .unset, .unset, .unset, .unset, .unset, .unset] [(.ref b6), (.ref b6)])
  refine own_go (fun _ k => XS.iconst X9.here hx rfl (hb hby at_34) k) ?_
  show own_Go _ _ _ _ T9 (mkF m 35 #[.val (.int p_1), .val (.int p_2), .val (.int p_3), .val (.int p_4), .val (.int (p_1.toInt8.toInt32)), .val (.int v3), .val (.int v4), .val (.int v5), .unset, .unset, .unset, .unset, .unset, .unset, .unset, .unset] [(.int (1 : Int32)), (.ref b6), (.ref b6)])
  refine own_go (fun _ k => XS.iload X9.here hx rfl (hb hby at_35) rfl k) ?_
  show own_Go _ _ _ _ T9 (mkF m 37 #[.val (.int p_1), .val (.int p_2), .val (.int p_3), .val (.int p_4), .val (.int (p_1.toInt8.toInt32)), .val (.int v3), .val (.int v4), .val (.int v5), .unset, .unset, .unset, .unset, .unset, .unset, .unset, .unset] [(.int v3), (.int (1 : Int32)), (.ref b6), (.ref b6)])
  obtain ⟨q11, c11, R11, s11, t11⟩ := id V9
  have hin11 : ¬ ((1 : Int32) < 0 ∨ c11.slots.size ≤ ((1 : Int32)).toNatClampNeg) := inb_of s11 ⟨by decide, by decide⟩
  obtain ⟨T12, h12, X12, e12, W12, st12⟩ := stB X9 hx hZ e9 R11 (j := (1 : Int32)) hin11 (g := (mkF m 37 #[.val (.int p_1), .val (.int p_2), .val (.int p_3), .val (.int p_4), .val (.int (p_1.toInt8.toInt32)), .val (.int v3), .val (.int v4), .val (.int v5), .unset, .unset, .unset, .unset, .unset, .unset, .unset, .unset] [(.int v3), (.int (1 : Int32)), (.ref b6), (.ref b6)])) rfl rfl (hb hby at_37)
  rw [(show nar .byte v3 = v3 by rw [← hdv3]; exact own_nar_b _)] at W12
  have V12 : own_AV Z h12 b6 .byte (4 : Int32) (own_upd (own_upd (fun _ => (.int (0 : Int32))) 0 (.int (p_1.toInt8.toInt32))) 1 (.int v3)) := own_AV.set (k := 1) V9 W12 (by decide)
  have z13 := W12.size
  have K12 : Keep h0 h12 [] := K9.wr W12 (Or.inr (by omega))
  have N12 := Fr.snoc X12 N9 (by omega : n0 ≤ b6)
  refine own_go (fun _ k => st12 _ k) ?_
  show own_Go _ _ _ _ T12 (mkF m 38 #[.val (.int p_1), .val (.int p_2), .val (.int p_3), .val (.int p_4), .val (.int (p_1.toInt8.toInt32)), .val (.int v3), .val (.int v4), .val (.int v5), .unset, .unset, .unset, .unset, .unset, .unset, .unset, .unset] [(.ref b6)])
  refine own_go (fun _ k => XS.dup X12.here hx rfl (hb hby at_38) rfl rfl k) ?_
  show own_Go _ _ _ _ T12 (mkF m 39 #[.val (.int p_1), .val (.int p_2), .val (.int p_3), .val (.int p_4), .val (.int (p_1.toInt8.toInt32)), .val (.int v3), .val (.int v4), .val (.int v5), .unset, .unset, .unset, .unset, .unset, .unset, .unset, .unset] [(.ref b6), (.ref b6)])
  refine own_go (fun _ k => XS.iconst X12.here hx rfl (hb hby at_39) k) ?_
  show own_Go _ _ _ _ T12 (mkF m 40 #[.val (.int p_1), .val (.int p_2), .val (.int p_3), .val (.int p_4), .val (.int (p_1.toInt8.toInt32)), .val (.int v3), .val (.int v4), .val (.int v5), .unset, .unset, .unset, .unset, .unset, .unset, .unset, .unset] [(.int (2 : Int32)), (.ref b6), (.ref b6)])
  refine own_go (fun _ k => XS.iload X12.here hx rfl (hb hby at_40) rfl k) ?_
  show own_Go _ _ _ _ T12 (mkF m 42 #[.val (.int p_1), .val (.int p_2), .val (.int p_3), .val (.int p_4), .val (.int (p_1.toInt8.toInt32)), .val (.int v3), .val (.int v4), .val (.int v5), .unset, .unset, .unset, .unset, .unset, .unset, .unset, .unset] [(.int v4), (.int (2 : Int32)), (.ref b6), (.ref b6)])
  obtain ⟨q14, c14, R14, s14, t14⟩ := id V12
  have hin14 : ¬ ((2 : Int32) < 0 ∨ c14.slots.size ≤ ((2 : Int32)).toNatClampNeg) := inb_of s14 ⟨by decide, by decide⟩
  obtain ⟨T15, h15, X15, e15, W15, st15⟩ := stB X12 hx hZ e12 R14 (j := (2 : Int32)) hin14 (g := (mkF m 42 #[.val (.int p_1), .val (.int p_2), .val (.int p_3), .val (.int p_4), .val (.int (p_1.toInt8.toInt32)), .val (.int v3), .val (.int v4), .val (.int v5), .unset, .unset, .unset, .unset, .unset, .unset, .unset, .unset] [(.int v4), (.int (2 : Int32)), (.ref b6), (.ref b6)])) rfl rfl (hb hby at_42)
  rw [(show nar .byte v4 = v4 by rw [← hdv4]; exact own_nar_b _)] at W15
  have V15 : own_AV Z h15 b6 .byte (4 : Int32) (own_upd (own_upd (own_upd (fun _ => (.int (0 : Int32))) 0 (.int (p_1.toInt8.toInt32))) 1 (.int v3)) 2 (.int v4)) := own_AV.set (k := 2) V12 W15 (by decide)
  have z16 := W15.size
  have K15 : Keep h0 h15 [] := K12.wr W15 (Or.inr (by omega))
  have N15 := Fr.snoc X15 N12 (by omega : n0 ≤ b6)
  refine own_go (fun _ k => st15 _ k) ?_
  show own_Go _ _ _ _ T15 (mkF m 43 #[.val (.int p_1), .val (.int p_2), .val (.int p_3), .val (.int p_4), .val (.int (p_1.toInt8.toInt32)), .val (.int v3), .val (.int v4), .val (.int v5), .unset, .unset, .unset, .unset, .unset, .unset, .unset, .unset] [(.ref b6)])
  refine own_go (fun _ k => XS.dup X15.here hx rfl (hb hby at_43) rfl rfl k) ?_
  show own_Go _ _ _ _ T15 (mkF m 44 #[.val (.int p_1), .val (.int p_2), .val (.int p_3), .val (.int p_4), .val (.int (p_1.toInt8.toInt32)), .val (.int v3), .val (.int v4), .val (.int v5), .unset, .unset, .unset, .unset, .unset, .unset, .unset, .unset] [(.ref b6), (.ref b6)])
  refine own_go (fun _ k => XS.iconst X15.here hx rfl (hb hby at_44) k) ?_
  show own_Go _ _ _ _ T15 (mkF m 45 #[.val (.int p_1), .val (.int p_2), .val (.int p_3), .val (.int p_4), .val (.int (p_1.toInt8.toInt32)), .val (.int v3), .val (.int v4), .val (.int v5), .unset, .unset, .unset, .unset, .unset, .unset, .unset, .unset] [(.int (3 : Int32)), (.ref b6), (.ref b6)])
  refine own_go (fun _ k => XS.iload X15.here hx rfl (hb hby at_45) rfl k) ?_
  show own_Go _ _ _ _ T15 (mkF m 47 #[.val (.int p_1), .val (.int p_2), .val (.int p_3), .val (.int p_4), .val (.int (p_1.toInt8.toInt32)), .val (.int v3), .val (.int v4), .val (.int v5), .unset, .unset, .unset, .unset, .unset, .unset, .unset, .unset] [(.int v5), (.int (3 : Int32)), (.ref b6), (.ref b6)])
  obtain ⟨q17, c17, R17, s17, t17⟩ := id V15
  have hin17 : ¬ ((3 : Int32) < 0 ∨ c17.slots.size ≤ ((3 : Int32)).toNatClampNeg) := inb_of s17 ⟨by decide, by decide⟩
  obtain ⟨T18, h18, X18, e18, W18, st18⟩ := stB X15 hx hZ e15 R17 (j := (3 : Int32)) hin17 (g := (mkF m 47 #[.val (.int p_1), .val (.int p_2), .val (.int p_3), .val (.int p_4), .val (.int (p_1.toInt8.toInt32)), .val (.int v3), .val (.int v4), .val (.int v5), .unset, .unset, .unset, .unset, .unset, .unset, .unset, .unset] [(.int v5), (.int (3 : Int32)), (.ref b6), (.ref b6)])) rfl rfl (hb hby at_47)
  rw [(show nar .byte v5 = v5 by rw [← hdv5]; exact own_nar_b _)] at W18
  have V18 : own_AV Z h18 b6 .byte (4 : Int32) (own_upd (own_upd (own_upd (own_upd (fun _ => (.int (0 : Int32))) 0 (.int (p_1.toInt8.toInt32))) 1 (.int v3)) 2 (.int v4)) 3 (.int v5)) := own_AV.set (k := 3) V15 W18 (by decide)
  have z19 := W18.size
  have K18 : Keep h0 h18 [] := K15.wr W18 (Or.inr (by omega))
  have N18 := Fr.snoc X18 N15 (by omega : n0 ≤ b6)
  refine own_go (fun _ k => st18 _ k) ?_
  show own_Go _ _ _ _ T18 (mkF m 48 #[.val (.int p_1), .val (.int p_2), .val (.int p_3), .val (.int p_4), .val (.int (p_1.toInt8.toInt32)), .val (.int v3), .val (.int v4), .val (.int v5), .unset, .unset, .unset, .unset, .unset, .unset, .unset, .unset] [(.ref b6)])
  refine own_go (fun _ k => XS.astore X18.here hx rfl (hb hby at_48) rfl rfl (l' := #[.val (.int p_1), .val (.int p_2), .val (.int p_3), .val (.int p_4), .val (.int (p_1.toInt8.toInt32)), .val (.int v3), .val (.int v4), .val (.int v5), .val (.ref b6), .unset, .unset, .unset, .unset, .unset, .unset, .unset]) rfl k) ?_
  show own_Go _ _ _ _ T18 (mkF m 50 #[.val (.int p_1), .val (.int p_2), .val (.int p_3), .val (.int p_4), .val (.int (p_1.toInt8.toInt32)), .val (.int v3), .val (.int v4), .val (.int v5), .val (.ref b6), .unset, .unset, .unset, .unset, .unset, .unset, .unset] [])
  refine own_go (fun _ k => XS.iloadN X18.here hx rfl (hb hby at_50) rfl k) ?_
  show own_Go _ _ _ _ T18 (mkF m 51 #[.val (.int p_1), .val (.int p_2), .val (.int p_3), .val (.int p_4), .val (.int (p_1.toInt8.toInt32)), .val (.int v3), .val (.int v4), .val (.int v5), .val (.ref b6), .unset, .unset, .unset, .unset, .unset, .unset, .unset] [(.int p_2)])
  refine own_go (fun _ k => X18.ldcInt hx hown (mvT hZ (hw _ (List.mem_of_getElem? (i := 1) rfl))) (g := (mkF m 51 #[.val (.int p_1), .val (.int p_2), .val (.int p_3), .val (.int p_4), .val (.int (p_1.toInt8.toInt32)), .val (.int v3), .val (.int v4), .val (.int v5), .val (.ref b6), .unset, .unset, .unset, .unset, .unset, .unset, .unset] [(.int p_2)])) rfl (hb hby at_51) _ k) ?_
  show own_Go _ _ _ _ T18 (mkF m 53 #[.val (.int p_1), .val (.int p_2), .val (.int p_3), .val (.int p_4), .val (.int (p_1.toInt8.toInt32)), .val (.int v3), .val (.int v4), .val (.int v5), .val (.ref b6), .unset, .unset, .unset, .unset, .unset, .unset, .unset] [(.int (2147483647 : Int32)), (.int p_2)])
  refine own_go (fun _ k => XS.iand X18.here hx rfl (hb hby at_53) rfl k) ?_
  show own_Go _ _ _ _ T18 (mkF m 54 #[.val (.int p_1), .val (.int p_2), .val (.int p_3), .val (.int p_4), .val (.int (p_1.toInt8.toInt32)), .val (.int v3), .val (.int v4), .val (.int v5), .val (.ref b6), .unset, .unset, .unset, .unset, .unset, .unset, .unset] [(.int (p_2 &&& (2147483647 : Int32)))])
  refine own_go (fun _ k => XS.iconst X18.here hx rfl (hb hby at_54) k) ?_
  show own_Go _ _ _ _ T18 (mkF m 55 #[.val (.int p_1), .val (.int p_2), .val (.int p_3), .val (.int p_4), .val (.int (p_1.toInt8.toInt32)), .val (.int v3), .val (.int v4), .val (.int v5), .val (.ref b6), .unset, .unset, .unset, .unset, .unset, .unset, .unset] [(.int (5 : Int32)), (.int (p_2 &&& (2147483647 : Int32)))])
  have nz20 : (5 : Int32) ≠ 0 := by decide
  refine own_go (fun _ k => iremM X18 hx rfl (hb hby at_55) rfl nz20 k) ?_
  show own_Go _ _ _ _ T18 (mkF m 56 #[.val (.int p_1), .val (.int p_2), .val (.int p_3), .val (.int p_4), .val (.int (p_1.toInt8.toInt32)), .val (.int v3), .val (.int v4), .val (.int v5), .val (.ref b6), .unset, .unset, .unset, .unset, .unset, .unset, .unset] [(.int ((p_2 &&& (2147483647 : Int32)) % (5 : Int32)))])
  refine own_go (fun _ k => XS.istore X18.here hx rfl (hb hby at_56) rfl (l' := #[.val (.int p_1), .val (.int p_2), .val (.int p_3), .val (.int p_4), .val (.int (p_1.toInt8.toInt32)), .val (.int v3), .val (.int v4), .val (.int v5), .val (.ref b6), .val (.int ((p_2 &&& (2147483647 : Int32)) % (5 : Int32))), .unset, .unset, .unset, .unset, .unset, .unset]) rfl k) ?_
  show own_Go _ _ _ _ T18 (mkF m 58 #[.val (.int p_1), .val (.int p_2), .val (.int p_3), .val (.int p_4), .val (.int (p_1.toInt8.toInt32)), .val (.int v3), .val (.int v4), .val (.int v5), .val (.ref b6), .val (.int ((p_2 &&& (2147483647 : Int32)) % (5 : Int32))), .unset, .unset, .unset, .unset, .unset, .unset] [])
  generalize hdv21 : ((p_2 &&& (2147483647 : Int32)) % (5 : Int32)) = v21
  show own_Go _ _ _ _ T18 (mkF m 58 #[.val (.int p_1), .val (.int p_2), .val (.int p_3), .val (.int p_4), .val (.int (p_1.toInt8.toInt32)), .val (.int v3), .val (.int v4), .val (.int v5), .val (.ref b6), .val (.int v21), .unset, .unset, .unset, .unset, .unset, .unset] [])
  refine own_go (fun _ k => XS.iloadN X18.here hx rfl (hb hby at_58) rfl k) ?_
  show own_Go _ _ _ _ T18 (mkF m 59 #[.val (.int p_1), .val (.int p_2), .val (.int p_3), .val (.int p_4), .val (.int (p_1.toInt8.toInt32)), .val (.int v3), .val (.int v4), .val (.int v5), .val (.ref b6), .val (.int v21), .unset, .unset, .unset, .unset, .unset, .unset] [(.int p_3)])
  refine own_go (fun _ k => X18.ldcInt hx hown (mvT hZ (hw _ (List.mem_of_getElem? (i := 1) rfl))) (g := (mkF m 59 #[.val (.int p_1), .val (.int p_2), .val (.int p_3), .val (.int p_4), .val (.int (p_1.toInt8.toInt32)), .val (.int v3), .val (.int v4), .val (.int v5), .val (.ref b6), .val (.int v21), .unset, .unset, .unset, .unset, .unset, .unset] [(.int p_3)])) rfl (hb hby at_59) _ k) ?_
  show own_Go _ _ _ _ T18 (mkF m 61 #[.val (.int p_1), .val (.int p_2), .val (.int p_3), .val (.int p_4), .val (.int (p_1.toInt8.toInt32)), .val (.int v3), .val (.int v4), .val (.int v5), .val (.ref b6), .val (.int v21), .unset, .unset, .unset, .unset, .unset, .unset] [(.int (2147483647 : Int32)), (.int p_3)])
  refine own_go (fun _ k => XS.iand X18.here hx rfl (hb hby at_61) rfl k) ?_
  show own_Go _ _ _ _ T18 (mkF m 62 #[.val (.int p_1), .val (.int p_2), .val (.int p_3), .val (.int p_4), .val (.int (p_1.toInt8.toInt32)), .val (.int v3), .val (.int v4), .val (.int v5), .val (.ref b6), .val (.int v21), .unset, .unset, .unset, .unset, .unset, .unset] [(.int (p_3 &&& (2147483647 : Int32)))])
  refine own_go (fun _ k => XS.iconst X18.here hx rfl (hb hby at_62) k) ?_
  show own_Go _ _ _ _ T18 (mkF m 63 #[.val (.int p_1), .val (.int p_2), .val (.int p_3), .val (.int p_4), .val (.int (p_1.toInt8.toInt32)), .val (.int v3), .val (.int v4), .val (.int v5), .val (.ref b6), .val (.int v21), .unset, .unset, .unset, .unset, .unset, .unset] [(.int (4 : Int32)), (.int (p_3 &&& (2147483647 : Int32)))])
  have nz22 : (4 : Int32) ≠ 0 := by decide
  refine own_go (fun _ k => iremM X18 hx rfl (hb hby at_63) rfl nz22 k) ?_
  show own_Go _ _ _ _ T18 (mkF m 64 #[.val (.int p_1), .val (.int p_2), .val (.int p_3), .val (.int p_4), .val (.int (p_1.toInt8.toInt32)), .val (.int v3), .val (.int v4), .val (.int v5), .val (.ref b6), .val (.int v21), .unset, .unset, .unset, .unset, .unset, .unset] [(.int ((p_3 &&& (2147483647 : Int32)) % (4 : Int32)))])
  refine own_go (fun _ k => XS.istore X18.here hx rfl (hb hby at_64) rfl (l' := #[.val (.int p_1), .val (.int p_2), .val (.int p_3), .val (.int p_4), .val (.int (p_1.toInt8.toInt32)), .val (.int v3), .val (.int v4), .val (.int v5), .val (.ref b6), .val (.int v21), .val (.int ((p_3 &&& (2147483647 : Int32)) % (4 : Int32))), .unset, .unset, .unset, .unset, .unset]) rfl k) ?_
  show own_Go _ _ _ _ T18 (mkF m 66 #[.val (.int p_1), .val (.int p_2), .val (.int p_3), .val (.int p_4), .val (.int (p_1.toInt8.toInt32)), .val (.int v3), .val (.int v4), .val (.int v5), .val (.ref b6), .val (.int v21), .val (.int ((p_3 &&& (2147483647 : Int32)) % (4 : Int32))), .unset, .unset, .unset, .unset, .unset] [])
  generalize hdv23 : ((p_3 &&& (2147483647 : Int32)) % (4 : Int32)) = v23
  show own_Go _ _ _ _ T18 (mkF m 66 #[.val (.int p_1), .val (.int p_2), .val (.int p_3), .val (.int p_4), .val (.int (p_1.toInt8.toInt32)), .val (.int v3), .val (.int v4), .val (.int v5), .val (.ref b6), .val (.int v21), .val (.int v23), .unset, .unset, .unset, .unset, .unset] [])
  refine own_go (fun _ k => XS.iloadN X18.here hx rfl (hb hby at_66) rfl k) ?_
  show own_Go _ _ _ _ T18 (mkF m 67 #[.val (.int p_1), .val (.int p_2), .val (.int p_3), .val (.int p_4), .val (.int (p_1.toInt8.toInt32)), .val (.int v3), .val (.int v4), .val (.int v5), .val (.ref b6), .val (.int v21), .val (.int v23), .unset, .unset, .unset, .unset, .unset] [(.int p_4)])
  refine own_go (fun _ k => XS.i2b X18.here hx rfl (hb hby at_67) rfl k) ?_
  show own_Go _ _ _ _ T18 (mkF m 68 #[.val (.int p_1), .val (.int p_2), .val (.int p_3), .val (.int p_4), .val (.int (p_1.toInt8.toInt32)), .val (.int v3), .val (.int v4), .val (.int v5), .val (.ref b6), .val (.int v21), .val (.int v23), .unset, .unset, .unset, .unset, .unset] [(.int (p_4.toInt8.toInt32))])
  refine own_go (fun _ k => XS.istore X18.here hx rfl (hb hby at_68) rfl (l' := #[.val (.int p_1), .val (.int p_2), .val (.int p_3), .val (.int p_4), .val (.int (p_1.toInt8.toInt32)), .val (.int v3), .val (.int v4), .val (.int v5), .val (.ref b6), .val (.int v21), .val (.int v23), .val (.int (p_4.toInt8.toInt32)), .unset, .unset, .unset, .unset]) rfl k) ?_
  show own_Go _ _ _ _ T18 (mkF m 70 #[.val (.int p_1), .val (.int p_2), .val (.int p_3), .val (.int p_4), .val (.int (p_1.toInt8.toInt32)), .val (.int v3), .val (.int v4), .val (.int v5), .val (.ref b6), .val (.int v21), .val (.int v23), .val (.int (p_4.toInt8.toInt32)), .unset, .unset, .unset, .unset] [])
  have hl : v21 = (0 : Int32) ∨ v21 = (1 : Int32) ∨ v21 = (2 : Int32) ∨ v21 = (3 : Int32) ∨ v21 = (4 : Int32) := own_t0_0 p_2 v21 hdv21
  have hp : v23 = (0 : Int32) ∨ v23 = (1 : Int32) ∨ v23 = (2 : Int32) ∨ v23 = (3 : Int32) := own_t0_1 p_3 v23 hdv23
  refine own_go (fun _ k => XS.bipush X18.here hx rfl (hb hby at_70) k) ?_
  show own_Go _ _ _ _ T18 (mkF m 72 #[.val (.int p_1), .val (.int p_2), .val (.int p_3), .val (.int p_4), .val (.int (p_1.toInt8.toInt32)), .val (.int v3), .val (.int v4), .val (.int v5), .val (.ref b6), .val (.int v21), .val (.int v23), .val (.int (p_4.toInt8.toInt32)), .unset, .unset, .unset, .unset] [(.int (16 : Int32))])
  obtain ⟨T24, h24, k24, X24, e24, E24, A24, st24⟩ := newP X18 hx hZ (hw _ (List.mem_of_getElem? (i := 0) rfl)) e18 (g := (mkF m 72 #[.val (.int p_1), .val (.int p_2), .val (.int p_3), .val (.int p_4), .val (.int (p_1.toInt8.toInt32)), .val (.int v3), .val (.int v4), .val (.int v5), .val (.ref b6), .val (.int v21), .val (.int v23), .val (.int (p_4.toInt8.toInt32)), .unset, .unset, .unset, .unset] [(.int (16 : Int32))])) rfl (hb hby at_72) rfl (by decide) (cap := 16) (by decide) (by decide) (by decide) (by decide)
  obtain ⟨b24, g24⟩ : ∃ z, z = h18.size := ⟨_, rfl⟩
  rw [← g24] at A24 st24
  have z25 := E24.1
  have lt_b24 := own_lt A24.lt
  have K24 : Keep h0 h24 [] := K18.ext E24
  have V_b24 : own_AV Z h24 b24 .byte (16 : Int32) (fun _ => (.int (0 : Int32))) := own_AV.new A24 (by decide)
  refine own_go (fun _ k => st24 _ k) ?_
  show own_Go _ _ _ _ T24 (mkF m 74 #[.val (.int p_1), .val (.int p_2), .val (.int p_3), .val (.int p_4), .val (.int (p_1.toInt8.toInt32)), .val (.int v3), .val (.int v4), .val (.int v5), .val (.ref b6), .val (.int v21), .val (.int v23), .val (.int (p_4.toInt8.toInt32)), .unset, .unset, .unset, .unset] [(.ref b24)])
  refine own_go (fun _ k => XS.dup X24.here hx rfl (hb hby at_74) rfl rfl k) ?_
  show own_Go _ _ _ _ T24 (mkF m 75 #[.val (.int p_1), .val (.int p_2), .val (.int p_3), .val (.int p_4), .val (.int (p_1.toInt8.toInt32)), .val (.int v3), .val (.int v4), .val (.int v5), .val (.ref b6), .val (.int v21), .val (.int v23), .val (.int (p_4.toInt8.toInt32)), .unset, .unset, .unset, .unset] [(.ref b24), (.ref b24)])
  refine own_go (fun _ k => XS.iconst X24.here hx rfl (hb hby at_75) k) ?_
  show own_Go _ _ _ _ T24 (mkF m 76 #[.val (.int p_1), .val (.int p_2), .val (.int p_3), .val (.int p_4), .val (.int (p_1.toInt8.toInt32)), .val (.int v3), .val (.int v4), .val (.int v5), .val (.ref b6), .val (.int v21), .val (.int v23), .val (.int (p_4.toInt8.toInt32)), .unset, .unset, .unset, .unset] [(.int (0 : Int32)), (.ref b24), (.ref b24)])
  refine own_go (fun _ k => XS.iload X24.here hx rfl (hb hby at_76) rfl k) ?_
  show own_Go _ _ _ _ T24 (mkF m 78 #[.val (.int p_1), .val (.int p_2), .val (.int p_3), .val (.int p_4), .val (.int (p_1.toInt8.toInt32)), .val (.int v3), .val (.int v4), .val (.int v5), .val (.ref b6), .val (.int v21), .val (.int v23), .val (.int (p_4.toInt8.toInt32)), .unset, .unset, .unset, .unset] [(.int (p_4.toInt8.toInt32)), (.int (0 : Int32)), (.ref b24), (.ref b24)])
  obtain ⟨q26, c26, R26, s26, t26⟩ := id V_b24
  have hin26 : ¬ ((0 : Int32) < 0 ∨ c26.slots.size ≤ ((0 : Int32)).toNatClampNeg) := inb_of s26 ⟨by decide, by decide⟩
  obtain ⟨T27, h27, X27, e27, W27, st27⟩ := stB X24 hx hZ e24 R26 (j := (0 : Int32)) hin26 (g := (mkF m 78 #[.val (.int p_1), .val (.int p_2), .val (.int p_3), .val (.int p_4), .val (.int (p_1.toInt8.toInt32)), .val (.int v3), .val (.int v4), .val (.int v5), .val (.ref b6), .val (.int v21), .val (.int v23), .val (.int (p_4.toInt8.toInt32)), .unset, .unset, .unset, .unset] [(.int (p_4.toInt8.toInt32)), (.int (0 : Int32)), (.ref b24), (.ref b24)])) rfl rfl (hb hby at_78)
  rw [(own_nar_b _)] at W27
  have V27 : own_AV Z h27 b24 .byte (16 : Int32) (own_upd (fun _ => (.int (0 : Int32))) 0 (.int (p_4.toInt8.toInt32))) := own_AV.set (k := 0) V_b24 W27 (by decide)
  have z28 := W27.size
  have K27 : Keep h0 h27 [] := K24.wr W27 (Or.inr (by omega))
  have N27 := Fr.snoc X27 N18 (by omega : n0 ≤ b24)
  refine own_go (fun _ k => st27 _ k) ?_
  show own_Go _ _ _ _ T27 (mkF m 79 #[.val (.int p_1), .val (.int p_2), .val (.int p_3), .val (.int p_4), .val (.int (p_1.toInt8.toInt32)), .val (.int v3), .val (.int v4), .val (.int v5), .val (.ref b6), .val (.int v21), .val (.int v23), .val (.int (p_4.toInt8.toInt32)), .unset, .unset, .unset, .unset] [(.ref b24)])
  refine own_go (fun _ k => XS.dup X27.here hx rfl (hb hby at_79) rfl rfl k) ?_
  show own_Go _ _ _ _ T27 (mkF m 80 #[.val (.int p_1), .val (.int p_2), .val (.int p_3), .val (.int p_4), .val (.int (p_1.toInt8.toInt32)), .val (.int v3), .val (.int v4), .val (.int v5), .val (.ref b6), .val (.int v21), .val (.int v23), .val (.int (p_4.toInt8.toInt32)), .unset, .unset, .unset, .unset] [(.ref b24), (.ref b24)])
  refine own_go (fun _ k => XS.iconst X27.here hx rfl (hb hby at_80) k) ?_
  show own_Go _ _ _ _ T27 (mkF m 81 #[.val (.int p_1), .val (.int p_2), .val (.int p_3), .val (.int p_4), .val (.int (p_1.toInt8.toInt32)), .val (.int v3), .val (.int v4), .val (.int v5), .val (.ref b6), .val (.int v21), .val (.int v23), .val (.int (p_4.toInt8.toInt32)), .unset, .unset, .unset, .unset] [(.int (1 : Int32)), (.ref b24), (.ref b24)])
  refine own_go (fun _ k => XS.iload X27.here hx rfl (hb hby at_81) rfl k) ?_
  show own_Go _ _ _ _ T27 (mkF m 83 #[.val (.int p_1), .val (.int p_2), .val (.int p_3), .val (.int p_4), .val (.int (p_1.toInt8.toInt32)), .val (.int v3), .val (.int v4), .val (.int v5), .val (.ref b6), .val (.int v21), .val (.int v23), .val (.int (p_4.toInt8.toInt32)), .unset, .unset, .unset, .unset] [(.int (p_4.toInt8.toInt32)), (.int (1 : Int32)), (.ref b24), (.ref b24)])
  obtain ⟨q29, c29, R29, s29, t29⟩ := id V27
  have hin29 : ¬ ((1 : Int32) < 0 ∨ c29.slots.size ≤ ((1 : Int32)).toNatClampNeg) := inb_of s29 ⟨by decide, by decide⟩
  obtain ⟨T30, h30, X30, e30, W30, st30⟩ := stB X27 hx hZ e27 R29 (j := (1 : Int32)) hin29 (g := (mkF m 83 #[.val (.int p_1), .val (.int p_2), .val (.int p_3), .val (.int p_4), .val (.int (p_1.toInt8.toInt32)), .val (.int v3), .val (.int v4), .val (.int v5), .val (.ref b6), .val (.int v21), .val (.int v23), .val (.int (p_4.toInt8.toInt32)), .unset, .unset, .unset, .unset] [(.int (p_4.toInt8.toInt32)), (.int (1 : Int32)), (.ref b24), (.ref b24)])) rfl rfl (hb hby at_83)
  rw [(own_nar_b _)] at W30
  have V30 : own_AV Z h30 b24 .byte (16 : Int32) (own_upd (own_upd (fun _ => (.int (0 : Int32))) 0 (.int (p_4.toInt8.toInt32))) 1 (.int (p_4.toInt8.toInt32))) := own_AV.set (k := 1) V27 W30 (by decide)
  have z31 := W30.size
  have K30 : Keep h0 h30 [] := K27.wr W30 (Or.inr (by omega))
  have N30 := Fr.snoc X30 N27 (by omega : n0 ≤ b24)
  refine own_go (fun _ k => st30 _ k) ?_
  show own_Go _ _ _ _ T30 (mkF m 84 #[.val (.int p_1), .val (.int p_2), .val (.int p_3), .val (.int p_4), .val (.int (p_1.toInt8.toInt32)), .val (.int v3), .val (.int v4), .val (.int v5), .val (.ref b6), .val (.int v21), .val (.int v23), .val (.int (p_4.toInt8.toInt32)), .unset, .unset, .unset, .unset] [(.ref b24)])
  refine own_go (fun _ k => XS.dup X30.here hx rfl (hb hby at_84) rfl rfl k) ?_
  show own_Go _ _ _ _ T30 (mkF m 85 #[.val (.int p_1), .val (.int p_2), .val (.int p_3), .val (.int p_4), .val (.int (p_1.toInt8.toInt32)), .val (.int v3), .val (.int v4), .val (.int v5), .val (.ref b6), .val (.int v21), .val (.int v23), .val (.int (p_4.toInt8.toInt32)), .unset, .unset, .unset, .unset] [(.ref b24), (.ref b24)])
  refine own_go (fun _ k => XS.iconst X30.here hx rfl (hb hby at_85) k) ?_
  show own_Go _ _ _ _ T30 (mkF m 86 #[.val (.int p_1), .val (.int p_2), .val (.int p_3), .val (.int p_4), .val (.int (p_1.toInt8.toInt32)), .val (.int v3), .val (.int v4), .val (.int v5), .val (.ref b6), .val (.int v21), .val (.int v23), .val (.int (p_4.toInt8.toInt32)), .unset, .unset, .unset, .unset] [(.int (2 : Int32)), (.ref b24), (.ref b24)])
  refine own_go (fun _ k => XS.iload X30.here hx rfl (hb hby at_86) rfl k) ?_
  show own_Go _ _ _ _ T30 (mkF m 88 #[.val (.int p_1), .val (.int p_2), .val (.int p_3), .val (.int p_4), .val (.int (p_1.toInt8.toInt32)), .val (.int v3), .val (.int v4), .val (.int v5), .val (.ref b6), .val (.int v21), .val (.int v23), .val (.int (p_4.toInt8.toInt32)), .unset, .unset, .unset, .unset] [(.int (p_4.toInt8.toInt32)), (.int (2 : Int32)), (.ref b24), (.ref b24)])
  obtain ⟨q32, c32, R32, s32, t32⟩ := id V30
  have hin32 : ¬ ((2 : Int32) < 0 ∨ c32.slots.size ≤ ((2 : Int32)).toNatClampNeg) := inb_of s32 ⟨by decide, by decide⟩
  obtain ⟨T33, h33, X33, e33, W33, st33⟩ := stB X30 hx hZ e30 R32 (j := (2 : Int32)) hin32 (g := (mkF m 88 #[.val (.int p_1), .val (.int p_2), .val (.int p_3), .val (.int p_4), .val (.int (p_1.toInt8.toInt32)), .val (.int v3), .val (.int v4), .val (.int v5), .val (.ref b6), .val (.int v21), .val (.int v23), .val (.int (p_4.toInt8.toInt32)), .unset, .unset, .unset, .unset] [(.int (p_4.toInt8.toInt32)), (.int (2 : Int32)), (.ref b24), (.ref b24)])) rfl rfl (hb hby at_88)
  rw [(own_nar_b _)] at W33
  have V33 : own_AV Z h33 b24 .byte (16 : Int32) (own_upd (own_upd (own_upd (fun _ => (.int (0 : Int32))) 0 (.int (p_4.toInt8.toInt32))) 1 (.int (p_4.toInt8.toInt32))) 2 (.int (p_4.toInt8.toInt32))) := own_AV.set (k := 2) V30 W33 (by decide)
  have z34 := W33.size
  have K33 : Keep h0 h33 [] := K30.wr W33 (Or.inr (by omega))
  have N33 := Fr.snoc X33 N30 (by omega : n0 ≤ b24)
  refine own_go (fun _ k => st33 _ k) ?_
  show own_Go _ _ _ _ T33 (mkF m 89 #[.val (.int p_1), .val (.int p_2), .val (.int p_3), .val (.int p_4), .val (.int (p_1.toInt8.toInt32)), .val (.int v3), .val (.int v4), .val (.int v5), .val (.ref b6), .val (.int v21), .val (.int v23), .val (.int (p_4.toInt8.toInt32)), .unset, .unset, .unset, .unset] [(.ref b24)])
  refine own_go (fun _ k => XS.dup X33.here hx rfl (hb hby at_89) rfl rfl k) ?_
  show own_Go _ _ _ _ T33 (mkF m 90 #[.val (.int p_1), .val (.int p_2), .val (.int p_3), .val (.int p_4), .val (.int (p_1.toInt8.toInt32)), .val (.int v3), .val (.int v4), .val (.int v5), .val (.ref b6), .val (.int v21), .val (.int v23), .val (.int (p_4.toInt8.toInt32)), .unset, .unset, .unset, .unset] [(.ref b24), (.ref b24)])
  refine own_go (fun _ k => XS.iconst X33.here hx rfl (hb hby at_90) k) ?_
  show own_Go _ _ _ _ T33 (mkF m 91 #[.val (.int p_1), .val (.int p_2), .val (.int p_3), .val (.int p_4), .val (.int (p_1.toInt8.toInt32)), .val (.int v3), .val (.int v4), .val (.int v5), .val (.ref b6), .val (.int v21), .val (.int v23), .val (.int (p_4.toInt8.toInt32)), .unset, .unset, .unset, .unset] [(.int (3 : Int32)), (.ref b24), (.ref b24)])
  refine own_go (fun _ k => XS.iload X33.here hx rfl (hb hby at_91) rfl k) ?_
  show own_Go _ _ _ _ T33 (mkF m 93 #[.val (.int p_1), .val (.int p_2), .val (.int p_3), .val (.int p_4), .val (.int (p_1.toInt8.toInt32)), .val (.int v3), .val (.int v4), .val (.int v5), .val (.ref b6), .val (.int v21), .val (.int v23), .val (.int (p_4.toInt8.toInt32)), .unset, .unset, .unset, .unset] [(.int (p_4.toInt8.toInt32)), (.int (3 : Int32)), (.ref b24), (.ref b24)])
  obtain ⟨q35, c35, R35, s35, t35⟩ := id V33
  have hin35 : ¬ ((3 : Int32) < 0 ∨ c35.slots.size ≤ ((3 : Int32)).toNatClampNeg) := inb_of s35 ⟨by decide, by decide⟩
  obtain ⟨T36, h36, X36, e36, W36, st36⟩ := stB X33 hx hZ e33 R35 (j := (3 : Int32)) hin35 (g := (mkF m 93 #[.val (.int p_1), .val (.int p_2), .val (.int p_3), .val (.int p_4), .val (.int (p_1.toInt8.toInt32)), .val (.int v3), .val (.int v4), .val (.int v5), .val (.ref b6), .val (.int v21), .val (.int v23), .val (.int (p_4.toInt8.toInt32)), .unset, .unset, .unset, .unset] [(.int (p_4.toInt8.toInt32)), (.int (3 : Int32)), (.ref b24), (.ref b24)])) rfl rfl (hb hby at_93)
  rw [(own_nar_b _)] at W36
  have V36 : own_AV Z h36 b24 .byte (16 : Int32) (own_upd (own_upd (own_upd (own_upd (fun _ => (.int (0 : Int32))) 0 (.int (p_4.toInt8.toInt32))) 1 (.int (p_4.toInt8.toInt32))) 2 (.int (p_4.toInt8.toInt32))) 3 (.int (p_4.toInt8.toInt32))) := own_AV.set (k := 3) V33 W36 (by decide)
  have z37 := W36.size
  have K36 : Keep h0 h36 [] := K33.wr W36 (Or.inr (by omega))
  have N36 := Fr.snoc X36 N33 (by omega : n0 ≤ b24)
  refine own_go (fun _ k => st36 _ k) ?_
  show own_Go _ _ _ _ T36 (mkF m 94 #[.val (.int p_1), .val (.int p_2), .val (.int p_3), .val (.int p_4), .val (.int (p_1.toInt8.toInt32)), .val (.int v3), .val (.int v4), .val (.int v5), .val (.ref b6), .val (.int v21), .val (.int v23), .val (.int (p_4.toInt8.toInt32)), .unset, .unset, .unset, .unset] [(.ref b24)])
  refine own_go (fun _ k => XS.dup X36.here hx rfl (hb hby at_94) rfl rfl k) ?_
  show own_Go _ _ _ _ T36 (mkF m 95 #[.val (.int p_1), .val (.int p_2), .val (.int p_3), .val (.int p_4), .val (.int (p_1.toInt8.toInt32)), .val (.int v3), .val (.int v4), .val (.int v5), .val (.ref b6), .val (.int v21), .val (.int v23), .val (.int (p_4.toInt8.toInt32)), .unset, .unset, .unset, .unset] [(.ref b24), (.ref b24)])
  refine own_go (fun _ k => XS.iconst X36.here hx rfl (hb hby at_95) k) ?_
  show own_Go _ _ _ _ T36 (mkF m 96 #[.val (.int p_1), .val (.int p_2), .val (.int p_3), .val (.int p_4), .val (.int (p_1.toInt8.toInt32)), .val (.int v3), .val (.int v4), .val (.int v5), .val (.ref b6), .val (.int v21), .val (.int v23), .val (.int (p_4.toInt8.toInt32)), .unset, .unset, .unset, .unset] [(.int (4 : Int32)), (.ref b24), (.ref b24)])
  refine own_go (fun _ k => XS.iload X36.here hx rfl (hb hby at_96) rfl k) ?_
  show own_Go _ _ _ _ T36 (mkF m 98 #[.val (.int p_1), .val (.int p_2), .val (.int p_3), .val (.int p_4), .val (.int (p_1.toInt8.toInt32)), .val (.int v3), .val (.int v4), .val (.int v5), .val (.ref b6), .val (.int v21), .val (.int v23), .val (.int (p_4.toInt8.toInt32)), .unset, .unset, .unset, .unset] [(.int (p_4.toInt8.toInt32)), (.int (4 : Int32)), (.ref b24), (.ref b24)])
  obtain ⟨q38, c38, R38, s38, t38⟩ := id V36
  have hin38 : ¬ ((4 : Int32) < 0 ∨ c38.slots.size ≤ ((4 : Int32)).toNatClampNeg) := inb_of s38 ⟨by decide, by decide⟩
  obtain ⟨T39, h39, X39, e39, W39, st39⟩ := stB X36 hx hZ e36 R38 (j := (4 : Int32)) hin38 (g := (mkF m 98 #[.val (.int p_1), .val (.int p_2), .val (.int p_3), .val (.int p_4), .val (.int (p_1.toInt8.toInt32)), .val (.int v3), .val (.int v4), .val (.int v5), .val (.ref b6), .val (.int v21), .val (.int v23), .val (.int (p_4.toInt8.toInt32)), .unset, .unset, .unset, .unset] [(.int (p_4.toInt8.toInt32)), (.int (4 : Int32)), (.ref b24), (.ref b24)])) rfl rfl (hb hby at_98)
  rw [(own_nar_b _)] at W39
  have V39 : own_AV Z h39 b24 .byte (16 : Int32) (own_upd (own_upd (own_upd (own_upd (own_upd (fun _ => (.int (0 : Int32))) 0 (.int (p_4.toInt8.toInt32))) 1 (.int (p_4.toInt8.toInt32))) 2 (.int (p_4.toInt8.toInt32))) 3 (.int (p_4.toInt8.toInt32))) 4 (.int (p_4.toInt8.toInt32))) := own_AV.set (k := 4) V36 W39 (by decide)
  have z40 := W39.size
  have K39 : Keep h0 h39 [] := K36.wr W39 (Or.inr (by omega))
  have N39 := Fr.snoc X39 N36 (by omega : n0 ≤ b24)
  refine own_go (fun _ k => st39 _ k) ?_
  show own_Go _ _ _ _ T39 (mkF m 99 #[.val (.int p_1), .val (.int p_2), .val (.int p_3), .val (.int p_4), .val (.int (p_1.toInt8.toInt32)), .val (.int v3), .val (.int v4), .val (.int v5), .val (.ref b6), .val (.int v21), .val (.int v23), .val (.int (p_4.toInt8.toInt32)), .unset, .unset, .unset, .unset] [(.ref b24)])
  refine own_go (fun _ k => XS.dup X39.here hx rfl (hb hby at_99) rfl rfl k) ?_
  show own_Go _ _ _ _ T39 (mkF m 100 #[.val (.int p_1), .val (.int p_2), .val (.int p_3), .val (.int p_4), .val (.int (p_1.toInt8.toInt32)), .val (.int v3), .val (.int v4), .val (.int v5), .val (.ref b6), .val (.int v21), .val (.int v23), .val (.int (p_4.toInt8.toInt32)), .unset, .unset, .unset, .unset] [(.ref b24), (.ref b24)])
  refine own_go (fun _ k => XS.iconst X39.here hx rfl (hb hby at_100) k) ?_
  show own_Go _ _ _ _ T39 (mkF m 101 #[.val (.int p_1), .val (.int p_2), .val (.int p_3), .val (.int p_4), .val (.int (p_1.toInt8.toInt32)), .val (.int v3), .val (.int v4), .val (.int v5), .val (.ref b6), .val (.int v21), .val (.int v23), .val (.int (p_4.toInt8.toInt32)), .unset, .unset, .unset, .unset] [(.int (5 : Int32)), (.ref b24), (.ref b24)])
  refine own_go (fun _ k => XS.iload X39.here hx rfl (hb hby at_101) rfl k) ?_
  show own_Go _ _ _ _ T39 (mkF m 103 #[.val (.int p_1), .val (.int p_2), .val (.int p_3), .val (.int p_4), .val (.int (p_1.toInt8.toInt32)), .val (.int v3), .val (.int v4), .val (.int v5), .val (.ref b6), .val (.int v21), .val (.int v23), .val (.int (p_4.toInt8.toInt32)), .unset, .unset, .unset, .unset] [(.int (p_4.toInt8.toInt32)), (.int (5 : Int32)), (.ref b24), (.ref b24)])
  obtain ⟨q41, c41, R41, s41, t41⟩ := id V39
  have hin41 : ¬ ((5 : Int32) < 0 ∨ c41.slots.size ≤ ((5 : Int32)).toNatClampNeg) := inb_of s41 ⟨by decide, by decide⟩
  obtain ⟨T42, h42, X42, e42, W42, st42⟩ := stB X39 hx hZ e39 R41 (j := (5 : Int32)) hin41 (g := (mkF m 103 #[.val (.int p_1), .val (.int p_2), .val (.int p_3), .val (.int p_4), .val (.int (p_1.toInt8.toInt32)), .val (.int v3), .val (.int v4), .val (.int v5), .val (.ref b6), .val (.int v21), .val (.int v23), .val (.int (p_4.toInt8.toInt32)), .unset, .unset, .unset, .unset] [(.int (p_4.toInt8.toInt32)), (.int (5 : Int32)), (.ref b24), (.ref b24)])) rfl rfl (hb hby at_103)
  rw [(own_nar_b _)] at W42
  have V42 : own_AV Z h42 b24 .byte (16 : Int32) (own_upd (own_upd (own_upd (own_upd (own_upd (own_upd (fun _ => (.int (0 : Int32))) 0 (.int (p_4.toInt8.toInt32))) 1 (.int (p_4.toInt8.toInt32))) 2 (.int (p_4.toInt8.toInt32))) 3 (.int (p_4.toInt8.toInt32))) 4 (.int (p_4.toInt8.toInt32))) 5 (.int (p_4.toInt8.toInt32))) := own_AV.set (k := 5) V39 W42 (by decide)
  have z43 := W42.size
  have K42 : Keep h0 h42 [] := K39.wr W42 (Or.inr (by omega))
  have N42 := Fr.snoc X42 N39 (by omega : n0 ≤ b24)
  refine own_go (fun _ k => st42 _ k) ?_
  show own_Go _ _ _ _ T42 (mkF m 104 #[.val (.int p_1), .val (.int p_2), .val (.int p_3), .val (.int p_4), .val (.int (p_1.toInt8.toInt32)), .val (.int v3), .val (.int v4), .val (.int v5), .val (.ref b6), .val (.int v21), .val (.int v23), .val (.int (p_4.toInt8.toInt32)), .unset, .unset, .unset, .unset] [(.ref b24)])
  refine own_go (fun _ k => XS.dup X42.here hx rfl (hb hby at_104) rfl rfl k) ?_
  show own_Go _ _ _ _ T42 (mkF m 105 #[.val (.int p_1), .val (.int p_2), .val (.int p_3), .val (.int p_4), .val (.int (p_1.toInt8.toInt32)), .val (.int v3), .val (.int v4), .val (.int v5), .val (.ref b6), .val (.int v21), .val (.int v23), .val (.int (p_4.toInt8.toInt32)), .unset, .unset, .unset, .unset] [(.ref b24), (.ref b24)])
  refine own_go (fun _ k => XS.bipush X42.here hx rfl (hb hby at_105) k) ?_
  show own_Go _ _ _ _ T42 (mkF m 107 #[.val (.int p_1), .val (.int p_2), .val (.int p_3), .val (.int p_4), .val (.int (p_1.toInt8.toInt32)), .val (.int v3), .val (.int v4), .val (.int v5), .val (.ref b6), .val (.int v21), .val (.int v23), .val (.int (p_4.toInt8.toInt32)), .unset, .unset, .unset, .unset] [(.int (6 : Int32)), (.ref b24), (.ref b24)])
  refine own_go (fun _ k => XS.iload X42.here hx rfl (hb hby at_107) rfl k) ?_
  show own_Go _ _ _ _ T42 (mkF m 109 #[.val (.int p_1), .val (.int p_2), .val (.int p_3), .val (.int p_4), .val (.int (p_1.toInt8.toInt32)), .val (.int v3), .val (.int v4), .val (.int v5), .val (.ref b6), .val (.int v21), .val (.int v23), .val (.int (p_4.toInt8.toInt32)), .unset, .unset, .unset, .unset] [(.int (p_4.toInt8.toInt32)), (.int (6 : Int32)), (.ref b24), (.ref b24)])
  obtain ⟨q44, c44, R44, s44, t44⟩ := id V42
  have hin44 : ¬ ((6 : Int32) < 0 ∨ c44.slots.size ≤ ((6 : Int32)).toNatClampNeg) := inb_of s44 ⟨by decide, by decide⟩
  obtain ⟨T45, h45, X45, e45, W45, st45⟩ := stB X42 hx hZ e42 R44 (j := (6 : Int32)) hin44 (g := (mkF m 109 #[.val (.int p_1), .val (.int p_2), .val (.int p_3), .val (.int p_4), .val (.int (p_1.toInt8.toInt32)), .val (.int v3), .val (.int v4), .val (.int v5), .val (.ref b6), .val (.int v21), .val (.int v23), .val (.int (p_4.toInt8.toInt32)), .unset, .unset, .unset, .unset] [(.int (p_4.toInt8.toInt32)), (.int (6 : Int32)), (.ref b24), (.ref b24)])) rfl rfl (hb hby at_109)
  rw [(own_nar_b _)] at W45
  have V45 : own_AV Z h45 b24 .byte (16 : Int32) (own_upd (own_upd (own_upd (own_upd (own_upd (own_upd (own_upd (fun _ => (.int (0 : Int32))) 0 (.int (p_4.toInt8.toInt32))) 1 (.int (p_4.toInt8.toInt32))) 2 (.int (p_4.toInt8.toInt32))) 3 (.int (p_4.toInt8.toInt32))) 4 (.int (p_4.toInt8.toInt32))) 5 (.int (p_4.toInt8.toInt32))) 6 (.int (p_4.toInt8.toInt32))) := own_AV.set (k := 6) V42 W45 (by decide)
  have z46 := W45.size
  have K45 : Keep h0 h45 [] := K42.wr W45 (Or.inr (by omega))
  have N45 := Fr.snoc X45 N42 (by omega : n0 ≤ b24)
  refine own_go (fun _ k => st45 _ k) ?_
  show own_Go _ _ _ _ T45 (mkF m 110 #[.val (.int p_1), .val (.int p_2), .val (.int p_3), .val (.int p_4), .val (.int (p_1.toInt8.toInt32)), .val (.int v3), .val (.int v4), .val (.int v5), .val (.ref b6), .val (.int v21), .val (.int v23), .val (.int (p_4.toInt8.toInt32)), .unset, .unset, .unset, .unset] [(.ref b24)])
  refine own_go (fun _ k => XS.dup X45.here hx rfl (hb hby at_110) rfl rfl k) ?_
  show own_Go _ _ _ _ T45 (mkF m 111 #[.val (.int p_1), .val (.int p_2), .val (.int p_3), .val (.int p_4), .val (.int (p_1.toInt8.toInt32)), .val (.int v3), .val (.int v4), .val (.int v5), .val (.ref b6), .val (.int v21), .val (.int v23), .val (.int (p_4.toInt8.toInt32)), .unset, .unset, .unset, .unset] [(.ref b24), (.ref b24)])
  refine own_go (fun _ k => XS.bipush X45.here hx rfl (hb hby at_111) k) ?_
  show own_Go _ _ _ _ T45 (mkF m 113 #[.val (.int p_1), .val (.int p_2), .val (.int p_3), .val (.int p_4), .val (.int (p_1.toInt8.toInt32)), .val (.int v3), .val (.int v4), .val (.int v5), .val (.ref b6), .val (.int v21), .val (.int v23), .val (.int (p_4.toInt8.toInt32)), .unset, .unset, .unset, .unset] [(.int (7 : Int32)), (.ref b24), (.ref b24)])
  refine own_go (fun _ k => XS.iload X45.here hx rfl (hb hby at_113) rfl k) ?_
  show own_Go _ _ _ _ T45 (mkF m 115 #[.val (.int p_1), .val (.int p_2), .val (.int p_3), .val (.int p_4), .val (.int (p_1.toInt8.toInt32)), .val (.int v3), .val (.int v4), .val (.int v5), .val (.ref b6), .val (.int v21), .val (.int v23), .val (.int (p_4.toInt8.toInt32)), .unset, .unset, .unset, .unset] [(.int (p_4.toInt8.toInt32)), (.int (7 : Int32)), (.ref b24), (.ref b24)])
  obtain ⟨q47, c47, R47, s47, t47⟩ := id V45
  have hin47 : ¬ ((7 : Int32) < 0 ∨ c47.slots.size ≤ ((7 : Int32)).toNatClampNeg) := inb_of s47 ⟨by decide, by decide⟩
  obtain ⟨T48, h48, X48, e48, W48, st48⟩ := stB X45 hx hZ e45 R47 (j := (7 : Int32)) hin47 (g := (mkF m 115 #[.val (.int p_1), .val (.int p_2), .val (.int p_3), .val (.int p_4), .val (.int (p_1.toInt8.toInt32)), .val (.int v3), .val (.int v4), .val (.int v5), .val (.ref b6), .val (.int v21), .val (.int v23), .val (.int (p_4.toInt8.toInt32)), .unset, .unset, .unset, .unset] [(.int (p_4.toInt8.toInt32)), (.int (7 : Int32)), (.ref b24), (.ref b24)])) rfl rfl (hb hby at_115)
  rw [(own_nar_b _)] at W48
  have V48 : own_AV Z h48 b24 .byte (16 : Int32) (own_upd (own_upd (own_upd (own_upd (own_upd (own_upd (own_upd (own_upd (fun _ => (.int (0 : Int32))) 0 (.int (p_4.toInt8.toInt32))) 1 (.int (p_4.toInt8.toInt32))) 2 (.int (p_4.toInt8.toInt32))) 3 (.int (p_4.toInt8.toInt32))) 4 (.int (p_4.toInt8.toInt32))) 5 (.int (p_4.toInt8.toInt32))) 6 (.int (p_4.toInt8.toInt32))) 7 (.int (p_4.toInt8.toInt32))) := own_AV.set (k := 7) V45 W48 (by decide)
  have z49 := W48.size
  have K48 : Keep h0 h48 [] := K45.wr W48 (Or.inr (by omega))
  have N48 := Fr.snoc X48 N45 (by omega : n0 ≤ b24)
  refine own_go (fun _ k => st48 _ k) ?_
  show own_Go _ _ _ _ T48 (mkF m 116 #[.val (.int p_1), .val (.int p_2), .val (.int p_3), .val (.int p_4), .val (.int (p_1.toInt8.toInt32)), .val (.int v3), .val (.int v4), .val (.int v5), .val (.ref b6), .val (.int v21), .val (.int v23), .val (.int (p_4.toInt8.toInt32)), .unset, .unset, .unset, .unset] [(.ref b24)])
  refine own_go (fun _ k => XS.dup X48.here hx rfl (hb hby at_116) rfl rfl k) ?_
  show own_Go _ _ _ _ T48 (mkF m 117 #[.val (.int p_1), .val (.int p_2), .val (.int p_3), .val (.int p_4), .val (.int (p_1.toInt8.toInt32)), .val (.int v3), .val (.int v4), .val (.int v5), .val (.ref b6), .val (.int v21), .val (.int v23), .val (.int (p_4.toInt8.toInt32)), .unset, .unset, .unset, .unset] [(.ref b24), (.ref b24)])
  refine own_go (fun _ k => XS.bipush X48.here hx rfl (hb hby at_117) k) ?_
  show own_Go _ _ _ _ T48 (mkF m 119 #[.val (.int p_1), .val (.int p_2), .val (.int p_3), .val (.int p_4), .val (.int (p_1.toInt8.toInt32)), .val (.int v3), .val (.int v4), .val (.int v5), .val (.ref b6), .val (.int v21), .val (.int v23), .val (.int (p_4.toInt8.toInt32)), .unset, .unset, .unset, .unset] [(.int (8 : Int32)), (.ref b24), (.ref b24)])
  refine own_go (fun _ k => XS.iload X48.here hx rfl (hb hby at_119) rfl k) ?_
  show own_Go _ _ _ _ T48 (mkF m 121 #[.val (.int p_1), .val (.int p_2), .val (.int p_3), .val (.int p_4), .val (.int (p_1.toInt8.toInt32)), .val (.int v3), .val (.int v4), .val (.int v5), .val (.ref b6), .val (.int v21), .val (.int v23), .val (.int (p_4.toInt8.toInt32)), .unset, .unset, .unset, .unset] [(.int (p_4.toInt8.toInt32)), (.int (8 : Int32)), (.ref b24), (.ref b24)])
  obtain ⟨q50, c50, R50, s50, t50⟩ := id V48
  have hin50 : ¬ ((8 : Int32) < 0 ∨ c50.slots.size ≤ ((8 : Int32)).toNatClampNeg) := inb_of s50 ⟨by decide, by decide⟩
  obtain ⟨T51, h51, X51, e51, W51, st51⟩ := stB X48 hx hZ e48 R50 (j := (8 : Int32)) hin50 (g := (mkF m 121 #[.val (.int p_1), .val (.int p_2), .val (.int p_3), .val (.int p_4), .val (.int (p_1.toInt8.toInt32)), .val (.int v3), .val (.int v4), .val (.int v5), .val (.ref b6), .val (.int v21), .val (.int v23), .val (.int (p_4.toInt8.toInt32)), .unset, .unset, .unset, .unset] [(.int (p_4.toInt8.toInt32)), (.int (8 : Int32)), (.ref b24), (.ref b24)])) rfl rfl (hb hby at_121)
  rw [(own_nar_b _)] at W51
  have V51 : own_AV Z h51 b24 .byte (16 : Int32) (own_upd (own_upd (own_upd (own_upd (own_upd (own_upd (own_upd (own_upd (own_upd (fun _ => (.int (0 : Int32))) 0 (.int (p_4.toInt8.toInt32))) 1 (.int (p_4.toInt8.toInt32))) 2 (.int (p_4.toInt8.toInt32))) 3 (.int (p_4.toInt8.toInt32))) 4 (.int (p_4.toInt8.toInt32))) 5 (.int (p_4.toInt8.toInt32))) 6 (.int (p_4.toInt8.toInt32))) 7 (.int (p_4.toInt8.toInt32))) 8 (.int (p_4.toInt8.toInt32))) := own_AV.set (k := 8) V48 W51 (by decide)
  have z52 := W51.size
  have K51 : Keep h0 h51 [] := K48.wr W51 (Or.inr (by omega))
  have N51 := Fr.snoc X51 N48 (by omega : n0 ≤ b24)
  refine own_go (fun _ k => st51 _ k) ?_
  show own_Go _ _ _ _ T51 (mkF m 122 #[.val (.int p_1), .val (.int p_2), .val (.int p_3), .val (.int p_4), .val (.int (p_1.toInt8.toInt32)), .val (.int v3), .val (.int v4), .val (.int v5), .val (.ref b6), .val (.int v21), .val (.int v23), .val (.int (p_4.toInt8.toInt32)), .unset, .unset, .unset, .unset] [(.ref b24)])
  refine own_go (fun _ k => XS.dup X51.here hx rfl (hb hby at_122) rfl rfl k) ?_
  show own_Go _ _ _ _ T51 (mkF m 123 #[.val (.int p_1), .val (.int p_2), .val (.int p_3), .val (.int p_4), .val (.int (p_1.toInt8.toInt32)), .val (.int v3), .val (.int v4), .val (.int v5), .val (.ref b6), .val (.int v21), .val (.int v23), .val (.int (p_4.toInt8.toInt32)), .unset, .unset, .unset, .unset] [(.ref b24), (.ref b24)])
  refine own_go (fun _ k => XS.bipush X51.here hx rfl (hb hby at_123) k) ?_
  show own_Go _ _ _ _ T51 (mkF m 125 #[.val (.int p_1), .val (.int p_2), .val (.int p_3), .val (.int p_4), .val (.int (p_1.toInt8.toInt32)), .val (.int v3), .val (.int v4), .val (.int v5), .val (.ref b6), .val (.int v21), .val (.int v23), .val (.int (p_4.toInt8.toInt32)), .unset, .unset, .unset, .unset] [(.int (9 : Int32)), (.ref b24), (.ref b24)])
  refine own_go (fun _ k => XS.iload X51.here hx rfl (hb hby at_125) rfl k) ?_
  show own_Go _ _ _ _ T51 (mkF m 127 #[.val (.int p_1), .val (.int p_2), .val (.int p_3), .val (.int p_4), .val (.int (p_1.toInt8.toInt32)), .val (.int v3), .val (.int v4), .val (.int v5), .val (.ref b6), .val (.int v21), .val (.int v23), .val (.int (p_4.toInt8.toInt32)), .unset, .unset, .unset, .unset] [(.int (p_4.toInt8.toInt32)), (.int (9 : Int32)), (.ref b24), (.ref b24)])
  obtain ⟨q53, c53, R53, s53, t53⟩ := id V51
  have hin53 : ¬ ((9 : Int32) < 0 ∨ c53.slots.size ≤ ((9 : Int32)).toNatClampNeg) := inb_of s53 ⟨by decide, by decide⟩
  obtain ⟨T54, h54, X54, e54, W54, st54⟩ := stB X51 hx hZ e51 R53 (j := (9 : Int32)) hin53 (g := (mkF m 127 #[.val (.int p_1), .val (.int p_2), .val (.int p_3), .val (.int p_4), .val (.int (p_1.toInt8.toInt32)), .val (.int v3), .val (.int v4), .val (.int v5), .val (.ref b6), .val (.int v21), .val (.int v23), .val (.int (p_4.toInt8.toInt32)), .unset, .unset, .unset, .unset] [(.int (p_4.toInt8.toInt32)), (.int (9 : Int32)), (.ref b24), (.ref b24)])) rfl rfl (hb hby at_127)
  rw [(own_nar_b _)] at W54
  have V54 : own_AV Z h54 b24 .byte (16 : Int32) (own_upd (own_upd (own_upd (own_upd (own_upd (own_upd (own_upd (own_upd (own_upd (own_upd (fun _ => (.int (0 : Int32))) 0 (.int (p_4.toInt8.toInt32))) 1 (.int (p_4.toInt8.toInt32))) 2 (.int (p_4.toInt8.toInt32))) 3 (.int (p_4.toInt8.toInt32))) 4 (.int (p_4.toInt8.toInt32))) 5 (.int (p_4.toInt8.toInt32))) 6 (.int (p_4.toInt8.toInt32))) 7 (.int (p_4.toInt8.toInt32))) 8 (.int (p_4.toInt8.toInt32))) 9 (.int (p_4.toInt8.toInt32))) := own_AV.set (k := 9) V51 W54 (by decide)
  have z55 := W54.size
  have K54 : Keep h0 h54 [] := K51.wr W54 (Or.inr (by omega))
  have N54 := Fr.snoc X54 N51 (by omega : n0 ≤ b24)
  refine own_go (fun _ k => st54 _ k) ?_
  show own_Go _ _ _ _ T54 (mkF m 128 #[.val (.int p_1), .val (.int p_2), .val (.int p_3), .val (.int p_4), .val (.int (p_1.toInt8.toInt32)), .val (.int v3), .val (.int v4), .val (.int v5), .val (.ref b6), .val (.int v21), .val (.int v23), .val (.int (p_4.toInt8.toInt32)), .unset, .unset, .unset, .unset] [(.ref b24)])
  refine own_go (fun _ k => XS.dup X54.here hx rfl (hb hby at_128) rfl rfl k) ?_
  show own_Go _ _ _ _ T54 (mkF m 129 #[.val (.int p_1), .val (.int p_2), .val (.int p_3), .val (.int p_4), .val (.int (p_1.toInt8.toInt32)), .val (.int v3), .val (.int v4), .val (.int v5), .val (.ref b6), .val (.int v21), .val (.int v23), .val (.int (p_4.toInt8.toInt32)), .unset, .unset, .unset, .unset] [(.ref b24), (.ref b24)])
  refine own_go (fun _ k => XS.bipush X54.here hx rfl (hb hby at_129) k) ?_
  show own_Go _ _ _ _ T54 (mkF m 131 #[.val (.int p_1), .val (.int p_2), .val (.int p_3), .val (.int p_4), .val (.int (p_1.toInt8.toInt32)), .val (.int v3), .val (.int v4), .val (.int v5), .val (.ref b6), .val (.int v21), .val (.int v23), .val (.int (p_4.toInt8.toInt32)), .unset, .unset, .unset, .unset] [(.int (10 : Int32)), (.ref b24), (.ref b24)])
  refine own_go (fun _ k => XS.iload X54.here hx rfl (hb hby at_131) rfl k) ?_
  show own_Go _ _ _ _ T54 (mkF m 133 #[.val (.int p_1), .val (.int p_2), .val (.int p_3), .val (.int p_4), .val (.int (p_1.toInt8.toInt32)), .val (.int v3), .val (.int v4), .val (.int v5), .val (.ref b6), .val (.int v21), .val (.int v23), .val (.int (p_4.toInt8.toInt32)), .unset, .unset, .unset, .unset] [(.int (p_4.toInt8.toInt32)), (.int (10 : Int32)), (.ref b24), (.ref b24)])
  obtain ⟨q56, c56, R56, s56, t56⟩ := id V54
  have hin56 : ¬ ((10 : Int32) < 0 ∨ c56.slots.size ≤ ((10 : Int32)).toNatClampNeg) := inb_of s56 ⟨by decide, by decide⟩
  obtain ⟨T57, h57, X57, e57, W57, st57⟩ := stB X54 hx hZ e54 R56 (j := (10 : Int32)) hin56 (g := (mkF m 133 #[.val (.int p_1), .val (.int p_2), .val (.int p_3), .val (.int p_4), .val (.int (p_1.toInt8.toInt32)), .val (.int v3), .val (.int v4), .val (.int v5), .val (.ref b6), .val (.int v21), .val (.int v23), .val (.int (p_4.toInt8.toInt32)), .unset, .unset, .unset, .unset] [(.int (p_4.toInt8.toInt32)), (.int (10 : Int32)), (.ref b24), (.ref b24)])) rfl rfl (hb hby at_133)
  rw [(own_nar_b _)] at W57
  have V57 : own_AV Z h57 b24 .byte (16 : Int32) (own_upd (own_upd (own_upd (own_upd (own_upd (own_upd (own_upd (own_upd (own_upd (own_upd (own_upd (fun _ => (.int (0 : Int32))) 0 (.int (p_4.toInt8.toInt32))) 1 (.int (p_4.toInt8.toInt32))) 2 (.int (p_4.toInt8.toInt32))) 3 (.int (p_4.toInt8.toInt32))) 4 (.int (p_4.toInt8.toInt32))) 5 (.int (p_4.toInt8.toInt32))) 6 (.int (p_4.toInt8.toInt32))) 7 (.int (p_4.toInt8.toInt32))) 8 (.int (p_4.toInt8.toInt32))) 9 (.int (p_4.toInt8.toInt32))) 10 (.int (p_4.toInt8.toInt32))) := own_AV.set (k := 10) V54 W57 (by decide)
  have z58 := W57.size
  have K57 : Keep h0 h57 [] := K54.wr W57 (Or.inr (by omega))
  have N57 := Fr.snoc X57 N54 (by omega : n0 ≤ b24)
  refine own_go (fun _ k => st57 _ k) ?_
  show own_Go _ _ _ _ T57 (mkF m 134 #[.val (.int p_1), .val (.int p_2), .val (.int p_3), .val (.int p_4), .val (.int (p_1.toInt8.toInt32)), .val (.int v3), .val (.int v4), .val (.int v5), .val (.ref b6), .val (.int v21), .val (.int v23), .val (.int (p_4.toInt8.toInt32)), .unset, .unset, .unset, .unset] [(.ref b24)])
  refine own_go (fun _ k => XS.dup X57.here hx rfl (hb hby at_134) rfl rfl k) ?_
  show own_Go _ _ _ _ T57 (mkF m 135 #[.val (.int p_1), .val (.int p_2), .val (.int p_3), .val (.int p_4), .val (.int (p_1.toInt8.toInt32)), .val (.int v3), .val (.int v4), .val (.int v5), .val (.ref b6), .val (.int v21), .val (.int v23), .val (.int (p_4.toInt8.toInt32)), .unset, .unset, .unset, .unset] [(.ref b24), (.ref b24)])
  refine own_go (fun _ k => XS.bipush X57.here hx rfl (hb hby at_135) k) ?_
  show own_Go _ _ _ _ T57 (mkF m 137 #[.val (.int p_1), .val (.int p_2), .val (.int p_3), .val (.int p_4), .val (.int (p_1.toInt8.toInt32)), .val (.int v3), .val (.int v4), .val (.int v5), .val (.ref b6), .val (.int v21), .val (.int v23), .val (.int (p_4.toInt8.toInt32)), .unset, .unset, .unset, .unset] [(.int (11 : Int32)), (.ref b24), (.ref b24)])
  refine own_go (fun _ k => XS.iload X57.here hx rfl (hb hby at_137) rfl k) ?_
  show own_Go _ _ _ _ T57 (mkF m 139 #[.val (.int p_1), .val (.int p_2), .val (.int p_3), .val (.int p_4), .val (.int (p_1.toInt8.toInt32)), .val (.int v3), .val (.int v4), .val (.int v5), .val (.ref b6), .val (.int v21), .val (.int v23), .val (.int (p_4.toInt8.toInt32)), .unset, .unset, .unset, .unset] [(.int (p_4.toInt8.toInt32)), (.int (11 : Int32)), (.ref b24), (.ref b24)])
  obtain ⟨q59, c59, R59, s59, t59⟩ := id V57
  have hin59 : ¬ ((11 : Int32) < 0 ∨ c59.slots.size ≤ ((11 : Int32)).toNatClampNeg) := inb_of s59 ⟨by decide, by decide⟩
  obtain ⟨T60, h60, X60, e60, W60, st60⟩ := stB X57 hx hZ e57 R59 (j := (11 : Int32)) hin59 (g := (mkF m 139 #[.val (.int p_1), .val (.int p_2), .val (.int p_3), .val (.int p_4), .val (.int (p_1.toInt8.toInt32)), .val (.int v3), .val (.int v4), .val (.int v5), .val (.ref b6), .val (.int v21), .val (.int v23), .val (.int (p_4.toInt8.toInt32)), .unset, .unset, .unset, .unset] [(.int (p_4.toInt8.toInt32)), (.int (11 : Int32)), (.ref b24), (.ref b24)])) rfl rfl (hb hby at_139)
  rw [(own_nar_b _)] at W60
  have V60 : own_AV Z h60 b24 .byte (16 : Int32) (own_upd (own_upd (own_upd (own_upd (own_upd (own_upd (own_upd (own_upd (own_upd (own_upd (own_upd (own_upd (fun _ => (.int (0 : Int32))) 0 (.int (p_4.toInt8.toInt32))) 1 (.int (p_4.toInt8.toInt32))) 2 (.int (p_4.toInt8.toInt32))) 3 (.int (p_4.toInt8.toInt32))) 4 (.int (p_4.toInt8.toInt32))) 5 (.int (p_4.toInt8.toInt32))) 6 (.int (p_4.toInt8.toInt32))) 7 (.int (p_4.toInt8.toInt32))) 8 (.int (p_4.toInt8.toInt32))) 9 (.int (p_4.toInt8.toInt32))) 10 (.int (p_4.toInt8.toInt32))) 11 (.int (p_4.toInt8.toInt32))) := own_AV.set (k := 11) V57 W60 (by decide)
  have z61 := W60.size
  have K60 : Keep h0 h60 [] := K57.wr W60 (Or.inr (by omega))
  have N60 := Fr.snoc X60 N57 (by omega : n0 ≤ b24)
  refine own_go (fun _ k => st60 _ k) ?_
  show own_Go _ _ _ _ T60 (mkF m 140 #[.val (.int p_1), .val (.int p_2), .val (.int p_3), .val (.int p_4), .val (.int (p_1.toInt8.toInt32)), .val (.int v3), .val (.int v4), .val (.int v5), .val (.ref b6), .val (.int v21), .val (.int v23), .val (.int (p_4.toInt8.toInt32)), .unset, .unset, .unset, .unset] [(.ref b24)])
  refine own_go (fun _ k => XS.dup X60.here hx rfl (hb hby at_140) rfl rfl k) ?_
  show own_Go _ _ _ _ T60 (mkF m 141 #[.val (.int p_1), .val (.int p_2), .val (.int p_3), .val (.int p_4), .val (.int (p_1.toInt8.toInt32)), .val (.int v3), .val (.int v4), .val (.int v5), .val (.ref b6), .val (.int v21), .val (.int v23), .val (.int (p_4.toInt8.toInt32)), .unset, .unset, .unset, .unset] [(.ref b24), (.ref b24)])
  refine own_go (fun _ k => XS.bipush X60.here hx rfl (hb hby at_141) k) ?_
  show own_Go _ _ _ _ T60 (mkF m 143 #[.val (.int p_1), .val (.int p_2), .val (.int p_3), .val (.int p_4), .val (.int (p_1.toInt8.toInt32)), .val (.int v3), .val (.int v4), .val (.int v5), .val (.ref b6), .val (.int v21), .val (.int v23), .val (.int (p_4.toInt8.toInt32)), .unset, .unset, .unset, .unset] [(.int (12 : Int32)), (.ref b24), (.ref b24)])
  refine own_go (fun _ k => XS.iload X60.here hx rfl (hb hby at_143) rfl k) ?_
  show own_Go _ _ _ _ T60 (mkF m 145 #[.val (.int p_1), .val (.int p_2), .val (.int p_3), .val (.int p_4), .val (.int (p_1.toInt8.toInt32)), .val (.int v3), .val (.int v4), .val (.int v5), .val (.ref b6), .val (.int v21), .val (.int v23), .val (.int (p_4.toInt8.toInt32)), .unset, .unset, .unset, .unset] [(.int (p_4.toInt8.toInt32)), (.int (12 : Int32)), (.ref b24), (.ref b24)])
  obtain ⟨q62, c62, R62, s62, t62⟩ := id V60
  have hin62 : ¬ ((12 : Int32) < 0 ∨ c62.slots.size ≤ ((12 : Int32)).toNatClampNeg) := inb_of s62 ⟨by decide, by decide⟩
  obtain ⟨T63, h63, X63, e63, W63, st63⟩ := stB X60 hx hZ e60 R62 (j := (12 : Int32)) hin62 (g := (mkF m 145 #[.val (.int p_1), .val (.int p_2), .val (.int p_3), .val (.int p_4), .val (.int (p_1.toInt8.toInt32)), .val (.int v3), .val (.int v4), .val (.int v5), .val (.ref b6), .val (.int v21), .val (.int v23), .val (.int (p_4.toInt8.toInt32)), .unset, .unset, .unset, .unset] [(.int (p_4.toInt8.toInt32)), (.int (12 : Int32)), (.ref b24), (.ref b24)])) rfl rfl (hb hby at_145)
  rw [(own_nar_b _)] at W63
  have V63 : own_AV Z h63 b24 .byte (16 : Int32) (own_upd (own_upd (own_upd (own_upd (own_upd (own_upd (own_upd (own_upd (own_upd (own_upd (own_upd (own_upd (own_upd (fun _ => (.int (0 : Int32))) 0 (.int (p_4.toInt8.toInt32))) 1 (.int (p_4.toInt8.toInt32))) 2 (.int (p_4.toInt8.toInt32))) 3 (.int (p_4.toInt8.toInt32))) 4 (.int (p_4.toInt8.toInt32))) 5 (.int (p_4.toInt8.toInt32))) 6 (.int (p_4.toInt8.toInt32))) 7 (.int (p_4.toInt8.toInt32))) 8 (.int (p_4.toInt8.toInt32))) 9 (.int (p_4.toInt8.toInt32))) 10 (.int (p_4.toInt8.toInt32))) 11 (.int (p_4.toInt8.toInt32))) 12 (.int (p_4.toInt8.toInt32))) := own_AV.set (k := 12) V60 W63 (by decide)
  have z64 := W63.size
  have K63 : Keep h0 h63 [] := K60.wr W63 (Or.inr (by omega))
  have N63 := Fr.snoc X63 N60 (by omega : n0 ≤ b24)
  refine own_go (fun _ k => st63 _ k) ?_
  show own_Go _ _ _ _ T63 (mkF m 146 #[.val (.int p_1), .val (.int p_2), .val (.int p_3), .val (.int p_4), .val (.int (p_1.toInt8.toInt32)), .val (.int v3), .val (.int v4), .val (.int v5), .val (.ref b6), .val (.int v21), .val (.int v23), .val (.int (p_4.toInt8.toInt32)), .unset, .unset, .unset, .unset] [(.ref b24)])
  refine own_go (fun _ k => XS.dup X63.here hx rfl (hb hby at_146) rfl rfl k) ?_
  show own_Go _ _ _ _ T63 (mkF m 147 #[.val (.int p_1), .val (.int p_2), .val (.int p_3), .val (.int p_4), .val (.int (p_1.toInt8.toInt32)), .val (.int v3), .val (.int v4), .val (.int v5), .val (.ref b6), .val (.int v21), .val (.int v23), .val (.int (p_4.toInt8.toInt32)), .unset, .unset, .unset, .unset] [(.ref b24), (.ref b24)])
  refine own_go (fun _ k => XS.bipush X63.here hx rfl (hb hby at_147) k) ?_
  show own_Go _ _ _ _ T63 (mkF m 149 #[.val (.int p_1), .val (.int p_2), .val (.int p_3), .val (.int p_4), .val (.int (p_1.toInt8.toInt32)), .val (.int v3), .val (.int v4), .val (.int v5), .val (.ref b6), .val (.int v21), .val (.int v23), .val (.int (p_4.toInt8.toInt32)), .unset, .unset, .unset, .unset] [(.int (13 : Int32)), (.ref b24), (.ref b24)])
  refine own_go (fun _ k => XS.iload X63.here hx rfl (hb hby at_149) rfl k) ?_
  show own_Go _ _ _ _ T63 (mkF m 151 #[.val (.int p_1), .val (.int p_2), .val (.int p_3), .val (.int p_4), .val (.int (p_1.toInt8.toInt32)), .val (.int v3), .val (.int v4), .val (.int v5), .val (.ref b6), .val (.int v21), .val (.int v23), .val (.int (p_4.toInt8.toInt32)), .unset, .unset, .unset, .unset] [(.int (p_4.toInt8.toInt32)), (.int (13 : Int32)), (.ref b24), (.ref b24)])
  obtain ⟨q65, c65, R65, s65, t65⟩ := id V63
  have hin65 : ¬ ((13 : Int32) < 0 ∨ c65.slots.size ≤ ((13 : Int32)).toNatClampNeg) := inb_of s65 ⟨by decide, by decide⟩
  obtain ⟨T66, h66, X66, e66, W66, st66⟩ := stB X63 hx hZ e63 R65 (j := (13 : Int32)) hin65 (g := (mkF m 151 #[.val (.int p_1), .val (.int p_2), .val (.int p_3), .val (.int p_4), .val (.int (p_1.toInt8.toInt32)), .val (.int v3), .val (.int v4), .val (.int v5), .val (.ref b6), .val (.int v21), .val (.int v23), .val (.int (p_4.toInt8.toInt32)), .unset, .unset, .unset, .unset] [(.int (p_4.toInt8.toInt32)), (.int (13 : Int32)), (.ref b24), (.ref b24)])) rfl rfl (hb hby at_151)
  rw [(own_nar_b _)] at W66
  have V66 : own_AV Z h66 b24 .byte (16 : Int32) (own_upd (own_upd (own_upd (own_upd (own_upd (own_upd (own_upd (own_upd (own_upd (own_upd (own_upd (own_upd (own_upd (own_upd (fun _ => (.int (0 : Int32))) 0 (.int (p_4.toInt8.toInt32))) 1 (.int (p_4.toInt8.toInt32))) 2 (.int (p_4.toInt8.toInt32))) 3 (.int (p_4.toInt8.toInt32))) 4 (.int (p_4.toInt8.toInt32))) 5 (.int (p_4.toInt8.toInt32))) 6 (.int (p_4.toInt8.toInt32))) 7 (.int (p_4.toInt8.toInt32))) 8 (.int (p_4.toInt8.toInt32))) 9 (.int (p_4.toInt8.toInt32))) 10 (.int (p_4.toInt8.toInt32))) 11 (.int (p_4.toInt8.toInt32))) 12 (.int (p_4.toInt8.toInt32))) 13 (.int (p_4.toInt8.toInt32))) := own_AV.set (k := 13) V63 W66 (by decide)
  have z67 := W66.size
  have K66 : Keep h0 h66 [] := K63.wr W66 (Or.inr (by omega))
  have N66 := Fr.snoc X66 N63 (by omega : n0 ≤ b24)
  refine own_go (fun _ k => st66 _ k) ?_
  show own_Go _ _ _ _ T66 (mkF m 152 #[.val (.int p_1), .val (.int p_2), .val (.int p_3), .val (.int p_4), .val (.int (p_1.toInt8.toInt32)), .val (.int v3), .val (.int v4), .val (.int v5), .val (.ref b6), .val (.int v21), .val (.int v23), .val (.int (p_4.toInt8.toInt32)), .unset, .unset, .unset, .unset] [(.ref b24)])
  refine own_go (fun _ k => XS.dup X66.here hx rfl (hb hby at_152) rfl rfl k) ?_
  show own_Go _ _ _ _ T66 (mkF m 153 #[.val (.int p_1), .val (.int p_2), .val (.int p_3), .val (.int p_4), .val (.int (p_1.toInt8.toInt32)), .val (.int v3), .val (.int v4), .val (.int v5), .val (.ref b6), .val (.int v21), .val (.int v23), .val (.int (p_4.toInt8.toInt32)), .unset, .unset, .unset, .unset] [(.ref b24), (.ref b24)])
  refine own_go (fun _ k => XS.bipush X66.here hx rfl (hb hby at_153) k) ?_
  show own_Go _ _ _ _ T66 (mkF m 155 #[.val (.int p_1), .val (.int p_2), .val (.int p_3), .val (.int p_4), .val (.int (p_1.toInt8.toInt32)), .val (.int v3), .val (.int v4), .val (.int v5), .val (.ref b6), .val (.int v21), .val (.int v23), .val (.int (p_4.toInt8.toInt32)), .unset, .unset, .unset, .unset] [(.int (14 : Int32)), (.ref b24), (.ref b24)])
  refine own_go (fun _ k => XS.iload X66.here hx rfl (hb hby at_155) rfl k) ?_
  show own_Go _ _ _ _ T66 (mkF m 157 #[.val (.int p_1), .val (.int p_2), .val (.int p_3), .val (.int p_4), .val (.int (p_1.toInt8.toInt32)), .val (.int v3), .val (.int v4), .val (.int v5), .val (.ref b6), .val (.int v21), .val (.int v23), .val (.int (p_4.toInt8.toInt32)), .unset, .unset, .unset, .unset] [(.int (p_4.toInt8.toInt32)), (.int (14 : Int32)), (.ref b24), (.ref b24)])
  obtain ⟨q68, c68, R68, s68, t68⟩ := id V66
  have hin68 : ¬ ((14 : Int32) < 0 ∨ c68.slots.size ≤ ((14 : Int32)).toNatClampNeg) := inb_of s68 ⟨by decide, by decide⟩
  obtain ⟨T69, h69, X69, e69, W69, st69⟩ := stB X66 hx hZ e66 R68 (j := (14 : Int32)) hin68 (g := (mkF m 157 #[.val (.int p_1), .val (.int p_2), .val (.int p_3), .val (.int p_4), .val (.int (p_1.toInt8.toInt32)), .val (.int v3), .val (.int v4), .val (.int v5), .val (.ref b6), .val (.int v21), .val (.int v23), .val (.int (p_4.toInt8.toInt32)), .unset, .unset, .unset, .unset] [(.int (p_4.toInt8.toInt32)), (.int (14 : Int32)), (.ref b24), (.ref b24)])) rfl rfl (hb hby at_157)
  rw [(own_nar_b _)] at W69
  have V69 : own_AV Z h69 b24 .byte (16 : Int32) (own_upd (own_upd (own_upd (own_upd (own_upd (own_upd (own_upd (own_upd (own_upd (own_upd (own_upd (own_upd (own_upd (own_upd (own_upd (fun _ => (.int (0 : Int32))) 0 (.int (p_4.toInt8.toInt32))) 1 (.int (p_4.toInt8.toInt32))) 2 (.int (p_4.toInt8.toInt32))) 3 (.int (p_4.toInt8.toInt32))) 4 (.int (p_4.toInt8.toInt32))) 5 (.int (p_4.toInt8.toInt32))) 6 (.int (p_4.toInt8.toInt32))) 7 (.int (p_4.toInt8.toInt32))) 8 (.int (p_4.toInt8.toInt32))) 9 (.int (p_4.toInt8.toInt32))) 10 (.int (p_4.toInt8.toInt32))) 11 (.int (p_4.toInt8.toInt32))) 12 (.int (p_4.toInt8.toInt32))) 13 (.int (p_4.toInt8.toInt32))) 14 (.int (p_4.toInt8.toInt32))) := own_AV.set (k := 14) V66 W69 (by decide)
  have z70 := W69.size
  have K69 : Keep h0 h69 [] := K66.wr W69 (Or.inr (by omega))
  have N69 := Fr.snoc X69 N66 (by omega : n0 ≤ b24)
  refine own_go (fun _ k => st69 _ k) ?_
  show own_Go _ _ _ _ T69 (mkF m 158 #[.val (.int p_1), .val (.int p_2), .val (.int p_3), .val (.int p_4), .val (.int (p_1.toInt8.toInt32)), .val (.int v3), .val (.int v4), .val (.int v5), .val (.ref b6), .val (.int v21), .val (.int v23), .val (.int (p_4.toInt8.toInt32)), .unset, .unset, .unset, .unset] [(.ref b24)])
  refine own_go (fun _ k => XS.dup X69.here hx rfl (hb hby at_158) rfl rfl k) ?_
  show own_Go _ _ _ _ T69 (mkF m 159 #[.val (.int p_1), .val (.int p_2), .val (.int p_3), .val (.int p_4), .val (.int (p_1.toInt8.toInt32)), .val (.int v3), .val (.int v4), .val (.int v5), .val (.ref b6), .val (.int v21), .val (.int v23), .val (.int (p_4.toInt8.toInt32)), .unset, .unset, .unset, .unset] [(.ref b24), (.ref b24)])
  refine own_go (fun _ k => XS.bipush X69.here hx rfl (hb hby at_159) k) ?_
  show own_Go _ _ _ _ T69 (mkF m 161 #[.val (.int p_1), .val (.int p_2), .val (.int p_3), .val (.int p_4), .val (.int (p_1.toInt8.toInt32)), .val (.int v3), .val (.int v4), .val (.int v5), .val (.ref b6), .val (.int v21), .val (.int v23), .val (.int (p_4.toInt8.toInt32)), .unset, .unset, .unset, .unset] [(.int (15 : Int32)), (.ref b24), (.ref b24)])
  refine own_go (fun _ k => XS.iload X69.here hx rfl (hb hby at_161) rfl k) ?_
  show own_Go _ _ _ _ T69 (mkF m 163 #[.val (.int p_1), .val (.int p_2), .val (.int p_3), .val (.int p_4), .val (.int (p_1.toInt8.toInt32)), .val (.int v3), .val (.int v4), .val (.int v5), .val (.ref b6), .val (.int v21), .val (.int v23), .val (.int (p_4.toInt8.toInt32)), .unset, .unset, .unset, .unset] [(.int (p_4.toInt8.toInt32)), (.int (15 : Int32)), (.ref b24), (.ref b24)])
  obtain ⟨q71, c71, R71, s71, t71⟩ := id V69
  have hin71 : ¬ ((15 : Int32) < 0 ∨ c71.slots.size ≤ ((15 : Int32)).toNatClampNeg) := inb_of s71 ⟨by decide, by decide⟩
  obtain ⟨T72, h72, X72, e72, W72, st72⟩ := stB X69 hx hZ e69 R71 (j := (15 : Int32)) hin71 (g := (mkF m 163 #[.val (.int p_1), .val (.int p_2), .val (.int p_3), .val (.int p_4), .val (.int (p_1.toInt8.toInt32)), .val (.int v3), .val (.int v4), .val (.int v5), .val (.ref b6), .val (.int v21), .val (.int v23), .val (.int (p_4.toInt8.toInt32)), .unset, .unset, .unset, .unset] [(.int (p_4.toInt8.toInt32)), (.int (15 : Int32)), (.ref b24), (.ref b24)])) rfl rfl (hb hby at_163)
  rw [(own_nar_b _)] at W72
  have V72 : own_AV Z h72 b24 .byte (16 : Int32) (own_upd (own_upd (own_upd (own_upd (own_upd (own_upd (own_upd (own_upd (own_upd (own_upd (own_upd (own_upd (own_upd (own_upd (own_upd (own_upd (fun _ => (.int (0 : Int32))) 0 (.int (p_4.toInt8.toInt32))) 1 (.int (p_4.toInt8.toInt32))) 2 (.int (p_4.toInt8.toInt32))) 3 (.int (p_4.toInt8.toInt32))) 4 (.int (p_4.toInt8.toInt32))) 5 (.int (p_4.toInt8.toInt32))) 6 (.int (p_4.toInt8.toInt32))) 7 (.int (p_4.toInt8.toInt32))) 8 (.int (p_4.toInt8.toInt32))) 9 (.int (p_4.toInt8.toInt32))) 10 (.int (p_4.toInt8.toInt32))) 11 (.int (p_4.toInt8.toInt32))) 12 (.int (p_4.toInt8.toInt32))) 13 (.int (p_4.toInt8.toInt32))) 14 (.int (p_4.toInt8.toInt32))) 15 (.int (p_4.toInt8.toInt32))) := own_AV.set (k := 15) V69 W72 (by decide)
  have z73 := W72.size
  have K72 : Keep h0 h72 [] := K69.wr W72 (Or.inr (by omega))
  have N72 := Fr.snoc X72 N69 (by omega : n0 ≤ b24)
  refine own_go (fun _ k => st72 _ k) ?_
  show own_Go _ _ _ _ T72 (mkF m 164 #[.val (.int p_1), .val (.int p_2), .val (.int p_3), .val (.int p_4), .val (.int (p_1.toInt8.toInt32)), .val (.int v3), .val (.int v4), .val (.int v5), .val (.ref b6), .val (.int v21), .val (.int v23), .val (.int (p_4.toInt8.toInt32)), .unset, .unset, .unset, .unset] [(.ref b24)])
  refine own_go (fun _ k => XS.astore X72.here hx rfl (hb hby at_164) rfl rfl (l' := #[.val (.int p_1), .val (.int p_2), .val (.int p_3), .val (.int p_4), .val (.int (p_1.toInt8.toInt32)), .val (.int v3), .val (.int v4), .val (.int v5), .val (.ref b6), .val (.int v21), .val (.int v23), .val (.int (p_4.toInt8.toInt32)), .val (.ref b24), .unset, .unset, .unset]) rfl k) ?_
  show own_Go _ _ _ _ T72 (mkF m 166 #[.val (.int p_1), .val (.int p_2), .val (.int p_3), .val (.int p_4), .val (.int (p_1.toInt8.toInt32)), .val (.int v3), .val (.int v4), .val (.int v5), .val (.ref b6), .val (.int v21), .val (.int v23), .val (.int (p_4.toInt8.toInt32)), .val (.ref b24), .unset, .unset, .unset] [])
  refine own_go (fun _ k => XS.aload X72.here hx rfl (hb hby at_166) rfl rfl k) ?_
  show own_Go _ _ _ _ T72 (mkF m 168 #[.val (.int p_1), .val (.int p_2), .val (.int p_3), .val (.int p_4), .val (.int (p_1.toInt8.toInt32)), .val (.int v3), .val (.int v4), .val (.int v5), .val (.ref b6), .val (.int v21), .val (.int v23), .val (.int (p_4.toInt8.toInt32)), .val (.ref b24), .unset, .unset, .unset] [(.ref b6)])
  refine own_go (fun _ k => XS.iload X72.here hx rfl (hb hby at_168) rfl k) ?_
  show own_Go _ _ _ _ T72 (mkF m 170 #[.val (.int p_1), .val (.int p_2), .val (.int p_3), .val (.int p_4), .val (.int (p_1.toInt8.toInt32)), .val (.int v3), .val (.int v4), .val (.int v5), .val (.ref b6), .val (.int v21), .val (.int v23), .val (.int (p_4.toInt8.toInt32)), .val (.ref b24), .unset, .unset, .unset] [(.int v21), (.ref b6)])
  refine own_go (fun _ k => XS.aload X72.here hx rfl (hb hby at_170) rfl rfl k) ?_
  show own_Go _ _ _ _ T72 (mkF m 172 #[.val (.int p_1), .val (.int p_2), .val (.int p_3), .val (.int p_4), .val (.int (p_1.toInt8.toInt32)), .val (.int v3), .val (.int v4), .val (.int v5), .val (.ref b6), .val (.int v21), .val (.int v23), .val (.int (p_4.toInt8.toInt32)), .val (.ref b24), .unset, .unset, .unset] [(.ref b24), (.int v21), (.ref b6)])
  refine own_go (fun _ k => XS.iload X72.here hx rfl (hb hby at_172) rfl k) ?_
  show own_Go _ _ _ _ T72 (mkF m 174 #[.val (.int p_1), .val (.int p_2), .val (.int p_3), .val (.int p_4), .val (.int (p_1.toInt8.toInt32)), .val (.int v3), .val (.int v4), .val (.int v5), .val (.ref b6), .val (.int v21), .val (.int v23), .val (.int (p_4.toInt8.toInt32)), .val (.ref b24), .unset, .unset, .unset] [(.int v23), (.ref b24), (.int v21), (.ref b6)])
  have f74 : Sta Z h72 "com/example/honest_codec/honestcodec/IllFormedSequence" "HEX_DIGITS" "[B" (.ref t_) := ((((((((((((((((((((((pr_S_com_example_honest_codec_honestcodec_IllFormedSequence_HEX_DIGITS.ext E6).wr W9).wr W12).wr W15).wr W18).ext E24).wr W27).wr W30).wr W33).wr W36).wr W39).wr W42).wr W45).wr W48).wr W51).wr W54).wr W57).wr W60).wr W63).wr W66).wr W69).wr W72)
  have f75 : own_AV Z h72 t_ .byte (16 : Int32) (fun i => .int (own_hd i)) := ((((((((((((((((((((((pr_A_t_.ext E6).other W9 (own_ne (by omega))).other W12 (own_ne (by omega))).other W15 (own_ne (by omega))).other W18 (own_ne (by omega))).ext E24).other W27 (own_ne (by omega))).other W30 (own_ne (by omega))).other W33 (own_ne (by omega))).other W36 (own_ne (by omega))).other W39 (own_ne (by omega))).other W42 (own_ne (by omega))).other W45 (own_ne (by omega))).other W48 (own_ne (by omega))).other W51 (own_ne (by omega))).other W54 (own_ne (by omega))).other W57 (own_ne (by omega))).other W60 (own_ne (by omega))).other W63 (own_ne (by omega))).other W66 (own_ne (by omega))).other W69 (own_ne (by omega))).other W72 (own_ne (by omega)))
  have f76 : own_AV Z h72 b6 .byte (4 : Int32) (own_upd (own_upd (own_upd (own_upd (fun _ => (.int (0 : Int32))) 0 (.int (p_1.toInt8.toInt32))) 1 (.int v3)) 2 (.int v4)) 3 (.int v5)) := (((((((((((((((((V18.ext E24).other W27 (own_ne (by omega))).other W30 (own_ne (by omega))).other W33 (own_ne (by omega))).other W36 (own_ne (by omega))).other W39 (own_ne (by omega))).other W42 (own_ne (by omega))).other W45 (own_ne (by omega))).other W48 (own_ne (by omega))).other W51 (own_ne (by omega))).other W54 (own_ne (by omega))).other W57 (own_ne (by omega))).other W60 (own_ne (by omega))).other W63 (own_ne (by omega))).other W66 (own_ne (by omega))).other W69 (own_ne (by omega))).other W72 (own_ne (by omega)))
  obtain ⟨_, _, ⟨T77, L77, k77, n77⟩, -, X77, ⟨Lc77, hQ77, l77, y77, z77⟩, st77⟩ := Jvm.LawKit.callS X72 hx (y := (⟨"com/example/honest_codec/honestcodec/IllFormedSequence", "putHex", "([BI[BI)I"⟩ : MethodName)) hown (mvT hZ (hw _ (List.mem_of_getElem? (i := 2) rfl))) (mvT hZ (hw _ (List.mem_of_getElem? (i := 3) rfl))) (mvT hZ (hw _ (List.mem_of_getElem? (i := 4) rfl))) (mvT hZ (hw _ (List.mem_of_getElem? (i := 5) rfl))) (by decide) (backOf (W := 0) (own_rm1 l Z a0 hw [] b6 v21 b24 v23 t_ (own_upd (own_upd (own_upd (own_upd (fun _ => (.int (0 : Int32))) 0 (.int (p_1.toInt8.toInt32))) 1 (.int v3)) 2 (.int v4)) 3 (.int v5)) (own_upd (own_upd (own_upd (own_upd (own_upd (own_upd (own_upd (own_upd (own_upd (own_upd (own_upd (own_upd (own_upd (own_upd (own_upd (own_upd (fun _ => (.int (0 : Int32))) 0 (.int (p_4.toInt8.toInt32))) 1 (.int (p_4.toInt8.toInt32))) 2 (.int (p_4.toInt8.toInt32))) 3 (.int (p_4.toInt8.toInt32))) 4 (.int (p_4.toInt8.toInt32))) 5 (.int (p_4.toInt8.toInt32))) 6 (.int (p_4.toInt8.toInt32))) 7 (.int (p_4.toInt8.toInt32))) 8 (.int (p_4.toInt8.toInt32))) 9 (.int (p_4.toInt8.toInt32))) 10 (.int (p_4.toInt8.toInt32))) 11 (.int (p_4.toInt8.toInt32))) 12 (.int (p_4.toInt8.toInt32))) 13 (.int (p_4.toInt8.toInt32))) 14 (.int (p_4.toInt8.toInt32))) 15 (.int (p_4.toInt8.toInt32))) (p_1.toInt8.toInt32) v3 v4 v5 h72 n0 (by omega) f74 f75 f76 V72 rfl rfl rfl rfl (by simp only [own_lts, and_true]; omega) (by simp only [own_lts, and_true]; omega) (show v21 = (0 : Int32) ∨ v21 = (1 : Int32) ∨ v21 = (2 : Int32) ∨ v21 = (3 : Int32) ∨ v21 = (4 : Int32) by first | assumption | omega | decide) (show v23 = (0 : Int32) ∨ v23 = (1 : Int32) ∨ v23 = (2 : Int32) ∨ v23 = (3 : Int32) by first | assumption | omega | decide) (by omega)) hZ (hw _ (List.mem_of_getElem? (i := 5) rfl)) (hw _ (List.mem_of_getElem? (i := 4) rfl)) (by decide) (by decide)) (g := (mkF m 174 #[.val (.int p_1), .val (.int p_2), .val (.int p_3), .val (.int p_4), .val (.int (p_1.toInt8.toInt32)), .val (.int v3), .val (.int v4), .val (.int v5), .val (.ref b6), .val (.int v21), .val (.int v23), .val (.int (p_4.toInt8.toInt32)), .val (.ref b24), .unset, .unset, .unset] [(.int v23), (.ref b24), (.int v21), (.ref b6)])) rfl (by rw [hml]; rfl) (argsL := [(.ref b6), (.int v21), (.ref b24), (.int v23)]) (rest := []) (lenOf own_pd1 rfl) rfl (by show 2 * 0 + _ ≤ _; exact Nat.le_of_eq rfl) (hb hby at_174) (fun _ _ => ⟨rfl, e72, (by decide : 2 + 0 ≤ _), (by decide : 20 + 0 ≤ _)⟩)
  dsimp only [Pt.U, Pt.locs, Pt.cells, Pt.slots] at X77 l77 y77 z77 st77 hQ77
  have y77 : k77 = 2 := y77
  have z77 : n77 = 20 := z77
  obtain ⟨r78, rfl, N77q, hr_r78, K77q, f79⟩ := hQ77
  have N77 : Fr n0 L77 := by rw [l77]; exact Fr.app N72 N77q
  have z80 := K77q.1
  have K77 : Keep h0 T77.heap [] := K72.trans K77q (allS (Or.inr (by omega)) all0)
  have z81 := own_lt f79.lt
  refine own_go (fun _ k => st77 _ k) ?_
  show own_Go _ _ _ _ T77 (mkF m 177 #[.val (.int p_1), .val (.int p_2), .val (.int p_3), .val (.int p_4), .val (.int (p_1.toInt8.toInt32)), .val (.int v3), .val (.int v4), .val (.int v5), .val (.ref b6), .val (.int v21), .val (.int v23), .val (.int (p_4.toInt8.toInt32)), .val (.ref b24), .unset, .unset, .unset] [(.int r78)])
  refine own_go (fun _ k => XS.istore X77.here hx rfl (hb hby at_177) rfl (l' := #[.val (.int p_1), .val (.int p_2), .val (.int p_3), .val (.int p_4), .val (.int (p_1.toInt8.toInt32)), .val (.int v3), .val (.int v4), .val (.int v5), .val (.ref b6), .val (.int v21), .val (.int v23), .val (.int (p_4.toInt8.toInt32)), .val (.ref b24), .val (.int r78), .unset, .unset]) rfl k) ?_
  show own_Go _ _ _ _ T77 (mkF m 179 #[.val (.int p_1), .val (.int p_2), .val (.int p_3), .val (.int p_4), .val (.int (p_1.toInt8.toInt32)), .val (.int v3), .val (.int v4), .val (.int v5), .val (.ref b6), .val (.int v21), .val (.int v23), .val (.int (p_4.toInt8.toInt32)), .val (.ref b24), .val (.int r78), .unset, .unset] [])
  refine own_go (fun _ k => XS.iload X77.here hx rfl (hb hby at_179) rfl k) ?_
  show own_Go _ _ _ _ T77 (mkF m 181 #[.val (.int p_1), .val (.int p_2), .val (.int p_3), .val (.int p_4), .val (.int (p_1.toInt8.toInt32)), .val (.int v3), .val (.int v4), .val (.int v5), .val (.ref b6), .val (.int v21), .val (.int v23), .val (.int (p_4.toInt8.toInt32)), .val (.ref b24), .val (.int r78), .unset, .unset] [(.int v21)])
  by_cases hc82 : v21 = 0
  · refine own_go (fun _ k => XS.ifNo X77.here hx rfl (hb hby at_181) rfl (Jvm.Free.XT.i0_ne_f hc82) k) ?_
    show own_Go _ _ _ _ T77 (mkF m 184 #[.val (.int p_1), .val (.int p_2), .val (.int p_3), .val (.int p_4), .val (.int (p_1.toInt8.toInt32)), .val (.int v3), .val (.int v4), .val (.int v5), .val (.ref b6), .val (.int v21), .val (.int v23), .val (.int (p_4.toInt8.toInt32)), .val (.ref b24), .val (.int r78), .unset, .unset] [])
    refine own_go (fun _ k => XS.iload X77.here hx rfl (hb hby at_184) rfl k) ?_
    show own_Go _ _ _ _ T77 (mkF m 186 #[.val (.int p_1), .val (.int p_2), .val (.int p_3), .val (.int p_4), .val (.int (p_1.toInt8.toInt32)), .val (.int v3), .val (.int v4), .val (.int v5), .val (.ref b6), .val (.int v21), .val (.int v23), .val (.int (p_4.toInt8.toInt32)), .val (.ref b24), .val (.int r78), .unset, .unset] [(.int v23)])
    refine own_go (fun _ k => XS.goto X77.here hx rfl (pc0 := 186) (pc' := 198) rfl (hb hby at_186) (by decide) (by decide) k) ?_
    show own_Go _ _ _ _ T77 (mkF m 198 #[.val (.int p_1), .val (.int p_2), .val (.int p_3), .val (.int p_4), .val (.int (p_1.toInt8.toInt32)), .val (.int v3), .val (.int v4), .val (.int v5), .val (.ref b6), .val (.int v21), .val (.int v23), .val (.int (p_4.toInt8.toInt32)), .val (.ref b24), .val (.int r78), .unset, .unset] [(.int v23)])
    refine own_go (fun _ k => XS.istore X77.here hx rfl (hb hby at_198) rfl (l' := #[.val (.int p_1), .val (.int p_2), .val (.int p_3), .val (.int p_4), .val (.int (p_1.toInt8.toInt32)), .val (.int v3), .val (.int v4), .val (.int v5), .val (.ref b6), .val (.int v21), .val (.int v23), .val (.int (p_4.toInt8.toInt32)), .val (.ref b24), .val (.int r78), .val (.int v23), .unset]) rfl k) ?_
    show own_Go _ _ _ _ T77 (mkF m 200 #[.val (.int p_1), .val (.int p_2), .val (.int p_3), .val (.int p_4), .val (.int (p_1.toInt8.toInt32)), .val (.int v3), .val (.int v4), .val (.int v5), .val (.ref b6), .val (.int v21), .val (.int v23), .val (.int (p_4.toInt8.toInt32)), .val (.ref b24), .val (.int r78), .val (.int v23), .unset] [])
    refine own_go (fun _ k => XS.iload X77.here hx rfl (hb hby at_200) rfl k) ?_
    show own_Go _ _ _ _ T77 (mkF m 202 #[.val (.int p_1), .val (.int p_2), .val (.int p_3), .val (.int p_4), .val (.int (p_1.toInt8.toInt32)), .val (.int v3), .val (.int v4), .val (.int v5), .val (.ref b6), .val (.int v21), .val (.int v23), .val (.int (p_4.toInt8.toInt32)), .val (.ref b24), .val (.int r78), .val (.int v23), .unset] [(.int r78)])
    refine own_go (fun _ k => XS.iload X77.here hx rfl (hb hby at_202) rfl k) ?_
    show own_Go _ _ _ _ T77 (mkF m 204 #[.val (.int p_1), .val (.int p_2), .val (.int p_3), .val (.int p_4), .val (.int (p_1.toInt8.toInt32)), .val (.int v3), .val (.int v4), .val (.int v5), .val (.ref b6), .val (.int v21), .val (.int v23), .val (.int (p_4.toInt8.toInt32)), .val (.ref b24), .val (.int r78), .val (.int v23), .unset] [(.int v23), (.int r78)])
    have hc83 : r78 = v23 := own_t0_2 p_2 p_3 v21 v23 r78 hdv21 hdv23 hl hp hr_r78 hc82
    refine own_go (fun _ k => XS.icmpNo X77.here hx rfl (hb hby at_204) rfl (Jvm.Free.XT.ii_ne_f hc83) k) ?_
    show own_Go _ _ _ _ T77 (mkF m 207 #[.val (.int p_1), .val (.int p_2), .val (.int p_3), .val (.int p_4), .val (.int (p_1.toInt8.toInt32)), .val (.int v3), .val (.int v4), .val (.int v5), .val (.ref b6), .val (.int v21), .val (.int v23), .val (.int (p_4.toInt8.toInt32)), .val (.ref b24), .val (.int r78), .val (.int v23), .unset] [])
    refine own_go (fun _ k => XS.iconst X77.here hx rfl (hb hby at_207) k) ?_
    show own_Go _ _ _ _ T77 (mkF m 208 #[.val (.int p_1), .val (.int p_2), .val (.int p_3), .val (.int p_4), .val (.int (p_1.toInt8.toInt32)), .val (.int v3), .val (.int v4), .val (.int v5), .val (.ref b6), .val (.int v21), .val (.int v23), .val (.int (p_4.toInt8.toInt32)), .val (.ref b24), .val (.int r78), .val (.int v23), .unset] [(.int (1 : Int32))])
    refine own_go (fun _ k => XS.goto X77.here hx rfl (pc0 := 208) (pc' := 212) rfl (hb hby at_208) (by decide) (by decide) k) ?_
    show own_Go _ _ _ _ T77 (mkF m 212 #[.val (.int p_1), .val (.int p_2), .val (.int p_3), .val (.int p_4), .val (.int (p_1.toInt8.toInt32)), .val (.int v3), .val (.int v4), .val (.int v5), .val (.ref b6), .val (.int v21), .val (.int v23), .val (.int (p_4.toInt8.toInt32)), .val (.ref b24), .val (.int r78), .val (.int v23), .unset] [(.int (1 : Int32))])
    refine own_go (fun _ k => XS.istore X77.here hx rfl (hb hby at_212) rfl (l' := #[.val (.int p_1), .val (.int p_2), .val (.int p_3), .val (.int p_4), .val (.int (p_1.toInt8.toInt32)), .val (.int v3), .val (.int v4), .val (.int v5), .val (.ref b6), .val (.int v21), .val (.int v23), .val (.int (p_4.toInt8.toInt32)), .val (.ref b24), .val (.int r78), .val (.int v23), .val (.int (1 : Int32))]) rfl k) ?_
    show own_Go _ _ _ _ T77 (mkF m 214 #[.val (.int p_1), .val (.int p_2), .val (.int p_3), .val (.int p_4), .val (.int (p_1.toInt8.toInt32)), .val (.int v3), .val (.int v4), .val (.int v5), .val (.ref b6), .val (.int v21), .val (.int v23), .val (.int (p_4.toInt8.toInt32)), .val (.ref b24), .val (.int r78), .val (.int v23), .val (.int (1 : Int32))] [])
    refine own_go (fun _ k => XS.iload X77.here hx rfl (hb hby at_214) rfl k) ?_
    show own_Go _ _ _ _ T77 (mkF m 216 #[.val (.int p_1), .val (.int p_2), .val (.int p_3), .val (.int p_4), .val (.int (p_1.toInt8.toInt32)), .val (.int v3), .val (.int v4), .val (.int v5), .val (.ref b6), .val (.int v21), .val (.int v23), .val (.int (p_4.toInt8.toInt32)), .val (.ref b24), .val (.int r78), .val (.int v23), .val (.int (1 : Int32))] [(.int (1 : Int32))])
    have hc84 : ¬ ((1 : Int32) = 0) := by decide
    refine own_go (fun _ k => XS.ifNo X77.here hx rfl (hb hby at_216) rfl (Jvm.Free.XT.i0_eq_f hc84) k) ?_
    show own_Go _ _ _ _ T77 (mkF m 219 #[.val (.int p_1), .val (.int p_2), .val (.int p_3), .val (.int p_4), .val (.int (p_1.toInt8.toInt32)), .val (.int v3), .val (.int v4), .val (.int v5), .val (.ref b6), .val (.int v21), .val (.int v23), .val (.int (p_4.toInt8.toInt32)), .val (.ref b24), .val (.int r78), .val (.int v23), .val (.int (1 : Int32))] [])
    refine own_go (fun _ k => XS.aload X77.here hx rfl (hb hby at_219) rfl rfl k) ?_
    show own_Go _ _ _ _ T77 (mkF m 221 #[.val (.int p_1), .val (.int p_2), .val (.int p_3), .val (.int p_4), .val (.int (p_1.toInt8.toInt32)), .val (.int v3), .val (.int v4), .val (.int v5), .val (.ref b6), .val (.int v21), .val (.int v23), .val (.int (p_4.toInt8.toInt32)), .val (.ref b24), .val (.int r78), .val (.int v23), .val (.int (1 : Int32))] [(.ref b6)])
    refine own_go (fun _ k => XS.iconst X77.here hx rfl (hb hby at_221) k) ?_
    show own_Go _ _ _ _ T77 (mkF m 222 #[.val (.int p_1), .val (.int p_2), .val (.int p_3), .val (.int p_4), .val (.int (p_1.toInt8.toInt32)), .val (.int v3), .val (.int v4), .val (.int v5), .val (.ref b6), .val (.int v21), .val (.int v23), .val (.int (p_4.toInt8.toInt32)), .val (.ref b24), .val (.int r78), .val (.int v23), .val (.int (1 : Int32))] [(.int (0 : Int32)), (.ref b6)])
    have f85 : own_AV Z T77.heap b6 .byte (4 : Int32) (own_upd (own_upd (own_upd (own_upd (fun _ => (.int (0 : Int32))) 0 (.int (p_1.toInt8.toInt32))) 1 (.int v3)) 2 (.int v4)) 3 (.int v5)) := (f76.keep K77q (ninS (own_ne (by omega)) nin0))
    obtain ⟨q86, c86, R86, s86, t86⟩ := id f85
    have hin86 : ¬ ((0 : Int32) < 0 ∨ c86.slots.size ≤ ((0 : Int32)).toNatClampNeg) := inb_of s86 ⟨by decide, by decide⟩
    have u86 : c86.slots[((0 : Int32)).toNatClampNeg]? = some (.int (p_1.toInt8.toInt32)) := own_at (k := 0) t86 s86 hin86 (by decide) (rfl)
    refine own_go (fun _ k => X77.baloadBytes hx (j := (0 : Int32)) (v := (.int (p_1.toInt8.toInt32))) R86.1 (State.isArrayOf_alike hZ.alike R86.2.1) R86.2.2 hin86 u86 (g := (mkF m 222 #[.val (.int p_1), .val (.int p_2), .val (.int p_3), .val (.int p_4), .val (.int (p_1.toInt8.toInt32)), .val (.int v3), .val (.int v4), .val (.int v5), .val (.ref b6), .val (.int v21), .val (.int v23), .val (.int (p_4.toInt8.toInt32)), .val (.ref b24), .val (.int r78), .val (.int v23), .val (.int (1 : Int32))] [(.int (0 : Int32)), (.ref b6)])) rfl rfl (hb hby at_222) _ k) ?_
    show own_Go _ _ _ _ T77 (mkF m 223 #[.val (.int p_1), .val (.int p_2), .val (.int p_3), .val (.int p_4), .val (.int (p_1.toInt8.toInt32)), .val (.int v3), .val (.int v4), .val (.int v5), .val (.ref b6), .val (.int v21), .val (.int v23), .val (.int (p_4.toInt8.toInt32)), .val (.ref b24), .val (.int r78), .val (.int v23), .val (.int (1 : Int32))] [(.int (p_1.toInt8.toInt32))])
    refine own_go (fun _ k => XS.iload X77.here hx rfl (hb hby at_223) rfl k) ?_
    show own_Go _ _ _ _ T77 (mkF m 225 #[.val (.int p_1), .val (.int p_2), .val (.int p_3), .val (.int p_4), .val (.int (p_1.toInt8.toInt32)), .val (.int v3), .val (.int v4), .val (.int v5), .val (.ref b6), .val (.int v21), .val (.int v23), .val (.int (p_4.toInt8.toInt32)), .val (.ref b24), .val (.int r78), .val (.int v23), .val (.int (1 : Int32))] [(.int (p_1.toInt8.toInt32)), (.int (p_1.toInt8.toInt32))])
    have hc87 : (p_1.toInt8.toInt32) = (p_1.toInt8.toInt32) := rfl
    refine own_go (fun _ k => XS.icmpNo X77.here hx rfl (hb hby at_225) rfl (Jvm.Free.XT.ii_ne_f hc87) k) ?_
    show own_Go _ _ _ _ T77 (mkF m 228 #[.val (.int p_1), .val (.int p_2), .val (.int p_3), .val (.int p_4), .val (.int (p_1.toInt8.toInt32)), .val (.int v3), .val (.int v4), .val (.int v5), .val (.ref b6), .val (.int v21), .val (.int v23), .val (.int (p_4.toInt8.toInt32)), .val (.ref b24), .val (.int r78), .val (.int v23), .val (.int (1 : Int32))] [])
    refine own_go (fun _ k => XS.aload X77.here hx rfl (hb hby at_228) rfl rfl k) ?_
    show own_Go _ _ _ _ T77 (mkF m 230 #[.val (.int p_1), .val (.int p_2), .val (.int p_3), .val (.int p_4), .val (.int (p_1.toInt8.toInt32)), .val (.int v3), .val (.int v4), .val (.int v5), .val (.ref b6), .val (.int v21), .val (.int v23), .val (.int (p_4.toInt8.toInt32)), .val (.ref b24), .val (.int r78), .val (.int v23), .val (.int (1 : Int32))] [(.ref b6)])
    refine own_go (fun _ k => XS.iconst X77.here hx rfl (hb hby at_230) k) ?_
    show own_Go _ _ _ _ T77 (mkF m 231 #[.val (.int p_1), .val (.int p_2), .val (.int p_3), .val (.int p_4), .val (.int (p_1.toInt8.toInt32)), .val (.int v3), .val (.int v4), .val (.int v5), .val (.ref b6), .val (.int v21), .val (.int v23), .val (.int (p_4.toInt8.toInt32)), .val (.ref b24), .val (.int r78), .val (.int v23), .val (.int (1 : Int32))] [(.int (1 : Int32)), (.ref b6)])
    obtain ⟨q88, c88, R88, s88, t88⟩ := id f85
    have hin88 : ¬ ((1 : Int32) < 0 ∨ c88.slots.size ≤ ((1 : Int32)).toNatClampNeg) := inb_of s88 ⟨by decide, by decide⟩
    have u88 : c88.slots[((1 : Int32)).toNatClampNeg]? = some (.int v3) := own_at (k := 1) t88 s88 hin88 (by decide) (rfl)
    refine own_go (fun _ k => X77.baloadBytes hx (j := (1 : Int32)) (v := (.int v3)) R88.1 (State.isArrayOf_alike hZ.alike R88.2.1) R88.2.2 hin88 u88 (g := (mkF m 231 #[.val (.int p_1), .val (.int p_2), .val (.int p_3), .val (.int p_4), .val (.int (p_1.toInt8.toInt32)), .val (.int v3), .val (.int v4), .val (.int v5), .val (.ref b6), .val (.int v21), .val (.int v23), .val (.int (p_4.toInt8.toInt32)), .val (.ref b24), .val (.int r78), .val (.int v23), .val (.int (1 : Int32))] [(.int (1 : Int32)), (.ref b6)])) rfl rfl (hb hby at_231) _ k) ?_
    show own_Go _ _ _ _ T77 (mkF m 232 #[.val (.int p_1), .val (.int p_2), .val (.int p_3), .val (.int p_4), .val (.int (p_1.toInt8.toInt32)), .val (.int v3), .val (.int v4), .val (.int v5), .val (.ref b6), .val (.int v21), .val (.int v23), .val (.int (p_4.toInt8.toInt32)), .val (.ref b24), .val (.int r78), .val (.int v23), .val (.int (1 : Int32))] [(.int v3)])
    refine own_go (fun _ k => XS.iload X77.here hx rfl (hb hby at_232) rfl k) ?_
    show own_Go _ _ _ _ T77 (mkF m 234 #[.val (.int p_1), .val (.int p_2), .val (.int p_3), .val (.int p_4), .val (.int (p_1.toInt8.toInt32)), .val (.int v3), .val (.int v4), .val (.int v5), .val (.ref b6), .val (.int v21), .val (.int v23), .val (.int (p_4.toInt8.toInt32)), .val (.ref b24), .val (.int r78), .val (.int v23), .val (.int (1 : Int32))] [(.int v3), (.int v3)])
    have hc89 : v3 = v3 := rfl
    refine own_go (fun _ k => XS.icmpNo X77.here hx rfl (hb hby at_234) rfl (Jvm.Free.XT.ii_ne_f hc89) k) ?_
    show own_Go _ _ _ _ T77 (mkF m 237 #[.val (.int p_1), .val (.int p_2), .val (.int p_3), .val (.int p_4), .val (.int (p_1.toInt8.toInt32)), .val (.int v3), .val (.int v4), .val (.int v5), .val (.ref b6), .val (.int v21), .val (.int v23), .val (.int (p_4.toInt8.toInt32)), .val (.ref b24), .val (.int r78), .val (.int v23), .val (.int (1 : Int32))] [])
    refine own_go (fun _ k => XS.aload X77.here hx rfl (hb hby at_237) rfl rfl k) ?_
    show own_Go _ _ _ _ T77 (mkF m 239 #[.val (.int p_1), .val (.int p_2), .val (.int p_3), .val (.int p_4), .val (.int (p_1.toInt8.toInt32)), .val (.int v3), .val (.int v4), .val (.int v5), .val (.ref b6), .val (.int v21), .val (.int v23), .val (.int (p_4.toInt8.toInt32)), .val (.ref b24), .val (.int r78), .val (.int v23), .val (.int (1 : Int32))] [(.ref b6)])
    refine own_go (fun _ k => XS.iconst X77.here hx rfl (hb hby at_239) k) ?_
    show own_Go _ _ _ _ T77 (mkF m 240 #[.val (.int p_1), .val (.int p_2), .val (.int p_3), .val (.int p_4), .val (.int (p_1.toInt8.toInt32)), .val (.int v3), .val (.int v4), .val (.int v5), .val (.ref b6), .val (.int v21), .val (.int v23), .val (.int (p_4.toInt8.toInt32)), .val (.ref b24), .val (.int r78), .val (.int v23), .val (.int (1 : Int32))] [(.int (2 : Int32)), (.ref b6)])
    obtain ⟨q90, c90, R90, s90, t90⟩ := id f85
    have hin90 : ¬ ((2 : Int32) < 0 ∨ c90.slots.size ≤ ((2 : Int32)).toNatClampNeg) := inb_of s90 ⟨by decide, by decide⟩
    have u90 : c90.slots[((2 : Int32)).toNatClampNeg]? = some (.int v4) := own_at (k := 2) t90 s90 hin90 (by decide) (rfl)
    refine own_go (fun _ k => X77.baloadBytes hx (j := (2 : Int32)) (v := (.int v4)) R90.1 (State.isArrayOf_alike hZ.alike R90.2.1) R90.2.2 hin90 u90 (g := (mkF m 240 #[.val (.int p_1), .val (.int p_2), .val (.int p_3), .val (.int p_4), .val (.int (p_1.toInt8.toInt32)), .val (.int v3), .val (.int v4), .val (.int v5), .val (.ref b6), .val (.int v21), .val (.int v23), .val (.int (p_4.toInt8.toInt32)), .val (.ref b24), .val (.int r78), .val (.int v23), .val (.int (1 : Int32))] [(.int (2 : Int32)), (.ref b6)])) rfl rfl (hb hby at_240) _ k) ?_
    show own_Go _ _ _ _ T77 (mkF m 241 #[.val (.int p_1), .val (.int p_2), .val (.int p_3), .val (.int p_4), .val (.int (p_1.toInt8.toInt32)), .val (.int v3), .val (.int v4), .val (.int v5), .val (.ref b6), .val (.int v21), .val (.int v23), .val (.int (p_4.toInt8.toInt32)), .val (.ref b24), .val (.int r78), .val (.int v23), .val (.int (1 : Int32))] [(.int v4)])
    refine own_go (fun _ k => XS.iload X77.here hx rfl (hb hby at_241) rfl k) ?_
    show own_Go _ _ _ _ T77 (mkF m 243 #[.val (.int p_1), .val (.int p_2), .val (.int p_3), .val (.int p_4), .val (.int (p_1.toInt8.toInt32)), .val (.int v3), .val (.int v4), .val (.int v5), .val (.ref b6), .val (.int v21), .val (.int v23), .val (.int (p_4.toInt8.toInt32)), .val (.ref b24), .val (.int r78), .val (.int v23), .val (.int (1 : Int32))] [(.int v4), (.int v4)])
    have hc91 : v4 = v4 := rfl
    refine own_go (fun _ k => XS.icmpNo X77.here hx rfl (hb hby at_243) rfl (Jvm.Free.XT.ii_ne_f hc91) k) ?_
    show own_Go _ _ _ _ T77 (mkF m 246 #[.val (.int p_1), .val (.int p_2), .val (.int p_3), .val (.int p_4), .val (.int (p_1.toInt8.toInt32)), .val (.int v3), .val (.int v4), .val (.int v5), .val (.ref b6), .val (.int v21), .val (.int v23), .val (.int (p_4.toInt8.toInt32)), .val (.ref b24), .val (.int r78), .val (.int v23), .val (.int (1 : Int32))] [])
    refine own_go (fun _ k => XS.aload X77.here hx rfl (hb hby at_246) rfl rfl k) ?_
    show own_Go _ _ _ _ T77 (mkF m 248 #[.val (.int p_1), .val (.int p_2), .val (.int p_3), .val (.int p_4), .val (.int (p_1.toInt8.toInt32)), .val (.int v3), .val (.int v4), .val (.int v5), .val (.ref b6), .val (.int v21), .val (.int v23), .val (.int (p_4.toInt8.toInt32)), .val (.ref b24), .val (.int r78), .val (.int v23), .val (.int (1 : Int32))] [(.ref b6)])
    refine own_go (fun _ k => XS.iconst X77.here hx rfl (hb hby at_248) k) ?_
    show own_Go _ _ _ _ T77 (mkF m 249 #[.val (.int p_1), .val (.int p_2), .val (.int p_3), .val (.int p_4), .val (.int (p_1.toInt8.toInt32)), .val (.int v3), .val (.int v4), .val (.int v5), .val (.ref b6), .val (.int v21), .val (.int v23), .val (.int (p_4.toInt8.toInt32)), .val (.ref b24), .val (.int r78), .val (.int v23), .val (.int (1 : Int32))] [(.int (3 : Int32)), (.ref b6)])
    obtain ⟨q92, c92, R92, s92, t92⟩ := id f85
    have hin92 : ¬ ((3 : Int32) < 0 ∨ c92.slots.size ≤ ((3 : Int32)).toNatClampNeg) := inb_of s92 ⟨by decide, by decide⟩
    have u92 : c92.slots[((3 : Int32)).toNatClampNeg]? = some (.int v5) := own_at (k := 3) t92 s92 hin92 (by decide) (rfl)
    refine own_go (fun _ k => X77.baloadBytes hx (j := (3 : Int32)) (v := (.int v5)) R92.1 (State.isArrayOf_alike hZ.alike R92.2.1) R92.2.2 hin92 u92 (g := (mkF m 249 #[.val (.int p_1), .val (.int p_2), .val (.int p_3), .val (.int p_4), .val (.int (p_1.toInt8.toInt32)), .val (.int v3), .val (.int v4), .val (.int v5), .val (.ref b6), .val (.int v21), .val (.int v23), .val (.int (p_4.toInt8.toInt32)), .val (.ref b24), .val (.int r78), .val (.int v23), .val (.int (1 : Int32))] [(.int (3 : Int32)), (.ref b6)])) rfl rfl (hb hby at_249) _ k) ?_
    show own_Go _ _ _ _ T77 (mkF m 250 #[.val (.int p_1), .val (.int p_2), .val (.int p_3), .val (.int p_4), .val (.int (p_1.toInt8.toInt32)), .val (.int v3), .val (.int v4), .val (.int v5), .val (.ref b6), .val (.int v21), .val (.int v23), .val (.int (p_4.toInt8.toInt32)), .val (.ref b24), .val (.int r78), .val (.int v23), .val (.int (1 : Int32))] [(.int v5)])
    refine own_go (fun _ k => XS.iload X77.here hx rfl (hb hby at_250) rfl k) ?_
    show own_Go _ _ _ _ T77 (mkF m 252 #[.val (.int p_1), .val (.int p_2), .val (.int p_3), .val (.int p_4), .val (.int (p_1.toInt8.toInt32)), .val (.int v3), .val (.int v4), .val (.int v5), .val (.ref b6), .val (.int v21), .val (.int v23), .val (.int (p_4.toInt8.toInt32)), .val (.ref b24), .val (.int r78), .val (.int v23), .val (.int (1 : Int32))] [(.int v5), (.int v5)])
    have hc93 : v5 = v5 := rfl
    refine own_go (fun _ k => XS.icmpNo X77.here hx rfl (hb hby at_252) rfl (Jvm.Free.XT.ii_ne_f hc93) k) ?_
    show own_Go _ _ _ _ T77 (mkF m 255 #[.val (.int p_1), .val (.int p_2), .val (.int p_3), .val (.int p_4), .val (.int (p_1.toInt8.toInt32)), .val (.int v3), .val (.int v4), .val (.int v5), .val (.ref b6), .val (.int v21), .val (.int v23), .val (.int (p_4.toInt8.toInt32)), .val (.ref b24), .val (.int r78), .val (.int v23), .val (.int (1 : Int32))] [])
    refine own_go (fun _ k => XS.iconst X77.here hx rfl (hb hby at_255) k) ?_
    show own_Go _ _ _ _ T77 (mkF m 256 #[.val (.int p_1), .val (.int p_2), .val (.int p_3), .val (.int p_4), .val (.int (p_1.toInt8.toInt32)), .val (.int v3), .val (.int v4), .val (.int v5), .val (.ref b6), .val (.int v21), .val (.int v23), .val (.int (p_4.toInt8.toInt32)), .val (.ref b24), .val (.int r78), .val (.int v23), .val (.int (1 : Int32))] [(.int (1 : Int32))])
    refine own_go (fun _ k => XS.goto X77.here hx rfl (pc0 := 256) (pc' := 260) rfl (hb hby at_256) (by decide) (by decide) k) ?_
    show own_Go _ _ _ _ T77 (mkF m 260 #[.val (.int p_1), .val (.int p_2), .val (.int p_3), .val (.int p_4), .val (.int (p_1.toInt8.toInt32)), .val (.int v3), .val (.int v4), .val (.int v5), .val (.ref b6), .val (.int v21), .val (.int v23), .val (.int (p_4.toInt8.toInt32)), .val (.ref b24), .val (.int r78), .val (.int v23), .val (.int (1 : Int32))] [(.int (1 : Int32))])
    refine own_go (fun _ k => XS.istore X77.here hx rfl (hb hby at_260) rfl (l' := #[.val (.int p_1), .val (.int p_2), .val (.int p_3), .val (.int p_4), .val (.int (p_1.toInt8.toInt32)), .val (.int v3), .val (.int v4), .val (.int v5), .val (.ref b6), .val (.int v21), .val (.int v23), .val (.int (p_4.toInt8.toInt32)), .val (.ref b24), .val (.int r78), .val (.int v23), .val (.int (1 : Int32))]) rfl k) ?_
    show own_Go _ _ _ _ T77 (mkF m 262 #[.val (.int p_1), .val (.int p_2), .val (.int p_3), .val (.int p_4), .val (.int (p_1.toInt8.toInt32)), .val (.int v3), .val (.int v4), .val (.int v5), .val (.ref b6), .val (.int v21), .val (.int v23), .val (.int (p_4.toInt8.toInt32)), .val (.ref b24), .val (.int r78), .val (.int v23), .val (.int (1 : Int32))] [])
    refine own_go (fun _ k => XS.iload X77.here hx rfl (hb hby at_262) rfl k) ?_
    show own_Go _ _ _ _ T77 (mkF m 264 #[.val (.int p_1), .val (.int p_2), .val (.int p_3), .val (.int p_4), .val (.int (p_1.toInt8.toInt32)), .val (.int v3), .val (.int v4), .val (.int v5), .val (.ref b6), .val (.int v21), .val (.int v23), .val (.int (p_4.toInt8.toInt32)), .val (.ref b24), .val (.int r78), .val (.int v23), .val (.int (1 : Int32))] [(.int (1 : Int32))])
    have hc94 : ¬ ((1 : Int32) = 0) := by decide
    refine own_go (fun _ k => XS.ifNo X77.here hx rfl (hb hby at_264) rfl (Jvm.Free.XT.i0_eq_f hc94) k) ?_
    show own_Go _ _ _ _ T77 (mkF m 267 #[.val (.int p_1), .val (.int p_2), .val (.int p_3), .val (.int p_4), .val (.int (p_1.toInt8.toInt32)), .val (.int v3), .val (.int v4), .val (.int v5), .val (.ref b6), .val (.int v21), .val (.int v23), .val (.int (p_4.toInt8.toInt32)), .val (.ref b24), .val (.int r78), .val (.int v23), .val (.int (1 : Int32))] [])
    refine own_go (fun _ k => XS.aload X77.here hx rfl (hb hby at_267) rfl rfl k) ?_
    show own_Go _ _ _ _ T77 (mkF m 269 #[.val (.int p_1), .val (.int p_2), .val (.int p_3), .val (.int p_4), .val (.int (p_1.toInt8.toInt32)), .val (.int v3), .val (.int v4), .val (.int v5), .val (.ref b6), .val (.int v21), .val (.int v23), .val (.int (p_4.toInt8.toInt32)), .val (.ref b24), .val (.int r78), .val (.int v23), .val (.int (1 : Int32))] [(.ref b24)])
    refine own_go (fun _ k => XS.iconst X77.here hx rfl (hb hby at_269) k) ?_
    show own_Go _ _ _ _ T77 (mkF m 270 #[.val (.int p_1), .val (.int p_2), .val (.int p_3), .val (.int p_4), .val (.int (p_1.toInt8.toInt32)), .val (.int v3), .val (.int v4), .val (.int v5), .val (.ref b6), .val (.int v21), .val (.int v23), .val (.int (p_4.toInt8.toInt32)), .val (.ref b24), .val (.int r78), .val (.int v23), .val (.int (1 : Int32))] [(.int (0 : Int32)), (.ref b24)])
    obtain ⟨q95, c95, R95, s95, t95⟩ := id f79
    have hin95 : ¬ ((0 : Int32) < 0 ∨ c95.slots.size ≤ ((0 : Int32)).toNatClampNeg) := inb_of s95 ⟨by decide, by decide⟩
    have u95 : c95.slots[((0 : Int32)).toNatClampNeg]? = some (.int (own_hw (v21).toNatClampNeg v23 (p_4.toInt8.toInt32) (p_1.toInt8.toInt32) v3 v4 v5 0)) := own_at (k := 0) t95 s95 hin95 (by decide) (own_hx_hw _ _ _ _ _ _ _ _ _ rfl)
    refine own_go (fun _ k => X77.baloadBytes hx (j := (0 : Int32)) (v := (.int (own_hw (v21).toNatClampNeg v23 (p_4.toInt8.toInt32) (p_1.toInt8.toInt32) v3 v4 v5 0))) R95.1 (State.isArrayOf_alike hZ.alike R95.2.1) R95.2.2 hin95 u95 (g := (mkF m 270 #[.val (.int p_1), .val (.int p_2), .val (.int p_3), .val (.int p_4), .val (.int (p_1.toInt8.toInt32)), .val (.int v3), .val (.int v4), .val (.int v5), .val (.ref b6), .val (.int v21), .val (.int v23), .val (.int (p_4.toInt8.toInt32)), .val (.ref b24), .val (.int r78), .val (.int v23), .val (.int (1 : Int32))] [(.int (0 : Int32)), (.ref b24)])) rfl rfl (hb hby at_270) _ k) ?_
    show own_Go _ _ _ _ T77 (mkF m 271 #[.val (.int p_1), .val (.int p_2), .val (.int p_3), .val (.int p_4), .val (.int (p_1.toInt8.toInt32)), .val (.int v3), .val (.int v4), .val (.int v5), .val (.ref b6), .val (.int v21), .val (.int v23), .val (.int (p_4.toInt8.toInt32)), .val (.ref b24), .val (.int r78), .val (.int v23), .val (.int (1 : Int32))] [(.int (own_hw (v21).toNatClampNeg v23 (p_4.toInt8.toInt32) (p_1.toInt8.toInt32) v3 v4 v5 0))])
    refine own_go (fun _ k => XS.iconst X77.here hx rfl (hb hby at_271) k) ?_
    show own_Go _ _ _ _ T77 (mkF m 272 #[.val (.int p_1), .val (.int p_2), .val (.int p_3), .val (.int p_4), .val (.int (p_1.toInt8.toInt32)), .val (.int v3), .val (.int v4), .val (.int v5), .val (.ref b6), .val (.int v21), .val (.int v23), .val (.int (p_4.toInt8.toInt32)), .val (.ref b24), .val (.int r78), .val (.int v23), .val (.int (1 : Int32))] [(.int (0 : Int32)), (.int (own_hw (v21).toNatClampNeg v23 (p_4.toInt8.toInt32) (p_1.toInt8.toInt32) v3 v4 v5 0))])
    refine own_go (fun _ k => XS.iloadN X77.here hx rfl (hb hby at_272) rfl k) ?_
    show own_Go _ _ _ _ T77 (mkF m 273 #[.val (.int p_1), .val (.int p_2), .val (.int p_3), .val (.int p_4), .val (.int (p_1.toInt8.toInt32)), .val (.int v3), .val (.int v4), .val (.int v5), .val (.ref b6), .val (.int v21), .val (.int v23), .val (.int (p_4.toInt8.toInt32)), .val (.ref b24), .val (.int r78), .val (.int v23), .val (.int (1 : Int32))] [(.int p_1), (.int (0 : Int32)), (.int (own_hw (v21).toNatClampNeg v23 (p_4.toInt8.toInt32) (p_1.toInt8.toInt32) v3 v4 v5 0))])
    refine own_go (fun _ k => XS.iload X77.here hx rfl (hb hby at_273) rfl k) ?_
    show own_Go _ _ _ _ T77 (mkF m 275 #[.val (.int p_1), .val (.int p_2), .val (.int p_3), .val (.int p_4), .val (.int (p_1.toInt8.toInt32)), .val (.int v3), .val (.int v4), .val (.int v5), .val (.ref b6), .val (.int v21), .val (.int v23), .val (.int (p_4.toInt8.toInt32)), .val (.ref b24), .val (.int r78), .val (.int v23), .val (.int (1 : Int32))] [(.int v21), (.int p_1), (.int (0 : Int32)), (.int (own_hw (v21).toNatClampNeg v23 (p_4.toInt8.toInt32) (p_1.toInt8.toInt32) v3 v4 v5 0))])
    refine own_go (fun _ k => XS.iload X77.here hx rfl (hb hby at_275) rfl k) ?_
    show own_Go _ _ _ _ T77 (mkF m 277 #[.val (.int p_1), .val (.int p_2), .val (.int p_3), .val (.int p_4), .val (.int (p_1.toInt8.toInt32)), .val (.int v3), .val (.int v4), .val (.int v5), .val (.ref b6), .val (.int v21), .val (.int v23), .val (.int (p_4.toInt8.toInt32)), .val (.ref b24), .val (.int r78), .val (.int v23), .val (.int (1 : Int32))] [(.int v23), (.int v21), (.int p_1), (.int (0 : Int32)), (.int (own_hw (v21).toNatClampNeg v23 (p_4.toInt8.toInt32) (p_1.toInt8.toInt32) v3 v4 v5 0))])
    refine own_go (fun _ k => XS.iload X77.here hx rfl (hb hby at_277) rfl k) ?_
    show own_Go _ _ _ _ T77 (mkF m 279 #[.val (.int p_1), .val (.int p_2), .val (.int p_3), .val (.int p_4), .val (.int (p_1.toInt8.toInt32)), .val (.int v3), .val (.int v4), .val (.int v5), .val (.ref b6), .val (.int v21), .val (.int v23), .val (.int (p_4.toInt8.toInt32)), .val (.ref b24), .val (.int r78), .val (.int v23), .val (.int (1 : Int32))] [(.int (p_4.toInt8.toInt32)), (.int v23), (.int v21), (.int p_1), (.int (0 : Int32)), (.int (own_hw (v21).toNatClampNeg v23 (p_4.toInt8.toInt32) (p_1.toInt8.toInt32) v3 v4 v5 0))])
    obtain ⟨_, _, ⟨T96, L96, k96, n96⟩, -, X96, ⟨Lc96, hQ96, l96, y96, z96⟩, st96⟩ := Jvm.LawKit.callS X77 hx (y := (⟨"com/example/honest_codec/honestcodec/IllFormedSequencePutHexPinLaw", "expectedAt", "(IIIIB)B"⟩ : MethodName)) hown (mvT hZ (hw _ (List.mem_of_getElem? (i := 8) rfl))) (mvT hZ (hw _ (List.mem_of_getElem? (i := 9) rfl))) (mvT hZ (hw _ (List.mem_of_getElem? (i := 10) rfl))) (mvT hZ (hw _ (List.mem_of_getElem? (i := 11) rfl))) (by decide) (backOf (W := 1) (own_rm2 l Z a0 hw [] (0 : Int32) p_1 v21 v23 (p_4.toInt8.toInt32)  T77.heap n0 (by omega) (own_nar_b _)) hZ (hw _ (List.mem_of_getElem? (i := 11) rfl)) (hw _ (List.mem_of_getElem? (i := 10) rfl)) (by decide) (by decide)) (g := (mkF m 279 #[.val (.int p_1), .val (.int p_2), .val (.int p_3), .val (.int p_4), .val (.int (p_1.toInt8.toInt32)), .val (.int v3), .val (.int v4), .val (.int v5), .val (.ref b6), .val (.int v21), .val (.int v23), .val (.int (p_4.toInt8.toInt32)), .val (.ref b24), .val (.int r78), .val (.int v23), .val (.int (1 : Int32))] [(.int (p_4.toInt8.toInt32)), (.int v23), (.int v21), (.int p_1), (.int (0 : Int32)), (.int (own_hw (v21).toNatClampNeg v23 (p_4.toInt8.toInt32) (p_1.toInt8.toInt32) v3 v4 v5 0))])) rfl (by rw [hml]; rfl) (argsL := [(.int (0 : Int32)), (.int p_1), (.int v21), (.int v23), (.int (p_4.toInt8.toInt32))]) (rest := [(.int (own_hw (v21).toNatClampNeg v23 (p_4.toInt8.toInt32) (p_1.toInt8.toInt32) v3 v4 v5 0))]) (lenOf own_pd2 rfl) rfl (by show 2 * 0 + _ ≤ _; exact Nat.le_of_eq rfl) (hb hby at_279) (fun _ _ => ⟨rfl, rfl, (by show k77 + _ ≤ _; rw [y77]; decide), (by show n77 + _ ≤ _; rw [z77]; decide)⟩)
    dsimp only [Pt.U, Pt.locs, Pt.cells, Pt.slots] at X96 l96 y96 z96 st96 hQ96
    have y96 : k96 = 2 := own_addeq y96 (congrArg (fun q => q) y77) rfl
    have z96 : n96 = 20 := own_addeq z96 (congrArg (fun q => q) z77) rfl
    obtain ⟨r97, rfl, N96q, hr_r97, e96⟩ := hQ96
    have N96 : Fr n0 L96 := by rw [l96]; exact Fr.app N77 N96q
    refine own_go (fun _ k => st96 _ k) ?_
    show own_Go _ _ _ _ T96 (mkF m 282 #[.val (.int p_1), .val (.int p_2), .val (.int p_3), .val (.int p_4), .val (.int (p_1.toInt8.toInt32)), .val (.int v3), .val (.int v4), .val (.int v5), .val (.ref b6), .val (.int v21), .val (.int v23), .val (.int (p_4.toInt8.toInt32)), .val (.ref b24), .val (.int r78), .val (.int v23), .val (.int (1 : Int32))] [(.int r97), (.int (own_hw (v21).toNatClampNeg v23 (p_4.toInt8.toInt32) (p_1.toInt8.toInt32) v3 v4 v5 0))])
    have hc98 : (own_hw (v21).toNatClampNeg v23 (p_4.toInt8.toInt32) (p_1.toInt8.toInt32) v3 v4 v5 0) = r97 := own_t0_3 p_1 p_2 p_3 p_4 v3 v4 v5 v21 v23 r97 hdv3 hdv4 hdv5 hdv21 hdv23 hl hp hr_r97
    refine own_go (fun _ k => XS.icmpNo X96.here hx rfl (hb hby at_282) rfl (Jvm.Free.XT.ii_ne_f hc98) k) ?_
    show own_Go _ _ _ _ T96 (mkF m 285 #[.val (.int p_1), .val (.int p_2), .val (.int p_3), .val (.int p_4), .val (.int (p_1.toInt8.toInt32)), .val (.int v3), .val (.int v4), .val (.int v5), .val (.ref b6), .val (.int v21), .val (.int v23), .val (.int (p_4.toInt8.toInt32)), .val (.ref b24), .val (.int r78), .val (.int v23), .val (.int (1 : Int32))] [])
    refine own_go (fun _ k => XS.iconst X96.here hx rfl (hb hby at_285) k) ?_
    show own_Go _ _ _ _ T96 (mkF m 286 #[.val (.int p_1), .val (.int p_2), .val (.int p_3), .val (.int p_4), .val (.int (p_1.toInt8.toInt32)), .val (.int v3), .val (.int v4), .val (.int v5), .val (.ref b6), .val (.int v21), .val (.int v23), .val (.int (p_4.toInt8.toInt32)), .val (.ref b24), .val (.int r78), .val (.int v23), .val (.int (1 : Int32))] [(.int (1 : Int32))])
    refine own_go (fun _ k => XS.goto X96.here hx rfl (pc0 := 286) (pc' := 290) rfl (hb hby at_286) (by decide) (by decide) k) ?_
    show own_Go _ _ _ _ T96 (mkF m 290 #[.val (.int p_1), .val (.int p_2), .val (.int p_3), .val (.int p_4), .val (.int (p_1.toInt8.toInt32)), .val (.int v3), .val (.int v4), .val (.int v5), .val (.ref b6), .val (.int v21), .val (.int v23), .val (.int (p_4.toInt8.toInt32)), .val (.ref b24), .val (.int r78), .val (.int v23), .val (.int (1 : Int32))] [(.int (1 : Int32))])
    refine own_go (fun _ k => XS.istore X96.here hx rfl (hb hby at_290) rfl (l' := #[.val (.int p_1), .val (.int p_2), .val (.int p_3), .val (.int p_4), .val (.int (p_1.toInt8.toInt32)), .val (.int v3), .val (.int v4), .val (.int v5), .val (.ref b6), .val (.int v21), .val (.int v23), .val (.int (p_4.toInt8.toInt32)), .val (.ref b24), .val (.int r78), .val (.int v23), .val (.int (1 : Int32))]) rfl k) ?_
    show own_Go _ _ _ _ T96 (mkF m 292 #[.val (.int p_1), .val (.int p_2), .val (.int p_3), .val (.int p_4), .val (.int (p_1.toInt8.toInt32)), .val (.int v3), .val (.int v4), .val (.int v5), .val (.ref b6), .val (.int v21), .val (.int v23), .val (.int (p_4.toInt8.toInt32)), .val (.ref b24), .val (.int r78), .val (.int v23), .val (.int (1 : Int32))] [])
    refine own_go (fun _ k => XS.iload X96.here hx rfl (hb hby at_292) rfl k) ?_
    show own_Go _ _ _ _ T96 (mkF m 294 #[.val (.int p_1), .val (.int p_2), .val (.int p_3), .val (.int p_4), .val (.int (p_1.toInt8.toInt32)), .val (.int v3), .val (.int v4), .val (.int v5), .val (.ref b6), .val (.int v21), .val (.int v23), .val (.int (p_4.toInt8.toInt32)), .val (.ref b24), .val (.int r78), .val (.int v23), .val (.int (1 : Int32))] [(.int (1 : Int32))])
    have hc99 : ¬ ((1 : Int32) = 0) := by decide
    refine own_go (fun _ k => XS.ifNo X96.here hx rfl (hb hby at_294) rfl (Jvm.Free.XT.i0_eq_f hc99) k) ?_
    show own_Go _ _ _ _ T96 (mkF m 297 #[.val (.int p_1), .val (.int p_2), .val (.int p_3), .val (.int p_4), .val (.int (p_1.toInt8.toInt32)), .val (.int v3), .val (.int v4), .val (.int v5), .val (.ref b6), .val (.int v21), .val (.int v23), .val (.int (p_4.toInt8.toInt32)), .val (.ref b24), .val (.int r78), .val (.int v23), .val (.int (1 : Int32))] [])
    refine own_go (fun _ k => XS.aload X96.here hx rfl (hb hby at_297) rfl rfl k) ?_
    show own_Go _ _ _ _ T96 (mkF m 299 #[.val (.int p_1), .val (.int p_2), .val (.int p_3), .val (.int p_4), .val (.int (p_1.toInt8.toInt32)), .val (.int v3), .val (.int v4), .val (.int v5), .val (.ref b6), .val (.int v21), .val (.int v23), .val (.int (p_4.toInt8.toInt32)), .val (.ref b24), .val (.int r78), .val (.int v23), .val (.int (1 : Int32))] [(.ref b24)])
    refine own_go (fun _ k => XS.iconst X96.here hx rfl (hb hby at_299) k) ?_
    show own_Go _ _ _ _ T96 (mkF m 300 #[.val (.int p_1), .val (.int p_2), .val (.int p_3), .val (.int p_4), .val (.int (p_1.toInt8.toInt32)), .val (.int v3), .val (.int v4), .val (.int v5), .val (.ref b6), .val (.int v21), .val (.int v23), .val (.int (p_4.toInt8.toInt32)), .val (.ref b24), .val (.int r78), .val (.int v23), .val (.int (1 : Int32))] [(.int (1 : Int32)), (.ref b24)])
    obtain ⟨q100, c100, R100, s100, t100⟩ := id f79
    have hin100 : ¬ ((1 : Int32) < 0 ∨ c100.slots.size ≤ ((1 : Int32)).toNatClampNeg) := inb_of s100 ⟨by decide, by decide⟩
    have u100 : c100.slots[((1 : Int32)).toNatClampNeg]? = some (.int (own_hw (v21).toNatClampNeg v23 (p_4.toInt8.toInt32) (p_1.toInt8.toInt32) v3 v4 v5 1)) := own_at (k := 1) t100 s100 hin100 (by decide) (own_hx_hw _ _ _ _ _ _ _ _ _ rfl)
    refine own_go (fun _ k => X96.baloadBytes hx (j := (1 : Int32)) (v := (.int (own_hw (v21).toNatClampNeg v23 (p_4.toInt8.toInt32) (p_1.toInt8.toInt32) v3 v4 v5 1))) (by rw [e96]; exact R100.1) (State.isArrayOf_alike hZ.alike R100.2.1) R100.2.2 hin100 u100 (g := (mkF m 300 #[.val (.int p_1), .val (.int p_2), .val (.int p_3), .val (.int p_4), .val (.int (p_1.toInt8.toInt32)), .val (.int v3), .val (.int v4), .val (.int v5), .val (.ref b6), .val (.int v21), .val (.int v23), .val (.int (p_4.toInt8.toInt32)), .val (.ref b24), .val (.int r78), .val (.int v23), .val (.int (1 : Int32))] [(.int (1 : Int32)), (.ref b24)])) rfl rfl (hb hby at_300) _ k) ?_
    show own_Go _ _ _ _ T96 (mkF m 301 #[.val (.int p_1), .val (.int p_2), .val (.int p_3), .val (.int p_4), .val (.int (p_1.toInt8.toInt32)), .val (.int v3), .val (.int v4), .val (.int v5), .val (.ref b6), .val (.int v21), .val (.int v23), .val (.int (p_4.toInt8.toInt32)), .val (.ref b24), .val (.int r78), .val (.int v23), .val (.int (1 : Int32))] [(.int (own_hw (v21).toNatClampNeg v23 (p_4.toInt8.toInt32) (p_1.toInt8.toInt32) v3 v4 v5 1))])
    refine own_go (fun _ k => XS.iconst X96.here hx rfl (hb hby at_301) k) ?_
    show own_Go _ _ _ _ T96 (mkF m 302 #[.val (.int p_1), .val (.int p_2), .val (.int p_3), .val (.int p_4), .val (.int (p_1.toInt8.toInt32)), .val (.int v3), .val (.int v4), .val (.int v5), .val (.ref b6), .val (.int v21), .val (.int v23), .val (.int (p_4.toInt8.toInt32)), .val (.ref b24), .val (.int r78), .val (.int v23), .val (.int (1 : Int32))] [(.int (1 : Int32)), (.int (own_hw (v21).toNatClampNeg v23 (p_4.toInt8.toInt32) (p_1.toInt8.toInt32) v3 v4 v5 1))])
    refine own_go (fun _ k => XS.iloadN X96.here hx rfl (hb hby at_302) rfl k) ?_
    show own_Go _ _ _ _ T96 (mkF m 303 #[.val (.int p_1), .val (.int p_2), .val (.int p_3), .val (.int p_4), .val (.int (p_1.toInt8.toInt32)), .val (.int v3), .val (.int v4), .val (.int v5), .val (.ref b6), .val (.int v21), .val (.int v23), .val (.int (p_4.toInt8.toInt32)), .val (.ref b24), .val (.int r78), .val (.int v23), .val (.int (1 : Int32))] [(.int p_1), (.int (1 : Int32)), (.int (own_hw (v21).toNatClampNeg v23 (p_4.toInt8.toInt32) (p_1.toInt8.toInt32) v3 v4 v5 1))])
    refine own_go (fun _ k => XS.iload X96.here hx rfl (hb hby at_303) rfl k) ?_
    show own_Go _ _ _ _ T96 (mkF m 305 #[.val (.int p_1), .val (.int p_2), .val (.int p_3), .val (.int p_4), .val (.int (p_1.toInt8.toInt32)), .val (.int v3), .val (.int v4), .val (.int v5), .val (.ref b6), .val (.int v21), .val (.int v23), .val (.int (p_4.toInt8.toInt32)), .val (.ref b24), .val (.int r78), .val (.int v23), .val (.int (1 : Int32))] [(.int v21), (.int p_1), (.int (1 : Int32)), (.int (own_hw (v21).toNatClampNeg v23 (p_4.toInt8.toInt32) (p_1.toInt8.toInt32) v3 v4 v5 1))])
    refine own_go (fun _ k => XS.iload X96.here hx rfl (hb hby at_305) rfl k) ?_
    show own_Go _ _ _ _ T96 (mkF m 307 #[.val (.int p_1), .val (.int p_2), .val (.int p_3), .val (.int p_4), .val (.int (p_1.toInt8.toInt32)), .val (.int v3), .val (.int v4), .val (.int v5), .val (.ref b6), .val (.int v21), .val (.int v23), .val (.int (p_4.toInt8.toInt32)), .val (.ref b24), .val (.int r78), .val (.int v23), .val (.int (1 : Int32))] [(.int v23), (.int v21), (.int p_1), (.int (1 : Int32)), (.int (own_hw (v21).toNatClampNeg v23 (p_4.toInt8.toInt32) (p_1.toInt8.toInt32) v3 v4 v5 1))])
    refine own_go (fun _ k => XS.iload X96.here hx rfl (hb hby at_307) rfl k) ?_
    show own_Go _ _ _ _ T96 (mkF m 309 #[.val (.int p_1), .val (.int p_2), .val (.int p_3), .val (.int p_4), .val (.int (p_1.toInt8.toInt32)), .val (.int v3), .val (.int v4), .val (.int v5), .val (.ref b6), .val (.int v21), .val (.int v23), .val (.int (p_4.toInt8.toInt32)), .val (.ref b24), .val (.int r78), .val (.int v23), .val (.int (1 : Int32))] [(.int (p_4.toInt8.toInt32)), (.int v23), (.int v21), (.int p_1), (.int (1 : Int32)), (.int (own_hw (v21).toNatClampNeg v23 (p_4.toInt8.toInt32) (p_1.toInt8.toInt32) v3 v4 v5 1))])
    obtain ⟨_, _, ⟨T101, L101, k101, n101⟩, -, X101, ⟨Lc101, hQ101, l101, y101, z101⟩, st101⟩ := Jvm.LawKit.callS X96 hx (y := (⟨"com/example/honest_codec/honestcodec/IllFormedSequencePutHexPinLaw", "expectedAt", "(IIIIB)B"⟩ : MethodName)) hown (mvT hZ (hw _ (List.mem_of_getElem? (i := 8) rfl))) (mvT hZ (hw _ (List.mem_of_getElem? (i := 9) rfl))) (mvT hZ (hw _ (List.mem_of_getElem? (i := 10) rfl))) (mvT hZ (hw _ (List.mem_of_getElem? (i := 11) rfl))) (by decide) (backOf (W := 1) (own_rm2 l Z a0 hw [] (1 : Int32) p_1 v21 v23 (p_4.toInt8.toInt32)  T77.heap n0 (by omega) (own_nar_b _)) hZ (hw _ (List.mem_of_getElem? (i := 11) rfl)) (hw _ (List.mem_of_getElem? (i := 10) rfl)) (by decide) (by decide)) (g := (mkF m 309 #[.val (.int p_1), .val (.int p_2), .val (.int p_3), .val (.int p_4), .val (.int (p_1.toInt8.toInt32)), .val (.int v3), .val (.int v4), .val (.int v5), .val (.ref b6), .val (.int v21), .val (.int v23), .val (.int (p_4.toInt8.toInt32)), .val (.ref b24), .val (.int r78), .val (.int v23), .val (.int (1 : Int32))] [(.int (p_4.toInt8.toInt32)), (.int v23), (.int v21), (.int p_1), (.int (1 : Int32)), (.int (own_hw (v21).toNatClampNeg v23 (p_4.toInt8.toInt32) (p_1.toInt8.toInt32) v3 v4 v5 1))])) rfl (by rw [hml]; rfl) (argsL := [(.int (1 : Int32)), (.int p_1), (.int v21), (.int v23), (.int (p_4.toInt8.toInt32))]) (rest := [(.int (own_hw (v21).toNatClampNeg v23 (p_4.toInt8.toInt32) (p_1.toInt8.toInt32) v3 v4 v5 1))]) (lenOf own_pd2 rfl) rfl (by show 2 * 0 + _ ≤ _; exact Nat.le_of_eq rfl) (hb hby at_309) (fun _ _ => ⟨rfl, e96, (by show k96 + _ ≤ _; rw [y96]; decide), (by show n96 + _ ≤ _; rw [z96]; decide)⟩)
    dsimp only [Pt.U, Pt.locs, Pt.cells, Pt.slots] at X101 l101 y101 z101 st101 hQ101
    have y101 : k101 = 2 := own_addeq y101 (congrArg (fun q => q) y96) rfl
    have z101 : n101 = 20 := own_addeq z101 (congrArg (fun q => q) z96) rfl
    obtain ⟨r102, rfl, N101q, hr_r102, e101⟩ := hQ101
    have N101 : Fr n0 L101 := by rw [l101]; exact Fr.app N96 N101q
    refine own_go (fun _ k => st101 _ k) ?_
    show own_Go _ _ _ _ T101 (mkF m 312 #[.val (.int p_1), .val (.int p_2), .val (.int p_3), .val (.int p_4), .val (.int (p_1.toInt8.toInt32)), .val (.int v3), .val (.int v4), .val (.int v5), .val (.ref b6), .val (.int v21), .val (.int v23), .val (.int (p_4.toInt8.toInt32)), .val (.ref b24), .val (.int r78), .val (.int v23), .val (.int (1 : Int32))] [(.int r102), (.int (own_hw (v21).toNatClampNeg v23 (p_4.toInt8.toInt32) (p_1.toInt8.toInt32) v3 v4 v5 1))])
    have hc103 : (own_hw (v21).toNatClampNeg v23 (p_4.toInt8.toInt32) (p_1.toInt8.toInt32) v3 v4 v5 1) = r102 := own_t0_4 p_1 p_2 p_3 p_4 v3 v4 v5 v21 v23 r102 hdv3 hdv4 hdv5 hdv21 hdv23 hl hp hr_r102
    refine own_go (fun _ k => XS.icmpNo X101.here hx rfl (hb hby at_312) rfl (Jvm.Free.XT.ii_ne_f hc103) k) ?_
    show own_Go _ _ _ _ T101 (mkF m 315 #[.val (.int p_1), .val (.int p_2), .val (.int p_3), .val (.int p_4), .val (.int (p_1.toInt8.toInt32)), .val (.int v3), .val (.int v4), .val (.int v5), .val (.ref b6), .val (.int v21), .val (.int v23), .val (.int (p_4.toInt8.toInt32)), .val (.ref b24), .val (.int r78), .val (.int v23), .val (.int (1 : Int32))] [])
    refine own_go (fun _ k => XS.iconst X101.here hx rfl (hb hby at_315) k) ?_
    show own_Go _ _ _ _ T101 (mkF m 316 #[.val (.int p_1), .val (.int p_2), .val (.int p_3), .val (.int p_4), .val (.int (p_1.toInt8.toInt32)), .val (.int v3), .val (.int v4), .val (.int v5), .val (.ref b6), .val (.int v21), .val (.int v23), .val (.int (p_4.toInt8.toInt32)), .val (.ref b24), .val (.int r78), .val (.int v23), .val (.int (1 : Int32))] [(.int (1 : Int32))])
    refine own_go (fun _ k => XS.goto X101.here hx rfl (pc0 := 316) (pc' := 320) rfl (hb hby at_316) (by decide) (by decide) k) ?_
    show own_Go _ _ _ _ T101 (mkF m 320 #[.val (.int p_1), .val (.int p_2), .val (.int p_3), .val (.int p_4), .val (.int (p_1.toInt8.toInt32)), .val (.int v3), .val (.int v4), .val (.int v5), .val (.ref b6), .val (.int v21), .val (.int v23), .val (.int (p_4.toInt8.toInt32)), .val (.ref b24), .val (.int r78), .val (.int v23), .val (.int (1 : Int32))] [(.int (1 : Int32))])
    refine own_go (fun _ k => XS.istore X101.here hx rfl (hb hby at_320) rfl (l' := #[.val (.int p_1), .val (.int p_2), .val (.int p_3), .val (.int p_4), .val (.int (p_1.toInt8.toInt32)), .val (.int v3), .val (.int v4), .val (.int v5), .val (.ref b6), .val (.int v21), .val (.int v23), .val (.int (p_4.toInt8.toInt32)), .val (.ref b24), .val (.int r78), .val (.int v23), .val (.int (1 : Int32))]) rfl k) ?_
    show own_Go _ _ _ _ T101 (mkF m 322 #[.val (.int p_1), .val (.int p_2), .val (.int p_3), .val (.int p_4), .val (.int (p_1.toInt8.toInt32)), .val (.int v3), .val (.int v4), .val (.int v5), .val (.ref b6), .val (.int v21), .val (.int v23), .val (.int (p_4.toInt8.toInt32)), .val (.ref b24), .val (.int r78), .val (.int v23), .val (.int (1 : Int32))] [])
    refine own_go (fun _ k => XS.iload X101.here hx rfl (hb hby at_322) rfl k) ?_
    show own_Go _ _ _ _ T101 (mkF m 324 #[.val (.int p_1), .val (.int p_2), .val (.int p_3), .val (.int p_4), .val (.int (p_1.toInt8.toInt32)), .val (.int v3), .val (.int v4), .val (.int v5), .val (.ref b6), .val (.int v21), .val (.int v23), .val (.int (p_4.toInt8.toInt32)), .val (.ref b24), .val (.int r78), .val (.int v23), .val (.int (1 : Int32))] [(.int (1 : Int32))])
    have hc104 : ¬ ((1 : Int32) = 0) := by decide
    refine own_go (fun _ k => XS.ifNo X101.here hx rfl (hb hby at_324) rfl (Jvm.Free.XT.i0_eq_f hc104) k) ?_
    show own_Go _ _ _ _ T101 (mkF m 327 #[.val (.int p_1), .val (.int p_2), .val (.int p_3), .val (.int p_4), .val (.int (p_1.toInt8.toInt32)), .val (.int v3), .val (.int v4), .val (.int v5), .val (.ref b6), .val (.int v21), .val (.int v23), .val (.int (p_4.toInt8.toInt32)), .val (.ref b24), .val (.int r78), .val (.int v23), .val (.int (1 : Int32))] [])
    refine own_go (fun _ k => XS.aload X101.here hx rfl (hb hby at_327) rfl rfl k) ?_
    show own_Go _ _ _ _ T101 (mkF m 329 #[.val (.int p_1), .val (.int p_2), .val (.int p_3), .val (.int p_4), .val (.int (p_1.toInt8.toInt32)), .val (.int v3), .val (.int v4), .val (.int v5), .val (.ref b6), .val (.int v21), .val (.int v23), .val (.int (p_4.toInt8.toInt32)), .val (.ref b24), .val (.int r78), .val (.int v23), .val (.int (1 : Int32))] [(.ref b24)])
    refine own_go (fun _ k => XS.iconst X101.here hx rfl (hb hby at_329) k) ?_
    show own_Go _ _ _ _ T101 (mkF m 330 #[.val (.int p_1), .val (.int p_2), .val (.int p_3), .val (.int p_4), .val (.int (p_1.toInt8.toInt32)), .val (.int v3), .val (.int v4), .val (.int v5), .val (.ref b6), .val (.int v21), .val (.int v23), .val (.int (p_4.toInt8.toInt32)), .val (.ref b24), .val (.int r78), .val (.int v23), .val (.int (1 : Int32))] [(.int (2 : Int32)), (.ref b24)])
    obtain ⟨q105, c105, R105, s105, t105⟩ := id f79
    have hin105 : ¬ ((2 : Int32) < 0 ∨ c105.slots.size ≤ ((2 : Int32)).toNatClampNeg) := inb_of s105 ⟨by decide, by decide⟩
    have u105 : c105.slots[((2 : Int32)).toNatClampNeg]? = some (.int (own_hw (v21).toNatClampNeg v23 (p_4.toInt8.toInt32) (p_1.toInt8.toInt32) v3 v4 v5 2)) := own_at (k := 2) t105 s105 hin105 (by decide) (own_hx_hw _ _ _ _ _ _ _ _ _ rfl)
    refine own_go (fun _ k => X101.baloadBytes hx (j := (2 : Int32)) (v := (.int (own_hw (v21).toNatClampNeg v23 (p_4.toInt8.toInt32) (p_1.toInt8.toInt32) v3 v4 v5 2))) (by rw [e101]; exact R105.1) (State.isArrayOf_alike hZ.alike R105.2.1) R105.2.2 hin105 u105 (g := (mkF m 330 #[.val (.int p_1), .val (.int p_2), .val (.int p_3), .val (.int p_4), .val (.int (p_1.toInt8.toInt32)), .val (.int v3), .val (.int v4), .val (.int v5), .val (.ref b6), .val (.int v21), .val (.int v23), .val (.int (p_4.toInt8.toInt32)), .val (.ref b24), .val (.int r78), .val (.int v23), .val (.int (1 : Int32))] [(.int (2 : Int32)), (.ref b24)])) rfl rfl (hb hby at_330) _ k) ?_
    show own_Go _ _ _ _ T101 (mkF m 331 #[.val (.int p_1), .val (.int p_2), .val (.int p_3), .val (.int p_4), .val (.int (p_1.toInt8.toInt32)), .val (.int v3), .val (.int v4), .val (.int v5), .val (.ref b6), .val (.int v21), .val (.int v23), .val (.int (p_4.toInt8.toInt32)), .val (.ref b24), .val (.int r78), .val (.int v23), .val (.int (1 : Int32))] [(.int (own_hw (v21).toNatClampNeg v23 (p_4.toInt8.toInt32) (p_1.toInt8.toInt32) v3 v4 v5 2))])
    refine own_go (fun _ k => XS.iconst X101.here hx rfl (hb hby at_331) k) ?_
    show own_Go _ _ _ _ T101 (mkF m 332 #[.val (.int p_1), .val (.int p_2), .val (.int p_3), .val (.int p_4), .val (.int (p_1.toInt8.toInt32)), .val (.int v3), .val (.int v4), .val (.int v5), .val (.ref b6), .val (.int v21), .val (.int v23), .val (.int (p_4.toInt8.toInt32)), .val (.ref b24), .val (.int r78), .val (.int v23), .val (.int (1 : Int32))] [(.int (2 : Int32)), (.int (own_hw (v21).toNatClampNeg v23 (p_4.toInt8.toInt32) (p_1.toInt8.toInt32) v3 v4 v5 2))])
    refine own_go (fun _ k => XS.iloadN X101.here hx rfl (hb hby at_332) rfl k) ?_
    show own_Go _ _ _ _ T101 (mkF m 333 #[.val (.int p_1), .val (.int p_2), .val (.int p_3), .val (.int p_4), .val (.int (p_1.toInt8.toInt32)), .val (.int v3), .val (.int v4), .val (.int v5), .val (.ref b6), .val (.int v21), .val (.int v23), .val (.int (p_4.toInt8.toInt32)), .val (.ref b24), .val (.int r78), .val (.int v23), .val (.int (1 : Int32))] [(.int p_1), (.int (2 : Int32)), (.int (own_hw (v21).toNatClampNeg v23 (p_4.toInt8.toInt32) (p_1.toInt8.toInt32) v3 v4 v5 2))])
    refine own_go (fun _ k => XS.iload X101.here hx rfl (hb hby at_333) rfl k) ?_
    show own_Go _ _ _ _ T101 (mkF m 335 #[.val (.int p_1), .val (.int p_2), .val (.int p_3), .val (.int p_4), .val (.int (p_1.toInt8.toInt32)), .val (.int v3), .val (.int v4), .val (.int v5), .val (.ref b6), .val (.int v21), .val (.int v23), .val (.int (p_4.toInt8.toInt32)), .val (.ref b24), .val (.int r78), .val (.int v23), .val (.int (1 : Int32))] [(.int v21), (.int p_1), (.int (2 : Int32)), (.int (own_hw (v21).toNatClampNeg v23 (p_4.toInt8.toInt32) (p_1.toInt8.toInt32) v3 v4 v5 2))])
    refine own_go (fun _ k => XS.iload X101.here hx rfl (hb hby at_335) rfl k) ?_
    show own_Go _ _ _ _ T101 (mkF m 337 #[.val (.int p_1), .val (.int p_2), .val (.int p_3), .val (.int p_4), .val (.int (p_1.toInt8.toInt32)), .val (.int v3), .val (.int v4), .val (.int v5), .val (.ref b6), .val (.int v21), .val (.int v23), .val (.int (p_4.toInt8.toInt32)), .val (.ref b24), .val (.int r78), .val (.int v23), .val (.int (1 : Int32))] [(.int v23), (.int v21), (.int p_1), (.int (2 : Int32)), (.int (own_hw (v21).toNatClampNeg v23 (p_4.toInt8.toInt32) (p_1.toInt8.toInt32) v3 v4 v5 2))])
    refine own_go (fun _ k => XS.iload X101.here hx rfl (hb hby at_337) rfl k) ?_
    show own_Go _ _ _ _ T101 (mkF m 339 #[.val (.int p_1), .val (.int p_2), .val (.int p_3), .val (.int p_4), .val (.int (p_1.toInt8.toInt32)), .val (.int v3), .val (.int v4), .val (.int v5), .val (.ref b6), .val (.int v21), .val (.int v23), .val (.int (p_4.toInt8.toInt32)), .val (.ref b24), .val (.int r78), .val (.int v23), .val (.int (1 : Int32))] [(.int (p_4.toInt8.toInt32)), (.int v23), (.int v21), (.int p_1), (.int (2 : Int32)), (.int (own_hw (v21).toNatClampNeg v23 (p_4.toInt8.toInt32) (p_1.toInt8.toInt32) v3 v4 v5 2))])
    obtain ⟨_, _, ⟨T106, L106, k106, n106⟩, -, X106, ⟨Lc106, hQ106, l106, y106, z106⟩, st106⟩ := Jvm.LawKit.callS X101 hx (y := (⟨"com/example/honest_codec/honestcodec/IllFormedSequencePutHexPinLaw", "expectedAt", "(IIIIB)B"⟩ : MethodName)) hown (mvT hZ (hw _ (List.mem_of_getElem? (i := 8) rfl))) (mvT hZ (hw _ (List.mem_of_getElem? (i := 9) rfl))) (mvT hZ (hw _ (List.mem_of_getElem? (i := 10) rfl))) (mvT hZ (hw _ (List.mem_of_getElem? (i := 11) rfl))) (by decide) (backOf (W := 1) (own_rm2 l Z a0 hw [] (2 : Int32) p_1 v21 v23 (p_4.toInt8.toInt32)  T77.heap n0 (by omega) (own_nar_b _)) hZ (hw _ (List.mem_of_getElem? (i := 11) rfl)) (hw _ (List.mem_of_getElem? (i := 10) rfl)) (by decide) (by decide)) (g := (mkF m 339 #[.val (.int p_1), .val (.int p_2), .val (.int p_3), .val (.int p_4), .val (.int (p_1.toInt8.toInt32)), .val (.int v3), .val (.int v4), .val (.int v5), .val (.ref b6), .val (.int v21), .val (.int v23), .val (.int (p_4.toInt8.toInt32)), .val (.ref b24), .val (.int r78), .val (.int v23), .val (.int (1 : Int32))] [(.int (p_4.toInt8.toInt32)), (.int v23), (.int v21), (.int p_1), (.int (2 : Int32)), (.int (own_hw (v21).toNatClampNeg v23 (p_4.toInt8.toInt32) (p_1.toInt8.toInt32) v3 v4 v5 2))])) rfl (by rw [hml]; rfl) (argsL := [(.int (2 : Int32)), (.int p_1), (.int v21), (.int v23), (.int (p_4.toInt8.toInt32))]) (rest := [(.int (own_hw (v21).toNatClampNeg v23 (p_4.toInt8.toInt32) (p_1.toInt8.toInt32) v3 v4 v5 2))]) (lenOf own_pd2 rfl) rfl (by show 2 * 0 + _ ≤ _; exact Nat.le_of_eq rfl) (hb hby at_339) (fun _ _ => ⟨rfl, e101, (by show k101 + _ ≤ _; rw [y101]; decide), (by show n101 + _ ≤ _; rw [z101]; decide)⟩)
    dsimp only [Pt.U, Pt.locs, Pt.cells, Pt.slots] at X106 l106 y106 z106 st106 hQ106
    have y106 : k106 = 2 := own_addeq y106 (congrArg (fun q => q) y101) rfl
    have z106 : n106 = 20 := own_addeq z106 (congrArg (fun q => q) z101) rfl
    obtain ⟨r107, rfl, N106q, hr_r107, e106⟩ := hQ106
    have N106 : Fr n0 L106 := by rw [l106]; exact Fr.app N101 N106q
    refine own_go (fun _ k => st106 _ k) ?_
    show own_Go _ _ _ _ T106 (mkF m 342 #[.val (.int p_1), .val (.int p_2), .val (.int p_3), .val (.int p_4), .val (.int (p_1.toInt8.toInt32)), .val (.int v3), .val (.int v4), .val (.int v5), .val (.ref b6), .val (.int v21), .val (.int v23), .val (.int (p_4.toInt8.toInt32)), .val (.ref b24), .val (.int r78), .val (.int v23), .val (.int (1 : Int32))] [(.int r107), (.int (own_hw (v21).toNatClampNeg v23 (p_4.toInt8.toInt32) (p_1.toInt8.toInt32) v3 v4 v5 2))])
    have hc108 : (own_hw (v21).toNatClampNeg v23 (p_4.toInt8.toInt32) (p_1.toInt8.toInt32) v3 v4 v5 2) = r107 := own_t0_5 p_1 p_2 p_3 p_4 v3 v4 v5 v21 v23 r107 hdv3 hdv4 hdv5 hdv21 hdv23 hl hp hr_r107
    refine own_go (fun _ k => XS.icmpNo X106.here hx rfl (hb hby at_342) rfl (Jvm.Free.XT.ii_ne_f hc108) k) ?_
    show own_Go _ _ _ _ T106 (mkF m 345 #[.val (.int p_1), .val (.int p_2), .val (.int p_3), .val (.int p_4), .val (.int (p_1.toInt8.toInt32)), .val (.int v3), .val (.int v4), .val (.int v5), .val (.ref b6), .val (.int v21), .val (.int v23), .val (.int (p_4.toInt8.toInt32)), .val (.ref b24), .val (.int r78), .val (.int v23), .val (.int (1 : Int32))] [])
    refine own_go (fun _ k => XS.iconst X106.here hx rfl (hb hby at_345) k) ?_
    show own_Go _ _ _ _ T106 (mkF m 346 #[.val (.int p_1), .val (.int p_2), .val (.int p_3), .val (.int p_4), .val (.int (p_1.toInt8.toInt32)), .val (.int v3), .val (.int v4), .val (.int v5), .val (.ref b6), .val (.int v21), .val (.int v23), .val (.int (p_4.toInt8.toInt32)), .val (.ref b24), .val (.int r78), .val (.int v23), .val (.int (1 : Int32))] [(.int (1 : Int32))])
    refine own_go (fun _ k => XS.goto X106.here hx rfl (pc0 := 346) (pc' := 350) rfl (hb hby at_346) (by decide) (by decide) k) ?_
    show own_Go _ _ _ _ T106 (mkF m 350 #[.val (.int p_1), .val (.int p_2), .val (.int p_3), .val (.int p_4), .val (.int (p_1.toInt8.toInt32)), .val (.int v3), .val (.int v4), .val (.int v5), .val (.ref b6), .val (.int v21), .val (.int v23), .val (.int (p_4.toInt8.toInt32)), .val (.ref b24), .val (.int r78), .val (.int v23), .val (.int (1 : Int32))] [(.int (1 : Int32))])
    refine own_go (fun _ k => XS.istore X106.here hx rfl (hb hby at_350) rfl (l' := #[.val (.int p_1), .val (.int p_2), .val (.int p_3), .val (.int p_4), .val (.int (p_1.toInt8.toInt32)), .val (.int v3), .val (.int v4), .val (.int v5), .val (.ref b6), .val (.int v21), .val (.int v23), .val (.int (p_4.toInt8.toInt32)), .val (.ref b24), .val (.int r78), .val (.int v23), .val (.int (1 : Int32))]) rfl k) ?_
    show own_Go _ _ _ _ T106 (mkF m 352 #[.val (.int p_1), .val (.int p_2), .val (.int p_3), .val (.int p_4), .val (.int (p_1.toInt8.toInt32)), .val (.int v3), .val (.int v4), .val (.int v5), .val (.ref b6), .val (.int v21), .val (.int v23), .val (.int (p_4.toInt8.toInt32)), .val (.ref b24), .val (.int r78), .val (.int v23), .val (.int (1 : Int32))] [])
    refine own_go (fun _ k => XS.iload X106.here hx rfl (hb hby at_352) rfl k) ?_
    show own_Go _ _ _ _ T106 (mkF m 354 #[.val (.int p_1), .val (.int p_2), .val (.int p_3), .val (.int p_4), .val (.int (p_1.toInt8.toInt32)), .val (.int v3), .val (.int v4), .val (.int v5), .val (.ref b6), .val (.int v21), .val (.int v23), .val (.int (p_4.toInt8.toInt32)), .val (.ref b24), .val (.int r78), .val (.int v23), .val (.int (1 : Int32))] [(.int (1 : Int32))])
    have hc109 : ¬ ((1 : Int32) = 0) := by decide
    refine own_go (fun _ k => XS.ifNo X106.here hx rfl (hb hby at_354) rfl (Jvm.Free.XT.i0_eq_f hc109) k) ?_
    show own_Go _ _ _ _ T106 (mkF m 357 #[.val (.int p_1), .val (.int p_2), .val (.int p_3), .val (.int p_4), .val (.int (p_1.toInt8.toInt32)), .val (.int v3), .val (.int v4), .val (.int v5), .val (.ref b6), .val (.int v21), .val (.int v23), .val (.int (p_4.toInt8.toInt32)), .val (.ref b24), .val (.int r78), .val (.int v23), .val (.int (1 : Int32))] [])
    refine own_go (fun _ k => XS.aload X106.here hx rfl (hb hby at_357) rfl rfl k) ?_
    show own_Go _ _ _ _ T106 (mkF m 359 #[.val (.int p_1), .val (.int p_2), .val (.int p_3), .val (.int p_4), .val (.int (p_1.toInt8.toInt32)), .val (.int v3), .val (.int v4), .val (.int v5), .val (.ref b6), .val (.int v21), .val (.int v23), .val (.int (p_4.toInt8.toInt32)), .val (.ref b24), .val (.int r78), .val (.int v23), .val (.int (1 : Int32))] [(.ref b24)])
    refine own_go (fun _ k => XS.iconst X106.here hx rfl (hb hby at_359) k) ?_
    show own_Go _ _ _ _ T106 (mkF m 360 #[.val (.int p_1), .val (.int p_2), .val (.int p_3), .val (.int p_4), .val (.int (p_1.toInt8.toInt32)), .val (.int v3), .val (.int v4), .val (.int v5), .val (.ref b6), .val (.int v21), .val (.int v23), .val (.int (p_4.toInt8.toInt32)), .val (.ref b24), .val (.int r78), .val (.int v23), .val (.int (1 : Int32))] [(.int (3 : Int32)), (.ref b24)])
    obtain ⟨q110, c110, R110, s110, t110⟩ := id f79
    have hin110 : ¬ ((3 : Int32) < 0 ∨ c110.slots.size ≤ ((3 : Int32)).toNatClampNeg) := inb_of s110 ⟨by decide, by decide⟩
    have u110 : c110.slots[((3 : Int32)).toNatClampNeg]? = some (.int (own_hw (v21).toNatClampNeg v23 (p_4.toInt8.toInt32) (p_1.toInt8.toInt32) v3 v4 v5 3)) := own_at (k := 3) t110 s110 hin110 (by decide) (own_hx_hw _ _ _ _ _ _ _ _ _ rfl)
    refine own_go (fun _ k => X106.baloadBytes hx (j := (3 : Int32)) (v := (.int (own_hw (v21).toNatClampNeg v23 (p_4.toInt8.toInt32) (p_1.toInt8.toInt32) v3 v4 v5 3))) (by rw [e106]; exact R110.1) (State.isArrayOf_alike hZ.alike R110.2.1) R110.2.2 hin110 u110 (g := (mkF m 360 #[.val (.int p_1), .val (.int p_2), .val (.int p_3), .val (.int p_4), .val (.int (p_1.toInt8.toInt32)), .val (.int v3), .val (.int v4), .val (.int v5), .val (.ref b6), .val (.int v21), .val (.int v23), .val (.int (p_4.toInt8.toInt32)), .val (.ref b24), .val (.int r78), .val (.int v23), .val (.int (1 : Int32))] [(.int (3 : Int32)), (.ref b24)])) rfl rfl (hb hby at_360) _ k) ?_
    show own_Go _ _ _ _ T106 (mkF m 361 #[.val (.int p_1), .val (.int p_2), .val (.int p_3), .val (.int p_4), .val (.int (p_1.toInt8.toInt32)), .val (.int v3), .val (.int v4), .val (.int v5), .val (.ref b6), .val (.int v21), .val (.int v23), .val (.int (p_4.toInt8.toInt32)), .val (.ref b24), .val (.int r78), .val (.int v23), .val (.int (1 : Int32))] [(.int (own_hw (v21).toNatClampNeg v23 (p_4.toInt8.toInt32) (p_1.toInt8.toInt32) v3 v4 v5 3))])
    refine own_go (fun _ k => XS.iconst X106.here hx rfl (hb hby at_361) k) ?_
    show own_Go _ _ _ _ T106 (mkF m 362 #[.val (.int p_1), .val (.int p_2), .val (.int p_3), .val (.int p_4), .val (.int (p_1.toInt8.toInt32)), .val (.int v3), .val (.int v4), .val (.int v5), .val (.ref b6), .val (.int v21), .val (.int v23), .val (.int (p_4.toInt8.toInt32)), .val (.ref b24), .val (.int r78), .val (.int v23), .val (.int (1 : Int32))] [(.int (3 : Int32)), (.int (own_hw (v21).toNatClampNeg v23 (p_4.toInt8.toInt32) (p_1.toInt8.toInt32) v3 v4 v5 3))])
    refine own_go (fun _ k => XS.iloadN X106.here hx rfl (hb hby at_362) rfl k) ?_
    show own_Go _ _ _ _ T106 (mkF m 363 #[.val (.int p_1), .val (.int p_2), .val (.int p_3), .val (.int p_4), .val (.int (p_1.toInt8.toInt32)), .val (.int v3), .val (.int v4), .val (.int v5), .val (.ref b6), .val (.int v21), .val (.int v23), .val (.int (p_4.toInt8.toInt32)), .val (.ref b24), .val (.int r78), .val (.int v23), .val (.int (1 : Int32))] [(.int p_1), (.int (3 : Int32)), (.int (own_hw (v21).toNatClampNeg v23 (p_4.toInt8.toInt32) (p_1.toInt8.toInt32) v3 v4 v5 3))])
    refine own_go (fun _ k => XS.iload X106.here hx rfl (hb hby at_363) rfl k) ?_
    show own_Go _ _ _ _ T106 (mkF m 365 #[.val (.int p_1), .val (.int p_2), .val (.int p_3), .val (.int p_4), .val (.int (p_1.toInt8.toInt32)), .val (.int v3), .val (.int v4), .val (.int v5), .val (.ref b6), .val (.int v21), .val (.int v23), .val (.int (p_4.toInt8.toInt32)), .val (.ref b24), .val (.int r78), .val (.int v23), .val (.int (1 : Int32))] [(.int v21), (.int p_1), (.int (3 : Int32)), (.int (own_hw (v21).toNatClampNeg v23 (p_4.toInt8.toInt32) (p_1.toInt8.toInt32) v3 v4 v5 3))])
    refine own_go (fun _ k => XS.iload X106.here hx rfl (hb hby at_365) rfl k) ?_
    show own_Go _ _ _ _ T106 (mkF m 367 #[.val (.int p_1), .val (.int p_2), .val (.int p_3), .val (.int p_4), .val (.int (p_1.toInt8.toInt32)), .val (.int v3), .val (.int v4), .val (.int v5), .val (.ref b6), .val (.int v21), .val (.int v23), .val (.int (p_4.toInt8.toInt32)), .val (.ref b24), .val (.int r78), .val (.int v23), .val (.int (1 : Int32))] [(.int v23), (.int v21), (.int p_1), (.int (3 : Int32)), (.int (own_hw (v21).toNatClampNeg v23 (p_4.toInt8.toInt32) (p_1.toInt8.toInt32) v3 v4 v5 3))])
    refine own_go (fun _ k => XS.iload X106.here hx rfl (hb hby at_367) rfl k) ?_
    show own_Go _ _ _ _ T106 (mkF m 369 #[.val (.int p_1), .val (.int p_2), .val (.int p_3), .val (.int p_4), .val (.int (p_1.toInt8.toInt32)), .val (.int v3), .val (.int v4), .val (.int v5), .val (.ref b6), .val (.int v21), .val (.int v23), .val (.int (p_4.toInt8.toInt32)), .val (.ref b24), .val (.int r78), .val (.int v23), .val (.int (1 : Int32))] [(.int (p_4.toInt8.toInt32)), (.int v23), (.int v21), (.int p_1), (.int (3 : Int32)), (.int (own_hw (v21).toNatClampNeg v23 (p_4.toInt8.toInt32) (p_1.toInt8.toInt32) v3 v4 v5 3))])
    obtain ⟨_, _, ⟨T111, L111, k111, n111⟩, -, X111, ⟨Lc111, hQ111, l111, y111, z111⟩, st111⟩ := Jvm.LawKit.callS X106 hx (y := (⟨"com/example/honest_codec/honestcodec/IllFormedSequencePutHexPinLaw", "expectedAt", "(IIIIB)B"⟩ : MethodName)) hown (mvT hZ (hw _ (List.mem_of_getElem? (i := 8) rfl))) (mvT hZ (hw _ (List.mem_of_getElem? (i := 9) rfl))) (mvT hZ (hw _ (List.mem_of_getElem? (i := 10) rfl))) (mvT hZ (hw _ (List.mem_of_getElem? (i := 11) rfl))) (by decide) (backOf (W := 1) (own_rm2 l Z a0 hw [] (3 : Int32) p_1 v21 v23 (p_4.toInt8.toInt32)  T77.heap n0 (by omega) (own_nar_b _)) hZ (hw _ (List.mem_of_getElem? (i := 11) rfl)) (hw _ (List.mem_of_getElem? (i := 10) rfl)) (by decide) (by decide)) (g := (mkF m 369 #[.val (.int p_1), .val (.int p_2), .val (.int p_3), .val (.int p_4), .val (.int (p_1.toInt8.toInt32)), .val (.int v3), .val (.int v4), .val (.int v5), .val (.ref b6), .val (.int v21), .val (.int v23), .val (.int (p_4.toInt8.toInt32)), .val (.ref b24), .val (.int r78), .val (.int v23), .val (.int (1 : Int32))] [(.int (p_4.toInt8.toInt32)), (.int v23), (.int v21), (.int p_1), (.int (3 : Int32)), (.int (own_hw (v21).toNatClampNeg v23 (p_4.toInt8.toInt32) (p_1.toInt8.toInt32) v3 v4 v5 3))])) rfl (by rw [hml]; rfl) (argsL := [(.int (3 : Int32)), (.int p_1), (.int v21), (.int v23), (.int (p_4.toInt8.toInt32))]) (rest := [(.int (own_hw (v21).toNatClampNeg v23 (p_4.toInt8.toInt32) (p_1.toInt8.toInt32) v3 v4 v5 3))]) (lenOf own_pd2 rfl) rfl (by show 2 * 0 + _ ≤ _; exact Nat.le_of_eq rfl) (hb hby at_369) (fun _ _ => ⟨rfl, e106, (by show k106 + _ ≤ _; rw [y106]; decide), (by show n106 + _ ≤ _; rw [z106]; decide)⟩)
    dsimp only [Pt.U, Pt.locs, Pt.cells, Pt.slots] at X111 l111 y111 z111 st111 hQ111
    have y111 : k111 = 2 := own_addeq y111 (congrArg (fun q => q) y106) rfl
    have z111 : n111 = 20 := own_addeq z111 (congrArg (fun q => q) z106) rfl
    obtain ⟨r112, rfl, N111q, hr_r112, e111⟩ := hQ111
    have N111 : Fr n0 L111 := by rw [l111]; exact Fr.app N106 N111q
    refine own_go (fun _ k => st111 _ k) ?_
    show own_Go _ _ _ _ T111 (mkF m 372 #[.val (.int p_1), .val (.int p_2), .val (.int p_3), .val (.int p_4), .val (.int (p_1.toInt8.toInt32)), .val (.int v3), .val (.int v4), .val (.int v5), .val (.ref b6), .val (.int v21), .val (.int v23), .val (.int (p_4.toInt8.toInt32)), .val (.ref b24), .val (.int r78), .val (.int v23), .val (.int (1 : Int32))] [(.int r112), (.int (own_hw (v21).toNatClampNeg v23 (p_4.toInt8.toInt32) (p_1.toInt8.toInt32) v3 v4 v5 3))])
    have hc113 : (own_hw (v21).toNatClampNeg v23 (p_4.toInt8.toInt32) (p_1.toInt8.toInt32) v3 v4 v5 3) = r112 := own_t0_6 p_1 p_2 p_3 p_4 v3 v4 v5 v21 v23 r112 hdv3 hdv4 hdv5 hdv21 hdv23 hl hp hr_r112
    refine own_go (fun _ k => XS.icmpNo X111.here hx rfl (hb hby at_372) rfl (Jvm.Free.XT.ii_ne_f hc113) k) ?_
    show own_Go _ _ _ _ T111 (mkF m 375 #[.val (.int p_1), .val (.int p_2), .val (.int p_3), .val (.int p_4), .val (.int (p_1.toInt8.toInt32)), .val (.int v3), .val (.int v4), .val (.int v5), .val (.ref b6), .val (.int v21), .val (.int v23), .val (.int (p_4.toInt8.toInt32)), .val (.ref b24), .val (.int r78), .val (.int v23), .val (.int (1 : Int32))] [])
    refine own_go (fun _ k => XS.iconst X111.here hx rfl (hb hby at_375) k) ?_
    show own_Go _ _ _ _ T111 (mkF m 376 #[.val (.int p_1), .val (.int p_2), .val (.int p_3), .val (.int p_4), .val (.int (p_1.toInt8.toInt32)), .val (.int v3), .val (.int v4), .val (.int v5), .val (.ref b6), .val (.int v21), .val (.int v23), .val (.int (p_4.toInt8.toInt32)), .val (.ref b24), .val (.int r78), .val (.int v23), .val (.int (1 : Int32))] [(.int (1 : Int32))])
    refine own_go (fun _ k => XS.goto X111.here hx rfl (pc0 := 376) (pc' := 380) rfl (hb hby at_376) (by decide) (by decide) k) ?_
    show own_Go _ _ _ _ T111 (mkF m 380 #[.val (.int p_1), .val (.int p_2), .val (.int p_3), .val (.int p_4), .val (.int (p_1.toInt8.toInt32)), .val (.int v3), .val (.int v4), .val (.int v5), .val (.ref b6), .val (.int v21), .val (.int v23), .val (.int (p_4.toInt8.toInt32)), .val (.ref b24), .val (.int r78), .val (.int v23), .val (.int (1 : Int32))] [(.int (1 : Int32))])
    refine own_go (fun _ k => XS.istore X111.here hx rfl (hb hby at_380) rfl (l' := #[.val (.int p_1), .val (.int p_2), .val (.int p_3), .val (.int p_4), .val (.int (p_1.toInt8.toInt32)), .val (.int v3), .val (.int v4), .val (.int v5), .val (.ref b6), .val (.int v21), .val (.int v23), .val (.int (p_4.toInt8.toInt32)), .val (.ref b24), .val (.int r78), .val (.int v23), .val (.int (1 : Int32))]) rfl k) ?_
    show own_Go _ _ _ _ T111 (mkF m 382 #[.val (.int p_1), .val (.int p_2), .val (.int p_3), .val (.int p_4), .val (.int (p_1.toInt8.toInt32)), .val (.int v3), .val (.int v4), .val (.int v5), .val (.ref b6), .val (.int v21), .val (.int v23), .val (.int (p_4.toInt8.toInt32)), .val (.ref b24), .val (.int r78), .val (.int v23), .val (.int (1 : Int32))] [])
    refine own_go (fun _ k => XS.iload X111.here hx rfl (hb hby at_382) rfl k) ?_
    show own_Go _ _ _ _ T111 (mkF m 384 #[.val (.int p_1), .val (.int p_2), .val (.int p_3), .val (.int p_4), .val (.int (p_1.toInt8.toInt32)), .val (.int v3), .val (.int v4), .val (.int v5), .val (.ref b6), .val (.int v21), .val (.int v23), .val (.int (p_4.toInt8.toInt32)), .val (.ref b24), .val (.int r78), .val (.int v23), .val (.int (1 : Int32))] [(.int (1 : Int32))])
    have hc114 : ¬ ((1 : Int32) = 0) := by decide
    refine own_go (fun _ k => XS.ifNo X111.here hx rfl (hb hby at_384) rfl (Jvm.Free.XT.i0_eq_f hc114) k) ?_
    show own_Go _ _ _ _ T111 (mkF m 387 #[.val (.int p_1), .val (.int p_2), .val (.int p_3), .val (.int p_4), .val (.int (p_1.toInt8.toInt32)), .val (.int v3), .val (.int v4), .val (.int v5), .val (.ref b6), .val (.int v21), .val (.int v23), .val (.int (p_4.toInt8.toInt32)), .val (.ref b24), .val (.int r78), .val (.int v23), .val (.int (1 : Int32))] [])
    refine own_go (fun _ k => XS.aload X111.here hx rfl (hb hby at_387) rfl rfl k) ?_
    show own_Go _ _ _ _ T111 (mkF m 389 #[.val (.int p_1), .val (.int p_2), .val (.int p_3), .val (.int p_4), .val (.int (p_1.toInt8.toInt32)), .val (.int v3), .val (.int v4), .val (.int v5), .val (.ref b6), .val (.int v21), .val (.int v23), .val (.int (p_4.toInt8.toInt32)), .val (.ref b24), .val (.int r78), .val (.int v23), .val (.int (1 : Int32))] [(.ref b24)])
    refine own_go (fun _ k => XS.iconst X111.here hx rfl (hb hby at_389) k) ?_
    show own_Go _ _ _ _ T111 (mkF m 390 #[.val (.int p_1), .val (.int p_2), .val (.int p_3), .val (.int p_4), .val (.int (p_1.toInt8.toInt32)), .val (.int v3), .val (.int v4), .val (.int v5), .val (.ref b6), .val (.int v21), .val (.int v23), .val (.int (p_4.toInt8.toInt32)), .val (.ref b24), .val (.int r78), .val (.int v23), .val (.int (1 : Int32))] [(.int (4 : Int32)), (.ref b24)])
    obtain ⟨q115, c115, R115, s115, t115⟩ := id f79
    have hin115 : ¬ ((4 : Int32) < 0 ∨ c115.slots.size ≤ ((4 : Int32)).toNatClampNeg) := inb_of s115 ⟨by decide, by decide⟩
    have u115 : c115.slots[((4 : Int32)).toNatClampNeg]? = some (.int (own_hw (v21).toNatClampNeg v23 (p_4.toInt8.toInt32) (p_1.toInt8.toInt32) v3 v4 v5 4)) := own_at (k := 4) t115 s115 hin115 (by decide) (own_hx_hw _ _ _ _ _ _ _ _ _ rfl)
    refine own_go (fun _ k => X111.baloadBytes hx (j := (4 : Int32)) (v := (.int (own_hw (v21).toNatClampNeg v23 (p_4.toInt8.toInt32) (p_1.toInt8.toInt32) v3 v4 v5 4))) (by rw [e111]; exact R115.1) (State.isArrayOf_alike hZ.alike R115.2.1) R115.2.2 hin115 u115 (g := (mkF m 390 #[.val (.int p_1), .val (.int p_2), .val (.int p_3), .val (.int p_4), .val (.int (p_1.toInt8.toInt32)), .val (.int v3), .val (.int v4), .val (.int v5), .val (.ref b6), .val (.int v21), .val (.int v23), .val (.int (p_4.toInt8.toInt32)), .val (.ref b24), .val (.int r78), .val (.int v23), .val (.int (1 : Int32))] [(.int (4 : Int32)), (.ref b24)])) rfl rfl (hb hby at_390) _ k) ?_
    show own_Go _ _ _ _ T111 (mkF m 391 #[.val (.int p_1), .val (.int p_2), .val (.int p_3), .val (.int p_4), .val (.int (p_1.toInt8.toInt32)), .val (.int v3), .val (.int v4), .val (.int v5), .val (.ref b6), .val (.int v21), .val (.int v23), .val (.int (p_4.toInt8.toInt32)), .val (.ref b24), .val (.int r78), .val (.int v23), .val (.int (1 : Int32))] [(.int (own_hw (v21).toNatClampNeg v23 (p_4.toInt8.toInt32) (p_1.toInt8.toInt32) v3 v4 v5 4))])
    refine own_go (fun _ k => XS.iconst X111.here hx rfl (hb hby at_391) k) ?_
    show own_Go _ _ _ _ T111 (mkF m 392 #[.val (.int p_1), .val (.int p_2), .val (.int p_3), .val (.int p_4), .val (.int (p_1.toInt8.toInt32)), .val (.int v3), .val (.int v4), .val (.int v5), .val (.ref b6), .val (.int v21), .val (.int v23), .val (.int (p_4.toInt8.toInt32)), .val (.ref b24), .val (.int r78), .val (.int v23), .val (.int (1 : Int32))] [(.int (4 : Int32)), (.int (own_hw (v21).toNatClampNeg v23 (p_4.toInt8.toInt32) (p_1.toInt8.toInt32) v3 v4 v5 4))])
    refine own_go (fun _ k => XS.iloadN X111.here hx rfl (hb hby at_392) rfl k) ?_
    show own_Go _ _ _ _ T111 (mkF m 393 #[.val (.int p_1), .val (.int p_2), .val (.int p_3), .val (.int p_4), .val (.int (p_1.toInt8.toInt32)), .val (.int v3), .val (.int v4), .val (.int v5), .val (.ref b6), .val (.int v21), .val (.int v23), .val (.int (p_4.toInt8.toInt32)), .val (.ref b24), .val (.int r78), .val (.int v23), .val (.int (1 : Int32))] [(.int p_1), (.int (4 : Int32)), (.int (own_hw (v21).toNatClampNeg v23 (p_4.toInt8.toInt32) (p_1.toInt8.toInt32) v3 v4 v5 4))])
    refine own_go (fun _ k => XS.iload X111.here hx rfl (hb hby at_393) rfl k) ?_
    show own_Go _ _ _ _ T111 (mkF m 395 #[.val (.int p_1), .val (.int p_2), .val (.int p_3), .val (.int p_4), .val (.int (p_1.toInt8.toInt32)), .val (.int v3), .val (.int v4), .val (.int v5), .val (.ref b6), .val (.int v21), .val (.int v23), .val (.int (p_4.toInt8.toInt32)), .val (.ref b24), .val (.int r78), .val (.int v23), .val (.int (1 : Int32))] [(.int v21), (.int p_1), (.int (4 : Int32)), (.int (own_hw (v21).toNatClampNeg v23 (p_4.toInt8.toInt32) (p_1.toInt8.toInt32) v3 v4 v5 4))])
    refine own_go (fun _ k => XS.iload X111.here hx rfl (hb hby at_395) rfl k) ?_
    show own_Go _ _ _ _ T111 (mkF m 397 #[.val (.int p_1), .val (.int p_2), .val (.int p_3), .val (.int p_4), .val (.int (p_1.toInt8.toInt32)), .val (.int v3), .val (.int v4), .val (.int v5), .val (.ref b6), .val (.int v21), .val (.int v23), .val (.int (p_4.toInt8.toInt32)), .val (.ref b24), .val (.int r78), .val (.int v23), .val (.int (1 : Int32))] [(.int v23), (.int v21), (.int p_1), (.int (4 : Int32)), (.int (own_hw (v21).toNatClampNeg v23 (p_4.toInt8.toInt32) (p_1.toInt8.toInt32) v3 v4 v5 4))])
    refine own_go (fun _ k => XS.iload X111.here hx rfl (hb hby at_397) rfl k) ?_
    show own_Go _ _ _ _ T111 (mkF m 399 #[.val (.int p_1), .val (.int p_2), .val (.int p_3), .val (.int p_4), .val (.int (p_1.toInt8.toInt32)), .val (.int v3), .val (.int v4), .val (.int v5), .val (.ref b6), .val (.int v21), .val (.int v23), .val (.int (p_4.toInt8.toInt32)), .val (.ref b24), .val (.int r78), .val (.int v23), .val (.int (1 : Int32))] [(.int (p_4.toInt8.toInt32)), (.int v23), (.int v21), (.int p_1), (.int (4 : Int32)), (.int (own_hw (v21).toNatClampNeg v23 (p_4.toInt8.toInt32) (p_1.toInt8.toInt32) v3 v4 v5 4))])
    obtain ⟨_, _, ⟨T116, L116, k116, n116⟩, -, X116, ⟨Lc116, hQ116, l116, y116, z116⟩, st116⟩ := Jvm.LawKit.callS X111 hx (y := (⟨"com/example/honest_codec/honestcodec/IllFormedSequencePutHexPinLaw", "expectedAt", "(IIIIB)B"⟩ : MethodName)) hown (mvT hZ (hw _ (List.mem_of_getElem? (i := 8) rfl))) (mvT hZ (hw _ (List.mem_of_getElem? (i := 9) rfl))) (mvT hZ (hw _ (List.mem_of_getElem? (i := 10) rfl))) (mvT hZ (hw _ (List.mem_of_getElem? (i := 11) rfl))) (by decide) (backOf (W := 1) (own_rm2 l Z a0 hw [] (4 : Int32) p_1 v21 v23 (p_4.toInt8.toInt32)  T77.heap n0 (by omega) (own_nar_b _)) hZ (hw _ (List.mem_of_getElem? (i := 11) rfl)) (hw _ (List.mem_of_getElem? (i := 10) rfl)) (by decide) (by decide)) (g := (mkF m 399 #[.val (.int p_1), .val (.int p_2), .val (.int p_3), .val (.int p_4), .val (.int (p_1.toInt8.toInt32)), .val (.int v3), .val (.int v4), .val (.int v5), .val (.ref b6), .val (.int v21), .val (.int v23), .val (.int (p_4.toInt8.toInt32)), .val (.ref b24), .val (.int r78), .val (.int v23), .val (.int (1 : Int32))] [(.int (p_4.toInt8.toInt32)), (.int v23), (.int v21), (.int p_1), (.int (4 : Int32)), (.int (own_hw (v21).toNatClampNeg v23 (p_4.toInt8.toInt32) (p_1.toInt8.toInt32) v3 v4 v5 4))])) rfl (by rw [hml]; rfl) (argsL := [(.int (4 : Int32)), (.int p_1), (.int v21), (.int v23), (.int (p_4.toInt8.toInt32))]) (rest := [(.int (own_hw (v21).toNatClampNeg v23 (p_4.toInt8.toInt32) (p_1.toInt8.toInt32) v3 v4 v5 4))]) (lenOf own_pd2 rfl) rfl (by show 2 * 0 + _ ≤ _; exact Nat.le_of_eq rfl) (hb hby at_399) (fun _ _ => ⟨rfl, e111, (by show k111 + _ ≤ _; rw [y111]; decide), (by show n111 + _ ≤ _; rw [z111]; decide)⟩)
    dsimp only [Pt.U, Pt.locs, Pt.cells, Pt.slots] at X116 l116 y116 z116 st116 hQ116
    have y116 : k116 = 2 := own_addeq y116 (congrArg (fun q => q) y111) rfl
    have z116 : n116 = 20 := own_addeq z116 (congrArg (fun q => q) z111) rfl
    obtain ⟨r117, rfl, N116q, hr_r117, e116⟩ := hQ116
    have N116 : Fr n0 L116 := by rw [l116]; exact Fr.app N111 N116q
    refine own_go (fun _ k => st116 _ k) ?_
    show own_Go _ _ _ _ T116 (mkF m 402 #[.val (.int p_1), .val (.int p_2), .val (.int p_3), .val (.int p_4), .val (.int (p_1.toInt8.toInt32)), .val (.int v3), .val (.int v4), .val (.int v5), .val (.ref b6), .val (.int v21), .val (.int v23), .val (.int (p_4.toInt8.toInt32)), .val (.ref b24), .val (.int r78), .val (.int v23), .val (.int (1 : Int32))] [(.int r117), (.int (own_hw (v21).toNatClampNeg v23 (p_4.toInt8.toInt32) (p_1.toInt8.toInt32) v3 v4 v5 4))])
    have hc118 : (own_hw (v21).toNatClampNeg v23 (p_4.toInt8.toInt32) (p_1.toInt8.toInt32) v3 v4 v5 4) = r117 := own_t0_7 p_1 p_2 p_3 p_4 v3 v4 v5 v21 v23 r117 hdv3 hdv4 hdv5 hdv21 hdv23 hl hp hr_r117
    refine own_go (fun _ k => XS.icmpNo X116.here hx rfl (hb hby at_402) rfl (Jvm.Free.XT.ii_ne_f hc118) k) ?_
    show own_Go _ _ _ _ T116 (mkF m 405 #[.val (.int p_1), .val (.int p_2), .val (.int p_3), .val (.int p_4), .val (.int (p_1.toInt8.toInt32)), .val (.int v3), .val (.int v4), .val (.int v5), .val (.ref b6), .val (.int v21), .val (.int v23), .val (.int (p_4.toInt8.toInt32)), .val (.ref b24), .val (.int r78), .val (.int v23), .val (.int (1 : Int32))] [])
    refine own_go (fun _ k => XS.iconst X116.here hx rfl (hb hby at_405) k) ?_
    show own_Go _ _ _ _ T116 (mkF m 406 #[.val (.int p_1), .val (.int p_2), .val (.int p_3), .val (.int p_4), .val (.int (p_1.toInt8.toInt32)), .val (.int v3), .val (.int v4), .val (.int v5), .val (.ref b6), .val (.int v21), .val (.int v23), .val (.int (p_4.toInt8.toInt32)), .val (.ref b24), .val (.int r78), .val (.int v23), .val (.int (1 : Int32))] [(.int (1 : Int32))])
    refine own_go (fun _ k => XS.goto X116.here hx rfl (pc0 := 406) (pc' := 410) rfl (hb hby at_406) (by decide) (by decide) k) ?_
    show own_Go _ _ _ _ T116 (mkF m 410 #[.val (.int p_1), .val (.int p_2), .val (.int p_3), .val (.int p_4), .val (.int (p_1.toInt8.toInt32)), .val (.int v3), .val (.int v4), .val (.int v5), .val (.ref b6), .val (.int v21), .val (.int v23), .val (.int (p_4.toInt8.toInt32)), .val (.ref b24), .val (.int r78), .val (.int v23), .val (.int (1 : Int32))] [(.int (1 : Int32))])
    refine own_go (fun _ k => XS.istore X116.here hx rfl (hb hby at_410) rfl (l' := #[.val (.int p_1), .val (.int p_2), .val (.int p_3), .val (.int p_4), .val (.int (p_1.toInt8.toInt32)), .val (.int v3), .val (.int v4), .val (.int v5), .val (.ref b6), .val (.int v21), .val (.int v23), .val (.int (p_4.toInt8.toInt32)), .val (.ref b24), .val (.int r78), .val (.int v23), .val (.int (1 : Int32))]) rfl k) ?_
    show own_Go _ _ _ _ T116 (mkF m 412 #[.val (.int p_1), .val (.int p_2), .val (.int p_3), .val (.int p_4), .val (.int (p_1.toInt8.toInt32)), .val (.int v3), .val (.int v4), .val (.int v5), .val (.ref b6), .val (.int v21), .val (.int v23), .val (.int (p_4.toInt8.toInt32)), .val (.ref b24), .val (.int r78), .val (.int v23), .val (.int (1 : Int32))] [])
    refine own_go (fun _ k => XS.iload X116.here hx rfl (hb hby at_412) rfl k) ?_
    show own_Go _ _ _ _ T116 (mkF m 414 #[.val (.int p_1), .val (.int p_2), .val (.int p_3), .val (.int p_4), .val (.int (p_1.toInt8.toInt32)), .val (.int v3), .val (.int v4), .val (.int v5), .val (.ref b6), .val (.int v21), .val (.int v23), .val (.int (p_4.toInt8.toInt32)), .val (.ref b24), .val (.int r78), .val (.int v23), .val (.int (1 : Int32))] [(.int (1 : Int32))])
    have hc119 : ¬ ((1 : Int32) = 0) := by decide
    refine own_go (fun _ k => XS.ifNo X116.here hx rfl (hb hby at_414) rfl (Jvm.Free.XT.i0_eq_f hc119) k) ?_
    show own_Go _ _ _ _ T116 (mkF m 417 #[.val (.int p_1), .val (.int p_2), .val (.int p_3), .val (.int p_4), .val (.int (p_1.toInt8.toInt32)), .val (.int v3), .val (.int v4), .val (.int v5), .val (.ref b6), .val (.int v21), .val (.int v23), .val (.int (p_4.toInt8.toInt32)), .val (.ref b24), .val (.int r78), .val (.int v23), .val (.int (1 : Int32))] [])
    refine own_go (fun _ k => XS.aload X116.here hx rfl (hb hby at_417) rfl rfl k) ?_
    show own_Go _ _ _ _ T116 (mkF m 419 #[.val (.int p_1), .val (.int p_2), .val (.int p_3), .val (.int p_4), .val (.int (p_1.toInt8.toInt32)), .val (.int v3), .val (.int v4), .val (.int v5), .val (.ref b6), .val (.int v21), .val (.int v23), .val (.int (p_4.toInt8.toInt32)), .val (.ref b24), .val (.int r78), .val (.int v23), .val (.int (1 : Int32))] [(.ref b24)])
    refine own_go (fun _ k => XS.iconst X116.here hx rfl (hb hby at_419) k) ?_
    show own_Go _ _ _ _ T116 (mkF m 420 #[.val (.int p_1), .val (.int p_2), .val (.int p_3), .val (.int p_4), .val (.int (p_1.toInt8.toInt32)), .val (.int v3), .val (.int v4), .val (.int v5), .val (.ref b6), .val (.int v21), .val (.int v23), .val (.int (p_4.toInt8.toInt32)), .val (.ref b24), .val (.int r78), .val (.int v23), .val (.int (1 : Int32))] [(.int (5 : Int32)), (.ref b24)])
    obtain ⟨q120, c120, R120, s120, t120⟩ := id f79
    have hin120 : ¬ ((5 : Int32) < 0 ∨ c120.slots.size ≤ ((5 : Int32)).toNatClampNeg) := inb_of s120 ⟨by decide, by decide⟩
    have u120 : c120.slots[((5 : Int32)).toNatClampNeg]? = some (.int (own_hw (v21).toNatClampNeg v23 (p_4.toInt8.toInt32) (p_1.toInt8.toInt32) v3 v4 v5 5)) := own_at (k := 5) t120 s120 hin120 (by decide) (own_hx_hw _ _ _ _ _ _ _ _ _ rfl)
    refine own_go (fun _ k => X116.baloadBytes hx (j := (5 : Int32)) (v := (.int (own_hw (v21).toNatClampNeg v23 (p_4.toInt8.toInt32) (p_1.toInt8.toInt32) v3 v4 v5 5))) (by rw [e116]; exact R120.1) (State.isArrayOf_alike hZ.alike R120.2.1) R120.2.2 hin120 u120 (g := (mkF m 420 #[.val (.int p_1), .val (.int p_2), .val (.int p_3), .val (.int p_4), .val (.int (p_1.toInt8.toInt32)), .val (.int v3), .val (.int v4), .val (.int v5), .val (.ref b6), .val (.int v21), .val (.int v23), .val (.int (p_4.toInt8.toInt32)), .val (.ref b24), .val (.int r78), .val (.int v23), .val (.int (1 : Int32))] [(.int (5 : Int32)), (.ref b24)])) rfl rfl (hb hby at_420) _ k) ?_
    show own_Go _ _ _ _ T116 (mkF m 421 #[.val (.int p_1), .val (.int p_2), .val (.int p_3), .val (.int p_4), .val (.int (p_1.toInt8.toInt32)), .val (.int v3), .val (.int v4), .val (.int v5), .val (.ref b6), .val (.int v21), .val (.int v23), .val (.int (p_4.toInt8.toInt32)), .val (.ref b24), .val (.int r78), .val (.int v23), .val (.int (1 : Int32))] [(.int (own_hw (v21).toNatClampNeg v23 (p_4.toInt8.toInt32) (p_1.toInt8.toInt32) v3 v4 v5 5))])
    refine own_go (fun _ k => XS.iconst X116.here hx rfl (hb hby at_421) k) ?_
    show own_Go _ _ _ _ T116 (mkF m 422 #[.val (.int p_1), .val (.int p_2), .val (.int p_3), .val (.int p_4), .val (.int (p_1.toInt8.toInt32)), .val (.int v3), .val (.int v4), .val (.int v5), .val (.ref b6), .val (.int v21), .val (.int v23), .val (.int (p_4.toInt8.toInt32)), .val (.ref b24), .val (.int r78), .val (.int v23), .val (.int (1 : Int32))] [(.int (5 : Int32)), (.int (own_hw (v21).toNatClampNeg v23 (p_4.toInt8.toInt32) (p_1.toInt8.toInt32) v3 v4 v5 5))])
    refine own_go (fun _ k => XS.iloadN X116.here hx rfl (hb hby at_422) rfl k) ?_
    show own_Go _ _ _ _ T116 (mkF m 423 #[.val (.int p_1), .val (.int p_2), .val (.int p_3), .val (.int p_4), .val (.int (p_1.toInt8.toInt32)), .val (.int v3), .val (.int v4), .val (.int v5), .val (.ref b6), .val (.int v21), .val (.int v23), .val (.int (p_4.toInt8.toInt32)), .val (.ref b24), .val (.int r78), .val (.int v23), .val (.int (1 : Int32))] [(.int p_1), (.int (5 : Int32)), (.int (own_hw (v21).toNatClampNeg v23 (p_4.toInt8.toInt32) (p_1.toInt8.toInt32) v3 v4 v5 5))])
    refine own_go (fun _ k => XS.iload X116.here hx rfl (hb hby at_423) rfl k) ?_
    show own_Go _ _ _ _ T116 (mkF m 425 #[.val (.int p_1), .val (.int p_2), .val (.int p_3), .val (.int p_4), .val (.int (p_1.toInt8.toInt32)), .val (.int v3), .val (.int v4), .val (.int v5), .val (.ref b6), .val (.int v21), .val (.int v23), .val (.int (p_4.toInt8.toInt32)), .val (.ref b24), .val (.int r78), .val (.int v23), .val (.int (1 : Int32))] [(.int v21), (.int p_1), (.int (5 : Int32)), (.int (own_hw (v21).toNatClampNeg v23 (p_4.toInt8.toInt32) (p_1.toInt8.toInt32) v3 v4 v5 5))])
    refine own_go (fun _ k => XS.iload X116.here hx rfl (hb hby at_425) rfl k) ?_
    show own_Go _ _ _ _ T116 (mkF m 427 #[.val (.int p_1), .val (.int p_2), .val (.int p_3), .val (.int p_4), .val (.int (p_1.toInt8.toInt32)), .val (.int v3), .val (.int v4), .val (.int v5), .val (.ref b6), .val (.int v21), .val (.int v23), .val (.int (p_4.toInt8.toInt32)), .val (.ref b24), .val (.int r78), .val (.int v23), .val (.int (1 : Int32))] [(.int v23), (.int v21), (.int p_1), (.int (5 : Int32)), (.int (own_hw (v21).toNatClampNeg v23 (p_4.toInt8.toInt32) (p_1.toInt8.toInt32) v3 v4 v5 5))])
    refine own_go (fun _ k => XS.iload X116.here hx rfl (hb hby at_427) rfl k) ?_
    show own_Go _ _ _ _ T116 (mkF m 429 #[.val (.int p_1), .val (.int p_2), .val (.int p_3), .val (.int p_4), .val (.int (p_1.toInt8.toInt32)), .val (.int v3), .val (.int v4), .val (.int v5), .val (.ref b6), .val (.int v21), .val (.int v23), .val (.int (p_4.toInt8.toInt32)), .val (.ref b24), .val (.int r78), .val (.int v23), .val (.int (1 : Int32))] [(.int (p_4.toInt8.toInt32)), (.int v23), (.int v21), (.int p_1), (.int (5 : Int32)), (.int (own_hw (v21).toNatClampNeg v23 (p_4.toInt8.toInt32) (p_1.toInt8.toInt32) v3 v4 v5 5))])
    obtain ⟨_, _, ⟨T121, L121, k121, n121⟩, -, X121, ⟨Lc121, hQ121, l121, y121, z121⟩, st121⟩ := Jvm.LawKit.callS X116 hx (y := (⟨"com/example/honest_codec/honestcodec/IllFormedSequencePutHexPinLaw", "expectedAt", "(IIIIB)B"⟩ : MethodName)) hown (mvT hZ (hw _ (List.mem_of_getElem? (i := 8) rfl))) (mvT hZ (hw _ (List.mem_of_getElem? (i := 9) rfl))) (mvT hZ (hw _ (List.mem_of_getElem? (i := 10) rfl))) (mvT hZ (hw _ (List.mem_of_getElem? (i := 11) rfl))) (by decide) (backOf (W := 1) (own_rm2 l Z a0 hw [] (5 : Int32) p_1 v21 v23 (p_4.toInt8.toInt32)  T77.heap n0 (by omega) (own_nar_b _)) hZ (hw _ (List.mem_of_getElem? (i := 11) rfl)) (hw _ (List.mem_of_getElem? (i := 10) rfl)) (by decide) (by decide)) (g := (mkF m 429 #[.val (.int p_1), .val (.int p_2), .val (.int p_3), .val (.int p_4), .val (.int (p_1.toInt8.toInt32)), .val (.int v3), .val (.int v4), .val (.int v5), .val (.ref b6), .val (.int v21), .val (.int v23), .val (.int (p_4.toInt8.toInt32)), .val (.ref b24), .val (.int r78), .val (.int v23), .val (.int (1 : Int32))] [(.int (p_4.toInt8.toInt32)), (.int v23), (.int v21), (.int p_1), (.int (5 : Int32)), (.int (own_hw (v21).toNatClampNeg v23 (p_4.toInt8.toInt32) (p_1.toInt8.toInt32) v3 v4 v5 5))])) rfl (by rw [hml]; rfl) (argsL := [(.int (5 : Int32)), (.int p_1), (.int v21), (.int v23), (.int (p_4.toInt8.toInt32))]) (rest := [(.int (own_hw (v21).toNatClampNeg v23 (p_4.toInt8.toInt32) (p_1.toInt8.toInt32) v3 v4 v5 5))]) (lenOf own_pd2 rfl) rfl (by show 2 * 0 + _ ≤ _; exact Nat.le_of_eq rfl) (hb hby at_429) (fun _ _ => ⟨rfl, e116, (by show k116 + _ ≤ _; rw [y116]; decide), (by show n116 + _ ≤ _; rw [z116]; decide)⟩)
    dsimp only [Pt.U, Pt.locs, Pt.cells, Pt.slots] at X121 l121 y121 z121 st121 hQ121
    have y121 : k121 = 2 := own_addeq y121 (congrArg (fun q => q) y116) rfl
    have z121 : n121 = 20 := own_addeq z121 (congrArg (fun q => q) z116) rfl
    obtain ⟨r122, rfl, N121q, hr_r122, e121⟩ := hQ121
    have N121 : Fr n0 L121 := by rw [l121]; exact Fr.app N116 N121q
    refine own_go (fun _ k => st121 _ k) ?_
    show own_Go _ _ _ _ T121 (mkF m 432 #[.val (.int p_1), .val (.int p_2), .val (.int p_3), .val (.int p_4), .val (.int (p_1.toInt8.toInt32)), .val (.int v3), .val (.int v4), .val (.int v5), .val (.ref b6), .val (.int v21), .val (.int v23), .val (.int (p_4.toInt8.toInt32)), .val (.ref b24), .val (.int r78), .val (.int v23), .val (.int (1 : Int32))] [(.int r122), (.int (own_hw (v21).toNatClampNeg v23 (p_4.toInt8.toInt32) (p_1.toInt8.toInt32) v3 v4 v5 5))])
    have hc123 : (own_hw (v21).toNatClampNeg v23 (p_4.toInt8.toInt32) (p_1.toInt8.toInt32) v3 v4 v5 5) = r122 := own_t0_8 p_1 p_2 p_3 p_4 v3 v4 v5 v21 v23 r122 hdv3 hdv4 hdv5 hdv21 hdv23 hl hp hr_r122
    refine own_go (fun _ k => XS.icmpNo X121.here hx rfl (hb hby at_432) rfl (Jvm.Free.XT.ii_ne_f hc123) k) ?_
    show own_Go _ _ _ _ T121 (mkF m 435 #[.val (.int p_1), .val (.int p_2), .val (.int p_3), .val (.int p_4), .val (.int (p_1.toInt8.toInt32)), .val (.int v3), .val (.int v4), .val (.int v5), .val (.ref b6), .val (.int v21), .val (.int v23), .val (.int (p_4.toInt8.toInt32)), .val (.ref b24), .val (.int r78), .val (.int v23), .val (.int (1 : Int32))] [])
    refine own_go (fun _ k => XS.iconst X121.here hx rfl (hb hby at_435) k) ?_
    show own_Go _ _ _ _ T121 (mkF m 436 #[.val (.int p_1), .val (.int p_2), .val (.int p_3), .val (.int p_4), .val (.int (p_1.toInt8.toInt32)), .val (.int v3), .val (.int v4), .val (.int v5), .val (.ref b6), .val (.int v21), .val (.int v23), .val (.int (p_4.toInt8.toInt32)), .val (.ref b24), .val (.int r78), .val (.int v23), .val (.int (1 : Int32))] [(.int (1 : Int32))])
    refine own_go (fun _ k => XS.goto X121.here hx rfl (pc0 := 436) (pc' := 440) rfl (hb hby at_436) (by decide) (by decide) k) ?_
    show own_Go _ _ _ _ T121 (mkF m 440 #[.val (.int p_1), .val (.int p_2), .val (.int p_3), .val (.int p_4), .val (.int (p_1.toInt8.toInt32)), .val (.int v3), .val (.int v4), .val (.int v5), .val (.ref b6), .val (.int v21), .val (.int v23), .val (.int (p_4.toInt8.toInt32)), .val (.ref b24), .val (.int r78), .val (.int v23), .val (.int (1 : Int32))] [(.int (1 : Int32))])
    refine own_go (fun _ k => XS.istore X121.here hx rfl (hb hby at_440) rfl (l' := #[.val (.int p_1), .val (.int p_2), .val (.int p_3), .val (.int p_4), .val (.int (p_1.toInt8.toInt32)), .val (.int v3), .val (.int v4), .val (.int v5), .val (.ref b6), .val (.int v21), .val (.int v23), .val (.int (p_4.toInt8.toInt32)), .val (.ref b24), .val (.int r78), .val (.int v23), .val (.int (1 : Int32))]) rfl k) ?_
    show own_Go _ _ _ _ T121 (mkF m 442 #[.val (.int p_1), .val (.int p_2), .val (.int p_3), .val (.int p_4), .val (.int (p_1.toInt8.toInt32)), .val (.int v3), .val (.int v4), .val (.int v5), .val (.ref b6), .val (.int v21), .val (.int v23), .val (.int (p_4.toInt8.toInt32)), .val (.ref b24), .val (.int r78), .val (.int v23), .val (.int (1 : Int32))] [])
    refine own_go (fun _ k => XS.iload X121.here hx rfl (hb hby at_442) rfl k) ?_
    show own_Go _ _ _ _ T121 (mkF m 444 #[.val (.int p_1), .val (.int p_2), .val (.int p_3), .val (.int p_4), .val (.int (p_1.toInt8.toInt32)), .val (.int v3), .val (.int v4), .val (.int v5), .val (.ref b6), .val (.int v21), .val (.int v23), .val (.int (p_4.toInt8.toInt32)), .val (.ref b24), .val (.int r78), .val (.int v23), .val (.int (1 : Int32))] [(.int (1 : Int32))])
    have hc124 : ¬ ((1 : Int32) = 0) := by decide
    refine own_go (fun _ k => XS.ifNo X121.here hx rfl (hb hby at_444) rfl (Jvm.Free.XT.i0_eq_f hc124) k) ?_
    show own_Go _ _ _ _ T121 (mkF m 447 #[.val (.int p_1), .val (.int p_2), .val (.int p_3), .val (.int p_4), .val (.int (p_1.toInt8.toInt32)), .val (.int v3), .val (.int v4), .val (.int v5), .val (.ref b6), .val (.int v21), .val (.int v23), .val (.int (p_4.toInt8.toInt32)), .val (.ref b24), .val (.int r78), .val (.int v23), .val (.int (1 : Int32))] [])
    refine own_go (fun _ k => XS.aload X121.here hx rfl (hb hby at_447) rfl rfl k) ?_
    show own_Go _ _ _ _ T121 (mkF m 449 #[.val (.int p_1), .val (.int p_2), .val (.int p_3), .val (.int p_4), .val (.int (p_1.toInt8.toInt32)), .val (.int v3), .val (.int v4), .val (.int v5), .val (.ref b6), .val (.int v21), .val (.int v23), .val (.int (p_4.toInt8.toInt32)), .val (.ref b24), .val (.int r78), .val (.int v23), .val (.int (1 : Int32))] [(.ref b24)])
    refine own_go (fun _ k => XS.bipush X121.here hx rfl (hb hby at_449) k) ?_
    show own_Go _ _ _ _ T121 (mkF m 451 #[.val (.int p_1), .val (.int p_2), .val (.int p_3), .val (.int p_4), .val (.int (p_1.toInt8.toInt32)), .val (.int v3), .val (.int v4), .val (.int v5), .val (.ref b6), .val (.int v21), .val (.int v23), .val (.int (p_4.toInt8.toInt32)), .val (.ref b24), .val (.int r78), .val (.int v23), .val (.int (1 : Int32))] [(.int (6 : Int32)), (.ref b24)])
    obtain ⟨q125, c125, R125, s125, t125⟩ := id f79
    have hin125 : ¬ ((6 : Int32) < 0 ∨ c125.slots.size ≤ ((6 : Int32)).toNatClampNeg) := inb_of s125 ⟨by decide, by decide⟩
    have u125 : c125.slots[((6 : Int32)).toNatClampNeg]? = some (.int (own_hw (v21).toNatClampNeg v23 (p_4.toInt8.toInt32) (p_1.toInt8.toInt32) v3 v4 v5 6)) := own_at (k := 6) t125 s125 hin125 (by decide) (own_hx_hw _ _ _ _ _ _ _ _ _ rfl)
    refine own_go (fun _ k => X121.baloadBytes hx (j := (6 : Int32)) (v := (.int (own_hw (v21).toNatClampNeg v23 (p_4.toInt8.toInt32) (p_1.toInt8.toInt32) v3 v4 v5 6))) (by rw [e121]; exact R125.1) (State.isArrayOf_alike hZ.alike R125.2.1) R125.2.2 hin125 u125 (g := (mkF m 451 #[.val (.int p_1), .val (.int p_2), .val (.int p_3), .val (.int p_4), .val (.int (p_1.toInt8.toInt32)), .val (.int v3), .val (.int v4), .val (.int v5), .val (.ref b6), .val (.int v21), .val (.int v23), .val (.int (p_4.toInt8.toInt32)), .val (.ref b24), .val (.int r78), .val (.int v23), .val (.int (1 : Int32))] [(.int (6 : Int32)), (.ref b24)])) rfl rfl (hb hby at_451) _ k) ?_
    show own_Go _ _ _ _ T121 (mkF m 452 #[.val (.int p_1), .val (.int p_2), .val (.int p_3), .val (.int p_4), .val (.int (p_1.toInt8.toInt32)), .val (.int v3), .val (.int v4), .val (.int v5), .val (.ref b6), .val (.int v21), .val (.int v23), .val (.int (p_4.toInt8.toInt32)), .val (.ref b24), .val (.int r78), .val (.int v23), .val (.int (1 : Int32))] [(.int (own_hw (v21).toNatClampNeg v23 (p_4.toInt8.toInt32) (p_1.toInt8.toInt32) v3 v4 v5 6))])
    refine own_go (fun _ k => XS.bipush X121.here hx rfl (hb hby at_452) k) ?_
    show own_Go _ _ _ _ T121 (mkF m 454 #[.val (.int p_1), .val (.int p_2), .val (.int p_3), .val (.int p_4), .val (.int (p_1.toInt8.toInt32)), .val (.int v3), .val (.int v4), .val (.int v5), .val (.ref b6), .val (.int v21), .val (.int v23), .val (.int (p_4.toInt8.toInt32)), .val (.ref b24), .val (.int r78), .val (.int v23), .val (.int (1 : Int32))] [(.int (6 : Int32)), (.int (own_hw (v21).toNatClampNeg v23 (p_4.toInt8.toInt32) (p_1.toInt8.toInt32) v3 v4 v5 6))])
    refine own_go (fun _ k => XS.iloadN X121.here hx rfl (hb hby at_454) rfl k) ?_
    show own_Go _ _ _ _ T121 (mkF m 455 #[.val (.int p_1), .val (.int p_2), .val (.int p_3), .val (.int p_4), .val (.int (p_1.toInt8.toInt32)), .val (.int v3), .val (.int v4), .val (.int v5), .val (.ref b6), .val (.int v21), .val (.int v23), .val (.int (p_4.toInt8.toInt32)), .val (.ref b24), .val (.int r78), .val (.int v23), .val (.int (1 : Int32))] [(.int p_1), (.int (6 : Int32)), (.int (own_hw (v21).toNatClampNeg v23 (p_4.toInt8.toInt32) (p_1.toInt8.toInt32) v3 v4 v5 6))])
    refine own_go (fun _ k => XS.iload X121.here hx rfl (hb hby at_455) rfl k) ?_
    show own_Go _ _ _ _ T121 (mkF m 457 #[.val (.int p_1), .val (.int p_2), .val (.int p_3), .val (.int p_4), .val (.int (p_1.toInt8.toInt32)), .val (.int v3), .val (.int v4), .val (.int v5), .val (.ref b6), .val (.int v21), .val (.int v23), .val (.int (p_4.toInt8.toInt32)), .val (.ref b24), .val (.int r78), .val (.int v23), .val (.int (1 : Int32))] [(.int v21), (.int p_1), (.int (6 : Int32)), (.int (own_hw (v21).toNatClampNeg v23 (p_4.toInt8.toInt32) (p_1.toInt8.toInt32) v3 v4 v5 6))])
    refine own_go (fun _ k => XS.iload X121.here hx rfl (hb hby at_457) rfl k) ?_
    show own_Go _ _ _ _ T121 (mkF m 459 #[.val (.int p_1), .val (.int p_2), .val (.int p_3), .val (.int p_4), .val (.int (p_1.toInt8.toInt32)), .val (.int v3), .val (.int v4), .val (.int v5), .val (.ref b6), .val (.int v21), .val (.int v23), .val (.int (p_4.toInt8.toInt32)), .val (.ref b24), .val (.int r78), .val (.int v23), .val (.int (1 : Int32))] [(.int v23), (.int v21), (.int p_1), (.int (6 : Int32)), (.int (own_hw (v21).toNatClampNeg v23 (p_4.toInt8.toInt32) (p_1.toInt8.toInt32) v3 v4 v5 6))])
    refine own_go (fun _ k => XS.iload X121.here hx rfl (hb hby at_459) rfl k) ?_
    show own_Go _ _ _ _ T121 (mkF m 461 #[.val (.int p_1), .val (.int p_2), .val (.int p_3), .val (.int p_4), .val (.int (p_1.toInt8.toInt32)), .val (.int v3), .val (.int v4), .val (.int v5), .val (.ref b6), .val (.int v21), .val (.int v23), .val (.int (p_4.toInt8.toInt32)), .val (.ref b24), .val (.int r78), .val (.int v23), .val (.int (1 : Int32))] [(.int (p_4.toInt8.toInt32)), (.int v23), (.int v21), (.int p_1), (.int (6 : Int32)), (.int (own_hw (v21).toNatClampNeg v23 (p_4.toInt8.toInt32) (p_1.toInt8.toInt32) v3 v4 v5 6))])
    obtain ⟨_, _, ⟨T126, L126, k126, n126⟩, -, X126, ⟨Lc126, hQ126, l126, y126, z126⟩, st126⟩ := Jvm.LawKit.callS X121 hx (y := (⟨"com/example/honest_codec/honestcodec/IllFormedSequencePutHexPinLaw", "expectedAt", "(IIIIB)B"⟩ : MethodName)) hown (mvT hZ (hw _ (List.mem_of_getElem? (i := 8) rfl))) (mvT hZ (hw _ (List.mem_of_getElem? (i := 9) rfl))) (mvT hZ (hw _ (List.mem_of_getElem? (i := 10) rfl))) (mvT hZ (hw _ (List.mem_of_getElem? (i := 11) rfl))) (by decide) (backOf (W := 1) (own_rm2 l Z a0 hw [] (6 : Int32) p_1 v21 v23 (p_4.toInt8.toInt32)  T77.heap n0 (by omega) (own_nar_b _)) hZ (hw _ (List.mem_of_getElem? (i := 11) rfl)) (hw _ (List.mem_of_getElem? (i := 10) rfl)) (by decide) (by decide)) (g := (mkF m 461 #[.val (.int p_1), .val (.int p_2), .val (.int p_3), .val (.int p_4), .val (.int (p_1.toInt8.toInt32)), .val (.int v3), .val (.int v4), .val (.int v5), .val (.ref b6), .val (.int v21), .val (.int v23), .val (.int (p_4.toInt8.toInt32)), .val (.ref b24), .val (.int r78), .val (.int v23), .val (.int (1 : Int32))] [(.int (p_4.toInt8.toInt32)), (.int v23), (.int v21), (.int p_1), (.int (6 : Int32)), (.int (own_hw (v21).toNatClampNeg v23 (p_4.toInt8.toInt32) (p_1.toInt8.toInt32) v3 v4 v5 6))])) rfl (by rw [hml]; rfl) (argsL := [(.int (6 : Int32)), (.int p_1), (.int v21), (.int v23), (.int (p_4.toInt8.toInt32))]) (rest := [(.int (own_hw (v21).toNatClampNeg v23 (p_4.toInt8.toInt32) (p_1.toInt8.toInt32) v3 v4 v5 6))]) (lenOf own_pd2 rfl) rfl (by show 2 * 0 + _ ≤ _; exact Nat.le_of_eq rfl) (hb hby at_461) (fun _ _ => ⟨rfl, e121, (by show k121 + _ ≤ _; rw [y121]; decide), (by show n121 + _ ≤ _; rw [z121]; decide)⟩)
    dsimp only [Pt.U, Pt.locs, Pt.cells, Pt.slots] at X126 l126 y126 z126 st126 hQ126
    have y126 : k126 = 2 := own_addeq y126 (congrArg (fun q => q) y121) rfl
    have z126 : n126 = 20 := own_addeq z126 (congrArg (fun q => q) z121) rfl
    obtain ⟨r127, rfl, N126q, hr_r127, e126⟩ := hQ126
    have N126 : Fr n0 L126 := by rw [l126]; exact Fr.app N121 N126q
    refine own_go (fun _ k => st126 _ k) ?_
    show own_Go _ _ _ _ T126 (mkF m 464 #[.val (.int p_1), .val (.int p_2), .val (.int p_3), .val (.int p_4), .val (.int (p_1.toInt8.toInt32)), .val (.int v3), .val (.int v4), .val (.int v5), .val (.ref b6), .val (.int v21), .val (.int v23), .val (.int (p_4.toInt8.toInt32)), .val (.ref b24), .val (.int r78), .val (.int v23), .val (.int (1 : Int32))] [(.int r127), (.int (own_hw (v21).toNatClampNeg v23 (p_4.toInt8.toInt32) (p_1.toInt8.toInt32) v3 v4 v5 6))])
    have hc128 : (own_hw (v21).toNatClampNeg v23 (p_4.toInt8.toInt32) (p_1.toInt8.toInt32) v3 v4 v5 6) = r127 := own_t0_9 p_1 p_2 p_3 p_4 v3 v4 v5 v21 v23 r127 hdv3 hdv4 hdv5 hdv21 hdv23 hl hp hr_r127
    refine own_go (fun _ k => XS.icmpNo X126.here hx rfl (hb hby at_464) rfl (Jvm.Free.XT.ii_ne_f hc128) k) ?_
    show own_Go _ _ _ _ T126 (mkF m 467 #[.val (.int p_1), .val (.int p_2), .val (.int p_3), .val (.int p_4), .val (.int (p_1.toInt8.toInt32)), .val (.int v3), .val (.int v4), .val (.int v5), .val (.ref b6), .val (.int v21), .val (.int v23), .val (.int (p_4.toInt8.toInt32)), .val (.ref b24), .val (.int r78), .val (.int v23), .val (.int (1 : Int32))] [])
    refine own_go (fun _ k => XS.iconst X126.here hx rfl (hb hby at_467) k) ?_
    show own_Go _ _ _ _ T126 (mkF m 468 #[.val (.int p_1), .val (.int p_2), .val (.int p_3), .val (.int p_4), .val (.int (p_1.toInt8.toInt32)), .val (.int v3), .val (.int v4), .val (.int v5), .val (.ref b6), .val (.int v21), .val (.int v23), .val (.int (p_4.toInt8.toInt32)), .val (.ref b24), .val (.int r78), .val (.int v23), .val (.int (1 : Int32))] [(.int (1 : Int32))])
    refine own_go (fun _ k => XS.goto X126.here hx rfl (pc0 := 468) (pc' := 472) rfl (hb hby at_468) (by decide) (by decide) k) ?_
    show own_Go _ _ _ _ T126 (mkF m 472 #[.val (.int p_1), .val (.int p_2), .val (.int p_3), .val (.int p_4), .val (.int (p_1.toInt8.toInt32)), .val (.int v3), .val (.int v4), .val (.int v5), .val (.ref b6), .val (.int v21), .val (.int v23), .val (.int (p_4.toInt8.toInt32)), .val (.ref b24), .val (.int r78), .val (.int v23), .val (.int (1 : Int32))] [(.int (1 : Int32))])
    refine own_go (fun _ k => XS.istore X126.here hx rfl (hb hby at_472) rfl (l' := #[.val (.int p_1), .val (.int p_2), .val (.int p_3), .val (.int p_4), .val (.int (p_1.toInt8.toInt32)), .val (.int v3), .val (.int v4), .val (.int v5), .val (.ref b6), .val (.int v21), .val (.int v23), .val (.int (p_4.toInt8.toInt32)), .val (.ref b24), .val (.int r78), .val (.int v23), .val (.int (1 : Int32))]) rfl k) ?_
    show own_Go _ _ _ _ T126 (mkF m 474 #[.val (.int p_1), .val (.int p_2), .val (.int p_3), .val (.int p_4), .val (.int (p_1.toInt8.toInt32)), .val (.int v3), .val (.int v4), .val (.int v5), .val (.ref b6), .val (.int v21), .val (.int v23), .val (.int (p_4.toInt8.toInt32)), .val (.ref b24), .val (.int r78), .val (.int v23), .val (.int (1 : Int32))] [])
    refine own_go (fun _ k => XS.iload X126.here hx rfl (hb hby at_474) rfl k) ?_
    show own_Go _ _ _ _ T126 (mkF m 476 #[.val (.int p_1), .val (.int p_2), .val (.int p_3), .val (.int p_4), .val (.int (p_1.toInt8.toInt32)), .val (.int v3), .val (.int v4), .val (.int v5), .val (.ref b6), .val (.int v21), .val (.int v23), .val (.int (p_4.toInt8.toInt32)), .val (.ref b24), .val (.int r78), .val (.int v23), .val (.int (1 : Int32))] [(.int (1 : Int32))])
    have hc129 : ¬ ((1 : Int32) = 0) := by decide
    refine own_go (fun _ k => XS.ifNo X126.here hx rfl (hb hby at_476) rfl (Jvm.Free.XT.i0_eq_f hc129) k) ?_
    show own_Go _ _ _ _ T126 (mkF m 479 #[.val (.int p_1), .val (.int p_2), .val (.int p_3), .val (.int p_4), .val (.int (p_1.toInt8.toInt32)), .val (.int v3), .val (.int v4), .val (.int v5), .val (.ref b6), .val (.int v21), .val (.int v23), .val (.int (p_4.toInt8.toInt32)), .val (.ref b24), .val (.int r78), .val (.int v23), .val (.int (1 : Int32))] [])
    refine own_go (fun _ k => XS.aload X126.here hx rfl (hb hby at_479) rfl rfl k) ?_
    show own_Go _ _ _ _ T126 (mkF m 481 #[.val (.int p_1), .val (.int p_2), .val (.int p_3), .val (.int p_4), .val (.int (p_1.toInt8.toInt32)), .val (.int v3), .val (.int v4), .val (.int v5), .val (.ref b6), .val (.int v21), .val (.int v23), .val (.int (p_4.toInt8.toInt32)), .val (.ref b24), .val (.int r78), .val (.int v23), .val (.int (1 : Int32))] [(.ref b24)])
    refine own_go (fun _ k => XS.bipush X126.here hx rfl (hb hby at_481) k) ?_
    show own_Go _ _ _ _ T126 (mkF m 483 #[.val (.int p_1), .val (.int p_2), .val (.int p_3), .val (.int p_4), .val (.int (p_1.toInt8.toInt32)), .val (.int v3), .val (.int v4), .val (.int v5), .val (.ref b6), .val (.int v21), .val (.int v23), .val (.int (p_4.toInt8.toInt32)), .val (.ref b24), .val (.int r78), .val (.int v23), .val (.int (1 : Int32))] [(.int (7 : Int32)), (.ref b24)])
    obtain ⟨q130, c130, R130, s130, t130⟩ := id f79
    have hin130 : ¬ ((7 : Int32) < 0 ∨ c130.slots.size ≤ ((7 : Int32)).toNatClampNeg) := inb_of s130 ⟨by decide, by decide⟩
    have u130 : c130.slots[((7 : Int32)).toNatClampNeg]? = some (.int (own_hw (v21).toNatClampNeg v23 (p_4.toInt8.toInt32) (p_1.toInt8.toInt32) v3 v4 v5 7)) := own_at (k := 7) t130 s130 hin130 (by decide) (own_hx_hw _ _ _ _ _ _ _ _ _ rfl)
    refine own_go (fun _ k => X126.baloadBytes hx (j := (7 : Int32)) (v := (.int (own_hw (v21).toNatClampNeg v23 (p_4.toInt8.toInt32) (p_1.toInt8.toInt32) v3 v4 v5 7))) (by rw [e126]; exact R130.1) (State.isArrayOf_alike hZ.alike R130.2.1) R130.2.2 hin130 u130 (g := (mkF m 483 #[.val (.int p_1), .val (.int p_2), .val (.int p_3), .val (.int p_4), .val (.int (p_1.toInt8.toInt32)), .val (.int v3), .val (.int v4), .val (.int v5), .val (.ref b6), .val (.int v21), .val (.int v23), .val (.int (p_4.toInt8.toInt32)), .val (.ref b24), .val (.int r78), .val (.int v23), .val (.int (1 : Int32))] [(.int (7 : Int32)), (.ref b24)])) rfl rfl (hb hby at_483) _ k) ?_
    show own_Go _ _ _ _ T126 (mkF m 484 #[.val (.int p_1), .val (.int p_2), .val (.int p_3), .val (.int p_4), .val (.int (p_1.toInt8.toInt32)), .val (.int v3), .val (.int v4), .val (.int v5), .val (.ref b6), .val (.int v21), .val (.int v23), .val (.int (p_4.toInt8.toInt32)), .val (.ref b24), .val (.int r78), .val (.int v23), .val (.int (1 : Int32))] [(.int (own_hw (v21).toNatClampNeg v23 (p_4.toInt8.toInt32) (p_1.toInt8.toInt32) v3 v4 v5 7))])
    refine own_go (fun _ k => XS.bipush X126.here hx rfl (hb hby at_484) k) ?_
    show own_Go _ _ _ _ T126 (mkF m 486 #[.val (.int p_1), .val (.int p_2), .val (.int p_3), .val (.int p_4), .val (.int (p_1.toInt8.toInt32)), .val (.int v3), .val (.int v4), .val (.int v5), .val (.ref b6), .val (.int v21), .val (.int v23), .val (.int (p_4.toInt8.toInt32)), .val (.ref b24), .val (.int r78), .val (.int v23), .val (.int (1 : Int32))] [(.int (7 : Int32)), (.int (own_hw (v21).toNatClampNeg v23 (p_4.toInt8.toInt32) (p_1.toInt8.toInt32) v3 v4 v5 7))])
    refine own_go (fun _ k => XS.iloadN X126.here hx rfl (hb hby at_486) rfl k) ?_
    show own_Go _ _ _ _ T126 (mkF m 487 #[.val (.int p_1), .val (.int p_2), .val (.int p_3), .val (.int p_4), .val (.int (p_1.toInt8.toInt32)), .val (.int v3), .val (.int v4), .val (.int v5), .val (.ref b6), .val (.int v21), .val (.int v23), .val (.int (p_4.toInt8.toInt32)), .val (.ref b24), .val (.int r78), .val (.int v23), .val (.int (1 : Int32))] [(.int p_1), (.int (7 : Int32)), (.int (own_hw (v21).toNatClampNeg v23 (p_4.toInt8.toInt32) (p_1.toInt8.toInt32) v3 v4 v5 7))])
    refine own_go (fun _ k => XS.iload X126.here hx rfl (hb hby at_487) rfl k) ?_
    show own_Go _ _ _ _ T126 (mkF m 489 #[.val (.int p_1), .val (.int p_2), .val (.int p_3), .val (.int p_4), .val (.int (p_1.toInt8.toInt32)), .val (.int v3), .val (.int v4), .val (.int v5), .val (.ref b6), .val (.int v21), .val (.int v23), .val (.int (p_4.toInt8.toInt32)), .val (.ref b24), .val (.int r78), .val (.int v23), .val (.int (1 : Int32))] [(.int v21), (.int p_1), (.int (7 : Int32)), (.int (own_hw (v21).toNatClampNeg v23 (p_4.toInt8.toInt32) (p_1.toInt8.toInt32) v3 v4 v5 7))])
    refine own_go (fun _ k => XS.iload X126.here hx rfl (hb hby at_489) rfl k) ?_
    show own_Go _ _ _ _ T126 (mkF m 491 #[.val (.int p_1), .val (.int p_2), .val (.int p_3), .val (.int p_4), .val (.int (p_1.toInt8.toInt32)), .val (.int v3), .val (.int v4), .val (.int v5), .val (.ref b6), .val (.int v21), .val (.int v23), .val (.int (p_4.toInt8.toInt32)), .val (.ref b24), .val (.int r78), .val (.int v23), .val (.int (1 : Int32))] [(.int v23), (.int v21), (.int p_1), (.int (7 : Int32)), (.int (own_hw (v21).toNatClampNeg v23 (p_4.toInt8.toInt32) (p_1.toInt8.toInt32) v3 v4 v5 7))])
    refine own_go (fun _ k => XS.iload X126.here hx rfl (hb hby at_491) rfl k) ?_
    show own_Go _ _ _ _ T126 (mkF m 493 #[.val (.int p_1), .val (.int p_2), .val (.int p_3), .val (.int p_4), .val (.int (p_1.toInt8.toInt32)), .val (.int v3), .val (.int v4), .val (.int v5), .val (.ref b6), .val (.int v21), .val (.int v23), .val (.int (p_4.toInt8.toInt32)), .val (.ref b24), .val (.int r78), .val (.int v23), .val (.int (1 : Int32))] [(.int (p_4.toInt8.toInt32)), (.int v23), (.int v21), (.int p_1), (.int (7 : Int32)), (.int (own_hw (v21).toNatClampNeg v23 (p_4.toInt8.toInt32) (p_1.toInt8.toInt32) v3 v4 v5 7))])
    obtain ⟨_, _, ⟨T131, L131, k131, n131⟩, -, X131, ⟨Lc131, hQ131, l131, y131, z131⟩, st131⟩ := Jvm.LawKit.callS X126 hx (y := (⟨"com/example/honest_codec/honestcodec/IllFormedSequencePutHexPinLaw", "expectedAt", "(IIIIB)B"⟩ : MethodName)) hown (mvT hZ (hw _ (List.mem_of_getElem? (i := 8) rfl))) (mvT hZ (hw _ (List.mem_of_getElem? (i := 9) rfl))) (mvT hZ (hw _ (List.mem_of_getElem? (i := 10) rfl))) (mvT hZ (hw _ (List.mem_of_getElem? (i := 11) rfl))) (by decide) (backOf (W := 1) (own_rm2 l Z a0 hw [] (7 : Int32) p_1 v21 v23 (p_4.toInt8.toInt32)  T77.heap n0 (by omega) (own_nar_b _)) hZ (hw _ (List.mem_of_getElem? (i := 11) rfl)) (hw _ (List.mem_of_getElem? (i := 10) rfl)) (by decide) (by decide)) (g := (mkF m 493 #[.val (.int p_1), .val (.int p_2), .val (.int p_3), .val (.int p_4), .val (.int (p_1.toInt8.toInt32)), .val (.int v3), .val (.int v4), .val (.int v5), .val (.ref b6), .val (.int v21), .val (.int v23), .val (.int (p_4.toInt8.toInt32)), .val (.ref b24), .val (.int r78), .val (.int v23), .val (.int (1 : Int32))] [(.int (p_4.toInt8.toInt32)), (.int v23), (.int v21), (.int p_1), (.int (7 : Int32)), (.int (own_hw (v21).toNatClampNeg v23 (p_4.toInt8.toInt32) (p_1.toInt8.toInt32) v3 v4 v5 7))])) rfl (by rw [hml]; rfl) (argsL := [(.int (7 : Int32)), (.int p_1), (.int v21), (.int v23), (.int (p_4.toInt8.toInt32))]) (rest := [(.int (own_hw (v21).toNatClampNeg v23 (p_4.toInt8.toInt32) (p_1.toInt8.toInt32) v3 v4 v5 7))]) (lenOf own_pd2 rfl) rfl (by show 2 * 0 + _ ≤ _; exact Nat.le_of_eq rfl) (hb hby at_493) (fun _ _ => ⟨rfl, e126, (by show k126 + _ ≤ _; rw [y126]; decide), (by show n126 + _ ≤ _; rw [z126]; decide)⟩)
    dsimp only [Pt.U, Pt.locs, Pt.cells, Pt.slots] at X131 l131 y131 z131 st131 hQ131
    have y131 : k131 = 2 := own_addeq y131 (congrArg (fun q => q) y126) rfl
    have z131 : n131 = 20 := own_addeq z131 (congrArg (fun q => q) z126) rfl
    obtain ⟨r132, rfl, N131q, hr_r132, e131⟩ := hQ131
    have N131 : Fr n0 L131 := by rw [l131]; exact Fr.app N126 N131q
    refine own_go (fun _ k => st131 _ k) ?_
    show own_Go _ _ _ _ T131 (mkF m 496 #[.val (.int p_1), .val (.int p_2), .val (.int p_3), .val (.int p_4), .val (.int (p_1.toInt8.toInt32)), .val (.int v3), .val (.int v4), .val (.int v5), .val (.ref b6), .val (.int v21), .val (.int v23), .val (.int (p_4.toInt8.toInt32)), .val (.ref b24), .val (.int r78), .val (.int v23), .val (.int (1 : Int32))] [(.int r132), (.int (own_hw (v21).toNatClampNeg v23 (p_4.toInt8.toInt32) (p_1.toInt8.toInt32) v3 v4 v5 7))])
    have hc133 : (own_hw (v21).toNatClampNeg v23 (p_4.toInt8.toInt32) (p_1.toInt8.toInt32) v3 v4 v5 7) = r132 := own_t0_10 p_1 p_2 p_3 p_4 v3 v4 v5 v21 v23 r132 hdv3 hdv4 hdv5 hdv21 hdv23 hl hp hr_r132
    refine own_go (fun _ k => XS.icmpNo X131.here hx rfl (hb hby at_496) rfl (Jvm.Free.XT.ii_ne_f hc133) k) ?_
    show own_Go _ _ _ _ T131 (mkF m 499 #[.val (.int p_1), .val (.int p_2), .val (.int p_3), .val (.int p_4), .val (.int (p_1.toInt8.toInt32)), .val (.int v3), .val (.int v4), .val (.int v5), .val (.ref b6), .val (.int v21), .val (.int v23), .val (.int (p_4.toInt8.toInt32)), .val (.ref b24), .val (.int r78), .val (.int v23), .val (.int (1 : Int32))] [])
    refine own_go (fun _ k => XS.iconst X131.here hx rfl (hb hby at_499) k) ?_
    show own_Go _ _ _ _ T131 (mkF m 500 #[.val (.int p_1), .val (.int p_2), .val (.int p_3), .val (.int p_4), .val (.int (p_1.toInt8.toInt32)), .val (.int v3), .val (.int v4), .val (.int v5), .val (.ref b6), .val (.int v21), .val (.int v23), .val (.int (p_4.toInt8.toInt32)), .val (.ref b24), .val (.int r78), .val (.int v23), .val (.int (1 : Int32))] [(.int (1 : Int32))])
    refine own_go (fun _ k => XS.goto X131.here hx rfl (pc0 := 500) (pc' := 504) rfl (hb hby at_500) (by decide) (by decide) k) ?_
    show own_Go _ _ _ _ T131 (mkF m 504 #[.val (.int p_1), .val (.int p_2), .val (.int p_3), .val (.int p_4), .val (.int (p_1.toInt8.toInt32)), .val (.int v3), .val (.int v4), .val (.int v5), .val (.ref b6), .val (.int v21), .val (.int v23), .val (.int (p_4.toInt8.toInt32)), .val (.ref b24), .val (.int r78), .val (.int v23), .val (.int (1 : Int32))] [(.int (1 : Int32))])
    refine own_go (fun _ k => XS.istore X131.here hx rfl (hb hby at_504) rfl (l' := #[.val (.int p_1), .val (.int p_2), .val (.int p_3), .val (.int p_4), .val (.int (p_1.toInt8.toInt32)), .val (.int v3), .val (.int v4), .val (.int v5), .val (.ref b6), .val (.int v21), .val (.int v23), .val (.int (p_4.toInt8.toInt32)), .val (.ref b24), .val (.int r78), .val (.int v23), .val (.int (1 : Int32))]) rfl k) ?_
    show own_Go _ _ _ _ T131 (mkF m 506 #[.val (.int p_1), .val (.int p_2), .val (.int p_3), .val (.int p_4), .val (.int (p_1.toInt8.toInt32)), .val (.int v3), .val (.int v4), .val (.int v5), .val (.ref b6), .val (.int v21), .val (.int v23), .val (.int (p_4.toInt8.toInt32)), .val (.ref b24), .val (.int r78), .val (.int v23), .val (.int (1 : Int32))] [])
    refine own_go (fun _ k => XS.iload X131.here hx rfl (hb hby at_506) rfl k) ?_
    show own_Go _ _ _ _ T131 (mkF m 508 #[.val (.int p_1), .val (.int p_2), .val (.int p_3), .val (.int p_4), .val (.int (p_1.toInt8.toInt32)), .val (.int v3), .val (.int v4), .val (.int v5), .val (.ref b6), .val (.int v21), .val (.int v23), .val (.int (p_4.toInt8.toInt32)), .val (.ref b24), .val (.int r78), .val (.int v23), .val (.int (1 : Int32))] [(.int (1 : Int32))])
    have hc134 : ¬ ((1 : Int32) = 0) := by decide
    refine own_go (fun _ k => XS.ifNo X131.here hx rfl (hb hby at_508) rfl (Jvm.Free.XT.i0_eq_f hc134) k) ?_
    show own_Go _ _ _ _ T131 (mkF m 511 #[.val (.int p_1), .val (.int p_2), .val (.int p_3), .val (.int p_4), .val (.int (p_1.toInt8.toInt32)), .val (.int v3), .val (.int v4), .val (.int v5), .val (.ref b6), .val (.int v21), .val (.int v23), .val (.int (p_4.toInt8.toInt32)), .val (.ref b24), .val (.int r78), .val (.int v23), .val (.int (1 : Int32))] [])
    refine own_go (fun _ k => XS.aload X131.here hx rfl (hb hby at_511) rfl rfl k) ?_
    show own_Go _ _ _ _ T131 (mkF m 513 #[.val (.int p_1), .val (.int p_2), .val (.int p_3), .val (.int p_4), .val (.int (p_1.toInt8.toInt32)), .val (.int v3), .val (.int v4), .val (.int v5), .val (.ref b6), .val (.int v21), .val (.int v23), .val (.int (p_4.toInt8.toInt32)), .val (.ref b24), .val (.int r78), .val (.int v23), .val (.int (1 : Int32))] [(.ref b24)])
    refine own_go (fun _ k => XS.bipush X131.here hx rfl (hb hby at_513) k) ?_
    show own_Go _ _ _ _ T131 (mkF m 515 #[.val (.int p_1), .val (.int p_2), .val (.int p_3), .val (.int p_4), .val (.int (p_1.toInt8.toInt32)), .val (.int v3), .val (.int v4), .val (.int v5), .val (.ref b6), .val (.int v21), .val (.int v23), .val (.int (p_4.toInt8.toInt32)), .val (.ref b24), .val (.int r78), .val (.int v23), .val (.int (1 : Int32))] [(.int (8 : Int32)), (.ref b24)])
    obtain ⟨q135, c135, R135, s135, t135⟩ := id f79
    have hin135 : ¬ ((8 : Int32) < 0 ∨ c135.slots.size ≤ ((8 : Int32)).toNatClampNeg) := inb_of s135 ⟨by decide, by decide⟩
    have u135 : c135.slots[((8 : Int32)).toNatClampNeg]? = some (.int (own_hw (v21).toNatClampNeg v23 (p_4.toInt8.toInt32) (p_1.toInt8.toInt32) v3 v4 v5 8)) := own_at (k := 8) t135 s135 hin135 (by decide) (own_hx_hw _ _ _ _ _ _ _ _ _ rfl)
    refine own_go (fun _ k => X131.baloadBytes hx (j := (8 : Int32)) (v := (.int (own_hw (v21).toNatClampNeg v23 (p_4.toInt8.toInt32) (p_1.toInt8.toInt32) v3 v4 v5 8))) (by rw [e131]; exact R135.1) (State.isArrayOf_alike hZ.alike R135.2.1) R135.2.2 hin135 u135 (g := (mkF m 515 #[.val (.int p_1), .val (.int p_2), .val (.int p_3), .val (.int p_4), .val (.int (p_1.toInt8.toInt32)), .val (.int v3), .val (.int v4), .val (.int v5), .val (.ref b6), .val (.int v21), .val (.int v23), .val (.int (p_4.toInt8.toInt32)), .val (.ref b24), .val (.int r78), .val (.int v23), .val (.int (1 : Int32))] [(.int (8 : Int32)), (.ref b24)])) rfl rfl (hb hby at_515) _ k) ?_
    show own_Go _ _ _ _ T131 (mkF m 516 #[.val (.int p_1), .val (.int p_2), .val (.int p_3), .val (.int p_4), .val (.int (p_1.toInt8.toInt32)), .val (.int v3), .val (.int v4), .val (.int v5), .val (.ref b6), .val (.int v21), .val (.int v23), .val (.int (p_4.toInt8.toInt32)), .val (.ref b24), .val (.int r78), .val (.int v23), .val (.int (1 : Int32))] [(.int (own_hw (v21).toNatClampNeg v23 (p_4.toInt8.toInt32) (p_1.toInt8.toInt32) v3 v4 v5 8))])
    refine own_go (fun _ k => XS.bipush X131.here hx rfl (hb hby at_516) k) ?_
    show own_Go _ _ _ _ T131 (mkF m 518 #[.val (.int p_1), .val (.int p_2), .val (.int p_3), .val (.int p_4), .val (.int (p_1.toInt8.toInt32)), .val (.int v3), .val (.int v4), .val (.int v5), .val (.ref b6), .val (.int v21), .val (.int v23), .val (.int (p_4.toInt8.toInt32)), .val (.ref b24), .val (.int r78), .val (.int v23), .val (.int (1 : Int32))] [(.int (8 : Int32)), (.int (own_hw (v21).toNatClampNeg v23 (p_4.toInt8.toInt32) (p_1.toInt8.toInt32) v3 v4 v5 8))])
    refine own_go (fun _ k => XS.iloadN X131.here hx rfl (hb hby at_518) rfl k) ?_
    show own_Go _ _ _ _ T131 (mkF m 519 #[.val (.int p_1), .val (.int p_2), .val (.int p_3), .val (.int p_4), .val (.int (p_1.toInt8.toInt32)), .val (.int v3), .val (.int v4), .val (.int v5), .val (.ref b6), .val (.int v21), .val (.int v23), .val (.int (p_4.toInt8.toInt32)), .val (.ref b24), .val (.int r78), .val (.int v23), .val (.int (1 : Int32))] [(.int p_1), (.int (8 : Int32)), (.int (own_hw (v21).toNatClampNeg v23 (p_4.toInt8.toInt32) (p_1.toInt8.toInt32) v3 v4 v5 8))])
    refine own_go (fun _ k => XS.iload X131.here hx rfl (hb hby at_519) rfl k) ?_
    show own_Go _ _ _ _ T131 (mkF m 521 #[.val (.int p_1), .val (.int p_2), .val (.int p_3), .val (.int p_4), .val (.int (p_1.toInt8.toInt32)), .val (.int v3), .val (.int v4), .val (.int v5), .val (.ref b6), .val (.int v21), .val (.int v23), .val (.int (p_4.toInt8.toInt32)), .val (.ref b24), .val (.int r78), .val (.int v23), .val (.int (1 : Int32))] [(.int v21), (.int p_1), (.int (8 : Int32)), (.int (own_hw (v21).toNatClampNeg v23 (p_4.toInt8.toInt32) (p_1.toInt8.toInt32) v3 v4 v5 8))])
    refine own_go (fun _ k => XS.iload X131.here hx rfl (hb hby at_521) rfl k) ?_
    show own_Go _ _ _ _ T131 (mkF m 523 #[.val (.int p_1), .val (.int p_2), .val (.int p_3), .val (.int p_4), .val (.int (p_1.toInt8.toInt32)), .val (.int v3), .val (.int v4), .val (.int v5), .val (.ref b6), .val (.int v21), .val (.int v23), .val (.int (p_4.toInt8.toInt32)), .val (.ref b24), .val (.int r78), .val (.int v23), .val (.int (1 : Int32))] [(.int v23), (.int v21), (.int p_1), (.int (8 : Int32)), (.int (own_hw (v21).toNatClampNeg v23 (p_4.toInt8.toInt32) (p_1.toInt8.toInt32) v3 v4 v5 8))])
    refine own_go (fun _ k => XS.iload X131.here hx rfl (hb hby at_523) rfl k) ?_
    show own_Go _ _ _ _ T131 (mkF m 525 #[.val (.int p_1), .val (.int p_2), .val (.int p_3), .val (.int p_4), .val (.int (p_1.toInt8.toInt32)), .val (.int v3), .val (.int v4), .val (.int v5), .val (.ref b6), .val (.int v21), .val (.int v23), .val (.int (p_4.toInt8.toInt32)), .val (.ref b24), .val (.int r78), .val (.int v23), .val (.int (1 : Int32))] [(.int (p_4.toInt8.toInt32)), (.int v23), (.int v21), (.int p_1), (.int (8 : Int32)), (.int (own_hw (v21).toNatClampNeg v23 (p_4.toInt8.toInt32) (p_1.toInt8.toInt32) v3 v4 v5 8))])
    obtain ⟨_, _, ⟨T136, L136, k136, n136⟩, -, X136, ⟨Lc136, hQ136, l136, y136, z136⟩, st136⟩ := Jvm.LawKit.callS X131 hx (y := (⟨"com/example/honest_codec/honestcodec/IllFormedSequencePutHexPinLaw", "expectedAt", "(IIIIB)B"⟩ : MethodName)) hown (mvT hZ (hw _ (List.mem_of_getElem? (i := 8) rfl))) (mvT hZ (hw _ (List.mem_of_getElem? (i := 9) rfl))) (mvT hZ (hw _ (List.mem_of_getElem? (i := 10) rfl))) (mvT hZ (hw _ (List.mem_of_getElem? (i := 11) rfl))) (by decide) (backOf (W := 1) (own_rm2 l Z a0 hw [] (8 : Int32) p_1 v21 v23 (p_4.toInt8.toInt32)  T77.heap n0 (by omega) (own_nar_b _)) hZ (hw _ (List.mem_of_getElem? (i := 11) rfl)) (hw _ (List.mem_of_getElem? (i := 10) rfl)) (by decide) (by decide)) (g := (mkF m 525 #[.val (.int p_1), .val (.int p_2), .val (.int p_3), .val (.int p_4), .val (.int (p_1.toInt8.toInt32)), .val (.int v3), .val (.int v4), .val (.int v5), .val (.ref b6), .val (.int v21), .val (.int v23), .val (.int (p_4.toInt8.toInt32)), .val (.ref b24), .val (.int r78), .val (.int v23), .val (.int (1 : Int32))] [(.int (p_4.toInt8.toInt32)), (.int v23), (.int v21), (.int p_1), (.int (8 : Int32)), (.int (own_hw (v21).toNatClampNeg v23 (p_4.toInt8.toInt32) (p_1.toInt8.toInt32) v3 v4 v5 8))])) rfl (by rw [hml]; rfl) (argsL := [(.int (8 : Int32)), (.int p_1), (.int v21), (.int v23), (.int (p_4.toInt8.toInt32))]) (rest := [(.int (own_hw (v21).toNatClampNeg v23 (p_4.toInt8.toInt32) (p_1.toInt8.toInt32) v3 v4 v5 8))]) (lenOf own_pd2 rfl) rfl (by show 2 * 0 + _ ≤ _; exact Nat.le_of_eq rfl) (hb hby at_525) (fun _ _ => ⟨rfl, e131, (by show k131 + _ ≤ _; rw [y131]; decide), (by show n131 + _ ≤ _; rw [z131]; decide)⟩)
    dsimp only [Pt.U, Pt.locs, Pt.cells, Pt.slots] at X136 l136 y136 z136 st136 hQ136
    have y136 : k136 = 2 := own_addeq y136 (congrArg (fun q => q) y131) rfl
    have z136 : n136 = 20 := own_addeq z136 (congrArg (fun q => q) z131) rfl
    obtain ⟨r137, rfl, N136q, hr_r137, e136⟩ := hQ136
    have N136 : Fr n0 L136 := by rw [l136]; exact Fr.app N131 N136q
    refine own_go (fun _ k => st136 _ k) ?_
    show own_Go _ _ _ _ T136 (mkF m 528 #[.val (.int p_1), .val (.int p_2), .val (.int p_3), .val (.int p_4), .val (.int (p_1.toInt8.toInt32)), .val (.int v3), .val (.int v4), .val (.int v5), .val (.ref b6), .val (.int v21), .val (.int v23), .val (.int (p_4.toInt8.toInt32)), .val (.ref b24), .val (.int r78), .val (.int v23), .val (.int (1 : Int32))] [(.int r137), (.int (own_hw (v21).toNatClampNeg v23 (p_4.toInt8.toInt32) (p_1.toInt8.toInt32) v3 v4 v5 8))])
    have hc138 : (own_hw (v21).toNatClampNeg v23 (p_4.toInt8.toInt32) (p_1.toInt8.toInt32) v3 v4 v5 8) = r137 := own_t0_11 p_1 p_2 p_3 p_4 v3 v4 v5 v21 v23 r137 hdv3 hdv4 hdv5 hdv21 hdv23 hl hp hr_r137
    refine own_go (fun _ k => XS.icmpNo X136.here hx rfl (hb hby at_528) rfl (Jvm.Free.XT.ii_ne_f hc138) k) ?_
    show own_Go _ _ _ _ T136 (mkF m 531 #[.val (.int p_1), .val (.int p_2), .val (.int p_3), .val (.int p_4), .val (.int (p_1.toInt8.toInt32)), .val (.int v3), .val (.int v4), .val (.int v5), .val (.ref b6), .val (.int v21), .val (.int v23), .val (.int (p_4.toInt8.toInt32)), .val (.ref b24), .val (.int r78), .val (.int v23), .val (.int (1 : Int32))] [])
    refine own_go (fun _ k => XS.iconst X136.here hx rfl (hb hby at_531) k) ?_
    show own_Go _ _ _ _ T136 (mkF m 532 #[.val (.int p_1), .val (.int p_2), .val (.int p_3), .val (.int p_4), .val (.int (p_1.toInt8.toInt32)), .val (.int v3), .val (.int v4), .val (.int v5), .val (.ref b6), .val (.int v21), .val (.int v23), .val (.int (p_4.toInt8.toInt32)), .val (.ref b24), .val (.int r78), .val (.int v23), .val (.int (1 : Int32))] [(.int (1 : Int32))])
    refine own_go (fun _ k => XS.goto X136.here hx rfl (pc0 := 532) (pc' := 536) rfl (hb hby at_532) (by decide) (by decide) k) ?_
    show own_Go _ _ _ _ T136 (mkF m 536 #[.val (.int p_1), .val (.int p_2), .val (.int p_3), .val (.int p_4), .val (.int (p_1.toInt8.toInt32)), .val (.int v3), .val (.int v4), .val (.int v5), .val (.ref b6), .val (.int v21), .val (.int v23), .val (.int (p_4.toInt8.toInt32)), .val (.ref b24), .val (.int r78), .val (.int v23), .val (.int (1 : Int32))] [(.int (1 : Int32))])
    refine own_go (fun _ k => XS.istore X136.here hx rfl (hb hby at_536) rfl (l' := #[.val (.int p_1), .val (.int p_2), .val (.int p_3), .val (.int p_4), .val (.int (p_1.toInt8.toInt32)), .val (.int v3), .val (.int v4), .val (.int v5), .val (.ref b6), .val (.int v21), .val (.int v23), .val (.int (p_4.toInt8.toInt32)), .val (.ref b24), .val (.int r78), .val (.int v23), .val (.int (1 : Int32))]) rfl k) ?_
    show own_Go _ _ _ _ T136 (mkF m 538 #[.val (.int p_1), .val (.int p_2), .val (.int p_3), .val (.int p_4), .val (.int (p_1.toInt8.toInt32)), .val (.int v3), .val (.int v4), .val (.int v5), .val (.ref b6), .val (.int v21), .val (.int v23), .val (.int (p_4.toInt8.toInt32)), .val (.ref b24), .val (.int r78), .val (.int v23), .val (.int (1 : Int32))] [])
    refine own_go (fun _ k => XS.iload X136.here hx rfl (hb hby at_538) rfl k) ?_
    show own_Go _ _ _ _ T136 (mkF m 540 #[.val (.int p_1), .val (.int p_2), .val (.int p_3), .val (.int p_4), .val (.int (p_1.toInt8.toInt32)), .val (.int v3), .val (.int v4), .val (.int v5), .val (.ref b6), .val (.int v21), .val (.int v23), .val (.int (p_4.toInt8.toInt32)), .val (.ref b24), .val (.int r78), .val (.int v23), .val (.int (1 : Int32))] [(.int (1 : Int32))])
    have hc139 : ¬ ((1 : Int32) = 0) := by decide
    refine own_go (fun _ k => XS.ifNo X136.here hx rfl (hb hby at_540) rfl (Jvm.Free.XT.i0_eq_f hc139) k) ?_
    show own_Go _ _ _ _ T136 (mkF m 543 #[.val (.int p_1), .val (.int p_2), .val (.int p_3), .val (.int p_4), .val (.int (p_1.toInt8.toInt32)), .val (.int v3), .val (.int v4), .val (.int v5), .val (.ref b6), .val (.int v21), .val (.int v23), .val (.int (p_4.toInt8.toInt32)), .val (.ref b24), .val (.int r78), .val (.int v23), .val (.int (1 : Int32))] [])
    refine own_go (fun _ k => XS.aload X136.here hx rfl (hb hby at_543) rfl rfl k) ?_
    show own_Go _ _ _ _ T136 (mkF m 545 #[.val (.int p_1), .val (.int p_2), .val (.int p_3), .val (.int p_4), .val (.int (p_1.toInt8.toInt32)), .val (.int v3), .val (.int v4), .val (.int v5), .val (.ref b6), .val (.int v21), .val (.int v23), .val (.int (p_4.toInt8.toInt32)), .val (.ref b24), .val (.int r78), .val (.int v23), .val (.int (1 : Int32))] [(.ref b24)])
    refine own_go (fun _ k => XS.bipush X136.here hx rfl (hb hby at_545) k) ?_
    show own_Go _ _ _ _ T136 (mkF m 547 #[.val (.int p_1), .val (.int p_2), .val (.int p_3), .val (.int p_4), .val (.int (p_1.toInt8.toInt32)), .val (.int v3), .val (.int v4), .val (.int v5), .val (.ref b6), .val (.int v21), .val (.int v23), .val (.int (p_4.toInt8.toInt32)), .val (.ref b24), .val (.int r78), .val (.int v23), .val (.int (1 : Int32))] [(.int (9 : Int32)), (.ref b24)])
    obtain ⟨q140, c140, R140, s140, t140⟩ := id f79
    have hin140 : ¬ ((9 : Int32) < 0 ∨ c140.slots.size ≤ ((9 : Int32)).toNatClampNeg) := inb_of s140 ⟨by decide, by decide⟩
    have u140 : c140.slots[((9 : Int32)).toNatClampNeg]? = some (.int (own_hw (v21).toNatClampNeg v23 (p_4.toInt8.toInt32) (p_1.toInt8.toInt32) v3 v4 v5 9)) := own_at (k := 9) t140 s140 hin140 (by decide) (own_hx_hw _ _ _ _ _ _ _ _ _ rfl)
    refine own_go (fun _ k => X136.baloadBytes hx (j := (9 : Int32)) (v := (.int (own_hw (v21).toNatClampNeg v23 (p_4.toInt8.toInt32) (p_1.toInt8.toInt32) v3 v4 v5 9))) (by rw [e136]; exact R140.1) (State.isArrayOf_alike hZ.alike R140.2.1) R140.2.2 hin140 u140 (g := (mkF m 547 #[.val (.int p_1), .val (.int p_2), .val (.int p_3), .val (.int p_4), .val (.int (p_1.toInt8.toInt32)), .val (.int v3), .val (.int v4), .val (.int v5), .val (.ref b6), .val (.int v21), .val (.int v23), .val (.int (p_4.toInt8.toInt32)), .val (.ref b24), .val (.int r78), .val (.int v23), .val (.int (1 : Int32))] [(.int (9 : Int32)), (.ref b24)])) rfl rfl (hb hby at_547) _ k) ?_
    show own_Go _ _ _ _ T136 (mkF m 548 #[.val (.int p_1), .val (.int p_2), .val (.int p_3), .val (.int p_4), .val (.int (p_1.toInt8.toInt32)), .val (.int v3), .val (.int v4), .val (.int v5), .val (.ref b6), .val (.int v21), .val (.int v23), .val (.int (p_4.toInt8.toInt32)), .val (.ref b24), .val (.int r78), .val (.int v23), .val (.int (1 : Int32))] [(.int (own_hw (v21).toNatClampNeg v23 (p_4.toInt8.toInt32) (p_1.toInt8.toInt32) v3 v4 v5 9))])
    refine own_go (fun _ k => XS.bipush X136.here hx rfl (hb hby at_548) k) ?_
    show own_Go _ _ _ _ T136 (mkF m 550 #[.val (.int p_1), .val (.int p_2), .val (.int p_3), .val (.int p_4), .val (.int (p_1.toInt8.toInt32)), .val (.int v3), .val (.int v4), .val (.int v5), .val (.ref b6), .val (.int v21), .val (.int v23), .val (.int (p_4.toInt8.toInt32)), .val (.ref b24), .val (.int r78), .val (.int v23), .val (.int (1 : Int32))] [(.int (9 : Int32)), (.int (own_hw (v21).toNatClampNeg v23 (p_4.toInt8.toInt32) (p_1.toInt8.toInt32) v3 v4 v5 9))])
    refine own_go (fun _ k => XS.iloadN X136.here hx rfl (hb hby at_550) rfl k) ?_
    show own_Go _ _ _ _ T136 (mkF m 551 #[.val (.int p_1), .val (.int p_2), .val (.int p_3), .val (.int p_4), .val (.int (p_1.toInt8.toInt32)), .val (.int v3), .val (.int v4), .val (.int v5), .val (.ref b6), .val (.int v21), .val (.int v23), .val (.int (p_4.toInt8.toInt32)), .val (.ref b24), .val (.int r78), .val (.int v23), .val (.int (1 : Int32))] [(.int p_1), (.int (9 : Int32)), (.int (own_hw (v21).toNatClampNeg v23 (p_4.toInt8.toInt32) (p_1.toInt8.toInt32) v3 v4 v5 9))])
    refine own_go (fun _ k => XS.iload X136.here hx rfl (hb hby at_551) rfl k) ?_
    show own_Go _ _ _ _ T136 (mkF m 553 #[.val (.int p_1), .val (.int p_2), .val (.int p_3), .val (.int p_4), .val (.int (p_1.toInt8.toInt32)), .val (.int v3), .val (.int v4), .val (.int v5), .val (.ref b6), .val (.int v21), .val (.int v23), .val (.int (p_4.toInt8.toInt32)), .val (.ref b24), .val (.int r78), .val (.int v23), .val (.int (1 : Int32))] [(.int v21), (.int p_1), (.int (9 : Int32)), (.int (own_hw (v21).toNatClampNeg v23 (p_4.toInt8.toInt32) (p_1.toInt8.toInt32) v3 v4 v5 9))])
    refine own_go (fun _ k => XS.iload X136.here hx rfl (hb hby at_553) rfl k) ?_
    show own_Go _ _ _ _ T136 (mkF m 555 #[.val (.int p_1), .val (.int p_2), .val (.int p_3), .val (.int p_4), .val (.int (p_1.toInt8.toInt32)), .val (.int v3), .val (.int v4), .val (.int v5), .val (.ref b6), .val (.int v21), .val (.int v23), .val (.int (p_4.toInt8.toInt32)), .val (.ref b24), .val (.int r78), .val (.int v23), .val (.int (1 : Int32))] [(.int v23), (.int v21), (.int p_1), (.int (9 : Int32)), (.int (own_hw (v21).toNatClampNeg v23 (p_4.toInt8.toInt32) (p_1.toInt8.toInt32) v3 v4 v5 9))])
    refine own_go (fun _ k => XS.iload X136.here hx rfl (hb hby at_555) rfl k) ?_
    show own_Go _ _ _ _ T136 (mkF m 557 #[.val (.int p_1), .val (.int p_2), .val (.int p_3), .val (.int p_4), .val (.int (p_1.toInt8.toInt32)), .val (.int v3), .val (.int v4), .val (.int v5), .val (.ref b6), .val (.int v21), .val (.int v23), .val (.int (p_4.toInt8.toInt32)), .val (.ref b24), .val (.int r78), .val (.int v23), .val (.int (1 : Int32))] [(.int (p_4.toInt8.toInt32)), (.int v23), (.int v21), (.int p_1), (.int (9 : Int32)), (.int (own_hw (v21).toNatClampNeg v23 (p_4.toInt8.toInt32) (p_1.toInt8.toInt32) v3 v4 v5 9))])
    obtain ⟨_, _, ⟨T141, L141, k141, n141⟩, -, X141, ⟨Lc141, hQ141, l141, y141, z141⟩, st141⟩ := Jvm.LawKit.callS X136 hx (y := (⟨"com/example/honest_codec/honestcodec/IllFormedSequencePutHexPinLaw", "expectedAt", "(IIIIB)B"⟩ : MethodName)) hown (mvT hZ (hw _ (List.mem_of_getElem? (i := 8) rfl))) (mvT hZ (hw _ (List.mem_of_getElem? (i := 9) rfl))) (mvT hZ (hw _ (List.mem_of_getElem? (i := 10) rfl))) (mvT hZ (hw _ (List.mem_of_getElem? (i := 11) rfl))) (by decide) (backOf (W := 1) (own_rm2 l Z a0 hw [] (9 : Int32) p_1 v21 v23 (p_4.toInt8.toInt32)  T77.heap n0 (by omega) (own_nar_b _)) hZ (hw _ (List.mem_of_getElem? (i := 11) rfl)) (hw _ (List.mem_of_getElem? (i := 10) rfl)) (by decide) (by decide)) (g := (mkF m 557 #[.val (.int p_1), .val (.int p_2), .val (.int p_3), .val (.int p_4), .val (.int (p_1.toInt8.toInt32)), .val (.int v3), .val (.int v4), .val (.int v5), .val (.ref b6), .val (.int v21), .val (.int v23), .val (.int (p_4.toInt8.toInt32)), .val (.ref b24), .val (.int r78), .val (.int v23), .val (.int (1 : Int32))] [(.int (p_4.toInt8.toInt32)), (.int v23), (.int v21), (.int p_1), (.int (9 : Int32)), (.int (own_hw (v21).toNatClampNeg v23 (p_4.toInt8.toInt32) (p_1.toInt8.toInt32) v3 v4 v5 9))])) rfl (by rw [hml]; rfl) (argsL := [(.int (9 : Int32)), (.int p_1), (.int v21), (.int v23), (.int (p_4.toInt8.toInt32))]) (rest := [(.int (own_hw (v21).toNatClampNeg v23 (p_4.toInt8.toInt32) (p_1.toInt8.toInt32) v3 v4 v5 9))]) (lenOf own_pd2 rfl) rfl (by show 2 * 0 + _ ≤ _; exact Nat.le_of_eq rfl) (hb hby at_557) (fun _ _ => ⟨rfl, e136, (by show k136 + _ ≤ _; rw [y136]; decide), (by show n136 + _ ≤ _; rw [z136]; decide)⟩)
    dsimp only [Pt.U, Pt.locs, Pt.cells, Pt.slots] at X141 l141 y141 z141 st141 hQ141
    have y141 : k141 = 2 := own_addeq y141 (congrArg (fun q => q) y136) rfl
    have z141 : n141 = 20 := own_addeq z141 (congrArg (fun q => q) z136) rfl
    obtain ⟨r142, rfl, N141q, hr_r142, e141⟩ := hQ141
    have N141 : Fr n0 L141 := by rw [l141]; exact Fr.app N136 N141q
    refine own_go (fun _ k => st141 _ k) ?_
    show own_Go _ _ _ _ T141 (mkF m 560 #[.val (.int p_1), .val (.int p_2), .val (.int p_3), .val (.int p_4), .val (.int (p_1.toInt8.toInt32)), .val (.int v3), .val (.int v4), .val (.int v5), .val (.ref b6), .val (.int v21), .val (.int v23), .val (.int (p_4.toInt8.toInt32)), .val (.ref b24), .val (.int r78), .val (.int v23), .val (.int (1 : Int32))] [(.int r142), (.int (own_hw (v21).toNatClampNeg v23 (p_4.toInt8.toInt32) (p_1.toInt8.toInt32) v3 v4 v5 9))])
    have hc143 : (own_hw (v21).toNatClampNeg v23 (p_4.toInt8.toInt32) (p_1.toInt8.toInt32) v3 v4 v5 9) = r142 := own_t0_12 p_1 p_2 p_3 p_4 v3 v4 v5 v21 v23 r142 hdv3 hdv4 hdv5 hdv21 hdv23 hl hp hr_r142
    refine own_go (fun _ k => XS.icmpNo X141.here hx rfl (hb hby at_560) rfl (Jvm.Free.XT.ii_ne_f hc143) k) ?_
    show own_Go _ _ _ _ T141 (mkF m 563 #[.val (.int p_1), .val (.int p_2), .val (.int p_3), .val (.int p_4), .val (.int (p_1.toInt8.toInt32)), .val (.int v3), .val (.int v4), .val (.int v5), .val (.ref b6), .val (.int v21), .val (.int v23), .val (.int (p_4.toInt8.toInt32)), .val (.ref b24), .val (.int r78), .val (.int v23), .val (.int (1 : Int32))] [])
    refine own_go (fun _ k => XS.iconst X141.here hx rfl (hb hby at_563) k) ?_
    show own_Go _ _ _ _ T141 (mkF m 564 #[.val (.int p_1), .val (.int p_2), .val (.int p_3), .val (.int p_4), .val (.int (p_1.toInt8.toInt32)), .val (.int v3), .val (.int v4), .val (.int v5), .val (.ref b6), .val (.int v21), .val (.int v23), .val (.int (p_4.toInt8.toInt32)), .val (.ref b24), .val (.int r78), .val (.int v23), .val (.int (1 : Int32))] [(.int (1 : Int32))])
    refine own_go (fun _ k => XS.goto X141.here hx rfl (pc0 := 564) (pc' := 568) rfl (hb hby at_564) (by decide) (by decide) k) ?_
    show own_Go _ _ _ _ T141 (mkF m 568 #[.val (.int p_1), .val (.int p_2), .val (.int p_3), .val (.int p_4), .val (.int (p_1.toInt8.toInt32)), .val (.int v3), .val (.int v4), .val (.int v5), .val (.ref b6), .val (.int v21), .val (.int v23), .val (.int (p_4.toInt8.toInt32)), .val (.ref b24), .val (.int r78), .val (.int v23), .val (.int (1 : Int32))] [(.int (1 : Int32))])
    refine own_go (fun _ k => XS.istore X141.here hx rfl (hb hby at_568) rfl (l' := #[.val (.int p_1), .val (.int p_2), .val (.int p_3), .val (.int p_4), .val (.int (p_1.toInt8.toInt32)), .val (.int v3), .val (.int v4), .val (.int v5), .val (.ref b6), .val (.int v21), .val (.int v23), .val (.int (p_4.toInt8.toInt32)), .val (.ref b24), .val (.int r78), .val (.int v23), .val (.int (1 : Int32))]) rfl k) ?_
    show own_Go _ _ _ _ T141 (mkF m 570 #[.val (.int p_1), .val (.int p_2), .val (.int p_3), .val (.int p_4), .val (.int (p_1.toInt8.toInt32)), .val (.int v3), .val (.int v4), .val (.int v5), .val (.ref b6), .val (.int v21), .val (.int v23), .val (.int (p_4.toInt8.toInt32)), .val (.ref b24), .val (.int r78), .val (.int v23), .val (.int (1 : Int32))] [])
    refine own_go (fun _ k => XS.iload X141.here hx rfl (hb hby at_570) rfl k) ?_
    show own_Go _ _ _ _ T141 (mkF m 572 #[.val (.int p_1), .val (.int p_2), .val (.int p_3), .val (.int p_4), .val (.int (p_1.toInt8.toInt32)), .val (.int v3), .val (.int v4), .val (.int v5), .val (.ref b6), .val (.int v21), .val (.int v23), .val (.int (p_4.toInt8.toInt32)), .val (.ref b24), .val (.int r78), .val (.int v23), .val (.int (1 : Int32))] [(.int (1 : Int32))])
    have hc144 : ¬ ((1 : Int32) = 0) := by decide
    refine own_go (fun _ k => XS.ifNo X141.here hx rfl (hb hby at_572) rfl (Jvm.Free.XT.i0_eq_f hc144) k) ?_
    show own_Go _ _ _ _ T141 (mkF m 575 #[.val (.int p_1), .val (.int p_2), .val (.int p_3), .val (.int p_4), .val (.int (p_1.toInt8.toInt32)), .val (.int v3), .val (.int v4), .val (.int v5), .val (.ref b6), .val (.int v21), .val (.int v23), .val (.int (p_4.toInt8.toInt32)), .val (.ref b24), .val (.int r78), .val (.int v23), .val (.int (1 : Int32))] [])
    refine own_go (fun _ k => XS.aload X141.here hx rfl (hb hby at_575) rfl rfl k) ?_
    show own_Go _ _ _ _ T141 (mkF m 577 #[.val (.int p_1), .val (.int p_2), .val (.int p_3), .val (.int p_4), .val (.int (p_1.toInt8.toInt32)), .val (.int v3), .val (.int v4), .val (.int v5), .val (.ref b6), .val (.int v21), .val (.int v23), .val (.int (p_4.toInt8.toInt32)), .val (.ref b24), .val (.int r78), .val (.int v23), .val (.int (1 : Int32))] [(.ref b24)])
    refine own_go (fun _ k => XS.bipush X141.here hx rfl (hb hby at_577) k) ?_
    show own_Go _ _ _ _ T141 (mkF m 579 #[.val (.int p_1), .val (.int p_2), .val (.int p_3), .val (.int p_4), .val (.int (p_1.toInt8.toInt32)), .val (.int v3), .val (.int v4), .val (.int v5), .val (.ref b6), .val (.int v21), .val (.int v23), .val (.int (p_4.toInt8.toInt32)), .val (.ref b24), .val (.int r78), .val (.int v23), .val (.int (1 : Int32))] [(.int (10 : Int32)), (.ref b24)])
    obtain ⟨q145, c145, R145, s145, t145⟩ := id f79
    have hin145 : ¬ ((10 : Int32) < 0 ∨ c145.slots.size ≤ ((10 : Int32)).toNatClampNeg) := inb_of s145 ⟨by decide, by decide⟩
    have u145 : c145.slots[((10 : Int32)).toNatClampNeg]? = some (.int (own_hw (v21).toNatClampNeg v23 (p_4.toInt8.toInt32) (p_1.toInt8.toInt32) v3 v4 v5 10)) := own_at (k := 10) t145 s145 hin145 (by decide) (own_hx_hw _ _ _ _ _ _ _ _ _ rfl)
    refine own_go (fun _ k => X141.baloadBytes hx (j := (10 : Int32)) (v := (.int (own_hw (v21).toNatClampNeg v23 (p_4.toInt8.toInt32) (p_1.toInt8.toInt32) v3 v4 v5 10))) (by rw [e141]; exact R145.1) (State.isArrayOf_alike hZ.alike R145.2.1) R145.2.2 hin145 u145 (g := (mkF m 579 #[.val (.int p_1), .val (.int p_2), .val (.int p_3), .val (.int p_4), .val (.int (p_1.toInt8.toInt32)), .val (.int v3), .val (.int v4), .val (.int v5), .val (.ref b6), .val (.int v21), .val (.int v23), .val (.int (p_4.toInt8.toInt32)), .val (.ref b24), .val (.int r78), .val (.int v23), .val (.int (1 : Int32))] [(.int (10 : Int32)), (.ref b24)])) rfl rfl (hb hby at_579) _ k) ?_
    show own_Go _ _ _ _ T141 (mkF m 580 #[.val (.int p_1), .val (.int p_2), .val (.int p_3), .val (.int p_4), .val (.int (p_1.toInt8.toInt32)), .val (.int v3), .val (.int v4), .val (.int v5), .val (.ref b6), .val (.int v21), .val (.int v23), .val (.int (p_4.toInt8.toInt32)), .val (.ref b24), .val (.int r78), .val (.int v23), .val (.int (1 : Int32))] [(.int (own_hw (v21).toNatClampNeg v23 (p_4.toInt8.toInt32) (p_1.toInt8.toInt32) v3 v4 v5 10))])
    refine own_go (fun _ k => XS.bipush X141.here hx rfl (hb hby at_580) k) ?_
    show own_Go _ _ _ _ T141 (mkF m 582 #[.val (.int p_1), .val (.int p_2), .val (.int p_3), .val (.int p_4), .val (.int (p_1.toInt8.toInt32)), .val (.int v3), .val (.int v4), .val (.int v5), .val (.ref b6), .val (.int v21), .val (.int v23), .val (.int (p_4.toInt8.toInt32)), .val (.ref b24), .val (.int r78), .val (.int v23), .val (.int (1 : Int32))] [(.int (10 : Int32)), (.int (own_hw (v21).toNatClampNeg v23 (p_4.toInt8.toInt32) (p_1.toInt8.toInt32) v3 v4 v5 10))])
    refine own_go (fun _ k => XS.iloadN X141.here hx rfl (hb hby at_582) rfl k) ?_
    show own_Go _ _ _ _ T141 (mkF m 583 #[.val (.int p_1), .val (.int p_2), .val (.int p_3), .val (.int p_4), .val (.int (p_1.toInt8.toInt32)), .val (.int v3), .val (.int v4), .val (.int v5), .val (.ref b6), .val (.int v21), .val (.int v23), .val (.int (p_4.toInt8.toInt32)), .val (.ref b24), .val (.int r78), .val (.int v23), .val (.int (1 : Int32))] [(.int p_1), (.int (10 : Int32)), (.int (own_hw (v21).toNatClampNeg v23 (p_4.toInt8.toInt32) (p_1.toInt8.toInt32) v3 v4 v5 10))])
    refine own_go (fun _ k => XS.iload X141.here hx rfl (hb hby at_583) rfl k) ?_
    show own_Go _ _ _ _ T141 (mkF m 585 #[.val (.int p_1), .val (.int p_2), .val (.int p_3), .val (.int p_4), .val (.int (p_1.toInt8.toInt32)), .val (.int v3), .val (.int v4), .val (.int v5), .val (.ref b6), .val (.int v21), .val (.int v23), .val (.int (p_4.toInt8.toInt32)), .val (.ref b24), .val (.int r78), .val (.int v23), .val (.int (1 : Int32))] [(.int v21), (.int p_1), (.int (10 : Int32)), (.int (own_hw (v21).toNatClampNeg v23 (p_4.toInt8.toInt32) (p_1.toInt8.toInt32) v3 v4 v5 10))])
    refine own_go (fun _ k => XS.iload X141.here hx rfl (hb hby at_585) rfl k) ?_
    show own_Go _ _ _ _ T141 (mkF m 587 #[.val (.int p_1), .val (.int p_2), .val (.int p_3), .val (.int p_4), .val (.int (p_1.toInt8.toInt32)), .val (.int v3), .val (.int v4), .val (.int v5), .val (.ref b6), .val (.int v21), .val (.int v23), .val (.int (p_4.toInt8.toInt32)), .val (.ref b24), .val (.int r78), .val (.int v23), .val (.int (1 : Int32))] [(.int v23), (.int v21), (.int p_1), (.int (10 : Int32)), (.int (own_hw (v21).toNatClampNeg v23 (p_4.toInt8.toInt32) (p_1.toInt8.toInt32) v3 v4 v5 10))])
    refine own_go (fun _ k => XS.iload X141.here hx rfl (hb hby at_587) rfl k) ?_
    show own_Go _ _ _ _ T141 (mkF m 589 #[.val (.int p_1), .val (.int p_2), .val (.int p_3), .val (.int p_4), .val (.int (p_1.toInt8.toInt32)), .val (.int v3), .val (.int v4), .val (.int v5), .val (.ref b6), .val (.int v21), .val (.int v23), .val (.int (p_4.toInt8.toInt32)), .val (.ref b24), .val (.int r78), .val (.int v23), .val (.int (1 : Int32))] [(.int (p_4.toInt8.toInt32)), (.int v23), (.int v21), (.int p_1), (.int (10 : Int32)), (.int (own_hw (v21).toNatClampNeg v23 (p_4.toInt8.toInt32) (p_1.toInt8.toInt32) v3 v4 v5 10))])
    obtain ⟨_, _, ⟨T146, L146, k146, n146⟩, -, X146, ⟨Lc146, hQ146, l146, y146, z146⟩, st146⟩ := Jvm.LawKit.callS X141 hx (y := (⟨"com/example/honest_codec/honestcodec/IllFormedSequencePutHexPinLaw", "expectedAt", "(IIIIB)B"⟩ : MethodName)) hown (mvT hZ (hw _ (List.mem_of_getElem? (i := 8) rfl))) (mvT hZ (hw _ (List.mem_of_getElem? (i := 9) rfl))) (mvT hZ (hw _ (List.mem_of_getElem? (i := 10) rfl))) (mvT hZ (hw _ (List.mem_of_getElem? (i := 11) rfl))) (by decide) (backOf (W := 1) (own_rm2 l Z a0 hw [] (10 : Int32) p_1 v21 v23 (p_4.toInt8.toInt32)  T77.heap n0 (by omega) (own_nar_b _)) hZ (hw _ (List.mem_of_getElem? (i := 11) rfl)) (hw _ (List.mem_of_getElem? (i := 10) rfl)) (by decide) (by decide)) (g := (mkF m 589 #[.val (.int p_1), .val (.int p_2), .val (.int p_3), .val (.int p_4), .val (.int (p_1.toInt8.toInt32)), .val (.int v3), .val (.int v4), .val (.int v5), .val (.ref b6), .val (.int v21), .val (.int v23), .val (.int (p_4.toInt8.toInt32)), .val (.ref b24), .val (.int r78), .val (.int v23), .val (.int (1 : Int32))] [(.int (p_4.toInt8.toInt32)), (.int v23), (.int v21), (.int p_1), (.int (10 : Int32)), (.int (own_hw (v21).toNatClampNeg v23 (p_4.toInt8.toInt32) (p_1.toInt8.toInt32) v3 v4 v5 10))])) rfl (by rw [hml]; rfl) (argsL := [(.int (10 : Int32)), (.int p_1), (.int v21), (.int v23), (.int (p_4.toInt8.toInt32))]) (rest := [(.int (own_hw (v21).toNatClampNeg v23 (p_4.toInt8.toInt32) (p_1.toInt8.toInt32) v3 v4 v5 10))]) (lenOf own_pd2 rfl) rfl (by show 2 * 0 + _ ≤ _; exact Nat.le_of_eq rfl) (hb hby at_589) (fun _ _ => ⟨rfl, e141, (by show k141 + _ ≤ _; rw [y141]; decide), (by show n141 + _ ≤ _; rw [z141]; decide)⟩)
    dsimp only [Pt.U, Pt.locs, Pt.cells, Pt.slots] at X146 l146 y146 z146 st146 hQ146
    have y146 : k146 = 2 := own_addeq y146 (congrArg (fun q => q) y141) rfl
    have z146 : n146 = 20 := own_addeq z146 (congrArg (fun q => q) z141) rfl
    obtain ⟨r147, rfl, N146q, hr_r147, e146⟩ := hQ146
    have N146 : Fr n0 L146 := by rw [l146]; exact Fr.app N141 N146q
    refine own_go (fun _ k => st146 _ k) ?_
    show own_Go _ _ _ _ T146 (mkF m 592 #[.val (.int p_1), .val (.int p_2), .val (.int p_3), .val (.int p_4), .val (.int (p_1.toInt8.toInt32)), .val (.int v3), .val (.int v4), .val (.int v5), .val (.ref b6), .val (.int v21), .val (.int v23), .val (.int (p_4.toInt8.toInt32)), .val (.ref b24), .val (.int r78), .val (.int v23), .val (.int (1 : Int32))] [(.int r147), (.int (own_hw (v21).toNatClampNeg v23 (p_4.toInt8.toInt32) (p_1.toInt8.toInt32) v3 v4 v5 10))])
    have hc148 : (own_hw (v21).toNatClampNeg v23 (p_4.toInt8.toInt32) (p_1.toInt8.toInt32) v3 v4 v5 10) = r147 := own_t0_13 p_1 p_2 p_3 p_4 v3 v4 v5 v21 v23 r147 hdv3 hdv4 hdv5 hdv21 hdv23 hl hp hr_r147
    refine own_go (fun _ k => XS.icmpNo X146.here hx rfl (hb hby at_592) rfl (Jvm.Free.XT.ii_ne_f hc148) k) ?_
    show own_Go _ _ _ _ T146 (mkF m 595 #[.val (.int p_1), .val (.int p_2), .val (.int p_3), .val (.int p_4), .val (.int (p_1.toInt8.toInt32)), .val (.int v3), .val (.int v4), .val (.int v5), .val (.ref b6), .val (.int v21), .val (.int v23), .val (.int (p_4.toInt8.toInt32)), .val (.ref b24), .val (.int r78), .val (.int v23), .val (.int (1 : Int32))] [])
    refine own_go (fun _ k => XS.iconst X146.here hx rfl (hb hby at_595) k) ?_
    show own_Go _ _ _ _ T146 (mkF m 596 #[.val (.int p_1), .val (.int p_2), .val (.int p_3), .val (.int p_4), .val (.int (p_1.toInt8.toInt32)), .val (.int v3), .val (.int v4), .val (.int v5), .val (.ref b6), .val (.int v21), .val (.int v23), .val (.int (p_4.toInt8.toInt32)), .val (.ref b24), .val (.int r78), .val (.int v23), .val (.int (1 : Int32))] [(.int (1 : Int32))])
    refine own_go (fun _ k => XS.goto X146.here hx rfl (pc0 := 596) (pc' := 600) rfl (hb hby at_596) (by decide) (by decide) k) ?_
    show own_Go _ _ _ _ T146 (mkF m 600 #[.val (.int p_1), .val (.int p_2), .val (.int p_3), .val (.int p_4), .val (.int (p_1.toInt8.toInt32)), .val (.int v3), .val (.int v4), .val (.int v5), .val (.ref b6), .val (.int v21), .val (.int v23), .val (.int (p_4.toInt8.toInt32)), .val (.ref b24), .val (.int r78), .val (.int v23), .val (.int (1 : Int32))] [(.int (1 : Int32))])
    refine own_go (fun _ k => XS.istore X146.here hx rfl (hb hby at_600) rfl (l' := #[.val (.int p_1), .val (.int p_2), .val (.int p_3), .val (.int p_4), .val (.int (p_1.toInt8.toInt32)), .val (.int v3), .val (.int v4), .val (.int v5), .val (.ref b6), .val (.int v21), .val (.int v23), .val (.int (p_4.toInt8.toInt32)), .val (.ref b24), .val (.int r78), .val (.int v23), .val (.int (1 : Int32))]) rfl k) ?_
    show own_Go _ _ _ _ T146 (mkF m 602 #[.val (.int p_1), .val (.int p_2), .val (.int p_3), .val (.int p_4), .val (.int (p_1.toInt8.toInt32)), .val (.int v3), .val (.int v4), .val (.int v5), .val (.ref b6), .val (.int v21), .val (.int v23), .val (.int (p_4.toInt8.toInt32)), .val (.ref b24), .val (.int r78), .val (.int v23), .val (.int (1 : Int32))] [])
    refine own_go (fun _ k => XS.iload X146.here hx rfl (hb hby at_602) rfl k) ?_
    show own_Go _ _ _ _ T146 (mkF m 604 #[.val (.int p_1), .val (.int p_2), .val (.int p_3), .val (.int p_4), .val (.int (p_1.toInt8.toInt32)), .val (.int v3), .val (.int v4), .val (.int v5), .val (.ref b6), .val (.int v21), .val (.int v23), .val (.int (p_4.toInt8.toInt32)), .val (.ref b24), .val (.int r78), .val (.int v23), .val (.int (1 : Int32))] [(.int (1 : Int32))])
    have hc149 : ¬ ((1 : Int32) = 0) := by decide
    refine own_go (fun _ k => XS.ifNo X146.here hx rfl (hb hby at_604) rfl (Jvm.Free.XT.i0_eq_f hc149) k) ?_
    show own_Go _ _ _ _ T146 (mkF m 607 #[.val (.int p_1), .val (.int p_2), .val (.int p_3), .val (.int p_4), .val (.int (p_1.toInt8.toInt32)), .val (.int v3), .val (.int v4), .val (.int v5), .val (.ref b6), .val (.int v21), .val (.int v23), .val (.int (p_4.toInt8.toInt32)), .val (.ref b24), .val (.int r78), .val (.int v23), .val (.int (1 : Int32))] [])
    refine own_go (fun _ k => XS.aload X146.here hx rfl (hb hby at_607) rfl rfl k) ?_
    show own_Go _ _ _ _ T146 (mkF m 609 #[.val (.int p_1), .val (.int p_2), .val (.int p_3), .val (.int p_4), .val (.int (p_1.toInt8.toInt32)), .val (.int v3), .val (.int v4), .val (.int v5), .val (.ref b6), .val (.int v21), .val (.int v23), .val (.int (p_4.toInt8.toInt32)), .val (.ref b24), .val (.int r78), .val (.int v23), .val (.int (1 : Int32))] [(.ref b24)])
    refine own_go (fun _ k => XS.bipush X146.here hx rfl (hb hby at_609) k) ?_
    show own_Go _ _ _ _ T146 (mkF m 611 #[.val (.int p_1), .val (.int p_2), .val (.int p_3), .val (.int p_4), .val (.int (p_1.toInt8.toInt32)), .val (.int v3), .val (.int v4), .val (.int v5), .val (.ref b6), .val (.int v21), .val (.int v23), .val (.int (p_4.toInt8.toInt32)), .val (.ref b24), .val (.int r78), .val (.int v23), .val (.int (1 : Int32))] [(.int (11 : Int32)), (.ref b24)])
    obtain ⟨q150, c150, R150, s150, t150⟩ := id f79
    have hin150 : ¬ ((11 : Int32) < 0 ∨ c150.slots.size ≤ ((11 : Int32)).toNatClampNeg) := inb_of s150 ⟨by decide, by decide⟩
    have u150 : c150.slots[((11 : Int32)).toNatClampNeg]? = some (.int (own_hw (v21).toNatClampNeg v23 (p_4.toInt8.toInt32) (p_1.toInt8.toInt32) v3 v4 v5 11)) := own_at (k := 11) t150 s150 hin150 (by decide) (own_hx_hw _ _ _ _ _ _ _ _ _ rfl)
    refine own_go (fun _ k => X146.baloadBytes hx (j := (11 : Int32)) (v := (.int (own_hw (v21).toNatClampNeg v23 (p_4.toInt8.toInt32) (p_1.toInt8.toInt32) v3 v4 v5 11))) (by rw [e146]; exact R150.1) (State.isArrayOf_alike hZ.alike R150.2.1) R150.2.2 hin150 u150 (g := (mkF m 611 #[.val (.int p_1), .val (.int p_2), .val (.int p_3), .val (.int p_4), .val (.int (p_1.toInt8.toInt32)), .val (.int v3), .val (.int v4), .val (.int v5), .val (.ref b6), .val (.int v21), .val (.int v23), .val (.int (p_4.toInt8.toInt32)), .val (.ref b24), .val (.int r78), .val (.int v23), .val (.int (1 : Int32))] [(.int (11 : Int32)), (.ref b24)])) rfl rfl (hb hby at_611) _ k) ?_
    show own_Go _ _ _ _ T146 (mkF m 612 #[.val (.int p_1), .val (.int p_2), .val (.int p_3), .val (.int p_4), .val (.int (p_1.toInt8.toInt32)), .val (.int v3), .val (.int v4), .val (.int v5), .val (.ref b6), .val (.int v21), .val (.int v23), .val (.int (p_4.toInt8.toInt32)), .val (.ref b24), .val (.int r78), .val (.int v23), .val (.int (1 : Int32))] [(.int (own_hw (v21).toNatClampNeg v23 (p_4.toInt8.toInt32) (p_1.toInt8.toInt32) v3 v4 v5 11))])
    refine own_go (fun _ k => XS.bipush X146.here hx rfl (hb hby at_612) k) ?_
    show own_Go _ _ _ _ T146 (mkF m 614 #[.val (.int p_1), .val (.int p_2), .val (.int p_3), .val (.int p_4), .val (.int (p_1.toInt8.toInt32)), .val (.int v3), .val (.int v4), .val (.int v5), .val (.ref b6), .val (.int v21), .val (.int v23), .val (.int (p_4.toInt8.toInt32)), .val (.ref b24), .val (.int r78), .val (.int v23), .val (.int (1 : Int32))] [(.int (11 : Int32)), (.int (own_hw (v21).toNatClampNeg v23 (p_4.toInt8.toInt32) (p_1.toInt8.toInt32) v3 v4 v5 11))])
    refine own_go (fun _ k => XS.iloadN X146.here hx rfl (hb hby at_614) rfl k) ?_
    show own_Go _ _ _ _ T146 (mkF m 615 #[.val (.int p_1), .val (.int p_2), .val (.int p_3), .val (.int p_4), .val (.int (p_1.toInt8.toInt32)), .val (.int v3), .val (.int v4), .val (.int v5), .val (.ref b6), .val (.int v21), .val (.int v23), .val (.int (p_4.toInt8.toInt32)), .val (.ref b24), .val (.int r78), .val (.int v23), .val (.int (1 : Int32))] [(.int p_1), (.int (11 : Int32)), (.int (own_hw (v21).toNatClampNeg v23 (p_4.toInt8.toInt32) (p_1.toInt8.toInt32) v3 v4 v5 11))])
    refine own_go (fun _ k => XS.iload X146.here hx rfl (hb hby at_615) rfl k) ?_
    show own_Go _ _ _ _ T146 (mkF m 617 #[.val (.int p_1), .val (.int p_2), .val (.int p_3), .val (.int p_4), .val (.int (p_1.toInt8.toInt32)), .val (.int v3), .val (.int v4), .val (.int v5), .val (.ref b6), .val (.int v21), .val (.int v23), .val (.int (p_4.toInt8.toInt32)), .val (.ref b24), .val (.int r78), .val (.int v23), .val (.int (1 : Int32))] [(.int v21), (.int p_1), (.int (11 : Int32)), (.int (own_hw (v21).toNatClampNeg v23 (p_4.toInt8.toInt32) (p_1.toInt8.toInt32) v3 v4 v5 11))])
    refine own_go (fun _ k => XS.iload X146.here hx rfl (hb hby at_617) rfl k) ?_
    show own_Go _ _ _ _ T146 (mkF m 619 #[.val (.int p_1), .val (.int p_2), .val (.int p_3), .val (.int p_4), .val (.int (p_1.toInt8.toInt32)), .val (.int v3), .val (.int v4), .val (.int v5), .val (.ref b6), .val (.int v21), .val (.int v23), .val (.int (p_4.toInt8.toInt32)), .val (.ref b24), .val (.int r78), .val (.int v23), .val (.int (1 : Int32))] [(.int v23), (.int v21), (.int p_1), (.int (11 : Int32)), (.int (own_hw (v21).toNatClampNeg v23 (p_4.toInt8.toInt32) (p_1.toInt8.toInt32) v3 v4 v5 11))])
    refine own_go (fun _ k => XS.iload X146.here hx rfl (hb hby at_619) rfl k) ?_
    show own_Go _ _ _ _ T146 (mkF m 621 #[.val (.int p_1), .val (.int p_2), .val (.int p_3), .val (.int p_4), .val (.int (p_1.toInt8.toInt32)), .val (.int v3), .val (.int v4), .val (.int v5), .val (.ref b6), .val (.int v21), .val (.int v23), .val (.int (p_4.toInt8.toInt32)), .val (.ref b24), .val (.int r78), .val (.int v23), .val (.int (1 : Int32))] [(.int (p_4.toInt8.toInt32)), (.int v23), (.int v21), (.int p_1), (.int (11 : Int32)), (.int (own_hw (v21).toNatClampNeg v23 (p_4.toInt8.toInt32) (p_1.toInt8.toInt32) v3 v4 v5 11))])
    obtain ⟨_, _, ⟨T151, L151, k151, n151⟩, -, X151, ⟨Lc151, hQ151, l151, y151, z151⟩, st151⟩ := Jvm.LawKit.callS X146 hx (y := (⟨"com/example/honest_codec/honestcodec/IllFormedSequencePutHexPinLaw", "expectedAt", "(IIIIB)B"⟩ : MethodName)) hown (mvT hZ (hw _ (List.mem_of_getElem? (i := 8) rfl))) (mvT hZ (hw _ (List.mem_of_getElem? (i := 9) rfl))) (mvT hZ (hw _ (List.mem_of_getElem? (i := 10) rfl))) (mvT hZ (hw _ (List.mem_of_getElem? (i := 11) rfl))) (by decide) (backOf (W := 1) (own_rm2 l Z a0 hw [] (11 : Int32) p_1 v21 v23 (p_4.toInt8.toInt32)  T77.heap n0 (by omega) (own_nar_b _)) hZ (hw _ (List.mem_of_getElem? (i := 11) rfl)) (hw _ (List.mem_of_getElem? (i := 10) rfl)) (by decide) (by decide)) (g := (mkF m 621 #[.val (.int p_1), .val (.int p_2), .val (.int p_3), .val (.int p_4), .val (.int (p_1.toInt8.toInt32)), .val (.int v3), .val (.int v4), .val (.int v5), .val (.ref b6), .val (.int v21), .val (.int v23), .val (.int (p_4.toInt8.toInt32)), .val (.ref b24), .val (.int r78), .val (.int v23), .val (.int (1 : Int32))] [(.int (p_4.toInt8.toInt32)), (.int v23), (.int v21), (.int p_1), (.int (11 : Int32)), (.int (own_hw (v21).toNatClampNeg v23 (p_4.toInt8.toInt32) (p_1.toInt8.toInt32) v3 v4 v5 11))])) rfl (by rw [hml]; rfl) (argsL := [(.int (11 : Int32)), (.int p_1), (.int v21), (.int v23), (.int (p_4.toInt8.toInt32))]) (rest := [(.int (own_hw (v21).toNatClampNeg v23 (p_4.toInt8.toInt32) (p_1.toInt8.toInt32) v3 v4 v5 11))]) (lenOf own_pd2 rfl) rfl (by show 2 * 0 + _ ≤ _; exact Nat.le_of_eq rfl) (hb hby at_621) (fun _ _ => ⟨rfl, e146, (by show k146 + _ ≤ _; rw [y146]; decide), (by show n146 + _ ≤ _; rw [z146]; decide)⟩)
    dsimp only [Pt.U, Pt.locs, Pt.cells, Pt.slots] at X151 l151 y151 z151 st151 hQ151
    have y151 : k151 = 2 := own_addeq y151 (congrArg (fun q => q) y146) rfl
    have z151 : n151 = 20 := own_addeq z151 (congrArg (fun q => q) z146) rfl
    obtain ⟨r152, rfl, N151q, hr_r152, e151⟩ := hQ151
    have N151 : Fr n0 L151 := by rw [l151]; exact Fr.app N146 N151q
    refine own_go (fun _ k => st151 _ k) ?_
    show own_Go _ _ _ _ T151 (mkF m 624 #[.val (.int p_1), .val (.int p_2), .val (.int p_3), .val (.int p_4), .val (.int (p_1.toInt8.toInt32)), .val (.int v3), .val (.int v4), .val (.int v5), .val (.ref b6), .val (.int v21), .val (.int v23), .val (.int (p_4.toInt8.toInt32)), .val (.ref b24), .val (.int r78), .val (.int v23), .val (.int (1 : Int32))] [(.int r152), (.int (own_hw (v21).toNatClampNeg v23 (p_4.toInt8.toInt32) (p_1.toInt8.toInt32) v3 v4 v5 11))])
    have hc153 : (own_hw (v21).toNatClampNeg v23 (p_4.toInt8.toInt32) (p_1.toInt8.toInt32) v3 v4 v5 11) = r152 := own_t0_14 p_1 p_2 p_3 p_4 v3 v4 v5 v21 v23 r152 hdv3 hdv4 hdv5 hdv21 hdv23 hl hp hr_r152
    refine own_go (fun _ k => XS.icmpNo X151.here hx rfl (hb hby at_624) rfl (Jvm.Free.XT.ii_ne_f hc153) k) ?_
    show own_Go _ _ _ _ T151 (mkF m 627 #[.val (.int p_1), .val (.int p_2), .val (.int p_3), .val (.int p_4), .val (.int (p_1.toInt8.toInt32)), .val (.int v3), .val (.int v4), .val (.int v5), .val (.ref b6), .val (.int v21), .val (.int v23), .val (.int (p_4.toInt8.toInt32)), .val (.ref b24), .val (.int r78), .val (.int v23), .val (.int (1 : Int32))] [])
    refine own_go (fun _ k => XS.iconst X151.here hx rfl (hb hby at_627) k) ?_
    show own_Go _ _ _ _ T151 (mkF m 628 #[.val (.int p_1), .val (.int p_2), .val (.int p_3), .val (.int p_4), .val (.int (p_1.toInt8.toInt32)), .val (.int v3), .val (.int v4), .val (.int v5), .val (.ref b6), .val (.int v21), .val (.int v23), .val (.int (p_4.toInt8.toInt32)), .val (.ref b24), .val (.int r78), .val (.int v23), .val (.int (1 : Int32))] [(.int (1 : Int32))])
    refine own_go (fun _ k => XS.goto X151.here hx rfl (pc0 := 628) (pc' := 632) rfl (hb hby at_628) (by decide) (by decide) k) ?_
    show own_Go _ _ _ _ T151 (mkF m 632 #[.val (.int p_1), .val (.int p_2), .val (.int p_3), .val (.int p_4), .val (.int (p_1.toInt8.toInt32)), .val (.int v3), .val (.int v4), .val (.int v5), .val (.ref b6), .val (.int v21), .val (.int v23), .val (.int (p_4.toInt8.toInt32)), .val (.ref b24), .val (.int r78), .val (.int v23), .val (.int (1 : Int32))] [(.int (1 : Int32))])
    refine own_go (fun _ k => XS.istore X151.here hx rfl (hb hby at_632) rfl (l' := #[.val (.int p_1), .val (.int p_2), .val (.int p_3), .val (.int p_4), .val (.int (p_1.toInt8.toInt32)), .val (.int v3), .val (.int v4), .val (.int v5), .val (.ref b6), .val (.int v21), .val (.int v23), .val (.int (p_4.toInt8.toInt32)), .val (.ref b24), .val (.int r78), .val (.int v23), .val (.int (1 : Int32))]) rfl k) ?_
    show own_Go _ _ _ _ T151 (mkF m 634 #[.val (.int p_1), .val (.int p_2), .val (.int p_3), .val (.int p_4), .val (.int (p_1.toInt8.toInt32)), .val (.int v3), .val (.int v4), .val (.int v5), .val (.ref b6), .val (.int v21), .val (.int v23), .val (.int (p_4.toInt8.toInt32)), .val (.ref b24), .val (.int r78), .val (.int v23), .val (.int (1 : Int32))] [])
    refine own_go (fun _ k => XS.iload X151.here hx rfl (hb hby at_634) rfl k) ?_
    show own_Go _ _ _ _ T151 (mkF m 636 #[.val (.int p_1), .val (.int p_2), .val (.int p_3), .val (.int p_4), .val (.int (p_1.toInt8.toInt32)), .val (.int v3), .val (.int v4), .val (.int v5), .val (.ref b6), .val (.int v21), .val (.int v23), .val (.int (p_4.toInt8.toInt32)), .val (.ref b24), .val (.int r78), .val (.int v23), .val (.int (1 : Int32))] [(.int (1 : Int32))])
    have hc154 : ¬ ((1 : Int32) = 0) := by decide
    refine own_go (fun _ k => XS.ifNo X151.here hx rfl (hb hby at_636) rfl (Jvm.Free.XT.i0_eq_f hc154) k) ?_
    show own_Go _ _ _ _ T151 (mkF m 639 #[.val (.int p_1), .val (.int p_2), .val (.int p_3), .val (.int p_4), .val (.int (p_1.toInt8.toInt32)), .val (.int v3), .val (.int v4), .val (.int v5), .val (.ref b6), .val (.int v21), .val (.int v23), .val (.int (p_4.toInt8.toInt32)), .val (.ref b24), .val (.int r78), .val (.int v23), .val (.int (1 : Int32))] [])
    refine own_go (fun _ k => XS.aload X151.here hx rfl (hb hby at_639) rfl rfl k) ?_
    show own_Go _ _ _ _ T151 (mkF m 641 #[.val (.int p_1), .val (.int p_2), .val (.int p_3), .val (.int p_4), .val (.int (p_1.toInt8.toInt32)), .val (.int v3), .val (.int v4), .val (.int v5), .val (.ref b6), .val (.int v21), .val (.int v23), .val (.int (p_4.toInt8.toInt32)), .val (.ref b24), .val (.int r78), .val (.int v23), .val (.int (1 : Int32))] [(.ref b24)])
    refine own_go (fun _ k => XS.bipush X151.here hx rfl (hb hby at_641) k) ?_
    show own_Go _ _ _ _ T151 (mkF m 643 #[.val (.int p_1), .val (.int p_2), .val (.int p_3), .val (.int p_4), .val (.int (p_1.toInt8.toInt32)), .val (.int v3), .val (.int v4), .val (.int v5), .val (.ref b6), .val (.int v21), .val (.int v23), .val (.int (p_4.toInt8.toInt32)), .val (.ref b24), .val (.int r78), .val (.int v23), .val (.int (1 : Int32))] [(.int (12 : Int32)), (.ref b24)])
    obtain ⟨q155, c155, R155, s155, t155⟩ := id f79
    have hin155 : ¬ ((12 : Int32) < 0 ∨ c155.slots.size ≤ ((12 : Int32)).toNatClampNeg) := inb_of s155 ⟨by decide, by decide⟩
    have u155 : c155.slots[((12 : Int32)).toNatClampNeg]? = some (.int (own_hw (v21).toNatClampNeg v23 (p_4.toInt8.toInt32) (p_1.toInt8.toInt32) v3 v4 v5 12)) := own_at (k := 12) t155 s155 hin155 (by decide) (own_hx_hw _ _ _ _ _ _ _ _ _ rfl)
    refine own_go (fun _ k => X151.baloadBytes hx (j := (12 : Int32)) (v := (.int (own_hw (v21).toNatClampNeg v23 (p_4.toInt8.toInt32) (p_1.toInt8.toInt32) v3 v4 v5 12))) (by rw [e151]; exact R155.1) (State.isArrayOf_alike hZ.alike R155.2.1) R155.2.2 hin155 u155 (g := (mkF m 643 #[.val (.int p_1), .val (.int p_2), .val (.int p_3), .val (.int p_4), .val (.int (p_1.toInt8.toInt32)), .val (.int v3), .val (.int v4), .val (.int v5), .val (.ref b6), .val (.int v21), .val (.int v23), .val (.int (p_4.toInt8.toInt32)), .val (.ref b24), .val (.int r78), .val (.int v23), .val (.int (1 : Int32))] [(.int (12 : Int32)), (.ref b24)])) rfl rfl (hb hby at_643) _ k) ?_
    show own_Go _ _ _ _ T151 (mkF m 644 #[.val (.int p_1), .val (.int p_2), .val (.int p_3), .val (.int p_4), .val (.int (p_1.toInt8.toInt32)), .val (.int v3), .val (.int v4), .val (.int v5), .val (.ref b6), .val (.int v21), .val (.int v23), .val (.int (p_4.toInt8.toInt32)), .val (.ref b24), .val (.int r78), .val (.int v23), .val (.int (1 : Int32))] [(.int (own_hw (v21).toNatClampNeg v23 (p_4.toInt8.toInt32) (p_1.toInt8.toInt32) v3 v4 v5 12))])
    refine own_go (fun _ k => XS.bipush X151.here hx rfl (hb hby at_644) k) ?_
    show own_Go _ _ _ _ T151 (mkF m 646 #[.val (.int p_1), .val (.int p_2), .val (.int p_3), .val (.int p_4), .val (.int (p_1.toInt8.toInt32)), .val (.int v3), .val (.int v4), .val (.int v5), .val (.ref b6), .val (.int v21), .val (.int v23), .val (.int (p_4.toInt8.toInt32)), .val (.ref b24), .val (.int r78), .val (.int v23), .val (.int (1 : Int32))] [(.int (12 : Int32)), (.int (own_hw (v21).toNatClampNeg v23 (p_4.toInt8.toInt32) (p_1.toInt8.toInt32) v3 v4 v5 12))])
    refine own_go (fun _ k => XS.iloadN X151.here hx rfl (hb hby at_646) rfl k) ?_
    show own_Go _ _ _ _ T151 (mkF m 647 #[.val (.int p_1), .val (.int p_2), .val (.int p_3), .val (.int p_4), .val (.int (p_1.toInt8.toInt32)), .val (.int v3), .val (.int v4), .val (.int v5), .val (.ref b6), .val (.int v21), .val (.int v23), .val (.int (p_4.toInt8.toInt32)), .val (.ref b24), .val (.int r78), .val (.int v23), .val (.int (1 : Int32))] [(.int p_1), (.int (12 : Int32)), (.int (own_hw (v21).toNatClampNeg v23 (p_4.toInt8.toInt32) (p_1.toInt8.toInt32) v3 v4 v5 12))])
    refine own_go (fun _ k => XS.iload X151.here hx rfl (hb hby at_647) rfl k) ?_
    show own_Go _ _ _ _ T151 (mkF m 649 #[.val (.int p_1), .val (.int p_2), .val (.int p_3), .val (.int p_4), .val (.int (p_1.toInt8.toInt32)), .val (.int v3), .val (.int v4), .val (.int v5), .val (.ref b6), .val (.int v21), .val (.int v23), .val (.int (p_4.toInt8.toInt32)), .val (.ref b24), .val (.int r78), .val (.int v23), .val (.int (1 : Int32))] [(.int v21), (.int p_1), (.int (12 : Int32)), (.int (own_hw (v21).toNatClampNeg v23 (p_4.toInt8.toInt32) (p_1.toInt8.toInt32) v3 v4 v5 12))])
    refine own_go (fun _ k => XS.iload X151.here hx rfl (hb hby at_649) rfl k) ?_
    show own_Go _ _ _ _ T151 (mkF m 651 #[.val (.int p_1), .val (.int p_2), .val (.int p_3), .val (.int p_4), .val (.int (p_1.toInt8.toInt32)), .val (.int v3), .val (.int v4), .val (.int v5), .val (.ref b6), .val (.int v21), .val (.int v23), .val (.int (p_4.toInt8.toInt32)), .val (.ref b24), .val (.int r78), .val (.int v23), .val (.int (1 : Int32))] [(.int v23), (.int v21), (.int p_1), (.int (12 : Int32)), (.int (own_hw (v21).toNatClampNeg v23 (p_4.toInt8.toInt32) (p_1.toInt8.toInt32) v3 v4 v5 12))])
    refine own_go (fun _ k => XS.iload X151.here hx rfl (hb hby at_651) rfl k) ?_
    show own_Go _ _ _ _ T151 (mkF m 653 #[.val (.int p_1), .val (.int p_2), .val (.int p_3), .val (.int p_4), .val (.int (p_1.toInt8.toInt32)), .val (.int v3), .val (.int v4), .val (.int v5), .val (.ref b6), .val (.int v21), .val (.int v23), .val (.int (p_4.toInt8.toInt32)), .val (.ref b24), .val (.int r78), .val (.int v23), .val (.int (1 : Int32))] [(.int (p_4.toInt8.toInt32)), (.int v23), (.int v21), (.int p_1), (.int (12 : Int32)), (.int (own_hw (v21).toNatClampNeg v23 (p_4.toInt8.toInt32) (p_1.toInt8.toInt32) v3 v4 v5 12))])
    obtain ⟨_, _, ⟨T156, L156, k156, n156⟩, -, X156, ⟨Lc156, hQ156, l156, y156, z156⟩, st156⟩ := Jvm.LawKit.callS X151 hx (y := (⟨"com/example/honest_codec/honestcodec/IllFormedSequencePutHexPinLaw", "expectedAt", "(IIIIB)B"⟩ : MethodName)) hown (mvT hZ (hw _ (List.mem_of_getElem? (i := 8) rfl))) (mvT hZ (hw _ (List.mem_of_getElem? (i := 9) rfl))) (mvT hZ (hw _ (List.mem_of_getElem? (i := 10) rfl))) (mvT hZ (hw _ (List.mem_of_getElem? (i := 11) rfl))) (by decide) (backOf (W := 1) (own_rm2 l Z a0 hw [] (12 : Int32) p_1 v21 v23 (p_4.toInt8.toInt32)  T77.heap n0 (by omega) (own_nar_b _)) hZ (hw _ (List.mem_of_getElem? (i := 11) rfl)) (hw _ (List.mem_of_getElem? (i := 10) rfl)) (by decide) (by decide)) (g := (mkF m 653 #[.val (.int p_1), .val (.int p_2), .val (.int p_3), .val (.int p_4), .val (.int (p_1.toInt8.toInt32)), .val (.int v3), .val (.int v4), .val (.int v5), .val (.ref b6), .val (.int v21), .val (.int v23), .val (.int (p_4.toInt8.toInt32)), .val (.ref b24), .val (.int r78), .val (.int v23), .val (.int (1 : Int32))] [(.int (p_4.toInt8.toInt32)), (.int v23), (.int v21), (.int p_1), (.int (12 : Int32)), (.int (own_hw (v21).toNatClampNeg v23 (p_4.toInt8.toInt32) (p_1.toInt8.toInt32) v3 v4 v5 12))])) rfl (by rw [hml]; rfl) (argsL := [(.int (12 : Int32)), (.int p_1), (.int v21), (.int v23), (.int (p_4.toInt8.toInt32))]) (rest := [(.int (own_hw (v21).toNatClampNeg v23 (p_4.toInt8.toInt32) (p_1.toInt8.toInt32) v3 v4 v5 12))]) (lenOf own_pd2 rfl) rfl (by show 2 * 0 + _ ≤ _; exact Nat.le_of_eq rfl) (hb hby at_653) (fun _ _ => ⟨rfl, e151, (by show k151 + _ ≤ _; rw [y151]; decide), (by show n151 + _ ≤ _; rw [z151]; decide)⟩)
    dsimp only [Pt.U, Pt.locs, Pt.cells, Pt.slots] at X156 l156 y156 z156 st156 hQ156
    have y156 : k156 = 2 := own_addeq y156 (congrArg (fun q => q) y151) rfl
    have z156 : n156 = 20 := own_addeq z156 (congrArg (fun q => q) z151) rfl
    obtain ⟨r157, rfl, N156q, hr_r157, e156⟩ := hQ156
    have N156 : Fr n0 L156 := by rw [l156]; exact Fr.app N151 N156q
    refine own_go (fun _ k => st156 _ k) ?_
    show own_Go _ _ _ _ T156 (mkF m 656 #[.val (.int p_1), .val (.int p_2), .val (.int p_3), .val (.int p_4), .val (.int (p_1.toInt8.toInt32)), .val (.int v3), .val (.int v4), .val (.int v5), .val (.ref b6), .val (.int v21), .val (.int v23), .val (.int (p_4.toInt8.toInt32)), .val (.ref b24), .val (.int r78), .val (.int v23), .val (.int (1 : Int32))] [(.int r157), (.int (own_hw (v21).toNatClampNeg v23 (p_4.toInt8.toInt32) (p_1.toInt8.toInt32) v3 v4 v5 12))])
    have hc158 : (own_hw (v21).toNatClampNeg v23 (p_4.toInt8.toInt32) (p_1.toInt8.toInt32) v3 v4 v5 12) = r157 := own_t0_15 p_1 p_2 p_3 p_4 v3 v4 v5 v21 v23 r157 hdv3 hdv4 hdv5 hdv21 hdv23 hl hp hr_r157
    refine own_go (fun _ k => XS.icmpNo X156.here hx rfl (hb hby at_656) rfl (Jvm.Free.XT.ii_ne_f hc158) k) ?_
    show own_Go _ _ _ _ T156 (mkF m 659 #[.val (.int p_1), .val (.int p_2), .val (.int p_3), .val (.int p_4), .val (.int (p_1.toInt8.toInt32)), .val (.int v3), .val (.int v4), .val (.int v5), .val (.ref b6), .val (.int v21), .val (.int v23), .val (.int (p_4.toInt8.toInt32)), .val (.ref b24), .val (.int r78), .val (.int v23), .val (.int (1 : Int32))] [])
    refine own_go (fun _ k => XS.iconst X156.here hx rfl (hb hby at_659) k) ?_
    show own_Go _ _ _ _ T156 (mkF m 660 #[.val (.int p_1), .val (.int p_2), .val (.int p_3), .val (.int p_4), .val (.int (p_1.toInt8.toInt32)), .val (.int v3), .val (.int v4), .val (.int v5), .val (.ref b6), .val (.int v21), .val (.int v23), .val (.int (p_4.toInt8.toInt32)), .val (.ref b24), .val (.int r78), .val (.int v23), .val (.int (1 : Int32))] [(.int (1 : Int32))])
    refine own_go (fun _ k => XS.goto X156.here hx rfl (pc0 := 660) (pc' := 664) rfl (hb hby at_660) (by decide) (by decide) k) ?_
    show own_Go _ _ _ _ T156 (mkF m 664 #[.val (.int p_1), .val (.int p_2), .val (.int p_3), .val (.int p_4), .val (.int (p_1.toInt8.toInt32)), .val (.int v3), .val (.int v4), .val (.int v5), .val (.ref b6), .val (.int v21), .val (.int v23), .val (.int (p_4.toInt8.toInt32)), .val (.ref b24), .val (.int r78), .val (.int v23), .val (.int (1 : Int32))] [(.int (1 : Int32))])
    refine own_go (fun _ k => XS.istore X156.here hx rfl (hb hby at_664) rfl (l' := #[.val (.int p_1), .val (.int p_2), .val (.int p_3), .val (.int p_4), .val (.int (p_1.toInt8.toInt32)), .val (.int v3), .val (.int v4), .val (.int v5), .val (.ref b6), .val (.int v21), .val (.int v23), .val (.int (p_4.toInt8.toInt32)), .val (.ref b24), .val (.int r78), .val (.int v23), .val (.int (1 : Int32))]) rfl k) ?_
    show own_Go _ _ _ _ T156 (mkF m 666 #[.val (.int p_1), .val (.int p_2), .val (.int p_3), .val (.int p_4), .val (.int (p_1.toInt8.toInt32)), .val (.int v3), .val (.int v4), .val (.int v5), .val (.ref b6), .val (.int v21), .val (.int v23), .val (.int (p_4.toInt8.toInt32)), .val (.ref b24), .val (.int r78), .val (.int v23), .val (.int (1 : Int32))] [])
    refine own_go (fun _ k => XS.iload X156.here hx rfl (hb hby at_666) rfl k) ?_
    show own_Go _ _ _ _ T156 (mkF m 668 #[.val (.int p_1), .val (.int p_2), .val (.int p_3), .val (.int p_4), .val (.int (p_1.toInt8.toInt32)), .val (.int v3), .val (.int v4), .val (.int v5), .val (.ref b6), .val (.int v21), .val (.int v23), .val (.int (p_4.toInt8.toInt32)), .val (.ref b24), .val (.int r78), .val (.int v23), .val (.int (1 : Int32))] [(.int (1 : Int32))])
    have hc159 : ¬ ((1 : Int32) = 0) := by decide
    refine own_go (fun _ k => XS.ifNo X156.here hx rfl (hb hby at_668) rfl (Jvm.Free.XT.i0_eq_f hc159) k) ?_
    show own_Go _ _ _ _ T156 (mkF m 671 #[.val (.int p_1), .val (.int p_2), .val (.int p_3), .val (.int p_4), .val (.int (p_1.toInt8.toInt32)), .val (.int v3), .val (.int v4), .val (.int v5), .val (.ref b6), .val (.int v21), .val (.int v23), .val (.int (p_4.toInt8.toInt32)), .val (.ref b24), .val (.int r78), .val (.int v23), .val (.int (1 : Int32))] [])
    refine own_go (fun _ k => XS.aload X156.here hx rfl (hb hby at_671) rfl rfl k) ?_
    show own_Go _ _ _ _ T156 (mkF m 673 #[.val (.int p_1), .val (.int p_2), .val (.int p_3), .val (.int p_4), .val (.int (p_1.toInt8.toInt32)), .val (.int v3), .val (.int v4), .val (.int v5), .val (.ref b6), .val (.int v21), .val (.int v23), .val (.int (p_4.toInt8.toInt32)), .val (.ref b24), .val (.int r78), .val (.int v23), .val (.int (1 : Int32))] [(.ref b24)])
    refine own_go (fun _ k => XS.bipush X156.here hx rfl (hb hby at_673) k) ?_
    show own_Go _ _ _ _ T156 (mkF m 675 #[.val (.int p_1), .val (.int p_2), .val (.int p_3), .val (.int p_4), .val (.int (p_1.toInt8.toInt32)), .val (.int v3), .val (.int v4), .val (.int v5), .val (.ref b6), .val (.int v21), .val (.int v23), .val (.int (p_4.toInt8.toInt32)), .val (.ref b24), .val (.int r78), .val (.int v23), .val (.int (1 : Int32))] [(.int (13 : Int32)), (.ref b24)])
    obtain ⟨q160, c160, R160, s160, t160⟩ := id f79
    have hin160 : ¬ ((13 : Int32) < 0 ∨ c160.slots.size ≤ ((13 : Int32)).toNatClampNeg) := inb_of s160 ⟨by decide, by decide⟩
    have u160 : c160.slots[((13 : Int32)).toNatClampNeg]? = some (.int (own_hw (v21).toNatClampNeg v23 (p_4.toInt8.toInt32) (p_1.toInt8.toInt32) v3 v4 v5 13)) := own_at (k := 13) t160 s160 hin160 (by decide) (own_hx_hw _ _ _ _ _ _ _ _ _ rfl)
    refine own_go (fun _ k => X156.baloadBytes hx (j := (13 : Int32)) (v := (.int (own_hw (v21).toNatClampNeg v23 (p_4.toInt8.toInt32) (p_1.toInt8.toInt32) v3 v4 v5 13))) (by rw [e156]; exact R160.1) (State.isArrayOf_alike hZ.alike R160.2.1) R160.2.2 hin160 u160 (g := (mkF m 675 #[.val (.int p_1), .val (.int p_2), .val (.int p_3), .val (.int p_4), .val (.int (p_1.toInt8.toInt32)), .val (.int v3), .val (.int v4), .val (.int v5), .val (.ref b6), .val (.int v21), .val (.int v23), .val (.int (p_4.toInt8.toInt32)), .val (.ref b24), .val (.int r78), .val (.int v23), .val (.int (1 : Int32))] [(.int (13 : Int32)), (.ref b24)])) rfl rfl (hb hby at_675) _ k) ?_
    show own_Go _ _ _ _ T156 (mkF m 676 #[.val (.int p_1), .val (.int p_2), .val (.int p_3), .val (.int p_4), .val (.int (p_1.toInt8.toInt32)), .val (.int v3), .val (.int v4), .val (.int v5), .val (.ref b6), .val (.int v21), .val (.int v23), .val (.int (p_4.toInt8.toInt32)), .val (.ref b24), .val (.int r78), .val (.int v23), .val (.int (1 : Int32))] [(.int (own_hw (v21).toNatClampNeg v23 (p_4.toInt8.toInt32) (p_1.toInt8.toInt32) v3 v4 v5 13))])
    refine own_go (fun _ k => XS.bipush X156.here hx rfl (hb hby at_676) k) ?_
    show own_Go _ _ _ _ T156 (mkF m 678 #[.val (.int p_1), .val (.int p_2), .val (.int p_3), .val (.int p_4), .val (.int (p_1.toInt8.toInt32)), .val (.int v3), .val (.int v4), .val (.int v5), .val (.ref b6), .val (.int v21), .val (.int v23), .val (.int (p_4.toInt8.toInt32)), .val (.ref b24), .val (.int r78), .val (.int v23), .val (.int (1 : Int32))] [(.int (13 : Int32)), (.int (own_hw (v21).toNatClampNeg v23 (p_4.toInt8.toInt32) (p_1.toInt8.toInt32) v3 v4 v5 13))])
    refine own_go (fun _ k => XS.iloadN X156.here hx rfl (hb hby at_678) rfl k) ?_
    show own_Go _ _ _ _ T156 (mkF m 679 #[.val (.int p_1), .val (.int p_2), .val (.int p_3), .val (.int p_4), .val (.int (p_1.toInt8.toInt32)), .val (.int v3), .val (.int v4), .val (.int v5), .val (.ref b6), .val (.int v21), .val (.int v23), .val (.int (p_4.toInt8.toInt32)), .val (.ref b24), .val (.int r78), .val (.int v23), .val (.int (1 : Int32))] [(.int p_1), (.int (13 : Int32)), (.int (own_hw (v21).toNatClampNeg v23 (p_4.toInt8.toInt32) (p_1.toInt8.toInt32) v3 v4 v5 13))])
    refine own_go (fun _ k => XS.iload X156.here hx rfl (hb hby at_679) rfl k) ?_
    show own_Go _ _ _ _ T156 (mkF m 681 #[.val (.int p_1), .val (.int p_2), .val (.int p_3), .val (.int p_4), .val (.int (p_1.toInt8.toInt32)), .val (.int v3), .val (.int v4), .val (.int v5), .val (.ref b6), .val (.int v21), .val (.int v23), .val (.int (p_4.toInt8.toInt32)), .val (.ref b24), .val (.int r78), .val (.int v23), .val (.int (1 : Int32))] [(.int v21), (.int p_1), (.int (13 : Int32)), (.int (own_hw (v21).toNatClampNeg v23 (p_4.toInt8.toInt32) (p_1.toInt8.toInt32) v3 v4 v5 13))])
    refine own_go (fun _ k => XS.iload X156.here hx rfl (hb hby at_681) rfl k) ?_
    show own_Go _ _ _ _ T156 (mkF m 683 #[.val (.int p_1), .val (.int p_2), .val (.int p_3), .val (.int p_4), .val (.int (p_1.toInt8.toInt32)), .val (.int v3), .val (.int v4), .val (.int v5), .val (.ref b6), .val (.int v21), .val (.int v23), .val (.int (p_4.toInt8.toInt32)), .val (.ref b24), .val (.int r78), .val (.int v23), .val (.int (1 : Int32))] [(.int v23), (.int v21), (.int p_1), (.int (13 : Int32)), (.int (own_hw (v21).toNatClampNeg v23 (p_4.toInt8.toInt32) (p_1.toInt8.toInt32) v3 v4 v5 13))])
    refine own_go (fun _ k => XS.iload X156.here hx rfl (hb hby at_683) rfl k) ?_
    show own_Go _ _ _ _ T156 (mkF m 685 #[.val (.int p_1), .val (.int p_2), .val (.int p_3), .val (.int p_4), .val (.int (p_1.toInt8.toInt32)), .val (.int v3), .val (.int v4), .val (.int v5), .val (.ref b6), .val (.int v21), .val (.int v23), .val (.int (p_4.toInt8.toInt32)), .val (.ref b24), .val (.int r78), .val (.int v23), .val (.int (1 : Int32))] [(.int (p_4.toInt8.toInt32)), (.int v23), (.int v21), (.int p_1), (.int (13 : Int32)), (.int (own_hw (v21).toNatClampNeg v23 (p_4.toInt8.toInt32) (p_1.toInt8.toInt32) v3 v4 v5 13))])
    obtain ⟨_, _, ⟨T161, L161, k161, n161⟩, -, X161, ⟨Lc161, hQ161, l161, y161, z161⟩, st161⟩ := Jvm.LawKit.callS X156 hx (y := (⟨"com/example/honest_codec/honestcodec/IllFormedSequencePutHexPinLaw", "expectedAt", "(IIIIB)B"⟩ : MethodName)) hown (mvT hZ (hw _ (List.mem_of_getElem? (i := 8) rfl))) (mvT hZ (hw _ (List.mem_of_getElem? (i := 9) rfl))) (mvT hZ (hw _ (List.mem_of_getElem? (i := 10) rfl))) (mvT hZ (hw _ (List.mem_of_getElem? (i := 11) rfl))) (by decide) (backOf (W := 1) (own_rm2 l Z a0 hw [] (13 : Int32) p_1 v21 v23 (p_4.toInt8.toInt32)  T77.heap n0 (by omega) (own_nar_b _)) hZ (hw _ (List.mem_of_getElem? (i := 11) rfl)) (hw _ (List.mem_of_getElem? (i := 10) rfl)) (by decide) (by decide)) (g := (mkF m 685 #[.val (.int p_1), .val (.int p_2), .val (.int p_3), .val (.int p_4), .val (.int (p_1.toInt8.toInt32)), .val (.int v3), .val (.int v4), .val (.int v5), .val (.ref b6), .val (.int v21), .val (.int v23), .val (.int (p_4.toInt8.toInt32)), .val (.ref b24), .val (.int r78), .val (.int v23), .val (.int (1 : Int32))] [(.int (p_4.toInt8.toInt32)), (.int v23), (.int v21), (.int p_1), (.int (13 : Int32)), (.int (own_hw (v21).toNatClampNeg v23 (p_4.toInt8.toInt32) (p_1.toInt8.toInt32) v3 v4 v5 13))])) rfl (by rw [hml]; rfl) (argsL := [(.int (13 : Int32)), (.int p_1), (.int v21), (.int v23), (.int (p_4.toInt8.toInt32))]) (rest := [(.int (own_hw (v21).toNatClampNeg v23 (p_4.toInt8.toInt32) (p_1.toInt8.toInt32) v3 v4 v5 13))]) (lenOf own_pd2 rfl) rfl (by show 2 * 0 + _ ≤ _; exact Nat.le_of_eq rfl) (hb hby at_685) (fun _ _ => ⟨rfl, e156, (by show k156 + _ ≤ _; rw [y156]; decide), (by show n156 + _ ≤ _; rw [z156]; decide)⟩)
    dsimp only [Pt.U, Pt.locs, Pt.cells, Pt.slots] at X161 l161 y161 z161 st161 hQ161
    have y161 : k161 = 2 := own_addeq y161 (congrArg (fun q => q) y156) rfl
    have z161 : n161 = 20 := own_addeq z161 (congrArg (fun q => q) z156) rfl
    obtain ⟨r162, rfl, N161q, hr_r162, e161⟩ := hQ161
    have N161 : Fr n0 L161 := by rw [l161]; exact Fr.app N156 N161q
    refine own_go (fun _ k => st161 _ k) ?_
    show own_Go _ _ _ _ T161 (mkF m 688 #[.val (.int p_1), .val (.int p_2), .val (.int p_3), .val (.int p_4), .val (.int (p_1.toInt8.toInt32)), .val (.int v3), .val (.int v4), .val (.int v5), .val (.ref b6), .val (.int v21), .val (.int v23), .val (.int (p_4.toInt8.toInt32)), .val (.ref b24), .val (.int r78), .val (.int v23), .val (.int (1 : Int32))] [(.int r162), (.int (own_hw (v21).toNatClampNeg v23 (p_4.toInt8.toInt32) (p_1.toInt8.toInt32) v3 v4 v5 13))])
    have hc163 : (own_hw (v21).toNatClampNeg v23 (p_4.toInt8.toInt32) (p_1.toInt8.toInt32) v3 v4 v5 13) = r162 := own_t0_16 p_1 p_2 p_3 p_4 v3 v4 v5 v21 v23 r162 hdv3 hdv4 hdv5 hdv21 hdv23 hl hp hr_r162
    refine own_go (fun _ k => XS.icmpNo X161.here hx rfl (hb hby at_688) rfl (Jvm.Free.XT.ii_ne_f hc163) k) ?_
    show own_Go _ _ _ _ T161 (mkF m 691 #[.val (.int p_1), .val (.int p_2), .val (.int p_3), .val (.int p_4), .val (.int (p_1.toInt8.toInt32)), .val (.int v3), .val (.int v4), .val (.int v5), .val (.ref b6), .val (.int v21), .val (.int v23), .val (.int (p_4.toInt8.toInt32)), .val (.ref b24), .val (.int r78), .val (.int v23), .val (.int (1 : Int32))] [])
    refine own_go (fun _ k => XS.iconst X161.here hx rfl (hb hby at_691) k) ?_
    show own_Go _ _ _ _ T161 (mkF m 692 #[.val (.int p_1), .val (.int p_2), .val (.int p_3), .val (.int p_4), .val (.int (p_1.toInt8.toInt32)), .val (.int v3), .val (.int v4), .val (.int v5), .val (.ref b6), .val (.int v21), .val (.int v23), .val (.int (p_4.toInt8.toInt32)), .val (.ref b24), .val (.int r78), .val (.int v23), .val (.int (1 : Int32))] [(.int (1 : Int32))])
    refine own_go (fun _ k => XS.goto X161.here hx rfl (pc0 := 692) (pc' := 696) rfl (hb hby at_692) (by decide) (by decide) k) ?_
    show own_Go _ _ _ _ T161 (mkF m 696 #[.val (.int p_1), .val (.int p_2), .val (.int p_3), .val (.int p_4), .val (.int (p_1.toInt8.toInt32)), .val (.int v3), .val (.int v4), .val (.int v5), .val (.ref b6), .val (.int v21), .val (.int v23), .val (.int (p_4.toInt8.toInt32)), .val (.ref b24), .val (.int r78), .val (.int v23), .val (.int (1 : Int32))] [(.int (1 : Int32))])
    refine own_go (fun _ k => XS.istore X161.here hx rfl (hb hby at_696) rfl (l' := #[.val (.int p_1), .val (.int p_2), .val (.int p_3), .val (.int p_4), .val (.int (p_1.toInt8.toInt32)), .val (.int v3), .val (.int v4), .val (.int v5), .val (.ref b6), .val (.int v21), .val (.int v23), .val (.int (p_4.toInt8.toInt32)), .val (.ref b24), .val (.int r78), .val (.int v23), .val (.int (1 : Int32))]) rfl k) ?_
    show own_Go _ _ _ _ T161 (mkF m 698 #[.val (.int p_1), .val (.int p_2), .val (.int p_3), .val (.int p_4), .val (.int (p_1.toInt8.toInt32)), .val (.int v3), .val (.int v4), .val (.int v5), .val (.ref b6), .val (.int v21), .val (.int v23), .val (.int (p_4.toInt8.toInt32)), .val (.ref b24), .val (.int r78), .val (.int v23), .val (.int (1 : Int32))] [])
    refine own_go (fun _ k => XS.iload X161.here hx rfl (hb hby at_698) rfl k) ?_
    show own_Go _ _ _ _ T161 (mkF m 700 #[.val (.int p_1), .val (.int p_2), .val (.int p_3), .val (.int p_4), .val (.int (p_1.toInt8.toInt32)), .val (.int v3), .val (.int v4), .val (.int v5), .val (.ref b6), .val (.int v21), .val (.int v23), .val (.int (p_4.toInt8.toInt32)), .val (.ref b24), .val (.int r78), .val (.int v23), .val (.int (1 : Int32))] [(.int (1 : Int32))])
    have hc164 : ¬ ((1 : Int32) = 0) := by decide
    refine own_go (fun _ k => XS.ifNo X161.here hx rfl (hb hby at_700) rfl (Jvm.Free.XT.i0_eq_f hc164) k) ?_
    show own_Go _ _ _ _ T161 (mkF m 703 #[.val (.int p_1), .val (.int p_2), .val (.int p_3), .val (.int p_4), .val (.int (p_1.toInt8.toInt32)), .val (.int v3), .val (.int v4), .val (.int v5), .val (.ref b6), .val (.int v21), .val (.int v23), .val (.int (p_4.toInt8.toInt32)), .val (.ref b24), .val (.int r78), .val (.int v23), .val (.int (1 : Int32))] [])
    refine own_go (fun _ k => XS.aload X161.here hx rfl (hb hby at_703) rfl rfl k) ?_
    show own_Go _ _ _ _ T161 (mkF m 705 #[.val (.int p_1), .val (.int p_2), .val (.int p_3), .val (.int p_4), .val (.int (p_1.toInt8.toInt32)), .val (.int v3), .val (.int v4), .val (.int v5), .val (.ref b6), .val (.int v21), .val (.int v23), .val (.int (p_4.toInt8.toInt32)), .val (.ref b24), .val (.int r78), .val (.int v23), .val (.int (1 : Int32))] [(.ref b24)])
    refine own_go (fun _ k => XS.bipush X161.here hx rfl (hb hby at_705) k) ?_
    show own_Go _ _ _ _ T161 (mkF m 707 #[.val (.int p_1), .val (.int p_2), .val (.int p_3), .val (.int p_4), .val (.int (p_1.toInt8.toInt32)), .val (.int v3), .val (.int v4), .val (.int v5), .val (.ref b6), .val (.int v21), .val (.int v23), .val (.int (p_4.toInt8.toInt32)), .val (.ref b24), .val (.int r78), .val (.int v23), .val (.int (1 : Int32))] [(.int (14 : Int32)), (.ref b24)])
    obtain ⟨q165, c165, R165, s165, t165⟩ := id f79
    have hin165 : ¬ ((14 : Int32) < 0 ∨ c165.slots.size ≤ ((14 : Int32)).toNatClampNeg) := inb_of s165 ⟨by decide, by decide⟩
    have u165 : c165.slots[((14 : Int32)).toNatClampNeg]? = some (.int (own_hw (v21).toNatClampNeg v23 (p_4.toInt8.toInt32) (p_1.toInt8.toInt32) v3 v4 v5 14)) := own_at (k := 14) t165 s165 hin165 (by decide) (own_hx_hw _ _ _ _ _ _ _ _ _ rfl)
    refine own_go (fun _ k => X161.baloadBytes hx (j := (14 : Int32)) (v := (.int (own_hw (v21).toNatClampNeg v23 (p_4.toInt8.toInt32) (p_1.toInt8.toInt32) v3 v4 v5 14))) (by rw [e161]; exact R165.1) (State.isArrayOf_alike hZ.alike R165.2.1) R165.2.2 hin165 u165 (g := (mkF m 707 #[.val (.int p_1), .val (.int p_2), .val (.int p_3), .val (.int p_4), .val (.int (p_1.toInt8.toInt32)), .val (.int v3), .val (.int v4), .val (.int v5), .val (.ref b6), .val (.int v21), .val (.int v23), .val (.int (p_4.toInt8.toInt32)), .val (.ref b24), .val (.int r78), .val (.int v23), .val (.int (1 : Int32))] [(.int (14 : Int32)), (.ref b24)])) rfl rfl (hb hby at_707) _ k) ?_
    show own_Go _ _ _ _ T161 (mkF m 708 #[.val (.int p_1), .val (.int p_2), .val (.int p_3), .val (.int p_4), .val (.int (p_1.toInt8.toInt32)), .val (.int v3), .val (.int v4), .val (.int v5), .val (.ref b6), .val (.int v21), .val (.int v23), .val (.int (p_4.toInt8.toInt32)), .val (.ref b24), .val (.int r78), .val (.int v23), .val (.int (1 : Int32))] [(.int (own_hw (v21).toNatClampNeg v23 (p_4.toInt8.toInt32) (p_1.toInt8.toInt32) v3 v4 v5 14))])
    refine own_go (fun _ k => XS.bipush X161.here hx rfl (hb hby at_708) k) ?_
    show own_Go _ _ _ _ T161 (mkF m 710 #[.val (.int p_1), .val (.int p_2), .val (.int p_3), .val (.int p_4), .val (.int (p_1.toInt8.toInt32)), .val (.int v3), .val (.int v4), .val (.int v5), .val (.ref b6), .val (.int v21), .val (.int v23), .val (.int (p_4.toInt8.toInt32)), .val (.ref b24), .val (.int r78), .val (.int v23), .val (.int (1 : Int32))] [(.int (14 : Int32)), (.int (own_hw (v21).toNatClampNeg v23 (p_4.toInt8.toInt32) (p_1.toInt8.toInt32) v3 v4 v5 14))])
    refine own_go (fun _ k => XS.iloadN X161.here hx rfl (hb hby at_710) rfl k) ?_
    show own_Go _ _ _ _ T161 (mkF m 711 #[.val (.int p_1), .val (.int p_2), .val (.int p_3), .val (.int p_4), .val (.int (p_1.toInt8.toInt32)), .val (.int v3), .val (.int v4), .val (.int v5), .val (.ref b6), .val (.int v21), .val (.int v23), .val (.int (p_4.toInt8.toInt32)), .val (.ref b24), .val (.int r78), .val (.int v23), .val (.int (1 : Int32))] [(.int p_1), (.int (14 : Int32)), (.int (own_hw (v21).toNatClampNeg v23 (p_4.toInt8.toInt32) (p_1.toInt8.toInt32) v3 v4 v5 14))])
    refine own_go (fun _ k => XS.iload X161.here hx rfl (hb hby at_711) rfl k) ?_
    show own_Go _ _ _ _ T161 (mkF m 713 #[.val (.int p_1), .val (.int p_2), .val (.int p_3), .val (.int p_4), .val (.int (p_1.toInt8.toInt32)), .val (.int v3), .val (.int v4), .val (.int v5), .val (.ref b6), .val (.int v21), .val (.int v23), .val (.int (p_4.toInt8.toInt32)), .val (.ref b24), .val (.int r78), .val (.int v23), .val (.int (1 : Int32))] [(.int v21), (.int p_1), (.int (14 : Int32)), (.int (own_hw (v21).toNatClampNeg v23 (p_4.toInt8.toInt32) (p_1.toInt8.toInt32) v3 v4 v5 14))])
    refine own_go (fun _ k => XS.iload X161.here hx rfl (hb hby at_713) rfl k) ?_
    show own_Go _ _ _ _ T161 (mkF m 715 #[.val (.int p_1), .val (.int p_2), .val (.int p_3), .val (.int p_4), .val (.int (p_1.toInt8.toInt32)), .val (.int v3), .val (.int v4), .val (.int v5), .val (.ref b6), .val (.int v21), .val (.int v23), .val (.int (p_4.toInt8.toInt32)), .val (.ref b24), .val (.int r78), .val (.int v23), .val (.int (1 : Int32))] [(.int v23), (.int v21), (.int p_1), (.int (14 : Int32)), (.int (own_hw (v21).toNatClampNeg v23 (p_4.toInt8.toInt32) (p_1.toInt8.toInt32) v3 v4 v5 14))])
    refine own_go (fun _ k => XS.iload X161.here hx rfl (hb hby at_715) rfl k) ?_
    show own_Go _ _ _ _ T161 (mkF m 717 #[.val (.int p_1), .val (.int p_2), .val (.int p_3), .val (.int p_4), .val (.int (p_1.toInt8.toInt32)), .val (.int v3), .val (.int v4), .val (.int v5), .val (.ref b6), .val (.int v21), .val (.int v23), .val (.int (p_4.toInt8.toInt32)), .val (.ref b24), .val (.int r78), .val (.int v23), .val (.int (1 : Int32))] [(.int (p_4.toInt8.toInt32)), (.int v23), (.int v21), (.int p_1), (.int (14 : Int32)), (.int (own_hw (v21).toNatClampNeg v23 (p_4.toInt8.toInt32) (p_1.toInt8.toInt32) v3 v4 v5 14))])
    obtain ⟨_, _, ⟨T166, L166, k166, n166⟩, -, X166, ⟨Lc166, hQ166, l166, y166, z166⟩, st166⟩ := Jvm.LawKit.callS X161 hx (y := (⟨"com/example/honest_codec/honestcodec/IllFormedSequencePutHexPinLaw", "expectedAt", "(IIIIB)B"⟩ : MethodName)) hown (mvT hZ (hw _ (List.mem_of_getElem? (i := 8) rfl))) (mvT hZ (hw _ (List.mem_of_getElem? (i := 9) rfl))) (mvT hZ (hw _ (List.mem_of_getElem? (i := 10) rfl))) (mvT hZ (hw _ (List.mem_of_getElem? (i := 11) rfl))) (by decide) (backOf (W := 1) (own_rm2 l Z a0 hw [] (14 : Int32) p_1 v21 v23 (p_4.toInt8.toInt32)  T77.heap n0 (by omega) (own_nar_b _)) hZ (hw _ (List.mem_of_getElem? (i := 11) rfl)) (hw _ (List.mem_of_getElem? (i := 10) rfl)) (by decide) (by decide)) (g := (mkF m 717 #[.val (.int p_1), .val (.int p_2), .val (.int p_3), .val (.int p_4), .val (.int (p_1.toInt8.toInt32)), .val (.int v3), .val (.int v4), .val (.int v5), .val (.ref b6), .val (.int v21), .val (.int v23), .val (.int (p_4.toInt8.toInt32)), .val (.ref b24), .val (.int r78), .val (.int v23), .val (.int (1 : Int32))] [(.int (p_4.toInt8.toInt32)), (.int v23), (.int v21), (.int p_1), (.int (14 : Int32)), (.int (own_hw (v21).toNatClampNeg v23 (p_4.toInt8.toInt32) (p_1.toInt8.toInt32) v3 v4 v5 14))])) rfl (by rw [hml]; rfl) (argsL := [(.int (14 : Int32)), (.int p_1), (.int v21), (.int v23), (.int (p_4.toInt8.toInt32))]) (rest := [(.int (own_hw (v21).toNatClampNeg v23 (p_4.toInt8.toInt32) (p_1.toInt8.toInt32) v3 v4 v5 14))]) (lenOf own_pd2 rfl) rfl (by show 2 * 0 + _ ≤ _; exact Nat.le_of_eq rfl) (hb hby at_717) (fun _ _ => ⟨rfl, e161, (by show k161 + _ ≤ _; rw [y161]; decide), (by show n161 + _ ≤ _; rw [z161]; decide)⟩)
    dsimp only [Pt.U, Pt.locs, Pt.cells, Pt.slots] at X166 l166 y166 z166 st166 hQ166
    have y166 : k166 = 2 := own_addeq y166 (congrArg (fun q => q) y161) rfl
    have z166 : n166 = 20 := own_addeq z166 (congrArg (fun q => q) z161) rfl
    obtain ⟨r167, rfl, N166q, hr_r167, e166⟩ := hQ166
    have N166 : Fr n0 L166 := by rw [l166]; exact Fr.app N161 N166q
    refine own_go (fun _ k => st166 _ k) ?_
    show own_Go _ _ _ _ T166 (mkF m 720 #[.val (.int p_1), .val (.int p_2), .val (.int p_3), .val (.int p_4), .val (.int (p_1.toInt8.toInt32)), .val (.int v3), .val (.int v4), .val (.int v5), .val (.ref b6), .val (.int v21), .val (.int v23), .val (.int (p_4.toInt8.toInt32)), .val (.ref b24), .val (.int r78), .val (.int v23), .val (.int (1 : Int32))] [(.int r167), (.int (own_hw (v21).toNatClampNeg v23 (p_4.toInt8.toInt32) (p_1.toInt8.toInt32) v3 v4 v5 14))])
    have hc168 : (own_hw (v21).toNatClampNeg v23 (p_4.toInt8.toInt32) (p_1.toInt8.toInt32) v3 v4 v5 14) = r167 := own_t0_17 p_1 p_2 p_3 p_4 v3 v4 v5 v21 v23 r167 hdv3 hdv4 hdv5 hdv21 hdv23 hl hp hr_r167
    refine own_go (fun _ k => XS.icmpNo X166.here hx rfl (hb hby at_720) rfl (Jvm.Free.XT.ii_ne_f hc168) k) ?_
    show own_Go _ _ _ _ T166 (mkF m 723 #[.val (.int p_1), .val (.int p_2), .val (.int p_3), .val (.int p_4), .val (.int (p_1.toInt8.toInt32)), .val (.int v3), .val (.int v4), .val (.int v5), .val (.ref b6), .val (.int v21), .val (.int v23), .val (.int (p_4.toInt8.toInt32)), .val (.ref b24), .val (.int r78), .val (.int v23), .val (.int (1 : Int32))] [])
    refine own_go (fun _ k => XS.iconst X166.here hx rfl (hb hby at_723) k) ?_
    show own_Go _ _ _ _ T166 (mkF m 724 #[.val (.int p_1), .val (.int p_2), .val (.int p_3), .val (.int p_4), .val (.int (p_1.toInt8.toInt32)), .val (.int v3), .val (.int v4), .val (.int v5), .val (.ref b6), .val (.int v21), .val (.int v23), .val (.int (p_4.toInt8.toInt32)), .val (.ref b24), .val (.int r78), .val (.int v23), .val (.int (1 : Int32))] [(.int (1 : Int32))])
    refine own_go (fun _ k => XS.goto X166.here hx rfl (pc0 := 724) (pc' := 728) rfl (hb hby at_724) (by decide) (by decide) k) ?_
    show own_Go _ _ _ _ T166 (mkF m 728 #[.val (.int p_1), .val (.int p_2), .val (.int p_3), .val (.int p_4), .val (.int (p_1.toInt8.toInt32)), .val (.int v3), .val (.int v4), .val (.int v5), .val (.ref b6), .val (.int v21), .val (.int v23), .val (.int (p_4.toInt8.toInt32)), .val (.ref b24), .val (.int r78), .val (.int v23), .val (.int (1 : Int32))] [(.int (1 : Int32))])
    refine own_go (fun _ k => XS.istore X166.here hx rfl (hb hby at_728) rfl (l' := #[.val (.int p_1), .val (.int p_2), .val (.int p_3), .val (.int p_4), .val (.int (p_1.toInt8.toInt32)), .val (.int v3), .val (.int v4), .val (.int v5), .val (.ref b6), .val (.int v21), .val (.int v23), .val (.int (p_4.toInt8.toInt32)), .val (.ref b24), .val (.int r78), .val (.int v23), .val (.int (1 : Int32))]) rfl k) ?_
    show own_Go _ _ _ _ T166 (mkF m 730 #[.val (.int p_1), .val (.int p_2), .val (.int p_3), .val (.int p_4), .val (.int (p_1.toInt8.toInt32)), .val (.int v3), .val (.int v4), .val (.int v5), .val (.ref b6), .val (.int v21), .val (.int v23), .val (.int (p_4.toInt8.toInt32)), .val (.ref b24), .val (.int r78), .val (.int v23), .val (.int (1 : Int32))] [])
    refine own_go (fun _ k => XS.iload X166.here hx rfl (hb hby at_730) rfl k) ?_
    show own_Go _ _ _ _ T166 (mkF m 732 #[.val (.int p_1), .val (.int p_2), .val (.int p_3), .val (.int p_4), .val (.int (p_1.toInt8.toInt32)), .val (.int v3), .val (.int v4), .val (.int v5), .val (.ref b6), .val (.int v21), .val (.int v23), .val (.int (p_4.toInt8.toInt32)), .val (.ref b24), .val (.int r78), .val (.int v23), .val (.int (1 : Int32))] [(.int (1 : Int32))])
    have hc169 : ¬ ((1 : Int32) = 0) := by decide
    refine own_go (fun _ k => XS.ifNo X166.here hx rfl (hb hby at_732) rfl (Jvm.Free.XT.i0_eq_f hc169) k) ?_
    show own_Go _ _ _ _ T166 (mkF m 735 #[.val (.int p_1), .val (.int p_2), .val (.int p_3), .val (.int p_4), .val (.int (p_1.toInt8.toInt32)), .val (.int v3), .val (.int v4), .val (.int v5), .val (.ref b6), .val (.int v21), .val (.int v23), .val (.int (p_4.toInt8.toInt32)), .val (.ref b24), .val (.int r78), .val (.int v23), .val (.int (1 : Int32))] [])
    refine own_go (fun _ k => XS.aload X166.here hx rfl (hb hby at_735) rfl rfl k) ?_
    show own_Go _ _ _ _ T166 (mkF m 737 #[.val (.int p_1), .val (.int p_2), .val (.int p_3), .val (.int p_4), .val (.int (p_1.toInt8.toInt32)), .val (.int v3), .val (.int v4), .val (.int v5), .val (.ref b6), .val (.int v21), .val (.int v23), .val (.int (p_4.toInt8.toInt32)), .val (.ref b24), .val (.int r78), .val (.int v23), .val (.int (1 : Int32))] [(.ref b24)])
    refine own_go (fun _ k => XS.bipush X166.here hx rfl (hb hby at_737) k) ?_
    show own_Go _ _ _ _ T166 (mkF m 739 #[.val (.int p_1), .val (.int p_2), .val (.int p_3), .val (.int p_4), .val (.int (p_1.toInt8.toInt32)), .val (.int v3), .val (.int v4), .val (.int v5), .val (.ref b6), .val (.int v21), .val (.int v23), .val (.int (p_4.toInt8.toInt32)), .val (.ref b24), .val (.int r78), .val (.int v23), .val (.int (1 : Int32))] [(.int (15 : Int32)), (.ref b24)])
    obtain ⟨q170, c170, R170, s170, t170⟩ := id f79
    have hin170 : ¬ ((15 : Int32) < 0 ∨ c170.slots.size ≤ ((15 : Int32)).toNatClampNeg) := inb_of s170 ⟨by decide, by decide⟩
    have u170 : c170.slots[((15 : Int32)).toNatClampNeg]? = some (.int (own_hw (v21).toNatClampNeg v23 (p_4.toInt8.toInt32) (p_1.toInt8.toInt32) v3 v4 v5 15)) := own_at (k := 15) t170 s170 hin170 (by decide) (own_hx_hw _ _ _ _ _ _ _ _ _ rfl)
    refine own_go (fun _ k => X166.baloadBytes hx (j := (15 : Int32)) (v := (.int (own_hw (v21).toNatClampNeg v23 (p_4.toInt8.toInt32) (p_1.toInt8.toInt32) v3 v4 v5 15))) (by rw [e166]; exact R170.1) (State.isArrayOf_alike hZ.alike R170.2.1) R170.2.2 hin170 u170 (g := (mkF m 739 #[.val (.int p_1), .val (.int p_2), .val (.int p_3), .val (.int p_4), .val (.int (p_1.toInt8.toInt32)), .val (.int v3), .val (.int v4), .val (.int v5), .val (.ref b6), .val (.int v21), .val (.int v23), .val (.int (p_4.toInt8.toInt32)), .val (.ref b24), .val (.int r78), .val (.int v23), .val (.int (1 : Int32))] [(.int (15 : Int32)), (.ref b24)])) rfl rfl (hb hby at_739) _ k) ?_
    show own_Go _ _ _ _ T166 (mkF m 740 #[.val (.int p_1), .val (.int p_2), .val (.int p_3), .val (.int p_4), .val (.int (p_1.toInt8.toInt32)), .val (.int v3), .val (.int v4), .val (.int v5), .val (.ref b6), .val (.int v21), .val (.int v23), .val (.int (p_4.toInt8.toInt32)), .val (.ref b24), .val (.int r78), .val (.int v23), .val (.int (1 : Int32))] [(.int (own_hw (v21).toNatClampNeg v23 (p_4.toInt8.toInt32) (p_1.toInt8.toInt32) v3 v4 v5 15))])
    refine own_go (fun _ k => XS.bipush X166.here hx rfl (hb hby at_740) k) ?_
    show own_Go _ _ _ _ T166 (mkF m 742 #[.val (.int p_1), .val (.int p_2), .val (.int p_3), .val (.int p_4), .val (.int (p_1.toInt8.toInt32)), .val (.int v3), .val (.int v4), .val (.int v5), .val (.ref b6), .val (.int v21), .val (.int v23), .val (.int (p_4.toInt8.toInt32)), .val (.ref b24), .val (.int r78), .val (.int v23), .val (.int (1 : Int32))] [(.int (15 : Int32)), (.int (own_hw (v21).toNatClampNeg v23 (p_4.toInt8.toInt32) (p_1.toInt8.toInt32) v3 v4 v5 15))])
    refine own_go (fun _ k => XS.iloadN X166.here hx rfl (hb hby at_742) rfl k) ?_
    show own_Go _ _ _ _ T166 (mkF m 743 #[.val (.int p_1), .val (.int p_2), .val (.int p_3), .val (.int p_4), .val (.int (p_1.toInt8.toInt32)), .val (.int v3), .val (.int v4), .val (.int v5), .val (.ref b6), .val (.int v21), .val (.int v23), .val (.int (p_4.toInt8.toInt32)), .val (.ref b24), .val (.int r78), .val (.int v23), .val (.int (1 : Int32))] [(.int p_1), (.int (15 : Int32)), (.int (own_hw (v21).toNatClampNeg v23 (p_4.toInt8.toInt32) (p_1.toInt8.toInt32) v3 v4 v5 15))])
    refine own_go (fun _ k => XS.iload X166.here hx rfl (hb hby at_743) rfl k) ?_
    show own_Go _ _ _ _ T166 (mkF m 745 #[.val (.int p_1), .val (.int p_2), .val (.int p_3), .val (.int p_4), .val (.int (p_1.toInt8.toInt32)), .val (.int v3), .val (.int v4), .val (.int v5), .val (.ref b6), .val (.int v21), .val (.int v23), .val (.int (p_4.toInt8.toInt32)), .val (.ref b24), .val (.int r78), .val (.int v23), .val (.int (1 : Int32))] [(.int v21), (.int p_1), (.int (15 : Int32)), (.int (own_hw (v21).toNatClampNeg v23 (p_4.toInt8.toInt32) (p_1.toInt8.toInt32) v3 v4 v5 15))])
    refine own_go (fun _ k => XS.iload X166.here hx rfl (hb hby at_745) rfl k) ?_
    show own_Go _ _ _ _ T166 (mkF m 747 #[.val (.int p_1), .val (.int p_2), .val (.int p_3), .val (.int p_4), .val (.int (p_1.toInt8.toInt32)), .val (.int v3), .val (.int v4), .val (.int v5), .val (.ref b6), .val (.int v21), .val (.int v23), .val (.int (p_4.toInt8.toInt32)), .val (.ref b24), .val (.int r78), .val (.int v23), .val (.int (1 : Int32))] [(.int v23), (.int v21), (.int p_1), (.int (15 : Int32)), (.int (own_hw (v21).toNatClampNeg v23 (p_4.toInt8.toInt32) (p_1.toInt8.toInt32) v3 v4 v5 15))])
    refine own_go (fun _ k => XS.iload X166.here hx rfl (hb hby at_747) rfl k) ?_
    show own_Go _ _ _ _ T166 (mkF m 749 #[.val (.int p_1), .val (.int p_2), .val (.int p_3), .val (.int p_4), .val (.int (p_1.toInt8.toInt32)), .val (.int v3), .val (.int v4), .val (.int v5), .val (.ref b6), .val (.int v21), .val (.int v23), .val (.int (p_4.toInt8.toInt32)), .val (.ref b24), .val (.int r78), .val (.int v23), .val (.int (1 : Int32))] [(.int (p_4.toInt8.toInt32)), (.int v23), (.int v21), (.int p_1), (.int (15 : Int32)), (.int (own_hw (v21).toNatClampNeg v23 (p_4.toInt8.toInt32) (p_1.toInt8.toInt32) v3 v4 v5 15))])
    obtain ⟨_, _, ⟨T171, L171, k171, n171⟩, -, X171, ⟨Lc171, hQ171, l171, y171, z171⟩, st171⟩ := Jvm.LawKit.callS X166 hx (y := (⟨"com/example/honest_codec/honestcodec/IllFormedSequencePutHexPinLaw", "expectedAt", "(IIIIB)B"⟩ : MethodName)) hown (mvT hZ (hw _ (List.mem_of_getElem? (i := 8) rfl))) (mvT hZ (hw _ (List.mem_of_getElem? (i := 9) rfl))) (mvT hZ (hw _ (List.mem_of_getElem? (i := 10) rfl))) (mvT hZ (hw _ (List.mem_of_getElem? (i := 11) rfl))) (by decide) (backOf (W := 1) (own_rm2 l Z a0 hw [] (15 : Int32) p_1 v21 v23 (p_4.toInt8.toInt32)  T77.heap n0 (by omega) (own_nar_b _)) hZ (hw _ (List.mem_of_getElem? (i := 11) rfl)) (hw _ (List.mem_of_getElem? (i := 10) rfl)) (by decide) (by decide)) (g := (mkF m 749 #[.val (.int p_1), .val (.int p_2), .val (.int p_3), .val (.int p_4), .val (.int (p_1.toInt8.toInt32)), .val (.int v3), .val (.int v4), .val (.int v5), .val (.ref b6), .val (.int v21), .val (.int v23), .val (.int (p_4.toInt8.toInt32)), .val (.ref b24), .val (.int r78), .val (.int v23), .val (.int (1 : Int32))] [(.int (p_4.toInt8.toInt32)), (.int v23), (.int v21), (.int p_1), (.int (15 : Int32)), (.int (own_hw (v21).toNatClampNeg v23 (p_4.toInt8.toInt32) (p_1.toInt8.toInt32) v3 v4 v5 15))])) rfl (by rw [hml]; rfl) (argsL := [(.int (15 : Int32)), (.int p_1), (.int v21), (.int v23), (.int (p_4.toInt8.toInt32))]) (rest := [(.int (own_hw (v21).toNatClampNeg v23 (p_4.toInt8.toInt32) (p_1.toInt8.toInt32) v3 v4 v5 15))]) (lenOf own_pd2 rfl) rfl (by show 2 * 0 + _ ≤ _; exact Nat.le_of_eq rfl) (hb hby at_749) (fun _ _ => ⟨rfl, e166, (by show k166 + _ ≤ _; rw [y166]; decide), (by show n166 + _ ≤ _; rw [z166]; decide)⟩)
    dsimp only [Pt.U, Pt.locs, Pt.cells, Pt.slots] at X171 l171 y171 z171 st171 hQ171
    have y171 : k171 = 2 := own_addeq y171 (congrArg (fun q => q) y166) rfl
    have z171 : n171 = 20 := own_addeq z171 (congrArg (fun q => q) z166) rfl
    obtain ⟨r172, rfl, N171q, hr_r172, e171⟩ := hQ171
    have N171 : Fr n0 L171 := by rw [l171]; exact Fr.app N166 N171q
    refine own_go (fun _ k => st171 _ k) ?_
    show own_Go _ _ _ _ T171 (mkF m 752 #[.val (.int p_1), .val (.int p_2), .val (.int p_3), .val (.int p_4), .val (.int (p_1.toInt8.toInt32)), .val (.int v3), .val (.int v4), .val (.int v5), .val (.ref b6), .val (.int v21), .val (.int v23), .val (.int (p_4.toInt8.toInt32)), .val (.ref b24), .val (.int r78), .val (.int v23), .val (.int (1 : Int32))] [(.int r172), (.int (own_hw (v21).toNatClampNeg v23 (p_4.toInt8.toInt32) (p_1.toInt8.toInt32) v3 v4 v5 15))])
    have hc173 : (own_hw (v21).toNatClampNeg v23 (p_4.toInt8.toInt32) (p_1.toInt8.toInt32) v3 v4 v5 15) = r172 := own_t0_18 p_1 p_2 p_3 p_4 v3 v4 v5 v21 v23 r172 hdv3 hdv4 hdv5 hdv21 hdv23 hl hp hr_r172
    refine own_go (fun _ k => XS.icmpNo X171.here hx rfl (hb hby at_752) rfl (Jvm.Free.XT.ii_ne_f hc173) k) ?_
    show own_Go _ _ _ _ T171 (mkF m 755 #[.val (.int p_1), .val (.int p_2), .val (.int p_3), .val (.int p_4), .val (.int (p_1.toInt8.toInt32)), .val (.int v3), .val (.int v4), .val (.int v5), .val (.ref b6), .val (.int v21), .val (.int v23), .val (.int (p_4.toInt8.toInt32)), .val (.ref b24), .val (.int r78), .val (.int v23), .val (.int (1 : Int32))] [])
    refine own_go (fun _ k => XS.iconst X171.here hx rfl (hb hby at_755) k) ?_
    show own_Go _ _ _ _ T171 (mkF m 756 #[.val (.int p_1), .val (.int p_2), .val (.int p_3), .val (.int p_4), .val (.int (p_1.toInt8.toInt32)), .val (.int v3), .val (.int v4), .val (.int v5), .val (.ref b6), .val (.int v21), .val (.int v23), .val (.int (p_4.toInt8.toInt32)), .val (.ref b24), .val (.int r78), .val (.int v23), .val (.int (1 : Int32))] [(.int (1 : Int32))])
    refine own_go (fun _ k => XS.goto X171.here hx rfl (pc0 := 756) (pc' := 760) rfl (hb hby at_756) (by decide) (by decide) k) ?_
    show own_Go _ _ _ _ T171 (mkF m 760 #[.val (.int p_1), .val (.int p_2), .val (.int p_3), .val (.int p_4), .val (.int (p_1.toInt8.toInt32)), .val (.int v3), .val (.int v4), .val (.int v5), .val (.ref b6), .val (.int v21), .val (.int v23), .val (.int (p_4.toInt8.toInt32)), .val (.ref b24), .val (.int r78), .val (.int v23), .val (.int (1 : Int32))] [(.int (1 : Int32))])
    refine own_go (fun _ k => XS.istore X171.here hx rfl (hb hby at_760) rfl (l' := #[.val (.int p_1), .val (.int p_2), .val (.int p_3), .val (.int p_4), .val (.int (p_1.toInt8.toInt32)), .val (.int v3), .val (.int v4), .val (.int v5), .val (.ref b6), .val (.int v21), .val (.int v23), .val (.int (p_4.toInt8.toInt32)), .val (.ref b24), .val (.int r78), .val (.int v23), .val (.int (1 : Int32))]) rfl k) ?_
    show own_Go _ _ _ _ T171 (mkF m 762 #[.val (.int p_1), .val (.int p_2), .val (.int p_3), .val (.int p_4), .val (.int (p_1.toInt8.toInt32)), .val (.int v3), .val (.int v4), .val (.int v5), .val (.ref b6), .val (.int v21), .val (.int v23), .val (.int (p_4.toInt8.toInt32)), .val (.ref b24), .val (.int r78), .val (.int v23), .val (.int (1 : Int32))] [])
    refine own_go (fun _ k => XS.iload X171.here hx rfl (hb hby at_762) rfl k) ?_
    show own_Go _ _ _ _ T171 (mkF m 764 #[.val (.int p_1), .val (.int p_2), .val (.int p_3), .val (.int p_4), .val (.int (p_1.toInt8.toInt32)), .val (.int v3), .val (.int v4), .val (.int v5), .val (.ref b6), .val (.int v21), .val (.int v23), .val (.int (p_4.toInt8.toInt32)), .val (.ref b24), .val (.int r78), .val (.int v23), .val (.int (1 : Int32))] [(.int (1 : Int32))])
    obtain ⟨fs, hr, hrun, hended, hW, hsame⟩ := X171.leave (v := some (.int (1 : Int32))) (fun h => by rw [Bd.returns] at h; cases h)
    refine ⟨_, _, retOut X171 hx Bd.returns rfl (Or.inl ⟨rfl, Or.inr (Or.inl rfl), _, rfl⟩) (hb hby at_764) hr, hrun, hended, _, _, rfl, ?_, ⟨_, rfl⟩, hW, hsame.mono (by rw [y171]; decide) (by rw [z171]; decide)⟩
    show own_Q0 Z p_1 p_2 p_3 p_4 t_ h0 n0 _ T171.heap _
    rw [e171]
    exact ⟨rfl, N171⟩
  · refine own_go (fun _ k => XS.ifYes X77.here hx rfl (pc0 := 181) (pc' := 189) rfl (hb hby at_181) rfl (Jvm.Free.XT.i0_ne_t hc82) (by decide) (by decide) k) ?_
    show own_Go _ _ _ _ T77 (mkF m 189 #[.val (.int p_1), .val (.int p_2), .val (.int p_3), .val (.int p_4), .val (.int (p_1.toInt8.toInt32)), .val (.int v3), .val (.int v4), .val (.int v5), .val (.ref b6), .val (.int v21), .val (.int v23), .val (.int (p_4.toInt8.toInt32)), .val (.ref b24), .val (.int r78), .unset, .unset] [])
    refine own_go (fun _ k => XS.iload X77.here hx rfl (hb hby at_189) rfl k) ?_
    show own_Go _ _ _ _ T77 (mkF m 191 #[.val (.int p_1), .val (.int p_2), .val (.int p_3), .val (.int p_4), .val (.int (p_1.toInt8.toInt32)), .val (.int v3), .val (.int v4), .val (.int v5), .val (.ref b6), .val (.int v21), .val (.int v23), .val (.int (p_4.toInt8.toInt32)), .val (.ref b24), .val (.int r78), .unset, .unset] [(.int v23)])
    refine own_go (fun _ k => XS.iconst X77.here hx rfl (hb hby at_191) k) ?_
    show own_Go _ _ _ _ T77 (mkF m 192 #[.val (.int p_1), .val (.int p_2), .val (.int p_3), .val (.int p_4), .val (.int (p_1.toInt8.toInt32)), .val (.int v3), .val (.int v4), .val (.int v5), .val (.ref b6), .val (.int v21), .val (.int v23), .val (.int (p_4.toInt8.toInt32)), .val (.ref b24), .val (.int r78), .unset, .unset] [(.int (3 : Int32)), (.int v23)])
    refine own_go (fun _ k => XS.iload X77.here hx rfl (hb hby at_192) rfl k) ?_
    show own_Go _ _ _ _ T77 (mkF m 194 #[.val (.int p_1), .val (.int p_2), .val (.int p_3), .val (.int p_4), .val (.int (p_1.toInt8.toInt32)), .val (.int v3), .val (.int v4), .val (.int v5), .val (.ref b6), .val (.int v21), .val (.int v23), .val (.int (p_4.toInt8.toInt32)), .val (.ref b24), .val (.int r78), .unset, .unset] [(.int v21), (.int (3 : Int32)), (.int v23)])
    refine own_go (fun _ k => XS.imul X77.here hx rfl (hb hby at_194) rfl k) ?_
    show own_Go _ _ _ _ T77 (mkF m 195 #[.val (.int p_1), .val (.int p_2), .val (.int p_3), .val (.int p_4), .val (.int (p_1.toInt8.toInt32)), .val (.int v3), .val (.int v4), .val (.int v5), .val (.ref b6), .val (.int v21), .val (.int v23), .val (.int (p_4.toInt8.toInt32)), .val (.ref b24), .val (.int r78), .unset, .unset] [(.int ((3 : Int32) * v21)), (.int v23)])
    refine own_go (fun _ k => XS.iadd X77.here hx rfl (hb hby at_195) rfl k) ?_
    show own_Go _ _ _ _ T77 (mkF m 196 #[.val (.int p_1), .val (.int p_2), .val (.int p_3), .val (.int p_4), .val (.int (p_1.toInt8.toInt32)), .val (.int v3), .val (.int v4), .val (.int v5), .val (.ref b6), .val (.int v21), .val (.int v23), .val (.int (p_4.toInt8.toInt32)), .val (.ref b24), .val (.int r78), .unset, .unset] [(.int (v23 + ((3 : Int32) * v21)))])
    refine own_go (fun _ k => XS.iconst X77.here hx rfl (hb hby at_196) k) ?_
    show own_Go _ _ _ _ T77 (mkF m 197 #[.val (.int p_1), .val (.int p_2), .val (.int p_3), .val (.int p_4), .val (.int (p_1.toInt8.toInt32)), .val (.int v3), .val (.int v4), .val (.int v5), .val (.ref b6), .val (.int v21), .val (.int v23), .val (.int (p_4.toInt8.toInt32)), .val (.ref b24), .val (.int r78), .unset, .unset] [(.int (1 : Int32)), (.int (v23 + ((3 : Int32) * v21)))])
    refine own_go (fun _ k => XS.isub X77.here hx rfl (hb hby at_197) rfl k) ?_
    show own_Go _ _ _ _ T77 (mkF m 198 #[.val (.int p_1), .val (.int p_2), .val (.int p_3), .val (.int p_4), .val (.int (p_1.toInt8.toInt32)), .val (.int v3), .val (.int v4), .val (.int v5), .val (.ref b6), .val (.int v21), .val (.int v23), .val (.int (p_4.toInt8.toInt32)), .val (.ref b24), .val (.int r78), .unset, .unset] [(.int ((v23 + ((3 : Int32) * v21)) - (1 : Int32)))])
    refine own_go (fun _ k => XS.istore X77.here hx rfl (hb hby at_198) rfl (l' := #[.val (.int p_1), .val (.int p_2), .val (.int p_3), .val (.int p_4), .val (.int (p_1.toInt8.toInt32)), .val (.int v3), .val (.int v4), .val (.int v5), .val (.ref b6), .val (.int v21), .val (.int v23), .val (.int (p_4.toInt8.toInt32)), .val (.ref b24), .val (.int r78), .val (.int ((v23 + ((3 : Int32) * v21)) - (1 : Int32))), .unset]) rfl k) ?_
    show own_Go _ _ _ _ T77 (mkF m 200 #[.val (.int p_1), .val (.int p_2), .val (.int p_3), .val (.int p_4), .val (.int (p_1.toInt8.toInt32)), .val (.int v3), .val (.int v4), .val (.int v5), .val (.ref b6), .val (.int v21), .val (.int v23), .val (.int (p_4.toInt8.toInt32)), .val (.ref b24), .val (.int r78), .val (.int ((v23 + ((3 : Int32) * v21)) - (1 : Int32))), .unset] [])
    generalize hdv175 : ((v23 + ((3 : Int32) * v21)) - (1 : Int32)) = v175
    show own_Go _ _ _ _ T77 (mkF m 200 #[.val (.int p_1), .val (.int p_2), .val (.int p_3), .val (.int p_4), .val (.int (p_1.toInt8.toInt32)), .val (.int v3), .val (.int v4), .val (.int v5), .val (.ref b6), .val (.int v21), .val (.int v23), .val (.int (p_4.toInt8.toInt32)), .val (.ref b24), .val (.int r78), .val (.int v175), .unset] [])
    refine own_go (fun _ k => XS.iload X77.here hx rfl (hb hby at_200) rfl k) ?_
    show own_Go _ _ _ _ T77 (mkF m 202 #[.val (.int p_1), .val (.int p_2), .val (.int p_3), .val (.int p_4), .val (.int (p_1.toInt8.toInt32)), .val (.int v3), .val (.int v4), .val (.int v5), .val (.ref b6), .val (.int v21), .val (.int v23), .val (.int (p_4.toInt8.toInt32)), .val (.ref b24), .val (.int r78), .val (.int v175), .unset] [(.int r78)])
    refine own_go (fun _ k => XS.iload X77.here hx rfl (hb hby at_202) rfl k) ?_
    show own_Go _ _ _ _ T77 (mkF m 204 #[.val (.int p_1), .val (.int p_2), .val (.int p_3), .val (.int p_4), .val (.int (p_1.toInt8.toInt32)), .val (.int v3), .val (.int v4), .val (.int v5), .val (.ref b6), .val (.int v21), .val (.int v23), .val (.int (p_4.toInt8.toInt32)), .val (.ref b24), .val (.int r78), .val (.int v175), .unset] [(.int v175), (.int r78)])
    have hc176 : r78 = v175 := own_t0_19 p_2 p_3 v21 v23 r78 v175 hdv21 hdv23 hl hp hr_r78 hc82 hdv175
    refine own_go (fun _ k => XS.icmpNo X77.here hx rfl (hb hby at_204) rfl (Jvm.Free.XT.ii_ne_f hc176) k) ?_
    show own_Go _ _ _ _ T77 (mkF m 207 #[.val (.int p_1), .val (.int p_2), .val (.int p_3), .val (.int p_4), .val (.int (p_1.toInt8.toInt32)), .val (.int v3), .val (.int v4), .val (.int v5), .val (.ref b6), .val (.int v21), .val (.int v23), .val (.int (p_4.toInt8.toInt32)), .val (.ref b24), .val (.int r78), .val (.int v175), .unset] [])
    refine own_go (fun _ k => XS.iconst X77.here hx rfl (hb hby at_207) k) ?_
    show own_Go _ _ _ _ T77 (mkF m 208 #[.val (.int p_1), .val (.int p_2), .val (.int p_3), .val (.int p_4), .val (.int (p_1.toInt8.toInt32)), .val (.int v3), .val (.int v4), .val (.int v5), .val (.ref b6), .val (.int v21), .val (.int v23), .val (.int (p_4.toInt8.toInt32)), .val (.ref b24), .val (.int r78), .val (.int v175), .unset] [(.int (1 : Int32))])
    refine own_go (fun _ k => XS.goto X77.here hx rfl (pc0 := 208) (pc' := 212) rfl (hb hby at_208) (by decide) (by decide) k) ?_
    show own_Go _ _ _ _ T77 (mkF m 212 #[.val (.int p_1), .val (.int p_2), .val (.int p_3), .val (.int p_4), .val (.int (p_1.toInt8.toInt32)), .val (.int v3), .val (.int v4), .val (.int v5), .val (.ref b6), .val (.int v21), .val (.int v23), .val (.int (p_4.toInt8.toInt32)), .val (.ref b24), .val (.int r78), .val (.int v175), .unset] [(.int (1 : Int32))])
    refine own_go (fun _ k => XS.istore X77.here hx rfl (hb hby at_212) rfl (l' := #[.val (.int p_1), .val (.int p_2), .val (.int p_3), .val (.int p_4), .val (.int (p_1.toInt8.toInt32)), .val (.int v3), .val (.int v4), .val (.int v5), .val (.ref b6), .val (.int v21), .val (.int v23), .val (.int (p_4.toInt8.toInt32)), .val (.ref b24), .val (.int r78), .val (.int v175), .val (.int (1 : Int32))]) rfl k) ?_
    show own_Go _ _ _ _ T77 (mkF m 214 #[.val (.int p_1), .val (.int p_2), .val (.int p_3), .val (.int p_4), .val (.int (p_1.toInt8.toInt32)), .val (.int v3), .val (.int v4), .val (.int v5), .val (.ref b6), .val (.int v21), .val (.int v23), .val (.int (p_4.toInt8.toInt32)), .val (.ref b24), .val (.int r78), .val (.int v175), .val (.int (1 : Int32))] [])
    refine own_go (fun _ k => XS.iload X77.here hx rfl (hb hby at_214) rfl k) ?_
    show own_Go _ _ _ _ T77 (mkF m 216 #[.val (.int p_1), .val (.int p_2), .val (.int p_3), .val (.int p_4), .val (.int (p_1.toInt8.toInt32)), .val (.int v3), .val (.int v4), .val (.int v5), .val (.ref b6), .val (.int v21), .val (.int v23), .val (.int (p_4.toInt8.toInt32)), .val (.ref b24), .val (.int r78), .val (.int v175), .val (.int (1 : Int32))] [(.int (1 : Int32))])
    have hc177 : ¬ ((1 : Int32) = 0) := by decide
    refine own_go (fun _ k => XS.ifNo X77.here hx rfl (hb hby at_216) rfl (Jvm.Free.XT.i0_eq_f hc177) k) ?_
    show own_Go _ _ _ _ T77 (mkF m 219 #[.val (.int p_1), .val (.int p_2), .val (.int p_3), .val (.int p_4), .val (.int (p_1.toInt8.toInt32)), .val (.int v3), .val (.int v4), .val (.int v5), .val (.ref b6), .val (.int v21), .val (.int v23), .val (.int (p_4.toInt8.toInt32)), .val (.ref b24), .val (.int r78), .val (.int v175), .val (.int (1 : Int32))] [])
    refine own_go (fun _ k => XS.aload X77.here hx rfl (hb hby at_219) rfl rfl k) ?_
    show own_Go _ _ _ _ T77 (mkF m 221 #[.val (.int p_1), .val (.int p_2), .val (.int p_3), .val (.int p_4), .val (.int (p_1.toInt8.toInt32)), .val (.int v3), .val (.int v4), .val (.int v5), .val (.ref b6), .val (.int v21), .val (.int v23), .val (.int (p_4.toInt8.toInt32)), .val (.ref b24), .val (.int r78), .val (.int v175), .val (.int (1 : Int32))] [(.ref b6)])
    refine own_go (fun _ k => XS.iconst X77.here hx rfl (hb hby at_221) k) ?_
    show own_Go _ _ _ _ T77 (mkF m 222 #[.val (.int p_1), .val (.int p_2), .val (.int p_3), .val (.int p_4), .val (.int (p_1.toInt8.toInt32)), .val (.int v3), .val (.int v4), .val (.int v5), .val (.ref b6), .val (.int v21), .val (.int v23), .val (.int (p_4.toInt8.toInt32)), .val (.ref b24), .val (.int r78), .val (.int v175), .val (.int (1 : Int32))] [(.int (0 : Int32)), (.ref b6)])
    have f178 : own_AV Z T77.heap b6 .byte (4 : Int32) (own_upd (own_upd (own_upd (own_upd (fun _ => (.int (0 : Int32))) 0 (.int (p_1.toInt8.toInt32))) 1 (.int v3)) 2 (.int v4)) 3 (.int v5)) := (f76.keep K77q (ninS (own_ne (by omega)) nin0))
    obtain ⟨q179, c179, R179, s179, t179⟩ := id f178
    have hin179 : ¬ ((0 : Int32) < 0 ∨ c179.slots.size ≤ ((0 : Int32)).toNatClampNeg) := inb_of s179 ⟨by decide, by decide⟩
    have u179 : c179.slots[((0 : Int32)).toNatClampNeg]? = some (.int (p_1.toInt8.toInt32)) := own_at (k := 0) t179 s179 hin179 (by decide) (rfl)
    refine own_go (fun _ k => X77.baloadBytes hx (j := (0 : Int32)) (v := (.int (p_1.toInt8.toInt32))) R179.1 (State.isArrayOf_alike hZ.alike R179.2.1) R179.2.2 hin179 u179 (g := (mkF m 222 #[.val (.int p_1), .val (.int p_2), .val (.int p_3), .val (.int p_4), .val (.int (p_1.toInt8.toInt32)), .val (.int v3), .val (.int v4), .val (.int v5), .val (.ref b6), .val (.int v21), .val (.int v23), .val (.int (p_4.toInt8.toInt32)), .val (.ref b24), .val (.int r78), .val (.int v175), .val (.int (1 : Int32))] [(.int (0 : Int32)), (.ref b6)])) rfl rfl (hb hby at_222) _ k) ?_
    show own_Go _ _ _ _ T77 (mkF m 223 #[.val (.int p_1), .val (.int p_2), .val (.int p_3), .val (.int p_4), .val (.int (p_1.toInt8.toInt32)), .val (.int v3), .val (.int v4), .val (.int v5), .val (.ref b6), .val (.int v21), .val (.int v23), .val (.int (p_4.toInt8.toInt32)), .val (.ref b24), .val (.int r78), .val (.int v175), .val (.int (1 : Int32))] [(.int (p_1.toInt8.toInt32))])
    refine own_go (fun _ k => XS.iload X77.here hx rfl (hb hby at_223) rfl k) ?_
    show own_Go _ _ _ _ T77 (mkF m 225 #[.val (.int p_1), .val (.int p_2), .val (.int p_3), .val (.int p_4), .val (.int (p_1.toInt8.toInt32)), .val (.int v3), .val (.int v4), .val (.int v5), .val (.ref b6), .val (.int v21), .val (.int v23), .val (.int (p_4.toInt8.toInt32)), .val (.ref b24), .val (.int r78), .val (.int v175), .val (.int (1 : Int32))] [(.int (p_1.toInt8.toInt32)), (.int (p_1.toInt8.toInt32))])
    have hc180 : (p_1.toInt8.toInt32) = (p_1.toInt8.toInt32) := rfl
    refine own_go (fun _ k => XS.icmpNo X77.here hx rfl (hb hby at_225) rfl (Jvm.Free.XT.ii_ne_f hc180) k) ?_
    show own_Go _ _ _ _ T77 (mkF m 228 #[.val (.int p_1), .val (.int p_2), .val (.int p_3), .val (.int p_4), .val (.int (p_1.toInt8.toInt32)), .val (.int v3), .val (.int v4), .val (.int v5), .val (.ref b6), .val (.int v21), .val (.int v23), .val (.int (p_4.toInt8.toInt32)), .val (.ref b24), .val (.int r78), .val (.int v175), .val (.int (1 : Int32))] [])
    refine own_go (fun _ k => XS.aload X77.here hx rfl (hb hby at_228) rfl rfl k) ?_
    show own_Go _ _ _ _ T77 (mkF m 230 #[.val (.int p_1), .val (.int p_2), .val (.int p_3), .val (.int p_4), .val (.int (p_1.toInt8.toInt32)), .val (.int v3), .val (.int v4), .val (.int v5), .val (.ref b6), .val (.int v21), .val (.int v23), .val (.int (p_4.toInt8.toInt32)), .val (.ref b24), .val (.int r78), .val (.int v175), .val (.int (1 : Int32))] [(.ref b6)])
    refine own_go (fun _ k => XS.iconst X77.here hx rfl (hb hby at_230) k) ?_
    show own_Go _ _ _ _ T77 (mkF m 231 #[.val (.int p_1), .val (.int p_2), .val (.int p_3), .val (.int p_4), .val (.int (p_1.toInt8.toInt32)), .val (.int v3), .val (.int v4), .val (.int v5), .val (.ref b6), .val (.int v21), .val (.int v23), .val (.int (p_4.toInt8.toInt32)), .val (.ref b24), .val (.int r78), .val (.int v175), .val (.int (1 : Int32))] [(.int (1 : Int32)), (.ref b6)])
    obtain ⟨q181, c181, R181, s181, t181⟩ := id f178
    have hin181 : ¬ ((1 : Int32) < 0 ∨ c181.slots.size ≤ ((1 : Int32)).toNatClampNeg) := inb_of s181 ⟨by decide, by decide⟩
    have u181 : c181.slots[((1 : Int32)).toNatClampNeg]? = some (.int v3) := own_at (k := 1) t181 s181 hin181 (by decide) (rfl)
    refine own_go (fun _ k => X77.baloadBytes hx (j := (1 : Int32)) (v := (.int v3)) R181.1 (State.isArrayOf_alike hZ.alike R181.2.1) R181.2.2 hin181 u181 (g := (mkF m 231 #[.val (.int p_1), .val (.int p_2), .val (.int p_3), .val (.int p_4), .val (.int (p_1.toInt8.toInt32)), .val (.int v3), .val (.int v4), .val (.int v5), .val (.ref b6), .val (.int v21), .val (.int v23), .val (.int (p_4.toInt8.toInt32)), .val (.ref b24), .val (.int r78), .val (.int v175), .val (.int (1 : Int32))] [(.int (1 : Int32)), (.ref b6)])) rfl rfl (hb hby at_231) _ k) ?_
    show own_Go _ _ _ _ T77 (mkF m 232 #[.val (.int p_1), .val (.int p_2), .val (.int p_3), .val (.int p_4), .val (.int (p_1.toInt8.toInt32)), .val (.int v3), .val (.int v4), .val (.int v5), .val (.ref b6), .val (.int v21), .val (.int v23), .val (.int (p_4.toInt8.toInt32)), .val (.ref b24), .val (.int r78), .val (.int v175), .val (.int (1 : Int32))] [(.int v3)])
    refine own_go (fun _ k => XS.iload X77.here hx rfl (hb hby at_232) rfl k) ?_
    show own_Go _ _ _ _ T77 (mkF m 234 #[.val (.int p_1), .val (.int p_2), .val (.int p_3), .val (.int p_4), .val (.int (p_1.toInt8.toInt32)), .val (.int v3), .val (.int v4), .val (.int v5), .val (.ref b6), .val (.int v21), .val (.int v23), .val (.int (p_4.toInt8.toInt32)), .val (.ref b24), .val (.int r78), .val (.int v175), .val (.int (1 : Int32))] [(.int v3), (.int v3)])
    have hc182 : v3 = v3 := rfl
    refine own_go (fun _ k => XS.icmpNo X77.here hx rfl (hb hby at_234) rfl (Jvm.Free.XT.ii_ne_f hc182) k) ?_
    show own_Go _ _ _ _ T77 (mkF m 237 #[.val (.int p_1), .val (.int p_2), .val (.int p_3), .val (.int p_4), .val (.int (p_1.toInt8.toInt32)), .val (.int v3), .val (.int v4), .val (.int v5), .val (.ref b6), .val (.int v21), .val (.int v23), .val (.int (p_4.toInt8.toInt32)), .val (.ref b24), .val (.int r78), .val (.int v175), .val (.int (1 : Int32))] [])
    refine own_go (fun _ k => XS.aload X77.here hx rfl (hb hby at_237) rfl rfl k) ?_
    show own_Go _ _ _ _ T77 (mkF m 239 #[.val (.int p_1), .val (.int p_2), .val (.int p_3), .val (.int p_4), .val (.int (p_1.toInt8.toInt32)), .val (.int v3), .val (.int v4), .val (.int v5), .val (.ref b6), .val (.int v21), .val (.int v23), .val (.int (p_4.toInt8.toInt32)), .val (.ref b24), .val (.int r78), .val (.int v175), .val (.int (1 : Int32))] [(.ref b6)])
    refine own_go (fun _ k => XS.iconst X77.here hx rfl (hb hby at_239) k) ?_
    show own_Go _ _ _ _ T77 (mkF m 240 #[.val (.int p_1), .val (.int p_2), .val (.int p_3), .val (.int p_4), .val (.int (p_1.toInt8.toInt32)), .val (.int v3), .val (.int v4), .val (.int v5), .val (.ref b6), .val (.int v21), .val (.int v23), .val (.int (p_4.toInt8.toInt32)), .val (.ref b24), .val (.int r78), .val (.int v175), .val (.int (1 : Int32))] [(.int (2 : Int32)), (.ref b6)])
    obtain ⟨q183, c183, R183, s183, t183⟩ := id f178
    have hin183 : ¬ ((2 : Int32) < 0 ∨ c183.slots.size ≤ ((2 : Int32)).toNatClampNeg) := inb_of s183 ⟨by decide, by decide⟩
    have u183 : c183.slots[((2 : Int32)).toNatClampNeg]? = some (.int v4) := own_at (k := 2) t183 s183 hin183 (by decide) (rfl)
    refine own_go (fun _ k => X77.baloadBytes hx (j := (2 : Int32)) (v := (.int v4)) R183.1 (State.isArrayOf_alike hZ.alike R183.2.1) R183.2.2 hin183 u183 (g := (mkF m 240 #[.val (.int p_1), .val (.int p_2), .val (.int p_3), .val (.int p_4), .val (.int (p_1.toInt8.toInt32)), .val (.int v3), .val (.int v4), .val (.int v5), .val (.ref b6), .val (.int v21), .val (.int v23), .val (.int (p_4.toInt8.toInt32)), .val (.ref b24), .val (.int r78), .val (.int v175), .val (.int (1 : Int32))] [(.int (2 : Int32)), (.ref b6)])) rfl rfl (hb hby at_240) _ k) ?_
    show own_Go _ _ _ _ T77 (mkF m 241 #[.val (.int p_1), .val (.int p_2), .val (.int p_3), .val (.int p_4), .val (.int (p_1.toInt8.toInt32)), .val (.int v3), .val (.int v4), .val (.int v5), .val (.ref b6), .val (.int v21), .val (.int v23), .val (.int (p_4.toInt8.toInt32)), .val (.ref b24), .val (.int r78), .val (.int v175), .val (.int (1 : Int32))] [(.int v4)])
    refine own_go (fun _ k => XS.iload X77.here hx rfl (hb hby at_241) rfl k) ?_
    show own_Go _ _ _ _ T77 (mkF m 243 #[.val (.int p_1), .val (.int p_2), .val (.int p_3), .val (.int p_4), .val (.int (p_1.toInt8.toInt32)), .val (.int v3), .val (.int v4), .val (.int v5), .val (.ref b6), .val (.int v21), .val (.int v23), .val (.int (p_4.toInt8.toInt32)), .val (.ref b24), .val (.int r78), .val (.int v175), .val (.int (1 : Int32))] [(.int v4), (.int v4)])
    have hc184 : v4 = v4 := rfl
    refine own_go (fun _ k => XS.icmpNo X77.here hx rfl (hb hby at_243) rfl (Jvm.Free.XT.ii_ne_f hc184) k) ?_
    show own_Go _ _ _ _ T77 (mkF m 246 #[.val (.int p_1), .val (.int p_2), .val (.int p_3), .val (.int p_4), .val (.int (p_1.toInt8.toInt32)), .val (.int v3), .val (.int v4), .val (.int v5), .val (.ref b6), .val (.int v21), .val (.int v23), .val (.int (p_4.toInt8.toInt32)), .val (.ref b24), .val (.int r78), .val (.int v175), .val (.int (1 : Int32))] [])
    refine own_go (fun _ k => XS.aload X77.here hx rfl (hb hby at_246) rfl rfl k) ?_
    show own_Go _ _ _ _ T77 (mkF m 248 #[.val (.int p_1), .val (.int p_2), .val (.int p_3), .val (.int p_4), .val (.int (p_1.toInt8.toInt32)), .val (.int v3), .val (.int v4), .val (.int v5), .val (.ref b6), .val (.int v21), .val (.int v23), .val (.int (p_4.toInt8.toInt32)), .val (.ref b24), .val (.int r78), .val (.int v175), .val (.int (1 : Int32))] [(.ref b6)])
    refine own_go (fun _ k => XS.iconst X77.here hx rfl (hb hby at_248) k) ?_
    show own_Go _ _ _ _ T77 (mkF m 249 #[.val (.int p_1), .val (.int p_2), .val (.int p_3), .val (.int p_4), .val (.int (p_1.toInt8.toInt32)), .val (.int v3), .val (.int v4), .val (.int v5), .val (.ref b6), .val (.int v21), .val (.int v23), .val (.int (p_4.toInt8.toInt32)), .val (.ref b24), .val (.int r78), .val (.int v175), .val (.int (1 : Int32))] [(.int (3 : Int32)), (.ref b6)])
    obtain ⟨q185, c185, R185, s185, t185⟩ := id f178
    have hin185 : ¬ ((3 : Int32) < 0 ∨ c185.slots.size ≤ ((3 : Int32)).toNatClampNeg) := inb_of s185 ⟨by decide, by decide⟩
    have u185 : c185.slots[((3 : Int32)).toNatClampNeg]? = some (.int v5) := own_at (k := 3) t185 s185 hin185 (by decide) (rfl)
    refine own_go (fun _ k => X77.baloadBytes hx (j := (3 : Int32)) (v := (.int v5)) R185.1 (State.isArrayOf_alike hZ.alike R185.2.1) R185.2.2 hin185 u185 (g := (mkF m 249 #[.val (.int p_1), .val (.int p_2), .val (.int p_3), .val (.int p_4), .val (.int (p_1.toInt8.toInt32)), .val (.int v3), .val (.int v4), .val (.int v5), .val (.ref b6), .val (.int v21), .val (.int v23), .val (.int (p_4.toInt8.toInt32)), .val (.ref b24), .val (.int r78), .val (.int v175), .val (.int (1 : Int32))] [(.int (3 : Int32)), (.ref b6)])) rfl rfl (hb hby at_249) _ k) ?_
    show own_Go _ _ _ _ T77 (mkF m 250 #[.val (.int p_1), .val (.int p_2), .val (.int p_3), .val (.int p_4), .val (.int (p_1.toInt8.toInt32)), .val (.int v3), .val (.int v4), .val (.int v5), .val (.ref b6), .val (.int v21), .val (.int v23), .val (.int (p_4.toInt8.toInt32)), .val (.ref b24), .val (.int r78), .val (.int v175), .val (.int (1 : Int32))] [(.int v5)])
    refine own_go (fun _ k => XS.iload X77.here hx rfl (hb hby at_250) rfl k) ?_
    show own_Go _ _ _ _ T77 (mkF m 252 #[.val (.int p_1), .val (.int p_2), .val (.int p_3), .val (.int p_4), .val (.int (p_1.toInt8.toInt32)), .val (.int v3), .val (.int v4), .val (.int v5), .val (.ref b6), .val (.int v21), .val (.int v23), .val (.int (p_4.toInt8.toInt32)), .val (.ref b24), .val (.int r78), .val (.int v175), .val (.int (1 : Int32))] [(.int v5), (.int v5)])
    have hc186 : v5 = v5 := rfl
    refine own_go (fun _ k => XS.icmpNo X77.here hx rfl (hb hby at_252) rfl (Jvm.Free.XT.ii_ne_f hc186) k) ?_
    show own_Go _ _ _ _ T77 (mkF m 255 #[.val (.int p_1), .val (.int p_2), .val (.int p_3), .val (.int p_4), .val (.int (p_1.toInt8.toInt32)), .val (.int v3), .val (.int v4), .val (.int v5), .val (.ref b6), .val (.int v21), .val (.int v23), .val (.int (p_4.toInt8.toInt32)), .val (.ref b24), .val (.int r78), .val (.int v175), .val (.int (1 : Int32))] [])
    refine own_go (fun _ k => XS.iconst X77.here hx rfl (hb hby at_255) k) ?_
    show own_Go _ _ _ _ T77 (mkF m 256 #[.val (.int p_1), .val (.int p_2), .val (.int p_3), .val (.int p_4), .val (.int (p_1.toInt8.toInt32)), .val (.int v3), .val (.int v4), .val (.int v5), .val (.ref b6), .val (.int v21), .val (.int v23), .val (.int (p_4.toInt8.toInt32)), .val (.ref b24), .val (.int r78), .val (.int v175), .val (.int (1 : Int32))] [(.int (1 : Int32))])
    refine own_go (fun _ k => XS.goto X77.here hx rfl (pc0 := 256) (pc' := 260) rfl (hb hby at_256) (by decide) (by decide) k) ?_
    show own_Go _ _ _ _ T77 (mkF m 260 #[.val (.int p_1), .val (.int p_2), .val (.int p_3), .val (.int p_4), .val (.int (p_1.toInt8.toInt32)), .val (.int v3), .val (.int v4), .val (.int v5), .val (.ref b6), .val (.int v21), .val (.int v23), .val (.int (p_4.toInt8.toInt32)), .val (.ref b24), .val (.int r78), .val (.int v175), .val (.int (1 : Int32))] [(.int (1 : Int32))])
    refine own_go (fun _ k => XS.istore X77.here hx rfl (hb hby at_260) rfl (l' := #[.val (.int p_1), .val (.int p_2), .val (.int p_3), .val (.int p_4), .val (.int (p_1.toInt8.toInt32)), .val (.int v3), .val (.int v4), .val (.int v5), .val (.ref b6), .val (.int v21), .val (.int v23), .val (.int (p_4.toInt8.toInt32)), .val (.ref b24), .val (.int r78), .val (.int v175), .val (.int (1 : Int32))]) rfl k) ?_
    show own_Go _ _ _ _ T77 (mkF m 262 #[.val (.int p_1), .val (.int p_2), .val (.int p_3), .val (.int p_4), .val (.int (p_1.toInt8.toInt32)), .val (.int v3), .val (.int v4), .val (.int v5), .val (.ref b6), .val (.int v21), .val (.int v23), .val (.int (p_4.toInt8.toInt32)), .val (.ref b24), .val (.int r78), .val (.int v175), .val (.int (1 : Int32))] [])
    refine own_go (fun _ k => XS.iload X77.here hx rfl (hb hby at_262) rfl k) ?_
    show own_Go _ _ _ _ T77 (mkF m 264 #[.val (.int p_1), .val (.int p_2), .val (.int p_3), .val (.int p_4), .val (.int (p_1.toInt8.toInt32)), .val (.int v3), .val (.int v4), .val (.int v5), .val (.ref b6), .val (.int v21), .val (.int v23), .val (.int (p_4.toInt8.toInt32)), .val (.ref b24), .val (.int r78), .val (.int v175), .val (.int (1 : Int32))] [(.int (1 : Int32))])
    have hc187 : ¬ ((1 : Int32) = 0) := by decide
    refine own_go (fun _ k => XS.ifNo X77.here hx rfl (hb hby at_264) rfl (Jvm.Free.XT.i0_eq_f hc187) k) ?_
    show own_Go _ _ _ _ T77 (mkF m 267 #[.val (.int p_1), .val (.int p_2), .val (.int p_3), .val (.int p_4), .val (.int (p_1.toInt8.toInt32)), .val (.int v3), .val (.int v4), .val (.int v5), .val (.ref b6), .val (.int v21), .val (.int v23), .val (.int (p_4.toInt8.toInt32)), .val (.ref b24), .val (.int r78), .val (.int v175), .val (.int (1 : Int32))] [])
    refine own_go (fun _ k => XS.aload X77.here hx rfl (hb hby at_267) rfl rfl k) ?_
    show own_Go _ _ _ _ T77 (mkF m 269 #[.val (.int p_1), .val (.int p_2), .val (.int p_3), .val (.int p_4), .val (.int (p_1.toInt8.toInt32)), .val (.int v3), .val (.int v4), .val (.int v5), .val (.ref b6), .val (.int v21), .val (.int v23), .val (.int (p_4.toInt8.toInt32)), .val (.ref b24), .val (.int r78), .val (.int v175), .val (.int (1 : Int32))] [(.ref b24)])
    refine own_go (fun _ k => XS.iconst X77.here hx rfl (hb hby at_269) k) ?_
    show own_Go _ _ _ _ T77 (mkF m 270 #[.val (.int p_1), .val (.int p_2), .val (.int p_3), .val (.int p_4), .val (.int (p_1.toInt8.toInt32)), .val (.int v3), .val (.int v4), .val (.int v5), .val (.ref b6), .val (.int v21), .val (.int v23), .val (.int (p_4.toInt8.toInt32)), .val (.ref b24), .val (.int r78), .val (.int v175), .val (.int (1 : Int32))] [(.int (0 : Int32)), (.ref b24)])
    obtain ⟨q188, c188, R188, s188, t188⟩ := id f79
    have hin188 : ¬ ((0 : Int32) < 0 ∨ c188.slots.size ≤ ((0 : Int32)).toNatClampNeg) := inb_of s188 ⟨by decide, by decide⟩
    have u188 : c188.slots[((0 : Int32)).toNatClampNeg]? = some (.int (own_hw (v21).toNatClampNeg v23 (p_4.toInt8.toInt32) (p_1.toInt8.toInt32) v3 v4 v5 0)) := own_at (k := 0) t188 s188 hin188 (by decide) (own_hx_hw _ _ _ _ _ _ _ _ _ rfl)
    refine own_go (fun _ k => X77.baloadBytes hx (j := (0 : Int32)) (v := (.int (own_hw (v21).toNatClampNeg v23 (p_4.toInt8.toInt32) (p_1.toInt8.toInt32) v3 v4 v5 0))) R188.1 (State.isArrayOf_alike hZ.alike R188.2.1) R188.2.2 hin188 u188 (g := (mkF m 270 #[.val (.int p_1), .val (.int p_2), .val (.int p_3), .val (.int p_4), .val (.int (p_1.toInt8.toInt32)), .val (.int v3), .val (.int v4), .val (.int v5), .val (.ref b6), .val (.int v21), .val (.int v23), .val (.int (p_4.toInt8.toInt32)), .val (.ref b24), .val (.int r78), .val (.int v175), .val (.int (1 : Int32))] [(.int (0 : Int32)), (.ref b24)])) rfl rfl (hb hby at_270) _ k) ?_
    show own_Go _ _ _ _ T77 (mkF m 271 #[.val (.int p_1), .val (.int p_2), .val (.int p_3), .val (.int p_4), .val (.int (p_1.toInt8.toInt32)), .val (.int v3), .val (.int v4), .val (.int v5), .val (.ref b6), .val (.int v21), .val (.int v23), .val (.int (p_4.toInt8.toInt32)), .val (.ref b24), .val (.int r78), .val (.int v175), .val (.int (1 : Int32))] [(.int (own_hw (v21).toNatClampNeg v23 (p_4.toInt8.toInt32) (p_1.toInt8.toInt32) v3 v4 v5 0))])
    refine own_go (fun _ k => XS.iconst X77.here hx rfl (hb hby at_271) k) ?_
    show own_Go _ _ _ _ T77 (mkF m 272 #[.val (.int p_1), .val (.int p_2), .val (.int p_3), .val (.int p_4), .val (.int (p_1.toInt8.toInt32)), .val (.int v3), .val (.int v4), .val (.int v5), .val (.ref b6), .val (.int v21), .val (.int v23), .val (.int (p_4.toInt8.toInt32)), .val (.ref b24), .val (.int r78), .val (.int v175), .val (.int (1 : Int32))] [(.int (0 : Int32)), (.int (own_hw (v21).toNatClampNeg v23 (p_4.toInt8.toInt32) (p_1.toInt8.toInt32) v3 v4 v5 0))])
    refine own_go (fun _ k => XS.iloadN X77.here hx rfl (hb hby at_272) rfl k) ?_
    show own_Go _ _ _ _ T77 (mkF m 273 #[.val (.int p_1), .val (.int p_2), .val (.int p_3), .val (.int p_4), .val (.int (p_1.toInt8.toInt32)), .val (.int v3), .val (.int v4), .val (.int v5), .val (.ref b6), .val (.int v21), .val (.int v23), .val (.int (p_4.toInt8.toInt32)), .val (.ref b24), .val (.int r78), .val (.int v175), .val (.int (1 : Int32))] [(.int p_1), (.int (0 : Int32)), (.int (own_hw (v21).toNatClampNeg v23 (p_4.toInt8.toInt32) (p_1.toInt8.toInt32) v3 v4 v5 0))])
    refine own_go (fun _ k => XS.iload X77.here hx rfl (hb hby at_273) rfl k) ?_
    show own_Go _ _ _ _ T77 (mkF m 275 #[.val (.int p_1), .val (.int p_2), .val (.int p_3), .val (.int p_4), .val (.int (p_1.toInt8.toInt32)), .val (.int v3), .val (.int v4), .val (.int v5), .val (.ref b6), .val (.int v21), .val (.int v23), .val (.int (p_4.toInt8.toInt32)), .val (.ref b24), .val (.int r78), .val (.int v175), .val (.int (1 : Int32))] [(.int v21), (.int p_1), (.int (0 : Int32)), (.int (own_hw (v21).toNatClampNeg v23 (p_4.toInt8.toInt32) (p_1.toInt8.toInt32) v3 v4 v5 0))])
    refine own_go (fun _ k => XS.iload X77.here hx rfl (hb hby at_275) rfl k) ?_
    show own_Go _ _ _ _ T77 (mkF m 277 #[.val (.int p_1), .val (.int p_2), .val (.int p_3), .val (.int p_4), .val (.int (p_1.toInt8.toInt32)), .val (.int v3), .val (.int v4), .val (.int v5), .val (.ref b6), .val (.int v21), .val (.int v23), .val (.int (p_4.toInt8.toInt32)), .val (.ref b24), .val (.int r78), .val (.int v175), .val (.int (1 : Int32))] [(.int v23), (.int v21), (.int p_1), (.int (0 : Int32)), (.int (own_hw (v21).toNatClampNeg v23 (p_4.toInt8.toInt32) (p_1.toInt8.toInt32) v3 v4 v5 0))])
    refine own_go (fun _ k => XS.iload X77.here hx rfl (hb hby at_277) rfl k) ?_
    show own_Go _ _ _ _ T77 (mkF m 279 #[.val (.int p_1), .val (.int p_2), .val (.int p_3), .val (.int p_4), .val (.int (p_1.toInt8.toInt32)), .val (.int v3), .val (.int v4), .val (.int v5), .val (.ref b6), .val (.int v21), .val (.int v23), .val (.int (p_4.toInt8.toInt32)), .val (.ref b24), .val (.int r78), .val (.int v175), .val (.int (1 : Int32))] [(.int (p_4.toInt8.toInt32)), (.int v23), (.int v21), (.int p_1), (.int (0 : Int32)), (.int (own_hw (v21).toNatClampNeg v23 (p_4.toInt8.toInt32) (p_1.toInt8.toInt32) v3 v4 v5 0))])
    obtain ⟨_, _, ⟨T189, L189, k189, n189⟩, -, X189, ⟨Lc189, hQ189, l189, y189, z189⟩, st189⟩ := Jvm.LawKit.callS X77 hx (y := (⟨"com/example/honest_codec/honestcodec/IllFormedSequencePutHexPinLaw", "expectedAt", "(IIIIB)B"⟩ : MethodName)) hown (mvT hZ (hw _ (List.mem_of_getElem? (i := 8) rfl))) (mvT hZ (hw _ (List.mem_of_getElem? (i := 9) rfl))) (mvT hZ (hw _ (List.mem_of_getElem? (i := 10) rfl))) (mvT hZ (hw _ (List.mem_of_getElem? (i := 11) rfl))) (by decide) (backOf (W := 1) (own_rm2 l Z a0 hw [] (0 : Int32) p_1 v21 v23 (p_4.toInt8.toInt32)  T77.heap n0 (by omega) (own_nar_b _)) hZ (hw _ (List.mem_of_getElem? (i := 11) rfl)) (hw _ (List.mem_of_getElem? (i := 10) rfl)) (by decide) (by decide)) (g := (mkF m 279 #[.val (.int p_1), .val (.int p_2), .val (.int p_3), .val (.int p_4), .val (.int (p_1.toInt8.toInt32)), .val (.int v3), .val (.int v4), .val (.int v5), .val (.ref b6), .val (.int v21), .val (.int v23), .val (.int (p_4.toInt8.toInt32)), .val (.ref b24), .val (.int r78), .val (.int v175), .val (.int (1 : Int32))] [(.int (p_4.toInt8.toInt32)), (.int v23), (.int v21), (.int p_1), (.int (0 : Int32)), (.int (own_hw (v21).toNatClampNeg v23 (p_4.toInt8.toInt32) (p_1.toInt8.toInt32) v3 v4 v5 0))])) rfl (by rw [hml]; rfl) (argsL := [(.int (0 : Int32)), (.int p_1), (.int v21), (.int v23), (.int (p_4.toInt8.toInt32))]) (rest := [(.int (own_hw (v21).toNatClampNeg v23 (p_4.toInt8.toInt32) (p_1.toInt8.toInt32) v3 v4 v5 0))]) (lenOf own_pd2 rfl) rfl (by show 2 * 0 + _ ≤ _; exact Nat.le_of_eq rfl) (hb hby at_279) (fun _ _ => ⟨rfl, rfl, (by show k77 + _ ≤ _; rw [y77]; decide), (by show n77 + _ ≤ _; rw [z77]; decide)⟩)
    dsimp only [Pt.U, Pt.locs, Pt.cells, Pt.slots] at X189 l189 y189 z189 st189 hQ189
    have y189 : k189 = 2 := own_addeq y189 (congrArg (fun q => q) y77) rfl
    have z189 : n189 = 20 := own_addeq z189 (congrArg (fun q => q) z77) rfl
    obtain ⟨r190, rfl, N189q, hr_r190, e189⟩ := hQ189
    have N189 : Fr n0 L189 := by rw [l189]; exact Fr.app N77 N189q
    refine own_go (fun _ k => st189 _ k) ?_
    show own_Go _ _ _ _ T189 (mkF m 282 #[.val (.int p_1), .val (.int p_2), .val (.int p_3), .val (.int p_4), .val (.int (p_1.toInt8.toInt32)), .val (.int v3), .val (.int v4), .val (.int v5), .val (.ref b6), .val (.int v21), .val (.int v23), .val (.int (p_4.toInt8.toInt32)), .val (.ref b24), .val (.int r78), .val (.int v175), .val (.int (1 : Int32))] [(.int r190), (.int (own_hw (v21).toNatClampNeg v23 (p_4.toInt8.toInt32) (p_1.toInt8.toInt32) v3 v4 v5 0))])
    have hc191 : (own_hw (v21).toNatClampNeg v23 (p_4.toInt8.toInt32) (p_1.toInt8.toInt32) v3 v4 v5 0) = r190 := own_t0_20 p_1 p_2 p_3 p_4 v3 v4 v5 v21 v23 v175 r190 hdv3 hdv4 hdv5 hdv21 hdv23 hl hp hdv175 hr_r190
    refine own_go (fun _ k => XS.icmpNo X189.here hx rfl (hb hby at_282) rfl (Jvm.Free.XT.ii_ne_f hc191) k) ?_
    show own_Go _ _ _ _ T189 (mkF m 285 #[.val (.int p_1), .val (.int p_2), .val (.int p_3), .val (.int p_4), .val (.int (p_1.toInt8.toInt32)), .val (.int v3), .val (.int v4), .val (.int v5), .val (.ref b6), .val (.int v21), .val (.int v23), .val (.int (p_4.toInt8.toInt32)), .val (.ref b24), .val (.int r78), .val (.int v175), .val (.int (1 : Int32))] [])
    refine own_go (fun _ k => XS.iconst X189.here hx rfl (hb hby at_285) k) ?_
    show own_Go _ _ _ _ T189 (mkF m 286 #[.val (.int p_1), .val (.int p_2), .val (.int p_3), .val (.int p_4), .val (.int (p_1.toInt8.toInt32)), .val (.int v3), .val (.int v4), .val (.int v5), .val (.ref b6), .val (.int v21), .val (.int v23), .val (.int (p_4.toInt8.toInt32)), .val (.ref b24), .val (.int r78), .val (.int v175), .val (.int (1 : Int32))] [(.int (1 : Int32))])
    refine own_go (fun _ k => XS.goto X189.here hx rfl (pc0 := 286) (pc' := 290) rfl (hb hby at_286) (by decide) (by decide) k) ?_
    show own_Go _ _ _ _ T189 (mkF m 290 #[.val (.int p_1), .val (.int p_2), .val (.int p_3), .val (.int p_4), .val (.int (p_1.toInt8.toInt32)), .val (.int v3), .val (.int v4), .val (.int v5), .val (.ref b6), .val (.int v21), .val (.int v23), .val (.int (p_4.toInt8.toInt32)), .val (.ref b24), .val (.int r78), .val (.int v175), .val (.int (1 : Int32))] [(.int (1 : Int32))])
    refine own_go (fun _ k => XS.istore X189.here hx rfl (hb hby at_290) rfl (l' := #[.val (.int p_1), .val (.int p_2), .val (.int p_3), .val (.int p_4), .val (.int (p_1.toInt8.toInt32)), .val (.int v3), .val (.int v4), .val (.int v5), .val (.ref b6), .val (.int v21), .val (.int v23), .val (.int (p_4.toInt8.toInt32)), .val (.ref b24), .val (.int r78), .val (.int v175), .val (.int (1 : Int32))]) rfl k) ?_
    show own_Go _ _ _ _ T189 (mkF m 292 #[.val (.int p_1), .val (.int p_2), .val (.int p_3), .val (.int p_4), .val (.int (p_1.toInt8.toInt32)), .val (.int v3), .val (.int v4), .val (.int v5), .val (.ref b6), .val (.int v21), .val (.int v23), .val (.int (p_4.toInt8.toInt32)), .val (.ref b24), .val (.int r78), .val (.int v175), .val (.int (1 : Int32))] [])
    refine own_go (fun _ k => XS.iload X189.here hx rfl (hb hby at_292) rfl k) ?_
    show own_Go _ _ _ _ T189 (mkF m 294 #[.val (.int p_1), .val (.int p_2), .val (.int p_3), .val (.int p_4), .val (.int (p_1.toInt8.toInt32)), .val (.int v3), .val (.int v4), .val (.int v5), .val (.ref b6), .val (.int v21), .val (.int v23), .val (.int (p_4.toInt8.toInt32)), .val (.ref b24), .val (.int r78), .val (.int v175), .val (.int (1 : Int32))] [(.int (1 : Int32))])
    have hc192 : ¬ ((1 : Int32) = 0) := by decide
    refine own_go (fun _ k => XS.ifNo X189.here hx rfl (hb hby at_294) rfl (Jvm.Free.XT.i0_eq_f hc192) k) ?_
    show own_Go _ _ _ _ T189 (mkF m 297 #[.val (.int p_1), .val (.int p_2), .val (.int p_3), .val (.int p_4), .val (.int (p_1.toInt8.toInt32)), .val (.int v3), .val (.int v4), .val (.int v5), .val (.ref b6), .val (.int v21), .val (.int v23), .val (.int (p_4.toInt8.toInt32)), .val (.ref b24), .val (.int r78), .val (.int v175), .val (.int (1 : Int32))] [])
    refine own_go (fun _ k => XS.aload X189.here hx rfl (hb hby at_297) rfl rfl k) ?_
    show own_Go _ _ _ _ T189 (mkF m 299 #[.val (.int p_1), .val (.int p_2), .val (.int p_3), .val (.int p_4), .val (.int (p_1.toInt8.toInt32)), .val (.int v3), .val (.int v4), .val (.int v5), .val (.ref b6), .val (.int v21), .val (.int v23), .val (.int (p_4.toInt8.toInt32)), .val (.ref b24), .val (.int r78), .val (.int v175), .val (.int (1 : Int32))] [(.ref b24)])
    refine own_go (fun _ k => XS.iconst X189.here hx rfl (hb hby at_299) k) ?_
    show own_Go _ _ _ _ T189 (mkF m 300 #[.val (.int p_1), .val (.int p_2), .val (.int p_3), .val (.int p_4), .val (.int (p_1.toInt8.toInt32)), .val (.int v3), .val (.int v4), .val (.int v5), .val (.ref b6), .val (.int v21), .val (.int v23), .val (.int (p_4.toInt8.toInt32)), .val (.ref b24), .val (.int r78), .val (.int v175), .val (.int (1 : Int32))] [(.int (1 : Int32)), (.ref b24)])
    obtain ⟨q193, c193, R193, s193, t193⟩ := id f79
    have hin193 : ¬ ((1 : Int32) < 0 ∨ c193.slots.size ≤ ((1 : Int32)).toNatClampNeg) := inb_of s193 ⟨by decide, by decide⟩
    have u193 : c193.slots[((1 : Int32)).toNatClampNeg]? = some (.int (own_hw (v21).toNatClampNeg v23 (p_4.toInt8.toInt32) (p_1.toInt8.toInt32) v3 v4 v5 1)) := own_at (k := 1) t193 s193 hin193 (by decide) (own_hx_hw _ _ _ _ _ _ _ _ _ rfl)
    refine own_go (fun _ k => X189.baloadBytes hx (j := (1 : Int32)) (v := (.int (own_hw (v21).toNatClampNeg v23 (p_4.toInt8.toInt32) (p_1.toInt8.toInt32) v3 v4 v5 1))) (by rw [e189]; exact R193.1) (State.isArrayOf_alike hZ.alike R193.2.1) R193.2.2 hin193 u193 (g := (mkF m 300 #[.val (.int p_1), .val (.int p_2), .val (.int p_3), .val (.int p_4), .val (.int (p_1.toInt8.toInt32)), .val (.int v3), .val (.int v4), .val (.int v5), .val (.ref b6), .val (.int v21), .val (.int v23), .val (.int (p_4.toInt8.toInt32)), .val (.ref b24), .val (.int r78), .val (.int v175), .val (.int (1 : Int32))] [(.int (1 : Int32)), (.ref b24)])) rfl rfl (hb hby at_300) _ k) ?_
    show own_Go _ _ _ _ T189 (mkF m 301 #[.val (.int p_1), .val (.int p_2), .val (.int p_3), .val (.int p_4), .val (.int (p_1.toInt8.toInt32)), .val (.int v3), .val (.int v4), .val (.int v5), .val (.ref b6), .val (.int v21), .val (.int v23), .val (.int (p_4.toInt8.toInt32)), .val (.ref b24), .val (.int r78), .val (.int v175), .val (.int (1 : Int32))] [(.int (own_hw (v21).toNatClampNeg v23 (p_4.toInt8.toInt32) (p_1.toInt8.toInt32) v3 v4 v5 1))])
    refine own_go (fun _ k => XS.iconst X189.here hx rfl (hb hby at_301) k) ?_
    show own_Go _ _ _ _ T189 (mkF m 302 #[.val (.int p_1), .val (.int p_2), .val (.int p_3), .val (.int p_4), .val (.int (p_1.toInt8.toInt32)), .val (.int v3), .val (.int v4), .val (.int v5), .val (.ref b6), .val (.int v21), .val (.int v23), .val (.int (p_4.toInt8.toInt32)), .val (.ref b24), .val (.int r78), .val (.int v175), .val (.int (1 : Int32))] [(.int (1 : Int32)), (.int (own_hw (v21).toNatClampNeg v23 (p_4.toInt8.toInt32) (p_1.toInt8.toInt32) v3 v4 v5 1))])
    refine own_go (fun _ k => XS.iloadN X189.here hx rfl (hb hby at_302) rfl k) ?_
    show own_Go _ _ _ _ T189 (mkF m 303 #[.val (.int p_1), .val (.int p_2), .val (.int p_3), .val (.int p_4), .val (.int (p_1.toInt8.toInt32)), .val (.int v3), .val (.int v4), .val (.int v5), .val (.ref b6), .val (.int v21), .val (.int v23), .val (.int (p_4.toInt8.toInt32)), .val (.ref b24), .val (.int r78), .val (.int v175), .val (.int (1 : Int32))] [(.int p_1), (.int (1 : Int32)), (.int (own_hw (v21).toNatClampNeg v23 (p_4.toInt8.toInt32) (p_1.toInt8.toInt32) v3 v4 v5 1))])
    refine own_go (fun _ k => XS.iload X189.here hx rfl (hb hby at_303) rfl k) ?_
    show own_Go _ _ _ _ T189 (mkF m 305 #[.val (.int p_1), .val (.int p_2), .val (.int p_3), .val (.int p_4), .val (.int (p_1.toInt8.toInt32)), .val (.int v3), .val (.int v4), .val (.int v5), .val (.ref b6), .val (.int v21), .val (.int v23), .val (.int (p_4.toInt8.toInt32)), .val (.ref b24), .val (.int r78), .val (.int v175), .val (.int (1 : Int32))] [(.int v21), (.int p_1), (.int (1 : Int32)), (.int (own_hw (v21).toNatClampNeg v23 (p_4.toInt8.toInt32) (p_1.toInt8.toInt32) v3 v4 v5 1))])
    refine own_go (fun _ k => XS.iload X189.here hx rfl (hb hby at_305) rfl k) ?_
    show own_Go _ _ _ _ T189 (mkF m 307 #[.val (.int p_1), .val (.int p_2), .val (.int p_3), .val (.int p_4), .val (.int (p_1.toInt8.toInt32)), .val (.int v3), .val (.int v4), .val (.int v5), .val (.ref b6), .val (.int v21), .val (.int v23), .val (.int (p_4.toInt8.toInt32)), .val (.ref b24), .val (.int r78), .val (.int v175), .val (.int (1 : Int32))] [(.int v23), (.int v21), (.int p_1), (.int (1 : Int32)), (.int (own_hw (v21).toNatClampNeg v23 (p_4.toInt8.toInt32) (p_1.toInt8.toInt32) v3 v4 v5 1))])
    refine own_go (fun _ k => XS.iload X189.here hx rfl (hb hby at_307) rfl k) ?_
    show own_Go _ _ _ _ T189 (mkF m 309 #[.val (.int p_1), .val (.int p_2), .val (.int p_3), .val (.int p_4), .val (.int (p_1.toInt8.toInt32)), .val (.int v3), .val (.int v4), .val (.int v5), .val (.ref b6), .val (.int v21), .val (.int v23), .val (.int (p_4.toInt8.toInt32)), .val (.ref b24), .val (.int r78), .val (.int v175), .val (.int (1 : Int32))] [(.int (p_4.toInt8.toInt32)), (.int v23), (.int v21), (.int p_1), (.int (1 : Int32)), (.int (own_hw (v21).toNatClampNeg v23 (p_4.toInt8.toInt32) (p_1.toInt8.toInt32) v3 v4 v5 1))])
    obtain ⟨_, _, ⟨T194, L194, k194, n194⟩, -, X194, ⟨Lc194, hQ194, l194, y194, z194⟩, st194⟩ := Jvm.LawKit.callS X189 hx (y := (⟨"com/example/honest_codec/honestcodec/IllFormedSequencePutHexPinLaw", "expectedAt", "(IIIIB)B"⟩ : MethodName)) hown (mvT hZ (hw _ (List.mem_of_getElem? (i := 8) rfl))) (mvT hZ (hw _ (List.mem_of_getElem? (i := 9) rfl))) (mvT hZ (hw _ (List.mem_of_getElem? (i := 10) rfl))) (mvT hZ (hw _ (List.mem_of_getElem? (i := 11) rfl))) (by decide) (backOf (W := 1) (own_rm2 l Z a0 hw [] (1 : Int32) p_1 v21 v23 (p_4.toInt8.toInt32)  T77.heap n0 (by omega) (own_nar_b _)) hZ (hw _ (List.mem_of_getElem? (i := 11) rfl)) (hw _ (List.mem_of_getElem? (i := 10) rfl)) (by decide) (by decide)) (g := (mkF m 309 #[.val (.int p_1), .val (.int p_2), .val (.int p_3), .val (.int p_4), .val (.int (p_1.toInt8.toInt32)), .val (.int v3), .val (.int v4), .val (.int v5), .val (.ref b6), .val (.int v21), .val (.int v23), .val (.int (p_4.toInt8.toInt32)), .val (.ref b24), .val (.int r78), .val (.int v175), .val (.int (1 : Int32))] [(.int (p_4.toInt8.toInt32)), (.int v23), (.int v21), (.int p_1), (.int (1 : Int32)), (.int (own_hw (v21).toNatClampNeg v23 (p_4.toInt8.toInt32) (p_1.toInt8.toInt32) v3 v4 v5 1))])) rfl (by rw [hml]; rfl) (argsL := [(.int (1 : Int32)), (.int p_1), (.int v21), (.int v23), (.int (p_4.toInt8.toInt32))]) (rest := [(.int (own_hw (v21).toNatClampNeg v23 (p_4.toInt8.toInt32) (p_1.toInt8.toInt32) v3 v4 v5 1))]) (lenOf own_pd2 rfl) rfl (by show 2 * 0 + _ ≤ _; exact Nat.le_of_eq rfl) (hb hby at_309) (fun _ _ => ⟨rfl, e189, (by show k189 + _ ≤ _; rw [y189]; decide), (by show n189 + _ ≤ _; rw [z189]; decide)⟩)
    dsimp only [Pt.U, Pt.locs, Pt.cells, Pt.slots] at X194 l194 y194 z194 st194 hQ194
    have y194 : k194 = 2 := own_addeq y194 (congrArg (fun q => q) y189) rfl
    have z194 : n194 = 20 := own_addeq z194 (congrArg (fun q => q) z189) rfl
    obtain ⟨r195, rfl, N194q, hr_r195, e194⟩ := hQ194
    have N194 : Fr n0 L194 := by rw [l194]; exact Fr.app N189 N194q
    refine own_go (fun _ k => st194 _ k) ?_
    show own_Go _ _ _ _ T194 (mkF m 312 #[.val (.int p_1), .val (.int p_2), .val (.int p_3), .val (.int p_4), .val (.int (p_1.toInt8.toInt32)), .val (.int v3), .val (.int v4), .val (.int v5), .val (.ref b6), .val (.int v21), .val (.int v23), .val (.int (p_4.toInt8.toInt32)), .val (.ref b24), .val (.int r78), .val (.int v175), .val (.int (1 : Int32))] [(.int r195), (.int (own_hw (v21).toNatClampNeg v23 (p_4.toInt8.toInt32) (p_1.toInt8.toInt32) v3 v4 v5 1))])
    have hc196 : (own_hw (v21).toNatClampNeg v23 (p_4.toInt8.toInt32) (p_1.toInt8.toInt32) v3 v4 v5 1) = r195 := own_t0_21 p_1 p_2 p_3 p_4 v3 v4 v5 v21 v23 v175 r195 hdv3 hdv4 hdv5 hdv21 hdv23 hl hp hdv175 hr_r195
    refine own_go (fun _ k => XS.icmpNo X194.here hx rfl (hb hby at_312) rfl (Jvm.Free.XT.ii_ne_f hc196) k) ?_
    show own_Go _ _ _ _ T194 (mkF m 315 #[.val (.int p_1), .val (.int p_2), .val (.int p_3), .val (.int p_4), .val (.int (p_1.toInt8.toInt32)), .val (.int v3), .val (.int v4), .val (.int v5), .val (.ref b6), .val (.int v21), .val (.int v23), .val (.int (p_4.toInt8.toInt32)), .val (.ref b24), .val (.int r78), .val (.int v175), .val (.int (1 : Int32))] [])
    refine own_go (fun _ k => XS.iconst X194.here hx rfl (hb hby at_315) k) ?_
    show own_Go _ _ _ _ T194 (mkF m 316 #[.val (.int p_1), .val (.int p_2), .val (.int p_3), .val (.int p_4), .val (.int (p_1.toInt8.toInt32)), .val (.int v3), .val (.int v4), .val (.int v5), .val (.ref b6), .val (.int v21), .val (.int v23), .val (.int (p_4.toInt8.toInt32)), .val (.ref b24), .val (.int r78), .val (.int v175), .val (.int (1 : Int32))] [(.int (1 : Int32))])
    refine own_go (fun _ k => XS.goto X194.here hx rfl (pc0 := 316) (pc' := 320) rfl (hb hby at_316) (by decide) (by decide) k) ?_
    show own_Go _ _ _ _ T194 (mkF m 320 #[.val (.int p_1), .val (.int p_2), .val (.int p_3), .val (.int p_4), .val (.int (p_1.toInt8.toInt32)), .val (.int v3), .val (.int v4), .val (.int v5), .val (.ref b6), .val (.int v21), .val (.int v23), .val (.int (p_4.toInt8.toInt32)), .val (.ref b24), .val (.int r78), .val (.int v175), .val (.int (1 : Int32))] [(.int (1 : Int32))])
    refine own_go (fun _ k => XS.istore X194.here hx rfl (hb hby at_320) rfl (l' := #[.val (.int p_1), .val (.int p_2), .val (.int p_3), .val (.int p_4), .val (.int (p_1.toInt8.toInt32)), .val (.int v3), .val (.int v4), .val (.int v5), .val (.ref b6), .val (.int v21), .val (.int v23), .val (.int (p_4.toInt8.toInt32)), .val (.ref b24), .val (.int r78), .val (.int v175), .val (.int (1 : Int32))]) rfl k) ?_
    show own_Go _ _ _ _ T194 (mkF m 322 #[.val (.int p_1), .val (.int p_2), .val (.int p_3), .val (.int p_4), .val (.int (p_1.toInt8.toInt32)), .val (.int v3), .val (.int v4), .val (.int v5), .val (.ref b6), .val (.int v21), .val (.int v23), .val (.int (p_4.toInt8.toInt32)), .val (.ref b24), .val (.int r78), .val (.int v175), .val (.int (1 : Int32))] [])
    refine own_go (fun _ k => XS.iload X194.here hx rfl (hb hby at_322) rfl k) ?_
    show own_Go _ _ _ _ T194 (mkF m 324 #[.val (.int p_1), .val (.int p_2), .val (.int p_3), .val (.int p_4), .val (.int (p_1.toInt8.toInt32)), .val (.int v3), .val (.int v4), .val (.int v5), .val (.ref b6), .val (.int v21), .val (.int v23), .val (.int (p_4.toInt8.toInt32)), .val (.ref b24), .val (.int r78), .val (.int v175), .val (.int (1 : Int32))] [(.int (1 : Int32))])
    have hc197 : ¬ ((1 : Int32) = 0) := by decide
    refine own_go (fun _ k => XS.ifNo X194.here hx rfl (hb hby at_324) rfl (Jvm.Free.XT.i0_eq_f hc197) k) ?_
    show own_Go _ _ _ _ T194 (mkF m 327 #[.val (.int p_1), .val (.int p_2), .val (.int p_3), .val (.int p_4), .val (.int (p_1.toInt8.toInt32)), .val (.int v3), .val (.int v4), .val (.int v5), .val (.ref b6), .val (.int v21), .val (.int v23), .val (.int (p_4.toInt8.toInt32)), .val (.ref b24), .val (.int r78), .val (.int v175), .val (.int (1 : Int32))] [])
    refine own_go (fun _ k => XS.aload X194.here hx rfl (hb hby at_327) rfl rfl k) ?_
    show own_Go _ _ _ _ T194 (mkF m 329 #[.val (.int p_1), .val (.int p_2), .val (.int p_3), .val (.int p_4), .val (.int (p_1.toInt8.toInt32)), .val (.int v3), .val (.int v4), .val (.int v5), .val (.ref b6), .val (.int v21), .val (.int v23), .val (.int (p_4.toInt8.toInt32)), .val (.ref b24), .val (.int r78), .val (.int v175), .val (.int (1 : Int32))] [(.ref b24)])
    refine own_go (fun _ k => XS.iconst X194.here hx rfl (hb hby at_329) k) ?_
    show own_Go _ _ _ _ T194 (mkF m 330 #[.val (.int p_1), .val (.int p_2), .val (.int p_3), .val (.int p_4), .val (.int (p_1.toInt8.toInt32)), .val (.int v3), .val (.int v4), .val (.int v5), .val (.ref b6), .val (.int v21), .val (.int v23), .val (.int (p_4.toInt8.toInt32)), .val (.ref b24), .val (.int r78), .val (.int v175), .val (.int (1 : Int32))] [(.int (2 : Int32)), (.ref b24)])
    obtain ⟨q198, c198, R198, s198, t198⟩ := id f79
    have hin198 : ¬ ((2 : Int32) < 0 ∨ c198.slots.size ≤ ((2 : Int32)).toNatClampNeg) := inb_of s198 ⟨by decide, by decide⟩
    have u198 : c198.slots[((2 : Int32)).toNatClampNeg]? = some (.int (own_hw (v21).toNatClampNeg v23 (p_4.toInt8.toInt32) (p_1.toInt8.toInt32) v3 v4 v5 2)) := own_at (k := 2) t198 s198 hin198 (by decide) (own_hx_hw _ _ _ _ _ _ _ _ _ rfl)
    refine own_go (fun _ k => X194.baloadBytes hx (j := (2 : Int32)) (v := (.int (own_hw (v21).toNatClampNeg v23 (p_4.toInt8.toInt32) (p_1.toInt8.toInt32) v3 v4 v5 2))) (by rw [e194]; exact R198.1) (State.isArrayOf_alike hZ.alike R198.2.1) R198.2.2 hin198 u198 (g := (mkF m 330 #[.val (.int p_1), .val (.int p_2), .val (.int p_3), .val (.int p_4), .val (.int (p_1.toInt8.toInt32)), .val (.int v3), .val (.int v4), .val (.int v5), .val (.ref b6), .val (.int v21), .val (.int v23), .val (.int (p_4.toInt8.toInt32)), .val (.ref b24), .val (.int r78), .val (.int v175), .val (.int (1 : Int32))] [(.int (2 : Int32)), (.ref b24)])) rfl rfl (hb hby at_330) _ k) ?_
    show own_Go _ _ _ _ T194 (mkF m 331 #[.val (.int p_1), .val (.int p_2), .val (.int p_3), .val (.int p_4), .val (.int (p_1.toInt8.toInt32)), .val (.int v3), .val (.int v4), .val (.int v5), .val (.ref b6), .val (.int v21), .val (.int v23), .val (.int (p_4.toInt8.toInt32)), .val (.ref b24), .val (.int r78), .val (.int v175), .val (.int (1 : Int32))] [(.int (own_hw (v21).toNatClampNeg v23 (p_4.toInt8.toInt32) (p_1.toInt8.toInt32) v3 v4 v5 2))])
    refine own_go (fun _ k => XS.iconst X194.here hx rfl (hb hby at_331) k) ?_
    show own_Go _ _ _ _ T194 (mkF m 332 #[.val (.int p_1), .val (.int p_2), .val (.int p_3), .val (.int p_4), .val (.int (p_1.toInt8.toInt32)), .val (.int v3), .val (.int v4), .val (.int v5), .val (.ref b6), .val (.int v21), .val (.int v23), .val (.int (p_4.toInt8.toInt32)), .val (.ref b24), .val (.int r78), .val (.int v175), .val (.int (1 : Int32))] [(.int (2 : Int32)), (.int (own_hw (v21).toNatClampNeg v23 (p_4.toInt8.toInt32) (p_1.toInt8.toInt32) v3 v4 v5 2))])
    refine own_go (fun _ k => XS.iloadN X194.here hx rfl (hb hby at_332) rfl k) ?_
    show own_Go _ _ _ _ T194 (mkF m 333 #[.val (.int p_1), .val (.int p_2), .val (.int p_3), .val (.int p_4), .val (.int (p_1.toInt8.toInt32)), .val (.int v3), .val (.int v4), .val (.int v5), .val (.ref b6), .val (.int v21), .val (.int v23), .val (.int (p_4.toInt8.toInt32)), .val (.ref b24), .val (.int r78), .val (.int v175), .val (.int (1 : Int32))] [(.int p_1), (.int (2 : Int32)), (.int (own_hw (v21).toNatClampNeg v23 (p_4.toInt8.toInt32) (p_1.toInt8.toInt32) v3 v4 v5 2))])
    refine own_go (fun _ k => XS.iload X194.here hx rfl (hb hby at_333) rfl k) ?_
    show own_Go _ _ _ _ T194 (mkF m 335 #[.val (.int p_1), .val (.int p_2), .val (.int p_3), .val (.int p_4), .val (.int (p_1.toInt8.toInt32)), .val (.int v3), .val (.int v4), .val (.int v5), .val (.ref b6), .val (.int v21), .val (.int v23), .val (.int (p_4.toInt8.toInt32)), .val (.ref b24), .val (.int r78), .val (.int v175), .val (.int (1 : Int32))] [(.int v21), (.int p_1), (.int (2 : Int32)), (.int (own_hw (v21).toNatClampNeg v23 (p_4.toInt8.toInt32) (p_1.toInt8.toInt32) v3 v4 v5 2))])
    refine own_go (fun _ k => XS.iload X194.here hx rfl (hb hby at_335) rfl k) ?_
    show own_Go _ _ _ _ T194 (mkF m 337 #[.val (.int p_1), .val (.int p_2), .val (.int p_3), .val (.int p_4), .val (.int (p_1.toInt8.toInt32)), .val (.int v3), .val (.int v4), .val (.int v5), .val (.ref b6), .val (.int v21), .val (.int v23), .val (.int (p_4.toInt8.toInt32)), .val (.ref b24), .val (.int r78), .val (.int v175), .val (.int (1 : Int32))] [(.int v23), (.int v21), (.int p_1), (.int (2 : Int32)), (.int (own_hw (v21).toNatClampNeg v23 (p_4.toInt8.toInt32) (p_1.toInt8.toInt32) v3 v4 v5 2))])
    refine own_go (fun _ k => XS.iload X194.here hx rfl (hb hby at_337) rfl k) ?_
    show own_Go _ _ _ _ T194 (mkF m 339 #[.val (.int p_1), .val (.int p_2), .val (.int p_3), .val (.int p_4), .val (.int (p_1.toInt8.toInt32)), .val (.int v3), .val (.int v4), .val (.int v5), .val (.ref b6), .val (.int v21), .val (.int v23), .val (.int (p_4.toInt8.toInt32)), .val (.ref b24), .val (.int r78), .val (.int v175), .val (.int (1 : Int32))] [(.int (p_4.toInt8.toInt32)), (.int v23), (.int v21), (.int p_1), (.int (2 : Int32)), (.int (own_hw (v21).toNatClampNeg v23 (p_4.toInt8.toInt32) (p_1.toInt8.toInt32) v3 v4 v5 2))])
    obtain ⟨_, _, ⟨T199, L199, k199, n199⟩, -, X199, ⟨Lc199, hQ199, l199, y199, z199⟩, st199⟩ := Jvm.LawKit.callS X194 hx (y := (⟨"com/example/honest_codec/honestcodec/IllFormedSequencePutHexPinLaw", "expectedAt", "(IIIIB)B"⟩ : MethodName)) hown (mvT hZ (hw _ (List.mem_of_getElem? (i := 8) rfl))) (mvT hZ (hw _ (List.mem_of_getElem? (i := 9) rfl))) (mvT hZ (hw _ (List.mem_of_getElem? (i := 10) rfl))) (mvT hZ (hw _ (List.mem_of_getElem? (i := 11) rfl))) (by decide) (backOf (W := 1) (own_rm2 l Z a0 hw [] (2 : Int32) p_1 v21 v23 (p_4.toInt8.toInt32)  T77.heap n0 (by omega) (own_nar_b _)) hZ (hw _ (List.mem_of_getElem? (i := 11) rfl)) (hw _ (List.mem_of_getElem? (i := 10) rfl)) (by decide) (by decide)) (g := (mkF m 339 #[.val (.int p_1), .val (.int p_2), .val (.int p_3), .val (.int p_4), .val (.int (p_1.toInt8.toInt32)), .val (.int v3), .val (.int v4), .val (.int v5), .val (.ref b6), .val (.int v21), .val (.int v23), .val (.int (p_4.toInt8.toInt32)), .val (.ref b24), .val (.int r78), .val (.int v175), .val (.int (1 : Int32))] [(.int (p_4.toInt8.toInt32)), (.int v23), (.int v21), (.int p_1), (.int (2 : Int32)), (.int (own_hw (v21).toNatClampNeg v23 (p_4.toInt8.toInt32) (p_1.toInt8.toInt32) v3 v4 v5 2))])) rfl (by rw [hml]; rfl) (argsL := [(.int (2 : Int32)), (.int p_1), (.int v21), (.int v23), (.int (p_4.toInt8.toInt32))]) (rest := [(.int (own_hw (v21).toNatClampNeg v23 (p_4.toInt8.toInt32) (p_1.toInt8.toInt32) v3 v4 v5 2))]) (lenOf own_pd2 rfl) rfl (by show 2 * 0 + _ ≤ _; exact Nat.le_of_eq rfl) (hb hby at_339) (fun _ _ => ⟨rfl, e194, (by show k194 + _ ≤ _; rw [y194]; decide), (by show n194 + _ ≤ _; rw [z194]; decide)⟩)
    dsimp only [Pt.U, Pt.locs, Pt.cells, Pt.slots] at X199 l199 y199 z199 st199 hQ199
    have y199 : k199 = 2 := own_addeq y199 (congrArg (fun q => q) y194) rfl
    have z199 : n199 = 20 := own_addeq z199 (congrArg (fun q => q) z194) rfl
    obtain ⟨r200, rfl, N199q, hr_r200, e199⟩ := hQ199
    have N199 : Fr n0 L199 := by rw [l199]; exact Fr.app N194 N199q
    refine own_go (fun _ k => st199 _ k) ?_
    show own_Go _ _ _ _ T199 (mkF m 342 #[.val (.int p_1), .val (.int p_2), .val (.int p_3), .val (.int p_4), .val (.int (p_1.toInt8.toInt32)), .val (.int v3), .val (.int v4), .val (.int v5), .val (.ref b6), .val (.int v21), .val (.int v23), .val (.int (p_4.toInt8.toInt32)), .val (.ref b24), .val (.int r78), .val (.int v175), .val (.int (1 : Int32))] [(.int r200), (.int (own_hw (v21).toNatClampNeg v23 (p_4.toInt8.toInt32) (p_1.toInt8.toInt32) v3 v4 v5 2))])
    have hc201 : (own_hw (v21).toNatClampNeg v23 (p_4.toInt8.toInt32) (p_1.toInt8.toInt32) v3 v4 v5 2) = r200 := own_t0_22 p_1 p_2 p_3 p_4 v3 v4 v5 v21 v23 v175 r200 hdv3 hdv4 hdv5 hdv21 hdv23 hl hp hdv175 hr_r200
    refine own_go (fun _ k => XS.icmpNo X199.here hx rfl (hb hby at_342) rfl (Jvm.Free.XT.ii_ne_f hc201) k) ?_
    show own_Go _ _ _ _ T199 (mkF m 345 #[.val (.int p_1), .val (.int p_2), .val (.int p_3), .val (.int p_4), .val (.int (p_1.toInt8.toInt32)), .val (.int v3), .val (.int v4), .val (.int v5), .val (.ref b6), .val (.int v21), .val (.int v23), .val (.int (p_4.toInt8.toInt32)), .val (.ref b24), .val (.int r78), .val (.int v175), .val (.int (1 : Int32))] [])
    refine own_go (fun _ k => XS.iconst X199.here hx rfl (hb hby at_345) k) ?_
    show own_Go _ _ _ _ T199 (mkF m 346 #[.val (.int p_1), .val (.int p_2), .val (.int p_3), .val (.int p_4), .val (.int (p_1.toInt8.toInt32)), .val (.int v3), .val (.int v4), .val (.int v5), .val (.ref b6), .val (.int v21), .val (.int v23), .val (.int (p_4.toInt8.toInt32)), .val (.ref b24), .val (.int r78), .val (.int v175), .val (.int (1 : Int32))] [(.int (1 : Int32))])
    refine own_go (fun _ k => XS.goto X199.here hx rfl (pc0 := 346) (pc' := 350) rfl (hb hby at_346) (by decide) (by decide) k) ?_
    show own_Go _ _ _ _ T199 (mkF m 350 #[.val (.int p_1), .val (.int p_2), .val (.int p_3), .val (.int p_4), .val (.int (p_1.toInt8.toInt32)), .val (.int v3), .val (.int v4), .val (.int v5), .val (.ref b6), .val (.int v21), .val (.int v23), .val (.int (p_4.toInt8.toInt32)), .val (.ref b24), .val (.int r78), .val (.int v175), .val (.int (1 : Int32))] [(.int (1 : Int32))])
    refine own_go (fun _ k => XS.istore X199.here hx rfl (hb hby at_350) rfl (l' := #[.val (.int p_1), .val (.int p_2), .val (.int p_3), .val (.int p_4), .val (.int (p_1.toInt8.toInt32)), .val (.int v3), .val (.int v4), .val (.int v5), .val (.ref b6), .val (.int v21), .val (.int v23), .val (.int (p_4.toInt8.toInt32)), .val (.ref b24), .val (.int r78), .val (.int v175), .val (.int (1 : Int32))]) rfl k) ?_
    show own_Go _ _ _ _ T199 (mkF m 352 #[.val (.int p_1), .val (.int p_2), .val (.int p_3), .val (.int p_4), .val (.int (p_1.toInt8.toInt32)), .val (.int v3), .val (.int v4), .val (.int v5), .val (.ref b6), .val (.int v21), .val (.int v23), .val (.int (p_4.toInt8.toInt32)), .val (.ref b24), .val (.int r78), .val (.int v175), .val (.int (1 : Int32))] [])
    refine own_go (fun _ k => XS.iload X199.here hx rfl (hb hby at_352) rfl k) ?_
    show own_Go _ _ _ _ T199 (mkF m 354 #[.val (.int p_1), .val (.int p_2), .val (.int p_3), .val (.int p_4), .val (.int (p_1.toInt8.toInt32)), .val (.int v3), .val (.int v4), .val (.int v5), .val (.ref b6), .val (.int v21), .val (.int v23), .val (.int (p_4.toInt8.toInt32)), .val (.ref b24), .val (.int r78), .val (.int v175), .val (.int (1 : Int32))] [(.int (1 : Int32))])
    have hc202 : ¬ ((1 : Int32) = 0) := by decide
    refine own_go (fun _ k => XS.ifNo X199.here hx rfl (hb hby at_354) rfl (Jvm.Free.XT.i0_eq_f hc202) k) ?_
    show own_Go _ _ _ _ T199 (mkF m 357 #[.val (.int p_1), .val (.int p_2), .val (.int p_3), .val (.int p_4), .val (.int (p_1.toInt8.toInt32)), .val (.int v3), .val (.int v4), .val (.int v5), .val (.ref b6), .val (.int v21), .val (.int v23), .val (.int (p_4.toInt8.toInt32)), .val (.ref b24), .val (.int r78), .val (.int v175), .val (.int (1 : Int32))] [])
    refine own_go (fun _ k => XS.aload X199.here hx rfl (hb hby at_357) rfl rfl k) ?_
    show own_Go _ _ _ _ T199 (mkF m 359 #[.val (.int p_1), .val (.int p_2), .val (.int p_3), .val (.int p_4), .val (.int (p_1.toInt8.toInt32)), .val (.int v3), .val (.int v4), .val (.int v5), .val (.ref b6), .val (.int v21), .val (.int v23), .val (.int (p_4.toInt8.toInt32)), .val (.ref b24), .val (.int r78), .val (.int v175), .val (.int (1 : Int32))] [(.ref b24)])
    refine own_go (fun _ k => XS.iconst X199.here hx rfl (hb hby at_359) k) ?_
    show own_Go _ _ _ _ T199 (mkF m 360 #[.val (.int p_1), .val (.int p_2), .val (.int p_3), .val (.int p_4), .val (.int (p_1.toInt8.toInt32)), .val (.int v3), .val (.int v4), .val (.int v5), .val (.ref b6), .val (.int v21), .val (.int v23), .val (.int (p_4.toInt8.toInt32)), .val (.ref b24), .val (.int r78), .val (.int v175), .val (.int (1 : Int32))] [(.int (3 : Int32)), (.ref b24)])
    obtain ⟨q203, c203, R203, s203, t203⟩ := id f79
    have hin203 : ¬ ((3 : Int32) < 0 ∨ c203.slots.size ≤ ((3 : Int32)).toNatClampNeg) := inb_of s203 ⟨by decide, by decide⟩
    have u203 : c203.slots[((3 : Int32)).toNatClampNeg]? = some (.int (own_hw (v21).toNatClampNeg v23 (p_4.toInt8.toInt32) (p_1.toInt8.toInt32) v3 v4 v5 3)) := own_at (k := 3) t203 s203 hin203 (by decide) (own_hx_hw _ _ _ _ _ _ _ _ _ rfl)
    refine own_go (fun _ k => X199.baloadBytes hx (j := (3 : Int32)) (v := (.int (own_hw (v21).toNatClampNeg v23 (p_4.toInt8.toInt32) (p_1.toInt8.toInt32) v3 v4 v5 3))) (by rw [e199]; exact R203.1) (State.isArrayOf_alike hZ.alike R203.2.1) R203.2.2 hin203 u203 (g := (mkF m 360 #[.val (.int p_1), .val (.int p_2), .val (.int p_3), .val (.int p_4), .val (.int (p_1.toInt8.toInt32)), .val (.int v3), .val (.int v4), .val (.int v5), .val (.ref b6), .val (.int v21), .val (.int v23), .val (.int (p_4.toInt8.toInt32)), .val (.ref b24), .val (.int r78), .val (.int v175), .val (.int (1 : Int32))] [(.int (3 : Int32)), (.ref b24)])) rfl rfl (hb hby at_360) _ k) ?_
    show own_Go _ _ _ _ T199 (mkF m 361 #[.val (.int p_1), .val (.int p_2), .val (.int p_3), .val (.int p_4), .val (.int (p_1.toInt8.toInt32)), .val (.int v3), .val (.int v4), .val (.int v5), .val (.ref b6), .val (.int v21), .val (.int v23), .val (.int (p_4.toInt8.toInt32)), .val (.ref b24), .val (.int r78), .val (.int v175), .val (.int (1 : Int32))] [(.int (own_hw (v21).toNatClampNeg v23 (p_4.toInt8.toInt32) (p_1.toInt8.toInt32) v3 v4 v5 3))])
    refine own_go (fun _ k => XS.iconst X199.here hx rfl (hb hby at_361) k) ?_
    show own_Go _ _ _ _ T199 (mkF m 362 #[.val (.int p_1), .val (.int p_2), .val (.int p_3), .val (.int p_4), .val (.int (p_1.toInt8.toInt32)), .val (.int v3), .val (.int v4), .val (.int v5), .val (.ref b6), .val (.int v21), .val (.int v23), .val (.int (p_4.toInt8.toInt32)), .val (.ref b24), .val (.int r78), .val (.int v175), .val (.int (1 : Int32))] [(.int (3 : Int32)), (.int (own_hw (v21).toNatClampNeg v23 (p_4.toInt8.toInt32) (p_1.toInt8.toInt32) v3 v4 v5 3))])
    refine own_go (fun _ k => XS.iloadN X199.here hx rfl (hb hby at_362) rfl k) ?_
    show own_Go _ _ _ _ T199 (mkF m 363 #[.val (.int p_1), .val (.int p_2), .val (.int p_3), .val (.int p_4), .val (.int (p_1.toInt8.toInt32)), .val (.int v3), .val (.int v4), .val (.int v5), .val (.ref b6), .val (.int v21), .val (.int v23), .val (.int (p_4.toInt8.toInt32)), .val (.ref b24), .val (.int r78), .val (.int v175), .val (.int (1 : Int32))] [(.int p_1), (.int (3 : Int32)), (.int (own_hw (v21).toNatClampNeg v23 (p_4.toInt8.toInt32) (p_1.toInt8.toInt32) v3 v4 v5 3))])
    refine own_go (fun _ k => XS.iload X199.here hx rfl (hb hby at_363) rfl k) ?_
    show own_Go _ _ _ _ T199 (mkF m 365 #[.val (.int p_1), .val (.int p_2), .val (.int p_3), .val (.int p_4), .val (.int (p_1.toInt8.toInt32)), .val (.int v3), .val (.int v4), .val (.int v5), .val (.ref b6), .val (.int v21), .val (.int v23), .val (.int (p_4.toInt8.toInt32)), .val (.ref b24), .val (.int r78), .val (.int v175), .val (.int (1 : Int32))] [(.int v21), (.int p_1), (.int (3 : Int32)), (.int (own_hw (v21).toNatClampNeg v23 (p_4.toInt8.toInt32) (p_1.toInt8.toInt32) v3 v4 v5 3))])
    refine own_go (fun _ k => XS.iload X199.here hx rfl (hb hby at_365) rfl k) ?_
    show own_Go _ _ _ _ T199 (mkF m 367 #[.val (.int p_1), .val (.int p_2), .val (.int p_3), .val (.int p_4), .val (.int (p_1.toInt8.toInt32)), .val (.int v3), .val (.int v4), .val (.int v5), .val (.ref b6), .val (.int v21), .val (.int v23), .val (.int (p_4.toInt8.toInt32)), .val (.ref b24), .val (.int r78), .val (.int v175), .val (.int (1 : Int32))] [(.int v23), (.int v21), (.int p_1), (.int (3 : Int32)), (.int (own_hw (v21).toNatClampNeg v23 (p_4.toInt8.toInt32) (p_1.toInt8.toInt32) v3 v4 v5 3))])
    refine own_go (fun _ k => XS.iload X199.here hx rfl (hb hby at_367) rfl k) ?_
    show own_Go _ _ _ _ T199 (mkF m 369 #[.val (.int p_1), .val (.int p_2), .val (.int p_3), .val (.int p_4), .val (.int (p_1.toInt8.toInt32)), .val (.int v3), .val (.int v4), .val (.int v5), .val (.ref b6), .val (.int v21), .val (.int v23), .val (.int (p_4.toInt8.toInt32)), .val (.ref b24), .val (.int r78), .val (.int v175), .val (.int (1 : Int32))] [(.int (p_4.toInt8.toInt32)), (.int v23), (.int v21), (.int p_1), (.int (3 : Int32)), (.int (own_hw (v21).toNatClampNeg v23 (p_4.toInt8.toInt32) (p_1.toInt8.toInt32) v3 v4 v5 3))])
    obtain ⟨_, _, ⟨T204, L204, k204, n204⟩, -, X204, ⟨Lc204, hQ204, l204, y204, z204⟩, st204⟩ := Jvm.LawKit.callS X199 hx (y := (⟨"com/example/honest_codec/honestcodec/IllFormedSequencePutHexPinLaw", "expectedAt", "(IIIIB)B"⟩ : MethodName)) hown (mvT hZ (hw _ (List.mem_of_getElem? (i := 8) rfl))) (mvT hZ (hw _ (List.mem_of_getElem? (i := 9) rfl))) (mvT hZ (hw _ (List.mem_of_getElem? (i := 10) rfl))) (mvT hZ (hw _ (List.mem_of_getElem? (i := 11) rfl))) (by decide) (backOf (W := 1) (own_rm2 l Z a0 hw [] (3 : Int32) p_1 v21 v23 (p_4.toInt8.toInt32)  T77.heap n0 (by omega) (own_nar_b _)) hZ (hw _ (List.mem_of_getElem? (i := 11) rfl)) (hw _ (List.mem_of_getElem? (i := 10) rfl)) (by decide) (by decide)) (g := (mkF m 369 #[.val (.int p_1), .val (.int p_2), .val (.int p_3), .val (.int p_4), .val (.int (p_1.toInt8.toInt32)), .val (.int v3), .val (.int v4), .val (.int v5), .val (.ref b6), .val (.int v21), .val (.int v23), .val (.int (p_4.toInt8.toInt32)), .val (.ref b24), .val (.int r78), .val (.int v175), .val (.int (1 : Int32))] [(.int (p_4.toInt8.toInt32)), (.int v23), (.int v21), (.int p_1), (.int (3 : Int32)), (.int (own_hw (v21).toNatClampNeg v23 (p_4.toInt8.toInt32) (p_1.toInt8.toInt32) v3 v4 v5 3))])) rfl (by rw [hml]; rfl) (argsL := [(.int (3 : Int32)), (.int p_1), (.int v21), (.int v23), (.int (p_4.toInt8.toInt32))]) (rest := [(.int (own_hw (v21).toNatClampNeg v23 (p_4.toInt8.toInt32) (p_1.toInt8.toInt32) v3 v4 v5 3))]) (lenOf own_pd2 rfl) rfl (by show 2 * 0 + _ ≤ _; exact Nat.le_of_eq rfl) (hb hby at_369) (fun _ _ => ⟨rfl, e199, (by show k199 + _ ≤ _; rw [y199]; decide), (by show n199 + _ ≤ _; rw [z199]; decide)⟩)
    dsimp only [Pt.U, Pt.locs, Pt.cells, Pt.slots] at X204 l204 y204 z204 st204 hQ204
    have y204 : k204 = 2 := own_addeq y204 (congrArg (fun q => q) y199) rfl
    have z204 : n204 = 20 := own_addeq z204 (congrArg (fun q => q) z199) rfl
    obtain ⟨r205, rfl, N204q, hr_r205, e204⟩ := hQ204
    have N204 : Fr n0 L204 := by rw [l204]; exact Fr.app N199 N204q
    refine own_go (fun _ k => st204 _ k) ?_
    show own_Go _ _ _ _ T204 (mkF m 372 #[.val (.int p_1), .val (.int p_2), .val (.int p_3), .val (.int p_4), .val (.int (p_1.toInt8.toInt32)), .val (.int v3), .val (.int v4), .val (.int v5), .val (.ref b6), .val (.int v21), .val (.int v23), .val (.int (p_4.toInt8.toInt32)), .val (.ref b24), .val (.int r78), .val (.int v175), .val (.int (1 : Int32))] [(.int r205), (.int (own_hw (v21).toNatClampNeg v23 (p_4.toInt8.toInt32) (p_1.toInt8.toInt32) v3 v4 v5 3))])
    have hc206 : (own_hw (v21).toNatClampNeg v23 (p_4.toInt8.toInt32) (p_1.toInt8.toInt32) v3 v4 v5 3) = r205 := own_t0_23 p_1 p_2 p_3 p_4 v3 v4 v5 v21 v23 v175 r205 hdv3 hdv4 hdv5 hdv21 hdv23 hl hp hdv175 hr_r205
    refine own_go (fun _ k => XS.icmpNo X204.here hx rfl (hb hby at_372) rfl (Jvm.Free.XT.ii_ne_f hc206) k) ?_
    show own_Go _ _ _ _ T204 (mkF m 375 #[.val (.int p_1), .val (.int p_2), .val (.int p_3), .val (.int p_4), .val (.int (p_1.toInt8.toInt32)), .val (.int v3), .val (.int v4), .val (.int v5), .val (.ref b6), .val (.int v21), .val (.int v23), .val (.int (p_4.toInt8.toInt32)), .val (.ref b24), .val (.int r78), .val (.int v175), .val (.int (1 : Int32))] [])
    refine own_go (fun _ k => XS.iconst X204.here hx rfl (hb hby at_375) k) ?_
    show own_Go _ _ _ _ T204 (mkF m 376 #[.val (.int p_1), .val (.int p_2), .val (.int p_3), .val (.int p_4), .val (.int (p_1.toInt8.toInt32)), .val (.int v3), .val (.int v4), .val (.int v5), .val (.ref b6), .val (.int v21), .val (.int v23), .val (.int (p_4.toInt8.toInt32)), .val (.ref b24), .val (.int r78), .val (.int v175), .val (.int (1 : Int32))] [(.int (1 : Int32))])
    refine own_go (fun _ k => XS.goto X204.here hx rfl (pc0 := 376) (pc' := 380) rfl (hb hby at_376) (by decide) (by decide) k) ?_
    show own_Go _ _ _ _ T204 (mkF m 380 #[.val (.int p_1), .val (.int p_2), .val (.int p_3), .val (.int p_4), .val (.int (p_1.toInt8.toInt32)), .val (.int v3), .val (.int v4), .val (.int v5), .val (.ref b6), .val (.int v21), .val (.int v23), .val (.int (p_4.toInt8.toInt32)), .val (.ref b24), .val (.int r78), .val (.int v175), .val (.int (1 : Int32))] [(.int (1 : Int32))])
    refine own_go (fun _ k => XS.istore X204.here hx rfl (hb hby at_380) rfl (l' := #[.val (.int p_1), .val (.int p_2), .val (.int p_3), .val (.int p_4), .val (.int (p_1.toInt8.toInt32)), .val (.int v3), .val (.int v4), .val (.int v5), .val (.ref b6), .val (.int v21), .val (.int v23), .val (.int (p_4.toInt8.toInt32)), .val (.ref b24), .val (.int r78), .val (.int v175), .val (.int (1 : Int32))]) rfl k) ?_
    show own_Go _ _ _ _ T204 (mkF m 382 #[.val (.int p_1), .val (.int p_2), .val (.int p_3), .val (.int p_4), .val (.int (p_1.toInt8.toInt32)), .val (.int v3), .val (.int v4), .val (.int v5), .val (.ref b6), .val (.int v21), .val (.int v23), .val (.int (p_4.toInt8.toInt32)), .val (.ref b24), .val (.int r78), .val (.int v175), .val (.int (1 : Int32))] [])
    refine own_go (fun _ k => XS.iload X204.here hx rfl (hb hby at_382) rfl k) ?_
    show own_Go _ _ _ _ T204 (mkF m 384 #[.val (.int p_1), .val (.int p_2), .val (.int p_3), .val (.int p_4), .val (.int (p_1.toInt8.toInt32)), .val (.int v3), .val (.int v4), .val (.int v5), .val (.ref b6), .val (.int v21), .val (.int v23), .val (.int (p_4.toInt8.toInt32)), .val (.ref b24), .val (.int r78), .val (.int v175), .val (.int (1 : Int32))] [(.int (1 : Int32))])
    have hc207 : ¬ ((1 : Int32) = 0) := by decide
    refine own_go (fun _ k => XS.ifNo X204.here hx rfl (hb hby at_384) rfl (Jvm.Free.XT.i0_eq_f hc207) k) ?_
    show own_Go _ _ _ _ T204 (mkF m 387 #[.val (.int p_1), .val (.int p_2), .val (.int p_3), .val (.int p_4), .val (.int (p_1.toInt8.toInt32)), .val (.int v3), .val (.int v4), .val (.int v5), .val (.ref b6), .val (.int v21), .val (.int v23), .val (.int (p_4.toInt8.toInt32)), .val (.ref b24), .val (.int r78), .val (.int v175), .val (.int (1 : Int32))] [])
    refine own_go (fun _ k => XS.aload X204.here hx rfl (hb hby at_387) rfl rfl k) ?_
    show own_Go _ _ _ _ T204 (mkF m 389 #[.val (.int p_1), .val (.int p_2), .val (.int p_3), .val (.int p_4), .val (.int (p_1.toInt8.toInt32)), .val (.int v3), .val (.int v4), .val (.int v5), .val (.ref b6), .val (.int v21), .val (.int v23), .val (.int (p_4.toInt8.toInt32)), .val (.ref b24), .val (.int r78), .val (.int v175), .val (.int (1 : Int32))] [(.ref b24)])
    refine own_go (fun _ k => XS.iconst X204.here hx rfl (hb hby at_389) k) ?_
    show own_Go _ _ _ _ T204 (mkF m 390 #[.val (.int p_1), .val (.int p_2), .val (.int p_3), .val (.int p_4), .val (.int (p_1.toInt8.toInt32)), .val (.int v3), .val (.int v4), .val (.int v5), .val (.ref b6), .val (.int v21), .val (.int v23), .val (.int (p_4.toInt8.toInt32)), .val (.ref b24), .val (.int r78), .val (.int v175), .val (.int (1 : Int32))] [(.int (4 : Int32)), (.ref b24)])
    obtain ⟨q208, c208, R208, s208, t208⟩ := id f79
    have hin208 : ¬ ((4 : Int32) < 0 ∨ c208.slots.size ≤ ((4 : Int32)).toNatClampNeg) := inb_of s208 ⟨by decide, by decide⟩
    have u208 : c208.slots[((4 : Int32)).toNatClampNeg]? = some (.int (own_hw (v21).toNatClampNeg v23 (p_4.toInt8.toInt32) (p_1.toInt8.toInt32) v3 v4 v5 4)) := own_at (k := 4) t208 s208 hin208 (by decide) (own_hx_hw _ _ _ _ _ _ _ _ _ rfl)
    refine own_go (fun _ k => X204.baloadBytes hx (j := (4 : Int32)) (v := (.int (own_hw (v21).toNatClampNeg v23 (p_4.toInt8.toInt32) (p_1.toInt8.toInt32) v3 v4 v5 4))) (by rw [e204]; exact R208.1) (State.isArrayOf_alike hZ.alike R208.2.1) R208.2.2 hin208 u208 (g := (mkF m 390 #[.val (.int p_1), .val (.int p_2), .val (.int p_3), .val (.int p_4), .val (.int (p_1.toInt8.toInt32)), .val (.int v3), .val (.int v4), .val (.int v5), .val (.ref b6), .val (.int v21), .val (.int v23), .val (.int (p_4.toInt8.toInt32)), .val (.ref b24), .val (.int r78), .val (.int v175), .val (.int (1 : Int32))] [(.int (4 : Int32)), (.ref b24)])) rfl rfl (hb hby at_390) _ k) ?_
    show own_Go _ _ _ _ T204 (mkF m 391 #[.val (.int p_1), .val (.int p_2), .val (.int p_3), .val (.int p_4), .val (.int (p_1.toInt8.toInt32)), .val (.int v3), .val (.int v4), .val (.int v5), .val (.ref b6), .val (.int v21), .val (.int v23), .val (.int (p_4.toInt8.toInt32)), .val (.ref b24), .val (.int r78), .val (.int v175), .val (.int (1 : Int32))] [(.int (own_hw (v21).toNatClampNeg v23 (p_4.toInt8.toInt32) (p_1.toInt8.toInt32) v3 v4 v5 4))])
    refine own_go (fun _ k => XS.iconst X204.here hx rfl (hb hby at_391) k) ?_
    show own_Go _ _ _ _ T204 (mkF m 392 #[.val (.int p_1), .val (.int p_2), .val (.int p_3), .val (.int p_4), .val (.int (p_1.toInt8.toInt32)), .val (.int v3), .val (.int v4), .val (.int v5), .val (.ref b6), .val (.int v21), .val (.int v23), .val (.int (p_4.toInt8.toInt32)), .val (.ref b24), .val (.int r78), .val (.int v175), .val (.int (1 : Int32))] [(.int (4 : Int32)), (.int (own_hw (v21).toNatClampNeg v23 (p_4.toInt8.toInt32) (p_1.toInt8.toInt32) v3 v4 v5 4))])
    refine own_go (fun _ k => XS.iloadN X204.here hx rfl (hb hby at_392) rfl k) ?_
    show own_Go _ _ _ _ T204 (mkF m 393 #[.val (.int p_1), .val (.int p_2), .val (.int p_3), .val (.int p_4), .val (.int (p_1.toInt8.toInt32)), .val (.int v3), .val (.int v4), .val (.int v5), .val (.ref b6), .val (.int v21), .val (.int v23), .val (.int (p_4.toInt8.toInt32)), .val (.ref b24), .val (.int r78), .val (.int v175), .val (.int (1 : Int32))] [(.int p_1), (.int (4 : Int32)), (.int (own_hw (v21).toNatClampNeg v23 (p_4.toInt8.toInt32) (p_1.toInt8.toInt32) v3 v4 v5 4))])
    refine own_go (fun _ k => XS.iload X204.here hx rfl (hb hby at_393) rfl k) ?_
    show own_Go _ _ _ _ T204 (mkF m 395 #[.val (.int p_1), .val (.int p_2), .val (.int p_3), .val (.int p_4), .val (.int (p_1.toInt8.toInt32)), .val (.int v3), .val (.int v4), .val (.int v5), .val (.ref b6), .val (.int v21), .val (.int v23), .val (.int (p_4.toInt8.toInt32)), .val (.ref b24), .val (.int r78), .val (.int v175), .val (.int (1 : Int32))] [(.int v21), (.int p_1), (.int (4 : Int32)), (.int (own_hw (v21).toNatClampNeg v23 (p_4.toInt8.toInt32) (p_1.toInt8.toInt32) v3 v4 v5 4))])
    refine own_go (fun _ k => XS.iload X204.here hx rfl (hb hby at_395) rfl k) ?_
    show own_Go _ _ _ _ T204 (mkF m 397 #[.val (.int p_1), .val (.int p_2), .val (.int p_3), .val (.int p_4), .val (.int (p_1.toInt8.toInt32)), .val (.int v3), .val (.int v4), .val (.int v5), .val (.ref b6), .val (.int v21), .val (.int v23), .val (.int (p_4.toInt8.toInt32)), .val (.ref b24), .val (.int r78), .val (.int v175), .val (.int (1 : Int32))] [(.int v23), (.int v21), (.int p_1), (.int (4 : Int32)), (.int (own_hw (v21).toNatClampNeg v23 (p_4.toInt8.toInt32) (p_1.toInt8.toInt32) v3 v4 v5 4))])
    refine own_go (fun _ k => XS.iload X204.here hx rfl (hb hby at_397) rfl k) ?_
    show own_Go _ _ _ _ T204 (mkF m 399 #[.val (.int p_1), .val (.int p_2), .val (.int p_3), .val (.int p_4), .val (.int (p_1.toInt8.toInt32)), .val (.int v3), .val (.int v4), .val (.int v5), .val (.ref b6), .val (.int v21), .val (.int v23), .val (.int (p_4.toInt8.toInt32)), .val (.ref b24), .val (.int r78), .val (.int v175), .val (.int (1 : Int32))] [(.int (p_4.toInt8.toInt32)), (.int v23), (.int v21), (.int p_1), (.int (4 : Int32)), (.int (own_hw (v21).toNatClampNeg v23 (p_4.toInt8.toInt32) (p_1.toInt8.toInt32) v3 v4 v5 4))])
    obtain ⟨_, _, ⟨T209, L209, k209, n209⟩, -, X209, ⟨Lc209, hQ209, l209, y209, z209⟩, st209⟩ := Jvm.LawKit.callS X204 hx (y := (⟨"com/example/honest_codec/honestcodec/IllFormedSequencePutHexPinLaw", "expectedAt", "(IIIIB)B"⟩ : MethodName)) hown (mvT hZ (hw _ (List.mem_of_getElem? (i := 8) rfl))) (mvT hZ (hw _ (List.mem_of_getElem? (i := 9) rfl))) (mvT hZ (hw _ (List.mem_of_getElem? (i := 10) rfl))) (mvT hZ (hw _ (List.mem_of_getElem? (i := 11) rfl))) (by decide) (backOf (W := 1) (own_rm2 l Z a0 hw [] (4 : Int32) p_1 v21 v23 (p_4.toInt8.toInt32)  T77.heap n0 (by omega) (own_nar_b _)) hZ (hw _ (List.mem_of_getElem? (i := 11) rfl)) (hw _ (List.mem_of_getElem? (i := 10) rfl)) (by decide) (by decide)) (g := (mkF m 399 #[.val (.int p_1), .val (.int p_2), .val (.int p_3), .val (.int p_4), .val (.int (p_1.toInt8.toInt32)), .val (.int v3), .val (.int v4), .val (.int v5), .val (.ref b6), .val (.int v21), .val (.int v23), .val (.int (p_4.toInt8.toInt32)), .val (.ref b24), .val (.int r78), .val (.int v175), .val (.int (1 : Int32))] [(.int (p_4.toInt8.toInt32)), (.int v23), (.int v21), (.int p_1), (.int (4 : Int32)), (.int (own_hw (v21).toNatClampNeg v23 (p_4.toInt8.toInt32) (p_1.toInt8.toInt32) v3 v4 v5 4))])) rfl (by rw [hml]; rfl) (argsL := [(.int (4 : Int32)), (.int p_1), (.int v21), (.int v23), (.int (p_4.toInt8.toInt32))]) (rest := [(.int (own_hw (v21).toNatClampNeg v23 (p_4.toInt8.toInt32) (p_1.toInt8.toInt32) v3 v4 v5 4))]) (lenOf own_pd2 rfl) rfl (by show 2 * 0 + _ ≤ _; exact Nat.le_of_eq rfl) (hb hby at_399) (fun _ _ => ⟨rfl, e204, (by show k204 + _ ≤ _; rw [y204]; decide), (by show n204 + _ ≤ _; rw [z204]; decide)⟩)
    dsimp only [Pt.U, Pt.locs, Pt.cells, Pt.slots] at X209 l209 y209 z209 st209 hQ209
    have y209 : k209 = 2 := own_addeq y209 (congrArg (fun q => q) y204) rfl
    have z209 : n209 = 20 := own_addeq z209 (congrArg (fun q => q) z204) rfl
    obtain ⟨r210, rfl, N209q, hr_r210, e209⟩ := hQ209
    have N209 : Fr n0 L209 := by rw [l209]; exact Fr.app N204 N209q
    refine own_go (fun _ k => st209 _ k) ?_
    show own_Go _ _ _ _ T209 (mkF m 402 #[.val (.int p_1), .val (.int p_2), .val (.int p_3), .val (.int p_4), .val (.int (p_1.toInt8.toInt32)), .val (.int v3), .val (.int v4), .val (.int v5), .val (.ref b6), .val (.int v21), .val (.int v23), .val (.int (p_4.toInt8.toInt32)), .val (.ref b24), .val (.int r78), .val (.int v175), .val (.int (1 : Int32))] [(.int r210), (.int (own_hw (v21).toNatClampNeg v23 (p_4.toInt8.toInt32) (p_1.toInt8.toInt32) v3 v4 v5 4))])
    have hc211 : (own_hw (v21).toNatClampNeg v23 (p_4.toInt8.toInt32) (p_1.toInt8.toInt32) v3 v4 v5 4) = r210 := own_t0_24 p_1 p_2 p_3 p_4 v3 v4 v5 v21 v23 v175 r210 hdv3 hdv4 hdv5 hdv21 hdv23 hl hp hdv175 hr_r210
    refine own_go (fun _ k => XS.icmpNo X209.here hx rfl (hb hby at_402) rfl (Jvm.Free.XT.ii_ne_f hc211) k) ?_
    show own_Go _ _ _ _ T209 (mkF m 405 #[.val (.int p_1), .val (.int p_2), .val (.int p_3), .val (.int p_4), .val (.int (p_1.toInt8.toInt32)), .val (.int v3), .val (.int v4), .val (.int v5), .val (.ref b6), .val (.int v21), .val (.int v23), .val (.int (p_4.toInt8.toInt32)), .val (.ref b24), .val (.int r78), .val (.int v175), .val (.int (1 : Int32))] [])
    refine own_go (fun _ k => XS.iconst X209.here hx rfl (hb hby at_405) k) ?_
    show own_Go _ _ _ _ T209 (mkF m 406 #[.val (.int p_1), .val (.int p_2), .val (.int p_3), .val (.int p_4), .val (.int (p_1.toInt8.toInt32)), .val (.int v3), .val (.int v4), .val (.int v5), .val (.ref b6), .val (.int v21), .val (.int v23), .val (.int (p_4.toInt8.toInt32)), .val (.ref b24), .val (.int r78), .val (.int v175), .val (.int (1 : Int32))] [(.int (1 : Int32))])
    refine own_go (fun _ k => XS.goto X209.here hx rfl (pc0 := 406) (pc' := 410) rfl (hb hby at_406) (by decide) (by decide) k) ?_
    show own_Go _ _ _ _ T209 (mkF m 410 #[.val (.int p_1), .val (.int p_2), .val (.int p_3), .val (.int p_4), .val (.int (p_1.toInt8.toInt32)), .val (.int v3), .val (.int v4), .val (.int v5), .val (.ref b6), .val (.int v21), .val (.int v23), .val (.int (p_4.toInt8.toInt32)), .val (.ref b24), .val (.int r78), .val (.int v175), .val (.int (1 : Int32))] [(.int (1 : Int32))])
    refine own_go (fun _ k => XS.istore X209.here hx rfl (hb hby at_410) rfl (l' := #[.val (.int p_1), .val (.int p_2), .val (.int p_3), .val (.int p_4), .val (.int (p_1.toInt8.toInt32)), .val (.int v3), .val (.int v4), .val (.int v5), .val (.ref b6), .val (.int v21), .val (.int v23), .val (.int (p_4.toInt8.toInt32)), .val (.ref b24), .val (.int r78), .val (.int v175), .val (.int (1 : Int32))]) rfl k) ?_
    show own_Go _ _ _ _ T209 (mkF m 412 #[.val (.int p_1), .val (.int p_2), .val (.int p_3), .val (.int p_4), .val (.int (p_1.toInt8.toInt32)), .val (.int v3), .val (.int v4), .val (.int v5), .val (.ref b6), .val (.int v21), .val (.int v23), .val (.int (p_4.toInt8.toInt32)), .val (.ref b24), .val (.int r78), .val (.int v175), .val (.int (1 : Int32))] [])
    refine own_go (fun _ k => XS.iload X209.here hx rfl (hb hby at_412) rfl k) ?_
    show own_Go _ _ _ _ T209 (mkF m 414 #[.val (.int p_1), .val (.int p_2), .val (.int p_3), .val (.int p_4), .val (.int (p_1.toInt8.toInt32)), .val (.int v3), .val (.int v4), .val (.int v5), .val (.ref b6), .val (.int v21), .val (.int v23), .val (.int (p_4.toInt8.toInt32)), .val (.ref b24), .val (.int r78), .val (.int v175), .val (.int (1 : Int32))] [(.int (1 : Int32))])
    have hc212 : ¬ ((1 : Int32) = 0) := by decide
    refine own_go (fun _ k => XS.ifNo X209.here hx rfl (hb hby at_414) rfl (Jvm.Free.XT.i0_eq_f hc212) k) ?_
    show own_Go _ _ _ _ T209 (mkF m 417 #[.val (.int p_1), .val (.int p_2), .val (.int p_3), .val (.int p_4), .val (.int (p_1.toInt8.toInt32)), .val (.int v3), .val (.int v4), .val (.int v5), .val (.ref b6), .val (.int v21), .val (.int v23), .val (.int (p_4.toInt8.toInt32)), .val (.ref b24), .val (.int r78), .val (.int v175), .val (.int (1 : Int32))] [])
    refine own_go (fun _ k => XS.aload X209.here hx rfl (hb hby at_417) rfl rfl k) ?_
    show own_Go _ _ _ _ T209 (mkF m 419 #[.val (.int p_1), .val (.int p_2), .val (.int p_3), .val (.int p_4), .val (.int (p_1.toInt8.toInt32)), .val (.int v3), .val (.int v4), .val (.int v5), .val (.ref b6), .val (.int v21), .val (.int v23), .val (.int (p_4.toInt8.toInt32)), .val (.ref b24), .val (.int r78), .val (.int v175), .val (.int (1 : Int32))] [(.ref b24)])
    refine own_go (fun _ k => XS.iconst X209.here hx rfl (hb hby at_419) k) ?_
    show own_Go _ _ _ _ T209 (mkF m 420 #[.val (.int p_1), .val (.int p_2), .val (.int p_3), .val (.int p_4), .val (.int (p_1.toInt8.toInt32)), .val (.int v3), .val (.int v4), .val (.int v5), .val (.ref b6), .val (.int v21), .val (.int v23), .val (.int (p_4.toInt8.toInt32)), .val (.ref b24), .val (.int r78), .val (.int v175), .val (.int (1 : Int32))] [(.int (5 : Int32)), (.ref b24)])
    obtain ⟨q213, c213, R213, s213, t213⟩ := id f79
    have hin213 : ¬ ((5 : Int32) < 0 ∨ c213.slots.size ≤ ((5 : Int32)).toNatClampNeg) := inb_of s213 ⟨by decide, by decide⟩
    have u213 : c213.slots[((5 : Int32)).toNatClampNeg]? = some (.int (own_hw (v21).toNatClampNeg v23 (p_4.toInt8.toInt32) (p_1.toInt8.toInt32) v3 v4 v5 5)) := own_at (k := 5) t213 s213 hin213 (by decide) (own_hx_hw _ _ _ _ _ _ _ _ _ rfl)
    refine own_go (fun _ k => X209.baloadBytes hx (j := (5 : Int32)) (v := (.int (own_hw (v21).toNatClampNeg v23 (p_4.toInt8.toInt32) (p_1.toInt8.toInt32) v3 v4 v5 5))) (by rw [e209]; exact R213.1) (State.isArrayOf_alike hZ.alike R213.2.1) R213.2.2 hin213 u213 (g := (mkF m 420 #[.val (.int p_1), .val (.int p_2), .val (.int p_3), .val (.int p_4), .val (.int (p_1.toInt8.toInt32)), .val (.int v3), .val (.int v4), .val (.int v5), .val (.ref b6), .val (.int v21), .val (.int v23), .val (.int (p_4.toInt8.toInt32)), .val (.ref b24), .val (.int r78), .val (.int v175), .val (.int (1 : Int32))] [(.int (5 : Int32)), (.ref b24)])) rfl rfl (hb hby at_420) _ k) ?_
    show own_Go _ _ _ _ T209 (mkF m 421 #[.val (.int p_1), .val (.int p_2), .val (.int p_3), .val (.int p_4), .val (.int (p_1.toInt8.toInt32)), .val (.int v3), .val (.int v4), .val (.int v5), .val (.ref b6), .val (.int v21), .val (.int v23), .val (.int (p_4.toInt8.toInt32)), .val (.ref b24), .val (.int r78), .val (.int v175), .val (.int (1 : Int32))] [(.int (own_hw (v21).toNatClampNeg v23 (p_4.toInt8.toInt32) (p_1.toInt8.toInt32) v3 v4 v5 5))])
    refine own_go (fun _ k => XS.iconst X209.here hx rfl (hb hby at_421) k) ?_
    show own_Go _ _ _ _ T209 (mkF m 422 #[.val (.int p_1), .val (.int p_2), .val (.int p_3), .val (.int p_4), .val (.int (p_1.toInt8.toInt32)), .val (.int v3), .val (.int v4), .val (.int v5), .val (.ref b6), .val (.int v21), .val (.int v23), .val (.int (p_4.toInt8.toInt32)), .val (.ref b24), .val (.int r78), .val (.int v175), .val (.int (1 : Int32))] [(.int (5 : Int32)), (.int (own_hw (v21).toNatClampNeg v23 (p_4.toInt8.toInt32) (p_1.toInt8.toInt32) v3 v4 v5 5))])
    refine own_go (fun _ k => XS.iloadN X209.here hx rfl (hb hby at_422) rfl k) ?_
    show own_Go _ _ _ _ T209 (mkF m 423 #[.val (.int p_1), .val (.int p_2), .val (.int p_3), .val (.int p_4), .val (.int (p_1.toInt8.toInt32)), .val (.int v3), .val (.int v4), .val (.int v5), .val (.ref b6), .val (.int v21), .val (.int v23), .val (.int (p_4.toInt8.toInt32)), .val (.ref b24), .val (.int r78), .val (.int v175), .val (.int (1 : Int32))] [(.int p_1), (.int (5 : Int32)), (.int (own_hw (v21).toNatClampNeg v23 (p_4.toInt8.toInt32) (p_1.toInt8.toInt32) v3 v4 v5 5))])
    refine own_go (fun _ k => XS.iload X209.here hx rfl (hb hby at_423) rfl k) ?_
    show own_Go _ _ _ _ T209 (mkF m 425 #[.val (.int p_1), .val (.int p_2), .val (.int p_3), .val (.int p_4), .val (.int (p_1.toInt8.toInt32)), .val (.int v3), .val (.int v4), .val (.int v5), .val (.ref b6), .val (.int v21), .val (.int v23), .val (.int (p_4.toInt8.toInt32)), .val (.ref b24), .val (.int r78), .val (.int v175), .val (.int (1 : Int32))] [(.int v21), (.int p_1), (.int (5 : Int32)), (.int (own_hw (v21).toNatClampNeg v23 (p_4.toInt8.toInt32) (p_1.toInt8.toInt32) v3 v4 v5 5))])
    refine own_go (fun _ k => XS.iload X209.here hx rfl (hb hby at_425) rfl k) ?_
    show own_Go _ _ _ _ T209 (mkF m 427 #[.val (.int p_1), .val (.int p_2), .val (.int p_3), .val (.int p_4), .val (.int (p_1.toInt8.toInt32)), .val (.int v3), .val (.int v4), .val (.int v5), .val (.ref b6), .val (.int v21), .val (.int v23), .val (.int (p_4.toInt8.toInt32)), .val (.ref b24), .val (.int r78), .val (.int v175), .val (.int (1 : Int32))] [(.int v23), (.int v21), (.int p_1), (.int (5 : Int32)), (.int (own_hw (v21).toNatClampNeg v23 (p_4.toInt8.toInt32) (p_1.toInt8.toInt32) v3 v4 v5 5))])
    refine own_go (fun _ k => XS.iload X209.here hx rfl (hb hby at_427) rfl k) ?_
    show own_Go _ _ _ _ T209 (mkF m 429 #[.val (.int p_1), .val (.int p_2), .val (.int p_3), .val (.int p_4), .val (.int (p_1.toInt8.toInt32)), .val (.int v3), .val (.int v4), .val (.int v5), .val (.ref b6), .val (.int v21), .val (.int v23), .val (.int (p_4.toInt8.toInt32)), .val (.ref b24), .val (.int r78), .val (.int v175), .val (.int (1 : Int32))] [(.int (p_4.toInt8.toInt32)), (.int v23), (.int v21), (.int p_1), (.int (5 : Int32)), (.int (own_hw (v21).toNatClampNeg v23 (p_4.toInt8.toInt32) (p_1.toInt8.toInt32) v3 v4 v5 5))])
    obtain ⟨_, _, ⟨T214, L214, k214, n214⟩, -, X214, ⟨Lc214, hQ214, l214, y214, z214⟩, st214⟩ := Jvm.LawKit.callS X209 hx (y := (⟨"com/example/honest_codec/honestcodec/IllFormedSequencePutHexPinLaw", "expectedAt", "(IIIIB)B"⟩ : MethodName)) hown (mvT hZ (hw _ (List.mem_of_getElem? (i := 8) rfl))) (mvT hZ (hw _ (List.mem_of_getElem? (i := 9) rfl))) (mvT hZ (hw _ (List.mem_of_getElem? (i := 10) rfl))) (mvT hZ (hw _ (List.mem_of_getElem? (i := 11) rfl))) (by decide) (backOf (W := 1) (own_rm2 l Z a0 hw [] (5 : Int32) p_1 v21 v23 (p_4.toInt8.toInt32)  T77.heap n0 (by omega) (own_nar_b _)) hZ (hw _ (List.mem_of_getElem? (i := 11) rfl)) (hw _ (List.mem_of_getElem? (i := 10) rfl)) (by decide) (by decide)) (g := (mkF m 429 #[.val (.int p_1), .val (.int p_2), .val (.int p_3), .val (.int p_4), .val (.int (p_1.toInt8.toInt32)), .val (.int v3), .val (.int v4), .val (.int v5), .val (.ref b6), .val (.int v21), .val (.int v23), .val (.int (p_4.toInt8.toInt32)), .val (.ref b24), .val (.int r78), .val (.int v175), .val (.int (1 : Int32))] [(.int (p_4.toInt8.toInt32)), (.int v23), (.int v21), (.int p_1), (.int (5 : Int32)), (.int (own_hw (v21).toNatClampNeg v23 (p_4.toInt8.toInt32) (p_1.toInt8.toInt32) v3 v4 v5 5))])) rfl (by rw [hml]; rfl) (argsL := [(.int (5 : Int32)), (.int p_1), (.int v21), (.int v23), (.int (p_4.toInt8.toInt32))]) (rest := [(.int (own_hw (v21).toNatClampNeg v23 (p_4.toInt8.toInt32) (p_1.toInt8.toInt32) v3 v4 v5 5))]) (lenOf own_pd2 rfl) rfl (by show 2 * 0 + _ ≤ _; exact Nat.le_of_eq rfl) (hb hby at_429) (fun _ _ => ⟨rfl, e209, (by show k209 + _ ≤ _; rw [y209]; decide), (by show n209 + _ ≤ _; rw [z209]; decide)⟩)
    dsimp only [Pt.U, Pt.locs, Pt.cells, Pt.slots] at X214 l214 y214 z214 st214 hQ214
    have y214 : k214 = 2 := own_addeq y214 (congrArg (fun q => q) y209) rfl
    have z214 : n214 = 20 := own_addeq z214 (congrArg (fun q => q) z209) rfl
    obtain ⟨r215, rfl, N214q, hr_r215, e214⟩ := hQ214
    have N214 : Fr n0 L214 := by rw [l214]; exact Fr.app N209 N214q
    refine own_go (fun _ k => st214 _ k) ?_
    show own_Go _ _ _ _ T214 (mkF m 432 #[.val (.int p_1), .val (.int p_2), .val (.int p_3), .val (.int p_4), .val (.int (p_1.toInt8.toInt32)), .val (.int v3), .val (.int v4), .val (.int v5), .val (.ref b6), .val (.int v21), .val (.int v23), .val (.int (p_4.toInt8.toInt32)), .val (.ref b24), .val (.int r78), .val (.int v175), .val (.int (1 : Int32))] [(.int r215), (.int (own_hw (v21).toNatClampNeg v23 (p_4.toInt8.toInt32) (p_1.toInt8.toInt32) v3 v4 v5 5))])
    have hc216 : (own_hw (v21).toNatClampNeg v23 (p_4.toInt8.toInt32) (p_1.toInt8.toInt32) v3 v4 v5 5) = r215 := own_t0_25 p_1 p_2 p_3 p_4 v3 v4 v5 v21 v23 v175 r215 hdv3 hdv4 hdv5 hdv21 hdv23 hl hp hdv175 hr_r215
    refine own_go (fun _ k => XS.icmpNo X214.here hx rfl (hb hby at_432) rfl (Jvm.Free.XT.ii_ne_f hc216) k) ?_
    show own_Go _ _ _ _ T214 (mkF m 435 #[.val (.int p_1), .val (.int p_2), .val (.int p_3), .val (.int p_4), .val (.int (p_1.toInt8.toInt32)), .val (.int v3), .val (.int v4), .val (.int v5), .val (.ref b6), .val (.int v21), .val (.int v23), .val (.int (p_4.toInt8.toInt32)), .val (.ref b24), .val (.int r78), .val (.int v175), .val (.int (1 : Int32))] [])
    refine own_go (fun _ k => XS.iconst X214.here hx rfl (hb hby at_435) k) ?_
    show own_Go _ _ _ _ T214 (mkF m 436 #[.val (.int p_1), .val (.int p_2), .val (.int p_3), .val (.int p_4), .val (.int (p_1.toInt8.toInt32)), .val (.int v3), .val (.int v4), .val (.int v5), .val (.ref b6), .val (.int v21), .val (.int v23), .val (.int (p_4.toInt8.toInt32)), .val (.ref b24), .val (.int r78), .val (.int v175), .val (.int (1 : Int32))] [(.int (1 : Int32))])
    refine own_go (fun _ k => XS.goto X214.here hx rfl (pc0 := 436) (pc' := 440) rfl (hb hby at_436) (by decide) (by decide) k) ?_
    show own_Go _ _ _ _ T214 (mkF m 440 #[.val (.int p_1), .val (.int p_2), .val (.int p_3), .val (.int p_4), .val (.int (p_1.toInt8.toInt32)), .val (.int v3), .val (.int v4), .val (.int v5), .val (.ref b6), .val (.int v21), .val (.int v23), .val (.int (p_4.toInt8.toInt32)), .val (.ref b24), .val (.int r78), .val (.int v175), .val (.int (1 : Int32))] [(.int (1 : Int32))])
    refine own_go (fun _ k => XS.istore X214.here hx rfl (hb hby at_440) rfl (l' := #[.val (.int p_1), .val (.int p_2), .val (.int p_3), .val (.int p_4), .val (.int (p_1.toInt8.toInt32)), .val (.int v3), .val (.int v4), .val (.int v5), .val (.ref b6), .val (.int v21), .val (.int v23), .val (.int (p_4.toInt8.toInt32)), .val (.ref b24), .val (.int r78), .val (.int v175), .val (.int (1 : Int32))]) rfl k) ?_
    show own_Go _ _ _ _ T214 (mkF m 442 #[.val (.int p_1), .val (.int p_2), .val (.int p_3), .val (.int p_4), .val (.int (p_1.toInt8.toInt32)), .val (.int v3), .val (.int v4), .val (.int v5), .val (.ref b6), .val (.int v21), .val (.int v23), .val (.int (p_4.toInt8.toInt32)), .val (.ref b24), .val (.int r78), .val (.int v175), .val (.int (1 : Int32))] [])
    refine own_go (fun _ k => XS.iload X214.here hx rfl (hb hby at_442) rfl k) ?_
    show own_Go _ _ _ _ T214 (mkF m 444 #[.val (.int p_1), .val (.int p_2), .val (.int p_3), .val (.int p_4), .val (.int (p_1.toInt8.toInt32)), .val (.int v3), .val (.int v4), .val (.int v5), .val (.ref b6), .val (.int v21), .val (.int v23), .val (.int (p_4.toInt8.toInt32)), .val (.ref b24), .val (.int r78), .val (.int v175), .val (.int (1 : Int32))] [(.int (1 : Int32))])
    have hc217 : ¬ ((1 : Int32) = 0) := by decide
    refine own_go (fun _ k => XS.ifNo X214.here hx rfl (hb hby at_444) rfl (Jvm.Free.XT.i0_eq_f hc217) k) ?_
    show own_Go _ _ _ _ T214 (mkF m 447 #[.val (.int p_1), .val (.int p_2), .val (.int p_3), .val (.int p_4), .val (.int (p_1.toInt8.toInt32)), .val (.int v3), .val (.int v4), .val (.int v5), .val (.ref b6), .val (.int v21), .val (.int v23), .val (.int (p_4.toInt8.toInt32)), .val (.ref b24), .val (.int r78), .val (.int v175), .val (.int (1 : Int32))] [])
    refine own_go (fun _ k => XS.aload X214.here hx rfl (hb hby at_447) rfl rfl k) ?_
    show own_Go _ _ _ _ T214 (mkF m 449 #[.val (.int p_1), .val (.int p_2), .val (.int p_3), .val (.int p_4), .val (.int (p_1.toInt8.toInt32)), .val (.int v3), .val (.int v4), .val (.int v5), .val (.ref b6), .val (.int v21), .val (.int v23), .val (.int (p_4.toInt8.toInt32)), .val (.ref b24), .val (.int r78), .val (.int v175), .val (.int (1 : Int32))] [(.ref b24)])
    refine own_go (fun _ k => XS.bipush X214.here hx rfl (hb hby at_449) k) ?_
    show own_Go _ _ _ _ T214 (mkF m 451 #[.val (.int p_1), .val (.int p_2), .val (.int p_3), .val (.int p_4), .val (.int (p_1.toInt8.toInt32)), .val (.int v3), .val (.int v4), .val (.int v5), .val (.ref b6), .val (.int v21), .val (.int v23), .val (.int (p_4.toInt8.toInt32)), .val (.ref b24), .val (.int r78), .val (.int v175), .val (.int (1 : Int32))] [(.int (6 : Int32)), (.ref b24)])
    obtain ⟨q218, c218, R218, s218, t218⟩ := id f79
    have hin218 : ¬ ((6 : Int32) < 0 ∨ c218.slots.size ≤ ((6 : Int32)).toNatClampNeg) := inb_of s218 ⟨by decide, by decide⟩
    have u218 : c218.slots[((6 : Int32)).toNatClampNeg]? = some (.int (own_hw (v21).toNatClampNeg v23 (p_4.toInt8.toInt32) (p_1.toInt8.toInt32) v3 v4 v5 6)) := own_at (k := 6) t218 s218 hin218 (by decide) (own_hx_hw _ _ _ _ _ _ _ _ _ rfl)
    refine own_go (fun _ k => X214.baloadBytes hx (j := (6 : Int32)) (v := (.int (own_hw (v21).toNatClampNeg v23 (p_4.toInt8.toInt32) (p_1.toInt8.toInt32) v3 v4 v5 6))) (by rw [e214]; exact R218.1) (State.isArrayOf_alike hZ.alike R218.2.1) R218.2.2 hin218 u218 (g := (mkF m 451 #[.val (.int p_1), .val (.int p_2), .val (.int p_3), .val (.int p_4), .val (.int (p_1.toInt8.toInt32)), .val (.int v3), .val (.int v4), .val (.int v5), .val (.ref b6), .val (.int v21), .val (.int v23), .val (.int (p_4.toInt8.toInt32)), .val (.ref b24), .val (.int r78), .val (.int v175), .val (.int (1 : Int32))] [(.int (6 : Int32)), (.ref b24)])) rfl rfl (hb hby at_451) _ k) ?_
    show own_Go _ _ _ _ T214 (mkF m 452 #[.val (.int p_1), .val (.int p_2), .val (.int p_3), .val (.int p_4), .val (.int (p_1.toInt8.toInt32)), .val (.int v3), .val (.int v4), .val (.int v5), .val (.ref b6), .val (.int v21), .val (.int v23), .val (.int (p_4.toInt8.toInt32)), .val (.ref b24), .val (.int r78), .val (.int v175), .val (.int (1 : Int32))] [(.int (own_hw (v21).toNatClampNeg v23 (p_4.toInt8.toInt32) (p_1.toInt8.toInt32) v3 v4 v5 6))])
    refine own_go (fun _ k => XS.bipush X214.here hx rfl (hb hby at_452) k) ?_
    show own_Go _ _ _ _ T214 (mkF m 454 #[.val (.int p_1), .val (.int p_2), .val (.int p_3), .val (.int p_4), .val (.int (p_1.toInt8.toInt32)), .val (.int v3), .val (.int v4), .val (.int v5), .val (.ref b6), .val (.int v21), .val (.int v23), .val (.int (p_4.toInt8.toInt32)), .val (.ref b24), .val (.int r78), .val (.int v175), .val (.int (1 : Int32))] [(.int (6 : Int32)), (.int (own_hw (v21).toNatClampNeg v23 (p_4.toInt8.toInt32) (p_1.toInt8.toInt32) v3 v4 v5 6))])
    refine own_go (fun _ k => XS.iloadN X214.here hx rfl (hb hby at_454) rfl k) ?_
    show own_Go _ _ _ _ T214 (mkF m 455 #[.val (.int p_1), .val (.int p_2), .val (.int p_3), .val (.int p_4), .val (.int (p_1.toInt8.toInt32)), .val (.int v3), .val (.int v4), .val (.int v5), .val (.ref b6), .val (.int v21), .val (.int v23), .val (.int (p_4.toInt8.toInt32)), .val (.ref b24), .val (.int r78), .val (.int v175), .val (.int (1 : Int32))] [(.int p_1), (.int (6 : Int32)), (.int (own_hw (v21).toNatClampNeg v23 (p_4.toInt8.toInt32) (p_1.toInt8.toInt32) v3 v4 v5 6))])
    refine own_go (fun _ k => XS.iload X214.here hx rfl (hb hby at_455) rfl k) ?_
    show own_Go _ _ _ _ T214 (mkF m 457 #[.val (.int p_1), .val (.int p_2), .val (.int p_3), .val (.int p_4), .val (.int (p_1.toInt8.toInt32)), .val (.int v3), .val (.int v4), .val (.int v5), .val (.ref b6), .val (.int v21), .val (.int v23), .val (.int (p_4.toInt8.toInt32)), .val (.ref b24), .val (.int r78), .val (.int v175), .val (.int (1 : Int32))] [(.int v21), (.int p_1), (.int (6 : Int32)), (.int (own_hw (v21).toNatClampNeg v23 (p_4.toInt8.toInt32) (p_1.toInt8.toInt32) v3 v4 v5 6))])
    refine own_go (fun _ k => XS.iload X214.here hx rfl (hb hby at_457) rfl k) ?_
    show own_Go _ _ _ _ T214 (mkF m 459 #[.val (.int p_1), .val (.int p_2), .val (.int p_3), .val (.int p_4), .val (.int (p_1.toInt8.toInt32)), .val (.int v3), .val (.int v4), .val (.int v5), .val (.ref b6), .val (.int v21), .val (.int v23), .val (.int (p_4.toInt8.toInt32)), .val (.ref b24), .val (.int r78), .val (.int v175), .val (.int (1 : Int32))] [(.int v23), (.int v21), (.int p_1), (.int (6 : Int32)), (.int (own_hw (v21).toNatClampNeg v23 (p_4.toInt8.toInt32) (p_1.toInt8.toInt32) v3 v4 v5 6))])
    refine own_go (fun _ k => XS.iload X214.here hx rfl (hb hby at_459) rfl k) ?_
    show own_Go _ _ _ _ T214 (mkF m 461 #[.val (.int p_1), .val (.int p_2), .val (.int p_3), .val (.int p_4), .val (.int (p_1.toInt8.toInt32)), .val (.int v3), .val (.int v4), .val (.int v5), .val (.ref b6), .val (.int v21), .val (.int v23), .val (.int (p_4.toInt8.toInt32)), .val (.ref b24), .val (.int r78), .val (.int v175), .val (.int (1 : Int32))] [(.int (p_4.toInt8.toInt32)), (.int v23), (.int v21), (.int p_1), (.int (6 : Int32)), (.int (own_hw (v21).toNatClampNeg v23 (p_4.toInt8.toInt32) (p_1.toInt8.toInt32) v3 v4 v5 6))])
    obtain ⟨_, _, ⟨T219, L219, k219, n219⟩, -, X219, ⟨Lc219, hQ219, l219, y219, z219⟩, st219⟩ := Jvm.LawKit.callS X214 hx (y := (⟨"com/example/honest_codec/honestcodec/IllFormedSequencePutHexPinLaw", "expectedAt", "(IIIIB)B"⟩ : MethodName)) hown (mvT hZ (hw _ (List.mem_of_getElem? (i := 8) rfl))) (mvT hZ (hw _ (List.mem_of_getElem? (i := 9) rfl))) (mvT hZ (hw _ (List.mem_of_getElem? (i := 10) rfl))) (mvT hZ (hw _ (List.mem_of_getElem? (i := 11) rfl))) (by decide) (backOf (W := 1) (own_rm2 l Z a0 hw [] (6 : Int32) p_1 v21 v23 (p_4.toInt8.toInt32)  T77.heap n0 (by omega) (own_nar_b _)) hZ (hw _ (List.mem_of_getElem? (i := 11) rfl)) (hw _ (List.mem_of_getElem? (i := 10) rfl)) (by decide) (by decide)) (g := (mkF m 461 #[.val (.int p_1), .val (.int p_2), .val (.int p_3), .val (.int p_4), .val (.int (p_1.toInt8.toInt32)), .val (.int v3), .val (.int v4), .val (.int v5), .val (.ref b6), .val (.int v21), .val (.int v23), .val (.int (p_4.toInt8.toInt32)), .val (.ref b24), .val (.int r78), .val (.int v175), .val (.int (1 : Int32))] [(.int (p_4.toInt8.toInt32)), (.int v23), (.int v21), (.int p_1), (.int (6 : Int32)), (.int (own_hw (v21).toNatClampNeg v23 (p_4.toInt8.toInt32) (p_1.toInt8.toInt32) v3 v4 v5 6))])) rfl (by rw [hml]; rfl) (argsL := [(.int (6 : Int32)), (.int p_1), (.int v21), (.int v23), (.int (p_4.toInt8.toInt32))]) (rest := [(.int (own_hw (v21).toNatClampNeg v23 (p_4.toInt8.toInt32) (p_1.toInt8.toInt32) v3 v4 v5 6))]) (lenOf own_pd2 rfl) rfl (by show 2 * 0 + _ ≤ _; exact Nat.le_of_eq rfl) (hb hby at_461) (fun _ _ => ⟨rfl, e214, (by show k214 + _ ≤ _; rw [y214]; decide), (by show n214 + _ ≤ _; rw [z214]; decide)⟩)
    dsimp only [Pt.U, Pt.locs, Pt.cells, Pt.slots] at X219 l219 y219 z219 st219 hQ219
    have y219 : k219 = 2 := own_addeq y219 (congrArg (fun q => q) y214) rfl
    have z219 : n219 = 20 := own_addeq z219 (congrArg (fun q => q) z214) rfl
    obtain ⟨r220, rfl, N219q, hr_r220, e219⟩ := hQ219
    have N219 : Fr n0 L219 := by rw [l219]; exact Fr.app N214 N219q
    refine own_go (fun _ k => st219 _ k) ?_
    show own_Go _ _ _ _ T219 (mkF m 464 #[.val (.int p_1), .val (.int p_2), .val (.int p_3), .val (.int p_4), .val (.int (p_1.toInt8.toInt32)), .val (.int v3), .val (.int v4), .val (.int v5), .val (.ref b6), .val (.int v21), .val (.int v23), .val (.int (p_4.toInt8.toInt32)), .val (.ref b24), .val (.int r78), .val (.int v175), .val (.int (1 : Int32))] [(.int r220), (.int (own_hw (v21).toNatClampNeg v23 (p_4.toInt8.toInt32) (p_1.toInt8.toInt32) v3 v4 v5 6))])
    have hc221 : (own_hw (v21).toNatClampNeg v23 (p_4.toInt8.toInt32) (p_1.toInt8.toInt32) v3 v4 v5 6) = r220 := own_t0_26 p_1 p_2 p_3 p_4 v3 v4 v5 v21 v23 v175 r220 hdv3 hdv4 hdv5 hdv21 hdv23 hl hp hdv175 hr_r220
    refine own_go (fun _ k => XS.icmpNo X219.here hx rfl (hb hby at_464) rfl (Jvm.Free.XT.ii_ne_f hc221) k) ?_
    show own_Go _ _ _ _ T219 (mkF m 467 #[.val (.int p_1), .val (.int p_2), .val (.int p_3), .val (.int p_4), .val (.int (p_1.toInt8.toInt32)), .val (.int v3), .val (.int v4), .val (.int v5), .val (.ref b6), .val (.int v21), .val (.int v23), .val (.int (p_4.toInt8.toInt32)), .val (.ref b24), .val (.int r78), .val (.int v175), .val (.int (1 : Int32))] [])
    refine own_go (fun _ k => XS.iconst X219.here hx rfl (hb hby at_467) k) ?_
    show own_Go _ _ _ _ T219 (mkF m 468 #[.val (.int p_1), .val (.int p_2), .val (.int p_3), .val (.int p_4), .val (.int (p_1.toInt8.toInt32)), .val (.int v3), .val (.int v4), .val (.int v5), .val (.ref b6), .val (.int v21), .val (.int v23), .val (.int (p_4.toInt8.toInt32)), .val (.ref b24), .val (.int r78), .val (.int v175), .val (.int (1 : Int32))] [(.int (1 : Int32))])
    refine own_go (fun _ k => XS.goto X219.here hx rfl (pc0 := 468) (pc' := 472) rfl (hb hby at_468) (by decide) (by decide) k) ?_
    show own_Go _ _ _ _ T219 (mkF m 472 #[.val (.int p_1), .val (.int p_2), .val (.int p_3), .val (.int p_4), .val (.int (p_1.toInt8.toInt32)), .val (.int v3), .val (.int v4), .val (.int v5), .val (.ref b6), .val (.int v21), .val (.int v23), .val (.int (p_4.toInt8.toInt32)), .val (.ref b24), .val (.int r78), .val (.int v175), .val (.int (1 : Int32))] [(.int (1 : Int32))])
    refine own_go (fun _ k => XS.istore X219.here hx rfl (hb hby at_472) rfl (l' := #[.val (.int p_1), .val (.int p_2), .val (.int p_3), .val (.int p_4), .val (.int (p_1.toInt8.toInt32)), .val (.int v3), .val (.int v4), .val (.int v5), .val (.ref b6), .val (.int v21), .val (.int v23), .val (.int (p_4.toInt8.toInt32)), .val (.ref b24), .val (.int r78), .val (.int v175), .val (.int (1 : Int32))]) rfl k) ?_
    show own_Go _ _ _ _ T219 (mkF m 474 #[.val (.int p_1), .val (.int p_2), .val (.int p_3), .val (.int p_4), .val (.int (p_1.toInt8.toInt32)), .val (.int v3), .val (.int v4), .val (.int v5), .val (.ref b6), .val (.int v21), .val (.int v23), .val (.int (p_4.toInt8.toInt32)), .val (.ref b24), .val (.int r78), .val (.int v175), .val (.int (1 : Int32))] [])
    refine own_go (fun _ k => XS.iload X219.here hx rfl (hb hby at_474) rfl k) ?_
    show own_Go _ _ _ _ T219 (mkF m 476 #[.val (.int p_1), .val (.int p_2), .val (.int p_3), .val (.int p_4), .val (.int (p_1.toInt8.toInt32)), .val (.int v3), .val (.int v4), .val (.int v5), .val (.ref b6), .val (.int v21), .val (.int v23), .val (.int (p_4.toInt8.toInt32)), .val (.ref b24), .val (.int r78), .val (.int v175), .val (.int (1 : Int32))] [(.int (1 : Int32))])
    have hc222 : ¬ ((1 : Int32) = 0) := by decide
    refine own_go (fun _ k => XS.ifNo X219.here hx rfl (hb hby at_476) rfl (Jvm.Free.XT.i0_eq_f hc222) k) ?_
    show own_Go _ _ _ _ T219 (mkF m 479 #[.val (.int p_1), .val (.int p_2), .val (.int p_3), .val (.int p_4), .val (.int (p_1.toInt8.toInt32)), .val (.int v3), .val (.int v4), .val (.int v5), .val (.ref b6), .val (.int v21), .val (.int v23), .val (.int (p_4.toInt8.toInt32)), .val (.ref b24), .val (.int r78), .val (.int v175), .val (.int (1 : Int32))] [])
    refine own_go (fun _ k => XS.aload X219.here hx rfl (hb hby at_479) rfl rfl k) ?_
    show own_Go _ _ _ _ T219 (mkF m 481 #[.val (.int p_1), .val (.int p_2), .val (.int p_3), .val (.int p_4), .val (.int (p_1.toInt8.toInt32)), .val (.int v3), .val (.int v4), .val (.int v5), .val (.ref b6), .val (.int v21), .val (.int v23), .val (.int (p_4.toInt8.toInt32)), .val (.ref b24), .val (.int r78), .val (.int v175), .val (.int (1 : Int32))] [(.ref b24)])
    refine own_go (fun _ k => XS.bipush X219.here hx rfl (hb hby at_481) k) ?_
    show own_Go _ _ _ _ T219 (mkF m 483 #[.val (.int p_1), .val (.int p_2), .val (.int p_3), .val (.int p_4), .val (.int (p_1.toInt8.toInt32)), .val (.int v3), .val (.int v4), .val (.int v5), .val (.ref b6), .val (.int v21), .val (.int v23), .val (.int (p_4.toInt8.toInt32)), .val (.ref b24), .val (.int r78), .val (.int v175), .val (.int (1 : Int32))] [(.int (7 : Int32)), (.ref b24)])
    obtain ⟨q223, c223, R223, s223, t223⟩ := id f79
    have hin223 : ¬ ((7 : Int32) < 0 ∨ c223.slots.size ≤ ((7 : Int32)).toNatClampNeg) := inb_of s223 ⟨by decide, by decide⟩
    have u223 : c223.slots[((7 : Int32)).toNatClampNeg]? = some (.int (own_hw (v21).toNatClampNeg v23 (p_4.toInt8.toInt32) (p_1.toInt8.toInt32) v3 v4 v5 7)) := own_at (k := 7) t223 s223 hin223 (by decide) (own_hx_hw _ _ _ _ _ _ _ _ _ rfl)
    refine own_go (fun _ k => X219.baloadBytes hx (j := (7 : Int32)) (v := (.int (own_hw (v21).toNatClampNeg v23 (p_4.toInt8.toInt32) (p_1.toInt8.toInt32) v3 v4 v5 7))) (by rw [e219]; exact R223.1) (State.isArrayOf_alike hZ.alike R223.2.1) R223.2.2 hin223 u223 (g := (mkF m 483 #[.val (.int p_1), .val (.int p_2), .val (.int p_3), .val (.int p_4), .val (.int (p_1.toInt8.toInt32)), .val (.int v3), .val (.int v4), .val (.int v5), .val (.ref b6), .val (.int v21), .val (.int v23), .val (.int (p_4.toInt8.toInt32)), .val (.ref b24), .val (.int r78), .val (.int v175), .val (.int (1 : Int32))] [(.int (7 : Int32)), (.ref b24)])) rfl rfl (hb hby at_483) _ k) ?_
    show own_Go _ _ _ _ T219 (mkF m 484 #[.val (.int p_1), .val (.int p_2), .val (.int p_3), .val (.int p_4), .val (.int (p_1.toInt8.toInt32)), .val (.int v3), .val (.int v4), .val (.int v5), .val (.ref b6), .val (.int v21), .val (.int v23), .val (.int (p_4.toInt8.toInt32)), .val (.ref b24), .val (.int r78), .val (.int v175), .val (.int (1 : Int32))] [(.int (own_hw (v21).toNatClampNeg v23 (p_4.toInt8.toInt32) (p_1.toInt8.toInt32) v3 v4 v5 7))])
    refine own_go (fun _ k => XS.bipush X219.here hx rfl (hb hby at_484) k) ?_
    show own_Go _ _ _ _ T219 (mkF m 486 #[.val (.int p_1), .val (.int p_2), .val (.int p_3), .val (.int p_4), .val (.int (p_1.toInt8.toInt32)), .val (.int v3), .val (.int v4), .val (.int v5), .val (.ref b6), .val (.int v21), .val (.int v23), .val (.int (p_4.toInt8.toInt32)), .val (.ref b24), .val (.int r78), .val (.int v175), .val (.int (1 : Int32))] [(.int (7 : Int32)), (.int (own_hw (v21).toNatClampNeg v23 (p_4.toInt8.toInt32) (p_1.toInt8.toInt32) v3 v4 v5 7))])
    refine own_go (fun _ k => XS.iloadN X219.here hx rfl (hb hby at_486) rfl k) ?_
    show own_Go _ _ _ _ T219 (mkF m 487 #[.val (.int p_1), .val (.int p_2), .val (.int p_3), .val (.int p_4), .val (.int (p_1.toInt8.toInt32)), .val (.int v3), .val (.int v4), .val (.int v5), .val (.ref b6), .val (.int v21), .val (.int v23), .val (.int (p_4.toInt8.toInt32)), .val (.ref b24), .val (.int r78), .val (.int v175), .val (.int (1 : Int32))] [(.int p_1), (.int (7 : Int32)), (.int (own_hw (v21).toNatClampNeg v23 (p_4.toInt8.toInt32) (p_1.toInt8.toInt32) v3 v4 v5 7))])
    refine own_go (fun _ k => XS.iload X219.here hx rfl (hb hby at_487) rfl k) ?_
    show own_Go _ _ _ _ T219 (mkF m 489 #[.val (.int p_1), .val (.int p_2), .val (.int p_3), .val (.int p_4), .val (.int (p_1.toInt8.toInt32)), .val (.int v3), .val (.int v4), .val (.int v5), .val (.ref b6), .val (.int v21), .val (.int v23), .val (.int (p_4.toInt8.toInt32)), .val (.ref b24), .val (.int r78), .val (.int v175), .val (.int (1 : Int32))] [(.int v21), (.int p_1), (.int (7 : Int32)), (.int (own_hw (v21).toNatClampNeg v23 (p_4.toInt8.toInt32) (p_1.toInt8.toInt32) v3 v4 v5 7))])
    refine own_go (fun _ k => XS.iload X219.here hx rfl (hb hby at_489) rfl k) ?_
    show own_Go _ _ _ _ T219 (mkF m 491 #[.val (.int p_1), .val (.int p_2), .val (.int p_3), .val (.int p_4), .val (.int (p_1.toInt8.toInt32)), .val (.int v3), .val (.int v4), .val (.int v5), .val (.ref b6), .val (.int v21), .val (.int v23), .val (.int (p_4.toInt8.toInt32)), .val (.ref b24), .val (.int r78), .val (.int v175), .val (.int (1 : Int32))] [(.int v23), (.int v21), (.int p_1), (.int (7 : Int32)), (.int (own_hw (v21).toNatClampNeg v23 (p_4.toInt8.toInt32) (p_1.toInt8.toInt32) v3 v4 v5 7))])
    refine own_go (fun _ k => XS.iload X219.here hx rfl (hb hby at_491) rfl k) ?_
    show own_Go _ _ _ _ T219 (mkF m 493 #[.val (.int p_1), .val (.int p_2), .val (.int p_3), .val (.int p_4), .val (.int (p_1.toInt8.toInt32)), .val (.int v3), .val (.int v4), .val (.int v5), .val (.ref b6), .val (.int v21), .val (.int v23), .val (.int (p_4.toInt8.toInt32)), .val (.ref b24), .val (.int r78), .val (.int v175), .val (.int (1 : Int32))] [(.int (p_4.toInt8.toInt32)), (.int v23), (.int v21), (.int p_1), (.int (7 : Int32)), (.int (own_hw (v21).toNatClampNeg v23 (p_4.toInt8.toInt32) (p_1.toInt8.toInt32) v3 v4 v5 7))])
    obtain ⟨_, _, ⟨T224, L224, k224, n224⟩, -, X224, ⟨Lc224, hQ224, l224, y224, z224⟩, st224⟩ := Jvm.LawKit.callS X219 hx (y := (⟨"com/example/honest_codec/honestcodec/IllFormedSequencePutHexPinLaw", "expectedAt", "(IIIIB)B"⟩ : MethodName)) hown (mvT hZ (hw _ (List.mem_of_getElem? (i := 8) rfl))) (mvT hZ (hw _ (List.mem_of_getElem? (i := 9) rfl))) (mvT hZ (hw _ (List.mem_of_getElem? (i := 10) rfl))) (mvT hZ (hw _ (List.mem_of_getElem? (i := 11) rfl))) (by decide) (backOf (W := 1) (own_rm2 l Z a0 hw [] (7 : Int32) p_1 v21 v23 (p_4.toInt8.toInt32)  T77.heap n0 (by omega) (own_nar_b _)) hZ (hw _ (List.mem_of_getElem? (i := 11) rfl)) (hw _ (List.mem_of_getElem? (i := 10) rfl)) (by decide) (by decide)) (g := (mkF m 493 #[.val (.int p_1), .val (.int p_2), .val (.int p_3), .val (.int p_4), .val (.int (p_1.toInt8.toInt32)), .val (.int v3), .val (.int v4), .val (.int v5), .val (.ref b6), .val (.int v21), .val (.int v23), .val (.int (p_4.toInt8.toInt32)), .val (.ref b24), .val (.int r78), .val (.int v175), .val (.int (1 : Int32))] [(.int (p_4.toInt8.toInt32)), (.int v23), (.int v21), (.int p_1), (.int (7 : Int32)), (.int (own_hw (v21).toNatClampNeg v23 (p_4.toInt8.toInt32) (p_1.toInt8.toInt32) v3 v4 v5 7))])) rfl (by rw [hml]; rfl) (argsL := [(.int (7 : Int32)), (.int p_1), (.int v21), (.int v23), (.int (p_4.toInt8.toInt32))]) (rest := [(.int (own_hw (v21).toNatClampNeg v23 (p_4.toInt8.toInt32) (p_1.toInt8.toInt32) v3 v4 v5 7))]) (lenOf own_pd2 rfl) rfl (by show 2 * 0 + _ ≤ _; exact Nat.le_of_eq rfl) (hb hby at_493) (fun _ _ => ⟨rfl, e219, (by show k219 + _ ≤ _; rw [y219]; decide), (by show n219 + _ ≤ _; rw [z219]; decide)⟩)
    dsimp only [Pt.U, Pt.locs, Pt.cells, Pt.slots] at X224 l224 y224 z224 st224 hQ224
    have y224 : k224 = 2 := own_addeq y224 (congrArg (fun q => q) y219) rfl
    have z224 : n224 = 20 := own_addeq z224 (congrArg (fun q => q) z219) rfl
    obtain ⟨r225, rfl, N224q, hr_r225, e224⟩ := hQ224
    have N224 : Fr n0 L224 := by rw [l224]; exact Fr.app N219 N224q
    refine own_go (fun _ k => st224 _ k) ?_
    show own_Go _ _ _ _ T224 (mkF m 496 #[.val (.int p_1), .val (.int p_2), .val (.int p_3), .val (.int p_4), .val (.int (p_1.toInt8.toInt32)), .val (.int v3), .val (.int v4), .val (.int v5), .val (.ref b6), .val (.int v21), .val (.int v23), .val (.int (p_4.toInt8.toInt32)), .val (.ref b24), .val (.int r78), .val (.int v175), .val (.int (1 : Int32))] [(.int r225), (.int (own_hw (v21).toNatClampNeg v23 (p_4.toInt8.toInt32) (p_1.toInt8.toInt32) v3 v4 v5 7))])
    have hc226 : (own_hw (v21).toNatClampNeg v23 (p_4.toInt8.toInt32) (p_1.toInt8.toInt32) v3 v4 v5 7) = r225 := own_t0_27 p_1 p_2 p_3 p_4 v3 v4 v5 v21 v23 v175 r225 hdv3 hdv4 hdv5 hdv21 hdv23 hl hp hdv175 hr_r225
    refine own_go (fun _ k => XS.icmpNo X224.here hx rfl (hb hby at_496) rfl (Jvm.Free.XT.ii_ne_f hc226) k) ?_
    show own_Go _ _ _ _ T224 (mkF m 499 #[.val (.int p_1), .val (.int p_2), .val (.int p_3), .val (.int p_4), .val (.int (p_1.toInt8.toInt32)), .val (.int v3), .val (.int v4), .val (.int v5), .val (.ref b6), .val (.int v21), .val (.int v23), .val (.int (p_4.toInt8.toInt32)), .val (.ref b24), .val (.int r78), .val (.int v175), .val (.int (1 : Int32))] [])
    refine own_go (fun _ k => XS.iconst X224.here hx rfl (hb hby at_499) k) ?_
    show own_Go _ _ _ _ T224 (mkF m 500 #[.val (.int p_1), .val (.int p_2), .val (.int p_3), .val (.int p_4), .val (.int (p_1.toInt8.toInt32)), .val (.int v3), .val (.int v4), .val (.int v5), .val (.ref b6), .val (.int v21), .val (.int v23), .val (.int (p_4.toInt8.toInt32)), .val (.ref b24), .val (.int r78), .val (.int v175), .val (.int (1 : Int32))] [(.int (1 : Int32))])
    refine own_go (fun _ k => XS.goto X224.here hx rfl (pc0 := 500) (pc' := 504) rfl (hb hby at_500) (by decide) (by decide) k) ?_
    show own_Go _ _ _ _ T224 (mkF m 504 #[.val (.int p_1), .val (.int p_2), .val (.int p_3), .val (.int p_4), .val (.int (p_1.toInt8.toInt32)), .val (.int v3), .val (.int v4), .val (.int v5), .val (.ref b6), .val (.int v21), .val (.int v23), .val (.int (p_4.toInt8.toInt32)), .val (.ref b24), .val (.int r78), .val (.int v175), .val (.int (1 : Int32))] [(.int (1 : Int32))])
    refine own_go (fun _ k => XS.istore X224.here hx rfl (hb hby at_504) rfl (l' := #[.val (.int p_1), .val (.int p_2), .val (.int p_3), .val (.int p_4), .val (.int (p_1.toInt8.toInt32)), .val (.int v3), .val (.int v4), .val (.int v5), .val (.ref b6), .val (.int v21), .val (.int v23), .val (.int (p_4.toInt8.toInt32)), .val (.ref b24), .val (.int r78), .val (.int v175), .val (.int (1 : Int32))]) rfl k) ?_
    show own_Go _ _ _ _ T224 (mkF m 506 #[.val (.int p_1), .val (.int p_2), .val (.int p_3), .val (.int p_4), .val (.int (p_1.toInt8.toInt32)), .val (.int v3), .val (.int v4), .val (.int v5), .val (.ref b6), .val (.int v21), .val (.int v23), .val (.int (p_4.toInt8.toInt32)), .val (.ref b24), .val (.int r78), .val (.int v175), .val (.int (1 : Int32))] [])
    refine own_go (fun _ k => XS.iload X224.here hx rfl (hb hby at_506) rfl k) ?_
    show own_Go _ _ _ _ T224 (mkF m 508 #[.val (.int p_1), .val (.int p_2), .val (.int p_3), .val (.int p_4), .val (.int (p_1.toInt8.toInt32)), .val (.int v3), .val (.int v4), .val (.int v5), .val (.ref b6), .val (.int v21), .val (.int v23), .val (.int (p_4.toInt8.toInt32)), .val (.ref b24), .val (.int r78), .val (.int v175), .val (.int (1 : Int32))] [(.int (1 : Int32))])
    have hc227 : ¬ ((1 : Int32) = 0) := by decide
    refine own_go (fun _ k => XS.ifNo X224.here hx rfl (hb hby at_508) rfl (Jvm.Free.XT.i0_eq_f hc227) k) ?_
    show own_Go _ _ _ _ T224 (mkF m 511 #[.val (.int p_1), .val (.int p_2), .val (.int p_3), .val (.int p_4), .val (.int (p_1.toInt8.toInt32)), .val (.int v3), .val (.int v4), .val (.int v5), .val (.ref b6), .val (.int v21), .val (.int v23), .val (.int (p_4.toInt8.toInt32)), .val (.ref b24), .val (.int r78), .val (.int v175), .val (.int (1 : Int32))] [])
    refine own_go (fun _ k => XS.aload X224.here hx rfl (hb hby at_511) rfl rfl k) ?_
    show own_Go _ _ _ _ T224 (mkF m 513 #[.val (.int p_1), .val (.int p_2), .val (.int p_3), .val (.int p_4), .val (.int (p_1.toInt8.toInt32)), .val (.int v3), .val (.int v4), .val (.int v5), .val (.ref b6), .val (.int v21), .val (.int v23), .val (.int (p_4.toInt8.toInt32)), .val (.ref b24), .val (.int r78), .val (.int v175), .val (.int (1 : Int32))] [(.ref b24)])
    refine own_go (fun _ k => XS.bipush X224.here hx rfl (hb hby at_513) k) ?_
    show own_Go _ _ _ _ T224 (mkF m 515 #[.val (.int p_1), .val (.int p_2), .val (.int p_3), .val (.int p_4), .val (.int (p_1.toInt8.toInt32)), .val (.int v3), .val (.int v4), .val (.int v5), .val (.ref b6), .val (.int v21), .val (.int v23), .val (.int (p_4.toInt8.toInt32)), .val (.ref b24), .val (.int r78), .val (.int v175), .val (.int (1 : Int32))] [(.int (8 : Int32)), (.ref b24)])
    obtain ⟨q228, c228, R228, s228, t228⟩ := id f79
    have hin228 : ¬ ((8 : Int32) < 0 ∨ c228.slots.size ≤ ((8 : Int32)).toNatClampNeg) := inb_of s228 ⟨by decide, by decide⟩
    have u228 : c228.slots[((8 : Int32)).toNatClampNeg]? = some (.int (own_hw (v21).toNatClampNeg v23 (p_4.toInt8.toInt32) (p_1.toInt8.toInt32) v3 v4 v5 8)) := own_at (k := 8) t228 s228 hin228 (by decide) (own_hx_hw _ _ _ _ _ _ _ _ _ rfl)
    refine own_go (fun _ k => X224.baloadBytes hx (j := (8 : Int32)) (v := (.int (own_hw (v21).toNatClampNeg v23 (p_4.toInt8.toInt32) (p_1.toInt8.toInt32) v3 v4 v5 8))) (by rw [e224]; exact R228.1) (State.isArrayOf_alike hZ.alike R228.2.1) R228.2.2 hin228 u228 (g := (mkF m 515 #[.val (.int p_1), .val (.int p_2), .val (.int p_3), .val (.int p_4), .val (.int (p_1.toInt8.toInt32)), .val (.int v3), .val (.int v4), .val (.int v5), .val (.ref b6), .val (.int v21), .val (.int v23), .val (.int (p_4.toInt8.toInt32)), .val (.ref b24), .val (.int r78), .val (.int v175), .val (.int (1 : Int32))] [(.int (8 : Int32)), (.ref b24)])) rfl rfl (hb hby at_515) _ k) ?_
    show own_Go _ _ _ _ T224 (mkF m 516 #[.val (.int p_1), .val (.int p_2), .val (.int p_3), .val (.int p_4), .val (.int (p_1.toInt8.toInt32)), .val (.int v3), .val (.int v4), .val (.int v5), .val (.ref b6), .val (.int v21), .val (.int v23), .val (.int (p_4.toInt8.toInt32)), .val (.ref b24), .val (.int r78), .val (.int v175), .val (.int (1 : Int32))] [(.int (own_hw (v21).toNatClampNeg v23 (p_4.toInt8.toInt32) (p_1.toInt8.toInt32) v3 v4 v5 8))])
    refine own_go (fun _ k => XS.bipush X224.here hx rfl (hb hby at_516) k) ?_
    show own_Go _ _ _ _ T224 (mkF m 518 #[.val (.int p_1), .val (.int p_2), .val (.int p_3), .val (.int p_4), .val (.int (p_1.toInt8.toInt32)), .val (.int v3), .val (.int v4), .val (.int v5), .val (.ref b6), .val (.int v21), .val (.int v23), .val (.int (p_4.toInt8.toInt32)), .val (.ref b24), .val (.int r78), .val (.int v175), .val (.int (1 : Int32))] [(.int (8 : Int32)), (.int (own_hw (v21).toNatClampNeg v23 (p_4.toInt8.toInt32) (p_1.toInt8.toInt32) v3 v4 v5 8))])
    refine own_go (fun _ k => XS.iloadN X224.here hx rfl (hb hby at_518) rfl k) ?_
    show own_Go _ _ _ _ T224 (mkF m 519 #[.val (.int p_1), .val (.int p_2), .val (.int p_3), .val (.int p_4), .val (.int (p_1.toInt8.toInt32)), .val (.int v3), .val (.int v4), .val (.int v5), .val (.ref b6), .val (.int v21), .val (.int v23), .val (.int (p_4.toInt8.toInt32)), .val (.ref b24), .val (.int r78), .val (.int v175), .val (.int (1 : Int32))] [(.int p_1), (.int (8 : Int32)), (.int (own_hw (v21).toNatClampNeg v23 (p_4.toInt8.toInt32) (p_1.toInt8.toInt32) v3 v4 v5 8))])
    refine own_go (fun _ k => XS.iload X224.here hx rfl (hb hby at_519) rfl k) ?_
    show own_Go _ _ _ _ T224 (mkF m 521 #[.val (.int p_1), .val (.int p_2), .val (.int p_3), .val (.int p_4), .val (.int (p_1.toInt8.toInt32)), .val (.int v3), .val (.int v4), .val (.int v5), .val (.ref b6), .val (.int v21), .val (.int v23), .val (.int (p_4.toInt8.toInt32)), .val (.ref b24), .val (.int r78), .val (.int v175), .val (.int (1 : Int32))] [(.int v21), (.int p_1), (.int (8 : Int32)), (.int (own_hw (v21).toNatClampNeg v23 (p_4.toInt8.toInt32) (p_1.toInt8.toInt32) v3 v4 v5 8))])
    refine own_go (fun _ k => XS.iload X224.here hx rfl (hb hby at_521) rfl k) ?_
    show own_Go _ _ _ _ T224 (mkF m 523 #[.val (.int p_1), .val (.int p_2), .val (.int p_3), .val (.int p_4), .val (.int (p_1.toInt8.toInt32)), .val (.int v3), .val (.int v4), .val (.int v5), .val (.ref b6), .val (.int v21), .val (.int v23), .val (.int (p_4.toInt8.toInt32)), .val (.ref b24), .val (.int r78), .val (.int v175), .val (.int (1 : Int32))] [(.int v23), (.int v21), (.int p_1), (.int (8 : Int32)), (.int (own_hw (v21).toNatClampNeg v23 (p_4.toInt8.toInt32) (p_1.toInt8.toInt32) v3 v4 v5 8))])
    refine own_go (fun _ k => XS.iload X224.here hx rfl (hb hby at_523) rfl k) ?_
    show own_Go _ _ _ _ T224 (mkF m 525 #[.val (.int p_1), .val (.int p_2), .val (.int p_3), .val (.int p_4), .val (.int (p_1.toInt8.toInt32)), .val (.int v3), .val (.int v4), .val (.int v5), .val (.ref b6), .val (.int v21), .val (.int v23), .val (.int (p_4.toInt8.toInt32)), .val (.ref b24), .val (.int r78), .val (.int v175), .val (.int (1 : Int32))] [(.int (p_4.toInt8.toInt32)), (.int v23), (.int v21), (.int p_1), (.int (8 : Int32)), (.int (own_hw (v21).toNatClampNeg v23 (p_4.toInt8.toInt32) (p_1.toInt8.toInt32) v3 v4 v5 8))])
    obtain ⟨_, _, ⟨T229, L229, k229, n229⟩, -, X229, ⟨Lc229, hQ229, l229, y229, z229⟩, st229⟩ := Jvm.LawKit.callS X224 hx (y := (⟨"com/example/honest_codec/honestcodec/IllFormedSequencePutHexPinLaw", "expectedAt", "(IIIIB)B"⟩ : MethodName)) hown (mvT hZ (hw _ (List.mem_of_getElem? (i := 8) rfl))) (mvT hZ (hw _ (List.mem_of_getElem? (i := 9) rfl))) (mvT hZ (hw _ (List.mem_of_getElem? (i := 10) rfl))) (mvT hZ (hw _ (List.mem_of_getElem? (i := 11) rfl))) (by decide) (backOf (W := 1) (own_rm2 l Z a0 hw [] (8 : Int32) p_1 v21 v23 (p_4.toInt8.toInt32)  T77.heap n0 (by omega) (own_nar_b _)) hZ (hw _ (List.mem_of_getElem? (i := 11) rfl)) (hw _ (List.mem_of_getElem? (i := 10) rfl)) (by decide) (by decide)) (g := (mkF m 525 #[.val (.int p_1), .val (.int p_2), .val (.int p_3), .val (.int p_4), .val (.int (p_1.toInt8.toInt32)), .val (.int v3), .val (.int v4), .val (.int v5), .val (.ref b6), .val (.int v21), .val (.int v23), .val (.int (p_4.toInt8.toInt32)), .val (.ref b24), .val (.int r78), .val (.int v175), .val (.int (1 : Int32))] [(.int (p_4.toInt8.toInt32)), (.int v23), (.int v21), (.int p_1), (.int (8 : Int32)), (.int (own_hw (v21).toNatClampNeg v23 (p_4.toInt8.toInt32) (p_1.toInt8.toInt32) v3 v4 v5 8))])) rfl (by rw [hml]; rfl) (argsL := [(.int (8 : Int32)), (.int p_1), (.int v21), (.int v23), (.int (p_4.toInt8.toInt32))]) (rest := [(.int (own_hw (v21).toNatClampNeg v23 (p_4.toInt8.toInt32) (p_1.toInt8.toInt32) v3 v4 v5 8))]) (lenOf own_pd2 rfl) rfl (by show 2 * 0 + _ ≤ _; exact Nat.le_of_eq rfl) (hb hby at_525) (fun _ _ => ⟨rfl, e224, (by show k224 + _ ≤ _; rw [y224]; decide), (by show n224 + _ ≤ _; rw [z224]; decide)⟩)
    dsimp only [Pt.U, Pt.locs, Pt.cells, Pt.slots] at X229 l229 y229 z229 st229 hQ229
    have y229 : k229 = 2 := own_addeq y229 (congrArg (fun q => q) y224) rfl
    have z229 : n229 = 20 := own_addeq z229 (congrArg (fun q => q) z224) rfl
    obtain ⟨r230, rfl, N229q, hr_r230, e229⟩ := hQ229
    have N229 : Fr n0 L229 := by rw [l229]; exact Fr.app N224 N229q
    refine own_go (fun _ k => st229 _ k) ?_
    show own_Go _ _ _ _ T229 (mkF m 528 #[.val (.int p_1), .val (.int p_2), .val (.int p_3), .val (.int p_4), .val (.int (p_1.toInt8.toInt32)), .val (.int v3), .val (.int v4), .val (.int v5), .val (.ref b6), .val (.int v21), .val (.int v23), .val (.int (p_4.toInt8.toInt32)), .val (.ref b24), .val (.int r78), .val (.int v175), .val (.int (1 : Int32))] [(.int r230), (.int (own_hw (v21).toNatClampNeg v23 (p_4.toInt8.toInt32) (p_1.toInt8.toInt32) v3 v4 v5 8))])
    have hc231 : (own_hw (v21).toNatClampNeg v23 (p_4.toInt8.toInt32) (p_1.toInt8.toInt32) v3 v4 v5 8) = r230 := own_t0_28 p_1 p_2 p_3 p_4 v3 v4 v5 v21 v23 v175 r230 hdv3 hdv4 hdv5 hdv21 hdv23 hl hp hdv175 hr_r230
    refine own_go (fun _ k => XS.icmpNo X229.here hx rfl (hb hby at_528) rfl (Jvm.Free.XT.ii_ne_f hc231) k) ?_
    show own_Go _ _ _ _ T229 (mkF m 531 #[.val (.int p_1), .val (.int p_2), .val (.int p_3), .val (.int p_4), .val (.int (p_1.toInt8.toInt32)), .val (.int v3), .val (.int v4), .val (.int v5), .val (.ref b6), .val (.int v21), .val (.int v23), .val (.int (p_4.toInt8.toInt32)), .val (.ref b24), .val (.int r78), .val (.int v175), .val (.int (1 : Int32))] [])
    refine own_go (fun _ k => XS.iconst X229.here hx rfl (hb hby at_531) k) ?_
    show own_Go _ _ _ _ T229 (mkF m 532 #[.val (.int p_1), .val (.int p_2), .val (.int p_3), .val (.int p_4), .val (.int (p_1.toInt8.toInt32)), .val (.int v3), .val (.int v4), .val (.int v5), .val (.ref b6), .val (.int v21), .val (.int v23), .val (.int (p_4.toInt8.toInt32)), .val (.ref b24), .val (.int r78), .val (.int v175), .val (.int (1 : Int32))] [(.int (1 : Int32))])
    refine own_go (fun _ k => XS.goto X229.here hx rfl (pc0 := 532) (pc' := 536) rfl (hb hby at_532) (by decide) (by decide) k) ?_
    show own_Go _ _ _ _ T229 (mkF m 536 #[.val (.int p_1), .val (.int p_2), .val (.int p_3), .val (.int p_4), .val (.int (p_1.toInt8.toInt32)), .val (.int v3), .val (.int v4), .val (.int v5), .val (.ref b6), .val (.int v21), .val (.int v23), .val (.int (p_4.toInt8.toInt32)), .val (.ref b24), .val (.int r78), .val (.int v175), .val (.int (1 : Int32))] [(.int (1 : Int32))])
    refine own_go (fun _ k => XS.istore X229.here hx rfl (hb hby at_536) rfl (l' := #[.val (.int p_1), .val (.int p_2), .val (.int p_3), .val (.int p_4), .val (.int (p_1.toInt8.toInt32)), .val (.int v3), .val (.int v4), .val (.int v5), .val (.ref b6), .val (.int v21), .val (.int v23), .val (.int (p_4.toInt8.toInt32)), .val (.ref b24), .val (.int r78), .val (.int v175), .val (.int (1 : Int32))]) rfl k) ?_
    show own_Go _ _ _ _ T229 (mkF m 538 #[.val (.int p_1), .val (.int p_2), .val (.int p_3), .val (.int p_4), .val (.int (p_1.toInt8.toInt32)), .val (.int v3), .val (.int v4), .val (.int v5), .val (.ref b6), .val (.int v21), .val (.int v23), .val (.int (p_4.toInt8.toInt32)), .val (.ref b24), .val (.int r78), .val (.int v175), .val (.int (1 : Int32))] [])
    refine own_go (fun _ k => XS.iload X229.here hx rfl (hb hby at_538) rfl k) ?_
    show own_Go _ _ _ _ T229 (mkF m 540 #[.val (.int p_1), .val (.int p_2), .val (.int p_3), .val (.int p_4), .val (.int (p_1.toInt8.toInt32)), .val (.int v3), .val (.int v4), .val (.int v5), .val (.ref b6), .val (.int v21), .val (.int v23), .val (.int (p_4.toInt8.toInt32)), .val (.ref b24), .val (.int r78), .val (.int v175), .val (.int (1 : Int32))] [(.int (1 : Int32))])
    have hc232 : ¬ ((1 : Int32) = 0) := by decide
    refine own_go (fun _ k => XS.ifNo X229.here hx rfl (hb hby at_540) rfl (Jvm.Free.XT.i0_eq_f hc232) k) ?_
    show own_Go _ _ _ _ T229 (mkF m 543 #[.val (.int p_1), .val (.int p_2), .val (.int p_3), .val (.int p_4), .val (.int (p_1.toInt8.toInt32)), .val (.int v3), .val (.int v4), .val (.int v5), .val (.ref b6), .val (.int v21), .val (.int v23), .val (.int (p_4.toInt8.toInt32)), .val (.ref b24), .val (.int r78), .val (.int v175), .val (.int (1 : Int32))] [])
    refine own_go (fun _ k => XS.aload X229.here hx rfl (hb hby at_543) rfl rfl k) ?_
    show own_Go _ _ _ _ T229 (mkF m 545 #[.val (.int p_1), .val (.int p_2), .val (.int p_3), .val (.int p_4), .val (.int (p_1.toInt8.toInt32)), .val (.int v3), .val (.int v4), .val (.int v5), .val (.ref b6), .val (.int v21), .val (.int v23), .val (.int (p_4.toInt8.toInt32)), .val (.ref b24), .val (.int r78), .val (.int v175), .val (.int (1 : Int32))] [(.ref b24)])
    refine own_go (fun _ k => XS.bipush X229.here hx rfl (hb hby at_545) k) ?_
    show own_Go _ _ _ _ T229 (mkF m 547 #[.val (.int p_1), .val (.int p_2), .val (.int p_3), .val (.int p_4), .val (.int (p_1.toInt8.toInt32)), .val (.int v3), .val (.int v4), .val (.int v5), .val (.ref b6), .val (.int v21), .val (.int v23), .val (.int (p_4.toInt8.toInt32)), .val (.ref b24), .val (.int r78), .val (.int v175), .val (.int (1 : Int32))] [(.int (9 : Int32)), (.ref b24)])
    obtain ⟨q233, c233, R233, s233, t233⟩ := id f79
    have hin233 : ¬ ((9 : Int32) < 0 ∨ c233.slots.size ≤ ((9 : Int32)).toNatClampNeg) := inb_of s233 ⟨by decide, by decide⟩
    have u233 : c233.slots[((9 : Int32)).toNatClampNeg]? = some (.int (own_hw (v21).toNatClampNeg v23 (p_4.toInt8.toInt32) (p_1.toInt8.toInt32) v3 v4 v5 9)) := own_at (k := 9) t233 s233 hin233 (by decide) (own_hx_hw _ _ _ _ _ _ _ _ _ rfl)
    refine own_go (fun _ k => X229.baloadBytes hx (j := (9 : Int32)) (v := (.int (own_hw (v21).toNatClampNeg v23 (p_4.toInt8.toInt32) (p_1.toInt8.toInt32) v3 v4 v5 9))) (by rw [e229]; exact R233.1) (State.isArrayOf_alike hZ.alike R233.2.1) R233.2.2 hin233 u233 (g := (mkF m 547 #[.val (.int p_1), .val (.int p_2), .val (.int p_3), .val (.int p_4), .val (.int (p_1.toInt8.toInt32)), .val (.int v3), .val (.int v4), .val (.int v5), .val (.ref b6), .val (.int v21), .val (.int v23), .val (.int (p_4.toInt8.toInt32)), .val (.ref b24), .val (.int r78), .val (.int v175), .val (.int (1 : Int32))] [(.int (9 : Int32)), (.ref b24)])) rfl rfl (hb hby at_547) _ k) ?_
    show own_Go _ _ _ _ T229 (mkF m 548 #[.val (.int p_1), .val (.int p_2), .val (.int p_3), .val (.int p_4), .val (.int (p_1.toInt8.toInt32)), .val (.int v3), .val (.int v4), .val (.int v5), .val (.ref b6), .val (.int v21), .val (.int v23), .val (.int (p_4.toInt8.toInt32)), .val (.ref b24), .val (.int r78), .val (.int v175), .val (.int (1 : Int32))] [(.int (own_hw (v21).toNatClampNeg v23 (p_4.toInt8.toInt32) (p_1.toInt8.toInt32) v3 v4 v5 9))])
    refine own_go (fun _ k => XS.bipush X229.here hx rfl (hb hby at_548) k) ?_
    show own_Go _ _ _ _ T229 (mkF m 550 #[.val (.int p_1), .val (.int p_2), .val (.int p_3), .val (.int p_4), .val (.int (p_1.toInt8.toInt32)), .val (.int v3), .val (.int v4), .val (.int v5), .val (.ref b6), .val (.int v21), .val (.int v23), .val (.int (p_4.toInt8.toInt32)), .val (.ref b24), .val (.int r78), .val (.int v175), .val (.int (1 : Int32))] [(.int (9 : Int32)), (.int (own_hw (v21).toNatClampNeg v23 (p_4.toInt8.toInt32) (p_1.toInt8.toInt32) v3 v4 v5 9))])
    refine own_go (fun _ k => XS.iloadN X229.here hx rfl (hb hby at_550) rfl k) ?_
    show own_Go _ _ _ _ T229 (mkF m 551 #[.val (.int p_1), .val (.int p_2), .val (.int p_3), .val (.int p_4), .val (.int (p_1.toInt8.toInt32)), .val (.int v3), .val (.int v4), .val (.int v5), .val (.ref b6), .val (.int v21), .val (.int v23), .val (.int (p_4.toInt8.toInt32)), .val (.ref b24), .val (.int r78), .val (.int v175), .val (.int (1 : Int32))] [(.int p_1), (.int (9 : Int32)), (.int (own_hw (v21).toNatClampNeg v23 (p_4.toInt8.toInt32) (p_1.toInt8.toInt32) v3 v4 v5 9))])
    refine own_go (fun _ k => XS.iload X229.here hx rfl (hb hby at_551) rfl k) ?_
    show own_Go _ _ _ _ T229 (mkF m 553 #[.val (.int p_1), .val (.int p_2), .val (.int p_3), .val (.int p_4), .val (.int (p_1.toInt8.toInt32)), .val (.int v3), .val (.int v4), .val (.int v5), .val (.ref b6), .val (.int v21), .val (.int v23), .val (.int (p_4.toInt8.toInt32)), .val (.ref b24), .val (.int r78), .val (.int v175), .val (.int (1 : Int32))] [(.int v21), (.int p_1), (.int (9 : Int32)), (.int (own_hw (v21).toNatClampNeg v23 (p_4.toInt8.toInt32) (p_1.toInt8.toInt32) v3 v4 v5 9))])
    refine own_go (fun _ k => XS.iload X229.here hx rfl (hb hby at_553) rfl k) ?_
    show own_Go _ _ _ _ T229 (mkF m 555 #[.val (.int p_1), .val (.int p_2), .val (.int p_3), .val (.int p_4), .val (.int (p_1.toInt8.toInt32)), .val (.int v3), .val (.int v4), .val (.int v5), .val (.ref b6), .val (.int v21), .val (.int v23), .val (.int (p_4.toInt8.toInt32)), .val (.ref b24), .val (.int r78), .val (.int v175), .val (.int (1 : Int32))] [(.int v23), (.int v21), (.int p_1), (.int (9 : Int32)), (.int (own_hw (v21).toNatClampNeg v23 (p_4.toInt8.toInt32) (p_1.toInt8.toInt32) v3 v4 v5 9))])
    refine own_go (fun _ k => XS.iload X229.here hx rfl (hb hby at_555) rfl k) ?_
    show own_Go _ _ _ _ T229 (mkF m 557 #[.val (.int p_1), .val (.int p_2), .val (.int p_3), .val (.int p_4), .val (.int (p_1.toInt8.toInt32)), .val (.int v3), .val (.int v4), .val (.int v5), .val (.ref b6), .val (.int v21), .val (.int v23), .val (.int (p_4.toInt8.toInt32)), .val (.ref b24), .val (.int r78), .val (.int v175), .val (.int (1 : Int32))] [(.int (p_4.toInt8.toInt32)), (.int v23), (.int v21), (.int p_1), (.int (9 : Int32)), (.int (own_hw (v21).toNatClampNeg v23 (p_4.toInt8.toInt32) (p_1.toInt8.toInt32) v3 v4 v5 9))])
    obtain ⟨_, _, ⟨T234, L234, k234, n234⟩, -, X234, ⟨Lc234, hQ234, l234, y234, z234⟩, st234⟩ := Jvm.LawKit.callS X229 hx (y := (⟨"com/example/honest_codec/honestcodec/IllFormedSequencePutHexPinLaw", "expectedAt", "(IIIIB)B"⟩ : MethodName)) hown (mvT hZ (hw _ (List.mem_of_getElem? (i := 8) rfl))) (mvT hZ (hw _ (List.mem_of_getElem? (i := 9) rfl))) (mvT hZ (hw _ (List.mem_of_getElem? (i := 10) rfl))) (mvT hZ (hw _ (List.mem_of_getElem? (i := 11) rfl))) (by decide) (backOf (W := 1) (own_rm2 l Z a0 hw [] (9 : Int32) p_1 v21 v23 (p_4.toInt8.toInt32)  T77.heap n0 (by omega) (own_nar_b _)) hZ (hw _ (List.mem_of_getElem? (i := 11) rfl)) (hw _ (List.mem_of_getElem? (i := 10) rfl)) (by decide) (by decide)) (g := (mkF m 557 #[.val (.int p_1), .val (.int p_2), .val (.int p_3), .val (.int p_4), .val (.int (p_1.toInt8.toInt32)), .val (.int v3), .val (.int v4), .val (.int v5), .val (.ref b6), .val (.int v21), .val (.int v23), .val (.int (p_4.toInt8.toInt32)), .val (.ref b24), .val (.int r78), .val (.int v175), .val (.int (1 : Int32))] [(.int (p_4.toInt8.toInt32)), (.int v23), (.int v21), (.int p_1), (.int (9 : Int32)), (.int (own_hw (v21).toNatClampNeg v23 (p_4.toInt8.toInt32) (p_1.toInt8.toInt32) v3 v4 v5 9))])) rfl (by rw [hml]; rfl) (argsL := [(.int (9 : Int32)), (.int p_1), (.int v21), (.int v23), (.int (p_4.toInt8.toInt32))]) (rest := [(.int (own_hw (v21).toNatClampNeg v23 (p_4.toInt8.toInt32) (p_1.toInt8.toInt32) v3 v4 v5 9))]) (lenOf own_pd2 rfl) rfl (by show 2 * 0 + _ ≤ _; exact Nat.le_of_eq rfl) (hb hby at_557) (fun _ _ => ⟨rfl, e229, (by show k229 + _ ≤ _; rw [y229]; decide), (by show n229 + _ ≤ _; rw [z229]; decide)⟩)
    dsimp only [Pt.U, Pt.locs, Pt.cells, Pt.slots] at X234 l234 y234 z234 st234 hQ234
    have y234 : k234 = 2 := own_addeq y234 (congrArg (fun q => q) y229) rfl
    have z234 : n234 = 20 := own_addeq z234 (congrArg (fun q => q) z229) rfl
    obtain ⟨r235, rfl, N234q, hr_r235, e234⟩ := hQ234
    have N234 : Fr n0 L234 := by rw [l234]; exact Fr.app N229 N234q
    refine own_go (fun _ k => st234 _ k) ?_
    show own_Go _ _ _ _ T234 (mkF m 560 #[.val (.int p_1), .val (.int p_2), .val (.int p_3), .val (.int p_4), .val (.int (p_1.toInt8.toInt32)), .val (.int v3), .val (.int v4), .val (.int v5), .val (.ref b6), .val (.int v21), .val (.int v23), .val (.int (p_4.toInt8.toInt32)), .val (.ref b24), .val (.int r78), .val (.int v175), .val (.int (1 : Int32))] [(.int r235), (.int (own_hw (v21).toNatClampNeg v23 (p_4.toInt8.toInt32) (p_1.toInt8.toInt32) v3 v4 v5 9))])
    have hc236 : (own_hw (v21).toNatClampNeg v23 (p_4.toInt8.toInt32) (p_1.toInt8.toInt32) v3 v4 v5 9) = r235 := own_t0_29 p_1 p_2 p_3 p_4 v3 v4 v5 v21 v23 v175 r235 hdv3 hdv4 hdv5 hdv21 hdv23 hl hp hdv175 hr_r235
    refine own_go (fun _ k => XS.icmpNo X234.here hx rfl (hb hby at_560) rfl (Jvm.Free.XT.ii_ne_f hc236) k) ?_
    show own_Go _ _ _ _ T234 (mkF m 563 #[.val (.int p_1), .val (.int p_2), .val (.int p_3), .val (.int p_4), .val (.int (p_1.toInt8.toInt32)), .val (.int v3), .val (.int v4), .val (.int v5), .val (.ref b6), .val (.int v21), .val (.int v23), .val (.int (p_4.toInt8.toInt32)), .val (.ref b24), .val (.int r78), .val (.int v175), .val (.int (1 : Int32))] [])
    refine own_go (fun _ k => XS.iconst X234.here hx rfl (hb hby at_563) k) ?_
    show own_Go _ _ _ _ T234 (mkF m 564 #[.val (.int p_1), .val (.int p_2), .val (.int p_3), .val (.int p_4), .val (.int (p_1.toInt8.toInt32)), .val (.int v3), .val (.int v4), .val (.int v5), .val (.ref b6), .val (.int v21), .val (.int v23), .val (.int (p_4.toInt8.toInt32)), .val (.ref b24), .val (.int r78), .val (.int v175), .val (.int (1 : Int32))] [(.int (1 : Int32))])
    refine own_go (fun _ k => XS.goto X234.here hx rfl (pc0 := 564) (pc' := 568) rfl (hb hby at_564) (by decide) (by decide) k) ?_
    show own_Go _ _ _ _ T234 (mkF m 568 #[.val (.int p_1), .val (.int p_2), .val (.int p_3), .val (.int p_4), .val (.int (p_1.toInt8.toInt32)), .val (.int v3), .val (.int v4), .val (.int v5), .val (.ref b6), .val (.int v21), .val (.int v23), .val (.int (p_4.toInt8.toInt32)), .val (.ref b24), .val (.int r78), .val (.int v175), .val (.int (1 : Int32))] [(.int (1 : Int32))])
    refine own_go (fun _ k => XS.istore X234.here hx rfl (hb hby at_568) rfl (l' := #[.val (.int p_1), .val (.int p_2), .val (.int p_3), .val (.int p_4), .val (.int (p_1.toInt8.toInt32)), .val (.int v3), .val (.int v4), .val (.int v5), .val (.ref b6), .val (.int v21), .val (.int v23), .val (.int (p_4.toInt8.toInt32)), .val (.ref b24), .val (.int r78), .val (.int v175), .val (.int (1 : Int32))]) rfl k) ?_
    show own_Go _ _ _ _ T234 (mkF m 570 #[.val (.int p_1), .val (.int p_2), .val (.int p_3), .val (.int p_4), .val (.int (p_1.toInt8.toInt32)), .val (.int v3), .val (.int v4), .val (.int v5), .val (.ref b6), .val (.int v21), .val (.int v23), .val (.int (p_4.toInt8.toInt32)), .val (.ref b24), .val (.int r78), .val (.int v175), .val (.int (1 : Int32))] [])
    refine own_go (fun _ k => XS.iload X234.here hx rfl (hb hby at_570) rfl k) ?_
    show own_Go _ _ _ _ T234 (mkF m 572 #[.val (.int p_1), .val (.int p_2), .val (.int p_3), .val (.int p_4), .val (.int (p_1.toInt8.toInt32)), .val (.int v3), .val (.int v4), .val (.int v5), .val (.ref b6), .val (.int v21), .val (.int v23), .val (.int (p_4.toInt8.toInt32)), .val (.ref b24), .val (.int r78), .val (.int v175), .val (.int (1 : Int32))] [(.int (1 : Int32))])
    have hc237 : ¬ ((1 : Int32) = 0) := by decide
    refine own_go (fun _ k => XS.ifNo X234.here hx rfl (hb hby at_572) rfl (Jvm.Free.XT.i0_eq_f hc237) k) ?_
    show own_Go _ _ _ _ T234 (mkF m 575 #[.val (.int p_1), .val (.int p_2), .val (.int p_3), .val (.int p_4), .val (.int (p_1.toInt8.toInt32)), .val (.int v3), .val (.int v4), .val (.int v5), .val (.ref b6), .val (.int v21), .val (.int v23), .val (.int (p_4.toInt8.toInt32)), .val (.ref b24), .val (.int r78), .val (.int v175), .val (.int (1 : Int32))] [])
    refine own_go (fun _ k => XS.aload X234.here hx rfl (hb hby at_575) rfl rfl k) ?_
    show own_Go _ _ _ _ T234 (mkF m 577 #[.val (.int p_1), .val (.int p_2), .val (.int p_3), .val (.int p_4), .val (.int (p_1.toInt8.toInt32)), .val (.int v3), .val (.int v4), .val (.int v5), .val (.ref b6), .val (.int v21), .val (.int v23), .val (.int (p_4.toInt8.toInt32)), .val (.ref b24), .val (.int r78), .val (.int v175), .val (.int (1 : Int32))] [(.ref b24)])
    refine own_go (fun _ k => XS.bipush X234.here hx rfl (hb hby at_577) k) ?_
    show own_Go _ _ _ _ T234 (mkF m 579 #[.val (.int p_1), .val (.int p_2), .val (.int p_3), .val (.int p_4), .val (.int (p_1.toInt8.toInt32)), .val (.int v3), .val (.int v4), .val (.int v5), .val (.ref b6), .val (.int v21), .val (.int v23), .val (.int (p_4.toInt8.toInt32)), .val (.ref b24), .val (.int r78), .val (.int v175), .val (.int (1 : Int32))] [(.int (10 : Int32)), (.ref b24)])
    obtain ⟨q238, c238, R238, s238, t238⟩ := id f79
    have hin238 : ¬ ((10 : Int32) < 0 ∨ c238.slots.size ≤ ((10 : Int32)).toNatClampNeg) := inb_of s238 ⟨by decide, by decide⟩
    have u238 : c238.slots[((10 : Int32)).toNatClampNeg]? = some (.int (own_hw (v21).toNatClampNeg v23 (p_4.toInt8.toInt32) (p_1.toInt8.toInt32) v3 v4 v5 10)) := own_at (k := 10) t238 s238 hin238 (by decide) (own_hx_hw _ _ _ _ _ _ _ _ _ rfl)
    refine own_go (fun _ k => X234.baloadBytes hx (j := (10 : Int32)) (v := (.int (own_hw (v21).toNatClampNeg v23 (p_4.toInt8.toInt32) (p_1.toInt8.toInt32) v3 v4 v5 10))) (by rw [e234]; exact R238.1) (State.isArrayOf_alike hZ.alike R238.2.1) R238.2.2 hin238 u238 (g := (mkF m 579 #[.val (.int p_1), .val (.int p_2), .val (.int p_3), .val (.int p_4), .val (.int (p_1.toInt8.toInt32)), .val (.int v3), .val (.int v4), .val (.int v5), .val (.ref b6), .val (.int v21), .val (.int v23), .val (.int (p_4.toInt8.toInt32)), .val (.ref b24), .val (.int r78), .val (.int v175), .val (.int (1 : Int32))] [(.int (10 : Int32)), (.ref b24)])) rfl rfl (hb hby at_579) _ k) ?_
    show own_Go _ _ _ _ T234 (mkF m 580 #[.val (.int p_1), .val (.int p_2), .val (.int p_3), .val (.int p_4), .val (.int (p_1.toInt8.toInt32)), .val (.int v3), .val (.int v4), .val (.int v5), .val (.ref b6), .val (.int v21), .val (.int v23), .val (.int (p_4.toInt8.toInt32)), .val (.ref b24), .val (.int r78), .val (.int v175), .val (.int (1 : Int32))] [(.int (own_hw (v21).toNatClampNeg v23 (p_4.toInt8.toInt32) (p_1.toInt8.toInt32) v3 v4 v5 10))])
    refine own_go (fun _ k => XS.bipush X234.here hx rfl (hb hby at_580) k) ?_
    show own_Go _ _ _ _ T234 (mkF m 582 #[.val (.int p_1), .val (.int p_2), .val (.int p_3), .val (.int p_4), .val (.int (p_1.toInt8.toInt32)), .val (.int v3), .val (.int v4), .val (.int v5), .val (.ref b6), .val (.int v21), .val (.int v23), .val (.int (p_4.toInt8.toInt32)), .val (.ref b24), .val (.int r78), .val (.int v175), .val (.int (1 : Int32))] [(.int (10 : Int32)), (.int (own_hw (v21).toNatClampNeg v23 (p_4.toInt8.toInt32) (p_1.toInt8.toInt32) v3 v4 v5 10))])
    refine own_go (fun _ k => XS.iloadN X234.here hx rfl (hb hby at_582) rfl k) ?_
    show own_Go _ _ _ _ T234 (mkF m 583 #[.val (.int p_1), .val (.int p_2), .val (.int p_3), .val (.int p_4), .val (.int (p_1.toInt8.toInt32)), .val (.int v3), .val (.int v4), .val (.int v5), .val (.ref b6), .val (.int v21), .val (.int v23), .val (.int (p_4.toInt8.toInt32)), .val (.ref b24), .val (.int r78), .val (.int v175), .val (.int (1 : Int32))] [(.int p_1), (.int (10 : Int32)), (.int (own_hw (v21).toNatClampNeg v23 (p_4.toInt8.toInt32) (p_1.toInt8.toInt32) v3 v4 v5 10))])
    refine own_go (fun _ k => XS.iload X234.here hx rfl (hb hby at_583) rfl k) ?_
    show own_Go _ _ _ _ T234 (mkF m 585 #[.val (.int p_1), .val (.int p_2), .val (.int p_3), .val (.int p_4), .val (.int (p_1.toInt8.toInt32)), .val (.int v3), .val (.int v4), .val (.int v5), .val (.ref b6), .val (.int v21), .val (.int v23), .val (.int (p_4.toInt8.toInt32)), .val (.ref b24), .val (.int r78), .val (.int v175), .val (.int (1 : Int32))] [(.int v21), (.int p_1), (.int (10 : Int32)), (.int (own_hw (v21).toNatClampNeg v23 (p_4.toInt8.toInt32) (p_1.toInt8.toInt32) v3 v4 v5 10))])
    refine own_go (fun _ k => XS.iload X234.here hx rfl (hb hby at_585) rfl k) ?_
    show own_Go _ _ _ _ T234 (mkF m 587 #[.val (.int p_1), .val (.int p_2), .val (.int p_3), .val (.int p_4), .val (.int (p_1.toInt8.toInt32)), .val (.int v3), .val (.int v4), .val (.int v5), .val (.ref b6), .val (.int v21), .val (.int v23), .val (.int (p_4.toInt8.toInt32)), .val (.ref b24), .val (.int r78), .val (.int v175), .val (.int (1 : Int32))] [(.int v23), (.int v21), (.int p_1), (.int (10 : Int32)), (.int (own_hw (v21).toNatClampNeg v23 (p_4.toInt8.toInt32) (p_1.toInt8.toInt32) v3 v4 v5 10))])
    refine own_go (fun _ k => XS.iload X234.here hx rfl (hb hby at_587) rfl k) ?_
    show own_Go _ _ _ _ T234 (mkF m 589 #[.val (.int p_1), .val (.int p_2), .val (.int p_3), .val (.int p_4), .val (.int (p_1.toInt8.toInt32)), .val (.int v3), .val (.int v4), .val (.int v5), .val (.ref b6), .val (.int v21), .val (.int v23), .val (.int (p_4.toInt8.toInt32)), .val (.ref b24), .val (.int r78), .val (.int v175), .val (.int (1 : Int32))] [(.int (p_4.toInt8.toInt32)), (.int v23), (.int v21), (.int p_1), (.int (10 : Int32)), (.int (own_hw (v21).toNatClampNeg v23 (p_4.toInt8.toInt32) (p_1.toInt8.toInt32) v3 v4 v5 10))])
    obtain ⟨_, _, ⟨T239, L239, k239, n239⟩, -, X239, ⟨Lc239, hQ239, l239, y239, z239⟩, st239⟩ := Jvm.LawKit.callS X234 hx (y := (⟨"com/example/honest_codec/honestcodec/IllFormedSequencePutHexPinLaw", "expectedAt", "(IIIIB)B"⟩ : MethodName)) hown (mvT hZ (hw _ (List.mem_of_getElem? (i := 8) rfl))) (mvT hZ (hw _ (List.mem_of_getElem? (i := 9) rfl))) (mvT hZ (hw _ (List.mem_of_getElem? (i := 10) rfl))) (mvT hZ (hw _ (List.mem_of_getElem? (i := 11) rfl))) (by decide) (backOf (W := 1) (own_rm2 l Z a0 hw [] (10 : Int32) p_1 v21 v23 (p_4.toInt8.toInt32)  T77.heap n0 (by omega) (own_nar_b _)) hZ (hw _ (List.mem_of_getElem? (i := 11) rfl)) (hw _ (List.mem_of_getElem? (i := 10) rfl)) (by decide) (by decide)) (g := (mkF m 589 #[.val (.int p_1), .val (.int p_2), .val (.int p_3), .val (.int p_4), .val (.int (p_1.toInt8.toInt32)), .val (.int v3), .val (.int v4), .val (.int v5), .val (.ref b6), .val (.int v21), .val (.int v23), .val (.int (p_4.toInt8.toInt32)), .val (.ref b24), .val (.int r78), .val (.int v175), .val (.int (1 : Int32))] [(.int (p_4.toInt8.toInt32)), (.int v23), (.int v21), (.int p_1), (.int (10 : Int32)), (.int (own_hw (v21).toNatClampNeg v23 (p_4.toInt8.toInt32) (p_1.toInt8.toInt32) v3 v4 v5 10))])) rfl (by rw [hml]; rfl) (argsL := [(.int (10 : Int32)), (.int p_1), (.int v21), (.int v23), (.int (p_4.toInt8.toInt32))]) (rest := [(.int (own_hw (v21).toNatClampNeg v23 (p_4.toInt8.toInt32) (p_1.toInt8.toInt32) v3 v4 v5 10))]) (lenOf own_pd2 rfl) rfl (by show 2 * 0 + _ ≤ _; exact Nat.le_of_eq rfl) (hb hby at_589) (fun _ _ => ⟨rfl, e234, (by show k234 + _ ≤ _; rw [y234]; decide), (by show n234 + _ ≤ _; rw [z234]; decide)⟩)
    dsimp only [Pt.U, Pt.locs, Pt.cells, Pt.slots] at X239 l239 y239 z239 st239 hQ239
    have y239 : k239 = 2 := own_addeq y239 (congrArg (fun q => q) y234) rfl
    have z239 : n239 = 20 := own_addeq z239 (congrArg (fun q => q) z234) rfl
    obtain ⟨r240, rfl, N239q, hr_r240, e239⟩ := hQ239
    have N239 : Fr n0 L239 := by rw [l239]; exact Fr.app N234 N239q
    refine own_go (fun _ k => st239 _ k) ?_
    show own_Go _ _ _ _ T239 (mkF m 592 #[.val (.int p_1), .val (.int p_2), .val (.int p_3), .val (.int p_4), .val (.int (p_1.toInt8.toInt32)), .val (.int v3), .val (.int v4), .val (.int v5), .val (.ref b6), .val (.int v21), .val (.int v23), .val (.int (p_4.toInt8.toInt32)), .val (.ref b24), .val (.int r78), .val (.int v175), .val (.int (1 : Int32))] [(.int r240), (.int (own_hw (v21).toNatClampNeg v23 (p_4.toInt8.toInt32) (p_1.toInt8.toInt32) v3 v4 v5 10))])
    have hc241 : (own_hw (v21).toNatClampNeg v23 (p_4.toInt8.toInt32) (p_1.toInt8.toInt32) v3 v4 v5 10) = r240 := own_t0_30 p_1 p_2 p_3 p_4 v3 v4 v5 v21 v23 v175 r240 hdv3 hdv4 hdv5 hdv21 hdv23 hl hp hdv175 hr_r240
    refine own_go (fun _ k => XS.icmpNo X239.here hx rfl (hb hby at_592) rfl (Jvm.Free.XT.ii_ne_f hc241) k) ?_
    show own_Go _ _ _ _ T239 (mkF m 595 #[.val (.int p_1), .val (.int p_2), .val (.int p_3), .val (.int p_4), .val (.int (p_1.toInt8.toInt32)), .val (.int v3), .val (.int v4), .val (.int v5), .val (.ref b6), .val (.int v21), .val (.int v23), .val (.int (p_4.toInt8.toInt32)), .val (.ref b24), .val (.int r78), .val (.int v175), .val (.int (1 : Int32))] [])
    refine own_go (fun _ k => XS.iconst X239.here hx rfl (hb hby at_595) k) ?_
    show own_Go _ _ _ _ T239 (mkF m 596 #[.val (.int p_1), .val (.int p_2), .val (.int p_3), .val (.int p_4), .val (.int (p_1.toInt8.toInt32)), .val (.int v3), .val (.int v4), .val (.int v5), .val (.ref b6), .val (.int v21), .val (.int v23), .val (.int (p_4.toInt8.toInt32)), .val (.ref b24), .val (.int r78), .val (.int v175), .val (.int (1 : Int32))] [(.int (1 : Int32))])
    refine own_go (fun _ k => XS.goto X239.here hx rfl (pc0 := 596) (pc' := 600) rfl (hb hby at_596) (by decide) (by decide) k) ?_
    show own_Go _ _ _ _ T239 (mkF m 600 #[.val (.int p_1), .val (.int p_2), .val (.int p_3), .val (.int p_4), .val (.int (p_1.toInt8.toInt32)), .val (.int v3), .val (.int v4), .val (.int v5), .val (.ref b6), .val (.int v21), .val (.int v23), .val (.int (p_4.toInt8.toInt32)), .val (.ref b24), .val (.int r78), .val (.int v175), .val (.int (1 : Int32))] [(.int (1 : Int32))])
    refine own_go (fun _ k => XS.istore X239.here hx rfl (hb hby at_600) rfl (l' := #[.val (.int p_1), .val (.int p_2), .val (.int p_3), .val (.int p_4), .val (.int (p_1.toInt8.toInt32)), .val (.int v3), .val (.int v4), .val (.int v5), .val (.ref b6), .val (.int v21), .val (.int v23), .val (.int (p_4.toInt8.toInt32)), .val (.ref b24), .val (.int r78), .val (.int v175), .val (.int (1 : Int32))]) rfl k) ?_
    show own_Go _ _ _ _ T239 (mkF m 602 #[.val (.int p_1), .val (.int p_2), .val (.int p_3), .val (.int p_4), .val (.int (p_1.toInt8.toInt32)), .val (.int v3), .val (.int v4), .val (.int v5), .val (.ref b6), .val (.int v21), .val (.int v23), .val (.int (p_4.toInt8.toInt32)), .val (.ref b24), .val (.int r78), .val (.int v175), .val (.int (1 : Int32))] [])
    refine own_go (fun _ k => XS.iload X239.here hx rfl (hb hby at_602) rfl k) ?_
    show own_Go _ _ _ _ T239 (mkF m 604 #[.val (.int p_1), .val (.int p_2), .val (.int p_3), .val (.int p_4), .val (.int (p_1.toInt8.toInt32)), .val (.int v3), .val (.int v4), .val (.int v5), .val (.ref b6), .val (.int v21), .val (.int v23), .val (.int (p_4.toInt8.toInt32)), .val (.ref b24), .val (.int r78), .val (.int v175), .val (.int (1 : Int32))] [(.int (1 : Int32))])
    have hc242 : ¬ ((1 : Int32) = 0) := by decide
    refine own_go (fun _ k => XS.ifNo X239.here hx rfl (hb hby at_604) rfl (Jvm.Free.XT.i0_eq_f hc242) k) ?_
    show own_Go _ _ _ _ T239 (mkF m 607 #[.val (.int p_1), .val (.int p_2), .val (.int p_3), .val (.int p_4), .val (.int (p_1.toInt8.toInt32)), .val (.int v3), .val (.int v4), .val (.int v5), .val (.ref b6), .val (.int v21), .val (.int v23), .val (.int (p_4.toInt8.toInt32)), .val (.ref b24), .val (.int r78), .val (.int v175), .val (.int (1 : Int32))] [])
    refine own_go (fun _ k => XS.aload X239.here hx rfl (hb hby at_607) rfl rfl k) ?_
    show own_Go _ _ _ _ T239 (mkF m 609 #[.val (.int p_1), .val (.int p_2), .val (.int p_3), .val (.int p_4), .val (.int (p_1.toInt8.toInt32)), .val (.int v3), .val (.int v4), .val (.int v5), .val (.ref b6), .val (.int v21), .val (.int v23), .val (.int (p_4.toInt8.toInt32)), .val (.ref b24), .val (.int r78), .val (.int v175), .val (.int (1 : Int32))] [(.ref b24)])
    refine own_go (fun _ k => XS.bipush X239.here hx rfl (hb hby at_609) k) ?_
    show own_Go _ _ _ _ T239 (mkF m 611 #[.val (.int p_1), .val (.int p_2), .val (.int p_3), .val (.int p_4), .val (.int (p_1.toInt8.toInt32)), .val (.int v3), .val (.int v4), .val (.int v5), .val (.ref b6), .val (.int v21), .val (.int v23), .val (.int (p_4.toInt8.toInt32)), .val (.ref b24), .val (.int r78), .val (.int v175), .val (.int (1 : Int32))] [(.int (11 : Int32)), (.ref b24)])
    obtain ⟨q243, c243, R243, s243, t243⟩ := id f79
    have hin243 : ¬ ((11 : Int32) < 0 ∨ c243.slots.size ≤ ((11 : Int32)).toNatClampNeg) := inb_of s243 ⟨by decide, by decide⟩
    have u243 : c243.slots[((11 : Int32)).toNatClampNeg]? = some (.int (own_hw (v21).toNatClampNeg v23 (p_4.toInt8.toInt32) (p_1.toInt8.toInt32) v3 v4 v5 11)) := own_at (k := 11) t243 s243 hin243 (by decide) (own_hx_hw _ _ _ _ _ _ _ _ _ rfl)
    refine own_go (fun _ k => X239.baloadBytes hx (j := (11 : Int32)) (v := (.int (own_hw (v21).toNatClampNeg v23 (p_4.toInt8.toInt32) (p_1.toInt8.toInt32) v3 v4 v5 11))) (by rw [e239]; exact R243.1) (State.isArrayOf_alike hZ.alike R243.2.1) R243.2.2 hin243 u243 (g := (mkF m 611 #[.val (.int p_1), .val (.int p_2), .val (.int p_3), .val (.int p_4), .val (.int (p_1.toInt8.toInt32)), .val (.int v3), .val (.int v4), .val (.int v5), .val (.ref b6), .val (.int v21), .val (.int v23), .val (.int (p_4.toInt8.toInt32)), .val (.ref b24), .val (.int r78), .val (.int v175), .val (.int (1 : Int32))] [(.int (11 : Int32)), (.ref b24)])) rfl rfl (hb hby at_611) _ k) ?_
    show own_Go _ _ _ _ T239 (mkF m 612 #[.val (.int p_1), .val (.int p_2), .val (.int p_3), .val (.int p_4), .val (.int (p_1.toInt8.toInt32)), .val (.int v3), .val (.int v4), .val (.int v5), .val (.ref b6), .val (.int v21), .val (.int v23), .val (.int (p_4.toInt8.toInt32)), .val (.ref b24), .val (.int r78), .val (.int v175), .val (.int (1 : Int32))] [(.int (own_hw (v21).toNatClampNeg v23 (p_4.toInt8.toInt32) (p_1.toInt8.toInt32) v3 v4 v5 11))])
    refine own_go (fun _ k => XS.bipush X239.here hx rfl (hb hby at_612) k) ?_
    show own_Go _ _ _ _ T239 (mkF m 614 #[.val (.int p_1), .val (.int p_2), .val (.int p_3), .val (.int p_4), .val (.int (p_1.toInt8.toInt32)), .val (.int v3), .val (.int v4), .val (.int v5), .val (.ref b6), .val (.int v21), .val (.int v23), .val (.int (p_4.toInt8.toInt32)), .val (.ref b24), .val (.int r78), .val (.int v175), .val (.int (1 : Int32))] [(.int (11 : Int32)), (.int (own_hw (v21).toNatClampNeg v23 (p_4.toInt8.toInt32) (p_1.toInt8.toInt32) v3 v4 v5 11))])
    refine own_go (fun _ k => XS.iloadN X239.here hx rfl (hb hby at_614) rfl k) ?_
    show own_Go _ _ _ _ T239 (mkF m 615 #[.val (.int p_1), .val (.int p_2), .val (.int p_3), .val (.int p_4), .val (.int (p_1.toInt8.toInt32)), .val (.int v3), .val (.int v4), .val (.int v5), .val (.ref b6), .val (.int v21), .val (.int v23), .val (.int (p_4.toInt8.toInt32)), .val (.ref b24), .val (.int r78), .val (.int v175), .val (.int (1 : Int32))] [(.int p_1), (.int (11 : Int32)), (.int (own_hw (v21).toNatClampNeg v23 (p_4.toInt8.toInt32) (p_1.toInt8.toInt32) v3 v4 v5 11))])
    refine own_go (fun _ k => XS.iload X239.here hx rfl (hb hby at_615) rfl k) ?_
    show own_Go _ _ _ _ T239 (mkF m 617 #[.val (.int p_1), .val (.int p_2), .val (.int p_3), .val (.int p_4), .val (.int (p_1.toInt8.toInt32)), .val (.int v3), .val (.int v4), .val (.int v5), .val (.ref b6), .val (.int v21), .val (.int v23), .val (.int (p_4.toInt8.toInt32)), .val (.ref b24), .val (.int r78), .val (.int v175), .val (.int (1 : Int32))] [(.int v21), (.int p_1), (.int (11 : Int32)), (.int (own_hw (v21).toNatClampNeg v23 (p_4.toInt8.toInt32) (p_1.toInt8.toInt32) v3 v4 v5 11))])
    refine own_go (fun _ k => XS.iload X239.here hx rfl (hb hby at_617) rfl k) ?_
    show own_Go _ _ _ _ T239 (mkF m 619 #[.val (.int p_1), .val (.int p_2), .val (.int p_3), .val (.int p_4), .val (.int (p_1.toInt8.toInt32)), .val (.int v3), .val (.int v4), .val (.int v5), .val (.ref b6), .val (.int v21), .val (.int v23), .val (.int (p_4.toInt8.toInt32)), .val (.ref b24), .val (.int r78), .val (.int v175), .val (.int (1 : Int32))] [(.int v23), (.int v21), (.int p_1), (.int (11 : Int32)), (.int (own_hw (v21).toNatClampNeg v23 (p_4.toInt8.toInt32) (p_1.toInt8.toInt32) v3 v4 v5 11))])
    refine own_go (fun _ k => XS.iload X239.here hx rfl (hb hby at_619) rfl k) ?_
    show own_Go _ _ _ _ T239 (mkF m 621 #[.val (.int p_1), .val (.int p_2), .val (.int p_3), .val (.int p_4), .val (.int (p_1.toInt8.toInt32)), .val (.int v3), .val (.int v4), .val (.int v5), .val (.ref b6), .val (.int v21), .val (.int v23), .val (.int (p_4.toInt8.toInt32)), .val (.ref b24), .val (.int r78), .val (.int v175), .val (.int (1 : Int32))] [(.int (p_4.toInt8.toInt32)), (.int v23), (.int v21), (.int p_1), (.int (11 : Int32)), (.int (own_hw (v21).toNatClampNeg v23 (p_4.toInt8.toInt32) (p_1.toInt8.toInt32) v3 v4 v5 11))])
    obtain ⟨_, _, ⟨T244, L244, k244, n244⟩, -, X244, ⟨Lc244, hQ244, l244, y244, z244⟩, st244⟩ := Jvm.LawKit.callS X239 hx (y := (⟨"com/example/honest_codec/honestcodec/IllFormedSequencePutHexPinLaw", "expectedAt", "(IIIIB)B"⟩ : MethodName)) hown (mvT hZ (hw _ (List.mem_of_getElem? (i := 8) rfl))) (mvT hZ (hw _ (List.mem_of_getElem? (i := 9) rfl))) (mvT hZ (hw _ (List.mem_of_getElem? (i := 10) rfl))) (mvT hZ (hw _ (List.mem_of_getElem? (i := 11) rfl))) (by decide) (backOf (W := 1) (own_rm2 l Z a0 hw [] (11 : Int32) p_1 v21 v23 (p_4.toInt8.toInt32)  T77.heap n0 (by omega) (own_nar_b _)) hZ (hw _ (List.mem_of_getElem? (i := 11) rfl)) (hw _ (List.mem_of_getElem? (i := 10) rfl)) (by decide) (by decide)) (g := (mkF m 621 #[.val (.int p_1), .val (.int p_2), .val (.int p_3), .val (.int p_4), .val (.int (p_1.toInt8.toInt32)), .val (.int v3), .val (.int v4), .val (.int v5), .val (.ref b6), .val (.int v21), .val (.int v23), .val (.int (p_4.toInt8.toInt32)), .val (.ref b24), .val (.int r78), .val (.int v175), .val (.int (1 : Int32))] [(.int (p_4.toInt8.toInt32)), (.int v23), (.int v21), (.int p_1), (.int (11 : Int32)), (.int (own_hw (v21).toNatClampNeg v23 (p_4.toInt8.toInt32) (p_1.toInt8.toInt32) v3 v4 v5 11))])) rfl (by rw [hml]; rfl) (argsL := [(.int (11 : Int32)), (.int p_1), (.int v21), (.int v23), (.int (p_4.toInt8.toInt32))]) (rest := [(.int (own_hw (v21).toNatClampNeg v23 (p_4.toInt8.toInt32) (p_1.toInt8.toInt32) v3 v4 v5 11))]) (lenOf own_pd2 rfl) rfl (by show 2 * 0 + _ ≤ _; exact Nat.le_of_eq rfl) (hb hby at_621) (fun _ _ => ⟨rfl, e239, (by show k239 + _ ≤ _; rw [y239]; decide), (by show n239 + _ ≤ _; rw [z239]; decide)⟩)
    dsimp only [Pt.U, Pt.locs, Pt.cells, Pt.slots] at X244 l244 y244 z244 st244 hQ244
    have y244 : k244 = 2 := own_addeq y244 (congrArg (fun q => q) y239) rfl
    have z244 : n244 = 20 := own_addeq z244 (congrArg (fun q => q) z239) rfl
    obtain ⟨r245, rfl, N244q, hr_r245, e244⟩ := hQ244
    have N244 : Fr n0 L244 := by rw [l244]; exact Fr.app N239 N244q
    refine own_go (fun _ k => st244 _ k) ?_
    show own_Go _ _ _ _ T244 (mkF m 624 #[.val (.int p_1), .val (.int p_2), .val (.int p_3), .val (.int p_4), .val (.int (p_1.toInt8.toInt32)), .val (.int v3), .val (.int v4), .val (.int v5), .val (.ref b6), .val (.int v21), .val (.int v23), .val (.int (p_4.toInt8.toInt32)), .val (.ref b24), .val (.int r78), .val (.int v175), .val (.int (1 : Int32))] [(.int r245), (.int (own_hw (v21).toNatClampNeg v23 (p_4.toInt8.toInt32) (p_1.toInt8.toInt32) v3 v4 v5 11))])
    have hc246 : (own_hw (v21).toNatClampNeg v23 (p_4.toInt8.toInt32) (p_1.toInt8.toInt32) v3 v4 v5 11) = r245 := own_t0_31 p_1 p_2 p_3 p_4 v3 v4 v5 v21 v23 v175 r245 hdv3 hdv4 hdv5 hdv21 hdv23 hl hp hdv175 hr_r245
    refine own_go (fun _ k => XS.icmpNo X244.here hx rfl (hb hby at_624) rfl (Jvm.Free.XT.ii_ne_f hc246) k) ?_
    show own_Go _ _ _ _ T244 (mkF m 627 #[.val (.int p_1), .val (.int p_2), .val (.int p_3), .val (.int p_4), .val (.int (p_1.toInt8.toInt32)), .val (.int v3), .val (.int v4), .val (.int v5), .val (.ref b6), .val (.int v21), .val (.int v23), .val (.int (p_4.toInt8.toInt32)), .val (.ref b24), .val (.int r78), .val (.int v175), .val (.int (1 : Int32))] [])
    refine own_go (fun _ k => XS.iconst X244.here hx rfl (hb hby at_627) k) ?_
    show own_Go _ _ _ _ T244 (mkF m 628 #[.val (.int p_1), .val (.int p_2), .val (.int p_3), .val (.int p_4), .val (.int (p_1.toInt8.toInt32)), .val (.int v3), .val (.int v4), .val (.int v5), .val (.ref b6), .val (.int v21), .val (.int v23), .val (.int (p_4.toInt8.toInt32)), .val (.ref b24), .val (.int r78), .val (.int v175), .val (.int (1 : Int32))] [(.int (1 : Int32))])
    refine own_go (fun _ k => XS.goto X244.here hx rfl (pc0 := 628) (pc' := 632) rfl (hb hby at_628) (by decide) (by decide) k) ?_
    show own_Go _ _ _ _ T244 (mkF m 632 #[.val (.int p_1), .val (.int p_2), .val (.int p_3), .val (.int p_4), .val (.int (p_1.toInt8.toInt32)), .val (.int v3), .val (.int v4), .val (.int v5), .val (.ref b6), .val (.int v21), .val (.int v23), .val (.int (p_4.toInt8.toInt32)), .val (.ref b24), .val (.int r78), .val (.int v175), .val (.int (1 : Int32))] [(.int (1 : Int32))])
    refine own_go (fun _ k => XS.istore X244.here hx rfl (hb hby at_632) rfl (l' := #[.val (.int p_1), .val (.int p_2), .val (.int p_3), .val (.int p_4), .val (.int (p_1.toInt8.toInt32)), .val (.int v3), .val (.int v4), .val (.int v5), .val (.ref b6), .val (.int v21), .val (.int v23), .val (.int (p_4.toInt8.toInt32)), .val (.ref b24), .val (.int r78), .val (.int v175), .val (.int (1 : Int32))]) rfl k) ?_
    show own_Go _ _ _ _ T244 (mkF m 634 #[.val (.int p_1), .val (.int p_2), .val (.int p_3), .val (.int p_4), .val (.int (p_1.toInt8.toInt32)), .val (.int v3), .val (.int v4), .val (.int v5), .val (.ref b6), .val (.int v21), .val (.int v23), .val (.int (p_4.toInt8.toInt32)), .val (.ref b24), .val (.int r78), .val (.int v175), .val (.int (1 : Int32))] [])
    refine own_go (fun _ k => XS.iload X244.here hx rfl (hb hby at_634) rfl k) ?_
    show own_Go _ _ _ _ T244 (mkF m 636 #[.val (.int p_1), .val (.int p_2), .val (.int p_3), .val (.int p_4), .val (.int (p_1.toInt8.toInt32)), .val (.int v3), .val (.int v4), .val (.int v5), .val (.ref b6), .val (.int v21), .val (.int v23), .val (.int (p_4.toInt8.toInt32)), .val (.ref b24), .val (.int r78), .val (.int v175), .val (.int (1 : Int32))] [(.int (1 : Int32))])
    have hc247 : ¬ ((1 : Int32) = 0) := by decide
    refine own_go (fun _ k => XS.ifNo X244.here hx rfl (hb hby at_636) rfl (Jvm.Free.XT.i0_eq_f hc247) k) ?_
    show own_Go _ _ _ _ T244 (mkF m 639 #[.val (.int p_1), .val (.int p_2), .val (.int p_3), .val (.int p_4), .val (.int (p_1.toInt8.toInt32)), .val (.int v3), .val (.int v4), .val (.int v5), .val (.ref b6), .val (.int v21), .val (.int v23), .val (.int (p_4.toInt8.toInt32)), .val (.ref b24), .val (.int r78), .val (.int v175), .val (.int (1 : Int32))] [])
    refine own_go (fun _ k => XS.aload X244.here hx rfl (hb hby at_639) rfl rfl k) ?_
    show own_Go _ _ _ _ T244 (mkF m 641 #[.val (.int p_1), .val (.int p_2), .val (.int p_3), .val (.int p_4), .val (.int (p_1.toInt8.toInt32)), .val (.int v3), .val (.int v4), .val (.int v5), .val (.ref b6), .val (.int v21), .val (.int v23), .val (.int (p_4.toInt8.toInt32)), .val (.ref b24), .val (.int r78), .val (.int v175), .val (.int (1 : Int32))] [(.ref b24)])
    refine own_go (fun _ k => XS.bipush X244.here hx rfl (hb hby at_641) k) ?_
    show own_Go _ _ _ _ T244 (mkF m 643 #[.val (.int p_1), .val (.int p_2), .val (.int p_3), .val (.int p_4), .val (.int (p_1.toInt8.toInt32)), .val (.int v3), .val (.int v4), .val (.int v5), .val (.ref b6), .val (.int v21), .val (.int v23), .val (.int (p_4.toInt8.toInt32)), .val (.ref b24), .val (.int r78), .val (.int v175), .val (.int (1 : Int32))] [(.int (12 : Int32)), (.ref b24)])
    obtain ⟨q248, c248, R248, s248, t248⟩ := id f79
    have hin248 : ¬ ((12 : Int32) < 0 ∨ c248.slots.size ≤ ((12 : Int32)).toNatClampNeg) := inb_of s248 ⟨by decide, by decide⟩
    have u248 : c248.slots[((12 : Int32)).toNatClampNeg]? = some (.int (own_hw (v21).toNatClampNeg v23 (p_4.toInt8.toInt32) (p_1.toInt8.toInt32) v3 v4 v5 12)) := own_at (k := 12) t248 s248 hin248 (by decide) (own_hx_hw _ _ _ _ _ _ _ _ _ rfl)
    refine own_go (fun _ k => X244.baloadBytes hx (j := (12 : Int32)) (v := (.int (own_hw (v21).toNatClampNeg v23 (p_4.toInt8.toInt32) (p_1.toInt8.toInt32) v3 v4 v5 12))) (by rw [e244]; exact R248.1) (State.isArrayOf_alike hZ.alike R248.2.1) R248.2.2 hin248 u248 (g := (mkF m 643 #[.val (.int p_1), .val (.int p_2), .val (.int p_3), .val (.int p_4), .val (.int (p_1.toInt8.toInt32)), .val (.int v3), .val (.int v4), .val (.int v5), .val (.ref b6), .val (.int v21), .val (.int v23), .val (.int (p_4.toInt8.toInt32)), .val (.ref b24), .val (.int r78), .val (.int v175), .val (.int (1 : Int32))] [(.int (12 : Int32)), (.ref b24)])) rfl rfl (hb hby at_643) _ k) ?_
    show own_Go _ _ _ _ T244 (mkF m 644 #[.val (.int p_1), .val (.int p_2), .val (.int p_3), .val (.int p_4), .val (.int (p_1.toInt8.toInt32)), .val (.int v3), .val (.int v4), .val (.int v5), .val (.ref b6), .val (.int v21), .val (.int v23), .val (.int (p_4.toInt8.toInt32)), .val (.ref b24), .val (.int r78), .val (.int v175), .val (.int (1 : Int32))] [(.int (own_hw (v21).toNatClampNeg v23 (p_4.toInt8.toInt32) (p_1.toInt8.toInt32) v3 v4 v5 12))])
    refine own_go (fun _ k => XS.bipush X244.here hx rfl (hb hby at_644) k) ?_
    show own_Go _ _ _ _ T244 (mkF m 646 #[.val (.int p_1), .val (.int p_2), .val (.int p_3), .val (.int p_4), .val (.int (p_1.toInt8.toInt32)), .val (.int v3), .val (.int v4), .val (.int v5), .val (.ref b6), .val (.int v21), .val (.int v23), .val (.int (p_4.toInt8.toInt32)), .val (.ref b24), .val (.int r78), .val (.int v175), .val (.int (1 : Int32))] [(.int (12 : Int32)), (.int (own_hw (v21).toNatClampNeg v23 (p_4.toInt8.toInt32) (p_1.toInt8.toInt32) v3 v4 v5 12))])
    refine own_go (fun _ k => XS.iloadN X244.here hx rfl (hb hby at_646) rfl k) ?_
    show own_Go _ _ _ _ T244 (mkF m 647 #[.val (.int p_1), .val (.int p_2), .val (.int p_3), .val (.int p_4), .val (.int (p_1.toInt8.toInt32)), .val (.int v3), .val (.int v4), .val (.int v5), .val (.ref b6), .val (.int v21), .val (.int v23), .val (.int (p_4.toInt8.toInt32)), .val (.ref b24), .val (.int r78), .val (.int v175), .val (.int (1 : Int32))] [(.int p_1), (.int (12 : Int32)), (.int (own_hw (v21).toNatClampNeg v23 (p_4.toInt8.toInt32) (p_1.toInt8.toInt32) v3 v4 v5 12))])
    refine own_go (fun _ k => XS.iload X244.here hx rfl (hb hby at_647) rfl k) ?_
    show own_Go _ _ _ _ T244 (mkF m 649 #[.val (.int p_1), .val (.int p_2), .val (.int p_3), .val (.int p_4), .val (.int (p_1.toInt8.toInt32)), .val (.int v3), .val (.int v4), .val (.int v5), .val (.ref b6), .val (.int v21), .val (.int v23), .val (.int (p_4.toInt8.toInt32)), .val (.ref b24), .val (.int r78), .val (.int v175), .val (.int (1 : Int32))] [(.int v21), (.int p_1), (.int (12 : Int32)), (.int (own_hw (v21).toNatClampNeg v23 (p_4.toInt8.toInt32) (p_1.toInt8.toInt32) v3 v4 v5 12))])
    refine own_go (fun _ k => XS.iload X244.here hx rfl (hb hby at_649) rfl k) ?_
    show own_Go _ _ _ _ T244 (mkF m 651 #[.val (.int p_1), .val (.int p_2), .val (.int p_3), .val (.int p_4), .val (.int (p_1.toInt8.toInt32)), .val (.int v3), .val (.int v4), .val (.int v5), .val (.ref b6), .val (.int v21), .val (.int v23), .val (.int (p_4.toInt8.toInt32)), .val (.ref b24), .val (.int r78), .val (.int v175), .val (.int (1 : Int32))] [(.int v23), (.int v21), (.int p_1), (.int (12 : Int32)), (.int (own_hw (v21).toNatClampNeg v23 (p_4.toInt8.toInt32) (p_1.toInt8.toInt32) v3 v4 v5 12))])
    refine own_go (fun _ k => XS.iload X244.here hx rfl (hb hby at_651) rfl k) ?_
    show own_Go _ _ _ _ T244 (mkF m 653 #[.val (.int p_1), .val (.int p_2), .val (.int p_3), .val (.int p_4), .val (.int (p_1.toInt8.toInt32)), .val (.int v3), .val (.int v4), .val (.int v5), .val (.ref b6), .val (.int v21), .val (.int v23), .val (.int (p_4.toInt8.toInt32)), .val (.ref b24), .val (.int r78), .val (.int v175), .val (.int (1 : Int32))] [(.int (p_4.toInt8.toInt32)), (.int v23), (.int v21), (.int p_1), (.int (12 : Int32)), (.int (own_hw (v21).toNatClampNeg v23 (p_4.toInt8.toInt32) (p_1.toInt8.toInt32) v3 v4 v5 12))])
    obtain ⟨_, _, ⟨T249, L249, k249, n249⟩, -, X249, ⟨Lc249, hQ249, l249, y249, z249⟩, st249⟩ := Jvm.LawKit.callS X244 hx (y := (⟨"com/example/honest_codec/honestcodec/IllFormedSequencePutHexPinLaw", "expectedAt", "(IIIIB)B"⟩ : MethodName)) hown (mvT hZ (hw _ (List.mem_of_getElem? (i := 8) rfl))) (mvT hZ (hw _ (List.mem_of_getElem? (i := 9) rfl))) (mvT hZ (hw _ (List.mem_of_getElem? (i := 10) rfl))) (mvT hZ (hw _ (List.mem_of_getElem? (i := 11) rfl))) (by decide) (backOf (W := 1) (own_rm2 l Z a0 hw [] (12 : Int32) p_1 v21 v23 (p_4.toInt8.toInt32)  T77.heap n0 (by omega) (own_nar_b _)) hZ (hw _ (List.mem_of_getElem? (i := 11) rfl)) (hw _ (List.mem_of_getElem? (i := 10) rfl)) (by decide) (by decide)) (g := (mkF m 653 #[.val (.int p_1), .val (.int p_2), .val (.int p_3), .val (.int p_4), .val (.int (p_1.toInt8.toInt32)), .val (.int v3), .val (.int v4), .val (.int v5), .val (.ref b6), .val (.int v21), .val (.int v23), .val (.int (p_4.toInt8.toInt32)), .val (.ref b24), .val (.int r78), .val (.int v175), .val (.int (1 : Int32))] [(.int (p_4.toInt8.toInt32)), (.int v23), (.int v21), (.int p_1), (.int (12 : Int32)), (.int (own_hw (v21).toNatClampNeg v23 (p_4.toInt8.toInt32) (p_1.toInt8.toInt32) v3 v4 v5 12))])) rfl (by rw [hml]; rfl) (argsL := [(.int (12 : Int32)), (.int p_1), (.int v21), (.int v23), (.int (p_4.toInt8.toInt32))]) (rest := [(.int (own_hw (v21).toNatClampNeg v23 (p_4.toInt8.toInt32) (p_1.toInt8.toInt32) v3 v4 v5 12))]) (lenOf own_pd2 rfl) rfl (by show 2 * 0 + _ ≤ _; exact Nat.le_of_eq rfl) (hb hby at_653) (fun _ _ => ⟨rfl, e244, (by show k244 + _ ≤ _; rw [y244]; decide), (by show n244 + _ ≤ _; rw [z244]; decide)⟩)
    dsimp only [Pt.U, Pt.locs, Pt.cells, Pt.slots] at X249 l249 y249 z249 st249 hQ249
    have y249 : k249 = 2 := own_addeq y249 (congrArg (fun q => q) y244) rfl
    have z249 : n249 = 20 := own_addeq z249 (congrArg (fun q => q) z244) rfl
    obtain ⟨r250, rfl, N249q, hr_r250, e249⟩ := hQ249
    have N249 : Fr n0 L249 := by rw [l249]; exact Fr.app N244 N249q
    refine own_go (fun _ k => st249 _ k) ?_
    show own_Go _ _ _ _ T249 (mkF m 656 #[.val (.int p_1), .val (.int p_2), .val (.int p_3), .val (.int p_4), .val (.int (p_1.toInt8.toInt32)), .val (.int v3), .val (.int v4), .val (.int v5), .val (.ref b6), .val (.int v21), .val (.int v23), .val (.int (p_4.toInt8.toInt32)), .val (.ref b24), .val (.int r78), .val (.int v175), .val (.int (1 : Int32))] [(.int r250), (.int (own_hw (v21).toNatClampNeg v23 (p_4.toInt8.toInt32) (p_1.toInt8.toInt32) v3 v4 v5 12))])
    have hc251 : (own_hw (v21).toNatClampNeg v23 (p_4.toInt8.toInt32) (p_1.toInt8.toInt32) v3 v4 v5 12) = r250 := own_t0_32 p_1 p_2 p_3 p_4 v3 v4 v5 v21 v23 v175 r250 hdv3 hdv4 hdv5 hdv21 hdv23 hl hp hdv175 hr_r250
    refine own_go (fun _ k => XS.icmpNo X249.here hx rfl (hb hby at_656) rfl (Jvm.Free.XT.ii_ne_f hc251) k) ?_
    show own_Go _ _ _ _ T249 (mkF m 659 #[.val (.int p_1), .val (.int p_2), .val (.int p_3), .val (.int p_4), .val (.int (p_1.toInt8.toInt32)), .val (.int v3), .val (.int v4), .val (.int v5), .val (.ref b6), .val (.int v21), .val (.int v23), .val (.int (p_4.toInt8.toInt32)), .val (.ref b24), .val (.int r78), .val (.int v175), .val (.int (1 : Int32))] [])
    refine own_go (fun _ k => XS.iconst X249.here hx rfl (hb hby at_659) k) ?_
    show own_Go _ _ _ _ T249 (mkF m 660 #[.val (.int p_1), .val (.int p_2), .val (.int p_3), .val (.int p_4), .val (.int (p_1.toInt8.toInt32)), .val (.int v3), .val (.int v4), .val (.int v5), .val (.ref b6), .val (.int v21), .val (.int v23), .val (.int (p_4.toInt8.toInt32)), .val (.ref b24), .val (.int r78), .val (.int v175), .val (.int (1 : Int32))] [(.int (1 : Int32))])
    refine own_go (fun _ k => XS.goto X249.here hx rfl (pc0 := 660) (pc' := 664) rfl (hb hby at_660) (by decide) (by decide) k) ?_
    show own_Go _ _ _ _ T249 (mkF m 664 #[.val (.int p_1), .val (.int p_2), .val (.int p_3), .val (.int p_4), .val (.int (p_1.toInt8.toInt32)), .val (.int v3), .val (.int v4), .val (.int v5), .val (.ref b6), .val (.int v21), .val (.int v23), .val (.int (p_4.toInt8.toInt32)), .val (.ref b24), .val (.int r78), .val (.int v175), .val (.int (1 : Int32))] [(.int (1 : Int32))])
    refine own_go (fun _ k => XS.istore X249.here hx rfl (hb hby at_664) rfl (l' := #[.val (.int p_1), .val (.int p_2), .val (.int p_3), .val (.int p_4), .val (.int (p_1.toInt8.toInt32)), .val (.int v3), .val (.int v4), .val (.int v5), .val (.ref b6), .val (.int v21), .val (.int v23), .val (.int (p_4.toInt8.toInt32)), .val (.ref b24), .val (.int r78), .val (.int v175), .val (.int (1 : Int32))]) rfl k) ?_
    show own_Go _ _ _ _ T249 (mkF m 666 #[.val (.int p_1), .val (.int p_2), .val (.int p_3), .val (.int p_4), .val (.int (p_1.toInt8.toInt32)), .val (.int v3), .val (.int v4), .val (.int v5), .val (.ref b6), .val (.int v21), .val (.int v23), .val (.int (p_4.toInt8.toInt32)), .val (.ref b24), .val (.int r78), .val (.int v175), .val (.int (1 : Int32))] [])
    refine own_go (fun _ k => XS.iload X249.here hx rfl (hb hby at_666) rfl k) ?_
    show own_Go _ _ _ _ T249 (mkF m 668 #[.val (.int p_1), .val (.int p_2), .val (.int p_3), .val (.int p_4), .val (.int (p_1.toInt8.toInt32)), .val (.int v3), .val (.int v4), .val (.int v5), .val (.ref b6), .val (.int v21), .val (.int v23), .val (.int (p_4.toInt8.toInt32)), .val (.ref b24), .val (.int r78), .val (.int v175), .val (.int (1 : Int32))] [(.int (1 : Int32))])
    have hc252 : ¬ ((1 : Int32) = 0) := by decide
    refine own_go (fun _ k => XS.ifNo X249.here hx rfl (hb hby at_668) rfl (Jvm.Free.XT.i0_eq_f hc252) k) ?_
    show own_Go _ _ _ _ T249 (mkF m 671 #[.val (.int p_1), .val (.int p_2), .val (.int p_3), .val (.int p_4), .val (.int (p_1.toInt8.toInt32)), .val (.int v3), .val (.int v4), .val (.int v5), .val (.ref b6), .val (.int v21), .val (.int v23), .val (.int (p_4.toInt8.toInt32)), .val (.ref b24), .val (.int r78), .val (.int v175), .val (.int (1 : Int32))] [])
    refine own_go (fun _ k => XS.aload X249.here hx rfl (hb hby at_671) rfl rfl k) ?_
    show own_Go _ _ _ _ T249 (mkF m 673 #[.val (.int p_1), .val (.int p_2), .val (.int p_3), .val (.int p_4), .val (.int (p_1.toInt8.toInt32)), .val (.int v3), .val (.int v4), .val (.int v5), .val (.ref b6), .val (.int v21), .val (.int v23), .val (.int (p_4.toInt8.toInt32)), .val (.ref b24), .val (.int r78), .val (.int v175), .val (.int (1 : Int32))] [(.ref b24)])
    refine own_go (fun _ k => XS.bipush X249.here hx rfl (hb hby at_673) k) ?_
    show own_Go _ _ _ _ T249 (mkF m 675 #[.val (.int p_1), .val (.int p_2), .val (.int p_3), .val (.int p_4), .val (.int (p_1.toInt8.toInt32)), .val (.int v3), .val (.int v4), .val (.int v5), .val (.ref b6), .val (.int v21), .val (.int v23), .val (.int (p_4.toInt8.toInt32)), .val (.ref b24), .val (.int r78), .val (.int v175), .val (.int (1 : Int32))] [(.int (13 : Int32)), (.ref b24)])
    obtain ⟨q253, c253, R253, s253, t253⟩ := id f79
    have hin253 : ¬ ((13 : Int32) < 0 ∨ c253.slots.size ≤ ((13 : Int32)).toNatClampNeg) := inb_of s253 ⟨by decide, by decide⟩
    have u253 : c253.slots[((13 : Int32)).toNatClampNeg]? = some (.int (own_hw (v21).toNatClampNeg v23 (p_4.toInt8.toInt32) (p_1.toInt8.toInt32) v3 v4 v5 13)) := own_at (k := 13) t253 s253 hin253 (by decide) (own_hx_hw _ _ _ _ _ _ _ _ _ rfl)
    refine own_go (fun _ k => X249.baloadBytes hx (j := (13 : Int32)) (v := (.int (own_hw (v21).toNatClampNeg v23 (p_4.toInt8.toInt32) (p_1.toInt8.toInt32) v3 v4 v5 13))) (by rw [e249]; exact R253.1) (State.isArrayOf_alike hZ.alike R253.2.1) R253.2.2 hin253 u253 (g := (mkF m 675 #[.val (.int p_1), .val (.int p_2), .val (.int p_3), .val (.int p_4), .val (.int (p_1.toInt8.toInt32)), .val (.int v3), .val (.int v4), .val (.int v5), .val (.ref b6), .val (.int v21), .val (.int v23), .val (.int (p_4.toInt8.toInt32)), .val (.ref b24), .val (.int r78), .val (.int v175), .val (.int (1 : Int32))] [(.int (13 : Int32)), (.ref b24)])) rfl rfl (hb hby at_675) _ k) ?_
    show own_Go _ _ _ _ T249 (mkF m 676 #[.val (.int p_1), .val (.int p_2), .val (.int p_3), .val (.int p_4), .val (.int (p_1.toInt8.toInt32)), .val (.int v3), .val (.int v4), .val (.int v5), .val (.ref b6), .val (.int v21), .val (.int v23), .val (.int (p_4.toInt8.toInt32)), .val (.ref b24), .val (.int r78), .val (.int v175), .val (.int (1 : Int32))] [(.int (own_hw (v21).toNatClampNeg v23 (p_4.toInt8.toInt32) (p_1.toInt8.toInt32) v3 v4 v5 13))])
    refine own_go (fun _ k => XS.bipush X249.here hx rfl (hb hby at_676) k) ?_
    show own_Go _ _ _ _ T249 (mkF m 678 #[.val (.int p_1), .val (.int p_2), .val (.int p_3), .val (.int p_4), .val (.int (p_1.toInt8.toInt32)), .val (.int v3), .val (.int v4), .val (.int v5), .val (.ref b6), .val (.int v21), .val (.int v23), .val (.int (p_4.toInt8.toInt32)), .val (.ref b24), .val (.int r78), .val (.int v175), .val (.int (1 : Int32))] [(.int (13 : Int32)), (.int (own_hw (v21).toNatClampNeg v23 (p_4.toInt8.toInt32) (p_1.toInt8.toInt32) v3 v4 v5 13))])
    refine own_go (fun _ k => XS.iloadN X249.here hx rfl (hb hby at_678) rfl k) ?_
    show own_Go _ _ _ _ T249 (mkF m 679 #[.val (.int p_1), .val (.int p_2), .val (.int p_3), .val (.int p_4), .val (.int (p_1.toInt8.toInt32)), .val (.int v3), .val (.int v4), .val (.int v5), .val (.ref b6), .val (.int v21), .val (.int v23), .val (.int (p_4.toInt8.toInt32)), .val (.ref b24), .val (.int r78), .val (.int v175), .val (.int (1 : Int32))] [(.int p_1), (.int (13 : Int32)), (.int (own_hw (v21).toNatClampNeg v23 (p_4.toInt8.toInt32) (p_1.toInt8.toInt32) v3 v4 v5 13))])
    refine own_go (fun _ k => XS.iload X249.here hx rfl (hb hby at_679) rfl k) ?_
    show own_Go _ _ _ _ T249 (mkF m 681 #[.val (.int p_1), .val (.int p_2), .val (.int p_3), .val (.int p_4), .val (.int (p_1.toInt8.toInt32)), .val (.int v3), .val (.int v4), .val (.int v5), .val (.ref b6), .val (.int v21), .val (.int v23), .val (.int (p_4.toInt8.toInt32)), .val (.ref b24), .val (.int r78), .val (.int v175), .val (.int (1 : Int32))] [(.int v21), (.int p_1), (.int (13 : Int32)), (.int (own_hw (v21).toNatClampNeg v23 (p_4.toInt8.toInt32) (p_1.toInt8.toInt32) v3 v4 v5 13))])
    refine own_go (fun _ k => XS.iload X249.here hx rfl (hb hby at_681) rfl k) ?_
    show own_Go _ _ _ _ T249 (mkF m 683 #[.val (.int p_1), .val (.int p_2), .val (.int p_3), .val (.int p_4), .val (.int (p_1.toInt8.toInt32)), .val (.int v3), .val (.int v4), .val (.int v5), .val (.ref b6), .val (.int v21), .val (.int v23), .val (.int (p_4.toInt8.toInt32)), .val (.ref b24), .val (.int r78), .val (.int v175), .val (.int (1 : Int32))] [(.int v23), (.int v21), (.int p_1), (.int (13 : Int32)), (.int (own_hw (v21).toNatClampNeg v23 (p_4.toInt8.toInt32) (p_1.toInt8.toInt32) v3 v4 v5 13))])
    refine own_go (fun _ k => XS.iload X249.here hx rfl (hb hby at_683) rfl k) ?_
    show own_Go _ _ _ _ T249 (mkF m 685 #[.val (.int p_1), .val (.int p_2), .val (.int p_3), .val (.int p_4), .val (.int (p_1.toInt8.toInt32)), .val (.int v3), .val (.int v4), .val (.int v5), .val (.ref b6), .val (.int v21), .val (.int v23), .val (.int (p_4.toInt8.toInt32)), .val (.ref b24), .val (.int r78), .val (.int v175), .val (.int (1 : Int32))] [(.int (p_4.toInt8.toInt32)), (.int v23), (.int v21), (.int p_1), (.int (13 : Int32)), (.int (own_hw (v21).toNatClampNeg v23 (p_4.toInt8.toInt32) (p_1.toInt8.toInt32) v3 v4 v5 13))])
    obtain ⟨_, _, ⟨T254, L254, k254, n254⟩, -, X254, ⟨Lc254, hQ254, l254, y254, z254⟩, st254⟩ := Jvm.LawKit.callS X249 hx (y := (⟨"com/example/honest_codec/honestcodec/IllFormedSequencePutHexPinLaw", "expectedAt", "(IIIIB)B"⟩ : MethodName)) hown (mvT hZ (hw _ (List.mem_of_getElem? (i := 8) rfl))) (mvT hZ (hw _ (List.mem_of_getElem? (i := 9) rfl))) (mvT hZ (hw _ (List.mem_of_getElem? (i := 10) rfl))) (mvT hZ (hw _ (List.mem_of_getElem? (i := 11) rfl))) (by decide) (backOf (W := 1) (own_rm2 l Z a0 hw [] (13 : Int32) p_1 v21 v23 (p_4.toInt8.toInt32)  T77.heap n0 (by omega) (own_nar_b _)) hZ (hw _ (List.mem_of_getElem? (i := 11) rfl)) (hw _ (List.mem_of_getElem? (i := 10) rfl)) (by decide) (by decide)) (g := (mkF m 685 #[.val (.int p_1), .val (.int p_2), .val (.int p_3), .val (.int p_4), .val (.int (p_1.toInt8.toInt32)), .val (.int v3), .val (.int v4), .val (.int v5), .val (.ref b6), .val (.int v21), .val (.int v23), .val (.int (p_4.toInt8.toInt32)), .val (.ref b24), .val (.int r78), .val (.int v175), .val (.int (1 : Int32))] [(.int (p_4.toInt8.toInt32)), (.int v23), (.int v21), (.int p_1), (.int (13 : Int32)), (.int (own_hw (v21).toNatClampNeg v23 (p_4.toInt8.toInt32) (p_1.toInt8.toInt32) v3 v4 v5 13))])) rfl (by rw [hml]; rfl) (argsL := [(.int (13 : Int32)), (.int p_1), (.int v21), (.int v23), (.int (p_4.toInt8.toInt32))]) (rest := [(.int (own_hw (v21).toNatClampNeg v23 (p_4.toInt8.toInt32) (p_1.toInt8.toInt32) v3 v4 v5 13))]) (lenOf own_pd2 rfl) rfl (by show 2 * 0 + _ ≤ _; exact Nat.le_of_eq rfl) (hb hby at_685) (fun _ _ => ⟨rfl, e249, (by show k249 + _ ≤ _; rw [y249]; decide), (by show n249 + _ ≤ _; rw [z249]; decide)⟩)
    dsimp only [Pt.U, Pt.locs, Pt.cells, Pt.slots] at X254 l254 y254 z254 st254 hQ254
    have y254 : k254 = 2 := own_addeq y254 (congrArg (fun q => q) y249) rfl
    have z254 : n254 = 20 := own_addeq z254 (congrArg (fun q => q) z249) rfl
    obtain ⟨r255, rfl, N254q, hr_r255, e254⟩ := hQ254
    have N254 : Fr n0 L254 := by rw [l254]; exact Fr.app N249 N254q
    refine own_go (fun _ k => st254 _ k) ?_
    show own_Go _ _ _ _ T254 (mkF m 688 #[.val (.int p_1), .val (.int p_2), .val (.int p_3), .val (.int p_4), .val (.int (p_1.toInt8.toInt32)), .val (.int v3), .val (.int v4), .val (.int v5), .val (.ref b6), .val (.int v21), .val (.int v23), .val (.int (p_4.toInt8.toInt32)), .val (.ref b24), .val (.int r78), .val (.int v175), .val (.int (1 : Int32))] [(.int r255), (.int (own_hw (v21).toNatClampNeg v23 (p_4.toInt8.toInt32) (p_1.toInt8.toInt32) v3 v4 v5 13))])
    have hc256 : (own_hw (v21).toNatClampNeg v23 (p_4.toInt8.toInt32) (p_1.toInt8.toInt32) v3 v4 v5 13) = r255 := own_t0_33 p_1 p_2 p_3 p_4 v3 v4 v5 v21 v23 v175 r255 hdv3 hdv4 hdv5 hdv21 hdv23 hl hp hdv175 hr_r255
    refine own_go (fun _ k => XS.icmpNo X254.here hx rfl (hb hby at_688) rfl (Jvm.Free.XT.ii_ne_f hc256) k) ?_
    show own_Go _ _ _ _ T254 (mkF m 691 #[.val (.int p_1), .val (.int p_2), .val (.int p_3), .val (.int p_4), .val (.int (p_1.toInt8.toInt32)), .val (.int v3), .val (.int v4), .val (.int v5), .val (.ref b6), .val (.int v21), .val (.int v23), .val (.int (p_4.toInt8.toInt32)), .val (.ref b24), .val (.int r78), .val (.int v175), .val (.int (1 : Int32))] [])
    refine own_go (fun _ k => XS.iconst X254.here hx rfl (hb hby at_691) k) ?_
    show own_Go _ _ _ _ T254 (mkF m 692 #[.val (.int p_1), .val (.int p_2), .val (.int p_3), .val (.int p_4), .val (.int (p_1.toInt8.toInt32)), .val (.int v3), .val (.int v4), .val (.int v5), .val (.ref b6), .val (.int v21), .val (.int v23), .val (.int (p_4.toInt8.toInt32)), .val (.ref b24), .val (.int r78), .val (.int v175), .val (.int (1 : Int32))] [(.int (1 : Int32))])
    refine own_go (fun _ k => XS.goto X254.here hx rfl (pc0 := 692) (pc' := 696) rfl (hb hby at_692) (by decide) (by decide) k) ?_
    show own_Go _ _ _ _ T254 (mkF m 696 #[.val (.int p_1), .val (.int p_2), .val (.int p_3), .val (.int p_4), .val (.int (p_1.toInt8.toInt32)), .val (.int v3), .val (.int v4), .val (.int v5), .val (.ref b6), .val (.int v21), .val (.int v23), .val (.int (p_4.toInt8.toInt32)), .val (.ref b24), .val (.int r78), .val (.int v175), .val (.int (1 : Int32))] [(.int (1 : Int32))])
    refine own_go (fun _ k => XS.istore X254.here hx rfl (hb hby at_696) rfl (l' := #[.val (.int p_1), .val (.int p_2), .val (.int p_3), .val (.int p_4), .val (.int (p_1.toInt8.toInt32)), .val (.int v3), .val (.int v4), .val (.int v5), .val (.ref b6), .val (.int v21), .val (.int v23), .val (.int (p_4.toInt8.toInt32)), .val (.ref b24), .val (.int r78), .val (.int v175), .val (.int (1 : Int32))]) rfl k) ?_
    show own_Go _ _ _ _ T254 (mkF m 698 #[.val (.int p_1), .val (.int p_2), .val (.int p_3), .val (.int p_4), .val (.int (p_1.toInt8.toInt32)), .val (.int v3), .val (.int v4), .val (.int v5), .val (.ref b6), .val (.int v21), .val (.int v23), .val (.int (p_4.toInt8.toInt32)), .val (.ref b24), .val (.int r78), .val (.int v175), .val (.int (1 : Int32))] [])
    refine own_go (fun _ k => XS.iload X254.here hx rfl (hb hby at_698) rfl k) ?_
    show own_Go _ _ _ _ T254 (mkF m 700 #[.val (.int p_1), .val (.int p_2), .val (.int p_3), .val (.int p_4), .val (.int (p_1.toInt8.toInt32)), .val (.int v3), .val (.int v4), .val (.int v5), .val (.ref b6), .val (.int v21), .val (.int v23), .val (.int (p_4.toInt8.toInt32)), .val (.ref b24), .val (.int r78), .val (.int v175), .val (.int (1 : Int32))] [(.int (1 : Int32))])
    have hc257 : ¬ ((1 : Int32) = 0) := by decide
    refine own_go (fun _ k => XS.ifNo X254.here hx rfl (hb hby at_700) rfl (Jvm.Free.XT.i0_eq_f hc257) k) ?_
    show own_Go _ _ _ _ T254 (mkF m 703 #[.val (.int p_1), .val (.int p_2), .val (.int p_3), .val (.int p_4), .val (.int (p_1.toInt8.toInt32)), .val (.int v3), .val (.int v4), .val (.int v5), .val (.ref b6), .val (.int v21), .val (.int v23), .val (.int (p_4.toInt8.toInt32)), .val (.ref b24), .val (.int r78), .val (.int v175), .val (.int (1 : Int32))] [])
    refine own_go (fun _ k => XS.aload X254.here hx rfl (hb hby at_703) rfl rfl k) ?_
    show own_Go _ _ _ _ T254 (mkF m 705 #[.val (.int p_1), .val (.int p_2), .val (.int p_3), .val (.int p_4), .val (.int (p_1.toInt8.toInt32)), .val (.int v3), .val (.int v4), .val (.int v5), .val (.ref b6), .val (.int v21), .val (.int v23), .val (.int (p_4.toInt8.toInt32)), .val (.ref b24), .val (.int r78), .val (.int v175), .val (.int (1 : Int32))] [(.ref b24)])
    refine own_go (fun _ k => XS.bipush X254.here hx rfl (hb hby at_705) k) ?_
    show own_Go _ _ _ _ T254 (mkF m 707 #[.val (.int p_1), .val (.int p_2), .val (.int p_3), .val (.int p_4), .val (.int (p_1.toInt8.toInt32)), .val (.int v3), .val (.int v4), .val (.int v5), .val (.ref b6), .val (.int v21), .val (.int v23), .val (.int (p_4.toInt8.toInt32)), .val (.ref b24), .val (.int r78), .val (.int v175), .val (.int (1 : Int32))] [(.int (14 : Int32)), (.ref b24)])
    obtain ⟨q258, c258, R258, s258, t258⟩ := id f79
    have hin258 : ¬ ((14 : Int32) < 0 ∨ c258.slots.size ≤ ((14 : Int32)).toNatClampNeg) := inb_of s258 ⟨by decide, by decide⟩
    have u258 : c258.slots[((14 : Int32)).toNatClampNeg]? = some (.int (own_hw (v21).toNatClampNeg v23 (p_4.toInt8.toInt32) (p_1.toInt8.toInt32) v3 v4 v5 14)) := own_at (k := 14) t258 s258 hin258 (by decide) (own_hx_hw _ _ _ _ _ _ _ _ _ rfl)
    refine own_go (fun _ k => X254.baloadBytes hx (j := (14 : Int32)) (v := (.int (own_hw (v21).toNatClampNeg v23 (p_4.toInt8.toInt32) (p_1.toInt8.toInt32) v3 v4 v5 14))) (by rw [e254]; exact R258.1) (State.isArrayOf_alike hZ.alike R258.2.1) R258.2.2 hin258 u258 (g := (mkF m 707 #[.val (.int p_1), .val (.int p_2), .val (.int p_3), .val (.int p_4), .val (.int (p_1.toInt8.toInt32)), .val (.int v3), .val (.int v4), .val (.int v5), .val (.ref b6), .val (.int v21), .val (.int v23), .val (.int (p_4.toInt8.toInt32)), .val (.ref b24), .val (.int r78), .val (.int v175), .val (.int (1 : Int32))] [(.int (14 : Int32)), (.ref b24)])) rfl rfl (hb hby at_707) _ k) ?_
    show own_Go _ _ _ _ T254 (mkF m 708 #[.val (.int p_1), .val (.int p_2), .val (.int p_3), .val (.int p_4), .val (.int (p_1.toInt8.toInt32)), .val (.int v3), .val (.int v4), .val (.int v5), .val (.ref b6), .val (.int v21), .val (.int v23), .val (.int (p_4.toInt8.toInt32)), .val (.ref b24), .val (.int r78), .val (.int v175), .val (.int (1 : Int32))] [(.int (own_hw (v21).toNatClampNeg v23 (p_4.toInt8.toInt32) (p_1.toInt8.toInt32) v3 v4 v5 14))])
    refine own_go (fun _ k => XS.bipush X254.here hx rfl (hb hby at_708) k) ?_
    show own_Go _ _ _ _ T254 (mkF m 710 #[.val (.int p_1), .val (.int p_2), .val (.int p_3), .val (.int p_4), .val (.int (p_1.toInt8.toInt32)), .val (.int v3), .val (.int v4), .val (.int v5), .val (.ref b6), .val (.int v21), .val (.int v23), .val (.int (p_4.toInt8.toInt32)), .val (.ref b24), .val (.int r78), .val (.int v175), .val (.int (1 : Int32))] [(.int (14 : Int32)), (.int (own_hw (v21).toNatClampNeg v23 (p_4.toInt8.toInt32) (p_1.toInt8.toInt32) v3 v4 v5 14))])
    refine own_go (fun _ k => XS.iloadN X254.here hx rfl (hb hby at_710) rfl k) ?_
    show own_Go _ _ _ _ T254 (mkF m 711 #[.val (.int p_1), .val (.int p_2), .val (.int p_3), .val (.int p_4), .val (.int (p_1.toInt8.toInt32)), .val (.int v3), .val (.int v4), .val (.int v5), .val (.ref b6), .val (.int v21), .val (.int v23), .val (.int (p_4.toInt8.toInt32)), .val (.ref b24), .val (.int r78), .val (.int v175), .val (.int (1 : Int32))] [(.int p_1), (.int (14 : Int32)), (.int (own_hw (v21).toNatClampNeg v23 (p_4.toInt8.toInt32) (p_1.toInt8.toInt32) v3 v4 v5 14))])
    refine own_go (fun _ k => XS.iload X254.here hx rfl (hb hby at_711) rfl k) ?_
    show own_Go _ _ _ _ T254 (mkF m 713 #[.val (.int p_1), .val (.int p_2), .val (.int p_3), .val (.int p_4), .val (.int (p_1.toInt8.toInt32)), .val (.int v3), .val (.int v4), .val (.int v5), .val (.ref b6), .val (.int v21), .val (.int v23), .val (.int (p_4.toInt8.toInt32)), .val (.ref b24), .val (.int r78), .val (.int v175), .val (.int (1 : Int32))] [(.int v21), (.int p_1), (.int (14 : Int32)), (.int (own_hw (v21).toNatClampNeg v23 (p_4.toInt8.toInt32) (p_1.toInt8.toInt32) v3 v4 v5 14))])
    refine own_go (fun _ k => XS.iload X254.here hx rfl (hb hby at_713) rfl k) ?_
    show own_Go _ _ _ _ T254 (mkF m 715 #[.val (.int p_1), .val (.int p_2), .val (.int p_3), .val (.int p_4), .val (.int (p_1.toInt8.toInt32)), .val (.int v3), .val (.int v4), .val (.int v5), .val (.ref b6), .val (.int v21), .val (.int v23), .val (.int (p_4.toInt8.toInt32)), .val (.ref b24), .val (.int r78), .val (.int v175), .val (.int (1 : Int32))] [(.int v23), (.int v21), (.int p_1), (.int (14 : Int32)), (.int (own_hw (v21).toNatClampNeg v23 (p_4.toInt8.toInt32) (p_1.toInt8.toInt32) v3 v4 v5 14))])
    refine own_go (fun _ k => XS.iload X254.here hx rfl (hb hby at_715) rfl k) ?_
    show own_Go _ _ _ _ T254 (mkF m 717 #[.val (.int p_1), .val (.int p_2), .val (.int p_3), .val (.int p_4), .val (.int (p_1.toInt8.toInt32)), .val (.int v3), .val (.int v4), .val (.int v5), .val (.ref b6), .val (.int v21), .val (.int v23), .val (.int (p_4.toInt8.toInt32)), .val (.ref b24), .val (.int r78), .val (.int v175), .val (.int (1 : Int32))] [(.int (p_4.toInt8.toInt32)), (.int v23), (.int v21), (.int p_1), (.int (14 : Int32)), (.int (own_hw (v21).toNatClampNeg v23 (p_4.toInt8.toInt32) (p_1.toInt8.toInt32) v3 v4 v5 14))])
    obtain ⟨_, _, ⟨T259, L259, k259, n259⟩, -, X259, ⟨Lc259, hQ259, l259, y259, z259⟩, st259⟩ := Jvm.LawKit.callS X254 hx (y := (⟨"com/example/honest_codec/honestcodec/IllFormedSequencePutHexPinLaw", "expectedAt", "(IIIIB)B"⟩ : MethodName)) hown (mvT hZ (hw _ (List.mem_of_getElem? (i := 8) rfl))) (mvT hZ (hw _ (List.mem_of_getElem? (i := 9) rfl))) (mvT hZ (hw _ (List.mem_of_getElem? (i := 10) rfl))) (mvT hZ (hw _ (List.mem_of_getElem? (i := 11) rfl))) (by decide) (backOf (W := 1) (own_rm2 l Z a0 hw [] (14 : Int32) p_1 v21 v23 (p_4.toInt8.toInt32)  T77.heap n0 (by omega) (own_nar_b _)) hZ (hw _ (List.mem_of_getElem? (i := 11) rfl)) (hw _ (List.mem_of_getElem? (i := 10) rfl)) (by decide) (by decide)) (g := (mkF m 717 #[.val (.int p_1), .val (.int p_2), .val (.int p_3), .val (.int p_4), .val (.int (p_1.toInt8.toInt32)), .val (.int v3), .val (.int v4), .val (.int v5), .val (.ref b6), .val (.int v21), .val (.int v23), .val (.int (p_4.toInt8.toInt32)), .val (.ref b24), .val (.int r78), .val (.int v175), .val (.int (1 : Int32))] [(.int (p_4.toInt8.toInt32)), (.int v23), (.int v21), (.int p_1), (.int (14 : Int32)), (.int (own_hw (v21).toNatClampNeg v23 (p_4.toInt8.toInt32) (p_1.toInt8.toInt32) v3 v4 v5 14))])) rfl (by rw [hml]; rfl) (argsL := [(.int (14 : Int32)), (.int p_1), (.int v21), (.int v23), (.int (p_4.toInt8.toInt32))]) (rest := [(.int (own_hw (v21).toNatClampNeg v23 (p_4.toInt8.toInt32) (p_1.toInt8.toInt32) v3 v4 v5 14))]) (lenOf own_pd2 rfl) rfl (by show 2 * 0 + _ ≤ _; exact Nat.le_of_eq rfl) (hb hby at_717) (fun _ _ => ⟨rfl, e254, (by show k254 + _ ≤ _; rw [y254]; decide), (by show n254 + _ ≤ _; rw [z254]; decide)⟩)
    dsimp only [Pt.U, Pt.locs, Pt.cells, Pt.slots] at X259 l259 y259 z259 st259 hQ259
    have y259 : k259 = 2 := own_addeq y259 (congrArg (fun q => q) y254) rfl
    have z259 : n259 = 20 := own_addeq z259 (congrArg (fun q => q) z254) rfl
    obtain ⟨r260, rfl, N259q, hr_r260, e259⟩ := hQ259
    have N259 : Fr n0 L259 := by rw [l259]; exact Fr.app N254 N259q
    refine own_go (fun _ k => st259 _ k) ?_
    show own_Go _ _ _ _ T259 (mkF m 720 #[.val (.int p_1), .val (.int p_2), .val (.int p_3), .val (.int p_4), .val (.int (p_1.toInt8.toInt32)), .val (.int v3), .val (.int v4), .val (.int v5), .val (.ref b6), .val (.int v21), .val (.int v23), .val (.int (p_4.toInt8.toInt32)), .val (.ref b24), .val (.int r78), .val (.int v175), .val (.int (1 : Int32))] [(.int r260), (.int (own_hw (v21).toNatClampNeg v23 (p_4.toInt8.toInt32) (p_1.toInt8.toInt32) v3 v4 v5 14))])
    have hc261 : (own_hw (v21).toNatClampNeg v23 (p_4.toInt8.toInt32) (p_1.toInt8.toInt32) v3 v4 v5 14) = r260 := own_t0_34 p_1 p_2 p_3 p_4 v3 v4 v5 v21 v23 v175 r260 hdv3 hdv4 hdv5 hdv21 hdv23 hl hp hdv175 hr_r260
    refine own_go (fun _ k => XS.icmpNo X259.here hx rfl (hb hby at_720) rfl (Jvm.Free.XT.ii_ne_f hc261) k) ?_
    show own_Go _ _ _ _ T259 (mkF m 723 #[.val (.int p_1), .val (.int p_2), .val (.int p_3), .val (.int p_4), .val (.int (p_1.toInt8.toInt32)), .val (.int v3), .val (.int v4), .val (.int v5), .val (.ref b6), .val (.int v21), .val (.int v23), .val (.int (p_4.toInt8.toInt32)), .val (.ref b24), .val (.int r78), .val (.int v175), .val (.int (1 : Int32))] [])
    refine own_go (fun _ k => XS.iconst X259.here hx rfl (hb hby at_723) k) ?_
    show own_Go _ _ _ _ T259 (mkF m 724 #[.val (.int p_1), .val (.int p_2), .val (.int p_3), .val (.int p_4), .val (.int (p_1.toInt8.toInt32)), .val (.int v3), .val (.int v4), .val (.int v5), .val (.ref b6), .val (.int v21), .val (.int v23), .val (.int (p_4.toInt8.toInt32)), .val (.ref b24), .val (.int r78), .val (.int v175), .val (.int (1 : Int32))] [(.int (1 : Int32))])
    refine own_go (fun _ k => XS.goto X259.here hx rfl (pc0 := 724) (pc' := 728) rfl (hb hby at_724) (by decide) (by decide) k) ?_
    show own_Go _ _ _ _ T259 (mkF m 728 #[.val (.int p_1), .val (.int p_2), .val (.int p_3), .val (.int p_4), .val (.int (p_1.toInt8.toInt32)), .val (.int v3), .val (.int v4), .val (.int v5), .val (.ref b6), .val (.int v21), .val (.int v23), .val (.int (p_4.toInt8.toInt32)), .val (.ref b24), .val (.int r78), .val (.int v175), .val (.int (1 : Int32))] [(.int (1 : Int32))])
    refine own_go (fun _ k => XS.istore X259.here hx rfl (hb hby at_728) rfl (l' := #[.val (.int p_1), .val (.int p_2), .val (.int p_3), .val (.int p_4), .val (.int (p_1.toInt8.toInt32)), .val (.int v3), .val (.int v4), .val (.int v5), .val (.ref b6), .val (.int v21), .val (.int v23), .val (.int (p_4.toInt8.toInt32)), .val (.ref b24), .val (.int r78), .val (.int v175), .val (.int (1 : Int32))]) rfl k) ?_
    show own_Go _ _ _ _ T259 (mkF m 730 #[.val (.int p_1), .val (.int p_2), .val (.int p_3), .val (.int p_4), .val (.int (p_1.toInt8.toInt32)), .val (.int v3), .val (.int v4), .val (.int v5), .val (.ref b6), .val (.int v21), .val (.int v23), .val (.int (p_4.toInt8.toInt32)), .val (.ref b24), .val (.int r78), .val (.int v175), .val (.int (1 : Int32))] [])
    refine own_go (fun _ k => XS.iload X259.here hx rfl (hb hby at_730) rfl k) ?_
    show own_Go _ _ _ _ T259 (mkF m 732 #[.val (.int p_1), .val (.int p_2), .val (.int p_3), .val (.int p_4), .val (.int (p_1.toInt8.toInt32)), .val (.int v3), .val (.int v4), .val (.int v5), .val (.ref b6), .val (.int v21), .val (.int v23), .val (.int (p_4.toInt8.toInt32)), .val (.ref b24), .val (.int r78), .val (.int v175), .val (.int (1 : Int32))] [(.int (1 : Int32))])
    have hc262 : ¬ ((1 : Int32) = 0) := by decide
    refine own_go (fun _ k => XS.ifNo X259.here hx rfl (hb hby at_732) rfl (Jvm.Free.XT.i0_eq_f hc262) k) ?_
    show own_Go _ _ _ _ T259 (mkF m 735 #[.val (.int p_1), .val (.int p_2), .val (.int p_3), .val (.int p_4), .val (.int (p_1.toInt8.toInt32)), .val (.int v3), .val (.int v4), .val (.int v5), .val (.ref b6), .val (.int v21), .val (.int v23), .val (.int (p_4.toInt8.toInt32)), .val (.ref b24), .val (.int r78), .val (.int v175), .val (.int (1 : Int32))] [])
    refine own_go (fun _ k => XS.aload X259.here hx rfl (hb hby at_735) rfl rfl k) ?_
    show own_Go _ _ _ _ T259 (mkF m 737 #[.val (.int p_1), .val (.int p_2), .val (.int p_3), .val (.int p_4), .val (.int (p_1.toInt8.toInt32)), .val (.int v3), .val (.int v4), .val (.int v5), .val (.ref b6), .val (.int v21), .val (.int v23), .val (.int (p_4.toInt8.toInt32)), .val (.ref b24), .val (.int r78), .val (.int v175), .val (.int (1 : Int32))] [(.ref b24)])
    refine own_go (fun _ k => XS.bipush X259.here hx rfl (hb hby at_737) k) ?_
    show own_Go _ _ _ _ T259 (mkF m 739 #[.val (.int p_1), .val (.int p_2), .val (.int p_3), .val (.int p_4), .val (.int (p_1.toInt8.toInt32)), .val (.int v3), .val (.int v4), .val (.int v5), .val (.ref b6), .val (.int v21), .val (.int v23), .val (.int (p_4.toInt8.toInt32)), .val (.ref b24), .val (.int r78), .val (.int v175), .val (.int (1 : Int32))] [(.int (15 : Int32)), (.ref b24)])
    obtain ⟨q263, c263, R263, s263, t263⟩ := id f79
    have hin263 : ¬ ((15 : Int32) < 0 ∨ c263.slots.size ≤ ((15 : Int32)).toNatClampNeg) := inb_of s263 ⟨by decide, by decide⟩
    have u263 : c263.slots[((15 : Int32)).toNatClampNeg]? = some (.int (own_hw (v21).toNatClampNeg v23 (p_4.toInt8.toInt32) (p_1.toInt8.toInt32) v3 v4 v5 15)) := own_at (k := 15) t263 s263 hin263 (by decide) (own_hx_hw _ _ _ _ _ _ _ _ _ rfl)
    refine own_go (fun _ k => X259.baloadBytes hx (j := (15 : Int32)) (v := (.int (own_hw (v21).toNatClampNeg v23 (p_4.toInt8.toInt32) (p_1.toInt8.toInt32) v3 v4 v5 15))) (by rw [e259]; exact R263.1) (State.isArrayOf_alike hZ.alike R263.2.1) R263.2.2 hin263 u263 (g := (mkF m 739 #[.val (.int p_1), .val (.int p_2), .val (.int p_3), .val (.int p_4), .val (.int (p_1.toInt8.toInt32)), .val (.int v3), .val (.int v4), .val (.int v5), .val (.ref b6), .val (.int v21), .val (.int v23), .val (.int (p_4.toInt8.toInt32)), .val (.ref b24), .val (.int r78), .val (.int v175), .val (.int (1 : Int32))] [(.int (15 : Int32)), (.ref b24)])) rfl rfl (hb hby at_739) _ k) ?_
    show own_Go _ _ _ _ T259 (mkF m 740 #[.val (.int p_1), .val (.int p_2), .val (.int p_3), .val (.int p_4), .val (.int (p_1.toInt8.toInt32)), .val (.int v3), .val (.int v4), .val (.int v5), .val (.ref b6), .val (.int v21), .val (.int v23), .val (.int (p_4.toInt8.toInt32)), .val (.ref b24), .val (.int r78), .val (.int v175), .val (.int (1 : Int32))] [(.int (own_hw (v21).toNatClampNeg v23 (p_4.toInt8.toInt32) (p_1.toInt8.toInt32) v3 v4 v5 15))])
    refine own_go (fun _ k => XS.bipush X259.here hx rfl (hb hby at_740) k) ?_
    show own_Go _ _ _ _ T259 (mkF m 742 #[.val (.int p_1), .val (.int p_2), .val (.int p_3), .val (.int p_4), .val (.int (p_1.toInt8.toInt32)), .val (.int v3), .val (.int v4), .val (.int v5), .val (.ref b6), .val (.int v21), .val (.int v23), .val (.int (p_4.toInt8.toInt32)), .val (.ref b24), .val (.int r78), .val (.int v175), .val (.int (1 : Int32))] [(.int (15 : Int32)), (.int (own_hw (v21).toNatClampNeg v23 (p_4.toInt8.toInt32) (p_1.toInt8.toInt32) v3 v4 v5 15))])
    refine own_go (fun _ k => XS.iloadN X259.here hx rfl (hb hby at_742) rfl k) ?_
    show own_Go _ _ _ _ T259 (mkF m 743 #[.val (.int p_1), .val (.int p_2), .val (.int p_3), .val (.int p_4), .val (.int (p_1.toInt8.toInt32)), .val (.int v3), .val (.int v4), .val (.int v5), .val (.ref b6), .val (.int v21), .val (.int v23), .val (.int (p_4.toInt8.toInt32)), .val (.ref b24), .val (.int r78), .val (.int v175), .val (.int (1 : Int32))] [(.int p_1), (.int (15 : Int32)), (.int (own_hw (v21).toNatClampNeg v23 (p_4.toInt8.toInt32) (p_1.toInt8.toInt32) v3 v4 v5 15))])
    refine own_go (fun _ k => XS.iload X259.here hx rfl (hb hby at_743) rfl k) ?_
    show own_Go _ _ _ _ T259 (mkF m 745 #[.val (.int p_1), .val (.int p_2), .val (.int p_3), .val (.int p_4), .val (.int (p_1.toInt8.toInt32)), .val (.int v3), .val (.int v4), .val (.int v5), .val (.ref b6), .val (.int v21), .val (.int v23), .val (.int (p_4.toInt8.toInt32)), .val (.ref b24), .val (.int r78), .val (.int v175), .val (.int (1 : Int32))] [(.int v21), (.int p_1), (.int (15 : Int32)), (.int (own_hw (v21).toNatClampNeg v23 (p_4.toInt8.toInt32) (p_1.toInt8.toInt32) v3 v4 v5 15))])
    refine own_go (fun _ k => XS.iload X259.here hx rfl (hb hby at_745) rfl k) ?_
    show own_Go _ _ _ _ T259 (mkF m 747 #[.val (.int p_1), .val (.int p_2), .val (.int p_3), .val (.int p_4), .val (.int (p_1.toInt8.toInt32)), .val (.int v3), .val (.int v4), .val (.int v5), .val (.ref b6), .val (.int v21), .val (.int v23), .val (.int (p_4.toInt8.toInt32)), .val (.ref b24), .val (.int r78), .val (.int v175), .val (.int (1 : Int32))] [(.int v23), (.int v21), (.int p_1), (.int (15 : Int32)), (.int (own_hw (v21).toNatClampNeg v23 (p_4.toInt8.toInt32) (p_1.toInt8.toInt32) v3 v4 v5 15))])
    refine own_go (fun _ k => XS.iload X259.here hx rfl (hb hby at_747) rfl k) ?_
    show own_Go _ _ _ _ T259 (mkF m 749 #[.val (.int p_1), .val (.int p_2), .val (.int p_3), .val (.int p_4), .val (.int (p_1.toInt8.toInt32)), .val (.int v3), .val (.int v4), .val (.int v5), .val (.ref b6), .val (.int v21), .val (.int v23), .val (.int (p_4.toInt8.toInt32)), .val (.ref b24), .val (.int r78), .val (.int v175), .val (.int (1 : Int32))] [(.int (p_4.toInt8.toInt32)), (.int v23), (.int v21), (.int p_1), (.int (15 : Int32)), (.int (own_hw (v21).toNatClampNeg v23 (p_4.toInt8.toInt32) (p_1.toInt8.toInt32) v3 v4 v5 15))])
    obtain ⟨_, _, ⟨T264, L264, k264, n264⟩, -, X264, ⟨Lc264, hQ264, l264, y264, z264⟩, st264⟩ := Jvm.LawKit.callS X259 hx (y := (⟨"com/example/honest_codec/honestcodec/IllFormedSequencePutHexPinLaw", "expectedAt", "(IIIIB)B"⟩ : MethodName)) hown (mvT hZ (hw _ (List.mem_of_getElem? (i := 8) rfl))) (mvT hZ (hw _ (List.mem_of_getElem? (i := 9) rfl))) (mvT hZ (hw _ (List.mem_of_getElem? (i := 10) rfl))) (mvT hZ (hw _ (List.mem_of_getElem? (i := 11) rfl))) (by decide) (backOf (W := 1) (own_rm2 l Z a0 hw [] (15 : Int32) p_1 v21 v23 (p_4.toInt8.toInt32)  T77.heap n0 (by omega) (own_nar_b _)) hZ (hw _ (List.mem_of_getElem? (i := 11) rfl)) (hw _ (List.mem_of_getElem? (i := 10) rfl)) (by decide) (by decide)) (g := (mkF m 749 #[.val (.int p_1), .val (.int p_2), .val (.int p_3), .val (.int p_4), .val (.int (p_1.toInt8.toInt32)), .val (.int v3), .val (.int v4), .val (.int v5), .val (.ref b6), .val (.int v21), .val (.int v23), .val (.int (p_4.toInt8.toInt32)), .val (.ref b24), .val (.int r78), .val (.int v175), .val (.int (1 : Int32))] [(.int (p_4.toInt8.toInt32)), (.int v23), (.int v21), (.int p_1), (.int (15 : Int32)), (.int (own_hw (v21).toNatClampNeg v23 (p_4.toInt8.toInt32) (p_1.toInt8.toInt32) v3 v4 v5 15))])) rfl (by rw [hml]; rfl) (argsL := [(.int (15 : Int32)), (.int p_1), (.int v21), (.int v23), (.int (p_4.toInt8.toInt32))]) (rest := [(.int (own_hw (v21).toNatClampNeg v23 (p_4.toInt8.toInt32) (p_1.toInt8.toInt32) v3 v4 v5 15))]) (lenOf own_pd2 rfl) rfl (by show 2 * 0 + _ ≤ _; exact Nat.le_of_eq rfl) (hb hby at_749) (fun _ _ => ⟨rfl, e259, (by show k259 + _ ≤ _; rw [y259]; decide), (by show n259 + _ ≤ _; rw [z259]; decide)⟩)
    dsimp only [Pt.U, Pt.locs, Pt.cells, Pt.slots] at X264 l264 y264 z264 st264 hQ264
    have y264 : k264 = 2 := own_addeq y264 (congrArg (fun q => q) y259) rfl
    have z264 : n264 = 20 := own_addeq z264 (congrArg (fun q => q) z259) rfl
    obtain ⟨r265, rfl, N264q, hr_r265, e264⟩ := hQ264
    have N264 : Fr n0 L264 := by rw [l264]; exact Fr.app N259 N264q
    refine own_go (fun _ k => st264 _ k) ?_
    show own_Go _ _ _ _ T264 (mkF m 752 #[.val (.int p_1), .val (.int p_2), .val (.int p_3), .val (.int p_4), .val (.int (p_1.toInt8.toInt32)), .val (.int v3), .val (.int v4), .val (.int v5), .val (.ref b6), .val (.int v21), .val (.int v23), .val (.int (p_4.toInt8.toInt32)), .val (.ref b24), .val (.int r78), .val (.int v175), .val (.int (1 : Int32))] [(.int r265), (.int (own_hw (v21).toNatClampNeg v23 (p_4.toInt8.toInt32) (p_1.toInt8.toInt32) v3 v4 v5 15))])
    have hc266 : (own_hw (v21).toNatClampNeg v23 (p_4.toInt8.toInt32) (p_1.toInt8.toInt32) v3 v4 v5 15) = r265 := own_t0_35 p_1 p_2 p_3 p_4 v3 v4 v5 v21 v23 v175 r265 hdv3 hdv4 hdv5 hdv21 hdv23 hl hp hdv175 hr_r265
    refine own_go (fun _ k => XS.icmpNo X264.here hx rfl (hb hby at_752) rfl (Jvm.Free.XT.ii_ne_f hc266) k) ?_
    show own_Go _ _ _ _ T264 (mkF m 755 #[.val (.int p_1), .val (.int p_2), .val (.int p_3), .val (.int p_4), .val (.int (p_1.toInt8.toInt32)), .val (.int v3), .val (.int v4), .val (.int v5), .val (.ref b6), .val (.int v21), .val (.int v23), .val (.int (p_4.toInt8.toInt32)), .val (.ref b24), .val (.int r78), .val (.int v175), .val (.int (1 : Int32))] [])
    refine own_go (fun _ k => XS.iconst X264.here hx rfl (hb hby at_755) k) ?_
    show own_Go _ _ _ _ T264 (mkF m 756 #[.val (.int p_1), .val (.int p_2), .val (.int p_3), .val (.int p_4), .val (.int (p_1.toInt8.toInt32)), .val (.int v3), .val (.int v4), .val (.int v5), .val (.ref b6), .val (.int v21), .val (.int v23), .val (.int (p_4.toInt8.toInt32)), .val (.ref b24), .val (.int r78), .val (.int v175), .val (.int (1 : Int32))] [(.int (1 : Int32))])
    refine own_go (fun _ k => XS.goto X264.here hx rfl (pc0 := 756) (pc' := 760) rfl (hb hby at_756) (by decide) (by decide) k) ?_
    show own_Go _ _ _ _ T264 (mkF m 760 #[.val (.int p_1), .val (.int p_2), .val (.int p_3), .val (.int p_4), .val (.int (p_1.toInt8.toInt32)), .val (.int v3), .val (.int v4), .val (.int v5), .val (.ref b6), .val (.int v21), .val (.int v23), .val (.int (p_4.toInt8.toInt32)), .val (.ref b24), .val (.int r78), .val (.int v175), .val (.int (1 : Int32))] [(.int (1 : Int32))])
    refine own_go (fun _ k => XS.istore X264.here hx rfl (hb hby at_760) rfl (l' := #[.val (.int p_1), .val (.int p_2), .val (.int p_3), .val (.int p_4), .val (.int (p_1.toInt8.toInt32)), .val (.int v3), .val (.int v4), .val (.int v5), .val (.ref b6), .val (.int v21), .val (.int v23), .val (.int (p_4.toInt8.toInt32)), .val (.ref b24), .val (.int r78), .val (.int v175), .val (.int (1 : Int32))]) rfl k) ?_
    show own_Go _ _ _ _ T264 (mkF m 762 #[.val (.int p_1), .val (.int p_2), .val (.int p_3), .val (.int p_4), .val (.int (p_1.toInt8.toInt32)), .val (.int v3), .val (.int v4), .val (.int v5), .val (.ref b6), .val (.int v21), .val (.int v23), .val (.int (p_4.toInt8.toInt32)), .val (.ref b24), .val (.int r78), .val (.int v175), .val (.int (1 : Int32))] [])
    refine own_go (fun _ k => XS.iload X264.here hx rfl (hb hby at_762) rfl k) ?_
    show own_Go _ _ _ _ T264 (mkF m 764 #[.val (.int p_1), .val (.int p_2), .val (.int p_3), .val (.int p_4), .val (.int (p_1.toInt8.toInt32)), .val (.int v3), .val (.int v4), .val (.int v5), .val (.ref b6), .val (.int v21), .val (.int v23), .val (.int (p_4.toInt8.toInt32)), .val (.ref b24), .val (.int r78), .val (.int v175), .val (.int (1 : Int32))] [(.int (1 : Int32))])
    obtain ⟨fs, hr, hrun, hended, hW, hsame⟩ := X264.leave (v := some (.int (1 : Int32))) (fun h => by rw [Bd.returns] at h; cases h)
    refine ⟨_, _, retOut X264 hx Bd.returns rfl (Or.inl ⟨rfl, Or.inr (Or.inl rfl), _, rfl⟩) (hb hby at_764) hr, hrun, hended, _, _, rfl, ?_, ⟨_, rfl⟩, hW, hsame.mono (by rw [y264]; decide) (by rw [z264]; decide)⟩
    show own_Q0 Z p_1 p_2 p_3 p_4 t_ h0 n0 _ T264.heap _
    rw [e264]
    exact ⟨rfl, N264⟩
set_option maxRecDepth 65536 in
set_option maxHeartbeats 40000000 in
theorem comes_1 {Post : Tables → Env → Array Value → State → Outcome → State → Prop} (hpost : ∀ tb e args s v u, (limb_1_1.after args s (.returned v) u = true ∧ limb_1_2.after args s (.returned v) u = true ∧ True) → FrameEnd s (.returned v) u (Jvm.fieldLocs frame_1_writes args s ++ Jvm.arrayLocs frame_1_arrays args s ++ Jvm.staticLocs frame_1_statics s) 16 128 → Post tb e args s (.returned v) u) :
    ArmFor flags0 classFile x code maxLocals ret World_1 tables_1 room_1 Calls_1 rest_1 Pre_1 Post := by
  intro l hfl _ _ p e ha hc hk s m args below hf hA hF happ hP
  obtain ⟨hcalls, hrest, hpre⟩ := hP
  obtain ⟨-, -, -, hnamed, -, -, -, hat⟩ := (Spec.applies_iff hf).mp happ
  obtain ⟨hg, hn⟩ := and_e (Cond.before_iff.mp (show (Jvm.Cond.and given_1 narrow_1).before args s = true from hpre))
  obtain ⟨g1, g2⟩ := and_e hg
  obtain ⟨g3, g4⟩ := and_e g2
  obtain ⟨g5, g6⟩ := and_e g4
  obtain ⟨g7, g8⟩ := and_e g6
  obtain ⟨w0, w1, w2, w3, rfl⟩ : ∃ w0 w1 w2 w3 : Value, args = #[w0, w1, w2, w3] := by
    have hs : args.size = 4 := by simpa [Cond.value, given_1] using g1
    obtain ⟨L⟩ := args
    match L, hs with
    | [w0, w1, w2, w3], _ => exact ⟨w0, w1, w2, w3, rfl⟩
  have hw := fun d (hd : d ∈ tables_1) => atoms_spec (ws := Jvm.Cond.code x code maxLocals ret :: tables_1) hat d (List.mem_cons_of_mem _ hd)
  have hfit : Fit s := fun {y c} hc i hi => by
    obtain ⟨ha, rfl⟩ := Array.getElem?_eq_some_iff.mp hc
    have q := List.all_eq_true.mp ((Array.all_eq_true_iff_forall_mem.mp hF) _ (Array.getElem_mem ha)) i (List.mem_range.mpr hi)
    simpa [Array.getElem?_eq_getElem hi] using q
  obtain ⟨i0, ei0⟩ := is_v g3
  obtain rfl : w0 = (.int i0) := Option.some.inj ei0
  obtain ⟨i1, ei1⟩ := is_v g5
  obtain rfl : w1 = (.int i1) := Option.some.inj ei1
  obtain ⟨i2, ei2⟩ := is_v g7
  obtain rfl : w2 = (.int i2) := Option.some.inj ei2
  obtain ⟨i3, ei3⟩ := is_v g8
  obtain rfl : w3 = (.int i3) := Option.some.inj ei3
  obtain ⟨m1, m2⟩ := and_e hn
  obtain ⟨m2, m3⟩ := and_e m2
  obtain ⟨m3, m4⟩ := and_e m3
  obtain ⟨t_, ews⟩ := arr_v m1
  have pS := Sta.start ews (Or.inr ⟨(hw _ (List.mem_of_getElem? (i := 4) rfl)), (hw _ (List.mem_of_getElem? (i := 7) rfl))⟩)
  obtain ⟨cc, Ac, hA, hsz⟩ := own_arr_start ews m1 m2 (by decide)
  have pA : own_AV s s.heap t_ .byte (16 : Int32) (fun i => .int (own_hd i)) := ⟨by decide, cc, Ac, hsz, own_hd_of (fun _ => ews) hA hsz m3 m4⟩
  have pH : own_lts [t_, s.heap.size] := ⟨own_lt Ac.lt, trivial⟩
  obtain ⟨n, o, h1, h2, h3, _, L, rfl, ⟨rfl, N⟩, hq⟩ := own_rm0 l s _ hw tables_1 i0 i1 i2 i3 t_ s.heap s.heap.size (Nat.le_refl _) pS pA pH p e ha hc hk s m _ below hf ((Spec.applies_iff_loose hf).mp happ).1 ⟨rfl, State.Warmed39.refl s, rfl⟩ trivial
  refine ⟨n, _, h1, h2, h3, hpost _ _ _ _ _ _ ⟨Cond.after_iff.mpr rfl, Cond.after_iff.mpr (eq_i res_at (Term.int_eval (1)) rfl), trivial⟩ ⟨hq.1, hq.2.1, (hq.2.2.sift fun y hy => Or.inr (N y hy)).mono (by decide) (by decide)⟩⟩
theorem main_1_1 : Claimed_1_1 := comes_1 fun _ _ _ _ _ _ h hF => ⟨h.1, hF⟩
theorem main_1_2 : Claimed_1_2 := comes_1 fun _ _ _ _ _ _ h hF => ⟨h.2.1, hF⟩
end Jvm.Pilot.@@N@@
namespace Jvm.Pilot.@@N@@
open Jvm Jvm.ClassFile Sem Op Lib Jvm.Free Jvm.Stand Jvm.Pilot.@@N@@.Jvm.D
/-! MADE BY PROGRAM (witnessworld.py) out of the Statement's table words and the real class files: 9 classes; the members and pool entries that the words name. The judged class is class 1, her method 1. -/
namespace start1
open Jvm.ClassFile
def u (s : String) : CpInfo := .utf8 (stringToUtf16 s)
/-- a pool by its gaps: so many unusable entries, then the entry; so many at the end -/
def gap : Nat → List CpInfo → List CpInfo
  | 0, r => r
  | n + 1, r => .unusable :: gap n r
def poolList (es : List (Nat × CpInfo)) (last : Nat) : List CpInfo := es.foldr (fun e r => gap e.1 (e.2 :: r)) (gap last [])
def pool (es : List (Nat × CpInfo)) (last : Nat) : Array CpInfo := ⟨poolList es last⟩
def fileOf (pool : Array CpInfo) (this : Nat) (attrs : Array Attribute := #[]) (ms : Array MethodInfo := #[]) (fl : Nat := 33) (sup : Nat := 0) (ifs : Array Nat := #[]) (fds : Array FieldInfo := #[]) : ClassFile where
  minorVersion := 0
  majorVersion := 65
  constantPool := pool
  accessFlags := fl
  thisClass := this
  superClass := sup
  interfaces := ifs
  fields := fds
  methods := ms
  attributes := attrs
def plain (name : String) (sup : Option ClassId) : Class where
  name := name
  kind := .ordinary
  loader := none
  accessFlags := 33
  super := sup
  interfaces := #[]
  cf := none
  fields := #[]
  methods := #[]
  instanceTypes := #[]
  staticTypes := #[]
  resolved := #[]
  callSites := []
  init := .initialized
  statics := none
  mirror := none

def pool0 : Array CpInfo := pool [(5, u "<init>"), (0, u "()V"), (1, .class_ 10), (1, u "java/lang/Object")] 113

def k0m0 : Method := { name := "<init>", desc := "()V", sig := { parameters := [], returnType := none }, accessFlags := 1, code := none }
/-- java/lang/Object -/
def k0 : Class := { plain "java/lang/Object" none with
  accessFlags := 33
  interfaces := #[]
  cf := some (fileOf pool0 8 #[] #[{ accessFlags := 1, nameIndex := 5, descriptorIndex := 6, attributes := #[] }] 33 0 #[] #[])
  fields := #[]
  methods := #[k0m0]
  instanceTypes := #[]
  staticTypes := #[]
  resolved := Array.replicate 124 none
  statics := none }

def pool1 : Array CpInfo := pool [(2, .class_ 4), (1, u "java/lang/Object"), (0, u "<init>"), (0, u "()V"), (0, .integer 2147483647), (0, .methodref 9 10), (0, .class_ 11), (0, .nameAndType 12 13), (0, u "com/example/honest_codec/honestcodec/IllFormedSequence"), (0, u "putHex"), (0, u "([BI[BI)I"), (0, .methodref 15 16), (0, .class_ 17), (0, .nameAndType 18 19), (0, u "com/example/honest_codec/honestcodec/IllFormedSequencePutHexPinLaw"), (0, u "expectedAt"), (0, u "(IIIIB)B"), (0, .methodref 15 21), (0, .nameAndType 22 23), (0, u "hexDigit"), (0, u "(I)B"), (2, u "law"), (0, u "(IIII)Z")] 5

def k1m0 : Method := { name := "<init>", desc := "()V", sig := { parameters := [], returnType := none }, accessFlags := 1, code := none }
def k1c1 : Code := { maxStack := 6, maxLocals := 16, code := code, exceptionTable := #[], attributes := #[] }
def k1m1 : Method := { name := "law", desc := "(IIII)Z", sig := { parameters := [.int, .int, .int, .int], returnType := some .boolean }, accessFlags := 9, code := some k1c1 }
def k1c2 : Code := { maxStack := 3, maxLocals := 1, code := method_3_code, exceptionTable := #[], attributes := #[] }
def k1m2 : Method := { name := "hexDigit", desc := "(I)B", sig := { parameters := [.int], returnType := some .byte }, accessFlags := 10, code := some k1c2 }
def k1c3 : Code := { maxStack := 3, maxLocals := 9, code := method_4_code, exceptionTable := #[], attributes := #[] }
def k1m3 : Method := { name := "expectedAt", desc := "(IIIIB)B", sig := { parameters := [.int, .int, .int, .int, .byte], returnType := some .byte }, accessFlags := 10, code := some k1c3 }
/-- com/example/honest_codec/honestcodec/IllFormedSequencePutHexPinLaw -/
def k1 : Class := { plain "com/example/honest_codec/honestcodec/IllFormedSequencePutHexPinLaw" (some 0) with
  accessFlags := 49
  interfaces := #[]
  cf := some (fileOf pool1 15 #[] #[{ accessFlags := 1, nameIndex := 5, descriptorIndex := 6, attributes := #[] }, { accessFlags := 9, nameIndex := 26, descriptorIndex := 27, attributes := #[] }, { accessFlags := 10, nameIndex := 22, descriptorIndex := 23, attributes := #[] }, { accessFlags := 10, nameIndex := 18, descriptorIndex := 19, attributes := #[] }] 49 2 #[] #[])
  fields := #[]
  methods := #[k1m0, k1m1, k1m2, k1m3]
  instanceTypes := #[]
  staticTypes := #[]
  resolved := Array.replicate 33 none
  statics := none }

def pool2 : Array CpInfo := pool [(2, .class_ 4), (1, u "java/lang/Object"), (3, .class_ 10), (1, u "com/example/honest_codec/honestcodec/IllFormedSequence"), (0, u "offset"), (0, u "J"), (2, u "kind"), (0, u "Lcom/example/honest_codec/honestcodec/ErrorKind;"), (2, u "bytes"), (0, u "[B"), (7, u "putHex"), (0, u "([BI[BI)I"), (11, .fieldref 8 42), (0, .nameAndType 43 20), (0, u "HEX_DIGITS")] 46

def k2c0 : Code := { maxStack := 5, maxLocals := 6, code := prog_23_method_6_code, exceptionTable := #[], attributes := #[] }
def k2m0 : Method := { name := "putHex", desc := "([BI[BI)I", sig := { parameters := [(.array .byte), .int, (.array .byte), .int], returnType := some .int }, accessFlags := 8, code := some k2c0 }
/-- com/example/honest_codec/honestcodec/IllFormedSequence -/
def k2 : Class := { plain "com/example/honest_codec/honestcodec/IllFormedSequence" (some 0) with
  accessFlags := 33
  interfaces := #[]
  cf := some (fileOf pool2 8 #[] #[{ accessFlags := 8, nameIndex := 28, descriptorIndex := 29, attributes := #[] }] 33 2 #[] #[{ accessFlags := 26, nameIndex := 43, descriptorIndex := 20, attributes := #[] }, { accessFlags := 18, nameIndex := 11, descriptorIndex := 12, attributes := #[] }, { accessFlags := 18, nameIndex := 15, descriptorIndex := 16, attributes := #[] }, { accessFlags := 18, nameIndex := 19, descriptorIndex := 20, attributes := #[] }])
  fields := #[{ name := "HEX_DIGITS", type := (.array .byte), accessFlags := 26, slot := 0, constantValue := 0 }, { name := "offset", type := .long, accessFlags := 18, slot := 0, constantValue := 0 }, { name := "kind", type := (.object "com/example/honest_codec/honestcodec/ErrorKind"), accessFlags := 18, slot := 1, constantValue := 0 }, { name := "bytes", type := (.array .byte), accessFlags := 18, slot := 2, constantValue := 0 }]
  methods := #[k2m0]
  instanceTypes := #[.long, (.object "com/example/honest_codec/honestcodec/ErrorKind"), (.array .byte)]
  staticTypes := #[(.array .byte)]
  resolved := Array.replicate 90 none
  statics := some 0 }

def pool3 : Array CpInfo := pool [(1, u "java/lang/Cloneable"), (0, .class_ 1), (0, u "java/lang/Object"), (0, .class_ 3)] 3

/-- java/lang/Cloneable -/
def k3 : Class := { plain "java/lang/Cloneable" (some 0) with
  accessFlags := 1537
  interfaces := #[]
  cf := some (fileOf pool3 2 #[] #[] 1537 4 #[] #[])
  fields := #[]
  methods := #[]
  instanceTypes := #[]
  staticTypes := #[]
  resolved := Array.replicate 8 none
  statics := none }

def pool4 : Array CpInfo := pool [(1, u "java/io/Serializable"), (0, .class_ 1), (0, u "java/lang/Object"), (0, .class_ 3)] 3

/-- java/io/Serializable -/
def k4 : Class := { plain "java/io/Serializable" (some 0) with
  accessFlags := 1537
  interfaces := #[]
  cf := some (fileOf pool4 2 #[] #[] 1537 4 #[] #[])
  fields := #[]
  methods := #[]
  instanceTypes := #[]
  staticTypes := #[]
  resolved := Array.replicate 8 none
  statics := none }

/-- the primitive byte -/
def k5 : Class := { plain "byte" none with kind := .primitive 'B', accessFlags := 0x411 }
/-- [B -/
def k6 : Class := { plain "[B" (some 0) with kind := .array 5 .byte, interfaces := #[3, 4], accessFlags := 1041 }

/-- the primitive int -/
def k7 : Class := { plain "int" none with kind := .primitive 'I', accessFlags := 0x411 }
/-- [I -/
def k8 : Class := { plain "[I" (some 0) with kind := .array 7 .int, interfaces := #[3, 4], accessFlags := 1041 }

def heap : Heap := #[{ cls := 2, slots := #[.ref 1], vm := .statics 2 },
  { cls := 6, slots := #[.int 48, .int 49, .int 50, .int 51, .int 52, .int 53, .int 54, .int 55, .int 56, .int 57, .int 65, .int 66, .int 67, .int 68, .int 69, .int 70], vm := .none }]
def classes : Array Class := #[k0, k1, k2, k3, k4, k5, k6, k7, k8]
def interned : List (Array UInt16 × Addr) := []
def slotsUsed : Nat := 17
def theMethod : MethodId := ⟨1, 1⟩
def args0 : Array Value := #[.int 1, .int 2, .int 3, .int 4]
def aboutOver (below : List Frame) : State where
  vm := { classes := classes, interned := interned.toArray }
  heap := heap
  slotsUsed := slotsUsed
  threads := #[{ frames := .invoking theMethod args0 :: below }]
def below0 : List Frame := [.native { method := ⟨0, 0⟩, args := #[] }]
def about1 : State := aboutOver below0
def p0 : Program := .bare "" "" ""
def e0 : Env := launch0.env 0 0 0
theorem w_frames : about1.frames = Frame.invoking theMethod args0 :: below0 := rfl
set_option maxRecDepth 65536 in
theorem w_args : argsFit about1.vm theMethod args0 = true := by decide +kernel
set_option maxRecDepth 65536 in
theorem w_heap : heapFits about1 = true := by decide +kernel
set_option maxRecDepth 65536 in
theorem w_runnable : about1.curStatus? = some .runnable := by decide +kernel
set_option maxRecDepth 65536 in
theorem w_alone : about1.alone = true := by decide +kernel
set_option maxRecDepth 65536 in
theorem w_named : about1.methodNamed? x = some theMethod := by decide +kernel
set_option maxRecDepth 65536 in
theorem w_hears : about1.hears theMethod below0 = true := by decide +kernel
set_option maxRecDepth 65536 in
theorem w_ripe : about1.ripe theMethod args0 below0 = true := by decide +kernel
theorem w_running : about1.status = .running := rfl
set_option maxRecDepth 65536 in
theorem w_room : about1.hasRoom e0.platform room_1 = true :=
  launch0.hasRoom_least _ room_1 (by decide +kernel) (by decide +kernel) (by decide +kernel) (by decide +kernel) (by decide +kernel) (by decide +kernel)
theorem allAtoms_all (ts : List Jvm.Cond) (a : Array Jvm.Value) (st : Jvm.State) : (allAtoms ts).before a st = ts.all (fun c => c.before a st) := by
  induction ts with
  | nil => rfl
  | cons c t ih =>
    show (Jvm.Cond.and c (allAtoms t)).before a st = _
    rw [Jvm.Cond.before_and, ih, List.all_cons]
def words1 : List Jvm.Cond := Jvm.Cond.code x code maxLocals ret :: tables_1
/-- a 'code' word, met by the world's own term for the bytes: nothing is compared byte by byte -/
theorem code_word {y : MethodName} {bytes : ByteArray} {mx : Nat} {rt : Option FieldType} {a : Array Value} {s : State} {m : MethodId} {meth : Method} {c : Code} (h1 : s.methodNamed? y = some m) (h2 : s.vm.method? m = some meth) (h3 : meth.code = some c) (h4 : c.code = bytes)
    (h5 : (c.maxLocals == mx && c.exceptionTable.isEmpty && decide (c.maxStack ≤ mostOperands) && decide (meth.sig.returnType = rt) && !meth.locks && decide (parseMethodDescriptor y.desc = some meth.sig)) = true) : (Jvm.Cond.code y bytes mx rt).before a s = true := by
  simp only [Bool.and_eq_true, beq_iff_eq, Bool.not_eq_true', decide_eq_true_eq] at h5
  obtain ⟨⟨⟨⟨⟨g1, g2⟩, g3⟩, g4⟩, g5⟩, g6⟩ := h5
  simp [Cond.before, Cond.holds, Cond.value, h1, h2, h3, h4, g1, g2, g3, g4, g5, g6]
def isCode : Jvm.Cond → Bool
  | .code _ _ _ _ => true
  | _ => false
theorem all_split {L : List Jvm.Cond} {P : Jvm.Cond → Bool} (h1 : L.all (fun c => isCode c || P c) = true) (h2 : ∀ c ∈ L.filter isCode, P c = true) : L.all P = true := by
  refine List.all_eq_true.mpr fun c hc => ?_
  have h := List.all_eq_true.mp h1 c hc
  rcases Bool.eq_false_or_eq_true (isCode c) with hi | hi
  · exact h2 c (List.mem_filter.mpr ⟨hc, hi⟩)
  · simpa [hi] using h
set_option maxRecDepth 65536 in
theorem w_c0 : (Jvm.Cond.code x code maxLocals ret).before args0 about1 = true := code_word (m := ⟨1, 1⟩) (meth := k1m1) (c := k1c1) (by decide +kernel) rfl rfl rfl (by decide +kernel)
set_option maxRecDepth 65536 in
theorem w_c1 : (Jvm.Cond.code ({ cls := "com/example/honest_codec/honestcodec/IllFormedSequence", name := "putHex", desc := "([BI[BI)I" } : Jvm.MethodName) prog_23_method_6_code (6 : Nat) (Option.some Jvm.ClassFile.FieldType.int)).before args0 about1 = true := code_word (m := ⟨2, 0⟩) (meth := k2m0) (c := k2c0) (by decide +kernel) rfl rfl rfl (by decide +kernel)
set_option maxRecDepth 65536 in
theorem w_c2 : (Jvm.Cond.code ({ cls := "com/example/honest_codec/honestcodec/IllFormedSequencePutHexPinLaw", name := "expectedAt", desc := "(IIIIB)B" } : Jvm.MethodName) method_4_code (9 : Nat) (Option.some Jvm.ClassFile.FieldType.byte)).before args0 about1 = true := code_word (m := ⟨1, 3⟩) (meth := k1m3) (c := k1c3) (by decide +kernel) rfl rfl rfl (by decide +kernel)
set_option maxRecDepth 65536 in
theorem w_c3 : (Jvm.Cond.code ({ cls := "com/example/honest_codec/honestcodec/IllFormedSequencePutHexPinLaw", name := "hexDigit", desc := "(I)B" } : Jvm.MethodName) method_3_code (1 : Nat) (Option.some Jvm.ClassFile.FieldType.byte)).before args0 about1 = true := code_word (m := ⟨1, 2⟩) (meth := k1m2) (c := k1c2) (by decide +kernel) rfl rfl rfl (by decide +kernel)
def codes1 : List Jvm.Cond := [Jvm.Cond.code x code maxLocals ret, Jvm.Cond.code ({ cls := "com/example/honest_codec/honestcodec/IllFormedSequence", name := "putHex", desc := "([BI[BI)I" } : Jvm.MethodName) prog_23_method_6_code (6 : Nat) (Option.some Jvm.ClassFile.FieldType.int), Jvm.Cond.code ({ cls := "com/example/honest_codec/honestcodec/IllFormedSequencePutHexPinLaw", name := "expectedAt", desc := "(IIIIB)B" } : Jvm.MethodName) method_4_code (9 : Nat) (Option.some Jvm.ClassFile.FieldType.byte), Jvm.Cond.code ({ cls := "com/example/honest_codec/honestcodec/IllFormedSequencePutHexPinLaw", name := "hexDigit", desc := "(I)B" } : Jvm.MethodName) method_3_code (1 : Nat) (Option.some Jvm.ClassFile.FieldType.byte)]
set_option maxRecDepth 65536 in
theorem codes_eq : words1.filter isCode = codes1 := rfl
theorem w_codes : ∀ c ∈ words1.filter isCode, c.before args0 about1 = true := by
  rw [codes_eq]
  intro c hc
  simp only [codes1, List.mem_cons, List.not_mem_nil, or_false] at hc
  rcases hc with rfl | rfl | rfl | rfl
  · exact w_c0
  · exact w_c1
  · exact w_c2
  · exact w_c3
set_option maxRecDepth 65536 in
theorem w_t1 : words1.all (fun c => isCode c || c.before args0 about1) = true := by decide +kernel
theorem w_tables : (allAtoms (Jvm.Cond.code x code maxLocals ret :: tables_1)).before args0 about1 = true := by
  rw [allAtoms_all]
  show words1.all (fun c => c.before args0 about1) = true
  refine all_split ?_ w_codes
  rw [w_t1]
set_option maxRecDepth 65536 in
theorem w_case : (Jvm.Cond.and given_1 narrow_1).before args0 about1 = true := by decide +kernel
theorem w_applies : (headSpec (Jvm.Cond.code x code maxLocals ret :: tables_1) room_1).applies x e0.platform about1 = true :=
  (Spec.applies_iff w_frames).mpr ⟨w_running, w_runnable, w_alone, w_named, w_hears, w_ripe, w_room, w_tables⟩
theorem atStart : AtStart classFile x code maxLocals ret World_1 tables_1 room_1 Calls_1 rest_1 Pre_1 launch0 p0 e0 about1 theMethod args0 below0 :=
  ⟨lists_1, trivial, launch0.admits_env _ _ _, launch0.least_env, fairChoices_fair.cas, fairChoices_fair.clock, w_frames, w_args, w_heap, w_applies, trivial, trivial, w_case⟩
end start1
theorem witness_1 : WitnessClaimed_1 := ⟨start1.p0, start1.e0, start1.about1, start1.theMethod, start1.args0, start1.below0, start1.atStart⟩
end Jvm.Pilot.@@N@@
