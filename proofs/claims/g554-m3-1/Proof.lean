import JvmDerived
import JvmDerived.Pilot.@@N@@Statement
import JvmDerived.Pilot.@@N@@Code
set_option linter.unusedVariables false
set_option linter.unusedSimpArgs false
namespace Jvm.Pilot.@@N@@
open Jvm Jvm.ClassFile Sem Op Lib Jvm.Free Jvm.Stand Jvm.LawKit Jvm.RoadKit Bundle Jvm.Pilot.@@N@@.Jvm.D
section OwnKit
variable {p : Program} {l : Launch} {e : Env} {R : Room} {s : State} {m : MethodId} {args : Array Value} {below : List Frame} {meth : Method} {c : Code} {T : State} {locs : List Loc} {cells slots : Nat}
/-- from T the run comes to an end of which F holds -/
def own_Go (p : Program) (e : Env) (below : List Frame) (F : State → Outcome → Prop) (T : State) : Prop := ∃ t o, Steps p.tables e below T t ∧ t.status = .running ∧ Ended t below o ∧ F t o
theorem own_step {F : State → Outcome → Prop} {A B : State} (k : ∀ t, Steps p.tables e below A t → Steps p.tables e below B t) (h : own_Go p e below F A) : own_Go p e below F B := by
  obtain ⟨t, o, h1, h2⟩ := h
  exact ⟨t, o, k t h1, h2⟩
theorem own_in {F : State → Outcome → Prop} {A B : State} (k : ∀ {t}, Steps p.tables e below A t → Steps p.tables e below B t) (h : own_Go p e below F A) : ∃ t o, Steps p.tables e below B t ∧ t.status = .running ∧ Ended t below o ∧ F t o := by
  obtain ⟨t, o, h1, h2⟩ := h
  exact ⟨t, o, k h1, h2⟩
theorem own_retI (X : Stand p l e R s m args below meth c T locs cells slots) (hx : p.tables.exec = Jvm.exec) {pc : Nat} {Ls : Array Slot} {z : Int32} {rest : List Value} (hret : meth.sig.returnType = some .int) (hd : decode c.code pc = .ok (.ireturn, 1)) {fs : List Frame}
    (hl : ∀ (f : JFrame) (acts : List Action), f.method = m → f.locked = none → f.entered = [] → (doReturn e (T.setTop f) acts (some (.int z))).1 = T.setFrames fs) : Steps p.tables e below (T.setTop (mkF m pc Ls (.int z :: rest))) (T.setFrames fs) :=
  retOut X hx hret rfl (Or.inl ⟨rfl, Or.inl rfl, _, rfl⟩) hd hl
theorem own_join {α : Type} {F : State → Outcome → Prop} {B : State} {H : Heap} (X : Stand p l e R s m args below meth c T locs cells slots) (eT : T.heap = H) (A : State → α → State) (Pr : α → Prop)
    (h1 : ∀ T' a, Stand p l e R s m args below meth c T' locs cells slots → T'.heap = H → Pr a → own_Go p e below F (A T' a))
    (h2 : (∀ T' a, Stand p l e R s m args below meth c T' locs cells slots → T'.heap = H → Pr a → own_Go p e below F (A T' a)) → own_Go p e below F B) : own_Go p e below F B := h2 h1
theorem own_sta {args : Array Value} {s : State} {C n d K : String} (h : (Jvm.Cond.exactly (.static C n d) K).value args s none s [] = some true) (w1 : (Jvm.Cond.initialized C).before args s = true) (w2 : (Jvm.Cond.laysStatic C n d).before args s = true) :
    ∃ a, (Term.static C n d).eval args s none [] s = some (.ref a) ∧ Sta s s.heap C n d (.ref a) ∧ Exa s s.heap a K := by
  obtain ⟨a, ea⟩ := exa_v h
  exact ⟨a, ea, Sta.start ea (Or.inr ⟨w1, w2⟩), Exa.start ea h⟩
theorem own_staF {args : Array Value} {s : State} {t : Term} {C n d : String} {a : Addr} {k : Int32} (ea : t.eval args s none [] s = some (.ref a)) (h : (Jvm.Cond.eq (.field t C n d) (.int k)).value args s none s [] = some true) : Fld s s.heap a C n d (.int k) := by
  obtain ⟨x, y, e1, e2, -, -⟩ := cmp_v (Or.inl h)
  cases (Term.int_eval k).symm.trans e2
  have e3 : x = .int k := by
    cases x <;> simp [Cond.value, e1, Term.int_eval] at h
    rw [h]
  rw [fld_at ea, e3] at e1
  exact Fld.start e1
end OwnKit

theorem own_selP {Z s : State} {a0 args : Array Value} {y : MethodName} {n : Nat} (hZ : Z.Warmed39 s.vm) (wi : (Jvm.Cond.instantiable y.cls n).before a0 Z = true) (wp : (Jvm.Cond.privateMethod y).before a0 Z = true) (wm : (Jvm.Cond.instanceMethod y).before a0 Z = true) (hy : y.cls ≠ "java/lang/invoke/MethodHandle" ∧ y.cls ≠ "java/lang/invoke/VarHandle") : (Jvm.Cond.selects y.cls y y).before args s = true := by
  obtain ⟨c, k, h1, h2, -, h4, -⟩ := Cond.instantiable_spec (mvT hZ wi (args := args))
  have h5 : k.isInterface = false := by
    simp only [Bool.or_eq_false_iff] at h4
    exact h4.1
  exact selects_self_of_private h1 h2 h5 (Cond.privateMethod_at (mvP hZ wp (args := args))) (mvT hZ wm) hy

def own_zero : Nat → Int32 := fun _ => 0
def own_upd (g : Nat → Int32) (j : Nat) (v : Int32) : Nat → Int32 := fun i => if i = j then v else g i
def own_cut (g : Nat → Int32) (n : Int32) : Nat → Int32 := fun i => if i < n.toNatClampNeg then g i else 0
def own_vs (n : Int32) (g : Nat → Int32) : List Value := (List.range n.toNatClampNeg).map fun i => Value.int (g i)
/-- at b lies a byte[] of length n whose places hold g -/
def own_By (Z : State) (h : Heap) (b : Addr) (n : Int32) (g : Nat → Int32) : Prop := ∃ k, Arv Z h b k .byte n (own_vs n g) (.int (0 : Int32)) ∧ Exa Z h b "[B"
theorem own_vs_get (n : Int32) (g : Nat → Int32) (i : Nat) (hi : i < n.toNatClampNeg) : (own_vs n g).getD i (.int (0 : Int32)) = .int (g i) := by
  simp [own_vs, List.getD, List.getElem?_map, List.getElem?_range hi]
theorem own_vs_len (n : Int32) (g : Nat → Int32) : (own_vs n g).length = n.toNatClampNeg := by simp [own_vs]
section OwnBy
variable {Z : State} {h h' : Heap} {a b : Addr} {n : Int32} {g : Nat → Int32} {ws : List Addr} {sl : Nat} {v : Value}
theorem own_By.ext (F : own_By Z h b n g) (E : Ext h h') : own_By Z h' b n g := by obtain ⟨k, A, X⟩ := F; exact ⟨k, A.ext E, X.ext E⟩
theorem own_By.other (F : own_By Z h b n g) (W : Wr h h' a sl v) (q : b ≠ a) : own_By Z h' b n g := by obtain ⟨k, A, X⟩ := F; exact ⟨k, A.other W q, X.wr W⟩
theorem own_By.keep (F : own_By Z h b n g) (K : Keep h h' ws) (q : b ∉ ws) : own_By Z h' b n g := by obtain ⟨k, A, X⟩ := F; exact ⟨k, A.keep K q, X.keep K⟩
theorem own_By.lt (F : own_By Z h b n g) : b < h.size := by obtain ⟨k, A, X⟩ := F; exact A.lt
theorem own_By.mk {k : ClassId} {vs : List Value} {d : Value} (A : Arv Z h b k .byte n vs d) (X : Exa Z h b "[B") (q : ∀ i, i < n.toNatClampNeg → vs.getD i d = .int (g i)) : own_By Z h b n g := by
  obtain ⟨c, A, r1, r2, r3, H, G⟩ := A
  refine ⟨k, ⟨c, A, r1, r2, r3, fun i hi => ?_, fun i hi => ?_⟩, X⟩
  · rw [own_vs_get n g i (by rw [← r2]; exact hi), ← q i (by rw [← r2]; exact hi)]; exact H i hi
  · rw [own_vs_get n g i (by rw [← r2]; exact hi), ← q i (by rw [← r2]; exact hi)]; exact G i hi
theorem own_By.congr {g' : Nat → Int32} (F : own_By Z h b n g) (q : ∀ i, i < n.toNatClampNeg → g i = g' i) : own_By Z h b n g' := by
  obtain ⟨k, A, X⟩ := F
  exact own_By.mk A X fun i hi => by rw [own_vs_get n g i hi, q i hi]
theorem own_By.new {k : ClassId} (A : Arr Z h b (newA k .byte n) .byte) (X : Exa Z h b "[B") (q : ¬ n < 0) : own_By Z h b n own_zero :=
  own_By.mk (Arv.new A q) X fun i hi => rfl
theorem own_By.opened (F : own_By Z h b n g) : ∃ cl : Cell, Arr Z h b cl .byte ∧ cl.slots.size = n.toNatClampNeg ∧ ¬ n < 0 ∧ ∀ j : Int32, ¬ (j < 0 ∨ cl.slots.size ≤ j.toNatClampNeg) → cl.slots[j.toNatClampNeg]? = some (.int (g j.toNatClampNeg)) := by
  obtain ⟨k, ⟨c, A, r1, r2, r3, H, G⟩, X⟩ := F
  refine ⟨c, A, r2, r3, fun j hj => ?_⟩
  have hlt : j.toNatClampNeg < c.slots.size := Nat.lt_of_not_le fun y => hj (Or.inr y)
  rw [H _ hlt, own_vs_get n g _ (by rw [← r2]; exact hlt)]
theorem own_By.set {j x : Int32} (F : own_By Z h b n g) (W : Wr h h' b j.toNatClampNeg (.int x.toInt8.toInt32)) (hj : ¬ j < 0 ∧ j < n) : own_By Z h' b n (own_upd g j.toNatClampNeg x.toInt8.toInt32) := by
  obtain ⟨k, ⟨c, A, r1, r2, r3, H, G⟩, X⟩ := F
  have hin := inb_of r2 hj
  have hlt : j.toNatClampNeg < n.toNatClampNeg := by rw [← r2]; exact Nat.lt_of_not_le fun y => hin (Or.inr y)
  refine own_By.mk (Arv.set A r1 r2 r3 H G (fits_nar_byte _) W j.toNatClampNeg rfl (by rw [own_vs_len]; exact hlt)) (X.wr W) fun i hi => ?_
  by_cases e : i = j.toNatClampNeg
  · subst e
    simp [own_upd, List.getD, List.getElem?_set, own_vs_len, hlt]
  · have := own_vs_get n g i hi
    simp only [List.getD] at this ⊢
    rw [List.getElem?_set_ne (fun q => e q.symm), this]
    simp [own_upd, e]
end OwnBy

def own_mx (a b : Int32) : Int32 := if a < b then b else a
def own_mn (a b : Int32) : Int32 := if b < a then b else a
def own_ac (g g' : Nat → Int32) (sp dp nn : Nat) : Nat → Int32 := fun i => if dp ≤ i ∧ i < dp + nn then g (sp + (i - dp)) else g' i
def own_exp (f a b c i : Int32) : Int32 := if i < f then 0 else if i = f then nar .byte a.toInt8.toInt32 else if i = (f + (1 : Int32)) then nar .byte b.toInt8.toInt32 else nar .byte c.toInt8.toInt32
theorem own_nat {j : Int32} (h : ¬ j < 0) : (j.toNatClampNeg : Int) = j.toInt := (nat_of h).symm
theorem own_cap {m : Int32} (h : ¬ (34 : Int32) < m) : m.toNatClampNeg ≤ 34 := by
  by_cases q : m < 0
  · rw [Int32.lt_iff_toInt_lt] at q
    have k0 : (0 : Int32).toInt = 0 := by decide
    have : m.toNatClampNeg = 0 := by show m.toInt.toNat = 0; omega
    omega
  · have := own_nat q
    rw [Int32.lt_iff_toInt_lt] at h
    have k : (34 : Int32).toInt = 34 := by decide
    omega
section OwnCopy
variable {p : Program} {l : Launch} {e : Env} {R : Room} {s : State} {m : MethodId} {args : Array Value} {below : List Frame} {meth : Method} {c : Code} {T : State} {locs : List Loc} {cells slots : Nat} {Z : State} {h : Heap} {a b : Addr}
theorem own_copy (X : Stand p l e R s m args below meth c T locs cells slots) (hx : p.tables.exec = Jvm.exec) (hZ : Z.Warmed39 s.vm) {a0 : Array Value} {own : String} {index : Nat} (hown : s.vm.findClass own = some m.cls)
    (w1 : (Jvm.Cond.methodLink own index Jvm.Stand.acN).before a0 Z = true) (w2 : (Jvm.Cond.native Jvm.Stand.acN).before a0 Z = true) (w3 : (Jvm.Cond.static Jvm.Stand.acN).before a0 Z = true) (w4 : (Jvm.Cond.initialized "java/lang/System").before a0 Z = true) (eT : T.heap = h)
    {n n' sp dp nn : Int32} {f f' : Nat → Int32} (A : own_By Z h a n f) (B : own_By Z h b n' f') (h1 : ¬ sp < 0) (h2 : ¬ dp < 0) (h3 : ¬ nn < 0) (h4 : sp.toNatClampNeg + nn.toNatClampNeg ≤ n.toNatClampNeg) (h5 : dp.toNatClampNeg + nn.toNatClampNeg ≤ n'.toNatClampNeg)
    {n0 : Nat} (N : Fr n0 locs) (ge : n0 ≤ b) {g : JFrame} (hg : g.method = m) (hsize : g.locals.size = c.maxLocals) {rest : List Value} (hs : g.stack = .int nn :: .int dp :: .ref b :: .int sp :: .ref a :: rest) (hd : decode c.code g.pc = .ok (.invokestatic index, 3))
    (hf : 1 ≤ R.frames) {W : Nat} (hW : 2 * g.monitorRoom + (rest.map fun v => v.category).sum ≤ W) (hlo : W + (nativeFrameWords "java/lang/System" "arraycopy" 5 + 11) ≤ R.locals) :
    ∃ T' h' L, Stand p l e R s m args below meth c T' L cells slots ∧ T'.heap = h' ∧ Fr n0 L ∧ Keep h h' [b] ∧ own_By Z h' b n' (own_ac f f' sp.toNatClampNeg dp.toNatClampNeg nn.toNatClampNeg) ∧
      ∀ target, Steps p.tables e below (T'.setTop { g with pc := g.pc + 3, stack := rest }) target → Steps p.tables e below (T.setTop g) target := by
  obtain ⟨kA, Av, Ax⟩ := A
  obtain ⟨kB, Bv, Bx⟩ := B
  obtain ⟨T', h', L, X', e', N', K, V, st⟩ := cpA X hx hZ hown w1 w2 w3 w4 eT Av Bv (us := (List.range nn.toNatClampNeg).map fun i => (own_vs n f).getD (sp.toNatClampNeg + i) (.int (0 : Int32))) (Or.inl ⟨rfl, rfl⟩) h1 h2 h3 h4 h5 rfl (by rw [own_vs_len]; exact h5) N ge hg hsize hs hd hf hW hlo
  refine ⟨T', h', L, X', e', N', K, own_By.mk V (Bx.keep K) fun i hi => ?_, st⟩
  have hl := own_vs_len n' f'
  by_cases q1 : i < dp.toNatClampNeg
  · have e1 : (List.take dp.toNatClampNeg (own_vs n' f')).length = dp.toNatClampNeg := by rw [List.length_take, hl]; omega
    have := own_vs_get n' f' i hi
    simp only [List.getD] at this ⊢
    rw [List.append_assoc, List.getElem?_append_left (by omega), List.getElem?_take_of_lt q1, this]
    simp only [own_ac]
    rw [if_neg (by omega)]
  · have e1 : (List.take dp.toNatClampNeg (own_vs n' f')).length = dp.toNatClampNeg := by rw [List.length_take, hl]; omega
    by_cases q2 : i < dp.toNatClampNeg + nn.toNatClampNeg
    · have := own_vs_get n f (sp.toNatClampNeg + (i - dp.toNatClampNeg)) (by omega)
      simp only [List.getD] at this ⊢
      rw [List.append_assoc, List.getElem?_append_right (by omega), List.getElem?_append_left (by simp; omega), e1, List.getElem?_map, List.getElem?_range (by omega)]
      simp only [Option.map_some, Option.getD_some, this]
      simp only [own_ac]
      rw [if_pos (by omega)]
    · have := own_vs_get n' f' i hi
      simp only [List.getD] at this ⊢
      rw [List.append_assoc, List.getElem?_append_right (by omega), List.getElem?_append_right (by simp; omega), e1, List.getElem?_drop]
      simp only [List.length_map, List.length_range]
      rw [show dp.toNatClampNeg + nn.toNatClampNeg + (i - dp.toNatClampNeg - nn.toNatClampNeg) = i by omega, this]
      simp only [own_ac]
      rw [if_neg (by omega)]
end OwnCopy

theorem own_mn_le {n m : Int32} (hn : ¬ n < 0) (hm : ¬ m < 0) : ¬ own_mn n m < 0 ∧ (own_mn n m).toNatClampNeg ≤ n.toNatClampNeg ∧ (own_mn n m).toNatClampNeg ≤ m.toNatClampNeg ∧ ∀ i, i < m.toNatClampNeg → (i < (own_mn n m).toNatClampNeg ↔ i < n.toNatClampNeg) := by
  have a1 := own_nat hn
  have a2 := own_nat hm
  unfold own_mn
  split
  · rename_i q
    rw [Int32.lt_iff_toInt_lt] at q
    exact ⟨hm, by omega, by omega, fun i hi => by omega⟩
  · rename_i q
    rw [Int32.lt_iff_toInt_lt] at q
    exact ⟨hn, by omega, by omega, fun i hi => Iff.rfl⟩
theorem own_cutc {g : Nat → Int32} {n m : Int32} (hn : ¬ n < 0) (hm : ¬ m < 0) (i : Nat) (hi : i < m.toNatClampNeg) : own_ac g own_zero (0 : Int32).toNatClampNeg (0 : Int32).toNatClampNeg (own_mn n m).toNatClampNeg i = own_cut g n i := by
  have z : (0 : Int32).toNatClampNeg = 0 := by decide
  have q := (own_mn_le hn hm).2.2.2 i hi
  simp only [own_ac, own_cut, own_zero, z, Nat.zero_le, true_and, Nat.zero_add, Nat.sub_zero, q]

theorem own_mx16 {k : Int32} (h1 : ¬ k < (0 : Int32)) (h2 : k < (32 : Int32)) : 16 ≤ (own_mx (16 : Int32) k).toInt ∧ (own_mx (16 : Int32) k).toInt ≤ 31 := by
  rw [Int32.lt_iff_toInt_lt] at h1 h2
  have k0 : (0 : Int32).toInt = 0 := by decide
  have k1 : (32 : Int32).toInt = 32 := by decide
  have k2 : (16 : Int32).toInt = 16 := by decide
  unfold own_mx
  split
  · rename_i q
    rw [Int32.lt_iff_toInt_lt] at q
    omega
  · omega
theorem own_nn {m : Int32} (h : 0 ≤ m.toInt) : ¬ m < (0 : Int32) := by
  rw [Int32.lt_iff_toInt_lt]
  have k0 : (0 : Int32).toInt = 0 := by decide
  omega
theorem own_cap31 {m : Int32} (h : 16 ≤ m.toInt ∧ m.toInt ≤ 31) : m.toNatClampNeg ≤ 31 := by
  have := own_nat (own_nn (show 0 ≤ m.toInt by omega))
  omega
theorem own_grow {n t : Int32} (h : 16 ≤ n.toInt ∧ n.toInt ≤ 17) (ht : 0 ≤ t.toInt ∧ t.toInt ≤ 18) : 32 ≤ (own_mx ((2 : Int32) * n) t).toInt ∧ (own_mx ((2 : Int32) * n) t).toInt ≤ 34 := by
  have k2 : (2 : Int32).toInt = 2 := by decide
  have c1 := c_imul 2 n
  have c2 := rng32 ((2 : Int32) * n)
  rw [k2] at c1
  unfold own_mx
  split
  · rename_i q
    rw [Int32.lt_iff_toInt_lt] at q
    omega
  · omega
theorem own_n34 {m : Int32} (h : m.toInt ≤ 34) : ¬ (34 : Int32) < m := by
  rw [Int32.lt_iff_toInt_lt]
  have k0 : (34 : Int32).toInt = 34 := by decide
  omega
theorem own_s1 {z : Int32} (h : 0 ≤ z.toInt ∧ z.toInt ≤ 17) : (z + (1 : Int32)).toInt = z.toInt + 1 := by
  have c1 := c_iadd z 1
  have c2 := rng32 (z + 1)
  have k1 : (1 : Int32).toInt = 1 := by decide
  omega
theorem own_inb {z n : Int32} (h : 0 ≤ z.toInt ∧ z.toInt ≤ 17) (q : ¬ n < (z + (1 : Int32))) : ¬ z < 0 ∧ z < n := by
  have e := own_s1 h
  refine ⟨own_nn h.1, ?_⟩
  rw [Int32.lt_iff_toInt_lt] at q ⊢
  omega
theorem own_inb2 {z n : Int32} (h : 0 ≤ z.toInt ∧ z.toInt ≤ 17) (q : 32 ≤ n.toInt) : ¬ z < 0 ∧ z < n := by
  refine ⟨own_nn h.1, ?_⟩
  rw [Int32.lt_iff_toInt_lt]
  omega
theorem own_le17 {n z : Int32} (h : 16 ≤ n.toInt) (hz : 0 ≤ z.toInt ∧ z.toInt ≤ 17) (q : n < (z + (1 : Int32))) : 16 ≤ n.toInt ∧ n.toInt ≤ 17 := by
  have e := own_s1 hz
  rw [Int32.lt_iff_toInt_lt] at q
  omega
theorem own_ng {n z : Int32} (h : z.toInt ≤ n.toInt) : ¬ n < z := by
  rw [Int32.lt_iff_toInt_lt]
  omega

theorem own_joinP {p : Program} {e : Env} {below : List Frame} {α : Type} {F : State → Outcome → Prop} {B : State} (A : α → State) (Pr : α → Prop) (h1 : ∀ a, Pr a → own_Go p e below F (A a)) (h2 : (∀ a, Pr a → own_Go p e below F (A a)) → own_Go p e below F B) : own_Go p e below F B := h2 h1
theorem own_m31 (x : Int32) : ¬ (x &&& (31 : Int32)) < (0 : Int32) ∧ (x &&& (31 : Int32)) < (32 : Int32) := by
  rw [Int32.lt_iff_toInt_lt, Int32.lt_iff_toInt_lt, c_mask x 31 5 (by decide) (by decide)]
  have k0 : (0 : Int32).toInt = 0 := by decide
  have k1 : (32 : Int32).toInt = 32 := by decide
  omega
theorem own_m3 (x : Int32) : 0 ≤ (x &&& (3 : Int32)).toInt ∧ (x &&& (3 : Int32)).toInt ≤ 3 := by
  rw [c_mask x 3 2 (by decide) (by decide)]
  omega
theorem own_cnt {z k k' : Int32} (h1 : k < z) (h2 : ¬ k' < z) (q : k'.toInt = k.toInt + 1) : z = k' := by
  rw [Int32.lt_iff_toInt_lt] at h1 h2
  exact Int32.toInt_inj.mp (by omega)
theorem own_cnt0 {z : Int32} (h0 : 0 ≤ z.toInt) (h2 : ¬ (0 : Int32) < z) : z = (0 : Int32) := by
  rw [Int32.lt_iff_toInt_lt] at h2
  have k0 : (0 : Int32).toInt = 0 := by decide
  exact Int32.toInt_inj.mp (by omega)
theorem own_cnt3 {z : Int32} (h0 : z.toInt ≤ 3) (h2 : (2 : Int32) < z) : z = (3 : Int32) := by
  rw [Int32.lt_iff_toInt_lt] at h2
  have k0 : (2 : Int32).toInt = 2 := by decide
  have k1 : (3 : Int32).toInt = 3 := by decide
  exact Int32.toInt_inj.mp (by omega)
/-- the places below len hold what the law expects -/
def own_Good (f a b c z : Int32) (g : Nat → Int32) : Prop := ∀ j : Int32, ¬ j < (0 : Int32) → j < z → g j.toNatClampNeg = own_exp f a b c j
theorem own_Good.cut {f a b c z n : Int32} {g : Nat → Int32} (h : own_Good f a b c z g) (q : ¬ n < z) : own_Good f a b c z (own_cut g n) := fun j h1 h2 => by
  rw [← h j h1 h2]
  have e := own_nat h1
  rw [Int32.lt_iff_toInt_lt] at h2 q h1
  have k0 : (0 : Int32).toInt = 0 := by decide
  have e2 := own_nat (own_nn (show 0 ≤ n.toInt by omega))
  simp only [own_cut]
  rw [if_pos (by omega)]
theorem own_Good.less {f a b c z z' : Int32} {g : Nat → Int32} (h : own_Good f a b c z g) (q : ¬ z < z') : own_Good f a b c z' g := fun j h1 h2 => h j h1 (by
  rw [Int32.lt_iff_toInt_lt] at *
  omega)
theorem own_kept {u z : Int32} (hz : 0 ≤ z.toInt ∧ z.toInt ≤ 18) : (0 ≤ (own_mn (u &&& (31 : Int32)) z).toInt ∧ (own_mn (u &&& (31 : Int32)) z).toInt ≤ 18) ∧ ¬ z < own_mn (u &&& (31 : Int32)) z := by
  have h := own_m31 u
  rw [Int32.lt_iff_toInt_lt, Int32.lt_iff_toInt_lt] at h
  have k0 : (0 : Int32).toInt = 0 := by decide
  unfold own_mn
  split
  · rename_i q
    rw [Int32.lt_iff_toInt_lt] at q ⊢
    omega
  · rename_i q
    rw [Int32.lt_iff_toInt_lt] at q ⊢
    omega
theorem own_last {z : Int32} (h : (0 : Int32) < z) (r : 0 ≤ z.toInt ∧ z.toInt ≤ 18) : ¬ (z - (1 : Int32)) < 0 ∧ (z - (1 : Int32)) < z := by
  rw [Int32.lt_iff_toInt_lt] at *
  have k0 : (0 : Int32).toInt = 0 := by decide
  have k1 : (1 : Int32).toInt = 1 := by decide
  have c1 := c_isub z 1
  have c2 := rng32 (z - 1)
  rw [Int32.lt_iff_toInt_lt]
  omega
theorem own_ltF {z k k' : Int32} (h : ¬ k < z) (q : k.toInt ≤ k'.toInt) : ¬ k' < z := by
  rw [Int32.lt_iff_toInt_lt] at *
  omega
theorem own_le_n {n z : Int32} (h : z.toInt ≤ n.toInt) : ¬ n < z := own_ng h
theorem own_hG_0 (nv p1 p2 p3 : Int32) (hn : 16 ≤ nv.toInt) : own_Good (0 : Int32) p1 p2 p3 (3 : Int32) (own_upd (own_upd (own_upd own_zero (0 : Int32).toNatClampNeg (p1.toInt8.toInt32).toInt8.toInt32) ((0 : Int32) + (1 : Int32)).toNatClampNeg (p2.toInt8.toInt32).toInt8.toInt32) (((0 : Int32) + (1 : Int32)) + (1 : Int32)).toNatClampNeg (p3.toInt8.toInt32).toInt8.toInt32) := by
  intro j h1 h2
  have hj := own_nat h1
  have hv := own_nat (own_nn (Int.le_trans (by decide) hn))
  have hu0 : ((0 : Int32) : Int32).toNatClampNeg = 0 := by decide
  have hu1 : (((0 : Int32) + (1 : Int32)) : Int32).toNatClampNeg = 1 := by decide
  have hu2 : ((((0 : Int32) + (1 : Int32)) + (1 : Int32)) : Int32).toNatClampNeg = 2 := by decide
  have k0 : ((0 : Int32) : Int32).toInt = 0 := by decide
  have k1 : ((0 : Int32) + (1 : Int32) : Int32).toInt = 1 := by decide
  have k2 : ((3 : Int32) : Int32).toInt = 3 := by decide
  rw [Int32.lt_iff_toInt_lt] at h2
  simp only [own_exp, own_upd, own_cut, own_zero]
  have q1 : j < (0 : Int32) ↔ j.toInt < 0 := by rw [Int32.lt_iff_toInt_lt, k0]
  have q2 : j = (0 : Int32) ↔ j.toInt = 0 := by rw [← Int32.toInt_inj, k0]
  have q3 : j = ((0 : Int32) + (1 : Int32)) ↔ j.toInt = 1 := by rw [← Int32.toInt_inj, k1]
  simp only [q1, q2, q3]
  repeat' split
  all_goals first | (exfalso; omega) | rfl
theorem own_hG_1 (nv p1 p2 p3 : Int32) (hn : 16 ≤ nv.toInt) : own_Good (0 : Int32) p1 p2 p3 (2 : Int32) (own_upd (own_upd own_zero (0 : Int32).toNatClampNeg (p1.toInt8.toInt32).toInt8.toInt32) ((0 : Int32) + (1 : Int32)).toNatClampNeg (p2.toInt8.toInt32).toInt8.toInt32) := by
  intro j h1 h2
  have hj := own_nat h1
  have hv := own_nat (own_nn (Int.le_trans (by decide) hn))
  have hu0 : ((0 : Int32) : Int32).toNatClampNeg = 0 := by decide
  have hu1 : (((0 : Int32) + (1 : Int32)) : Int32).toNatClampNeg = 1 := by decide
  have k0 : ((0 : Int32) : Int32).toInt = 0 := by decide
  have k1 : ((0 : Int32) + (1 : Int32) : Int32).toInt = 1 := by decide
  have k2 : ((2 : Int32) : Int32).toInt = 2 := by decide
  rw [Int32.lt_iff_toInt_lt] at h2
  simp only [own_exp, own_upd, own_cut, own_zero]
  have q1 : j < (0 : Int32) ↔ j.toInt < 0 := by rw [Int32.lt_iff_toInt_lt, k0]
  have q2 : j = (0 : Int32) ↔ j.toInt = 0 := by rw [← Int32.toInt_inj, k0]
  have q3 : j = ((0 : Int32) + (1 : Int32)) ↔ j.toInt = 1 := by rw [← Int32.toInt_inj, k1]
  simp only [q1, q2, q3]
  repeat' split
  all_goals first | (exfalso; omega) | rfl
theorem own_hG_2 (nv p1 p2 p3 : Int32) (hn : 16 ≤ nv.toInt) : own_Good (0 : Int32) p1 p2 p3 (1 : Int32) (own_upd own_zero (0 : Int32).toNatClampNeg (p1.toInt8.toInt32).toInt8.toInt32) := by
  intro j h1 h2
  have hj := own_nat h1
  have hv := own_nat (own_nn (Int.le_trans (by decide) hn))
  have hu0 : ((0 : Int32) : Int32).toNatClampNeg = 0 := by decide
  have k0 : ((0 : Int32) : Int32).toInt = 0 := by decide
  have k1 : ((0 : Int32) + (1 : Int32) : Int32).toInt = 1 := by decide
  have k2 : ((1 : Int32) : Int32).toInt = 1 := by decide
  rw [Int32.lt_iff_toInt_lt] at h2
  simp only [own_exp, own_upd, own_cut, own_zero]
  have q1 : j < (0 : Int32) ↔ j.toInt < 0 := by rw [Int32.lt_iff_toInt_lt, k0]
  have q2 : j = (0 : Int32) ↔ j.toInt = 0 := by rw [← Int32.toInt_inj, k0]
  have q3 : j = ((0 : Int32) + (1 : Int32)) ↔ j.toInt = 1 := by rw [← Int32.toInt_inj, k1]
  simp only [q1, q2, q3]
  repeat' split
  all_goals first | (exfalso; omega) | rfl
theorem own_hG_3 (nv p1 p2 p3 : Int32) (hn : 16 ≤ nv.toInt) : own_Good (0 : Int32) p1 p2 p3 (0 : Int32) own_zero := by
  intro j h1 h2
  have hj := own_nat h1
  have hv := own_nat (own_nn (Int.le_trans (by decide) hn))

  have k0 : ((0 : Int32) : Int32).toInt = 0 := by decide
  have k1 : ((0 : Int32) + (1 : Int32) : Int32).toInt = 1 := by decide
  have k2 : ((0 : Int32) : Int32).toInt = 0 := by decide
  rw [Int32.lt_iff_toInt_lt] at h2
  simp only [own_exp, own_upd, own_cut, own_zero]
  have q1 : j < (0 : Int32) ↔ j.toInt < 0 := by rw [Int32.lt_iff_toInt_lt, k0]
  have q2 : j = (0 : Int32) ↔ j.toInt = 0 := by rw [← Int32.toInt_inj, k0]
  have q3 : j = ((0 : Int32) + (1 : Int32)) ↔ j.toInt = 1 := by rw [← Int32.toInt_inj, k1]
  simp only [q1, q2, q3]
  repeat' split
  all_goals first | (exfalso; omega) | rfl
theorem own_hG_4 (nv p1 p2 p3 : Int32) (hn : 16 ≤ nv.toInt) : own_Good (15 : Int32) p1 p2 p3 (18 : Int32) (own_upd (own_upd (own_cut (own_upd own_zero (15 : Int32).toNatClampNeg (p1.toInt8.toInt32).toInt8.toInt32) nv) ((15 : Int32) + (1 : Int32)).toNatClampNeg (p2.toInt8.toInt32).toInt8.toInt32) (((15 : Int32) + (1 : Int32)) + (1 : Int32)).toNatClampNeg (p3.toInt8.toInt32).toInt8.toInt32) := by
  intro j h1 h2
  have hj := own_nat h1
  have hv := own_nat (own_nn (Int.le_trans (by decide) hn))
  have hu0 : ((15 : Int32) : Int32).toNatClampNeg = 15 := by decide
  have hu1 : (((15 : Int32) + (1 : Int32)) : Int32).toNatClampNeg = 16 := by decide
  have hu2 : ((((15 : Int32) + (1 : Int32)) + (1 : Int32)) : Int32).toNatClampNeg = 17 := by decide
  have k0 : ((15 : Int32) : Int32).toInt = 15 := by decide
  have k1 : ((15 : Int32) + (1 : Int32) : Int32).toInt = 16 := by decide
  have k2 : ((18 : Int32) : Int32).toInt = 18 := by decide
  rw [Int32.lt_iff_toInt_lt] at h2
  simp only [own_exp, own_upd, own_cut, own_zero]
  have q1 : j < (15 : Int32) ↔ j.toInt < 15 := by rw [Int32.lt_iff_toInt_lt, k0]
  have q2 : j = (15 : Int32) ↔ j.toInt = 15 := by rw [← Int32.toInt_inj, k0]
  have q3 : j = ((15 : Int32) + (1 : Int32)) ↔ j.toInt = 16 := by rw [← Int32.toInt_inj, k1]
  simp only [q1, q2, q3]
  repeat' split
  all_goals first | (exfalso; omega) | rfl
theorem own_hG_5 (nv p1 p2 p3 : Int32) (hn : 16 ≤ nv.toInt) : own_Good (15 : Int32) p1 p2 p3 (17 : Int32) (own_upd (own_cut (own_upd own_zero (15 : Int32).toNatClampNeg (p1.toInt8.toInt32).toInt8.toInt32) nv) ((15 : Int32) + (1 : Int32)).toNatClampNeg (p2.toInt8.toInt32).toInt8.toInt32) := by
  intro j h1 h2
  have hj := own_nat h1
  have hv := own_nat (own_nn (Int.le_trans (by decide) hn))
  have hu0 : ((15 : Int32) : Int32).toNatClampNeg = 15 := by decide
  have hu1 : (((15 : Int32) + (1 : Int32)) : Int32).toNatClampNeg = 16 := by decide
  have k0 : ((15 : Int32) : Int32).toInt = 15 := by decide
  have k1 : ((15 : Int32) + (1 : Int32) : Int32).toInt = 16 := by decide
  have k2 : ((17 : Int32) : Int32).toInt = 17 := by decide
  rw [Int32.lt_iff_toInt_lt] at h2
  simp only [own_exp, own_upd, own_cut, own_zero]
  have q1 : j < (15 : Int32) ↔ j.toInt < 15 := by rw [Int32.lt_iff_toInt_lt, k0]
  have q2 : j = (15 : Int32) ↔ j.toInt = 15 := by rw [← Int32.toInt_inj, k0]
  have q3 : j = ((15 : Int32) + (1 : Int32)) ↔ j.toInt = 16 := by rw [← Int32.toInt_inj, k1]
  simp only [q1, q2, q3]
  repeat' split
  all_goals first | (exfalso; omega) | rfl
theorem own_hG_6 (nv p1 p2 p3 : Int32) (hn : 17 ≤ nv.toInt) : own_Good (15 : Int32) p1 p2 p3 (18 : Int32) (own_upd (own_cut (own_upd (own_upd own_zero (15 : Int32).toNatClampNeg (p1.toInt8.toInt32).toInt8.toInt32) ((15 : Int32) + (1 : Int32)).toNatClampNeg (p2.toInt8.toInt32).toInt8.toInt32) nv) (((15 : Int32) + (1 : Int32)) + (1 : Int32)).toNatClampNeg (p3.toInt8.toInt32).toInt8.toInt32) := by
  intro j h1 h2
  have hj := own_nat h1
  have hv := own_nat (own_nn (Int.le_trans (by decide) hn))
  have hu0 : ((15 : Int32) : Int32).toNatClampNeg = 15 := by decide
  have hu1 : (((15 : Int32) + (1 : Int32)) : Int32).toNatClampNeg = 16 := by decide
  have hu2 : ((((15 : Int32) + (1 : Int32)) + (1 : Int32)) : Int32).toNatClampNeg = 17 := by decide
  have k0 : ((15 : Int32) : Int32).toInt = 15 := by decide
  have k1 : ((15 : Int32) + (1 : Int32) : Int32).toInt = 16 := by decide
  have k2 : ((18 : Int32) : Int32).toInt = 18 := by decide
  rw [Int32.lt_iff_toInt_lt] at h2
  simp only [own_exp, own_upd, own_cut, own_zero]
  have q1 : j < (15 : Int32) ↔ j.toInt < 15 := by rw [Int32.lt_iff_toInt_lt, k0]
  have q2 : j = (15 : Int32) ↔ j.toInt = 15 := by rw [← Int32.toInt_inj, k0]
  have q3 : j = ((15 : Int32) + (1 : Int32)) ↔ j.toInt = 16 := by rw [← Int32.toInt_inj, k1]
  simp only [q1, q2, q3]
  repeat' split
  all_goals first | (exfalso; omega) | rfl
theorem own_hG_7 (nv p1 p2 p3 : Int32) (hn : 16 ≤ nv.toInt) : own_Good (15 : Int32) p1 p2 p3 (18 : Int32) (own_upd (own_upd (own_upd own_zero (15 : Int32).toNatClampNeg (p1.toInt8.toInt32).toInt8.toInt32) ((15 : Int32) + (1 : Int32)).toNatClampNeg (p2.toInt8.toInt32).toInt8.toInt32) (((15 : Int32) + (1 : Int32)) + (1 : Int32)).toNatClampNeg (p3.toInt8.toInt32).toInt8.toInt32) := by
  intro j h1 h2
  have hj := own_nat h1
  have hv := own_nat (own_nn (Int.le_trans (by decide) hn))
  have hu0 : ((15 : Int32) : Int32).toNatClampNeg = 15 := by decide
  have hu1 : (((15 : Int32) + (1 : Int32)) : Int32).toNatClampNeg = 16 := by decide
  have hu2 : ((((15 : Int32) + (1 : Int32)) + (1 : Int32)) : Int32).toNatClampNeg = 17 := by decide
  have k0 : ((15 : Int32) : Int32).toInt = 15 := by decide
  have k1 : ((15 : Int32) + (1 : Int32) : Int32).toInt = 16 := by decide
  have k2 : ((18 : Int32) : Int32).toInt = 18 := by decide
  rw [Int32.lt_iff_toInt_lt] at h2
  simp only [own_exp, own_upd, own_cut, own_zero]
  have q1 : j < (15 : Int32) ↔ j.toInt < 15 := by rw [Int32.lt_iff_toInt_lt, k0]
  have q2 : j = (15 : Int32) ↔ j.toInt = 15 := by rw [← Int32.toInt_inj, k0]
  have q3 : j = ((15 : Int32) + (1 : Int32)) ↔ j.toInt = 16 := by rw [← Int32.toInt_inj, k1]
  simp only [q1, q2, q3]
  repeat' split
  all_goals first | (exfalso; omega) | rfl
theorem own_hG_8 (nv p1 p2 p3 : Int32) (hn : 16 ≤ nv.toInt) : own_Good (15 : Int32) p1 p2 p3 (17 : Int32) (own_upd (own_upd own_zero (15 : Int32).toNatClampNeg (p1.toInt8.toInt32).toInt8.toInt32) ((15 : Int32) + (1 : Int32)).toNatClampNeg (p2.toInt8.toInt32).toInt8.toInt32) := by
  intro j h1 h2
  have hj := own_nat h1
  have hv := own_nat (own_nn (Int.le_trans (by decide) hn))
  have hu0 : ((15 : Int32) : Int32).toNatClampNeg = 15 := by decide
  have hu1 : (((15 : Int32) + (1 : Int32)) : Int32).toNatClampNeg = 16 := by decide
  have k0 : ((15 : Int32) : Int32).toInt = 15 := by decide
  have k1 : ((15 : Int32) + (1 : Int32) : Int32).toInt = 16 := by decide
  have k2 : ((17 : Int32) : Int32).toInt = 17 := by decide
  rw [Int32.lt_iff_toInt_lt] at h2
  simp only [own_exp, own_upd, own_cut, own_zero]
  have q1 : j < (15 : Int32) ↔ j.toInt < 15 := by rw [Int32.lt_iff_toInt_lt, k0]
  have q2 : j = (15 : Int32) ↔ j.toInt = 15 := by rw [← Int32.toInt_inj, k0]
  have q3 : j = ((15 : Int32) + (1 : Int32)) ↔ j.toInt = 16 := by rw [← Int32.toInt_inj, k1]
  simp only [q1, q2, q3]
  repeat' split
  all_goals first | (exfalso; omega) | rfl
theorem own_hG_9 (nv p1 p2 p3 : Int32) (hn : 16 ≤ nv.toInt) : own_Good (15 : Int32) p1 p2 p3 (16 : Int32) (own_upd own_zero (15 : Int32).toNatClampNeg (p1.toInt8.toInt32).toInt8.toInt32) := by
  intro j h1 h2
  have hj := own_nat h1
  have hv := own_nat (own_nn (Int.le_trans (by decide) hn))
  have hu0 : ((15 : Int32) : Int32).toNatClampNeg = 15 := by decide
  have k0 : ((15 : Int32) : Int32).toInt = 15 := by decide
  have k1 : ((15 : Int32) + (1 : Int32) : Int32).toInt = 16 := by decide
  have k2 : ((16 : Int32) : Int32).toInt = 16 := by decide
  rw [Int32.lt_iff_toInt_lt] at h2
  simp only [own_exp, own_upd, own_cut, own_zero]
  have q1 : j < (15 : Int32) ↔ j.toInt < 15 := by rw [Int32.lt_iff_toInt_lt, k0]
  have q2 : j = (15 : Int32) ↔ j.toInt = 15 := by rw [← Int32.toInt_inj, k0]
  have q3 : j = ((15 : Int32) + (1 : Int32)) ↔ j.toInt = 16 := by rw [← Int32.toInt_inj, k1]
  simp only [q1, q2, q3]
  repeat' split
  all_goals first | (exfalso; omega) | rfl
theorem own_hG_10 (nv p1 p2 p3 : Int32) (hn : 16 ≤ nv.toInt) : own_Good (15 : Int32) p1 p2 p3 (15 : Int32) own_zero := by
  intro j h1 h2
  have hj := own_nat h1
  have hv := own_nat (own_nn (Int.le_trans (by decide) hn))

  have k0 : ((15 : Int32) : Int32).toInt = 15 := by decide
  have k1 : ((15 : Int32) + (1 : Int32) : Int32).toInt = 16 := by decide
  have k2 : ((15 : Int32) : Int32).toInt = 15 := by decide
  rw [Int32.lt_iff_toInt_lt] at h2
  simp only [own_exp, own_upd, own_cut, own_zero]
  have q1 : j < (15 : Int32) ↔ j.toInt < 15 := by rw [Int32.lt_iff_toInt_lt, k0]
  have q2 : j = (15 : Int32) ↔ j.toInt = 15 := by rw [← Int32.toInt_inj, k0]
  have q3 : j = ((15 : Int32) + (1 : Int32)) ↔ j.toInt = 16 := by rw [← Int32.toInt_inj, k1]
  simp only [q1, q2, q3]
  repeat' split
  all_goals first | (exfalso; omega) | rfl
theorem pn_0 : plainName "java/util/Arrays" = true := by first | (simp [plainName, overriddenIn]; done) | decide +kernel
theorem pn_1 : plainName "com/example/lens_on_archives/lensonarchives/Bytes" = true := by first | (simp [plainName, overriddenIn]; done) | decide +kernel
theorem pn_2 : plainName "com/example/lens_on_archives/lensonarchives/BytesToArrayPinLaw" = true := by first | (simp [plainName, overriddenIn]; done) | decide +kernel
theorem pd_0 : parseMethodDescriptor "(II)I" = some ⟨[.int, .int], some .int⟩ := by decide +kernel
theorem pd_1 : parseMethodDescriptor "([BI)[B" = some ⟨[(.array .byte), .int], some (.array .byte)⟩ := by decide +kernel
theorem pd_2 : parseMethodDescriptor "(I)V" = some ⟨[.int], none⟩ := by decide +kernel
theorem pd_3 : parseMethodDescriptor "(IIIII)B" = some ⟨[.int, .int, .int, .int, .int], some .byte⟩ := by decide +kernel
theorem pd_4 : parseMethodDescriptor "()[B" = some ⟨[], some (.array .byte)⟩ := by decide +kernel
theorem pd_5 : parseMethodDescriptor "([BIIIIII)Z" = some ⟨[(.array .byte), .int, .int, .int, .int, .int, .int], some .boolean⟩ := by decide +kernel
theorem pd_6 : parseMethodDescriptor "([B)V" = some ⟨[(.array .byte)], none⟩ := by decide +kernel
theorem d1_0 : decode jdk_29_method_65_code 0 = .ok (.iload_n 0, 1) := by decide +kernel
theorem d1_1 : decode jdk_29_method_65_code 1 = .ok (.iload_n 1, 1) := by decide +kernel
theorem d1_2 : decode jdk_29_method_65_code 2 = .ok (.if_icmp .lt 7, 3) := by decide +kernel
theorem d1_5 : decode jdk_29_method_65_code 5 = .ok (.iload_n 0, 1) := by decide +kernel
theorem d1_6 : decode jdk_29_method_65_code 6 = .ok (.goto 4, 3) := by decide +kernel
theorem d1_9 : decode jdk_29_method_65_code 9 = .ok (.iload_n 1, 1) := by decide +kernel
theorem d1_10 : decode jdk_29_method_65_code 10 = .ok (.ireturn, 1) := by decide +kernel
theorem ef_1 (m : MethodId) (pa : Int32) (pb : Int32) : entryFrame m #[(.int pa), (.int pb)] 2 = mkF m 0 #[.val (.int pa), .val (.int pb)] [] := by first | (simp [entryFrame, mkF, argsToLocals, Value.category]; done) | rfl
def Q1 (Z : State) (pa : Int32) (pb : Int32) (h0 : Heap) (n0 : Nat) (v : Option Value) (h : Heap) (L : List Loc) : Prop := v = some (.int (own_mx pa pb)) ∧ Fr n0 L ∧ h = h0
set_option maxRecDepth 65536 in
set_option maxHeartbeats 40000000 in
theorem rm1 (l : Launch) (Z : State) (a0 : Array Value) (hw : ∀ d ∈ tables_1, d.before a0 Z = true) (ws : List Jvm.Cond) (pa : Int32) (pb : Int32) (h0 : Heap) (n0 : Nat) (Z0 : n0 ≤ h0.size)  :
    MetFree l (⟨"java/lang/Math", "max", "(II)I"⟩ : MethodName) (head1 (Jvm.Cond.code (⟨"java/lang/Math", "max", "(II)I"⟩ : MethodName) jdk_29_method_65_code 2 (some .int) :: ws) ({ frames := 0, cells := 0, slots := 0, locals := 0 } : Room)) (fun ar_ U => ar_ = #[(.int pa), (.int pb)] ∧ Z.Warmed39 U.vm ∧ U.heap = h0) (fun _ _ _ _ _ => True) (fun _ U oo_ U' => ∃ v L, oo_ = .returned v ∧ Q1 Z pa pb  h0 n0 v U'.heap L ∧ FrameEnd U oo_ U' L ({ frames := 0, cells := 0, slots := 0, locals := 0 } : Room).cells ({ frames := 0, cells := 0, slots := 0, locals := 0 } : Room).slots) := by
  refine MetFree.of_bodySF (by decide +kernel) hisR ?_
  intro p e s m args below meth c s₁ Bd hml0 hP hK
  obtain ⟨rfl, hZ, hh⟩ := hP
  have hx := Bd.exec
  have hby := Bd.bytes
  have hml : c.maxLocals = 2 := hml0
  have hown : s.vm.findClass "java/lang/Math" = some m.cls := findClass_of_methodNamed Bd.named
  have hnm := (name_of_methodNamed Bd.named Bd.method).1
  have X0 : Stand p l e ({ frames := 0, cells := 0, slots := 0, locals := 0 } : Room) s m #[(.int pa), (.int pb)] below meth c s₁ [] 0 0 := Stand.of_body Bd
  have e0 : s₁.heap = h0 := by rw [← hh, Bd.state]; rfl
  have N0 := Fr.nil n0
  refine own_in (castTop (ef_1 m pa pb)) ?_
  show own_Go _ _ _ _ (s₁.setTop (mkF m 0 #[.val (.int pa), .val (.int pb)] []))
  refine own_step (fun _ κ => XS.iloadN X0.here hx rfl (hb hby d1_0) rfl κ) ?_
  show own_Go _ _ _ _ (s₁.setTop (mkF m 1 #[.val (.int pa), .val (.int pb)] [(.int pa)]))
  refine own_step (fun _ κ => XS.iloadN X0.here hx rfl (hb hby d1_1) rfl κ) ?_
  show own_Go _ _ _ _ (s₁.setTop (mkF m 2 #[.val (.int pa), .val (.int pb)] [(.int pb), (.int pa)]))
  by_cases hc1 : pa < pb
  · refine own_step (fun _ κ => XS.icmpYes X0.here hx rfl (pc0 := 2) (pc' := 9) rfl (hb hby d1_2) rfl (tlt hc1).1 (by decide) (by decide) κ) ?_
    show own_Go _ _ _ _ (s₁.setTop (mkF m 9 #[.val (.int pa), .val (.int pb)] []))
    refine own_step (fun _ κ => XS.iloadN X0.here hx rfl (hb hby d1_9) rfl κ) ?_
    show own_Go _ _ _ _ (s₁.setTop (mkF m 10 #[.val (.int pa), .val (.int pb)] [(.int pb)]))
    obtain ⟨fs, hr, hrun, hended, hW, hsame⟩ := X0.leave (v := some (.int pb)) (fun h => by rw [Bd.returns] at h; cases h)
    refine ⟨_, _, own_retI X0 hx Bd.returns (hb hby d1_10) hr, hrun, hended, _, _, rfl, ?_, ⟨_, rfl⟩, hW, hsame.mono (by decide) (by decide)⟩
    show Q1 Z pa pb  h0 n0 _ s₁.heap _
    rw [e0]
    exact ⟨by simp [own_mx, hc1], N0, rfl⟩
  · refine own_step (fun _ κ => XS.icmpNo X0.here hx rfl (hb hby d1_2) rfl (flt hc1).1 κ) ?_
    show own_Go _ _ _ _ (s₁.setTop (mkF m 5 #[.val (.int pa), .val (.int pb)] []))
    refine own_step (fun _ κ => XS.iloadN X0.here hx rfl (hb hby d1_5) rfl κ) ?_
    show own_Go _ _ _ _ (s₁.setTop (mkF m 6 #[.val (.int pa), .val (.int pb)] [(.int pa)]))
    refine own_step (fun _ κ => XS.goto X0.here hx rfl (pc0 := 6) (pc' := 10) rfl (hb hby d1_6) (by decide) (by decide) κ) ?_
    show own_Go _ _ _ _ (s₁.setTop (mkF m 10 #[.val (.int pa), .val (.int pb)] [(.int pa)]))
    obtain ⟨fs, hr, hrun, hended, hW, hsame⟩ := X0.leave (v := some (.int pa)) (fun h => by rw [Bd.returns] at h; cases h)
    refine ⟨_, _, own_retI X0 hx Bd.returns (hb hby d1_10) hr, hrun, hended, _, _, rfl, ?_, ⟨_, rfl⟩, hW, hsame.mono (by decide) (by decide)⟩
    show Q1 Z pa pb  h0 n0 _ s₁.heap _
    rw [e0]
    exact ⟨by simp [own_mx, hc1], N0, rfl⟩
theorem d2_0 : decode jdk_29_method_69_code 0 = .ok (.iload_n 0, 1) := by decide +kernel
theorem d2_1 : decode jdk_29_method_69_code 1 = .ok (.iload_n 1, 1) := by decide +kernel
theorem d2_2 : decode jdk_29_method_69_code 2 = .ok (.if_icmp .gt 7, 3) := by decide +kernel
theorem d2_5 : decode jdk_29_method_69_code 5 = .ok (.iload_n 0, 1) := by decide +kernel
theorem d2_6 : decode jdk_29_method_69_code 6 = .ok (.goto 4, 3) := by decide +kernel
theorem d2_9 : decode jdk_29_method_69_code 9 = .ok (.iload_n 1, 1) := by decide +kernel
theorem d2_10 : decode jdk_29_method_69_code 10 = .ok (.ireturn, 1) := by decide +kernel
theorem ef_2 (m : MethodId) (pa : Int32) (pb : Int32) : entryFrame m #[(.int pa), (.int pb)] 2 = mkF m 0 #[.val (.int pa), .val (.int pb)] [] := by first | (simp [entryFrame, mkF, argsToLocals, Value.category]; done) | rfl
def Q2 (Z : State) (pa : Int32) (pb : Int32) (h0 : Heap) (n0 : Nat) (v : Option Value) (h : Heap) (L : List Loc) : Prop := v = some (.int (own_mn pa pb)) ∧ Fr n0 L ∧ h = h0
set_option maxRecDepth 65536 in
set_option maxHeartbeats 40000000 in
theorem rm2 (l : Launch) (Z : State) (a0 : Array Value) (hw : ∀ d ∈ tables_1, d.before a0 Z = true) (ws : List Jvm.Cond) (pa : Int32) (pb : Int32) (h0 : Heap) (n0 : Nat) (Z0 : n0 ≤ h0.size)  :
    MetFree l (⟨"java/lang/Math", "min", "(II)I"⟩ : MethodName) (head1 (Jvm.Cond.code (⟨"java/lang/Math", "min", "(II)I"⟩ : MethodName) jdk_29_method_69_code 2 (some .int) :: ws) ({ frames := 0, cells := 0, slots := 0, locals := 0 } : Room)) (fun ar_ U => ar_ = #[(.int pa), (.int pb)] ∧ Z.Warmed39 U.vm ∧ U.heap = h0) (fun _ _ _ _ _ => True) (fun _ U oo_ U' => ∃ v L, oo_ = .returned v ∧ Q2 Z pa pb  h0 n0 v U'.heap L ∧ FrameEnd U oo_ U' L ({ frames := 0, cells := 0, slots := 0, locals := 0 } : Room).cells ({ frames := 0, cells := 0, slots := 0, locals := 0 } : Room).slots) := by
  refine MetFree.of_bodySF (by decide +kernel) hisR ?_
  intro p e s m args below meth c s₁ Bd hml0 hP hK
  obtain ⟨rfl, hZ, hh⟩ := hP
  have hx := Bd.exec
  have hby := Bd.bytes
  have hml : c.maxLocals = 2 := hml0
  have hown : s.vm.findClass "java/lang/Math" = some m.cls := findClass_of_methodNamed Bd.named
  have hnm := (name_of_methodNamed Bd.named Bd.method).1
  have X0 : Stand p l e ({ frames := 0, cells := 0, slots := 0, locals := 0 } : Room) s m #[(.int pa), (.int pb)] below meth c s₁ [] 0 0 := Stand.of_body Bd
  have e0 : s₁.heap = h0 := by rw [← hh, Bd.state]; rfl
  have N0 := Fr.nil n0
  refine own_in (castTop (ef_2 m pa pb)) ?_
  show own_Go _ _ _ _ (s₁.setTop (mkF m 0 #[.val (.int pa), .val (.int pb)] []))
  refine own_step (fun _ κ => XS.iloadN X0.here hx rfl (hb hby d2_0) rfl κ) ?_
  show own_Go _ _ _ _ (s₁.setTop (mkF m 1 #[.val (.int pa), .val (.int pb)] [(.int pa)]))
  refine own_step (fun _ κ => XS.iloadN X0.here hx rfl (hb hby d2_1) rfl κ) ?_
  show own_Go _ _ _ _ (s₁.setTop (mkF m 2 #[.val (.int pa), .val (.int pb)] [(.int pb), (.int pa)]))
  by_cases hc1 : pb < pa
  · refine own_step (fun _ κ => XS.icmpYes X0.here hx rfl (pc0 := 2) (pc' := 9) rfl (hb hby d2_2) rfl (tlt hc1).2.2.1 (by decide) (by decide) κ) ?_
    show own_Go _ _ _ _ (s₁.setTop (mkF m 9 #[.val (.int pa), .val (.int pb)] []))
    refine own_step (fun _ κ => XS.iloadN X0.here hx rfl (hb hby d2_9) rfl κ) ?_
    show own_Go _ _ _ _ (s₁.setTop (mkF m 10 #[.val (.int pa), .val (.int pb)] [(.int pb)]))
    obtain ⟨fs, hr, hrun, hended, hW, hsame⟩ := X0.leave (v := some (.int pb)) (fun h => by rw [Bd.returns] at h; cases h)
    refine ⟨_, _, own_retI X0 hx Bd.returns (hb hby d2_10) hr, hrun, hended, _, _, rfl, ?_, ⟨_, rfl⟩, hW, hsame.mono (by decide) (by decide)⟩
    show Q2 Z pa pb  h0 n0 _ s₁.heap _
    rw [e0]
    exact ⟨by simp [own_mn, hc1], N0, rfl⟩
  · refine own_step (fun _ κ => XS.icmpNo X0.here hx rfl (hb hby d2_2) rfl (flt hc1).2.2.1 κ) ?_
    show own_Go _ _ _ _ (s₁.setTop (mkF m 5 #[.val (.int pa), .val (.int pb)] []))
    refine own_step (fun _ κ => XS.iloadN X0.here hx rfl (hb hby d2_5) rfl κ) ?_
    show own_Go _ _ _ _ (s₁.setTop (mkF m 6 #[.val (.int pa), .val (.int pb)] [(.int pa)]))
    refine own_step (fun _ κ => XS.goto X0.here hx rfl (pc0 := 6) (pc' := 10) rfl (hb hby d2_6) (by decide) (by decide) κ) ?_
    show own_Go _ _ _ _ (s₁.setTop (mkF m 10 #[.val (.int pa), .val (.int pb)] [(.int pa)]))
    obtain ⟨fs, hr, hrun, hended, hW, hsame⟩ := X0.leave (v := some (.int pa)) (fun h => by rw [Bd.returns] at h; cases h)
    refine ⟨_, _, own_retI X0 hx Bd.returns (hb hby d2_10) hr, hrun, hended, _, _, rfl, ?_, ⟨_, rfl⟩, hW, hsame.mono (by decide) (by decide)⟩
    show Q2 Z pa pb  h0 n0 _ s₁.heap _
    rw [e0]
    exact ⟨by simp [own_mn, hc1], N0, rfl⟩
theorem d3_0 : decode jdk_65_method_121_code 0 = .ok (.iload_n 1, 1) := by decide +kernel
theorem d3_1 : decode jdk_65_method_121_code 1 = .ok (.aload_n 0, 1) := by decide +kernel
theorem d3_2 : decode jdk_65_method_121_code 2 = .ok (.arraylength, 1) := by decide +kernel
theorem d3_3 : decode jdk_65_method_121_code 3 = .ok (.if_icmp .ne 11, 3) := by decide +kernel
theorem d3_6 : decode jdk_65_method_121_code 6 = .ok (.aload_n 0, 1) := by decide +kernel
theorem d3_7 : decode jdk_65_method_121_code 7 = .ok (.invokevirtual 310, 3) := by decide +kernel
theorem d3_10 : decode jdk_65_method_121_code 10 = .ok (.checkcast 311, 3) := by decide +kernel
theorem d3_13 : decode jdk_65_method_121_code 13 = .ok (.areturn, 1) := by decide +kernel
theorem d3_14 : decode jdk_65_method_121_code 14 = .ok (.iload_n 1, 1) := by decide +kernel
theorem d3_15 : decode jdk_65_method_121_code 15 = .ok (.newarray .byte, 2) := by decide +kernel
theorem d3_17 : decode jdk_65_method_121_code 17 = .ok (.astore_n 2, 1) := by decide +kernel
theorem d3_18 : decode jdk_65_method_121_code 18 = .ok (.aload_n 0, 1) := by decide +kernel
theorem d3_19 : decode jdk_65_method_121_code 19 = .ok (.iconst 0, 1) := by decide +kernel
theorem d3_20 : decode jdk_65_method_121_code 20 = .ok (.aload_n 2, 1) := by decide +kernel
theorem d3_21 : decode jdk_65_method_121_code 21 = .ok (.iconst 0, 1) := by decide +kernel
theorem d3_22 : decode jdk_65_method_121_code 22 = .ok (.aload_n 0, 1) := by decide +kernel
theorem d3_23 : decode jdk_65_method_121_code 23 = .ok (.arraylength, 1) := by decide +kernel
theorem d3_24 : decode jdk_65_method_121_code 24 = .ok (.iload_n 1, 1) := by decide +kernel
theorem d3_25 : decode jdk_65_method_121_code 25 = .ok (.invokestatic 304, 3) := by decide +kernel
theorem d3_28 : decode jdk_65_method_121_code 28 = .ok (.invokestatic 150, 3) := by decide +kernel
theorem d3_31 : decode jdk_65_method_121_code 31 = .ok (.aload_n 2, 1) := by decide +kernel
theorem d3_32 : decode jdk_65_method_121_code 32 = .ok (.areturn, 1) := by decide +kernel
theorem ef_3 (m : MethodId) (b : Addr) (pm : Int32) : entryFrame m #[(.ref b), (.int pm)] 3 = mkF m 0 #[.val (.ref b), .val (.int pm), .unset] [] := by first | (simp [entryFrame, mkF, argsToLocals, Value.category]; done) | rfl
def Q3 (Z : State) (b : Addr) (pm : Int32) (n : Int32) (g : Nat → Int32) (h0 : Heap) (n0 : Nat) (v : Option Value) (h : Heap) (L : List Loc) : Prop := ∃ r : Addr, v = some (.ref r) ∧ Fr n0 L ∧ Keep h0 h [] ∧ (h0.size ≤ r) ∧ (own_By Z h r pm (own_cut g n))
set_option maxRecDepth 65536 in
set_option maxHeartbeats 40000000 in
theorem rm3 (l : Launch) (Z : State) (a0 : Array Value) (hw : ∀ d ∈ tables_1, d.before a0 Z = true) (ws : List Jvm.Cond) (b : Addr) (pm : Int32) (n : Int32) (g : Nat → Int32) (h0 : Heap) (n0 : Nat) (Z0 : n0 ≤ h0.size) (P0 : own_By Z h0 b n g) (P1 : ¬ pm < (0 : Int32)) (P2 : ¬ (34 : Int32) < pm) :
    MetFree l (⟨"java/util/Arrays", "copyOf", "([BI)[B"⟩ : MethodName) (head1 (Jvm.Cond.code (⟨"java/util/Arrays", "copyOf", "([BI)[B"⟩ : MethodName) jdk_65_method_121_code 3 (some (.array .byte)) :: ws) ({ frames := 1, cells := 1, slots := 34, locals := 40 } : Room)) (fun ar_ U => ar_ = #[(.ref b), (.int pm)] ∧ Z.Warmed39 U.vm ∧ U.heap = h0) (fun _ _ _ _ _ => True) (fun _ U oo_ U' => ∃ v L, oo_ = .returned v ∧ Q3 Z b pm n g h0 n0 v U'.heap L ∧ FrameEnd U oo_ U' L ({ frames := 1, cells := 1, slots := 34, locals := 40 } : Room).cells ({ frames := 1, cells := 1, slots := 34, locals := 40 } : Room).slots) := by
  refine MetFree.of_bodySF (plainFor_of_name pn_0) hisR ?_
  intro p e s m args below meth c s₁ Bd hml0 hP hK
  obtain ⟨rfl, hZ, hh⟩ := hP
  have hx := Bd.exec
  have hby := Bd.bytes
  have hml : c.maxLocals = 3 := hml0
  have hown : s.vm.findClass "java/util/Arrays" = some m.cls := findClass_of_methodNamed Bd.named
  have hnm := (name_of_methodNamed Bd.named Bd.method).1
  have X0 : Stand p l e ({ frames := 1, cells := 1, slots := 34, locals := 40 } : Room) s m #[(.ref b), (.int pm)] below meth c s₁ [] 0 0 := Stand.of_body Bd
  have e0 : s₁.heap = h0 := by rw [← hh, Bd.state]; rfl
  have N0 := Fr.nil n0
  refine own_in (castTop (ef_3 m b pm)) ?_
  show own_Go _ _ _ _ (s₁.setTop (mkF m 0 #[.val (.ref b), .val (.int pm), .unset] []))
  refine own_step (fun _ κ => XS.iloadN X0.here hx rfl (hb hby d3_0) rfl κ) ?_
  show own_Go _ _ _ _ (s₁.setTop (mkF m 1 #[.val (.ref b), .val (.int pm), .unset] [(.int pm)]))
  refine own_step (fun _ κ => XS.aloadN X0.here hx rfl (hb hby d3_1) rfl rfl κ) ?_
  show own_Go _ _ _ _ (s₁.setTop (mkF m 2 #[.val (.ref b), .val (.int pm), .unset] [(.ref b), (.int pm)]))
  obtain ⟨cl1, Ar1, Sz1, Nz1, -⟩ := P0.opened
  refine own_step (fun _ κ => X0.arraylength hx (by rw [e0]; exact Ar1.1) (State.isArrayOf_alike hZ.alike Ar1.2.1) (g := (mkF m 2 #[.val (.ref b), .val (.int pm), .unset] [(.ref b), (.int pm)])) rfl rfl (hb hby d3_2) _ κ) ?_
  rw [len_of Sz1 Nz1]
  show own_Go _ _ _ _ (s₁.setTop (mkF m 3 #[.val (.ref b), .val (.int pm), .unset] [(.int n), (.int pm)]))
  by_cases hc2 : pm = n
  · refine own_step (fun _ κ => XS.icmpNo X0.here hx rfl (hb hby d3_3) rfl (teq hc2).2 κ) ?_
    show own_Go _ _ _ _ (s₁.setTop (mkF m 6 #[.val (.ref b), .val (.int pm), .unset] []))
    refine own_step (fun _ κ => XS.aloadN X0.here hx rfl (hb hby d3_6) rfl rfl κ) ?_
    show own_Go _ _ _ _ (s₁.setTop (mkF m 7 #[.val (.ref b), .val (.int pm), .unset] [(.ref b)]))
    obtain ⟨kA3, Av3, Ax3⟩ := id P0
    obtain ⟨T3, h3, X3, e3, E3, A3, Ex3, st3⟩ := cloneH X0 hx hZ hown (hw _ (List.mem_of_getElem? (i := 62) rfl)) (hw _ (List.mem_of_getElem? (i := 63) rfl)) (hw _ (List.mem_of_getElem? (i := 67) rfl)) (hw _ (List.mem_of_getElem? (i := 65) rfl)) (hw _ (List.mem_of_getElem? (i := 66) rfl)) (hw _ (List.mem_of_getElem? (i := 68) rfl)) e0 Av3.arh Ax3 (g := (mkF m 7 #[.val (.ref b), .val (.int pm), .unset] [(.ref b)])) rfl (by rw [hml]; rfl) rfl (hb hby d3_7) (by decide) (W := 0) (by show 2 * 0 + _ ≤ _; exact Nat.le_of_eq rfl) (by decide) (cap := 34) (hc2 ▸ own_cap P2) (by decide) (by decide)
    obtain ⟨b3, g3⟩ : ∃ z, z = h0.size := ⟨_, rfl⟩
    rw [← g3] at A3 Ex3 st3
    refine own_step st3 ?_
    have ne4 : b ≠ b3 := Nat.ne_of_lt (Nat.lt_of_lt_of_le P0.lt (Nat.le_of_eq g3.symm))
    have ge5 : n0 ≤ b3 := Nat.le_trans Z0 (Nat.le_of_eq g3.symm)
    have sz6 : h0.size ≤ b3 := Nat.le_trans (Keep.refl h0 []).1 (Nat.le_of_eq g3.symm)
    have f7 := P0.ext E3
    have K8 : Keep h0 h3 [] := (Keep.refl h0 []).ext E3
    have z9 : n0 ≤ h3.size := Nat.le_trans Z0 E3.1
    have V3 : own_By Z h3 b3 n g := ⟨kA3, A3, Ex3⟩
    show own_Go _ _ _ _ (T3.setTop (mkF m 10 #[.val (.ref b), .val (.int pm), .unset] [(.ref b3)]))
    obtain ⟨T10, X10, e10, st10⟩ := castY X3 hx hZ hown (hw _ (List.mem_of_getElem? (i := 69) rfl)) e3 (Ins.self Ex3) (g := (mkF m 10 #[.val (.ref b), .val (.int pm), .unset] [(.ref b3)])) rfl rfl (hb hby d3_10)
    refine own_step st10 ?_
    show own_Go _ _ _ _ (T10.setTop (mkF m 13 #[.val (.ref b), .val (.int pm), .unset] [(.ref b3)]))
    obtain ⟨fs, hr, hrun, hended, hW, hsame⟩ := X10.leave (v := some (.ref b3)) (fun h => by rw [Bd.returns] at h; cases h)
    refine ⟨_, _, retOut X10 hx Bd.returns rfl (Or.inr (Or.inr (Or.inr (Or.inr ⟨rfl, rfl, rfl⟩)))) (hb hby d3_13) hr, hrun, hended, _, _, rfl, ?_, ⟨_, rfl⟩, hW, hsame.mono (by decide) (by decide)⟩
    show Q3 Z b pm n g h0 n0 _ T10.heap _
    rw [e10]
    exact ⟨b3, rfl, N0, K8, sz6, (by rw [hc2]; exact (V3.congr fun i hi => by simp [own_cut, hi]))⟩
  · refine own_step (fun _ κ => XS.icmpYes X0.here hx rfl (pc0 := 3) (pc' := 14) rfl (hb hby d3_3) rfl (feq hc2).2 (by decide) (by decide) κ) ?_
    show own_Go _ _ _ _ (s₁.setTop (mkF m 14 #[.val (.ref b), .val (.int pm), .unset] []))
    refine own_step (fun _ κ => XS.iloadN X0.here hx rfl (hb hby d3_14) rfl κ) ?_
    show own_Go _ _ _ _ (s₁.setTop (mkF m 15 #[.val (.ref b), .val (.int pm), .unset] [(.int pm)]))
    obtain ⟨T11, h11, k11, X11, e11, E11, A11, Ex11, st11⟩ := newPE X0 hx hZ (hw _ (List.mem_of_getElem? (i := 0) rfl)) e0 (g := (mkF m 15 #[.val (.ref b), .val (.int pm), .unset] [(.int pm)])) rfl (hb hby d3_15) rfl P1 (cap := 34) (own_cap P2) (by decide) (by decide) (by decide) (ad := "[B") rfl
    obtain ⟨b11, g11⟩ : ∃ z, z = h0.size := ⟨_, rfl⟩
    rw [← g11] at A11 Ex11 st11
    refine own_step st11 ?_
    have ne12 : b ≠ b11 := Nat.ne_of_lt (Nat.lt_of_lt_of_le P0.lt (Nat.le_of_eq g11.symm))
    have ge13 : n0 ≤ b11 := Nat.le_trans Z0 (Nat.le_of_eq g11.symm)
    have sz14 : h0.size ≤ b11 := Nat.le_trans (Keep.refl h0 []).1 (Nat.le_of_eq g11.symm)
    have f15 := P0.ext E11
    have K16 : Keep h0 h11 [] := (Keep.refl h0 []).ext E11
    have z17 : n0 ≤ h11.size := Nat.le_trans Z0 E11.1
    have V11 : own_By Z h11 b11 pm own_zero := own_By.new A11 Ex11 P1
    show own_Go _ _ _ _ (T11.setTop (mkF m 17 #[.val (.ref b), .val (.int pm), .unset] [(.ref b11)]))
    refine own_step (fun _ κ => XS.astoreN X11.here hx rfl (hb hby d3_17) rfl rfl (l' := #[.val (.ref b), .val (.int pm), .val (.ref b11)]) rfl κ) ?_
    show own_Go _ _ _ _ (T11.setTop (mkF m 18 #[.val (.ref b), .val (.int pm), .val (.ref b11)] []))
    refine own_step (fun _ κ => XS.aloadN X11.here hx rfl (hb hby d3_18) rfl rfl κ) ?_
    show own_Go _ _ _ _ (T11.setTop (mkF m 19 #[.val (.ref b), .val (.int pm), .val (.ref b11)] [(.ref b)]))
    refine own_step (fun _ κ => XS.iconst X11.here hx rfl (hb hby d3_19) κ) ?_
    show own_Go _ _ _ _ (T11.setTop (mkF m 20 #[.val (.ref b), .val (.int pm), .val (.ref b11)] [(.int (0 : Int32)), (.ref b)]))
    refine own_step (fun _ κ => XS.aloadN X11.here hx rfl (hb hby d3_20) rfl rfl κ) ?_
    show own_Go _ _ _ _ (T11.setTop (mkF m 21 #[.val (.ref b), .val (.int pm), .val (.ref b11)] [(.ref b11), (.int (0 : Int32)), (.ref b)]))
    refine own_step (fun _ κ => XS.iconst X11.here hx rfl (hb hby d3_21) κ) ?_
    show own_Go _ _ _ _ (T11.setTop (mkF m 22 #[.val (.ref b), .val (.int pm), .val (.ref b11)] [(.int (0 : Int32)), (.ref b11), (.int (0 : Int32)), (.ref b)]))
    refine own_step (fun _ κ => XS.aloadN X11.here hx rfl (hb hby d3_22) rfl rfl κ) ?_
    show own_Go _ _ _ _ (T11.setTop (mkF m 23 #[.val (.ref b), .val (.int pm), .val (.ref b11)] [(.ref b), (.int (0 : Int32)), (.ref b11), (.int (0 : Int32)), (.ref b)]))
    obtain ⟨cl18, Ar18, Sz18, Nz18, -⟩ := f15.opened
    refine own_step (fun _ κ => X11.arraylength hx (by rw [e11]; exact Ar18.1) (State.isArrayOf_alike hZ.alike Ar18.2.1) (g := (mkF m 23 #[.val (.ref b), .val (.int pm), .val (.ref b11)] [(.ref b), (.int (0 : Int32)), (.ref b11), (.int (0 : Int32)), (.ref b)])) rfl rfl (hb hby d3_23) _ κ) ?_
    rw [len_of Sz18 Nz18]
    show own_Go _ _ _ _ (T11.setTop (mkF m 24 #[.val (.ref b), .val (.int pm), .val (.ref b11)] [(.int n), (.int (0 : Int32)), (.ref b11), (.int (0 : Int32)), (.ref b)]))
    refine own_step (fun _ κ => XS.iloadN X11.here hx rfl (hb hby d3_24) rfl κ) ?_
    show own_Go _ _ _ _ (T11.setTop (mkF m 25 #[.val (.ref b), .val (.int pm), .val (.ref b11)] [(.int pm), (.int n), (.int (0 : Int32)), (.ref b11), (.int (0 : Int32)), (.ref b)]))
    obtain ⟨vr19, _, ⟨T19, L19, k19, n19⟩, -, X19, ⟨Lc19, hQ19, l19, y19, z19⟩, st19⟩ := Jvm.LawKit.callS X11 hx (y := (⟨"java/lang/Math", "min", "(II)I"⟩ : MethodName)) hown (mvT hZ (hw _ (List.mem_of_getElem? (i := 27) rfl))) (mvT hZ (hw _ (List.mem_of_getElem? (i := 28) rfl))) (mvT hZ (hw _ (List.mem_of_getElem? (i := 12) rfl))) (mvT hZ (hw _ (List.mem_of_getElem? (i := 29) rfl))) (by decide) (backOf (W := 4) (rm2 l Z a0 hw [] n pm  h11 n0 z17 ) hZ (hw _ (List.mem_of_getElem? (i := 29) rfl)) (hw _ (List.mem_of_getElem? (i := 12) rfl)) (by decide) (by decide)) (g := (mkF m 25 #[.val (.ref b), .val (.int pm), .val (.ref b11)] [(.int pm), (.int n), (.int (0 : Int32)), (.ref b11), (.int (0 : Int32)), (.ref b)])) rfl (by rw [hml]; rfl) (argsL := [(.int n), (.int pm)]) (rest := [(.int (0 : Int32)), (.ref b11), (.int (0 : Int32)), (.ref b)]) (lenOf pd_0 rfl) rfl (by show 2 * 0 + _ ≤ _; exact Nat.le_of_eq rfl) (hb hby d3_25) (fun _ _ => ⟨rfl, e11, (by decide : 1 + 0 ≤ _), (by decide : 34 + 0 ≤ _)⟩)
    dsimp only [Pt.U, Pt.locs, Pt.cells, Pt.slots] at X19 l19 y19 z19 st19 hQ19
    subst l19 y19 z19
    obtain ⟨rfl, Nq19, eq19⟩ := hQ19
    have N19 := Fr.app N0 Nq19
    refine own_step st19 ?_
    show own_Go _ _ _ _ (T19.setTop (mkF m 28 #[.val (.ref b), .val (.int pm), .val (.ref b11)] [(.int (own_mn n pm)), (.int (0 : Int32)), (.ref b11), (.int (0 : Int32)), (.ref b)]))
    obtain ⟨T20, h20, L20, X20, e20, N20, K20, V20, st20⟩ := own_copy X19 hx hZ hown (hw _ (List.mem_of_getElem? (i := 30) rfl)) (hw _ (List.mem_of_getElem? (i := 33) rfl)) (hw _ (List.mem_of_getElem? (i := 31) rfl)) (hw _ (List.mem_of_getElem? (i := 32) rfl)) eq19 (sp := (0 : Int32)) (dp := (0 : Int32)) (nn := (own_mn n pm)) f15 V11 (by decide) (by decide) (own_mn_le (f15.opened.elim fun _ q => q.2.2.1) P1).1 (Nat.le_trans (Nat.le_of_eq (Nat.zero_add _)) (own_mn_le (f15.opened.elim fun _ q => q.2.2.1) P1).2.1) (Nat.le_trans (Nat.le_of_eq (Nat.zero_add _)) (own_mn_le (f15.opened.elim fun _ q => q.2.2.1) P1).2.2.1) N19 ge13 (g := (mkF m 28 #[.val (.ref b), .val (.int pm), .val (.ref b11)] [(.int (own_mn n pm)), (.int (0 : Int32)), (.ref b11), (.int (0 : Int32)), (.ref b)])) rfl (by rw [hml]; rfl) rfl (hb hby d3_28) (by decide) (W := 0) (by show 2 * 0 + _ ≤ _; exact Nat.le_of_eq rfl) (by decide)
    refine own_step st20 ?_
    have f21 := f15.keep K20 (ninS ne12 nin0)
    have K22 : Keep h0 h20 [] := K16.trans K20 (allS (Or.inr sz14) all0)
    have z23 : n0 ≤ h20.size := Nat.le_trans z17 K20.1
    have Vc20 : own_By Z h20 b11 pm (own_cut g n) := V20.congr (own_cutc (P0.opened.elim fun _ q => q.2.2.1) P1)
    show own_Go _ _ _ _ (T20.setTop (mkF m 31 #[.val (.ref b), .val (.int pm), .val (.ref b11)] []))
    refine own_step (fun _ κ => XS.aloadN X20.here hx rfl (hb hby d3_31) rfl rfl κ) ?_
    show own_Go _ _ _ _ (T20.setTop (mkF m 32 #[.val (.ref b), .val (.int pm), .val (.ref b11)] [(.ref b11)]))
    obtain ⟨fs, hr, hrun, hended, hW, hsame⟩ := X20.leave (v := some (.ref b11)) (fun h => by rw [Bd.returns] at h; cases h)
    refine ⟨_, _, retOut X20 hx Bd.returns rfl (Or.inr (Or.inr (Or.inr (Or.inr ⟨rfl, rfl, rfl⟩)))) (hb hby d3_32) hr, hrun, hended, _, _, rfl, ?_, ⟨_, rfl⟩, hW, hsame.mono (by decide) (by decide)⟩
    show Q3 Z b pm n g h0 n0 _ T20.heap _
    rw [e20]
    exact ⟨b11, rfl, N20, K22, sz14, Vc20⟩
theorem d4_0 : decode prog_1_method_1_code 0 = .ok (.aload_n 0, 1) := by decide +kernel
theorem d4_1 : decode prog_1_method_1_code 1 = .ok (.invokespecial 1, 3) := by decide +kernel
theorem d4_4 : decode prog_1_method_1_code 4 = .ok (.aload_n 0, 1) := by decide +kernel
theorem d4_5 : decode prog_1_method_1_code 5 = .ok (.bipush 16, 2) := by decide +kernel
theorem d4_7 : decode prog_1_method_1_code 7 = .ok (.iload_n 1, 1) := by decide +kernel
theorem d4_8 : decode prog_1_method_1_code 8 = .ok (.invokestatic 7, 3) := by decide +kernel
theorem d4_11 : decode prog_1_method_1_code 11 = .ok (.newarray .byte, 2) := by decide +kernel
theorem d4_13 : decode prog_1_method_1_code 13 = .ok (.putfield 13, 3) := by decide +kernel
theorem d4_16 : decode prog_1_method_1_code 16 = .ok (.return_, 1) := by decide +kernel
theorem ef_4 (m : MethodId) (a : Addr) (pk : Int32) : entryFrame m #[(.ref a), (.int pk)] 2 = mkF m 0 #[.val (.ref a), .val (.int pk)] [] := by first | (simp [entryFrame, mkF, argsToLocals, Value.category]; done) | rfl
def Q4 (Z : State) (a : Addr) (pk : Int32) (h0 : Heap) (n0 : Nat) (v : Option Value) (h : Heap) (L : List Loc) : Prop := ∃ b : Addr, v = none ∧ Fr n0 L ∧ Keep h0 h [a] ∧ (h0.size ≤ b) ∧ (Exa Z h a "com/example/lens_on_archives/lensonarchives/Bytes") ∧ (Fld Z h a "com/example/lens_on_archives/lensonarchives/Bytes" "bytes" "[B" (.ref b)) ∧ (Fld Z h a "com/example/lens_on_archives/lensonarchives/Bytes" "size" "I" (.int (0 : Int32))) ∧ (own_By Z h b (own_mx (16 : Int32) pk) own_zero)
set_option maxRecDepth 65536 in
set_option maxHeartbeats 40000000 in
theorem rm4 (l : Launch) (Z : State) (a0 : Array Value) (hw : ∀ d ∈ tables_1, d.before a0 Z = true) (ws : List Jvm.Cond) (a : Addr) (pk : Int32) (h0 : Heap) (n0 : Nat) (Z0 : n0 ≤ h0.size) (P0 : Exa Z h0 a "com/example/lens_on_archives/lensonarchives/Bytes") (P1 : Fld Z h0 a "com/example/lens_on_archives/lensonarchives/Bytes" "bytes" "[B" .null) (P2 : Fld Z h0 a "com/example/lens_on_archives/lensonarchives/Bytes" "size" "I" (.int (0 : Int32))) (P3 : n0 ≤ a) (P4 : ¬ pk < (0 : Int32)) (P5 : pk < (32 : Int32)) :
    MetFree l (⟨"com/example/lens_on_archives/lensonarchives/Bytes", "<init>", "(I)V"⟩ : MethodName) (head1 (Jvm.Cond.code (⟨"com/example/lens_on_archives/lensonarchives/Bytes", "<init>", "(I)V"⟩ : MethodName) prog_1_method_1_code 2 none :: ws) ({ frames := 1, cells := 1, slots := 31, locals := 14 } : Room)) (fun ar_ U => ar_ = #[(.ref a), (.int pk)] ∧ Z.Warmed39 U.vm ∧ U.heap = h0) (fun _ _ _ _ _ => True) (fun _ U oo_ U' => ∃ v L, oo_ = .returned v ∧ Q4 Z a pk  h0 n0 v U'.heap L ∧ FrameEnd U oo_ U' L ({ frames := 1, cells := 1, slots := 31, locals := 14 } : Room).cells ({ frames := 1, cells := 1, slots := 31, locals := 14 } : Room).slots) := by
  refine MetFree.of_bodySF (plainFor_of_name pn_1) hisR ?_
  intro p e s m args below meth c s₁ Bd hml0 hP hK
  obtain ⟨rfl, hZ, hh⟩ := hP
  have hx := Bd.exec
  have hby := Bd.bytes
  have hml : c.maxLocals = 2 := hml0
  have hown : s.vm.findClass "com/example/lens_on_archives/lensonarchives/Bytes" = some m.cls := findClass_of_methodNamed Bd.named
  have hnm := (name_of_methodNamed Bd.named Bd.method).1
  have X0 : Stand p l e ({ frames := 1, cells := 1, slots := 31, locals := 14 } : Room) s m #[(.ref a), (.int pk)] below meth c s₁ [] 0 0 := Stand.of_body Bd
  have e0 : s₁.heap = h0 := by rw [← hh, Bd.state]; rfl
  have N0 := Fr.nil n0
  refine own_in (castTop (ef_4 m a pk)) ?_
  show own_Go _ _ _ _ (s₁.setTop (mkF m 0 #[.val (.ref a), .val (.int pk)] []))
  refine own_step (fun _ κ => XS.aloadN X0.here hx rfl (hb hby d4_0) rfl rfl κ) ?_
  show own_Go _ _ _ _ (s₁.setTop (mkF m 1 #[.val (.ref a), .val (.int pk)] [(.ref a)]))
  obtain ⟨T1, X1, e1, st1⟩ := initO X0 hx hZ hown (hw _ (List.mem_of_getElem? (i := 7) rfl)) (hw _ (List.mem_of_getElem? (i := 8) rfl)) (hw _ (List.mem_of_getElem? (i := 9) rfl)) e0 (g := (mkF m 1 #[.val (.ref a), .val (.int pk)] [(.ref a)])) rfl (by rw [hml]; rfl) rfl (hb hby d4_1) (by decide) (W := 0) (by show 2 * 0 + _ ≤ _; exact Nat.le_of_eq rfl) (by decide)
  refine own_step st1 ?_
  show own_Go _ _ _ _ (T1.setTop (mkF m 4 #[.val (.ref a), .val (.int pk)] []))
  refine own_step (fun _ κ => XS.aloadN X1.here hx rfl (hb hby d4_4) rfl rfl κ) ?_
  show own_Go _ _ _ _ (T1.setTop (mkF m 5 #[.val (.ref a), .val (.int pk)] [(.ref a)]))
  refine own_step (fun _ κ => XS.bipush X1.here hx rfl (hb hby d4_5) κ) ?_
  show own_Go _ _ _ _ (T1.setTop (mkF m 7 #[.val (.ref a), .val (.int pk)] [(.int (16 : Int32)), (.ref a)]))
  refine own_step (fun _ κ => XS.iloadN X1.here hx rfl (hb hby d4_7) rfl κ) ?_
  show own_Go _ _ _ _ (T1.setTop (mkF m 8 #[.val (.ref a), .val (.int pk)] [(.int pk), (.int (16 : Int32)), (.ref a)]))
  obtain ⟨vr2, _, ⟨T2, L2, k2, n2⟩, -, X2, ⟨Lc2, hQ2, l2, y2, z2⟩, st2⟩ := Jvm.LawKit.callS X1 hx (y := (⟨"java/lang/Math", "max", "(II)I"⟩ : MethodName)) hown (mvT hZ (hw _ (List.mem_of_getElem? (i := 10) rfl))) (mvT hZ (hw _ (List.mem_of_getElem? (i := 11) rfl))) (mvT hZ (hw _ (List.mem_of_getElem? (i := 12) rfl))) (mvT hZ (hw _ (List.mem_of_getElem? (i := 13) rfl))) (by decide) (backOf (W := 1) (rm1 l Z a0 hw [] (16 : Int32) pk  h0 n0 Z0 ) hZ (hw _ (List.mem_of_getElem? (i := 13) rfl)) (hw _ (List.mem_of_getElem? (i := 12) rfl)) (by decide) (by decide)) (g := (mkF m 8 #[.val (.ref a), .val (.int pk)] [(.int pk), (.int (16 : Int32)), (.ref a)])) rfl (by rw [hml]; rfl) (argsL := [(.int (16 : Int32)), (.int pk)]) (rest := [(.ref a)]) (lenOf pd_0 rfl) rfl (by show 2 * 0 + _ ≤ _; exact Nat.le_of_eq rfl) (hb hby d4_8) (fun _ _ => ⟨rfl, e1, (by decide : 0 + 0 ≤ _), (by decide : 0 + 0 ≤ _)⟩)
  dsimp only [Pt.U, Pt.locs, Pt.cells, Pt.slots] at X2 l2 y2 z2 st2 hQ2
  subst l2 y2 z2
  obtain ⟨rfl, Nq2, eq2⟩ := hQ2
  have N2 := Fr.app N0 Nq2
  refine own_step st2 ?_
  show own_Go _ _ _ _ (T2.setTop (mkF m 11 #[.val (.ref a), .val (.int pk)] [(.int (own_mx (16 : Int32) pk)), (.ref a)]))
  obtain ⟨T3, h3, k3, X3, e3, E3, A3, Ex3, st3⟩ := newPE X2 hx hZ (hw _ (List.mem_of_getElem? (i := 0) rfl)) eq2 (g := (mkF m 11 #[.val (.ref a), .val (.int pk)] [(.int (own_mx (16 : Int32) pk)), (.ref a)])) rfl (hb hby d4_11) rfl (own_nn (Int.le_trans (by decide) (own_mx16 P4 P5).1)) (cap := 31) (own_cap31 (own_mx16 P4 P5)) (by decide) (by decide) (by decide) (ad := "[B") rfl
  obtain ⟨b3, g3⟩ : ∃ z, z = h0.size := ⟨_, rfl⟩
  rw [← g3] at A3 Ex3 st3
  refine own_step st3 ?_
  have ne4 : a ≠ b3 := Nat.ne_of_lt (Nat.lt_of_lt_of_le P0.lt (Nat.le_of_eq g3.symm))
  have ge5 : n0 ≤ b3 := Nat.le_trans Z0 (Nat.le_of_eq g3.symm)
  have sz6 : h0.size ≤ b3 := Nat.le_trans (Keep.refl h0 [a]).1 (Nat.le_of_eq g3.symm)
  have f7 := P0.ext E3
  have f8 := P1.ext E3
  have f9 := P2.ext E3
  have K10 : Keep h0 h3 [a] := (Keep.refl h0 [a]).ext E3
  have z11 : n0 ≤ h3.size := Nat.le_trans Z0 E3.1
  have V3 : own_By Z h3 b3 (own_mx (16 : Int32) pk) own_zero := own_By.new A3 Ex3 (own_nn (Int.le_trans (by decide) (own_mx16 P4 P5).1))
  show own_Go _ _ _ _ (T3.setTop (mkF m 13 #[.val (.ref a), .val (.int pk)] [(.ref b3), (.ref a)]))
  obtain ⟨T12, h12, X12, e12, W12, st12⟩ := putF X3 hx hZ hown (host := "") (Or.inl (hw _ (List.mem_of_getElem? (i := 14) rfl))) Via.refl e3 f8 f7 (Or.inl (hw _ (List.mem_of_getElem? (i := 15) rfl))) (hw _ (List.mem_of_getElem? (i := 2) rfl)) (ty := (.array .byte)) (by decide) rfl rfl (g := (mkF m 13 #[.val (.ref a), .val (.int pk)] [(.ref b3), (.ref a)])) rfl rfl (hb hby d4_13)
  refine own_step st12 ?_
  have N12 := Fr.snoc X12 N2 P3
  have Fw12 := f8.same W12
  have f13 := f7.wr W12
  have f14 := f9.other W12 (Or.inr (slot_ne (Or.inl (hw _ (List.mem_of_getElem? (i := 22) rfl))) (Or.inl (hw _ (List.mem_of_getElem? (i := 15) rfl))) (by decide) (t := .int) (t' := (.array .byte)) (by decide) (by decide)))
  have f15 := V3.other W12 (Ne.symm ne4)
  have K16 : Keep h0 h12 [a] := K10.wr W12 (Or.inl (List.mem_of_getElem? (i := 0) rfl))
  have z17 : n0 ≤ h12.size := Nat.le_trans z11 (Keep.of_wr W12).1
  show own_Go _ _ _ _ (T12.setTop (mkF m 16 #[.val (.ref a), .val (.int pk)] []))
  obtain ⟨fs, hr, hrun, hended, hW, hsame⟩ := X12.leave (v := none) (fun _ => rfl)
  refine ⟨_, _, X12.returnOut hx Bd.returns (hb hby d4_16) hr, hrun, hended, _, _, rfl, ?_, ⟨_, rfl⟩, hW, hsame.mono (by decide) (by decide)⟩
  show Q4 Z a pk  h0 n0 _ T12.heap _
  rw [e12]
  exact ⟨b3, rfl, N12, K16, sz6, f13, Fw12, f14, f15⟩
theorem d5_0 : decode prog_1_method_8_code 0 = .ok (.aload_n 0, 1) := by decide +kernel
theorem d5_1 : decode prog_1_method_8_code 1 = .ok (.getfield 19, 3) := by decide +kernel
theorem d5_4 : decode prog_1_method_8_code 4 = .ok (.iload_n 1, 1) := by decide +kernel
theorem d5_5 : decode prog_1_method_8_code 5 = .ok (.iadd, 1) := by decide +kernel
theorem d5_6 : decode prog_1_method_8_code 6 = .ok (.aload_n 0, 1) := by decide +kernel
theorem d5_7 : decode prog_1_method_8_code 7 = .ok (.getfield 13, 3) := by decide +kernel
theorem d5_10 : decode prog_1_method_8_code 10 = .ok (.arraylength, 1) := by decide +kernel
theorem d5_11 : decode prog_1_method_8_code 11 = .ok (.if_icmp .le 30, 3) := by decide +kernel
theorem d5_41 : decode prog_1_method_8_code 41 = .ok (.return_, 1) := by decide +kernel
theorem ef_5 (m : MethodId) (a : Addr) (pk : Int32) : entryFrame m #[(.ref a), (.int pk)] 2 = mkF m 0 #[.val (.ref a), .val (.int pk)] [] := by first | (simp [entryFrame, mkF, argsToLocals, Value.category]; done) | rfl
def Q5 (Z : State) (a : Addr) (pk : Int32) (b : Addr) (n : Int32) (g : Nat → Int32) (sz : Int32) (h0 : Heap) (n0 : Nat) (v : Option Value) (h : Heap) (L : List Loc) : Prop := v = none ∧ Fr n0 L ∧ h = h0
set_option maxRecDepth 65536 in
set_option maxHeartbeats 40000000 in
theorem rm5 (l : Launch) (Z : State) (a0 : Array Value) (hw : ∀ d ∈ tables_1, d.before a0 Z = true) (ws : List Jvm.Cond) (a : Addr) (pk : Int32) (b : Addr) (n : Int32) (g : Nat → Int32) (sz : Int32) (h0 : Heap) (n0 : Nat) (Z0 : n0 ≤ h0.size) (P0 : Fld Z h0 a "com/example/lens_on_archives/lensonarchives/Bytes" "bytes" "[B" (.ref b)) (P1 : Fld Z h0 a "com/example/lens_on_archives/lensonarchives/Bytes" "size" "I" (.int sz)) (P2 : own_By Z h0 b n g) (P3 : ¬ n < (sz + pk)) :
    MetFree l (⟨"com/example/lens_on_archives/lensonarchives/Bytes", "room", "(I)V"⟩ : MethodName) (head1 (Jvm.Cond.code (⟨"com/example/lens_on_archives/lensonarchives/Bytes", "room", "(I)V"⟩ : MethodName) prog_1_method_8_code 2 none :: ws) ({ frames := 0, cells := 0, slots := 0, locals := 0 } : Room)) (fun ar_ U => ar_ = #[(.ref a), (.int pk)] ∧ Z.Warmed39 U.vm ∧ U.heap = h0) (fun _ _ _ _ _ => True) (fun _ U oo_ U' => ∃ v L, oo_ = .returned v ∧ Q5 Z a pk b n g sz h0 n0 v U'.heap L ∧ FrameEnd U oo_ U' L ({ frames := 0, cells := 0, slots := 0, locals := 0 } : Room).cells ({ frames := 0, cells := 0, slots := 0, locals := 0 } : Room).slots) := by
  refine MetFree.of_bodySF (plainFor_of_name pn_1) hisR ?_
  intro p e s m args below meth c s₁ Bd hml0 hP hK
  obtain ⟨rfl, hZ, hh⟩ := hP
  have hx := Bd.exec
  have hby := Bd.bytes
  have hml : c.maxLocals = 2 := hml0
  have hown : s.vm.findClass "com/example/lens_on_archives/lensonarchives/Bytes" = some m.cls := findClass_of_methodNamed Bd.named
  have hnm := (name_of_methodNamed Bd.named Bd.method).1
  have X0 : Stand p l e ({ frames := 0, cells := 0, slots := 0, locals := 0 } : Room) s m #[(.ref a), (.int pk)] below meth c s₁ [] 0 0 := Stand.of_body Bd
  have e0 : s₁.heap = h0 := by rw [← hh, Bd.state]; rfl
  have N0 := Fr.nil n0
  refine own_in (castTop (ef_5 m a pk)) ?_
  show own_Go _ _ _ _ (s₁.setTop (mkF m 0 #[.val (.ref a), .val (.int pk)] []))
  refine own_step (fun _ κ => XS.aloadN X0.here hx rfl (hb hby d5_0) rfl rfl κ) ?_
  show own_Go _ _ _ _ (s₁.setTop (mkF m 1 #[.val (.ref a), .val (.int pk)] [(.ref a)]))
  obtain ⟨T1, X1, e1, st1⟩ := getF X0 hx hZ hown (host := "") (Or.inl (hw _ (List.mem_of_getElem? (i := 21) rfl))) Via.refl e0 P1 (g := (mkF m 1 #[.val (.ref a), .val (.int pk)] [(.ref a)])) rfl rfl (hb hby d5_1)
  refine own_step st1 ?_
  show own_Go _ _ _ _ (T1.setTop (mkF m 4 #[.val (.ref a), .val (.int pk)] [(.int sz)]))
  refine own_step (fun _ κ => XS.iloadN X1.here hx rfl (hb hby d5_4) rfl κ) ?_
  show own_Go _ _ _ _ (T1.setTop (mkF m 5 #[.val (.ref a), .val (.int pk)] [(.int pk), (.int sz)]))
  refine own_step (fun _ κ => XS.iadd X1.here hx rfl (hb hby d5_5) rfl κ) ?_
  show own_Go _ _ _ _ (T1.setTop (mkF m 6 #[.val (.ref a), .val (.int pk)] [(.int (sz + pk))]))
  refine own_step (fun _ κ => XS.aloadN X1.here hx rfl (hb hby d5_6) rfl rfl κ) ?_
  show own_Go _ _ _ _ (T1.setTop (mkF m 7 #[.val (.ref a), .val (.int pk)] [(.ref a), (.int (sz + pk))]))
  obtain ⟨T2, X2, e2, st2⟩ := getF X1 hx hZ hown (host := "") (Or.inl (hw _ (List.mem_of_getElem? (i := 14) rfl))) Via.refl e1 P0 (g := (mkF m 7 #[.val (.ref a), .val (.int pk)] [(.ref a), (.int (sz + pk))])) rfl rfl (hb hby d5_7)
  refine own_step st2 ?_
  show own_Go _ _ _ _ (T2.setTop (mkF m 10 #[.val (.ref a), .val (.int pk)] [(.ref b), (.int (sz + pk))]))
  obtain ⟨cl3, Ar3, Sz3, Nz3, -⟩ := P2.opened
  refine own_step (fun _ κ => X2.arraylength hx (by rw [e2]; exact Ar3.1) (State.isArrayOf_alike hZ.alike Ar3.2.1) (g := (mkF m 10 #[.val (.ref a), .val (.int pk)] [(.ref b), (.int (sz + pk))])) rfl rfl (hb hby d5_10) _ κ) ?_
  rw [len_of Sz3 Nz3]
  show own_Go _ _ _ _ (T2.setTop (mkF m 11 #[.val (.ref a), .val (.int pk)] [(.int n), (.int (sz + pk))]))
  refine own_step (fun _ κ => XS.icmpYes X2.here hx rfl (pc0 := 11) (pc' := 41) rfl (hb hby d5_11) rfl (flt P3).2.2.2 (by decide) (by decide) κ) ?_
  show own_Go _ _ _ _ (T2.setTop (mkF m 41 #[.val (.ref a), .val (.int pk)] []))
  obtain ⟨fs, hr, hrun, hended, hW, hsame⟩ := X2.leave (v := none) (fun _ => rfl)
  refine ⟨_, _, X2.returnOut hx Bd.returns (hb hby d5_41) hr, hrun, hended, _, _, rfl, ?_, ⟨_, rfl⟩, hW, hsame.mono (by decide) (by decide)⟩
  show Q5 Z a pk b n g sz h0 n0 _ T2.heap _
  rw [e2]
  exact ⟨rfl, N0, rfl⟩
theorem d6_0 : decode prog_1_method_8_code 0 = .ok (.aload_n 0, 1) := by decide +kernel
theorem d6_1 : decode prog_1_method_8_code 1 = .ok (.getfield 19, 3) := by decide +kernel
theorem d6_4 : decode prog_1_method_8_code 4 = .ok (.iload_n 1, 1) := by decide +kernel
theorem d6_5 : decode prog_1_method_8_code 5 = .ok (.iadd, 1) := by decide +kernel
theorem d6_6 : decode prog_1_method_8_code 6 = .ok (.aload_n 0, 1) := by decide +kernel
theorem d6_7 : decode prog_1_method_8_code 7 = .ok (.getfield 13, 3) := by decide +kernel
theorem d6_10 : decode prog_1_method_8_code 10 = .ok (.arraylength, 1) := by decide +kernel
theorem d6_11 : decode prog_1_method_8_code 11 = .ok (.if_icmp .le 30, 3) := by decide +kernel
theorem d6_14 : decode prog_1_method_8_code 14 = .ok (.aload_n 0, 1) := by decide +kernel
theorem d6_15 : decode prog_1_method_8_code 15 = .ok (.aload_n 0, 1) := by decide +kernel
theorem d6_16 : decode prog_1_method_8_code 16 = .ok (.getfield 13, 3) := by decide +kernel
theorem d6_19 : decode prog_1_method_8_code 19 = .ok (.iconst 2, 1) := by decide +kernel
theorem d6_20 : decode prog_1_method_8_code 20 = .ok (.aload_n 0, 1) := by decide +kernel
theorem d6_21 : decode prog_1_method_8_code 21 = .ok (.getfield 13, 3) := by decide +kernel
theorem d6_24 : decode prog_1_method_8_code 24 = .ok (.arraylength, 1) := by decide +kernel
theorem d6_25 : decode prog_1_method_8_code 25 = .ok (.imul, 1) := by decide +kernel
theorem d6_26 : decode prog_1_method_8_code 26 = .ok (.aload_n 0, 1) := by decide +kernel
theorem d6_27 : decode prog_1_method_8_code 27 = .ok (.getfield 19, 3) := by decide +kernel
theorem d6_30 : decode prog_1_method_8_code 30 = .ok (.iload_n 1, 1) := by decide +kernel
theorem d6_31 : decode prog_1_method_8_code 31 = .ok (.iadd, 1) := by decide +kernel
theorem d6_32 : decode prog_1_method_8_code 32 = .ok (.invokestatic 7, 3) := by decide +kernel
theorem d6_35 : decode prog_1_method_8_code 35 = .ok (.invokestatic 40, 3) := by decide +kernel
theorem d6_38 : decode prog_1_method_8_code 38 = .ok (.putfield 13, 3) := by decide +kernel
theorem d6_41 : decode prog_1_method_8_code 41 = .ok (.return_, 1) := by decide +kernel
theorem ef_6 (m : MethodId) (a : Addr) (pk : Int32) : entryFrame m #[(.ref a), (.int pk)] 2 = mkF m 0 #[.val (.ref a), .val (.int pk)] [] := by first | (simp [entryFrame, mkF, argsToLocals, Value.category]; done) | rfl
def Q6 (Z : State) (a : Addr) (pk : Int32) (b : Addr) (n : Int32) (g : Nat → Int32) (sz : Int32) (h0 : Heap) (n0 : Nat) (v : Option Value) (h : Heap) (L : List Loc) : Prop := ∃ r : Addr, v = none ∧ Fr n0 L ∧ Keep h0 h [a] ∧ (h0.size ≤ r) ∧ (Exa Z h a "com/example/lens_on_archives/lensonarchives/Bytes") ∧ (Fld Z h a "com/example/lens_on_archives/lensonarchives/Bytes" "bytes" "[B" (.ref r)) ∧ (Fld Z h a "com/example/lens_on_archives/lensonarchives/Bytes" "size" "I" (.int sz)) ∧ (own_By Z h r (own_mx ((2 : Int32) * n) (sz + pk)) (own_cut g n))
set_option maxRecDepth 65536 in
set_option maxHeartbeats 40000000 in
theorem rm6 (l : Launch) (Z : State) (a0 : Array Value) (hw : ∀ d ∈ tables_1, d.before a0 Z = true) (ws : List Jvm.Cond) (a : Addr) (pk : Int32) (b : Addr) (n : Int32) (g : Nat → Int32) (sz : Int32) (h0 : Heap) (n0 : Nat) (Z0 : n0 ≤ h0.size) (P0 : Exa Z h0 a "com/example/lens_on_archives/lensonarchives/Bytes") (P1 : Fld Z h0 a "com/example/lens_on_archives/lensonarchives/Bytes" "bytes" "[B" (.ref b)) (P2 : Fld Z h0 a "com/example/lens_on_archives/lensonarchives/Bytes" "size" "I" (.int sz)) (P3 : own_By Z h0 b n g) (P4 : n0 ≤ a) (P5 : n < (sz + pk)) (P6 : 16 ≤ n.toInt ∧ n.toInt ≤ 17) (P7 : 0 ≤ (sz + pk).toInt ∧ (sz + pk).toInt ≤ 18) :
    MetFree l (⟨"com/example/lens_on_archives/lensonarchives/Bytes", "room", "(I)V"⟩ : MethodName) (head1 (Jvm.Cond.code (⟨"com/example/lens_on_archives/lensonarchives/Bytes", "room", "(I)V"⟩ : MethodName) prog_1_method_8_code 2 none :: ws) ({ frames := 2, cells := 1, slots := 34, locals := 55 } : Room)) (fun ar_ U => ar_ = #[(.ref a), (.int pk)] ∧ Z.Warmed39 U.vm ∧ U.heap = h0) (fun _ _ _ _ _ => True) (fun _ U oo_ U' => ∃ v L, oo_ = .returned v ∧ Q6 Z a pk b n g sz h0 n0 v U'.heap L ∧ FrameEnd U oo_ U' L ({ frames := 2, cells := 1, slots := 34, locals := 55 } : Room).cells ({ frames := 2, cells := 1, slots := 34, locals := 55 } : Room).slots) := by
  refine MetFree.of_bodySF (plainFor_of_name pn_1) hisR ?_
  intro p e s m args below meth c s₁ Bd hml0 hP hK
  obtain ⟨rfl, hZ, hh⟩ := hP
  have hx := Bd.exec
  have hby := Bd.bytes
  have hml : c.maxLocals = 2 := hml0
  have hown : s.vm.findClass "com/example/lens_on_archives/lensonarchives/Bytes" = some m.cls := findClass_of_methodNamed Bd.named
  have hnm := (name_of_methodNamed Bd.named Bd.method).1
  have X0 : Stand p l e ({ frames := 2, cells := 1, slots := 34, locals := 55 } : Room) s m #[(.ref a), (.int pk)] below meth c s₁ [] 0 0 := Stand.of_body Bd
  have e0 : s₁.heap = h0 := by rw [← hh, Bd.state]; rfl
  have N0 := Fr.nil n0
  refine own_in (castTop (ef_6 m a pk)) ?_
  show own_Go _ _ _ _ (s₁.setTop (mkF m 0 #[.val (.ref a), .val (.int pk)] []))
  refine own_step (fun _ κ => XS.aloadN X0.here hx rfl (hb hby d6_0) rfl rfl κ) ?_
  show own_Go _ _ _ _ (s₁.setTop (mkF m 1 #[.val (.ref a), .val (.int pk)] [(.ref a)]))
  obtain ⟨T1, X1, e1, st1⟩ := getF X0 hx hZ hown (host := "") (Or.inl (hw _ (List.mem_of_getElem? (i := 21) rfl))) Via.refl e0 P2 (g := (mkF m 1 #[.val (.ref a), .val (.int pk)] [(.ref a)])) rfl rfl (hb hby d6_1)
  refine own_step st1 ?_
  show own_Go _ _ _ _ (T1.setTop (mkF m 4 #[.val (.ref a), .val (.int pk)] [(.int sz)]))
  refine own_step (fun _ κ => XS.iloadN X1.here hx rfl (hb hby d6_4) rfl κ) ?_
  show own_Go _ _ _ _ (T1.setTop (mkF m 5 #[.val (.ref a), .val (.int pk)] [(.int pk), (.int sz)]))
  refine own_step (fun _ κ => XS.iadd X1.here hx rfl (hb hby d6_5) rfl κ) ?_
  show own_Go _ _ _ _ (T1.setTop (mkF m 6 #[.val (.ref a), .val (.int pk)] [(.int (sz + pk))]))
  refine own_step (fun _ κ => XS.aloadN X1.here hx rfl (hb hby d6_6) rfl rfl κ) ?_
  show own_Go _ _ _ _ (T1.setTop (mkF m 7 #[.val (.ref a), .val (.int pk)] [(.ref a), (.int (sz + pk))]))
  obtain ⟨T2, X2, e2, st2⟩ := getF X1 hx hZ hown (host := "") (Or.inl (hw _ (List.mem_of_getElem? (i := 14) rfl))) Via.refl e1 P1 (g := (mkF m 7 #[.val (.ref a), .val (.int pk)] [(.ref a), (.int (sz + pk))])) rfl rfl (hb hby d6_7)
  refine own_step st2 ?_
  show own_Go _ _ _ _ (T2.setTop (mkF m 10 #[.val (.ref a), .val (.int pk)] [(.ref b), (.int (sz + pk))]))
  obtain ⟨cl3, Ar3, Sz3, Nz3, -⟩ := P3.opened
  refine own_step (fun _ κ => X2.arraylength hx (by rw [e2]; exact Ar3.1) (State.isArrayOf_alike hZ.alike Ar3.2.1) (g := (mkF m 10 #[.val (.ref a), .val (.int pk)] [(.ref b), (.int (sz + pk))])) rfl rfl (hb hby d6_10) _ κ) ?_
  rw [len_of Sz3 Nz3]
  show own_Go _ _ _ _ (T2.setTop (mkF m 11 #[.val (.ref a), .val (.int pk)] [(.int n), (.int (sz + pk))]))
  refine own_step (fun _ κ => XS.icmpNo X2.here hx rfl (hb hby d6_11) rfl (tlt P5).2.2.2 κ) ?_
  show own_Go _ _ _ _ (T2.setTop (mkF m 14 #[.val (.ref a), .val (.int pk)] []))
  refine own_step (fun _ κ => XS.aloadN X2.here hx rfl (hb hby d6_14) rfl rfl κ) ?_
  show own_Go _ _ _ _ (T2.setTop (mkF m 15 #[.val (.ref a), .val (.int pk)] [(.ref a)]))
  refine own_step (fun _ κ => XS.aloadN X2.here hx rfl (hb hby d6_15) rfl rfl κ) ?_
  show own_Go _ _ _ _ (T2.setTop (mkF m 16 #[.val (.ref a), .val (.int pk)] [(.ref a), (.ref a)]))
  obtain ⟨T4, X4, e4, st4⟩ := getF X2 hx hZ hown (host := "") (Or.inl (hw _ (List.mem_of_getElem? (i := 14) rfl))) Via.refl e2 P1 (g := (mkF m 16 #[.val (.ref a), .val (.int pk)] [(.ref a), (.ref a)])) rfl rfl (hb hby d6_16)
  refine own_step st4 ?_
  show own_Go _ _ _ _ (T4.setTop (mkF m 19 #[.val (.ref a), .val (.int pk)] [(.ref b), (.ref a)]))
  refine own_step (fun _ κ => XS.iconst X4.here hx rfl (hb hby d6_19) κ) ?_
  show own_Go _ _ _ _ (T4.setTop (mkF m 20 #[.val (.ref a), .val (.int pk)] [(.int (2 : Int32)), (.ref b), (.ref a)]))
  refine own_step (fun _ κ => XS.aloadN X4.here hx rfl (hb hby d6_20) rfl rfl κ) ?_
  show own_Go _ _ _ _ (T4.setTop (mkF m 21 #[.val (.ref a), .val (.int pk)] [(.ref a), (.int (2 : Int32)), (.ref b), (.ref a)]))
  obtain ⟨T5, X5, e5, st5⟩ := getF X4 hx hZ hown (host := "") (Or.inl (hw _ (List.mem_of_getElem? (i := 14) rfl))) Via.refl e4 P1 (g := (mkF m 21 #[.val (.ref a), .val (.int pk)] [(.ref a), (.int (2 : Int32)), (.ref b), (.ref a)])) rfl rfl (hb hby d6_21)
  refine own_step st5 ?_
  show own_Go _ _ _ _ (T5.setTop (mkF m 24 #[.val (.ref a), .val (.int pk)] [(.ref b), (.int (2 : Int32)), (.ref b), (.ref a)]))
  obtain ⟨cl6, Ar6, Sz6, Nz6, -⟩ := P3.opened
  refine own_step (fun _ κ => X5.arraylength hx (by rw [e5]; exact Ar6.1) (State.isArrayOf_alike hZ.alike Ar6.2.1) (g := (mkF m 24 #[.val (.ref a), .val (.int pk)] [(.ref b), (.int (2 : Int32)), (.ref b), (.ref a)])) rfl rfl (hb hby d6_24) _ κ) ?_
  rw [len_of Sz6 Nz6]
  show own_Go _ _ _ _ (T5.setTop (mkF m 25 #[.val (.ref a), .val (.int pk)] [(.int n), (.int (2 : Int32)), (.ref b), (.ref a)]))
  refine own_step (fun _ κ => XS.imul X5.here hx rfl (hb hby d6_25) rfl κ) ?_
  show own_Go _ _ _ _ (T5.setTop (mkF m 26 #[.val (.ref a), .val (.int pk)] [(.int ((2 : Int32) * n)), (.ref b), (.ref a)]))
  refine own_step (fun _ κ => XS.aloadN X5.here hx rfl (hb hby d6_26) rfl rfl κ) ?_
  show own_Go _ _ _ _ (T5.setTop (mkF m 27 #[.val (.ref a), .val (.int pk)] [(.ref a), (.int ((2 : Int32) * n)), (.ref b), (.ref a)]))
  obtain ⟨T7, X7, e7, st7⟩ := getF X5 hx hZ hown (host := "") (Or.inl (hw _ (List.mem_of_getElem? (i := 21) rfl))) Via.refl e5 P2 (g := (mkF m 27 #[.val (.ref a), .val (.int pk)] [(.ref a), (.int ((2 : Int32) * n)), (.ref b), (.ref a)])) rfl rfl (hb hby d6_27)
  refine own_step st7 ?_
  show own_Go _ _ _ _ (T7.setTop (mkF m 30 #[.val (.ref a), .val (.int pk)] [(.int sz), (.int ((2 : Int32) * n)), (.ref b), (.ref a)]))
  refine own_step (fun _ κ => XS.iloadN X7.here hx rfl (hb hby d6_30) rfl κ) ?_
  show own_Go _ _ _ _ (T7.setTop (mkF m 31 #[.val (.ref a), .val (.int pk)] [(.int pk), (.int sz), (.int ((2 : Int32) * n)), (.ref b), (.ref a)]))
  refine own_step (fun _ κ => XS.iadd X7.here hx rfl (hb hby d6_31) rfl κ) ?_
  show own_Go _ _ _ _ (T7.setTop (mkF m 32 #[.val (.ref a), .val (.int pk)] [(.int (sz + pk)), (.int ((2 : Int32) * n)), (.ref b), (.ref a)]))
  obtain ⟨vr8, _, ⟨T8, L8, k8, n8⟩, -, X8, ⟨Lc8, hQ8, l8, y8, z8⟩, st8⟩ := Jvm.LawKit.callS X7 hx (y := (⟨"java/lang/Math", "max", "(II)I"⟩ : MethodName)) hown (mvT hZ (hw _ (List.mem_of_getElem? (i := 10) rfl))) (mvT hZ (hw _ (List.mem_of_getElem? (i := 11) rfl))) (mvT hZ (hw _ (List.mem_of_getElem? (i := 12) rfl))) (mvT hZ (hw _ (List.mem_of_getElem? (i := 13) rfl))) (by decide) (backOf (W := 2) (rm1 l Z a0 hw [] ((2 : Int32) * n) (sz + pk)  h0 n0 Z0 ) hZ (hw _ (List.mem_of_getElem? (i := 13) rfl)) (hw _ (List.mem_of_getElem? (i := 12) rfl)) (by decide) (by decide)) (g := (mkF m 32 #[.val (.ref a), .val (.int pk)] [(.int (sz + pk)), (.int ((2 : Int32) * n)), (.ref b), (.ref a)])) rfl (by rw [hml]; rfl) (argsL := [(.int ((2 : Int32) * n)), (.int (sz + pk))]) (rest := [(.ref b), (.ref a)]) (lenOf pd_0 rfl) rfl (by show 2 * 0 + _ ≤ _; exact Nat.le_of_eq rfl) (hb hby d6_32) (fun _ _ => ⟨rfl, e7, (by decide : 0 + 0 ≤ _), (by decide : 0 + 0 ≤ _)⟩)
  dsimp only [Pt.U, Pt.locs, Pt.cells, Pt.slots] at X8 l8 y8 z8 st8 hQ8
  subst l8 y8 z8
  obtain ⟨rfl, Nq8, eq8⟩ := hQ8
  have N8 := Fr.app N0 Nq8
  refine own_step st8 ?_
  show own_Go _ _ _ _ (T8.setTop (mkF m 35 #[.val (.ref a), .val (.int pk)] [(.int (own_mx ((2 : Int32) * n) (sz + pk))), (.ref b), (.ref a)]))
  obtain ⟨vr9, _, ⟨T9, L9, k9, n9⟩, -, X9, ⟨Lc9, hQ9, l9, y9, z9⟩, st9⟩ := Jvm.LawKit.callS X8 hx (y := (⟨"java/util/Arrays", "copyOf", "([BI)[B"⟩ : MethodName)) hown (mvT hZ (hw _ (List.mem_of_getElem? (i := 23) rfl))) (mvT hZ (hw _ (List.mem_of_getElem? (i := 24) rfl))) (mvT hZ (hw _ (List.mem_of_getElem? (i := 25) rfl))) (mvT hZ (hw _ (List.mem_of_getElem? (i := 26) rfl))) (by decide) (backOf (W := 1) (rm3 l Z a0 hw [] b (own_mx ((2 : Int32) * n) (sz + pk)) n g h0 n0 Z0 P3 (own_nn (Int.le_trans (by decide) (own_grow P6 P7).1)) (own_n34 (own_grow P6 P7).2)) hZ (hw _ (List.mem_of_getElem? (i := 26) rfl)) (hw _ (List.mem_of_getElem? (i := 25) rfl)) (by decide) (by decide)) (g := (mkF m 35 #[.val (.ref a), .val (.int pk)] [(.int (own_mx ((2 : Int32) * n) (sz + pk))), (.ref b), (.ref a)])) rfl (by rw [hml]; rfl) (argsL := [(.ref b), (.int (own_mx ((2 : Int32) * n) (sz + pk)))]) (rest := [(.ref a)]) (lenOf pd_1 rfl) rfl (by show 2 * 0 + _ ≤ _; exact Nat.le_of_eq rfl) (hb hby d6_35) (fun _ _ => ⟨rfl, eq8, (by decide : 0 + 1 ≤ _), (by decide : 0 + 34 ≤ _)⟩)
  dsimp only [Pt.U, Pt.locs, Pt.cells, Pt.slots] at X9 l9 y9 z9 st9 hQ9
  subst l9 y9 z9
  obtain ⟨r10, rfl, Nq9, Kq9, p9_0, p9_1⟩ := hQ9
  have N9 := Fr.app N8 Nq9
  have ne11 : a ≠ r10 := Nat.ne_of_lt (Nat.lt_of_lt_of_le P0.lt p9_0)
  have ne12 : b ≠ r10 := Nat.ne_of_lt (Nat.lt_of_lt_of_le P3.lt p9_0)
  have ge13 : n0 ≤ r10 := Nat.le_trans Z0 p9_0
  have sz14 : h0.size ≤ r10 := Nat.le_trans (Keep.refl h0 [a]).1 p9_0
  have f15 := P0.keep Kq9
  have f16 := P1.keep Kq9 nin0
  have f17 := P2.keep Kq9 nin0
  have f18 := P3.keep Kq9 nin0
  have K19 : Keep h0 T9.heap [a] := (Keep.refl h0 [a]).trans Kq9 all0
  have z20 : n0 ≤ T9.heap.size := Nat.le_trans Z0 Kq9.1
  refine own_step st9 ?_
  show own_Go _ _ _ _ (T9.setTop (mkF m 38 #[.val (.ref a), .val (.int pk)] [(.ref r10), (.ref a)]))
  obtain ⟨T21, h21, X21, e21, W21, st21⟩ := putF X9 hx hZ hown (host := "") (Or.inl (hw _ (List.mem_of_getElem? (i := 14) rfl))) Via.refl rfl f16 f15 (Or.inl (hw _ (List.mem_of_getElem? (i := 15) rfl))) (hw _ (List.mem_of_getElem? (i := 2) rfl)) (ty := (.array .byte)) (by decide) rfl rfl (g := (mkF m 38 #[.val (.ref a), .val (.int pk)] [(.ref r10), (.ref a)])) rfl rfl (hb hby d6_38)
  refine own_step st21 ?_
  have N21 := Fr.snoc X21 N9 P4
  have Fw21 := f16.same W21
  have f22 := f15.wr W21
  have f23 := f17.other W21 (Or.inr (slot_ne (Or.inl (hw _ (List.mem_of_getElem? (i := 22) rfl))) (Or.inl (hw _ (List.mem_of_getElem? (i := 15) rfl))) (by decide) (t := .int) (t' := (.array .byte)) (by decide) (by decide)))
  have f24 := p9_1.other W21 (Ne.symm ne11)
  have K25 : Keep h0 h21 [a] := K19.wr W21 (Or.inl (List.mem_of_getElem? (i := 0) rfl))
  have z26 : n0 ≤ h21.size := Nat.le_trans z20 (Keep.of_wr W21).1
  show own_Go _ _ _ _ (T21.setTop (mkF m 41 #[.val (.ref a), .val (.int pk)] []))
  obtain ⟨fs, hr, hrun, hended, hW, hsame⟩ := X21.leave (v := none) (fun _ => rfl)
  refine ⟨_, _, X21.returnOut hx Bd.returns (hb hby d6_41) hr, hrun, hended, _, _, rfl, ?_, ⟨_, rfl⟩, hW, hsame.mono (by decide) (by decide)⟩
  show Q6 Z a pk b n g sz h0 n0 _ T21.heap _
  rw [e21]
  exact ⟨r10, rfl, N21, K25, sz14, f22, Fw21, f23, f24⟩
theorem d7_0 : decode prog_1_method_3_code 0 = .ok (.aload_n 0, 1) := by decide +kernel
theorem d7_1 : decode prog_1_method_3_code 1 = .ok (.iconst 1, 1) := by decide +kernel
theorem d7_2 : decode prog_1_method_3_code 2 = .ok (.invokevirtual 23, 3) := by decide +kernel
theorem d7_5 : decode prog_1_method_3_code 5 = .ok (.aload_n 0, 1) := by decide +kernel
theorem d7_6 : decode prog_1_method_3_code 6 = .ok (.getfield 13, 3) := by decide +kernel
theorem d7_9 : decode prog_1_method_3_code 9 = .ok (.aload_n 0, 1) := by decide +kernel
theorem d7_10 : decode prog_1_method_3_code 10 = .ok (.dup, 1) := by decide +kernel
theorem d7_11 : decode prog_1_method_3_code 11 = .ok (.getfield 19, 3) := by decide +kernel
theorem d7_14 : decode prog_1_method_3_code 14 = .ok (.dup_x1, 1) := by decide +kernel
theorem d7_15 : decode prog_1_method_3_code 15 = .ok (.iconst 1, 1) := by decide +kernel
theorem d7_16 : decode prog_1_method_3_code 16 = .ok (.iadd, 1) := by decide +kernel
theorem d7_17 : decode prog_1_method_3_code 17 = .ok (.putfield 19, 3) := by decide +kernel
theorem d7_20 : decode prog_1_method_3_code 20 = .ok (.iload_n 1, 1) := by decide +kernel
theorem d7_21 : decode prog_1_method_3_code 21 = .ok (.i2b, 1) := by decide +kernel
theorem d7_22 : decode prog_1_method_3_code 22 = .ok (.bastore, 1) := by decide +kernel
theorem d7_23 : decode prog_1_method_3_code 23 = .ok (.return_, 1) := by decide +kernel
theorem ef_7 (m : MethodId) (a : Addr) (pv : Int32) : entryFrame m #[(.ref a), (.int pv)] 2 = mkF m 0 #[.val (.ref a), .val (.int pv)] [] := by first | (simp [entryFrame, mkF, argsToLocals, Value.category]; done) | rfl
def Q7 (Z : State) (a : Addr) (pv : Int32) (b : Addr) (n : Int32) (g : Nat → Int32) (sz : Int32) (h0 : Heap) (n0 : Nat) (v : Option Value) (h : Heap) (L : List Loc) : Prop := v = none ∧ Fr n0 L ∧ Keep h0 h [a, b] ∧ (Exa Z h a "com/example/lens_on_archives/lensonarchives/Bytes") ∧ (Fld Z h a "com/example/lens_on_archives/lensonarchives/Bytes" "bytes" "[B" (.ref b)) ∧ (Fld Z h a "com/example/lens_on_archives/lensonarchives/Bytes" "size" "I" (.int (sz + (1 : Int32)))) ∧ (own_By Z h b n (own_upd g sz.toNatClampNeg (pv.toInt8.toInt32).toInt8.toInt32))
set_option maxRecDepth 65536 in
set_option maxHeartbeats 40000000 in
theorem rm7 (l : Launch) (Z : State) (a0 : Array Value) (hw : ∀ d ∈ tables_1, d.before a0 Z = true) (ws : List Jvm.Cond) (a : Addr) (pv : Int32) (b : Addr) (n : Int32) (g : Nat → Int32) (sz : Int32) (h0 : Heap) (n0 : Nat) (Z0 : n0 ≤ h0.size) (P0 : Exa Z h0 a "com/example/lens_on_archives/lensonarchives/Bytes") (P1 : Fld Z h0 a "com/example/lens_on_archives/lensonarchives/Bytes" "bytes" "[B" (.ref b)) (P2 : Fld Z h0 a "com/example/lens_on_archives/lensonarchives/Bytes" "size" "I" (.int sz)) (P3 : own_By Z h0 b n g) (P4 : n0 ≤ a) (P5 : n0 ≤ b) (P6 : a ≠ b) (P7 : ¬ n < (sz + (1 : Int32))) (P8 : 0 ≤ sz.toInt ∧ sz.toInt ≤ 17) :
    MetFree l (⟨"com/example/lens_on_archives/lensonarchives/Bytes", "write", "(I)V"⟩ : MethodName) (head1 (Jvm.Cond.code (⟨"com/example/lens_on_archives/lensonarchives/Bytes", "write", "(I)V"⟩ : MethodName) prog_1_method_3_code 2 none :: ws) ({ frames := 1, cells := 0, slots := 0, locals := 13 } : Room)) (fun ar_ U => ar_ = #[(.ref a), (.int pv)] ∧ Z.Warmed39 U.vm ∧ U.heap = h0) (fun _ _ _ _ _ => True) (fun _ U oo_ U' => ∃ v L, oo_ = .returned v ∧ Q7 Z a pv b n g sz h0 n0 v U'.heap L ∧ FrameEnd U oo_ U' L ({ frames := 1, cells := 0, slots := 0, locals := 13 } : Room).cells ({ frames := 1, cells := 0, slots := 0, locals := 13 } : Room).slots) := by
  refine MetFree.of_bodySF (plainFor_of_name pn_1) hisR ?_
  intro p e s m args below meth c s₁ Bd hml0 hP hK
  obtain ⟨rfl, hZ, hh⟩ := hP
  have hx := Bd.exec
  have hby := Bd.bytes
  have hml : c.maxLocals = 2 := hml0
  have hown : s.vm.findClass "com/example/lens_on_archives/lensonarchives/Bytes" = some m.cls := findClass_of_methodNamed Bd.named
  have hnm := (name_of_methodNamed Bd.named Bd.method).1
  have X0 : Stand p l e ({ frames := 1, cells := 0, slots := 0, locals := 13 } : Room) s m #[(.ref a), (.int pv)] below meth c s₁ [] 0 0 := Stand.of_body Bd
  have e0 : s₁.heap = h0 := by rw [← hh, Bd.state]; rfl
  have N0 := Fr.nil n0
  refine own_in (castTop (ef_7 m a pv)) ?_
  show own_Go _ _ _ _ (s₁.setTop (mkF m 0 #[.val (.ref a), .val (.int pv)] []))
  refine own_step (fun _ κ => XS.aloadN X0.here hx rfl (hb hby d7_0) rfl rfl κ) ?_
  show own_Go _ _ _ _ (s₁.setTop (mkF m 1 #[.val (.ref a), .val (.int pv)] [(.ref a)]))
  refine own_step (fun _ κ => XS.iconst X0.here hx rfl (hb hby d7_1) κ) ?_
  show own_Go _ _ _ _ (s₁.setTop (mkF m 2 #[.val (.ref a), .val (.int pv)] [(.int (1 : Int32)), (.ref a)]))
  obtain ⟨cq1, q1, q1'⟩ := P0.cell
  obtain ⟨vr1, _, ⟨T1, L1, k1, n1⟩, -, X1, ⟨Lc1, hQ1, l1, y1, z1⟩, st1⟩ := X0.privateBack hx (y := (⟨"com/example/lens_on_archives/lensonarchives/Bytes", "room", "(I)V"⟩ : MethodName)) hown (mvT hZ (hw _ (List.mem_of_getElem? (i := 43) rfl))) (mvT hZ (hw _ (List.mem_of_getElem? (i := 44) rfl))) (own_selP (y := (⟨"com/example/lens_on_archives/lensonarchives/Bytes", "room", "(I)V"⟩ : MethodName)) hZ (hw _ (List.mem_of_getElem? (i := 2) rfl)) (hw _ (List.mem_of_getElem? (i := 45) rfl)) (hw _ (List.mem_of_getElem? (i := 44) rfl)) (by decide)) (Cond.privateMethod_at (mvP hZ (hw _ (List.mem_of_getElem? (i := 45) rfl)) (args := #[]))) (mvT hZ (hw _ (List.mem_of_getElem? (i := 46) rfl))) (by decide) (backOf (W := 0) (rm5 l Z a0 hw [] a (1 : Int32) b n g sz h0 n0 Z0 P1 P2 P3 P7) hZ (hw _ (List.mem_of_getElem? (i := 46) rfl)) (hw _ (List.mem_of_getElem? (i := 3) rfl)) (by decide) (by decide)) (g := (mkF m 2 #[.val (.ref a), .val (.int pv)] [(.int (1 : Int32)), (.ref a)])) rfl (by rw [hml]; rfl) (Steps.refl _) (a := a) (by rw [e0]; exact q1) q1' (argsL := [(.int (1 : Int32))]) (rest := []) (lenOf pd_2 rfl) rfl (by show 2 * 0 + _ ≤ _; exact Nat.le_of_eq rfl) (hb hby d7_2) (fun _ _ => ⟨rfl, e0, (by decide : 0 + 0 ≤ _), (by decide : 0 + 0 ≤ _)⟩)
  dsimp only [Pt.U, Pt.locs, Pt.cells, Pt.slots] at X1 l1 y1 z1 st1 hQ1
  subst l1 y1 z1
  obtain ⟨rfl, Nq1, eq1⟩ := hQ1
  have N1 := Fr.app N0 Nq1
  refine own_step (fun _ κ => st1.trans κ) ?_
  show own_Go _ _ _ _ (T1.setTop (mkF m 5 #[.val (.ref a), .val (.int pv)] []))
  refine own_step (fun _ κ => XS.aloadN X1.here hx rfl (hb hby d7_5) rfl rfl κ) ?_
  show own_Go _ _ _ _ (T1.setTop (mkF m 6 #[.val (.ref a), .val (.int pv)] [(.ref a)]))
  obtain ⟨T2, X2, e2, st2⟩ := getF X1 hx hZ hown (host := "") (Or.inl (hw _ (List.mem_of_getElem? (i := 14) rfl))) Via.refl eq1 P1 (g := (mkF m 6 #[.val (.ref a), .val (.int pv)] [(.ref a)])) rfl rfl (hb hby d7_6)
  refine own_step st2 ?_
  show own_Go _ _ _ _ (T2.setTop (mkF m 9 #[.val (.ref a), .val (.int pv)] [(.ref b)]))
  refine own_step (fun _ κ => XS.aloadN X2.here hx rfl (hb hby d7_9) rfl rfl κ) ?_
  show own_Go _ _ _ _ (T2.setTop (mkF m 10 #[.val (.ref a), .val (.int pv)] [(.ref a), (.ref b)]))
  refine own_step (fun _ κ => XS.dup X2.here hx rfl (hb hby d7_10) rfl rfl κ) ?_
  show own_Go _ _ _ _ (T2.setTop (mkF m 11 #[.val (.ref a), .val (.int pv)] [(.ref a), (.ref a), (.ref b)]))
  obtain ⟨T3, X3, e3, st3⟩ := getF X2 hx hZ hown (host := "") (Or.inl (hw _ (List.mem_of_getElem? (i := 21) rfl))) Via.refl e2 P2 (g := (mkF m 11 #[.val (.ref a), .val (.int pv)] [(.ref a), (.ref a), (.ref b)])) rfl rfl (hb hby d7_11)
  refine own_step st3 ?_
  show own_Go _ _ _ _ (T3.setTop (mkF m 14 #[.val (.ref a), .val (.int pv)] [(.int sz), (.ref a), (.ref b)]))
  refine own_step (fun _ κ => XS.dupX1 X3.here hx rfl (hb hby d7_14) rfl rfl rfl κ) ?_
  show own_Go _ _ _ _ (T3.setTop (mkF m 15 #[.val (.ref a), .val (.int pv)] [(.int sz), (.ref a), (.int sz), (.ref b)]))
  refine own_step (fun _ κ => XS.iconst X3.here hx rfl (hb hby d7_15) κ) ?_
  show own_Go _ _ _ _ (T3.setTop (mkF m 16 #[.val (.ref a), .val (.int pv)] [(.int (1 : Int32)), (.int sz), (.ref a), (.int sz), (.ref b)]))
  refine own_step (fun _ κ => XS.iadd X3.here hx rfl (hb hby d7_16) rfl κ) ?_
  show own_Go _ _ _ _ (T3.setTop (mkF m 17 #[.val (.ref a), .val (.int pv)] [(.int (sz + (1 : Int32))), (.ref a), (.int sz), (.ref b)]))
  obtain ⟨T4, h4, X4, e4, W4, st4⟩ := putF X3 hx hZ hown (host := "") (Or.inl (hw _ (List.mem_of_getElem? (i := 21) rfl))) Via.refl e3 P2 P0 (Or.inl (hw _ (List.mem_of_getElem? (i := 22) rfl))) (hw _ (List.mem_of_getElem? (i := 2) rfl)) (ty := .int) (by decide) rfl rfl (g := (mkF m 17 #[.val (.ref a), .val (.int pv)] [(.int (sz + (1 : Int32))), (.ref a), (.int sz), (.ref b)])) rfl rfl (hb hby d7_17)
  refine own_step st4 ?_
  have N4 := Fr.snoc X4 N1 P4
  have Fw4 := P2.same W4
  have f5 := P0.wr W4
  have f6 := P1.other W4 (Or.inr (slot_ne (Or.inl (hw _ (List.mem_of_getElem? (i := 15) rfl))) (Or.inl (hw _ (List.mem_of_getElem? (i := 22) rfl))) (by decide) (t := (.array .byte)) (t' := .int) (by decide) (by decide)))
  have f7 := P3.other W4 (Ne.symm P6)
  have K8 : Keep h0 h4 [a, b] := (Keep.refl h0 [a, b]).wr W4 (Or.inl (List.mem_of_getElem? (i := 0) rfl))
  have z9 : n0 ≤ h4.size := Nat.le_trans Z0 (Keep.of_wr W4).1
  show own_Go _ _ _ _ (T4.setTop (mkF m 20 #[.val (.ref a), .val (.int pv)] [(.int sz), (.ref b)]))
  refine own_step (fun _ κ => XS.iloadN X4.here hx rfl (hb hby d7_20) rfl κ) ?_
  show own_Go _ _ _ _ (T4.setTop (mkF m 21 #[.val (.ref a), .val (.int pv)] [(.int pv), (.int sz), (.ref b)]))
  refine own_step (fun _ κ => XS.i2b X4.here hx rfl (hb hby d7_21) rfl κ) ?_
  show own_Go _ _ _ _ (T4.setTop (mkF m 22 #[.val (.ref a), .val (.int pv)] [(.int (pv.toInt8.toInt32)), (.int sz), (.ref b)]))
  obtain ⟨cl10, Ar10, Sz10, Nz10, -⟩ := f7.opened
  have hin10 := inb_of (j := sz) Sz10 (own_inb P8 P7)
  obtain ⟨T10, h10, X10, e10, W10, st10⟩ := stB X4 hx hZ e4 Ar10 (j := sz) hin10 (g := (mkF m 22 #[.val (.ref a), .val (.int pv)] [(.int (pv.toInt8.toInt32)), (.int sz), (.ref b)])) rfl rfl (hb hby d7_22)
  refine own_step st10 ?_
  have N10 := Fr.snoc X10 N4 P5
  have V10 : own_By Z h10 b n (own_upd g sz.toNatClampNeg (pv.toInt8.toInt32).toInt8.toInt32) := f7.set W10 (own_inb P8 P7)
  have f11 := f5.wr W10
  have f12 := f6.other W10 (Or.inl P6)
  have f13 := Fw4.other W10 (Or.inl P6)
  have K14 : Keep h0 h10 [a, b] := K8.wr W10 (Or.inl (List.mem_of_getElem? (i := 1) rfl))
  have z15 : n0 ≤ h10.size := Nat.le_trans z9 (Keep.of_wr W10).1
  show own_Go _ _ _ _ (T10.setTop (mkF m 23 #[.val (.ref a), .val (.int pv)] []))
  obtain ⟨fs, hr, hrun, hended, hW, hsame⟩ := X10.leave (v := none) (fun _ => rfl)
  refine ⟨_, _, X10.returnOut hx Bd.returns (hb hby d7_23) hr, hrun, hended, _, _, rfl, ?_, ⟨_, rfl⟩, hW, hsame.mono (by decide) (by decide)⟩
  show Q7 Z a pv b n g sz h0 n0 _ T10.heap _
  rw [e10]
  exact ⟨rfl, N10, K14, f11, f12, f13, V10⟩
theorem d8_0 : decode prog_1_method_3_code 0 = .ok (.aload_n 0, 1) := by decide +kernel
theorem d8_1 : decode prog_1_method_3_code 1 = .ok (.iconst 1, 1) := by decide +kernel
theorem d8_2 : decode prog_1_method_3_code 2 = .ok (.invokevirtual 23, 3) := by decide +kernel
theorem d8_5 : decode prog_1_method_3_code 5 = .ok (.aload_n 0, 1) := by decide +kernel
theorem d8_6 : decode prog_1_method_3_code 6 = .ok (.getfield 13, 3) := by decide +kernel
theorem d8_9 : decode prog_1_method_3_code 9 = .ok (.aload_n 0, 1) := by decide +kernel
theorem d8_10 : decode prog_1_method_3_code 10 = .ok (.dup, 1) := by decide +kernel
theorem d8_11 : decode prog_1_method_3_code 11 = .ok (.getfield 19, 3) := by decide +kernel
theorem d8_14 : decode prog_1_method_3_code 14 = .ok (.dup_x1, 1) := by decide +kernel
theorem d8_15 : decode prog_1_method_3_code 15 = .ok (.iconst 1, 1) := by decide +kernel
theorem d8_16 : decode prog_1_method_3_code 16 = .ok (.iadd, 1) := by decide +kernel
theorem d8_17 : decode prog_1_method_3_code 17 = .ok (.putfield 19, 3) := by decide +kernel
theorem d8_20 : decode prog_1_method_3_code 20 = .ok (.iload_n 1, 1) := by decide +kernel
theorem d8_21 : decode prog_1_method_3_code 21 = .ok (.i2b, 1) := by decide +kernel
theorem d8_22 : decode prog_1_method_3_code 22 = .ok (.bastore, 1) := by decide +kernel
theorem d8_23 : decode prog_1_method_3_code 23 = .ok (.return_, 1) := by decide +kernel
theorem ef_8 (m : MethodId) (a : Addr) (pv : Int32) : entryFrame m #[(.ref a), (.int pv)] 2 = mkF m 0 #[.val (.ref a), .val (.int pv)] [] := by first | (simp [entryFrame, mkF, argsToLocals, Value.category]; done) | rfl
def Q8 (Z : State) (a : Addr) (pv : Int32) (b : Addr) (n : Int32) (g : Nat → Int32) (sz : Int32) (h0 : Heap) (n0 : Nat) (v : Option Value) (h : Heap) (L : List Loc) : Prop := ∃ r : Addr, v = none ∧ Fr n0 L ∧ Keep h0 h [a] ∧ (h0.size ≤ r) ∧ (Exa Z h a "com/example/lens_on_archives/lensonarchives/Bytes") ∧ (Fld Z h a "com/example/lens_on_archives/lensonarchives/Bytes" "bytes" "[B" (.ref r)) ∧ (Fld Z h a "com/example/lens_on_archives/lensonarchives/Bytes" "size" "I" (.int (sz + (1 : Int32)))) ∧ (own_By Z h r (own_mx ((2 : Int32) * n) (sz + (1 : Int32))) (own_upd (own_cut g n) sz.toNatClampNeg (pv.toInt8.toInt32).toInt8.toInt32))
set_option maxRecDepth 65536 in
set_option maxHeartbeats 40000000 in
theorem rm8 (l : Launch) (Z : State) (a0 : Array Value) (hw : ∀ d ∈ tables_1, d.before a0 Z = true) (ws : List Jvm.Cond) (a : Addr) (pv : Int32) (b : Addr) (n : Int32) (g : Nat → Int32) (sz : Int32) (h0 : Heap) (n0 : Nat) (Z0 : n0 ≤ h0.size) (P0 : Exa Z h0 a "com/example/lens_on_archives/lensonarchives/Bytes") (P1 : Fld Z h0 a "com/example/lens_on_archives/lensonarchives/Bytes" "bytes" "[B" (.ref b)) (P2 : Fld Z h0 a "com/example/lens_on_archives/lensonarchives/Bytes" "size" "I" (.int sz)) (P3 : own_By Z h0 b n g) (P4 : n0 ≤ a) (P5 : n < (sz + (1 : Int32))) (P6 : 16 ≤ n.toInt ∧ n.toInt ≤ 17) (P7 : 0 ≤ sz.toInt ∧ sz.toInt ≤ 17) :
    MetFree l (⟨"com/example/lens_on_archives/lensonarchives/Bytes", "write", "(I)V"⟩ : MethodName) (head1 (Jvm.Cond.code (⟨"com/example/lens_on_archives/lensonarchives/Bytes", "write", "(I)V"⟩ : MethodName) prog_1_method_3_code 2 none :: ws) ({ frames := 3, cells := 1, slots := 34, locals := 68 } : Room)) (fun ar_ U => ar_ = #[(.ref a), (.int pv)] ∧ Z.Warmed39 U.vm ∧ U.heap = h0) (fun _ _ _ _ _ => True) (fun _ U oo_ U' => ∃ v L, oo_ = .returned v ∧ Q8 Z a pv b n g sz h0 n0 v U'.heap L ∧ FrameEnd U oo_ U' L ({ frames := 3, cells := 1, slots := 34, locals := 68 } : Room).cells ({ frames := 3, cells := 1, slots := 34, locals := 68 } : Room).slots) := by
  refine MetFree.of_bodySF (plainFor_of_name pn_1) hisR ?_
  intro p e s m args below meth c s₁ Bd hml0 hP hK
  obtain ⟨rfl, hZ, hh⟩ := hP
  have hx := Bd.exec
  have hby := Bd.bytes
  have hml : c.maxLocals = 2 := hml0
  have hown : s.vm.findClass "com/example/lens_on_archives/lensonarchives/Bytes" = some m.cls := findClass_of_methodNamed Bd.named
  have hnm := (name_of_methodNamed Bd.named Bd.method).1
  have X0 : Stand p l e ({ frames := 3, cells := 1, slots := 34, locals := 68 } : Room) s m #[(.ref a), (.int pv)] below meth c s₁ [] 0 0 := Stand.of_body Bd
  have e0 : s₁.heap = h0 := by rw [← hh, Bd.state]; rfl
  have N0 := Fr.nil n0
  refine own_in (castTop (ef_8 m a pv)) ?_
  show own_Go _ _ _ _ (s₁.setTop (mkF m 0 #[.val (.ref a), .val (.int pv)] []))
  refine own_step (fun _ κ => XS.aloadN X0.here hx rfl (hb hby d8_0) rfl rfl κ) ?_
  show own_Go _ _ _ _ (s₁.setTop (mkF m 1 #[.val (.ref a), .val (.int pv)] [(.ref a)]))
  refine own_step (fun _ κ => XS.iconst X0.here hx rfl (hb hby d8_1) κ) ?_
  show own_Go _ _ _ _ (s₁.setTop (mkF m 2 #[.val (.ref a), .val (.int pv)] [(.int (1 : Int32)), (.ref a)]))
  obtain ⟨cq1, q1, q1'⟩ := P0.cell
  obtain ⟨vr1, _, ⟨T1, L1, k1, n1⟩, -, X1, ⟨Lc1, hQ1, l1, y1, z1⟩, st1⟩ := X0.privateBack hx (y := (⟨"com/example/lens_on_archives/lensonarchives/Bytes", "room", "(I)V"⟩ : MethodName)) hown (mvT hZ (hw _ (List.mem_of_getElem? (i := 43) rfl))) (mvT hZ (hw _ (List.mem_of_getElem? (i := 44) rfl))) (own_selP (y := (⟨"com/example/lens_on_archives/lensonarchives/Bytes", "room", "(I)V"⟩ : MethodName)) hZ (hw _ (List.mem_of_getElem? (i := 2) rfl)) (hw _ (List.mem_of_getElem? (i := 45) rfl)) (hw _ (List.mem_of_getElem? (i := 44) rfl)) (by decide)) (Cond.privateMethod_at (mvP hZ (hw _ (List.mem_of_getElem? (i := 45) rfl)) (args := #[]))) (mvT hZ (hw _ (List.mem_of_getElem? (i := 46) rfl))) (by decide) (backOf (W := 0) (rm6 l Z a0 hw [] a (1 : Int32) b n g sz h0 n0 Z0 P0 P1 P2 P3 P4 P5 P6 (by rw [own_s1 P7]; omega)) hZ (hw _ (List.mem_of_getElem? (i := 46) rfl)) (hw _ (List.mem_of_getElem? (i := 3) rfl)) (by decide) (by decide)) (g := (mkF m 2 #[.val (.ref a), .val (.int pv)] [(.int (1 : Int32)), (.ref a)])) rfl (by rw [hml]; rfl) (Steps.refl _) (a := a) (by rw [e0]; exact q1) q1' (argsL := [(.int (1 : Int32))]) (rest := []) (lenOf pd_2 rfl) rfl (by show 2 * 0 + _ ≤ _; exact Nat.le_of_eq rfl) (hb hby d8_2) (fun _ _ => ⟨rfl, e0, (by decide : 0 + 1 ≤ _), (by decide : 0 + 34 ≤ _)⟩)
  dsimp only [Pt.U, Pt.locs, Pt.cells, Pt.slots] at X1 l1 y1 z1 st1 hQ1
  subst l1 y1 z1
  obtain ⟨r2, rfl, Nq1, Kq1, p1_0, p1_1, p1_2, p1_3, p1_4⟩ := hQ1
  have N1 := Fr.app N0 Nq1
  have ne3 : a ≠ r2 := Nat.ne_of_lt (Nat.lt_of_lt_of_le P0.lt p1_0)
  have ne4 : b ≠ r2 := Nat.ne_of_lt (Nat.lt_of_lt_of_le P3.lt p1_0)
  have ge5 : n0 ≤ r2 := Nat.le_trans Z0 p1_0
  have sz6 : h0.size ≤ r2 := Nat.le_trans (Keep.refl h0 [a]).1 p1_0
  have f7 := P0.keep Kq1
  have K8 : Keep h0 T1.heap [a] := (Keep.refl h0 [a]).trans Kq1 (allS (Or.inl (List.mem_of_getElem? (i := 0) rfl)) all0)
  have z9 : n0 ≤ T1.heap.size := Nat.le_trans Z0 Kq1.1
  refine own_step (fun _ κ => st1.trans κ) ?_
  show own_Go _ _ _ _ (T1.setTop (mkF m 5 #[.val (.ref a), .val (.int pv)] []))
  refine own_step (fun _ κ => XS.aloadN X1.here hx rfl (hb hby d8_5) rfl rfl κ) ?_
  show own_Go _ _ _ _ (T1.setTop (mkF m 6 #[.val (.ref a), .val (.int pv)] [(.ref a)]))
  obtain ⟨T10, X10, e10, st10⟩ := getF X1 hx hZ hown (host := "") (Or.inl (hw _ (List.mem_of_getElem? (i := 14) rfl))) Via.refl rfl p1_2 (g := (mkF m 6 #[.val (.ref a), .val (.int pv)] [(.ref a)])) rfl rfl (hb hby d8_6)
  refine own_step st10 ?_
  show own_Go _ _ _ _ (T10.setTop (mkF m 9 #[.val (.ref a), .val (.int pv)] [(.ref r2)]))
  refine own_step (fun _ κ => XS.aloadN X10.here hx rfl (hb hby d8_9) rfl rfl κ) ?_
  show own_Go _ _ _ _ (T10.setTop (mkF m 10 #[.val (.ref a), .val (.int pv)] [(.ref a), (.ref r2)]))
  refine own_step (fun _ κ => XS.dup X10.here hx rfl (hb hby d8_10) rfl rfl κ) ?_
  show own_Go _ _ _ _ (T10.setTop (mkF m 11 #[.val (.ref a), .val (.int pv)] [(.ref a), (.ref a), (.ref r2)]))
  obtain ⟨T11, X11, e11, st11⟩ := getF X10 hx hZ hown (host := "") (Or.inl (hw _ (List.mem_of_getElem? (i := 21) rfl))) Via.refl e10 p1_3 (g := (mkF m 11 #[.val (.ref a), .val (.int pv)] [(.ref a), (.ref a), (.ref r2)])) rfl rfl (hb hby d8_11)
  refine own_step st11 ?_
  show own_Go _ _ _ _ (T11.setTop (mkF m 14 #[.val (.ref a), .val (.int pv)] [(.int sz), (.ref a), (.ref r2)]))
  refine own_step (fun _ κ => XS.dupX1 X11.here hx rfl (hb hby d8_14) rfl rfl rfl κ) ?_
  show own_Go _ _ _ _ (T11.setTop (mkF m 15 #[.val (.ref a), .val (.int pv)] [(.int sz), (.ref a), (.int sz), (.ref r2)]))
  refine own_step (fun _ κ => XS.iconst X11.here hx rfl (hb hby d8_15) κ) ?_
  show own_Go _ _ _ _ (T11.setTop (mkF m 16 #[.val (.ref a), .val (.int pv)] [(.int (1 : Int32)), (.int sz), (.ref a), (.int sz), (.ref r2)]))
  refine own_step (fun _ κ => XS.iadd X11.here hx rfl (hb hby d8_16) rfl κ) ?_
  show own_Go _ _ _ _ (T11.setTop (mkF m 17 #[.val (.ref a), .val (.int pv)] [(.int (sz + (1 : Int32))), (.ref a), (.int sz), (.ref r2)]))
  obtain ⟨T12, h12, X12, e12, W12, st12⟩ := putF X11 hx hZ hown (host := "") (Or.inl (hw _ (List.mem_of_getElem? (i := 21) rfl))) Via.refl e11 p1_3 p1_1 (Or.inl (hw _ (List.mem_of_getElem? (i := 22) rfl))) (hw _ (List.mem_of_getElem? (i := 2) rfl)) (ty := .int) (by decide) rfl rfl (g := (mkF m 17 #[.val (.ref a), .val (.int pv)] [(.int (sz + (1 : Int32))), (.ref a), (.int sz), (.ref r2)])) rfl rfl (hb hby d8_17)
  refine own_step st12 ?_
  have N12 := Fr.snoc X12 N1 P4
  have Fw12 := p1_3.same W12
  have f13 := p1_1.wr W12
  have f14 := p1_2.other W12 (Or.inr (slot_ne (Or.inl (hw _ (List.mem_of_getElem? (i := 15) rfl))) (Or.inl (hw _ (List.mem_of_getElem? (i := 22) rfl))) (by decide) (t := (.array .byte)) (t' := .int) (by decide) (by decide)))
  have f15 := p1_4.other W12 (Ne.symm ne3)
  have K16 : Keep h0 h12 [a] := K8.wr W12 (Or.inl (List.mem_of_getElem? (i := 0) rfl))
  have z17 : n0 ≤ h12.size := Nat.le_trans z9 (Keep.of_wr W12).1
  show own_Go _ _ _ _ (T12.setTop (mkF m 20 #[.val (.ref a), .val (.int pv)] [(.int sz), (.ref r2)]))
  refine own_step (fun _ κ => XS.iloadN X12.here hx rfl (hb hby d8_20) rfl κ) ?_
  show own_Go _ _ _ _ (T12.setTop (mkF m 21 #[.val (.ref a), .val (.int pv)] [(.int pv), (.int sz), (.ref r2)]))
  refine own_step (fun _ κ => XS.i2b X12.here hx rfl (hb hby d8_21) rfl κ) ?_
  show own_Go _ _ _ _ (T12.setTop (mkF m 22 #[.val (.ref a), .val (.int pv)] [(.int (pv.toInt8.toInt32)), (.int sz), (.ref r2)]))
  obtain ⟨cl18, Ar18, Sz18, Nz18, -⟩ := f15.opened
  have hin18 := inb_of (j := sz) Sz18 (own_inb2 P7 (own_grow P6 (by rw [own_s1 P7]; omega)).1)
  obtain ⟨T18, h18, X18, e18, W18, st18⟩ := stB X12 hx hZ e12 Ar18 (j := sz) hin18 (g := (mkF m 22 #[.val (.ref a), .val (.int pv)] [(.int (pv.toInt8.toInt32)), (.int sz), (.ref r2)])) rfl rfl (hb hby d8_22)
  refine own_step st18 ?_
  have N18 := Fr.snoc X18 N12 ge5
  have V18 : own_By Z h18 r2 (own_mx ((2 : Int32) * n) (sz + (1 : Int32))) (own_upd (own_cut g n) sz.toNatClampNeg (pv.toInt8.toInt32).toInt8.toInt32) := f15.set W18 (own_inb2 P7 (own_grow P6 (by rw [own_s1 P7]; omega)).1)
  have f19 := f13.wr W18
  have f20 := f14.other W18 (Or.inl ne3)
  have f21 := Fw12.other W18 (Or.inl ne3)
  have K22 : Keep h0 h18 [a] := K16.wr W18 (Or.inr sz6)
  have z23 : n0 ≤ h18.size := Nat.le_trans z17 (Keep.of_wr W18).1
  show own_Go _ _ _ _ (T18.setTop (mkF m 23 #[.val (.ref a), .val (.int pv)] []))
  obtain ⟨fs, hr, hrun, hended, hW, hsame⟩ := X18.leave (v := none) (fun _ => rfl)
  refine ⟨_, _, X18.returnOut hx Bd.returns (hb hby d8_23) hr, hrun, hended, _, _, rfl, ?_, ⟨_, rfl⟩, hW, hsame.mono (by decide) (by decide)⟩
  show Q8 Z a pv b n g sz h0 n0 _ T18.heap _
  rw [e18]
  exact ⟨r2, rfl, N18, K22, sz6, f19, f20, f21, V18⟩
theorem d9_0 : decode prog_1_method_4_code 0 = .ok (.aload_n 0, 1) := by decide +kernel
theorem d9_1 : decode prog_1_method_4_code 1 = .ok (.aload_n 1, 1) := by decide +kernel
theorem d9_2 : decode prog_1_method_4_code 2 = .ok (.arraylength, 1) := by decide +kernel
theorem d9_3 : decode prog_1_method_4_code 3 = .ok (.invokevirtual 23, 3) := by decide +kernel
theorem d9_6 : decode prog_1_method_4_code 6 = .ok (.aload_n 1, 1) := by decide +kernel
theorem d9_7 : decode prog_1_method_4_code 7 = .ok (.iconst 0, 1) := by decide +kernel
theorem d9_8 : decode prog_1_method_4_code 8 = .ok (.aload_n 0, 1) := by decide +kernel
theorem d9_9 : decode prog_1_method_4_code 9 = .ok (.getfield 13, 3) := by decide +kernel
theorem d9_12 : decode prog_1_method_4_code 12 = .ok (.aload_n 0, 1) := by decide +kernel
theorem d9_13 : decode prog_1_method_4_code 13 = .ok (.getfield 19, 3) := by decide +kernel
theorem d9_16 : decode prog_1_method_4_code 16 = .ok (.aload_n 1, 1) := by decide +kernel
theorem d9_17 : decode prog_1_method_4_code 17 = .ok (.arraylength, 1) := by decide +kernel
theorem d9_18 : decode prog_1_method_4_code 18 = .ok (.invokestatic 27, 3) := by decide +kernel
theorem d9_21 : decode prog_1_method_4_code 21 = .ok (.aload_n 0, 1) := by decide +kernel
theorem d9_22 : decode prog_1_method_4_code 22 = .ok (.dup, 1) := by decide +kernel
theorem d9_23 : decode prog_1_method_4_code 23 = .ok (.getfield 19, 3) := by decide +kernel
theorem d9_26 : decode prog_1_method_4_code 26 = .ok (.aload_n 1, 1) := by decide +kernel
theorem d9_27 : decode prog_1_method_4_code 27 = .ok (.arraylength, 1) := by decide +kernel
theorem d9_28 : decode prog_1_method_4_code 28 = .ok (.iadd, 1) := by decide +kernel
theorem d9_29 : decode prog_1_method_4_code 29 = .ok (.putfield 19, 3) := by decide +kernel
theorem d9_32 : decode prog_1_method_4_code 32 = .ok (.return_, 1) := by decide +kernel
theorem ef_9 (m : MethodId) (a : Addr) (pd : Addr) : entryFrame m #[(.ref a), (.ref pd)] 2 = mkF m 0 #[.val (.ref a), .val (.ref pd)] [] := by first | (simp [entryFrame, mkF, argsToLocals, Value.category]; done) | rfl
def Q9 (Z : State) (a : Addr) (pd : Addr) (b : Addr) (n : Int32) (h0 : Heap) (n0 : Nat) (v : Option Value) (h : Heap) (L : List Loc) : Prop := v = none ∧ Fr n0 L ∧ Keep h0 h [a, b] ∧ (Exa Z h a "com/example/lens_on_archives/lensonarchives/Bytes") ∧ (Fld Z h a "com/example/lens_on_archives/lensonarchives/Bytes" "bytes" "[B" (.ref b)) ∧ (Fld Z h a "com/example/lens_on_archives/lensonarchives/Bytes" "size" "I" (.int (15 : Int32))) ∧ (own_By Z h b n own_zero)
set_option maxRecDepth 65536 in
set_option maxHeartbeats 40000000 in
theorem rm9 (l : Launch) (Z : State) (a0 : Array Value) (hw : ∀ d ∈ tables_1, d.before a0 Z = true) (ws : List Jvm.Cond) (a : Addr) (pd : Addr) (b : Addr) (n : Int32) (h0 : Heap) (n0 : Nat) (Z0 : n0 ≤ h0.size) (P0 : Exa Z h0 a "com/example/lens_on_archives/lensonarchives/Bytes") (P1 : Fld Z h0 a "com/example/lens_on_archives/lensonarchives/Bytes" "bytes" "[B" (.ref b)) (P2 : Fld Z h0 a "com/example/lens_on_archives/lensonarchives/Bytes" "size" "I" (.int (0 : Int32))) (P3 : own_By Z h0 b n own_zero) (P4 : own_By Z h0 pd (15 : Int32) own_zero) (P5 : n0 ≤ a) (P6 : n0 ≤ b) (P7 : a ≠ b) (P8 : (0 : Int32).toNatClampNeg + (15 : Int32).toNatClampNeg ≤ n.toNatClampNeg) (P9 : ¬ n < ((0 : Int32) + (15 : Int32))) (P10 : pd ≠ b) :
    MetFree l (⟨"com/example/lens_on_archives/lensonarchives/Bytes", "write", "([B)V"⟩ : MethodName) (head1 (Jvm.Cond.code (⟨"com/example/lens_on_archives/lensonarchives/Bytes", "write", "([B)V"⟩ : MethodName) prog_1_method_4_code 2 none :: ws) ({ frames := 1, cells := 0, slots := 0, locals := 40 } : Room)) (fun ar_ U => ar_ = #[(.ref a), (.ref pd)] ∧ Z.Warmed39 U.vm ∧ U.heap = h0) (fun _ _ _ _ _ => True) (fun _ U oo_ U' => ∃ v L, oo_ = .returned v ∧ Q9 Z a pd b n h0 n0 v U'.heap L ∧ FrameEnd U oo_ U' L ({ frames := 1, cells := 0, slots := 0, locals := 40 } : Room).cells ({ frames := 1, cells := 0, slots := 0, locals := 40 } : Room).slots) := by
  refine MetFree.of_bodySF (plainFor_of_name pn_1) hisR ?_
  intro p e s m args below meth c s₁ Bd hml0 hP hK
  obtain ⟨rfl, hZ, hh⟩ := hP
  have hx := Bd.exec
  have hby := Bd.bytes
  have hml : c.maxLocals = 2 := hml0
  have hown : s.vm.findClass "com/example/lens_on_archives/lensonarchives/Bytes" = some m.cls := findClass_of_methodNamed Bd.named
  have hnm := (name_of_methodNamed Bd.named Bd.method).1
  have X0 : Stand p l e ({ frames := 1, cells := 0, slots := 0, locals := 40 } : Room) s m #[(.ref a), (.ref pd)] below meth c s₁ [] 0 0 := Stand.of_body Bd
  have e0 : s₁.heap = h0 := by rw [← hh, Bd.state]; rfl
  have N0 := Fr.nil n0
  refine own_in (castTop (ef_9 m a pd)) ?_
  show own_Go _ _ _ _ (s₁.setTop (mkF m 0 #[.val (.ref a), .val (.ref pd)] []))
  refine own_step (fun _ κ => XS.aloadN X0.here hx rfl (hb hby d9_0) rfl rfl κ) ?_
  show own_Go _ _ _ _ (s₁.setTop (mkF m 1 #[.val (.ref a), .val (.ref pd)] [(.ref a)]))
  refine own_step (fun _ κ => XS.aloadN X0.here hx rfl (hb hby d9_1) rfl rfl κ) ?_
  show own_Go _ _ _ _ (s₁.setTop (mkF m 2 #[.val (.ref a), .val (.ref pd)] [(.ref pd), (.ref a)]))
  obtain ⟨cl1, Ar1, Sz1, Nz1, -⟩ := P4.opened
  refine own_step (fun _ κ => X0.arraylength hx (by rw [e0]; exact Ar1.1) (State.isArrayOf_alike hZ.alike Ar1.2.1) (g := (mkF m 2 #[.val (.ref a), .val (.ref pd)] [(.ref pd), (.ref a)])) rfl rfl (hb hby d9_2) _ κ) ?_
  rw [len_of Sz1 Nz1]
  show own_Go _ _ _ _ (s₁.setTop (mkF m 3 #[.val (.ref a), .val (.ref pd)] [(.int (15 : Int32)), (.ref a)]))
  obtain ⟨cq2, q2, q2'⟩ := P0.cell
  obtain ⟨vr2, _, ⟨T2, L2, k2, n2⟩, -, X2, ⟨Lc2, hQ2, l2, y2, z2⟩, st2⟩ := X0.privateBack hx (y := (⟨"com/example/lens_on_archives/lensonarchives/Bytes", "room", "(I)V"⟩ : MethodName)) hown (mvT hZ (hw _ (List.mem_of_getElem? (i := 43) rfl))) (mvT hZ (hw _ (List.mem_of_getElem? (i := 44) rfl))) (own_selP (y := (⟨"com/example/lens_on_archives/lensonarchives/Bytes", "room", "(I)V"⟩ : MethodName)) hZ (hw _ (List.mem_of_getElem? (i := 2) rfl)) (hw _ (List.mem_of_getElem? (i := 45) rfl)) (hw _ (List.mem_of_getElem? (i := 44) rfl)) (by decide)) (Cond.privateMethod_at (mvP hZ (hw _ (List.mem_of_getElem? (i := 45) rfl)) (args := #[]))) (mvT hZ (hw _ (List.mem_of_getElem? (i := 46) rfl))) (by decide) (backOf (W := 0) (rm5 l Z a0 hw [] a (15 : Int32) b n own_zero (0 : Int32) h0 n0 Z0 P1 P2 P3 P9) hZ (hw _ (List.mem_of_getElem? (i := 46) rfl)) (hw _ (List.mem_of_getElem? (i := 3) rfl)) (by decide) (by decide)) (g := (mkF m 3 #[.val (.ref a), .val (.ref pd)] [(.int (15 : Int32)), (.ref a)])) rfl (by rw [hml]; rfl) (Steps.refl _) (a := a) (by rw [e0]; exact q2) q2' (argsL := [(.int (15 : Int32))]) (rest := []) (lenOf pd_2 rfl) rfl (by show 2 * 0 + _ ≤ _; exact Nat.le_of_eq rfl) (hb hby d9_3) (fun _ _ => ⟨rfl, e0, (by decide : 0 + 0 ≤ _), (by decide : 0 + 0 ≤ _)⟩)
  dsimp only [Pt.U, Pt.locs, Pt.cells, Pt.slots] at X2 l2 y2 z2 st2 hQ2
  subst l2 y2 z2
  obtain ⟨rfl, Nq2, eq2⟩ := hQ2
  have N2 := Fr.app N0 Nq2
  refine own_step (fun _ κ => st2.trans κ) ?_
  show own_Go _ _ _ _ (T2.setTop (mkF m 6 #[.val (.ref a), .val (.ref pd)] []))
  refine own_step (fun _ κ => XS.aloadN X2.here hx rfl (hb hby d9_6) rfl rfl κ) ?_
  show own_Go _ _ _ _ (T2.setTop (mkF m 7 #[.val (.ref a), .val (.ref pd)] [(.ref pd)]))
  refine own_step (fun _ κ => XS.iconst X2.here hx rfl (hb hby d9_7) κ) ?_
  show own_Go _ _ _ _ (T2.setTop (mkF m 8 #[.val (.ref a), .val (.ref pd)] [(.int (0 : Int32)), (.ref pd)]))
  refine own_step (fun _ κ => XS.aloadN X2.here hx rfl (hb hby d9_8) rfl rfl κ) ?_
  show own_Go _ _ _ _ (T2.setTop (mkF m 9 #[.val (.ref a), .val (.ref pd)] [(.ref a), (.int (0 : Int32)), (.ref pd)]))
  obtain ⟨T3, X3, e3, st3⟩ := getF X2 hx hZ hown (host := "") (Or.inl (hw _ (List.mem_of_getElem? (i := 14) rfl))) Via.refl eq2 P1 (g := (mkF m 9 #[.val (.ref a), .val (.ref pd)] [(.ref a), (.int (0 : Int32)), (.ref pd)])) rfl rfl (hb hby d9_9)
  refine own_step st3 ?_
  show own_Go _ _ _ _ (T3.setTop (mkF m 12 #[.val (.ref a), .val (.ref pd)] [(.ref b), (.int (0 : Int32)), (.ref pd)]))
  refine own_step (fun _ κ => XS.aloadN X3.here hx rfl (hb hby d9_12) rfl rfl κ) ?_
  show own_Go _ _ _ _ (T3.setTop (mkF m 13 #[.val (.ref a), .val (.ref pd)] [(.ref a), (.ref b), (.int (0 : Int32)), (.ref pd)]))
  obtain ⟨T4, X4, e4, st4⟩ := getF X3 hx hZ hown (host := "") (Or.inl (hw _ (List.mem_of_getElem? (i := 21) rfl))) Via.refl e3 P2 (g := (mkF m 13 #[.val (.ref a), .val (.ref pd)] [(.ref a), (.ref b), (.int (0 : Int32)), (.ref pd)])) rfl rfl (hb hby d9_13)
  refine own_step st4 ?_
  show own_Go _ _ _ _ (T4.setTop (mkF m 16 #[.val (.ref a), .val (.ref pd)] [(.int (0 : Int32)), (.ref b), (.int (0 : Int32)), (.ref pd)]))
  refine own_step (fun _ κ => XS.aloadN X4.here hx rfl (hb hby d9_16) rfl rfl κ) ?_
  show own_Go _ _ _ _ (T4.setTop (mkF m 17 #[.val (.ref a), .val (.ref pd)] [(.ref pd), (.int (0 : Int32)), (.ref b), (.int (0 : Int32)), (.ref pd)]))
  obtain ⟨cl5, Ar5, Sz5, Nz5, -⟩ := P4.opened
  refine own_step (fun _ κ => X4.arraylength hx (by rw [e4]; exact Ar5.1) (State.isArrayOf_alike hZ.alike Ar5.2.1) (g := (mkF m 17 #[.val (.ref a), .val (.ref pd)] [(.ref pd), (.int (0 : Int32)), (.ref b), (.int (0 : Int32)), (.ref pd)])) rfl rfl (hb hby d9_17) _ κ) ?_
  rw [len_of Sz5 Nz5]
  show own_Go _ _ _ _ (T4.setTop (mkF m 18 #[.val (.ref a), .val (.ref pd)] [(.int (15 : Int32)), (.int (0 : Int32)), (.ref b), (.int (0 : Int32)), (.ref pd)]))
  obtain ⟨T6, h6, L6, X6, e6, N6, K6, V6, st6⟩ := own_copy X4 hx hZ hown (hw _ (List.mem_of_getElem? (i := 47) rfl)) (hw _ (List.mem_of_getElem? (i := 33) rfl)) (hw _ (List.mem_of_getElem? (i := 31) rfl)) (hw _ (List.mem_of_getElem? (i := 32) rfl)) e4 (sp := (0 : Int32)) (dp := (0 : Int32)) (nn := (15 : Int32)) P4 P3 (by decide) (by decide) (by decide) (by decide) P8 N2 P6 (g := (mkF m 18 #[.val (.ref a), .val (.ref pd)] [(.int (15 : Int32)), (.int (0 : Int32)), (.ref b), (.int (0 : Int32)), (.ref pd)])) rfl (by rw [hml]; rfl) rfl (hb hby d9_18) (by decide) (W := 0) (by show 2 * 0 + _ ≤ _; exact Nat.le_of_eq rfl) (by decide)
  refine own_step st6 ?_
  have f7 := P0.keep K6
  have f8 := P1.keep K6 (ninS P7 nin0)
  have f9 := P2.keep K6 (ninS P7 nin0)
  have f10 := P4.keep K6 (ninS P10 nin0)
  have K11 : Keep h0 h6 [a, b] := (Keep.refl h0 [a, b]).trans K6 (allS (Or.inl (List.mem_of_getElem? (i := 1) rfl)) all0)
  have z12 : n0 ≤ h6.size := Nat.le_trans Z0 K6.1
  have Vc6 : own_By Z h6 b n own_zero := V6.congr (fun i hi => by simp [own_ac, own_zero])
  show own_Go _ _ _ _ (T6.setTop (mkF m 21 #[.val (.ref a), .val (.ref pd)] []))
  refine own_step (fun _ κ => XS.aloadN X6.here hx rfl (hb hby d9_21) rfl rfl κ) ?_
  show own_Go _ _ _ _ (T6.setTop (mkF m 22 #[.val (.ref a), .val (.ref pd)] [(.ref a)]))
  refine own_step (fun _ κ => XS.dup X6.here hx rfl (hb hby d9_22) rfl rfl κ) ?_
  show own_Go _ _ _ _ (T6.setTop (mkF m 23 #[.val (.ref a), .val (.ref pd)] [(.ref a), (.ref a)]))
  obtain ⟨T13, X13, e13, st13⟩ := getF X6 hx hZ hown (host := "") (Or.inl (hw _ (List.mem_of_getElem? (i := 21) rfl))) Via.refl e6 f9 (g := (mkF m 23 #[.val (.ref a), .val (.ref pd)] [(.ref a), (.ref a)])) rfl rfl (hb hby d9_23)
  refine own_step st13 ?_
  show own_Go _ _ _ _ (T13.setTop (mkF m 26 #[.val (.ref a), .val (.ref pd)] [(.int (0 : Int32)), (.ref a)]))
  refine own_step (fun _ κ => XS.aloadN X13.here hx rfl (hb hby d9_26) rfl rfl κ) ?_
  show own_Go _ _ _ _ (T13.setTop (mkF m 27 #[.val (.ref a), .val (.ref pd)] [(.ref pd), (.int (0 : Int32)), (.ref a)]))
  obtain ⟨cl14, Ar14, Sz14, Nz14, -⟩ := f10.opened
  refine own_step (fun _ κ => X13.arraylength hx (by rw [e13]; exact Ar14.1) (State.isArrayOf_alike hZ.alike Ar14.2.1) (g := (mkF m 27 #[.val (.ref a), .val (.ref pd)] [(.ref pd), (.int (0 : Int32)), (.ref a)])) rfl rfl (hb hby d9_27) _ κ) ?_
  rw [len_of Sz14 Nz14]
  show own_Go _ _ _ _ (T13.setTop (mkF m 28 #[.val (.ref a), .val (.ref pd)] [(.int (15 : Int32)), (.int (0 : Int32)), (.ref a)]))
  refine own_step (fun _ κ => XS.iadd X13.here hx rfl (hb hby d9_28) rfl κ) ?_
  show own_Go _ _ _ _ (T13.setTop (mkF m 29 #[.val (.ref a), .val (.ref pd)] [(.int ((0 : Int32) + (15 : Int32))), (.ref a)]))
  obtain ⟨T15, h15, X15, e15, W15, st15⟩ := putF X13 hx hZ hown (host := "") (Or.inl (hw _ (List.mem_of_getElem? (i := 21) rfl))) Via.refl e13 f9 f7 (Or.inl (hw _ (List.mem_of_getElem? (i := 22) rfl))) (hw _ (List.mem_of_getElem? (i := 2) rfl)) (ty := .int) (by decide) rfl rfl (g := (mkF m 29 #[.val (.ref a), .val (.ref pd)] [(.int ((0 : Int32) + (15 : Int32))), (.ref a)])) rfl rfl (hb hby d9_29)
  refine own_step st15 ?_
  have N15 := Fr.snoc X15 N6 P5
  have Fw15 := f9.same W15
  have f16 := f7.wr W15
  have f17 := f8.other W15 (Or.inr (slot_ne (Or.inl (hw _ (List.mem_of_getElem? (i := 15) rfl))) (Or.inl (hw _ (List.mem_of_getElem? (i := 22) rfl))) (by decide) (t := (.array .byte)) (t' := .int) (by decide) (by decide)))
  have f18 := Vc6.other W15 (Ne.symm P7)
  have K19 : Keep h0 h15 [a, b] := K11.wr W15 (Or.inl (List.mem_of_getElem? (i := 0) rfl))
  have z20 : n0 ≤ h15.size := Nat.le_trans z12 (Keep.of_wr W15).1
  show own_Go _ _ _ _ (T15.setTop (mkF m 32 #[.val (.ref a), .val (.ref pd)] []))
  obtain ⟨fs, hr, hrun, hended, hW, hsame⟩ := X15.leave (v := none) (fun _ => rfl)
  refine ⟨_, _, X15.returnOut hx Bd.returns (hb hby d9_32) hr, hrun, hended, _, _, rfl, ?_, ⟨_, rfl⟩, hW, hsame.mono (by decide) (by decide)⟩
  show Q9 Z a pd b n h0 n0 _ T15.heap _
  rw [e15]
  exact ⟨rfl, N15, K19, f16, f17, Fw15, f18⟩
theorem d10_0 : decode prog_1_method_6_code 0 = .ok (.aload_n 0, 1) := by decide +kernel
theorem d10_1 : decode prog_1_method_6_code 1 = .ok (.iload_n 1, 1) := by decide +kernel
theorem d10_2 : decode prog_1_method_6_code 2 = .ok (.putfield 19, 3) := by decide +kernel
theorem d10_5 : decode prog_1_method_6_code 5 = .ok (.return_, 1) := by decide +kernel
theorem ef_10 (m : MethodId) (a : Addr) (pk : Int32) : entryFrame m #[(.ref a), (.int pk)] 2 = mkF m 0 #[.val (.ref a), .val (.int pk)] [] := by first | (simp [entryFrame, mkF, argsToLocals, Value.category]; done) | rfl
def Q10 (Z : State) (a : Addr) (pk : Int32) (b : Addr) (sz : Int32) (h0 : Heap) (n0 : Nat) (v : Option Value) (h : Heap) (L : List Loc) : Prop := v = none ∧ Fr n0 L ∧ Keep h0 h [a] ∧ (Exa Z h a "com/example/lens_on_archives/lensonarchives/Bytes") ∧ (Fld Z h a "com/example/lens_on_archives/lensonarchives/Bytes" "bytes" "[B" (.ref b)) ∧ (Fld Z h a "com/example/lens_on_archives/lensonarchives/Bytes" "size" "I" (.int pk))
set_option maxRecDepth 65536 in
set_option maxHeartbeats 40000000 in
theorem rm10 (l : Launch) (Z : State) (a0 : Array Value) (hw : ∀ d ∈ tables_1, d.before a0 Z = true) (ws : List Jvm.Cond) (a : Addr) (pk : Int32) (b : Addr) (sz : Int32) (h0 : Heap) (n0 : Nat) (Z0 : n0 ≤ h0.size) (P0 : Exa Z h0 a "com/example/lens_on_archives/lensonarchives/Bytes") (P1 : Fld Z h0 a "com/example/lens_on_archives/lensonarchives/Bytes" "bytes" "[B" (.ref b)) (P2 : Fld Z h0 a "com/example/lens_on_archives/lensonarchives/Bytes" "size" "I" (.int sz)) (P3 : n0 ≤ a) :
    MetFree l (⟨"com/example/lens_on_archives/lensonarchives/Bytes", "truncate", "(I)V"⟩ : MethodName) (head1 (Jvm.Cond.code (⟨"com/example/lens_on_archives/lensonarchives/Bytes", "truncate", "(I)V"⟩ : MethodName) prog_1_method_6_code 2 none :: ws) ({ frames := 0, cells := 0, slots := 0, locals := 0 } : Room)) (fun ar_ U => ar_ = #[(.ref a), (.int pk)] ∧ Z.Warmed39 U.vm ∧ U.heap = h0) (fun _ _ _ _ _ => True) (fun _ U oo_ U' => ∃ v L, oo_ = .returned v ∧ Q10 Z a pk b sz h0 n0 v U'.heap L ∧ FrameEnd U oo_ U' L ({ frames := 0, cells := 0, slots := 0, locals := 0 } : Room).cells ({ frames := 0, cells := 0, slots := 0, locals := 0 } : Room).slots) := by
  refine MetFree.of_bodySF (plainFor_of_name pn_1) hisR ?_
  intro p e s m args below meth c s₁ Bd hml0 hP hK
  obtain ⟨rfl, hZ, hh⟩ := hP
  have hx := Bd.exec
  have hby := Bd.bytes
  have hml : c.maxLocals = 2 := hml0
  have hown : s.vm.findClass "com/example/lens_on_archives/lensonarchives/Bytes" = some m.cls := findClass_of_methodNamed Bd.named
  have hnm := (name_of_methodNamed Bd.named Bd.method).1
  have X0 : Stand p l e ({ frames := 0, cells := 0, slots := 0, locals := 0 } : Room) s m #[(.ref a), (.int pk)] below meth c s₁ [] 0 0 := Stand.of_body Bd
  have e0 : s₁.heap = h0 := by rw [← hh, Bd.state]; rfl
  have N0 := Fr.nil n0
  refine own_in (castTop (ef_10 m a pk)) ?_
  show own_Go _ _ _ _ (s₁.setTop (mkF m 0 #[.val (.ref a), .val (.int pk)] []))
  refine own_step (fun _ κ => XS.aloadN X0.here hx rfl (hb hby d10_0) rfl rfl κ) ?_
  show own_Go _ _ _ _ (s₁.setTop (mkF m 1 #[.val (.ref a), .val (.int pk)] [(.ref a)]))
  refine own_step (fun _ κ => XS.iloadN X0.here hx rfl (hb hby d10_1) rfl κ) ?_
  show own_Go _ _ _ _ (s₁.setTop (mkF m 2 #[.val (.ref a), .val (.int pk)] [(.int pk), (.ref a)]))
  obtain ⟨T1, h1, X1, e1, W1, st1⟩ := putF X0 hx hZ hown (host := "") (Or.inl (hw _ (List.mem_of_getElem? (i := 21) rfl))) Via.refl e0 P2 P0 (Or.inl (hw _ (List.mem_of_getElem? (i := 22) rfl))) (hw _ (List.mem_of_getElem? (i := 2) rfl)) (ty := .int) (by decide) rfl rfl (g := (mkF m 2 #[.val (.ref a), .val (.int pk)] [(.int pk), (.ref a)])) rfl rfl (hb hby d10_2)
  refine own_step st1 ?_
  have N1 := Fr.snoc X1 N0 P3
  have Fw1 := P2.same W1
  have f2 := P0.wr W1
  have f3 := P1.other W1 (Or.inr (slot_ne (Or.inl (hw _ (List.mem_of_getElem? (i := 15) rfl))) (Or.inl (hw _ (List.mem_of_getElem? (i := 22) rfl))) (by decide) (t := (.array .byte)) (t' := .int) (by decide) (by decide)))
  have K4 : Keep h0 h1 [a] := (Keep.refl h0 [a]).wr W1 (Or.inl (List.mem_of_getElem? (i := 0) rfl))
  have z5 : n0 ≤ h1.size := Nat.le_trans Z0 (Keep.of_wr W1).1
  show own_Go _ _ _ _ (T1.setTop (mkF m 5 #[.val (.ref a), .val (.int pk)] []))
  obtain ⟨fs, hr, hrun, hended, hW, hsame⟩ := X1.leave (v := none) (fun _ => rfl)
  refine ⟨_, _, X1.returnOut hx Bd.returns (hb hby d10_5) hr, hrun, hended, _, _, rfl, ?_, ⟨_, rfl⟩, hW, hsame.mono (by decide) (by decide)⟩
  show Q10 Z a pk b sz h0 n0 _ T1.heap _
  rw [e1]
  exact ⟨rfl, N1, K4, f2, f3, Fw1⟩
theorem d11_0 : decode prog_1_method_7_code 0 = .ok (.aload_n 0, 1) := by decide +kernel
theorem d11_1 : decode prog_1_method_7_code 1 = .ok (.getfield 13, 3) := by decide +kernel
theorem d11_4 : decode prog_1_method_7_code 4 = .ok (.aload_n 0, 1) := by decide +kernel
theorem d11_5 : decode prog_1_method_7_code 5 = .ok (.getfield 19, 3) := by decide +kernel
theorem d11_8 : decode prog_1_method_7_code 8 = .ok (.invokestatic 40, 3) := by decide +kernel
theorem d11_11 : decode prog_1_method_7_code 11 = .ok (.areturn, 1) := by decide +kernel
theorem ef_11 (m : MethodId) (a : Addr) : entryFrame m #[(.ref a)] 1 = mkF m 0 #[.val (.ref a)] [] := by first | (simp [entryFrame, mkF, argsToLocals, Value.category]; done) | rfl
def Q11 (Z : State) (a : Addr) (b : Addr) (n : Int32) (g : Nat → Int32) (sz : Int32) (h0 : Heap) (n0 : Nat) (v : Option Value) (h : Heap) (L : List Loc) : Prop := ∃ r : Addr, v = some (.ref r) ∧ Fr n0 L ∧ Keep h0 h [] ∧ (h0.size ≤ r) ∧ (own_By Z h r sz (own_cut g n))
set_option maxRecDepth 65536 in
set_option maxHeartbeats 40000000 in
theorem rm11 (l : Launch) (Z : State) (a0 : Array Value) (hw : ∀ d ∈ tables_1, d.before a0 Z = true) (ws : List Jvm.Cond) (a : Addr) (b : Addr) (n : Int32) (g : Nat → Int32) (sz : Int32) (h0 : Heap) (n0 : Nat) (Z0 : n0 ≤ h0.size) (P0 : Fld Z h0 a "com/example/lens_on_archives/lensonarchives/Bytes" "bytes" "[B" (.ref b)) (P1 : Fld Z h0 a "com/example/lens_on_archives/lensonarchives/Bytes" "size" "I" (.int sz)) (P2 : own_By Z h0 b n g) (P3 : ¬ sz < (0 : Int32)) (P4 : ¬ (34 : Int32) < sz) :
    MetFree l (⟨"com/example/lens_on_archives/lensonarchives/Bytes", "toArray", "()[B"⟩ : MethodName) (head1 (Jvm.Cond.code (⟨"com/example/lens_on_archives/lensonarchives/Bytes", "toArray", "()[B"⟩ : MethodName) prog_1_method_7_code 1 (some (.array .byte)) :: ws) ({ frames := 2, cells := 1, slots := 34, locals := 54 } : Room)) (fun ar_ U => ar_ = #[(.ref a)] ∧ Z.Warmed39 U.vm ∧ U.heap = h0) (fun _ _ _ _ _ => True) (fun _ U oo_ U' => ∃ v L, oo_ = .returned v ∧ Q11 Z a b n g sz h0 n0 v U'.heap L ∧ FrameEnd U oo_ U' L ({ frames := 2, cells := 1, slots := 34, locals := 54 } : Room).cells ({ frames := 2, cells := 1, slots := 34, locals := 54 } : Room).slots) := by
  refine MetFree.of_bodySF (plainFor_of_name pn_1) hisR ?_
  intro p e s m args below meth c s₁ Bd hml0 hP hK
  obtain ⟨rfl, hZ, hh⟩ := hP
  have hx := Bd.exec
  have hby := Bd.bytes
  have hml : c.maxLocals = 1 := hml0
  have hown : s.vm.findClass "com/example/lens_on_archives/lensonarchives/Bytes" = some m.cls := findClass_of_methodNamed Bd.named
  have hnm := (name_of_methodNamed Bd.named Bd.method).1
  have X0 : Stand p l e ({ frames := 2, cells := 1, slots := 34, locals := 54 } : Room) s m #[(.ref a)] below meth c s₁ [] 0 0 := Stand.of_body Bd
  have e0 : s₁.heap = h0 := by rw [← hh, Bd.state]; rfl
  have N0 := Fr.nil n0
  refine own_in (castTop (ef_11 m a)) ?_
  show own_Go _ _ _ _ (s₁.setTop (mkF m 0 #[.val (.ref a)] []))
  refine own_step (fun _ κ => XS.aloadN X0.here hx rfl (hb hby d11_0) rfl rfl κ) ?_
  show own_Go _ _ _ _ (s₁.setTop (mkF m 1 #[.val (.ref a)] [(.ref a)]))
  obtain ⟨T1, X1, e1, st1⟩ := getF X0 hx hZ hown (host := "") (Or.inl (hw _ (List.mem_of_getElem? (i := 14) rfl))) Via.refl e0 P0 (g := (mkF m 1 #[.val (.ref a)] [(.ref a)])) rfl rfl (hb hby d11_1)
  refine own_step st1 ?_
  show own_Go _ _ _ _ (T1.setTop (mkF m 4 #[.val (.ref a)] [(.ref b)]))
  refine own_step (fun _ κ => XS.aloadN X1.here hx rfl (hb hby d11_4) rfl rfl κ) ?_
  show own_Go _ _ _ _ (T1.setTop (mkF m 5 #[.val (.ref a)] [(.ref a), (.ref b)]))
  obtain ⟨T2, X2, e2, st2⟩ := getF X1 hx hZ hown (host := "") (Or.inl (hw _ (List.mem_of_getElem? (i := 21) rfl))) Via.refl e1 P1 (g := (mkF m 5 #[.val (.ref a)] [(.ref a), (.ref b)])) rfl rfl (hb hby d11_5)
  refine own_step st2 ?_
  show own_Go _ _ _ _ (T2.setTop (mkF m 8 #[.val (.ref a)] [(.int sz), (.ref b)]))
  obtain ⟨vr3, _, ⟨T3, L3, k3, n3⟩, -, X3, ⟨Lc3, hQ3, l3, y3, z3⟩, st3⟩ := Jvm.LawKit.callS X2 hx (y := (⟨"java/util/Arrays", "copyOf", "([BI)[B"⟩ : MethodName)) hown (mvT hZ (hw _ (List.mem_of_getElem? (i := 23) rfl))) (mvT hZ (hw _ (List.mem_of_getElem? (i := 24) rfl))) (mvT hZ (hw _ (List.mem_of_getElem? (i := 25) rfl))) (mvT hZ (hw _ (List.mem_of_getElem? (i := 26) rfl))) (by decide) (backOf (W := 0) (rm3 l Z a0 hw [] b sz n g h0 n0 Z0 P2 P3 P4) hZ (hw _ (List.mem_of_getElem? (i := 26) rfl)) (hw _ (List.mem_of_getElem? (i := 25) rfl)) (by decide) (by decide)) (g := (mkF m 8 #[.val (.ref a)] [(.int sz), (.ref b)])) rfl (by rw [hml]; rfl) (argsL := [(.ref b), (.int sz)]) (rest := []) (lenOf pd_1 rfl) rfl (by show 2 * 0 + _ ≤ _; exact Nat.le_of_eq rfl) (hb hby d11_8) (fun _ _ => ⟨rfl, e2, (by decide : 0 + 1 ≤ _), (by decide : 0 + 34 ≤ _)⟩)
  dsimp only [Pt.U, Pt.locs, Pt.cells, Pt.slots] at X3 l3 y3 z3 st3 hQ3
  subst l3 y3 z3
  obtain ⟨r4, rfl, Nq3, Kq3, p3_0, p3_1⟩ := hQ3
  have N3 := Fr.app N0 Nq3
  have ne5 : a ≠ r4 := Nat.ne_of_lt (Nat.lt_of_lt_of_le P0.lt p3_0)
  have ne6 : b ≠ r4 := Nat.ne_of_lt (Nat.lt_of_lt_of_le P2.lt p3_0)
  have ge7 : n0 ≤ r4 := Nat.le_trans Z0 p3_0
  have sz8 : h0.size ≤ r4 := Nat.le_trans (Keep.refl h0 []).1 p3_0
  have f9 := P0.keep Kq3 nin0
  have f10 := P1.keep Kq3 nin0
  have f11 := P2.keep Kq3 nin0
  have K12 : Keep h0 T3.heap [] := (Keep.refl h0 []).trans Kq3 all0
  have z13 : n0 ≤ T3.heap.size := Nat.le_trans Z0 Kq3.1
  refine own_step st3 ?_
  show own_Go _ _ _ _ (T3.setTop (mkF m 11 #[.val (.ref a)] [(.ref r4)]))
  obtain ⟨fs, hr, hrun, hended, hW, hsame⟩ := X3.leave (v := some (.ref r4)) (fun h => by rw [Bd.returns] at h; cases h)
  refine ⟨_, _, retOut X3 hx Bd.returns rfl (Or.inr (Or.inr (Or.inr (Or.inr ⟨rfl, rfl, rfl⟩)))) (hb hby d11_11) hr, hrun, hended, _, _, rfl, ?_, ⟨_, rfl⟩, hW, hsame.mono (by decide) (by decide)⟩
  show Q11 Z a b n g sz h0 n0 _ T3.heap _
  skip
  exact ⟨r4, rfl, N3, K12, sz8, p3_1⟩
theorem d12_0 : decode method_2_code 0 = .ok (.iload 4, 2) := by decide +kernel
theorem d12_2 : decode method_2_code 2 = .ok (.iload_n 0, 1) := by decide +kernel
theorem d12_3 : decode method_2_code 3 = .ok (.if_icmp .ge 5, 3) := by decide +kernel
theorem d12_6 : decode method_2_code 6 = .ok (.iconst 0, 1) := by decide +kernel
theorem d12_7 : decode method_2_code 7 = .ok (.ireturn, 1) := by decide +kernel
theorem d12_8 : decode method_2_code 8 = .ok (.iload 4, 2) := by decide +kernel
theorem d12_10 : decode method_2_code 10 = .ok (.iload_n 0, 1) := by decide +kernel
theorem d12_11 : decode method_2_code 11 = .ok (.if_icmp .ne 6, 3) := by decide +kernel
theorem d12_14 : decode method_2_code 14 = .ok (.iload_n 1, 1) := by decide +kernel
theorem d12_15 : decode method_2_code 15 = .ok (.i2b, 1) := by decide +kernel
theorem d12_16 : decode method_2_code 16 = .ok (.ireturn, 1) := by decide +kernel
theorem d12_17 : decode method_2_code 17 = .ok (.iload 4, 2) := by decide +kernel
theorem d12_19 : decode method_2_code 19 = .ok (.iload_n 0, 1) := by decide +kernel
theorem d12_20 : decode method_2_code 20 = .ok (.iconst 1, 1) := by decide +kernel
theorem d12_21 : decode method_2_code 21 = .ok (.iadd, 1) := by decide +kernel
theorem d12_22 : decode method_2_code 22 = .ok (.if_icmp .ne 6, 3) := by decide +kernel
theorem d12_25 : decode method_2_code 25 = .ok (.iload_n 2, 1) := by decide +kernel
theorem d12_26 : decode method_2_code 26 = .ok (.i2b, 1) := by decide +kernel
theorem d12_27 : decode method_2_code 27 = .ok (.ireturn, 1) := by decide +kernel
theorem d12_28 : decode method_2_code 28 = .ok (.iload_n 3, 1) := by decide +kernel
theorem d12_29 : decode method_2_code 29 = .ok (.i2b, 1) := by decide +kernel
theorem d12_30 : decode method_2_code 30 = .ok (.ireturn, 1) := by decide +kernel
theorem ef_12 (m : MethodId) (pf : Int32) (pa : Int32) (pb : Int32) (pq : Int32) (pi : Int32) : entryFrame m #[(.int pf), (.int pa), (.int pb), (.int pq), (.int pi)] 5 = mkF m 0 #[.val (.int pf), .val (.int pa), .val (.int pb), .val (.int pq), .val (.int pi)] [] := by first | (simp [entryFrame, mkF, argsToLocals, Value.category]; done) | rfl
def Q12 (Z : State) (pf : Int32) (pa : Int32) (pb : Int32) (pq : Int32) (pi : Int32) (h0 : Heap) (n0 : Nat) (v : Option Value) (h : Heap) (L : List Loc) : Prop := v = some (.int (own_exp pf pa pb pq pi)) ∧ Fr n0 L ∧ h = h0
set_option maxRecDepth 65536 in
set_option maxHeartbeats 40000000 in
theorem rm12 (l : Launch) (Z : State) (a0 : Array Value) (hw : ∀ d ∈ tables_1, d.before a0 Z = true) (ws : List Jvm.Cond) (pf : Int32) (pa : Int32) (pb : Int32) (pq : Int32) (pi : Int32) (h0 : Heap) (n0 : Nat) (Z0 : n0 ≤ h0.size)  :
    MetFree l (⟨"com/example/lens_on_archives/lensonarchives/BytesToArrayPinLaw", "expect", "(IIIII)B"⟩ : MethodName) (head1 (Jvm.Cond.code (⟨"com/example/lens_on_archives/lensonarchives/BytesToArrayPinLaw", "expect", "(IIIII)B"⟩ : MethodName) method_2_code 5 (some .byte) :: ws) ({ frames := 0, cells := 0, slots := 0, locals := 0 } : Room)) (fun ar_ U => ar_ = #[(.int pf), (.int pa), (.int pb), (.int pq), (.int pi)] ∧ Z.Warmed39 U.vm ∧ U.heap = h0) (fun _ _ _ _ _ => True) (fun _ U oo_ U' => ∃ v L, oo_ = .returned v ∧ Q12 Z pf pa pb pq pi  h0 n0 v U'.heap L ∧ FrameEnd U oo_ U' L ({ frames := 0, cells := 0, slots := 0, locals := 0 } : Room).cells ({ frames := 0, cells := 0, slots := 0, locals := 0 } : Room).slots) := by
  refine MetFree.of_bodySF (plainFor_of_name pn_2) hisR ?_
  intro p e s m args below meth c s₁ Bd hml0 hP hK
  obtain ⟨rfl, hZ, hh⟩ := hP
  have hx := Bd.exec
  have hby := Bd.bytes
  have hml : c.maxLocals = 5 := hml0
  have hown : s.vm.findClass "com/example/lens_on_archives/lensonarchives/BytesToArrayPinLaw" = some m.cls := findClass_of_methodNamed Bd.named
  have hnm := (name_of_methodNamed Bd.named Bd.method).1
  have X0 : Stand p l e ({ frames := 0, cells := 0, slots := 0, locals := 0 } : Room) s m #[(.int pf), (.int pa), (.int pb), (.int pq), (.int pi)] below meth c s₁ [] 0 0 := Stand.of_body Bd
  have e0 : s₁.heap = h0 := by rw [← hh, Bd.state]; rfl
  have N0 := Fr.nil n0
  refine own_in (castTop (ef_12 m pf pa pb pq pi)) ?_
  show own_Go _ _ _ _ (s₁.setTop (mkF m 0 #[.val (.int pf), .val (.int pa), .val (.int pb), .val (.int pq), .val (.int pi)] []))
  refine own_step (fun _ κ => XS.iload X0.here hx rfl (hb hby d12_0) rfl κ) ?_
  show own_Go _ _ _ _ (s₁.setTop (mkF m 2 #[.val (.int pf), .val (.int pa), .val (.int pb), .val (.int pq), .val (.int pi)] [(.int pi)]))
  refine own_step (fun _ κ => XS.iloadN X0.here hx rfl (hb hby d12_2) rfl κ) ?_
  show own_Go _ _ _ _ (s₁.setTop (mkF m 3 #[.val (.int pf), .val (.int pa), .val (.int pb), .val (.int pq), .val (.int pi)] [(.int pf), (.int pi)]))
  by_cases hc1 : pi < pf
  · refine own_step (fun _ κ => XS.icmpNo X0.here hx rfl (hb hby d12_3) rfl (tlt hc1).2.1 κ) ?_
    show own_Go _ _ _ _ (s₁.setTop (mkF m 6 #[.val (.int pf), .val (.int pa), .val (.int pb), .val (.int pq), .val (.int pi)] []))
    refine own_step (fun _ κ => XS.iconst X0.here hx rfl (hb hby d12_6) κ) ?_
    show own_Go _ _ _ _ (s₁.setTop (mkF m 7 #[.val (.int pf), .val (.int pa), .val (.int pb), .val (.int pq), .val (.int pi)] [(.int (0 : Int32))]))
    obtain ⟨fs, hr, hrun, hended, hW, hsame⟩ := X0.leave (v := some (.int (0 : Int32))) (fun h => by rw [Bd.returns] at h; cases h)
    refine ⟨_, _, retN X0 hx (t := .byte) Bd.returns (by simp) (hb hby d12_7) hr, hrun, hended, _, _, rfl, ?_, ⟨_, rfl⟩, hW, hsame.mono (by decide) (by decide)⟩
    show Q12 Z pf pa pb pq pi  h0 n0 _ s₁.heap _
    rw [e0]
    exact ⟨by unfold own_exp; rw [if_pos hc1], N0, rfl⟩
  · refine own_step (fun _ κ => XS.icmpYes X0.here hx rfl (pc0 := 3) (pc' := 8) rfl (hb hby d12_3) rfl (flt hc1).2.1 (by decide) (by decide) κ) ?_
    show own_Go _ _ _ _ (s₁.setTop (mkF m 8 #[.val (.int pf), .val (.int pa), .val (.int pb), .val (.int pq), .val (.int pi)] []))
    refine own_step (fun _ κ => XS.iload X0.here hx rfl (hb hby d12_8) rfl κ) ?_
    show own_Go _ _ _ _ (s₁.setTop (mkF m 10 #[.val (.int pf), .val (.int pa), .val (.int pb), .val (.int pq), .val (.int pi)] [(.int pi)]))
    refine own_step (fun _ κ => XS.iloadN X0.here hx rfl (hb hby d12_10) rfl κ) ?_
    show own_Go _ _ _ _ (s₁.setTop (mkF m 11 #[.val (.int pf), .val (.int pa), .val (.int pb), .val (.int pq), .val (.int pi)] [(.int pf), (.int pi)]))
    by_cases hc2 : pi = pf
    · refine own_step (fun _ κ => XS.icmpNo X0.here hx rfl (hb hby d12_11) rfl (teq hc2).2 κ) ?_
      show own_Go _ _ _ _ (s₁.setTop (mkF m 14 #[.val (.int pf), .val (.int pa), .val (.int pb), .val (.int pq), .val (.int pi)] []))
      refine own_step (fun _ κ => XS.iloadN X0.here hx rfl (hb hby d12_14) rfl κ) ?_
      show own_Go _ _ _ _ (s₁.setTop (mkF m 15 #[.val (.int pf), .val (.int pa), .val (.int pb), .val (.int pq), .val (.int pi)] [(.int pa)]))
      refine own_step (fun _ κ => XS.i2b X0.here hx rfl (hb hby d12_15) rfl κ) ?_
      show own_Go _ _ _ _ (s₁.setTop (mkF m 16 #[.val (.int pf), .val (.int pa), .val (.int pb), .val (.int pq), .val (.int pi)] [(.int (pa.toInt8.toInt32))]))
      obtain ⟨fs, hr, hrun, hended, hW, hsame⟩ := X0.leave (v := some (.int (nar .byte (pa.toInt8.toInt32)))) (fun h => by rw [Bd.returns] at h; cases h)
      refine ⟨_, _, retN X0 hx (t := .byte) Bd.returns (by simp) (hb hby d12_16) hr, hrun, hended, _, _, rfl, ?_, ⟨_, rfl⟩, hW, hsame.mono (by decide) (by decide)⟩
      show Q12 Z pf pa pb pq pi  h0 n0 _ s₁.heap _
      rw [e0]
      exact ⟨by unfold own_exp; rw [if_neg hc1, if_pos hc2], N0, rfl⟩
    · refine own_step (fun _ κ => XS.icmpYes X0.here hx rfl (pc0 := 11) (pc' := 17) rfl (hb hby d12_11) rfl (feq hc2).2 (by decide) (by decide) κ) ?_
      show own_Go _ _ _ _ (s₁.setTop (mkF m 17 #[.val (.int pf), .val (.int pa), .val (.int pb), .val (.int pq), .val (.int pi)] []))
      refine own_step (fun _ κ => XS.iload X0.here hx rfl (hb hby d12_17) rfl κ) ?_
      show own_Go _ _ _ _ (s₁.setTop (mkF m 19 #[.val (.int pf), .val (.int pa), .val (.int pb), .val (.int pq), .val (.int pi)] [(.int pi)]))
      refine own_step (fun _ κ => XS.iloadN X0.here hx rfl (hb hby d12_19) rfl κ) ?_
      show own_Go _ _ _ _ (s₁.setTop (mkF m 20 #[.val (.int pf), .val (.int pa), .val (.int pb), .val (.int pq), .val (.int pi)] [(.int pf), (.int pi)]))
      refine own_step (fun _ κ => XS.iconst X0.here hx rfl (hb hby d12_20) κ) ?_
      show own_Go _ _ _ _ (s₁.setTop (mkF m 21 #[.val (.int pf), .val (.int pa), .val (.int pb), .val (.int pq), .val (.int pi)] [(.int (1 : Int32)), (.int pf), (.int pi)]))
      refine own_step (fun _ κ => XS.iadd X0.here hx rfl (hb hby d12_21) rfl κ) ?_
      show own_Go _ _ _ _ (s₁.setTop (mkF m 22 #[.val (.int pf), .val (.int pa), .val (.int pb), .val (.int pq), .val (.int pi)] [(.int (pf + (1 : Int32))), (.int pi)]))
      by_cases hc3 : pi = (pf + (1 : Int32))
      · refine own_step (fun _ κ => XS.icmpNo X0.here hx rfl (hb hby d12_22) rfl (teq hc3).2 κ) ?_
        show own_Go _ _ _ _ (s₁.setTop (mkF m 25 #[.val (.int pf), .val (.int pa), .val (.int pb), .val (.int pq), .val (.int pi)] []))
        refine own_step (fun _ κ => XS.iloadN X0.here hx rfl (hb hby d12_25) rfl κ) ?_
        show own_Go _ _ _ _ (s₁.setTop (mkF m 26 #[.val (.int pf), .val (.int pa), .val (.int pb), .val (.int pq), .val (.int pi)] [(.int pb)]))
        refine own_step (fun _ κ => XS.i2b X0.here hx rfl (hb hby d12_26) rfl κ) ?_
        show own_Go _ _ _ _ (s₁.setTop (mkF m 27 #[.val (.int pf), .val (.int pa), .val (.int pb), .val (.int pq), .val (.int pi)] [(.int (pb.toInt8.toInt32))]))
        obtain ⟨fs, hr, hrun, hended, hW, hsame⟩ := X0.leave (v := some (.int (nar .byte (pb.toInt8.toInt32)))) (fun h => by rw [Bd.returns] at h; cases h)
        refine ⟨_, _, retN X0 hx (t := .byte) Bd.returns (by simp) (hb hby d12_27) hr, hrun, hended, _, _, rfl, ?_, ⟨_, rfl⟩, hW, hsame.mono (by decide) (by decide)⟩
        show Q12 Z pf pa pb pq pi  h0 n0 _ s₁.heap _
        rw [e0]
        exact ⟨by unfold own_exp; rw [if_neg hc1, if_neg hc2, if_pos hc3], N0, rfl⟩
      · refine own_step (fun _ κ => XS.icmpYes X0.here hx rfl (pc0 := 22) (pc' := 28) rfl (hb hby d12_22) rfl (feq hc3).2 (by decide) (by decide) κ) ?_
        show own_Go _ _ _ _ (s₁.setTop (mkF m 28 #[.val (.int pf), .val (.int pa), .val (.int pb), .val (.int pq), .val (.int pi)] []))
        refine own_step (fun _ κ => XS.iloadN X0.here hx rfl (hb hby d12_28) rfl κ) ?_
        show own_Go _ _ _ _ (s₁.setTop (mkF m 29 #[.val (.int pf), .val (.int pa), .val (.int pb), .val (.int pq), .val (.int pi)] [(.int pq)]))
        refine own_step (fun _ κ => XS.i2b X0.here hx rfl (hb hby d12_29) rfl κ) ?_
        show own_Go _ _ _ _ (s₁.setTop (mkF m 30 #[.val (.int pf), .val (.int pa), .val (.int pb), .val (.int pq), .val (.int pi)] [(.int (pq.toInt8.toInt32))]))
        obtain ⟨fs, hr, hrun, hended, hW, hsame⟩ := X0.leave (v := some (.int (nar .byte (pq.toInt8.toInt32)))) (fun h => by rw [Bd.returns] at h; cases h)
        refine ⟨_, _, retN X0 hx (t := .byte) Bd.returns (by simp) (hb hby d12_30) hr, hrun, hended, _, _, rfl, ?_, ⟨_, rfl⟩, hW, hsame.mono (by decide) (by decide)⟩
        show Q12 Z pf pa pb pq pi  h0 n0 _ s₁.heap _
        rw [e0]
        exact ⟨by unfold own_exp; rw [if_neg hc1, if_neg hc2, if_neg hc3], N0, rfl⟩
theorem d13_0 : decode method_3_code 0 = .ok (.iload 6, 2) := by decide +kernel
theorem d13_2 : decode method_3_code 2 = .ok (.ifCond .lt 9, 3) := by decide +kernel
theorem d13_5 : decode method_3_code 5 = .ok (.iload 6, 2) := by decide +kernel
theorem d13_7 : decode method_3_code 7 = .ok (.iload_n 1, 1) := by decide +kernel
theorem d13_8 : decode method_3_code 8 = .ok (.if_icmp .lt 5, 3) := by decide +kernel
theorem d13_11 : decode method_3_code 11 = .ok (.iconst 1, 1) := by decide +kernel
theorem d13_12 : decode method_3_code 12 = .ok (.ireturn, 1) := by decide +kernel
theorem d13_13 : decode method_3_code 13 = .ok (.aload_n 0, 1) := by decide +kernel
theorem d13_14 : decode method_3_code 14 = .ok (.iload 6, 2) := by decide +kernel
theorem d13_16 : decode method_3_code 16 = .ok (.baload, 1) := by decide +kernel
theorem d13_17 : decode method_3_code 17 = .ok (.iload_n 2, 1) := by decide +kernel
theorem d13_18 : decode method_3_code 18 = .ok (.iload_n 3, 1) := by decide +kernel
theorem d13_19 : decode method_3_code 19 = .ok (.iload 4, 2) := by decide +kernel
theorem d13_21 : decode method_3_code 21 = .ok (.iload 5, 2) := by decide +kernel
theorem d13_23 : decode method_3_code 23 = .ok (.iload 6, 2) := by decide +kernel
theorem d13_25 : decode method_3_code 25 = .ok (.invokestatic 7, 3) := by decide +kernel
theorem d13_28 : decode method_3_code 28 = .ok (.if_icmp .ne 7, 3) := by decide +kernel
theorem d13_31 : decode method_3_code 31 = .ok (.iconst 1, 1) := by decide +kernel
theorem d13_32 : decode method_3_code 32 = .ok (.goto 4, 3) := by decide +kernel
theorem d13_36 : decode method_3_code 36 = .ok (.ireturn, 1) := by decide +kernel
theorem ef_13 (m : MethodId) (r : Addr) (pl : Int32) (pf : Int32) (pa : Int32) (pb : Int32) (pq : Int32) (pi : Int32) : entryFrame m #[(.ref r), (.int pl), (.int pf), (.int pa), (.int pb), (.int pq), (.int pi)] 7 = mkF m 0 #[.val (.ref r), .val (.int pl), .val (.int pf), .val (.int pa), .val (.int pb), .val (.int pq), .val (.int pi)] [] := by first | (simp [entryFrame, mkF, argsToLocals, Value.category]; done) | rfl
def Q13 (Z : State) (r : Addr) (pl : Int32) (pf : Int32) (pa : Int32) (pb : Int32) (pq : Int32) (pi : Int32) (g : Nat → Int32) (h0 : Heap) (n0 : Nat) (v : Option Value) (h : Heap) (L : List Loc) : Prop := v = some (.int (1 : Int32)) ∧ Fr n0 L ∧ h = h0
set_option maxRecDepth 65536 in
set_option maxHeartbeats 40000000 in
theorem rm13 (l : Launch) (Z : State) (a0 : Array Value) (hw : ∀ d ∈ tables_1, d.before a0 Z = true) (ws : List Jvm.Cond) (r : Addr) (pl : Int32) (pf : Int32) (pa : Int32) (pb : Int32) (pq : Int32) (pi : Int32) (g : Nat → Int32) (h0 : Heap) (n0 : Nat) (Z0 : n0 ≤ h0.size) (P0 : own_By Z h0 r pl g) (P1 : ¬ pi < (0 : Int32) → pi < pl → g pi.toNatClampNeg = own_exp pf pa pb pq pi) :
    MetFree l (⟨"com/example/lens_on_archives/lensonarchives/BytesToArrayPinLaw", "ok", "([BIIIIII)Z"⟩ : MethodName) (head1 (Jvm.Cond.code (⟨"com/example/lens_on_archives/lensonarchives/BytesToArrayPinLaw", "ok", "([BIIIIII)Z"⟩ : MethodName) method_3_code 7 (some .boolean) :: ws) ({ frames := 1, cells := 0, slots := 0, locals := 17 } : Room)) (fun ar_ U => ar_ = #[(.ref r), (.int pl), (.int pf), (.int pa), (.int pb), (.int pq), (.int pi)] ∧ Z.Warmed39 U.vm ∧ U.heap = h0) (fun _ _ _ _ _ => True) (fun _ U oo_ U' => ∃ v L, oo_ = .returned v ∧ Q13 Z r pl pf pa pb pq pi g h0 n0 v U'.heap L ∧ FrameEnd U oo_ U' L ({ frames := 1, cells := 0, slots := 0, locals := 17 } : Room).cells ({ frames := 1, cells := 0, slots := 0, locals := 17 } : Room).slots) := by
  refine MetFree.of_bodySF (plainFor_of_name pn_2) hisR ?_
  intro p e s m args below meth c s₁ Bd hml0 hP hK
  obtain ⟨rfl, hZ, hh⟩ := hP
  have hx := Bd.exec
  have hby := Bd.bytes
  have hml : c.maxLocals = 7 := hml0
  have hown : s.vm.findClass "com/example/lens_on_archives/lensonarchives/BytesToArrayPinLaw" = some m.cls := findClass_of_methodNamed Bd.named
  have hnm := (name_of_methodNamed Bd.named Bd.method).1
  have X0 : Stand p l e ({ frames := 1, cells := 0, slots := 0, locals := 17 } : Room) s m #[(.ref r), (.int pl), (.int pf), (.int pa), (.int pb), (.int pq), (.int pi)] below meth c s₁ [] 0 0 := Stand.of_body Bd
  have e0 : s₁.heap = h0 := by rw [← hh, Bd.state]; rfl
  have N0 := Fr.nil n0
  refine own_in (castTop (ef_13 m r pl pf pa pb pq pi)) ?_
  show own_Go _ _ _ _ (s₁.setTop (mkF m 0 #[.val (.ref r), .val (.int pl), .val (.int pf), .val (.int pa), .val (.int pb), .val (.int pq), .val (.int pi)] []))
  refine own_step (fun _ κ => XS.iload X0.here hx rfl (hb hby d13_0) rfl κ) ?_
  show own_Go _ _ _ _ (s₁.setTop (mkF m 2 #[.val (.ref r), .val (.int pl), .val (.int pf), .val (.int pa), .val (.int pb), .val (.int pq), .val (.int pi)] [(.int pi)]))
  by_cases hc1 : pi < (0 : Int32)
  · refine own_step (fun _ κ => XS.ifYes X0.here hx rfl (pc0 := 2) (pc' := 11) rfl (hb hby d13_2) rfl ((if0 _ _).trans (tlt hc1).1) (by decide) (by decide) κ) ?_
    show own_Go _ _ _ _ (s₁.setTop (mkF m 11 #[.val (.ref r), .val (.int pl), .val (.int pf), .val (.int pa), .val (.int pb), .val (.int pq), .val (.int pi)] []))
    refine own_step (fun _ κ => XS.iconst X0.here hx rfl (hb hby d13_11) κ) ?_
    show own_Go _ _ _ _ (s₁.setTop (mkF m 12 #[.val (.ref r), .val (.int pl), .val (.int pf), .val (.int pa), .val (.int pb), .val (.int pq), .val (.int pi)] [(.int (1 : Int32))]))
    obtain ⟨fs, hr, hrun, hended, hW, hsame⟩ := X0.leave (v := some (.int (1 : Int32))) (fun h => by rw [Bd.returns] at h; cases h)
    refine ⟨_, _, retN X0 hx (t := .boolean) Bd.returns (by simp) (hb hby d13_12) hr, hrun, hended, _, _, rfl, ?_, ⟨_, rfl⟩, hW, hsame.mono (by decide) (by decide)⟩
    show Q13 Z r pl pf pa pb pq pi g h0 n0 _ s₁.heap _
    rw [e0]
    exact ⟨rfl, N0, rfl⟩
  · refine own_step (fun _ κ => XS.ifNo X0.here hx rfl (hb hby d13_2) rfl ((if0 _ _).trans (flt hc1).1) κ) ?_
    show own_Go _ _ _ _ (s₁.setTop (mkF m 5 #[.val (.ref r), .val (.int pl), .val (.int pf), .val (.int pa), .val (.int pb), .val (.int pq), .val (.int pi)] []))
    refine own_step (fun _ κ => XS.iload X0.here hx rfl (hb hby d13_5) rfl κ) ?_
    show own_Go _ _ _ _ (s₁.setTop (mkF m 7 #[.val (.ref r), .val (.int pl), .val (.int pf), .val (.int pa), .val (.int pb), .val (.int pq), .val (.int pi)] [(.int pi)]))
    refine own_step (fun _ κ => XS.iloadN X0.here hx rfl (hb hby d13_7) rfl κ) ?_
    show own_Go _ _ _ _ (s₁.setTop (mkF m 8 #[.val (.ref r), .val (.int pl), .val (.int pf), .val (.int pa), .val (.int pb), .val (.int pq), .val (.int pi)] [(.int pl), (.int pi)]))
    by_cases hc2 : pi < pl
    · refine own_step (fun _ κ => XS.icmpYes X0.here hx rfl (pc0 := 8) (pc' := 13) rfl (hb hby d13_8) rfl (tlt hc2).1 (by decide) (by decide) κ) ?_
      show own_Go _ _ _ _ (s₁.setTop (mkF m 13 #[.val (.ref r), .val (.int pl), .val (.int pf), .val (.int pa), .val (.int pb), .val (.int pq), .val (.int pi)] []))
      refine own_step (fun _ κ => XS.aloadN X0.here hx rfl (hb hby d13_13) rfl rfl κ) ?_
      show own_Go _ _ _ _ (s₁.setTop (mkF m 14 #[.val (.ref r), .val (.int pl), .val (.int pf), .val (.int pa), .val (.int pb), .val (.int pq), .val (.int pi)] [(.ref r)]))
      refine own_step (fun _ κ => XS.iload X0.here hx rfl (hb hby d13_14) rfl κ) ?_
      show own_Go _ _ _ _ (s₁.setTop (mkF m 16 #[.val (.ref r), .val (.int pl), .val (.int pf), .val (.int pa), .val (.int pb), .val (.int pq), .val (.int pi)] [(.int pi), (.ref r)]))
      obtain ⟨cl3, Ar3, Sz3, Nz3, at3⟩ := P0.opened
      have hin3 := inb_of (j := pi) Sz3 ⟨hc1, hc2⟩
      refine own_step (fun _ κ => X0.baloadBytes hx (j := pi) (v := (.int (g pi.toNatClampNeg))) (by rw [e0]; exact Ar3.1) (State.isArrayOf_alike hZ.alike Ar3.2.1) Ar3.2.2 hin3 (at3 _ hin3) (g := (mkF m 16 #[.val (.ref r), .val (.int pl), .val (.int pf), .val (.int pa), .val (.int pb), .val (.int pq), .val (.int pi)] [(.int pi), (.ref r)])) rfl rfl (hb hby d13_16) _ κ) ?_
      show own_Go _ _ _ _ (s₁.setTop (mkF m 17 #[.val (.ref r), .val (.int pl), .val (.int pf), .val (.int pa), .val (.int pb), .val (.int pq), .val (.int pi)] [(.int (g pi.toNatClampNeg))]))
      refine own_step (fun _ κ => XS.iloadN X0.here hx rfl (hb hby d13_17) rfl κ) ?_
      show own_Go _ _ _ _ (s₁.setTop (mkF m 18 #[.val (.ref r), .val (.int pl), .val (.int pf), .val (.int pa), .val (.int pb), .val (.int pq), .val (.int pi)] [(.int pf), (.int (g pi.toNatClampNeg))]))
      refine own_step (fun _ κ => XS.iloadN X0.here hx rfl (hb hby d13_18) rfl κ) ?_
      show own_Go _ _ _ _ (s₁.setTop (mkF m 19 #[.val (.ref r), .val (.int pl), .val (.int pf), .val (.int pa), .val (.int pb), .val (.int pq), .val (.int pi)] [(.int pa), (.int pf), (.int (g pi.toNatClampNeg))]))
      refine own_step (fun _ κ => XS.iload X0.here hx rfl (hb hby d13_19) rfl κ) ?_
      show own_Go _ _ _ _ (s₁.setTop (mkF m 21 #[.val (.ref r), .val (.int pl), .val (.int pf), .val (.int pa), .val (.int pb), .val (.int pq), .val (.int pi)] [(.int pb), (.int pa), (.int pf), (.int (g pi.toNatClampNeg))]))
      refine own_step (fun _ κ => XS.iload X0.here hx rfl (hb hby d13_21) rfl κ) ?_
      show own_Go _ _ _ _ (s₁.setTop (mkF m 23 #[.val (.ref r), .val (.int pl), .val (.int pf), .val (.int pa), .val (.int pb), .val (.int pq), .val (.int pi)] [(.int pq), (.int pb), (.int pa), (.int pf), (.int (g pi.toNatClampNeg))]))
      refine own_step (fun _ κ => XS.iload X0.here hx rfl (hb hby d13_23) rfl κ) ?_
      show own_Go _ _ _ _ (s₁.setTop (mkF m 25 #[.val (.ref r), .val (.int pl), .val (.int pf), .val (.int pa), .val (.int pb), .val (.int pq), .val (.int pi)] [(.int pi), (.int pq), (.int pb), (.int pa), (.int pf), (.int (g pi.toNatClampNeg))]))
      obtain ⟨vr4, _, ⟨T4, L4, k4, n4⟩, -, X4, ⟨Lc4, hQ4, l4, y4, z4⟩, st4⟩ := Jvm.LawKit.callS X0 hx (y := (⟨"com/example/lens_on_archives/lensonarchives/BytesToArrayPinLaw", "expect", "(IIIII)B"⟩ : MethodName)) hown (mvT hZ (hw _ (List.mem_of_getElem? (i := 59) rfl))) (mvT hZ (hw _ (List.mem_of_getElem? (i := 60) rfl))) (mvT hZ (hw _ (List.mem_of_getElem? (i := 36) rfl))) (mvT hZ (hw _ (List.mem_of_getElem? (i := 61) rfl))) (by decide) (backOf (W := 1) (rm12 l Z a0 hw [] pf pa pb pq pi  h0 n0 Z0 ) hZ (hw _ (List.mem_of_getElem? (i := 61) rfl)) (hw _ (List.mem_of_getElem? (i := 36) rfl)) (by decide) (by decide)) (g := (mkF m 25 #[.val (.ref r), .val (.int pl), .val (.int pf), .val (.int pa), .val (.int pb), .val (.int pq), .val (.int pi)] [(.int pi), (.int pq), (.int pb), (.int pa), (.int pf), (.int (g pi.toNatClampNeg))])) rfl (by rw [hml]; rfl) (argsL := [(.int pf), (.int pa), (.int pb), (.int pq), (.int pi)]) (rest := [(.int (g pi.toNatClampNeg))]) (lenOf pd_3 rfl) rfl (by show 2 * 0 + _ ≤ _; exact Nat.le_of_eq rfl) (hb hby d13_25) (fun _ _ => ⟨rfl, e0, (by decide : 0 + 0 ≤ _), (by decide : 0 + 0 ≤ _)⟩)
      dsimp only [Pt.U, Pt.locs, Pt.cells, Pt.slots] at X4 l4 y4 z4 st4 hQ4
      subst l4 y4 z4
      obtain ⟨rfl, Nq4, eq4⟩ := hQ4
      have N4 := Fr.app N0 Nq4
      refine own_step st4 ?_
      show own_Go _ _ _ _ (T4.setTop (mkF m 28 #[.val (.ref r), .val (.int pl), .val (.int pf), .val (.int pa), .val (.int pb), .val (.int pq), .val (.int pi)] [(.int (own_exp pf pa pb pq pi)), (.int (g pi.toNatClampNeg))]))
      refine own_step (fun _ κ => XS.icmpNo X4.here hx rfl (hb hby d13_28) rfl (teq (P1 hc1 hc2)).2 κ) ?_
      show own_Go _ _ _ _ (T4.setTop (mkF m 31 #[.val (.ref r), .val (.int pl), .val (.int pf), .val (.int pa), .val (.int pb), .val (.int pq), .val (.int pi)] []))
      refine own_step (fun _ κ => XS.iconst X4.here hx rfl (hb hby d13_31) κ) ?_
      show own_Go _ _ _ _ (T4.setTop (mkF m 32 #[.val (.ref r), .val (.int pl), .val (.int pf), .val (.int pa), .val (.int pb), .val (.int pq), .val (.int pi)] [(.int (1 : Int32))]))
      refine own_step (fun _ κ => XS.goto X4.here hx rfl (pc0 := 32) (pc' := 36) rfl (hb hby d13_32) (by decide) (by decide) κ) ?_
      show own_Go _ _ _ _ (T4.setTop (mkF m 36 #[.val (.ref r), .val (.int pl), .val (.int pf), .val (.int pa), .val (.int pb), .val (.int pq), .val (.int pi)] [(.int (1 : Int32))]))
      obtain ⟨fs, hr, hrun, hended, hW, hsame⟩ := X4.leave (v := some (.int (1 : Int32))) (fun h => by rw [Bd.returns] at h; cases h)
      refine ⟨_, _, retN X4 hx (t := .boolean) Bd.returns (by simp) (hb hby d13_36) hr, hrun, hended, _, _, rfl, ?_, ⟨_, rfl⟩, hW, hsame.mono (by decide) (by decide)⟩
      show Q13 Z r pl pf pa pb pq pi g h0 n0 _ T4.heap _
      rw [eq4]
      exact ⟨rfl, N4, rfl⟩
    · refine own_step (fun _ κ => XS.icmpNo X0.here hx rfl (hb hby d13_8) rfl (flt hc2).1 κ) ?_
      show own_Go _ _ _ _ (s₁.setTop (mkF m 11 #[.val (.ref r), .val (.int pl), .val (.int pf), .val (.int pa), .val (.int pb), .val (.int pq), .val (.int pi)] []))
      refine own_step (fun _ κ => XS.iconst X0.here hx rfl (hb hby d13_11) κ) ?_
      show own_Go _ _ _ _ (s₁.setTop (mkF m 12 #[.val (.ref r), .val (.int pl), .val (.int pf), .val (.int pa), .val (.int pb), .val (.int pq), .val (.int pi)] [(.int (1 : Int32))]))
      obtain ⟨fs, hr, hrun, hended, hW, hsame⟩ := X0.leave (v := some (.int (1 : Int32))) (fun h => by rw [Bd.returns] at h; cases h)
      refine ⟨_, _, retN X0 hx (t := .boolean) Bd.returns (by simp) (hb hby d13_12) hr, hrun, hended, _, _, rfl, ?_, ⟨_, rfl⟩, hW, hsame.mono (by decide) (by decide)⟩
      show Q13 Z r pl pf pa pb pq pi g h0 n0 _ s₁.heap _
      rw [e0]
      exact ⟨rfl, N0, rfl⟩
theorem ef_0 (m : MethodId) (p0 : Int32) (p1 : Int32) (p2 : Int32) (p3 : Int32) (p4 : Int32) (p5 : Int32) : entryFrame m #[(.int p0), (.int p1), (.int p2), (.int p3), (.int p4), (.int p5)] maxLocals = mkF m 0 #[.val (.int p0), .val (.int p1), .val (.int p2), .val (.int p3), .val (.int p4), .val (.int p5), .unset, .unset, .unset, .unset, .unset, .unset, .unset] [] := by first | (simp [entryFrame, mkF, argsToLocals, Value.category, maxLocals]; done) | rfl
def Q0 (Z : State) (p0 : Int32) (p1 : Int32) (p2 : Int32) (p3 : Int32) (p4 : Int32) (p5 : Int32) (h0 : Heap) (n0 : Nat) (v : Option Value) (h : Heap) (L : List Loc) : Prop := v = some (.int (1 : Int32)) ∧ Fr n0 L
set_option maxRecDepth 65536 in
set_option maxHeartbeats 40000000 in
theorem rm0 (l : Launch) (Z : State) (a0 : Array Value) (hw : ∀ d ∈ tables_1, d.before a0 Z = true) (ws : List Jvm.Cond) (p0 : Int32) (p1 : Int32) (p2 : Int32) (p3 : Int32) (p4 : Int32) (p5 : Int32) (h0 : Heap) (n0 : Nat) (Z0 : n0 ≤ h0.size)  :
    MetFree l x (head1 (Jvm.Cond.code x code maxLocals ret :: ws) room_1) (fun ar_ U => ar_ = #[(.int p0), (.int p1), (.int p2), (.int p3), (.int p4), (.int p5)] ∧ Z.Warmed39 U.vm ∧ U.heap = h0) (fun _ _ _ _ _ => True) (fun _ U oo_ U' => ∃ v L, oo_ = .returned v ∧ Q0 Z p0 p1 p2 p3 p4 p5  h0 n0 v U'.heap L ∧ FrameEnd U oo_ U' L room_1.cells room_1.slots) := by
  refine MetFree.of_bodySF (plainFor_of_name pn_2) hisR ?_
  intro p e s m args below meth c s₁ Bd hml0 hP hK
  obtain ⟨rfl, hZ, hh⟩ := hP
  have hx := Bd.exec
  have hby := Bd.bytes
  have hml : c.maxLocals = 13 := hml0
  have hown : s.vm.findClass "com/example/lens_on_archives/lensonarchives/BytesToArrayPinLaw" = some m.cls := findClass_of_methodNamed Bd.named
  have hnm := (name_of_methodNamed Bd.named Bd.method).1
  have X0 : Stand p l e room_1 s m #[(.int p0), (.int p1), (.int p2), (.int p3), (.int p4), (.int p5)] below meth c s₁ [] 0 0 := Stand.of_body Bd
  have e0 : s₁.heap = h0 := by rw [← hh, Bd.state]; rfl
  have N0 := Fr.nil n0
  refine own_in (castTop (ef_0 m p0 p1 p2 p3 p4 p5)) ?_
  show own_Go _ _ _ _ (s₁.setTop (mkF m 0 #[.val (.int p0), .val (.int p1), .val (.int p2), .val (.int p3), .val (.int p4), .val (.int p5), .unset, .unset, .unset, .unset, .unset, .unset, .unset] []))
  refine own_step (fun _ κ => XS.bipush X0.here hx rfl (hb hby at_0) κ) ?_
  show own_Go _ _ _ _ (s₁.setTop (mkF m 2 #[.val (.int p0), .val (.int p1), .val (.int p2), .val (.int p3), .val (.int p4), .val (.int p5), .unset, .unset, .unset, .unset, .unset, .unset, .unset] [(.int (15 : Int32))]))
  obtain ⟨T1, h1, k1, X1, e1, E1, A1, Ex1, st1⟩ := newPE X0 hx hZ (hw _ (List.mem_of_getElem? (i := 0) rfl)) e0 (g := (mkF m 2 #[.val (.int p0), .val (.int p1), .val (.int p2), .val (.int p3), .val (.int p4), .val (.int p5), .unset, .unset, .unset, .unset, .unset, .unset, .unset] [(.int (15 : Int32))])) rfl (hb hby at_2) rfl (by decide) (cap := 15) (by decide) (by decide) (by decide) (by decide) (ad := "[B") rfl
  obtain ⟨b1, g1⟩ : ∃ z, z = h0.size := ⟨_, rfl⟩
  rw [← g1] at A1 Ex1 st1
  refine own_step st1 ?_
  have ge2 : n0 ≤ b1 := Nat.le_trans Z0 (Nat.le_of_eq g1.symm)
  have z3 : n0 ≤ h1.size := Nat.le_trans Z0 E1.1
  have V1 : own_By Z h1 b1 (15 : Int32) own_zero := own_By.new A1 Ex1 (by decide)
  show own_Go _ _ _ _ (T1.setTop (mkF m 4 #[.val (.int p0), .val (.int p1), .val (.int p2), .val (.int p3), .val (.int p4), .val (.int p5), .unset, .unset, .unset, .unset, .unset, .unset, .unset] [(.ref b1)]))
  refine own_step (fun _ κ => XS.astore X1.here hx rfl (hb hby at_4) rfl rfl (l' := #[.val (.int p0), .val (.int p1), .val (.int p2), .val (.int p3), .val (.int p4), .val (.int p5), .val (.ref b1), .unset, .unset, .unset, .unset, .unset, .unset]) rfl κ) ?_
  show own_Go _ _ _ _ (T1.setTop (mkF m 6 #[.val (.int p0), .val (.int p1), .val (.int p2), .val (.int p3), .val (.int p4), .val (.int p5), .val (.ref b1), .unset, .unset, .unset, .unset, .unset, .unset] []))
  obtain ⟨T4, h4, X4, e4, E4, A4, D4, U4, st4⟩ := newO X1 hx hZ hown (hw _ (List.mem_of_getElem? (i := 1) rfl)) (hw _ (List.mem_of_getElem? (i := 2) rfl)) (hw _ (List.mem_of_getElem? (i := 3) rfl)) e1 (g := (mkF m 6 #[.val (.int p0), .val (.int p1), .val (.int p2), .val (.int p3), .val (.int p4), .val (.int p5), .val (.ref b1), .unset, .unset, .unset, .unset, .unset, .unset] [])) rfl (hb hby at_6) (by decide) (by decide)
  obtain ⟨b4, g4⟩ : ∃ z, z = h1.size := ⟨_, rfl⟩
  rw [← g4] at A4 D4 U4 st4
  refine own_step st4 ?_
  have ne5 : b1 ≠ b4 := Nat.ne_of_lt (Nat.lt_of_lt_of_le V1.lt (Nat.le_of_eq g4.symm))
  have ge6 : n0 ≤ b4 := Nat.le_trans z3 (Nat.le_of_eq g4.symm)
  have f7 := V1.ext E4
  have z8 : n0 ≤ h4.size := Nat.le_trans z3 E4.1
  have F4_bytes : Fld Z h4 b4 "com/example/lens_on_archives/lensonarchives/Bytes" "bytes" "[B" .null := D4 (Or.inl (hw _ (List.mem_of_getElem? (i := 15) rfl))) (ty := (.array .byte)) (by decide)
  have F4_size : Fld Z h4 b4 "com/example/lens_on_archives/lensonarchives/Bytes" "size" "I" (.int (0 : Int32)) := D4 (Or.inl (hw _ (List.mem_of_getElem? (i := 22) rfl))) (ty := .int) (by decide)
  show own_Go _ _ _ _ (T4.setTop (mkF m 9 #[.val (.int p0), .val (.int p1), .val (.int p2), .val (.int p3), .val (.int p4), .val (.int p5), .val (.ref b1), .unset, .unset, .unset, .unset, .unset, .unset] [(.ref b4)]))
  refine own_step (fun _ κ => XS.dup X4.here hx rfl (hb hby at_9) rfl rfl κ) ?_
  show own_Go _ _ _ _ (T4.setTop (mkF m 10 #[.val (.int p0), .val (.int p1), .val (.int p2), .val (.int p3), .val (.int p4), .val (.int p5), .val (.ref b1), .unset, .unset, .unset, .unset, .unset, .unset] [(.ref b4), (.ref b4)]))
  refine own_step (fun _ κ => XS.iloadN X4.here hx rfl (hb hby at_10) rfl κ) ?_
  show own_Go _ _ _ _ (T4.setTop (mkF m 11 #[.val (.int p0), .val (.int p1), .val (.int p2), .val (.int p3), .val (.int p4), .val (.int p5), .val (.ref b1), .unset, .unset, .unset, .unset, .unset, .unset] [(.int p0), (.ref b4), (.ref b4)]))
  refine own_step (fun _ κ => XS.bipush X4.here hx rfl (hb hby at_11) κ) ?_
  show own_Go _ _ _ _ (T4.setTop (mkF m 13 #[.val (.int p0), .val (.int p1), .val (.int p2), .val (.int p3), .val (.int p4), .val (.int p5), .val (.ref b1), .unset, .unset, .unset, .unset, .unset, .unset] [(.int (31 : Int32)), (.int p0), (.ref b4), (.ref b4)]))
  refine own_step (fun _ κ => XS.iand X4.here hx rfl (hb hby at_13) rfl κ) ?_
  show own_Go _ _ _ _ (T4.setTop (mkF m 14 #[.val (.int p0), .val (.int p1), .val (.int p2), .val (.int p3), .val (.int p4), .val (.int p5), .val (.ref b1), .unset, .unset, .unset, .unset, .unset, .unset] [(.int (p0 &&& (31 : Int32))), (.ref b4), (.ref b4)]))
  obtain ⟨vr9, _, ⟨T9, L9, k9, n9⟩, -, X9, ⟨Lc9, hQ9, l9, y9, z9⟩, st9⟩ := X4.specialBack hx (y := (⟨"com/example/lens_on_archives/lensonarchives/Bytes", "<init>", "(I)V"⟩ : MethodName)) rfl hown (mvT hZ (hw _ (List.mem_of_getElem? (i := 4) rfl))) (mvT hZ (hw _ (List.mem_of_getElem? (i := 5) rfl))) (mvT hZ (hw _ (List.mem_of_getElem? (i := 6) rfl))) (by decide) (backOf (W := 1) (rm4 l Z a0 hw [] b4 (p0 &&& (31 : Int32))  h4 n0 z8 A4 F4_bytes F4_size ge6 (own_m31 p0).1 (own_m31 p0).2) hZ (hw _ (List.mem_of_getElem? (i := 6) rfl)) (hw _ (List.mem_of_getElem? (i := 3) rfl)) (by decide) (by decide)) (g := (mkF m 14 #[.val (.int p0), .val (.int p1), .val (.int p2), .val (.int p3), .val (.int p4), .val (.int p5), .val (.ref b1), .unset, .unset, .unset, .unset, .unset, .unset] [(.int (p0 &&& (31 : Int32))), (.ref b4), (.ref b4)])) rfl (by rw [hml]; rfl) (Steps.refl _) (a := b4) (argsL := [(.int (p0 &&& (31 : Int32)))]) (rest := [(.ref b4)]) (lenOf pd_2 rfl) rfl (by show 2 * 0 + _ ≤ _; exact Nat.le_of_eq rfl) (hb hby at_14) (fun _ _ => ⟨rfl, e4, (by decide : 2 + 1 ≤ _), (by decide : 17 + 31 ≤ _)⟩)
  dsimp only [Pt.U, Pt.locs, Pt.cells, Pt.slots] at X9 l9 y9 z9 st9 hQ9
  subst l9 y9 z9
  obtain ⟨b10, rfl, Nq9, Kq9, p9_0, p9_1, p9_2, p9_3, p9_4⟩ := hQ9
  have N9 := Fr.app N0 Nq9
  have ne11 : b1 ≠ b10 := Nat.ne_of_lt (Nat.lt_of_lt_of_le f7.lt p9_0)
  have ne12 : b4 ≠ b10 := Nat.ne_of_lt (Nat.lt_of_lt_of_le A4.lt p9_0)
  have ge13 : n0 ≤ b10 := Nat.le_trans z8 p9_0
  have f14 := f7.keep Kq9 (ninS ne5 nin0)
  have f15 := A4.keep Kq9
  have z16 : n0 ≤ T9.heap.size := Nat.le_trans z8 Kq9.1
  refine own_step (fun _ κ => st9.trans κ) ?_
  show own_Go _ _ _ _ (T9.setTop (mkF m 17 #[.val (.int p0), .val (.int p1), .val (.int p2), .val (.int p3), .val (.int p4), .val (.int p5), .val (.ref b1), .unset, .unset, .unset, .unset, .unset, .unset] [(.ref b4)]))
  refine own_step (fun _ κ => XS.astore X9.here hx rfl (hb hby at_17) rfl rfl (l' := #[.val (.int p0), .val (.int p1), .val (.int p2), .val (.int p3), .val (.int p4), .val (.int p5), .val (.ref b1), .val (.ref b4), .unset, .unset, .unset, .unset, .unset]) rfl κ) ?_
  show own_Go _ _ _ _ (T9.setTop (mkF m 19 #[.val (.int p0), .val (.int p1), .val (.int p2), .val (.int p3), .val (.int p4), .val (.int p5), .val (.ref b1), .val (.ref b4), .unset, .unset, .unset, .unset, .unset] []))
  have hN := own_mx16 (own_m31 p0).1 (own_m31 p0).2
  refine own_joinP (α := State × List Loc × Addr × Int32 × (Nat → Int32) × Int32 × Int32 × Int32) (fun q => q.1.setTop (mkF m 94 #[.val (.int p0), .val (.int p1), .val (.int p2), .val (.int p3), .val (.int p4), .val (.int p5), .val (.ref b1), .val (.ref b4), .val (.int q.2.2.2.2.2.1), .val (.int q.2.2.2.2.2.2.1), .val (.int q.2.2.2.2.2.2.2), .unset, .unset] [])) (fun q => (Stand p l e room_1 s m #[(.int p0), (.int p1), (.int p2), (.int p3), (.int p4), (.int p5)] below meth c q.1 q.2.1 4 82) ∧ (Fr n0 q.2.1) ∧ (n0 ≤ q.1.heap.size) ∧ (Exa Z q.1.heap b4 "com/example/lens_on_archives/lensonarchives/Bytes") ∧ (Fld Z q.1.heap b4 "com/example/lens_on_archives/lensonarchives/Bytes" "bytes" "[B" (.ref q.2.2.1)) ∧ (Fld Z q.1.heap b4 "com/example/lens_on_archives/lensonarchives/Bytes" "size" "I" (.int q.2.2.2.2.2.2.2)) ∧ (own_By Z q.1.heap q.2.2.1 q.2.2.2.1 q.2.2.2.2.1) ∧ (0 ≤ q.2.2.2.2.2.2.2.toInt ∧ q.2.2.2.2.2.2.2.toInt ≤ 18) ∧ (¬ q.2.2.2.1 < q.2.2.2.2.2.2.2) ∧ (own_Good q.2.2.2.2.2.1 p1 p2 p3 q.2.2.2.2.2.2.2 q.2.2.2.2.1) ∧ (q.2.2.1 ≠ b4)) ?_ ?_
  · rintro ⟨Tj, Lj, bj, nj, gj, off, cnt, ln⟩ ⟨Xj', Nj', zj', Ej', Fbj', Fsj', Vj', hz', hzn', hG', hbx'⟩
    have Xj : Stand p l e room_1 s m #[(.int p0), (.int p1), (.int p2), (.int p3), (.int p4), (.int p5)] below meth c Tj Lj 4 82 := Xj'
    have Nj : Fr n0 Lj := Nj'
    have zj : n0 ≤ Tj.heap.size := zj'
    have Ej : Exa Z Tj.heap b4 "com/example/lens_on_archives/lensonarchives/Bytes" := Ej'
    have Fbj : Fld Z Tj.heap b4 "com/example/lens_on_archives/lensonarchives/Bytes" "bytes" "[B" (.ref bj) := Fbj'
    have Fsj : Fld Z Tj.heap b4 "com/example/lens_on_archives/lensonarchives/Bytes" "size" "I" (.int ln) := Fsj'
    have Vj : own_By Z Tj.heap bj nj gj := Vj'
    have hz : 0 ≤ ln.toInt ∧ ln.toInt ≤ 18 := hz'
    have hzn : ¬ nj < ln := hzn'
    have hG : own_Good off p1 p2 p3 ln gj := hG'
    have hbx : bj ≠ b4 := hbx'
    show own_Go _ _ _ _ (Tj.setTop (mkF m 94 #[.val (.int p0), .val (.int p1), .val (.int p2), .val (.int p3), .val (.int p4), .val (.int p5), .val (.ref b1), .val (.ref b4), .val (.int off), .val (.int cnt), .val (.int ln), .unset, .unset] []))
    refine own_step (fun _ κ => XS.iload Xj.here hx rfl (hb hby at_94) rfl κ) ?_
    show own_Go _ _ _ _ (Tj.setTop (mkF m 96 #[.val (.int p0), .val (.int p1), .val (.int p2), .val (.int p3), .val (.int p4), .val (.int p5), .val (.ref b1), .val (.ref b4), .val (.int off), .val (.int cnt), .val (.int ln), .unset, .unset] [(.int p5)]))
    refine own_step (fun _ κ => XS.iconst Xj.here hx rfl (hb hby at_96) κ) ?_
    show own_Go _ _ _ _ (Tj.setTop (mkF m 97 #[.val (.int p0), .val (.int p1), .val (.int p2), .val (.int p3), .val (.int p4), .val (.int p5), .val (.ref b1), .val (.ref b4), .val (.int off), .val (.int cnt), .val (.int ln), .unset, .unset] [(.int (4 : Int32)), (.int p5)]))
    refine own_step (fun _ κ => XS.iand Xj.here hx rfl (hb hby at_97) rfl κ) ?_
    show own_Go _ _ _ _ (Tj.setTop (mkF m 98 #[.val (.int p0), .val (.int p1), .val (.int p2), .val (.int p3), .val (.int p4), .val (.int p5), .val (.ref b1), .val (.ref b4), .val (.int off), .val (.int cnt), .val (.int ln), .unset, .unset] [(.int (p5 &&& (4 : Int32)))]))
    by_cases hc17 : (p5 &&& (4 : Int32)) = (0 : Int32)
    · refine own_step (fun _ κ => XS.ifYes Xj.here hx rfl (pc0 := 98) (pc' := 126) rfl (hb hby at_98) rfl ((if0 _ _).trans (teq hc17).1) (by decide) (by decide) κ) ?_
      show own_Go _ _ _ _ (Tj.setTop (mkF m 126 #[.val (.int p0), .val (.int p1), .val (.int p2), .val (.int p3), .val (.int p4), .val (.int p5), .val (.ref b1), .val (.ref b4), .val (.int off), .val (.int cnt), .val (.int ln), .unset, .unset] []))
      refine own_step (fun _ κ => XS.aload Xj.here hx rfl (hb hby at_126) rfl rfl κ) ?_
      show own_Go _ _ _ _ (Tj.setTop (mkF m 128 #[.val (.int p0), .val (.int p1), .val (.int p2), .val (.int p3), .val (.int p4), .val (.int p5), .val (.ref b1), .val (.ref b4), .val (.int off), .val (.int cnt), .val (.int ln), .unset, .unset] [(.ref b4)]))
      obtain ⟨cq18, kq18, q18a, q18b, q18c⟩ := isOf hZ rfl Ej
      obtain ⟨vr18, _, ⟨T18, L18, k18, n18⟩, -, X18, ⟨Lc18, hQ18, l18, y18, z18⟩, st18⟩ := Xj.virtualBack hx (y := (⟨"com/example/lens_on_archives/lensonarchives/Bytes", "toArray", "()[B"⟩ : MethodName)) (z := (⟨"com/example/lens_on_archives/lensonarchives/Bytes", "toArray", "()[B"⟩ : MethodName)) hown (mvT hZ (hw _ (List.mem_of_getElem? (i := 16) rfl))) (mvT hZ (hw _ (List.mem_of_getElem? (i := 17) rfl))) (notFace_of_selects (args := #[]) (mvT hZ (hw _ (List.mem_of_getElem? (i := 19) rfl)))) (mvT hZ (hw _ (List.mem_of_getElem? (i := 19) rfl))) (mvT hZ (hw _ (List.mem_of_getElem? (i := 18) rfl))) (by decide) (backOf (W := 0) (rm11 l Z a0 hw [] b4 bj nj gj ln Tj.heap n0 zj Fbj Fsj Vj (own_nn hz.1) (own_n34 (Int.le_trans hz.2 (by decide)))) hZ (hw _ (List.mem_of_getElem? (i := 20) rfl)) (hw _ (List.mem_of_getElem? (i := 3) rfl)) (by decide) (by decide)) q18a q18c (g := (mkF m 128 #[.val (.int p0), .val (.int p1), .val (.int p2), .val (.int p3), .val (.int p4), .val (.int p5), .val (.ref b1), .val (.ref b4), .val (.int off), .val (.int cnt), .val (.int ln), .unset, .unset] [(.ref b4)])) rfl (by rw [hml]; rfl) (Steps.refl _) (argsL := []) (rest := []) (lenOf pd_4 rfl) rfl (by show 2 * 0 + _ ≤ _; exact Nat.le_of_eq rfl) (hb hby at_128) (fun _ _ => ⟨rfl, rfl, (by decide : 4 + 1 ≤ _), (by decide : 82 + 34 ≤ _)⟩)
      dsimp only [Pt.U, Pt.locs, Pt.cells, Pt.slots] at X18 l18 y18 z18 st18 hQ18
      subst l18 y18 z18
      obtain ⟨r19, rfl, Nq18, Kq18, p18_0, p18_1⟩ := hQ18
      have N18 := Fr.app Nj Nq18
      have ne20 : b4 ≠ r19 := Nat.ne_of_lt (Nat.lt_of_lt_of_le Ej.lt p18_0)
      have ne21 : bj ≠ r19 := Nat.ne_of_lt (Nat.lt_of_lt_of_le Vj.lt p18_0)
      have ge22 : n0 ≤ r19 := Nat.le_trans zj p18_0
      have f23 := Ej.keep Kq18
      have f24 := Fbj.keep Kq18 nin0
      have f25 := Fsj.keep Kq18 nin0
      have f26 := Vj.keep Kq18 nin0
      have z27 : n0 ≤ T18.heap.size := Nat.le_trans zj Kq18.1
      refine own_step (fun _ κ => st18.trans κ) ?_
      show own_Go _ _ _ _ (T18.setTop (mkF m 131 #[.val (.int p0), .val (.int p1), .val (.int p2), .val (.int p3), .val (.int p4), .val (.int p5), .val (.ref b1), .val (.ref b4), .val (.int off), .val (.int cnt), .val (.int ln), .unset, .unset] [(.ref r19)]))
      refine own_step (fun _ κ => XS.astore X18.here hx rfl (hb hby at_131) rfl rfl (l' := #[.val (.int p0), .val (.int p1), .val (.int p2), .val (.int p3), .val (.int p4), .val (.int p5), .val (.ref b1), .val (.ref b4), .val (.int off), .val (.int cnt), .val (.int ln), .val (.ref r19), .unset]) rfl κ) ?_
      show own_Go _ _ _ _ (T18.setTop (mkF m 133 #[.val (.int p0), .val (.int p1), .val (.int p2), .val (.int p3), .val (.int p4), .val (.int p5), .val (.ref b1), .val (.ref b4), .val (.int off), .val (.int cnt), .val (.int ln), .val (.ref r19), .unset] []))
      refine own_step (fun _ κ => XS.aload X18.here hx rfl (hb hby at_133) rfl rfl κ) ?_
      show own_Go _ _ _ _ (T18.setTop (mkF m 135 #[.val (.int p0), .val (.int p1), .val (.int p2), .val (.int p3), .val (.int p4), .val (.int p5), .val (.ref b1), .val (.ref b4), .val (.int off), .val (.int cnt), .val (.int ln), .val (.ref r19), .unset] [(.ref r19)]))
      obtain ⟨cl28, Ar28, Sz28, Nz28, -⟩ := p18_1.opened
      refine own_step (fun _ κ => X18.arraylength hx Ar28.1 (State.isArrayOf_alike hZ.alike Ar28.2.1) (g := (mkF m 135 #[.val (.int p0), .val (.int p1), .val (.int p2), .val (.int p3), .val (.int p4), .val (.int p5), .val (.ref b1), .val (.ref b4), .val (.int off), .val (.int cnt), .val (.int ln), .val (.ref r19), .unset] [(.ref r19)])) rfl rfl (hb hby at_135) _ κ) ?_
      rw [len_of Sz28 Nz28]
      show own_Go _ _ _ _ (T18.setTop (mkF m 136 #[.val (.int p0), .val (.int p1), .val (.int p2), .val (.int p3), .val (.int p4), .val (.int p5), .val (.ref b1), .val (.ref b4), .val (.int off), .val (.int cnt), .val (.int ln), .val (.ref r19), .unset] [(.int ln)]))
      refine own_step (fun _ κ => XS.iload X18.here hx rfl (hb hby at_136) rfl κ) ?_
      show own_Go _ _ _ _ (T18.setTop (mkF m 138 #[.val (.int p0), .val (.int p1), .val (.int p2), .val (.int p3), .val (.int p4), .val (.int p5), .val (.ref b1), .val (.ref b4), .val (.int off), .val (.int cnt), .val (.int ln), .val (.ref r19), .unset] [(.int ln), (.int ln)]))
      refine own_step (fun _ κ => XS.icmpYes X18.here hx rfl (pc0 := 138) (pc' := 143) rfl (hb hby at_138) rfl (teq rfl).1 (by decide) (by decide) κ) ?_
      show own_Go _ _ _ _ (T18.setTop (mkF m 143 #[.val (.int p0), .val (.int p1), .val (.int p2), .val (.int p3), .val (.int p4), .val (.int p5), .val (.ref b1), .val (.ref b4), .val (.int off), .val (.int cnt), .val (.int ln), .val (.ref r19), .unset] []))
      refine own_step (fun _ κ => XS.aload X18.here hx rfl (hb hby at_143) rfl rfl κ) ?_
      show own_Go _ _ _ _ (T18.setTop (mkF m 145 #[.val (.int p0), .val (.int p1), .val (.int p2), .val (.int p3), .val (.int p4), .val (.int p5), .val (.ref b1), .val (.ref b4), .val (.int off), .val (.int cnt), .val (.int ln), .val (.ref r19), .unset] [(.ref r19)]))
      refine own_step (fun _ κ => XS.iload X18.here hx rfl (hb hby at_145) rfl κ) ?_
      show own_Go _ _ _ _ (T18.setTop (mkF m 147 #[.val (.int p0), .val (.int p1), .val (.int p2), .val (.int p3), .val (.int p4), .val (.int p5), .val (.ref b1), .val (.ref b4), .val (.int off), .val (.int cnt), .val (.int ln), .val (.ref r19), .unset] [(.int ln), (.ref r19)]))
      refine own_step (fun _ κ => XS.iload X18.here hx rfl (hb hby at_147) rfl κ) ?_
      show own_Go _ _ _ _ (T18.setTop (mkF m 149 #[.val (.int p0), .val (.int p1), .val (.int p2), .val (.int p3), .val (.int p4), .val (.int p5), .val (.ref b1), .val (.ref b4), .val (.int off), .val (.int cnt), .val (.int ln), .val (.ref r19), .unset] [(.int off), (.int ln), (.ref r19)]))
      refine own_step (fun _ κ => XS.iloadN X18.here hx rfl (hb hby at_149) rfl κ) ?_
      show own_Go _ _ _ _ (T18.setTop (mkF m 150 #[.val (.int p0), .val (.int p1), .val (.int p2), .val (.int p3), .val (.int p4), .val (.int p5), .val (.ref b1), .val (.ref b4), .val (.int off), .val (.int cnt), .val (.int ln), .val (.ref r19), .unset] [(.int p1), (.int off), (.int ln), (.ref r19)]))
      refine own_step (fun _ κ => XS.iloadN X18.here hx rfl (hb hby at_150) rfl κ) ?_
      show own_Go _ _ _ _ (T18.setTop (mkF m 151 #[.val (.int p0), .val (.int p1), .val (.int p2), .val (.int p3), .val (.int p4), .val (.int p5), .val (.ref b1), .val (.ref b4), .val (.int off), .val (.int cnt), .val (.int ln), .val (.ref r19), .unset] [(.int p2), (.int p1), (.int off), (.int ln), (.ref r19)]))
      refine own_step (fun _ κ => XS.iloadN X18.here hx rfl (hb hby at_151) rfl κ) ?_
      show own_Go _ _ _ _ (T18.setTop (mkF m 152 #[.val (.int p0), .val (.int p1), .val (.int p2), .val (.int p3), .val (.int p4), .val (.int p5), .val (.ref b1), .val (.ref b4), .val (.int off), .val (.int cnt), .val (.int ln), .val (.ref r19), .unset] [(.int p3), (.int p2), (.int p1), (.int off), (.int ln), (.ref r19)]))
      refine own_step (fun _ κ => XS.iconst X18.here hx rfl (hb hby at_152) κ) ?_
      show own_Go _ _ _ _ (T18.setTop (mkF m 153 #[.val (.int p0), .val (.int p1), .val (.int p2), .val (.int p3), .val (.int p4), .val (.int p5), .val (.ref b1), .val (.ref b4), .val (.int off), .val (.int cnt), .val (.int ln), .val (.ref r19), .unset] [(.int (0 : Int32)), (.int p3), (.int p2), (.int p1), (.int off), (.int ln), (.ref r19)]))
      obtain ⟨vr29, _, ⟨T29, L29, k29, n29⟩, -, X29, ⟨Lc29, hQ29, l29, y29, z29⟩, st29⟩ := Jvm.LawKit.callS X18 hx (y := (⟨"com/example/lens_on_archives/lensonarchives/BytesToArrayPinLaw", "ok", "([BIIIIII)Z"⟩ : MethodName)) hown (mvT hZ (hw _ (List.mem_of_getElem? (i := 34) rfl))) (mvT hZ (hw _ (List.mem_of_getElem? (i := 35) rfl))) (mvT hZ (hw _ (List.mem_of_getElem? (i := 36) rfl))) (mvT hZ (hw _ (List.mem_of_getElem? (i := 37) rfl))) (by decide) (backOf (W := 0) (rm13 l Z a0 hw [] r19 ln off p1 p2 p3 (0 : Int32) (own_cut gj nj) T18.heap n0 z27 p18_1 (fun h1 h2 => (hG.cut hzn) _ h1 h2)) hZ (hw _ (List.mem_of_getElem? (i := 37) rfl)) (hw _ (List.mem_of_getElem? (i := 36) rfl)) (by decide) (by decide)) (g := (mkF m 153 #[.val (.int p0), .val (.int p1), .val (.int p2), .val (.int p3), .val (.int p4), .val (.int p5), .val (.ref b1), .val (.ref b4), .val (.int off), .val (.int cnt), .val (.int ln), .val (.ref r19), .unset] [(.int (0 : Int32)), (.int p3), (.int p2), (.int p1), (.int off), (.int ln), (.ref r19)])) rfl (by rw [hml]; rfl) (argsL := [(.ref r19), (.int ln), (.int off), (.int p1), (.int p2), (.int p3), (.int (0 : Int32))]) (rest := []) (lenOf pd_5 rfl) rfl (by show 2 * 0 + _ ≤ _; exact Nat.le_of_eq rfl) (hb hby at_153) (fun _ _ => ⟨rfl, rfl, (by decide : 5 + 0 ≤ _), (by decide : 116 + 0 ≤ _)⟩)
      dsimp only [Pt.U, Pt.locs, Pt.cells, Pt.slots] at X29 l29 y29 z29 st29 hQ29
      subst l29 y29 z29
      obtain ⟨rfl, Nq29, eq29⟩ := hQ29
      have N29 := Fr.app N18 Nq29
      refine own_step st29 ?_
      show own_Go _ _ _ _ (T29.setTop (mkF m 156 #[.val (.int p0), .val (.int p1), .val (.int p2), .val (.int p3), .val (.int p4), .val (.int p5), .val (.ref b1), .val (.ref b4), .val (.int off), .val (.int cnt), .val (.int ln), .val (.ref r19), .unset] [(.int (1 : Int32))]))
      refine own_step (fun _ κ => XS.ifYes X29.here hx rfl (pc0 := 156) (pc' := 161) rfl (hb hby at_156) rfl ((if0 _ _).trans (feq (by decide)).2) (by decide) (by decide) κ) ?_
      show own_Go _ _ _ _ (T29.setTop (mkF m 161 #[.val (.int p0), .val (.int p1), .val (.int p2), .val (.int p3), .val (.int p4), .val (.int p5), .val (.ref b1), .val (.ref b4), .val (.int off), .val (.int cnt), .val (.int ln), .val (.ref r19), .unset] []))
      refine own_step (fun _ κ => XS.aload X29.here hx rfl (hb hby at_161) rfl rfl κ) ?_
      show own_Go _ _ _ _ (T29.setTop (mkF m 163 #[.val (.int p0), .val (.int p1), .val (.int p2), .val (.int p3), .val (.int p4), .val (.int p5), .val (.ref b1), .val (.ref b4), .val (.int off), .val (.int cnt), .val (.int ln), .val (.ref r19), .unset] [(.ref r19)]))
      refine own_step (fun _ κ => XS.iload X29.here hx rfl (hb hby at_163) rfl κ) ?_
      show own_Go _ _ _ _ (T29.setTop (mkF m 165 #[.val (.int p0), .val (.int p1), .val (.int p2), .val (.int p3), .val (.int p4), .val (.int p5), .val (.ref b1), .val (.ref b4), .val (.int off), .val (.int cnt), .val (.int ln), .val (.ref r19), .unset] [(.int ln), (.ref r19)]))
      refine own_step (fun _ κ => XS.iload X29.here hx rfl (hb hby at_165) rfl κ) ?_
      show own_Go _ _ _ _ (T29.setTop (mkF m 167 #[.val (.int p0), .val (.int p1), .val (.int p2), .val (.int p3), .val (.int p4), .val (.int p5), .val (.ref b1), .val (.ref b4), .val (.int off), .val (.int cnt), .val (.int ln), .val (.ref r19), .unset] [(.int off), (.int ln), (.ref r19)]))
      refine own_step (fun _ κ => XS.iloadN X29.here hx rfl (hb hby at_167) rfl κ) ?_
      show own_Go _ _ _ _ (T29.setTop (mkF m 168 #[.val (.int p0), .val (.int p1), .val (.int p2), .val (.int p3), .val (.int p4), .val (.int p5), .val (.ref b1), .val (.ref b4), .val (.int off), .val (.int cnt), .val (.int ln), .val (.ref r19), .unset] [(.int p1), (.int off), (.int ln), (.ref r19)]))
      refine own_step (fun _ κ => XS.iloadN X29.here hx rfl (hb hby at_168) rfl κ) ?_
      show own_Go _ _ _ _ (T29.setTop (mkF m 169 #[.val (.int p0), .val (.int p1), .val (.int p2), .val (.int p3), .val (.int p4), .val (.int p5), .val (.ref b1), .val (.ref b4), .val (.int off), .val (.int cnt), .val (.int ln), .val (.ref r19), .unset] [(.int p2), (.int p1), (.int off), (.int ln), (.ref r19)]))
      refine own_step (fun _ κ => XS.iloadN X29.here hx rfl (hb hby at_169) rfl κ) ?_
      show own_Go _ _ _ _ (T29.setTop (mkF m 170 #[.val (.int p0), .val (.int p1), .val (.int p2), .val (.int p3), .val (.int p4), .val (.int p5), .val (.ref b1), .val (.ref b4), .val (.int off), .val (.int cnt), .val (.int ln), .val (.ref r19), .unset] [(.int p3), (.int p2), (.int p1), (.int off), (.int ln), (.ref r19)]))
      refine own_step (fun _ κ => XS.iload X29.here hx rfl (hb hby at_170) rfl κ) ?_
      show own_Go _ _ _ _ (T29.setTop (mkF m 172 #[.val (.int p0), .val (.int p1), .val (.int p2), .val (.int p3), .val (.int p4), .val (.int p5), .val (.ref b1), .val (.ref b4), .val (.int off), .val (.int cnt), .val (.int ln), .val (.ref r19), .unset] [(.int off), (.int p3), (.int p2), (.int p1), (.int off), (.int ln), (.ref r19)]))
      refine own_step (fun _ κ => XS.iconst X29.here hx rfl (hb hby at_172) κ) ?_
      show own_Go _ _ _ _ (T29.setTop (mkF m 173 #[.val (.int p0), .val (.int p1), .val (.int p2), .val (.int p3), .val (.int p4), .val (.int p5), .val (.ref b1), .val (.ref b4), .val (.int off), .val (.int cnt), .val (.int ln), .val (.ref r19), .unset] [(.int (1 : Int32)), (.int off), (.int p3), (.int p2), (.int p1), (.int off), (.int ln), (.ref r19)]))
      refine own_step (fun _ κ => XS.isub X29.here hx rfl (hb hby at_173) rfl κ) ?_
      show own_Go _ _ _ _ (T29.setTop (mkF m 174 #[.val (.int p0), .val (.int p1), .val (.int p2), .val (.int p3), .val (.int p4), .val (.int p5), .val (.ref b1), .val (.ref b4), .val (.int off), .val (.int cnt), .val (.int ln), .val (.ref r19), .unset] [(.int (off - (1 : Int32))), (.int p3), (.int p2), (.int p1), (.int off), (.int ln), (.ref r19)]))
      obtain ⟨vr30, _, ⟨T30, L30, k30, n30⟩, -, X30, ⟨Lc30, hQ30, l30, y30, z30⟩, st30⟩ := Jvm.LawKit.callS X29 hx (y := (⟨"com/example/lens_on_archives/lensonarchives/BytesToArrayPinLaw", "ok", "([BIIIIII)Z"⟩ : MethodName)) hown (mvT hZ (hw _ (List.mem_of_getElem? (i := 34) rfl))) (mvT hZ (hw _ (List.mem_of_getElem? (i := 35) rfl))) (mvT hZ (hw _ (List.mem_of_getElem? (i := 36) rfl))) (mvT hZ (hw _ (List.mem_of_getElem? (i := 37) rfl))) (by decide) (backOf (W := 0) (rm13 l Z a0 hw [] r19 ln off p1 p2 p3 (off - (1 : Int32)) (own_cut gj nj) T18.heap n0 z27 p18_1 (fun h1 h2 => (hG.cut hzn) _ h1 h2)) hZ (hw _ (List.mem_of_getElem? (i := 37) rfl)) (hw _ (List.mem_of_getElem? (i := 36) rfl)) (by decide) (by decide)) (g := (mkF m 174 #[.val (.int p0), .val (.int p1), .val (.int p2), .val (.int p3), .val (.int p4), .val (.int p5), .val (.ref b1), .val (.ref b4), .val (.int off), .val (.int cnt), .val (.int ln), .val (.ref r19), .unset] [(.int (off - (1 : Int32))), (.int p3), (.int p2), (.int p1), (.int off), (.int ln), (.ref r19)])) rfl (by rw [hml]; rfl) (argsL := [(.ref r19), (.int ln), (.int off), (.int p1), (.int p2), (.int p3), (.int (off - (1 : Int32)))]) (rest := []) (lenOf pd_5 rfl) rfl (by show 2 * 0 + _ ≤ _; exact Nat.le_of_eq rfl) (hb hby at_174) (fun _ _ => ⟨rfl, eq29, (by decide : 5 + 0 ≤ _), (by decide : 116 + 0 ≤ _)⟩)
      dsimp only [Pt.U, Pt.locs, Pt.cells, Pt.slots] at X30 l30 y30 z30 st30 hQ30
      subst l30 y30 z30
      obtain ⟨rfl, Nq30, eq30⟩ := hQ30
      have N30 := Fr.app N29 Nq30
      refine own_step st30 ?_
      show own_Go _ _ _ _ (T30.setTop (mkF m 177 #[.val (.int p0), .val (.int p1), .val (.int p2), .val (.int p3), .val (.int p4), .val (.int p5), .val (.ref b1), .val (.ref b4), .val (.int off), .val (.int cnt), .val (.int ln), .val (.ref r19), .unset] [(.int (1 : Int32))]))
      refine own_step (fun _ κ => XS.ifYes X30.here hx rfl (pc0 := 177) (pc' := 182) rfl (hb hby at_177) rfl ((if0 _ _).trans (feq (by decide)).2) (by decide) (by decide) κ) ?_
      show own_Go _ _ _ _ (T30.setTop (mkF m 182 #[.val (.int p0), .val (.int p1), .val (.int p2), .val (.int p3), .val (.int p4), .val (.int p5), .val (.ref b1), .val (.ref b4), .val (.int off), .val (.int cnt), .val (.int ln), .val (.ref r19), .unset] []))
      refine own_step (fun _ κ => XS.aload X30.here hx rfl (hb hby at_182) rfl rfl κ) ?_
      show own_Go _ _ _ _ (T30.setTop (mkF m 184 #[.val (.int p0), .val (.int p1), .val (.int p2), .val (.int p3), .val (.int p4), .val (.int p5), .val (.ref b1), .val (.ref b4), .val (.int off), .val (.int cnt), .val (.int ln), .val (.ref r19), .unset] [(.ref r19)]))
      refine own_step (fun _ κ => XS.iload X30.here hx rfl (hb hby at_184) rfl κ) ?_
      show own_Go _ _ _ _ (T30.setTop (mkF m 186 #[.val (.int p0), .val (.int p1), .val (.int p2), .val (.int p3), .val (.int p4), .val (.int p5), .val (.ref b1), .val (.ref b4), .val (.int off), .val (.int cnt), .val (.int ln), .val (.ref r19), .unset] [(.int ln), (.ref r19)]))
      refine own_step (fun _ κ => XS.iload X30.here hx rfl (hb hby at_186) rfl κ) ?_
      show own_Go _ _ _ _ (T30.setTop (mkF m 188 #[.val (.int p0), .val (.int p1), .val (.int p2), .val (.int p3), .val (.int p4), .val (.int p5), .val (.ref b1), .val (.ref b4), .val (.int off), .val (.int cnt), .val (.int ln), .val (.ref r19), .unset] [(.int off), (.int ln), (.ref r19)]))
      refine own_step (fun _ κ => XS.iloadN X30.here hx rfl (hb hby at_188) rfl κ) ?_
      show own_Go _ _ _ _ (T30.setTop (mkF m 189 #[.val (.int p0), .val (.int p1), .val (.int p2), .val (.int p3), .val (.int p4), .val (.int p5), .val (.ref b1), .val (.ref b4), .val (.int off), .val (.int cnt), .val (.int ln), .val (.ref r19), .unset] [(.int p1), (.int off), (.int ln), (.ref r19)]))
      refine own_step (fun _ κ => XS.iloadN X30.here hx rfl (hb hby at_189) rfl κ) ?_
      show own_Go _ _ _ _ (T30.setTop (mkF m 190 #[.val (.int p0), .val (.int p1), .val (.int p2), .val (.int p3), .val (.int p4), .val (.int p5), .val (.ref b1), .val (.ref b4), .val (.int off), .val (.int cnt), .val (.int ln), .val (.ref r19), .unset] [(.int p2), (.int p1), (.int off), (.int ln), (.ref r19)]))
      refine own_step (fun _ κ => XS.iloadN X30.here hx rfl (hb hby at_190) rfl κ) ?_
      show own_Go _ _ _ _ (T30.setTop (mkF m 191 #[.val (.int p0), .val (.int p1), .val (.int p2), .val (.int p3), .val (.int p4), .val (.int p5), .val (.ref b1), .val (.ref b4), .val (.int off), .val (.int cnt), .val (.int ln), .val (.ref r19), .unset] [(.int p3), (.int p2), (.int p1), (.int off), (.int ln), (.ref r19)]))
      refine own_step (fun _ κ => XS.iload X30.here hx rfl (hb hby at_191) rfl κ) ?_
      show own_Go _ _ _ _ (T30.setTop (mkF m 193 #[.val (.int p0), .val (.int p1), .val (.int p2), .val (.int p3), .val (.int p4), .val (.int p5), .val (.ref b1), .val (.ref b4), .val (.int off), .val (.int cnt), .val (.int ln), .val (.ref r19), .unset] [(.int off), (.int p3), (.int p2), (.int p1), (.int off), (.int ln), (.ref r19)]))
      obtain ⟨vr31, _, ⟨T31, L31, k31, n31⟩, -, X31, ⟨Lc31, hQ31, l31, y31, z31⟩, st31⟩ := Jvm.LawKit.callS X30 hx (y := (⟨"com/example/lens_on_archives/lensonarchives/BytesToArrayPinLaw", "ok", "([BIIIIII)Z"⟩ : MethodName)) hown (mvT hZ (hw _ (List.mem_of_getElem? (i := 34) rfl))) (mvT hZ (hw _ (List.mem_of_getElem? (i := 35) rfl))) (mvT hZ (hw _ (List.mem_of_getElem? (i := 36) rfl))) (mvT hZ (hw _ (List.mem_of_getElem? (i := 37) rfl))) (by decide) (backOf (W := 0) (rm13 l Z a0 hw [] r19 ln off p1 p2 p3 off (own_cut gj nj) T18.heap n0 z27 p18_1 (fun h1 h2 => (hG.cut hzn) _ h1 h2)) hZ (hw _ (List.mem_of_getElem? (i := 37) rfl)) (hw _ (List.mem_of_getElem? (i := 36) rfl)) (by decide) (by decide)) (g := (mkF m 193 #[.val (.int p0), .val (.int p1), .val (.int p2), .val (.int p3), .val (.int p4), .val (.int p5), .val (.ref b1), .val (.ref b4), .val (.int off), .val (.int cnt), .val (.int ln), .val (.ref r19), .unset] [(.int off), (.int p3), (.int p2), (.int p1), (.int off), (.int ln), (.ref r19)])) rfl (by rw [hml]; rfl) (argsL := [(.ref r19), (.int ln), (.int off), (.int p1), (.int p2), (.int p3), (.int off)]) (rest := []) (lenOf pd_5 rfl) rfl (by show 2 * 0 + _ ≤ _; exact Nat.le_of_eq rfl) (hb hby at_193) (fun _ _ => ⟨rfl, eq30, (by decide : 5 + 0 ≤ _), (by decide : 116 + 0 ≤ _)⟩)
      dsimp only [Pt.U, Pt.locs, Pt.cells, Pt.slots] at X31 l31 y31 z31 st31 hQ31
      subst l31 y31 z31
      obtain ⟨rfl, Nq31, eq31⟩ := hQ31
      have N31 := Fr.app N30 Nq31
      refine own_step st31 ?_
      show own_Go _ _ _ _ (T31.setTop (mkF m 196 #[.val (.int p0), .val (.int p1), .val (.int p2), .val (.int p3), .val (.int p4), .val (.int p5), .val (.ref b1), .val (.ref b4), .val (.int off), .val (.int cnt), .val (.int ln), .val (.ref r19), .unset] [(.int (1 : Int32))]))
      refine own_step (fun _ κ => XS.ifYes X31.here hx rfl (pc0 := 196) (pc' := 201) rfl (hb hby at_196) rfl ((if0 _ _).trans (feq (by decide)).2) (by decide) (by decide) κ) ?_
      show own_Go _ _ _ _ (T31.setTop (mkF m 201 #[.val (.int p0), .val (.int p1), .val (.int p2), .val (.int p3), .val (.int p4), .val (.int p5), .val (.ref b1), .val (.ref b4), .val (.int off), .val (.int cnt), .val (.int ln), .val (.ref r19), .unset] []))
      refine own_step (fun _ κ => XS.aload X31.here hx rfl (hb hby at_201) rfl rfl κ) ?_
      show own_Go _ _ _ _ (T31.setTop (mkF m 203 #[.val (.int p0), .val (.int p1), .val (.int p2), .val (.int p3), .val (.int p4), .val (.int p5), .val (.ref b1), .val (.ref b4), .val (.int off), .val (.int cnt), .val (.int ln), .val (.ref r19), .unset] [(.ref r19)]))
      refine own_step (fun _ κ => XS.iload X31.here hx rfl (hb hby at_203) rfl κ) ?_
      show own_Go _ _ _ _ (T31.setTop (mkF m 205 #[.val (.int p0), .val (.int p1), .val (.int p2), .val (.int p3), .val (.int p4), .val (.int p5), .val (.ref b1), .val (.ref b4), .val (.int off), .val (.int cnt), .val (.int ln), .val (.ref r19), .unset] [(.int ln), (.ref r19)]))
      refine own_step (fun _ κ => XS.iload X31.here hx rfl (hb hby at_205) rfl κ) ?_
      show own_Go _ _ _ _ (T31.setTop (mkF m 207 #[.val (.int p0), .val (.int p1), .val (.int p2), .val (.int p3), .val (.int p4), .val (.int p5), .val (.ref b1), .val (.ref b4), .val (.int off), .val (.int cnt), .val (.int ln), .val (.ref r19), .unset] [(.int off), (.int ln), (.ref r19)]))
      refine own_step (fun _ κ => XS.iloadN X31.here hx rfl (hb hby at_207) rfl κ) ?_
      show own_Go _ _ _ _ (T31.setTop (mkF m 208 #[.val (.int p0), .val (.int p1), .val (.int p2), .val (.int p3), .val (.int p4), .val (.int p5), .val (.ref b1), .val (.ref b4), .val (.int off), .val (.int cnt), .val (.int ln), .val (.ref r19), .unset] [(.int p1), (.int off), (.int ln), (.ref r19)]))
      refine own_step (fun _ κ => XS.iloadN X31.here hx rfl (hb hby at_208) rfl κ) ?_
      show own_Go _ _ _ _ (T31.setTop (mkF m 209 #[.val (.int p0), .val (.int p1), .val (.int p2), .val (.int p3), .val (.int p4), .val (.int p5), .val (.ref b1), .val (.ref b4), .val (.int off), .val (.int cnt), .val (.int ln), .val (.ref r19), .unset] [(.int p2), (.int p1), (.int off), (.int ln), (.ref r19)]))
      refine own_step (fun _ κ => XS.iloadN X31.here hx rfl (hb hby at_209) rfl κ) ?_
      show own_Go _ _ _ _ (T31.setTop (mkF m 210 #[.val (.int p0), .val (.int p1), .val (.int p2), .val (.int p3), .val (.int p4), .val (.int p5), .val (.ref b1), .val (.ref b4), .val (.int off), .val (.int cnt), .val (.int ln), .val (.ref r19), .unset] [(.int p3), (.int p2), (.int p1), (.int off), (.int ln), (.ref r19)]))
      refine own_step (fun _ κ => XS.iload X31.here hx rfl (hb hby at_210) rfl κ) ?_
      show own_Go _ _ _ _ (T31.setTop (mkF m 212 #[.val (.int p0), .val (.int p1), .val (.int p2), .val (.int p3), .val (.int p4), .val (.int p5), .val (.ref b1), .val (.ref b4), .val (.int off), .val (.int cnt), .val (.int ln), .val (.ref r19), .unset] [(.int off), (.int p3), (.int p2), (.int p1), (.int off), (.int ln), (.ref r19)]))
      refine own_step (fun _ κ => XS.iconst X31.here hx rfl (hb hby at_212) κ) ?_
      show own_Go _ _ _ _ (T31.setTop (mkF m 213 #[.val (.int p0), .val (.int p1), .val (.int p2), .val (.int p3), .val (.int p4), .val (.int p5), .val (.ref b1), .val (.ref b4), .val (.int off), .val (.int cnt), .val (.int ln), .val (.ref r19), .unset] [(.int (1 : Int32)), (.int off), (.int p3), (.int p2), (.int p1), (.int off), (.int ln), (.ref r19)]))
      refine own_step (fun _ κ => XS.iadd X31.here hx rfl (hb hby at_213) rfl κ) ?_
      show own_Go _ _ _ _ (T31.setTop (mkF m 214 #[.val (.int p0), .val (.int p1), .val (.int p2), .val (.int p3), .val (.int p4), .val (.int p5), .val (.ref b1), .val (.ref b4), .val (.int off), .val (.int cnt), .val (.int ln), .val (.ref r19), .unset] [(.int (off + (1 : Int32))), (.int p3), (.int p2), (.int p1), (.int off), (.int ln), (.ref r19)]))
      obtain ⟨vr32, _, ⟨T32, L32, k32, n32⟩, -, X32, ⟨Lc32, hQ32, l32, y32, z32⟩, st32⟩ := Jvm.LawKit.callS X31 hx (y := (⟨"com/example/lens_on_archives/lensonarchives/BytesToArrayPinLaw", "ok", "([BIIIIII)Z"⟩ : MethodName)) hown (mvT hZ (hw _ (List.mem_of_getElem? (i := 34) rfl))) (mvT hZ (hw _ (List.mem_of_getElem? (i := 35) rfl))) (mvT hZ (hw _ (List.mem_of_getElem? (i := 36) rfl))) (mvT hZ (hw _ (List.mem_of_getElem? (i := 37) rfl))) (by decide) (backOf (W := 0) (rm13 l Z a0 hw [] r19 ln off p1 p2 p3 (off + (1 : Int32)) (own_cut gj nj) T18.heap n0 z27 p18_1 (fun h1 h2 => (hG.cut hzn) _ h1 h2)) hZ (hw _ (List.mem_of_getElem? (i := 37) rfl)) (hw _ (List.mem_of_getElem? (i := 36) rfl)) (by decide) (by decide)) (g := (mkF m 214 #[.val (.int p0), .val (.int p1), .val (.int p2), .val (.int p3), .val (.int p4), .val (.int p5), .val (.ref b1), .val (.ref b4), .val (.int off), .val (.int cnt), .val (.int ln), .val (.ref r19), .unset] [(.int (off + (1 : Int32))), (.int p3), (.int p2), (.int p1), (.int off), (.int ln), (.ref r19)])) rfl (by rw [hml]; rfl) (argsL := [(.ref r19), (.int ln), (.int off), (.int p1), (.int p2), (.int p3), (.int (off + (1 : Int32)))]) (rest := []) (lenOf pd_5 rfl) rfl (by show 2 * 0 + _ ≤ _; exact Nat.le_of_eq rfl) (hb hby at_214) (fun _ _ => ⟨rfl, eq31, (by decide : 5 + 0 ≤ _), (by decide : 116 + 0 ≤ _)⟩)
      dsimp only [Pt.U, Pt.locs, Pt.cells, Pt.slots] at X32 l32 y32 z32 st32 hQ32
      subst l32 y32 z32
      obtain ⟨rfl, Nq32, eq32⟩ := hQ32
      have N32 := Fr.app N31 Nq32
      refine own_step st32 ?_
      show own_Go _ _ _ _ (T32.setTop (mkF m 217 #[.val (.int p0), .val (.int p1), .val (.int p2), .val (.int p3), .val (.int p4), .val (.int p5), .val (.ref b1), .val (.ref b4), .val (.int off), .val (.int cnt), .val (.int ln), .val (.ref r19), .unset] [(.int (1 : Int32))]))
      refine own_step (fun _ κ => XS.ifYes X32.here hx rfl (pc0 := 217) (pc' := 222) rfl (hb hby at_217) rfl ((if0 _ _).trans (feq (by decide)).2) (by decide) (by decide) κ) ?_
      show own_Go _ _ _ _ (T32.setTop (mkF m 222 #[.val (.int p0), .val (.int p1), .val (.int p2), .val (.int p3), .val (.int p4), .val (.int p5), .val (.ref b1), .val (.ref b4), .val (.int off), .val (.int cnt), .val (.int ln), .val (.ref r19), .unset] []))
      refine own_step (fun _ κ => XS.aload X32.here hx rfl (hb hby at_222) rfl rfl κ) ?_
      show own_Go _ _ _ _ (T32.setTop (mkF m 224 #[.val (.int p0), .val (.int p1), .val (.int p2), .val (.int p3), .val (.int p4), .val (.int p5), .val (.ref b1), .val (.ref b4), .val (.int off), .val (.int cnt), .val (.int ln), .val (.ref r19), .unset] [(.ref r19)]))
      refine own_step (fun _ κ => XS.iload X32.here hx rfl (hb hby at_224) rfl κ) ?_
      show own_Go _ _ _ _ (T32.setTop (mkF m 226 #[.val (.int p0), .val (.int p1), .val (.int p2), .val (.int p3), .val (.int p4), .val (.int p5), .val (.ref b1), .val (.ref b4), .val (.int off), .val (.int cnt), .val (.int ln), .val (.ref r19), .unset] [(.int ln), (.ref r19)]))
      refine own_step (fun _ κ => XS.iload X32.here hx rfl (hb hby at_226) rfl κ) ?_
      show own_Go _ _ _ _ (T32.setTop (mkF m 228 #[.val (.int p0), .val (.int p1), .val (.int p2), .val (.int p3), .val (.int p4), .val (.int p5), .val (.ref b1), .val (.ref b4), .val (.int off), .val (.int cnt), .val (.int ln), .val (.ref r19), .unset] [(.int off), (.int ln), (.ref r19)]))
      refine own_step (fun _ κ => XS.iloadN X32.here hx rfl (hb hby at_228) rfl κ) ?_
      show own_Go _ _ _ _ (T32.setTop (mkF m 229 #[.val (.int p0), .val (.int p1), .val (.int p2), .val (.int p3), .val (.int p4), .val (.int p5), .val (.ref b1), .val (.ref b4), .val (.int off), .val (.int cnt), .val (.int ln), .val (.ref r19), .unset] [(.int p1), (.int off), (.int ln), (.ref r19)]))
      refine own_step (fun _ κ => XS.iloadN X32.here hx rfl (hb hby at_229) rfl κ) ?_
      show own_Go _ _ _ _ (T32.setTop (mkF m 230 #[.val (.int p0), .val (.int p1), .val (.int p2), .val (.int p3), .val (.int p4), .val (.int p5), .val (.ref b1), .val (.ref b4), .val (.int off), .val (.int cnt), .val (.int ln), .val (.ref r19), .unset] [(.int p2), (.int p1), (.int off), (.int ln), (.ref r19)]))
      refine own_step (fun _ κ => XS.iloadN X32.here hx rfl (hb hby at_230) rfl κ) ?_
      show own_Go _ _ _ _ (T32.setTop (mkF m 231 #[.val (.int p0), .val (.int p1), .val (.int p2), .val (.int p3), .val (.int p4), .val (.int p5), .val (.ref b1), .val (.ref b4), .val (.int off), .val (.int cnt), .val (.int ln), .val (.ref r19), .unset] [(.int p3), (.int p2), (.int p1), (.int off), (.int ln), (.ref r19)]))
      refine own_step (fun _ κ => XS.iload X32.here hx rfl (hb hby at_231) rfl κ) ?_
      show own_Go _ _ _ _ (T32.setTop (mkF m 233 #[.val (.int p0), .val (.int p1), .val (.int p2), .val (.int p3), .val (.int p4), .val (.int p5), .val (.ref b1), .val (.ref b4), .val (.int off), .val (.int cnt), .val (.int ln), .val (.ref r19), .unset] [(.int off), (.int p3), (.int p2), (.int p1), (.int off), (.int ln), (.ref r19)]))
      refine own_step (fun _ κ => XS.iconst X32.here hx rfl (hb hby at_233) κ) ?_
      show own_Go _ _ _ _ (T32.setTop (mkF m 234 #[.val (.int p0), .val (.int p1), .val (.int p2), .val (.int p3), .val (.int p4), .val (.int p5), .val (.ref b1), .val (.ref b4), .val (.int off), .val (.int cnt), .val (.int ln), .val (.ref r19), .unset] [(.int (2 : Int32)), (.int off), (.int p3), (.int p2), (.int p1), (.int off), (.int ln), (.ref r19)]))
      refine own_step (fun _ κ => XS.iadd X32.here hx rfl (hb hby at_234) rfl κ) ?_
      show own_Go _ _ _ _ (T32.setTop (mkF m 235 #[.val (.int p0), .val (.int p1), .val (.int p2), .val (.int p3), .val (.int p4), .val (.int p5), .val (.ref b1), .val (.ref b4), .val (.int off), .val (.int cnt), .val (.int ln), .val (.ref r19), .unset] [(.int (off + (2 : Int32))), (.int p3), (.int p2), (.int p1), (.int off), (.int ln), (.ref r19)]))
      obtain ⟨vr33, _, ⟨T33, L33, k33, n33⟩, -, X33, ⟨Lc33, hQ33, l33, y33, z33⟩, st33⟩ := Jvm.LawKit.callS X32 hx (y := (⟨"com/example/lens_on_archives/lensonarchives/BytesToArrayPinLaw", "ok", "([BIIIIII)Z"⟩ : MethodName)) hown (mvT hZ (hw _ (List.mem_of_getElem? (i := 34) rfl))) (mvT hZ (hw _ (List.mem_of_getElem? (i := 35) rfl))) (mvT hZ (hw _ (List.mem_of_getElem? (i := 36) rfl))) (mvT hZ (hw _ (List.mem_of_getElem? (i := 37) rfl))) (by decide) (backOf (W := 0) (rm13 l Z a0 hw [] r19 ln off p1 p2 p3 (off + (2 : Int32)) (own_cut gj nj) T18.heap n0 z27 p18_1 (fun h1 h2 => (hG.cut hzn) _ h1 h2)) hZ (hw _ (List.mem_of_getElem? (i := 37) rfl)) (hw _ (List.mem_of_getElem? (i := 36) rfl)) (by decide) (by decide)) (g := (mkF m 235 #[.val (.int p0), .val (.int p1), .val (.int p2), .val (.int p3), .val (.int p4), .val (.int p5), .val (.ref b1), .val (.ref b4), .val (.int off), .val (.int cnt), .val (.int ln), .val (.ref r19), .unset] [(.int (off + (2 : Int32))), (.int p3), (.int p2), (.int p1), (.int off), (.int ln), (.ref r19)])) rfl (by rw [hml]; rfl) (argsL := [(.ref r19), (.int ln), (.int off), (.int p1), (.int p2), (.int p3), (.int (off + (2 : Int32)))]) (rest := []) (lenOf pd_5 rfl) rfl (by show 2 * 0 + _ ≤ _; exact Nat.le_of_eq rfl) (hb hby at_235) (fun _ _ => ⟨rfl, eq32, (by decide : 5 + 0 ≤ _), (by decide : 116 + 0 ≤ _)⟩)
      dsimp only [Pt.U, Pt.locs, Pt.cells, Pt.slots] at X33 l33 y33 z33 st33 hQ33
      subst l33 y33 z33
      obtain ⟨rfl, Nq33, eq33⟩ := hQ33
      have N33 := Fr.app N32 Nq33
      refine own_step st33 ?_
      show own_Go _ _ _ _ (T33.setTop (mkF m 238 #[.val (.int p0), .val (.int p1), .val (.int p2), .val (.int p3), .val (.int p4), .val (.int p5), .val (.ref b1), .val (.ref b4), .val (.int off), .val (.int cnt), .val (.int ln), .val (.ref r19), .unset] [(.int (1 : Int32))]))
      refine own_step (fun _ κ => XS.ifYes X33.here hx rfl (pc0 := 238) (pc' := 243) rfl (hb hby at_238) rfl ((if0 _ _).trans (feq (by decide)).2) (by decide) (by decide) κ) ?_
      show own_Go _ _ _ _ (T33.setTop (mkF m 243 #[.val (.int p0), .val (.int p1), .val (.int p2), .val (.int p3), .val (.int p4), .val (.int p5), .val (.ref b1), .val (.ref b4), .val (.int off), .val (.int cnt), .val (.int ln), .val (.ref r19), .unset] []))
      refine own_step (fun _ κ => XS.iload X33.here hx rfl (hb hby at_243) rfl κ) ?_
      show own_Go _ _ _ _ (T33.setTop (mkF m 245 #[.val (.int p0), .val (.int p1), .val (.int p2), .val (.int p3), .val (.int p4), .val (.int p5), .val (.ref b1), .val (.ref b4), .val (.int off), .val (.int cnt), .val (.int ln), .val (.ref r19), .unset] [(.int ln)]))
      by_cases hc34 : (0 : Int32) < ln
      · refine own_step (fun _ κ => XS.ifNo X33.here hx rfl (hb hby at_245) rfl ((if0 _ _).trans (tlt hc34).2.2.2) κ) ?_
        show own_Go _ _ _ _ (T33.setTop (mkF m 248 #[.val (.int p0), .val (.int p1), .val (.int p2), .val (.int p3), .val (.int p4), .val (.int p5), .val (.ref b1), .val (.ref b4), .val (.int off), .val (.int cnt), .val (.int ln), .val (.ref r19), .unset] []))
        refine own_step (fun _ κ => XS.aload X33.here hx rfl (hb hby at_248) rfl rfl κ) ?_
        show own_Go _ _ _ _ (T33.setTop (mkF m 250 #[.val (.int p0), .val (.int p1), .val (.int p2), .val (.int p3), .val (.int p4), .val (.int p5), .val (.ref b1), .val (.ref b4), .val (.int off), .val (.int cnt), .val (.int ln), .val (.ref r19), .unset] [(.ref r19)]))
        refine own_step (fun _ κ => XS.iload X33.here hx rfl (hb hby at_250) rfl κ) ?_
        show own_Go _ _ _ _ (T33.setTop (mkF m 252 #[.val (.int p0), .val (.int p1), .val (.int p2), .val (.int p3), .val (.int p4), .val (.int p5), .val (.ref b1), .val (.ref b4), .val (.int off), .val (.int cnt), .val (.int ln), .val (.ref r19), .unset] [(.int ln), (.ref r19)]))
        refine own_step (fun _ κ => XS.iconst X33.here hx rfl (hb hby at_252) κ) ?_
        show own_Go _ _ _ _ (T33.setTop (mkF m 253 #[.val (.int p0), .val (.int p1), .val (.int p2), .val (.int p3), .val (.int p4), .val (.int p5), .val (.ref b1), .val (.ref b4), .val (.int off), .val (.int cnt), .val (.int ln), .val (.ref r19), .unset] [(.int (1 : Int32)), (.int ln), (.ref r19)]))
        refine own_step (fun _ κ => XS.isub X33.here hx rfl (hb hby at_253) rfl κ) ?_
        show own_Go _ _ _ _ (T33.setTop (mkF m 254 #[.val (.int p0), .val (.int p1), .val (.int p2), .val (.int p3), .val (.int p4), .val (.int p5), .val (.ref b1), .val (.ref b4), .val (.int off), .val (.int cnt), .val (.int ln), .val (.ref r19), .unset] [(.int (ln - (1 : Int32))), (.ref r19)]))
        refine own_step (fun _ κ => XS.aload X33.here hx rfl (hb hby at_254) rfl rfl κ) ?_
        show own_Go _ _ _ _ (T33.setTop (mkF m 256 #[.val (.int p0), .val (.int p1), .val (.int p2), .val (.int p3), .val (.int p4), .val (.int p5), .val (.ref b1), .val (.ref b4), .val (.int off), .val (.int cnt), .val (.int ln), .val (.ref r19), .unset] [(.ref r19), (.int (ln - (1 : Int32))), (.ref r19)]))
        refine own_step (fun _ κ => XS.iload X33.here hx rfl (hb hby at_256) rfl κ) ?_
        show own_Go _ _ _ _ (T33.setTop (mkF m 258 #[.val (.int p0), .val (.int p1), .val (.int p2), .val (.int p3), .val (.int p4), .val (.int p5), .val (.ref b1), .val (.ref b4), .val (.int off), .val (.int cnt), .val (.int ln), .val (.ref r19), .unset] [(.int ln), (.ref r19), (.int (ln - (1 : Int32))), (.ref r19)]))
        refine own_step (fun _ κ => XS.iconst X33.here hx rfl (hb hby at_258) κ) ?_
        show own_Go _ _ _ _ (T33.setTop (mkF m 259 #[.val (.int p0), .val (.int p1), .val (.int p2), .val (.int p3), .val (.int p4), .val (.int p5), .val (.ref b1), .val (.ref b4), .val (.int off), .val (.int cnt), .val (.int ln), .val (.ref r19), .unset] [(.int (1 : Int32)), (.int ln), (.ref r19), (.int (ln - (1 : Int32))), (.ref r19)]))
        refine own_step (fun _ κ => XS.isub X33.here hx rfl (hb hby at_259) rfl κ) ?_
        show own_Go _ _ _ _ (T33.setTop (mkF m 260 #[.val (.int p0), .val (.int p1), .val (.int p2), .val (.int p3), .val (.int p4), .val (.int p5), .val (.ref b1), .val (.ref b4), .val (.int off), .val (.int cnt), .val (.int ln), .val (.ref r19), .unset] [(.int (ln - (1 : Int32))), (.ref r19), (.int (ln - (1 : Int32))), (.ref r19)]))
        obtain ⟨cl35, Ar35, Sz35, Nz35, at35⟩ := p18_1.opened
        have hin35 := inb_of (j := (ln - (1 : Int32))) Sz35 (own_last hc34 hz)
        refine own_step (fun _ κ => X33.baloadBytes hx (j := (ln - (1 : Int32))) (v := (.int ((own_cut gj nj) (ln - (1 : Int32)).toNatClampNeg))) (by rw [eq33]; exact Ar35.1) (State.isArrayOf_alike hZ.alike Ar35.2.1) Ar35.2.2 hin35 (at35 _ hin35) (g := (mkF m 260 #[.val (.int p0), .val (.int p1), .val (.int p2), .val (.int p3), .val (.int p4), .val (.int p5), .val (.ref b1), .val (.ref b4), .val (.int off), .val (.int cnt), .val (.int ln), .val (.ref r19), .unset] [(.int (ln - (1 : Int32))), (.ref r19), (.int (ln - (1 : Int32))), (.ref r19)])) rfl rfl (hb hby at_260) _ κ) ?_
        show own_Go _ _ _ _ (T33.setTop (mkF m 261 #[.val (.int p0), .val (.int p1), .val (.int p2), .val (.int p3), .val (.int p4), .val (.int p5), .val (.ref b1), .val (.ref b4), .val (.int off), .val (.int cnt), .val (.int ln), .val (.ref r19), .unset] [(.int ((own_cut gj nj) (ln - (1 : Int32)).toNatClampNeg)), (.int (ln - (1 : Int32))), (.ref r19)]))
        refine own_step (fun _ κ => XS.iconst X33.here hx rfl (hb hby at_261) κ) ?_
        show own_Go _ _ _ _ (T33.setTop (mkF m 262 #[.val (.int p0), .val (.int p1), .val (.int p2), .val (.int p3), .val (.int p4), .val (.int p5), .val (.ref b1), .val (.ref b4), .val (.int off), .val (.int cnt), .val (.int ln), .val (.ref r19), .unset] [(.int (1 : Int32)), (.int ((own_cut gj nj) (ln - (1 : Int32)).toNatClampNeg)), (.int (ln - (1 : Int32))), (.ref r19)]))
        refine own_step (fun _ κ => XS.ixor X33.here hx rfl (hb hby at_262) rfl κ) ?_
        show own_Go _ _ _ _ (T33.setTop (mkF m 263 #[.val (.int p0), .val (.int p1), .val (.int p2), .val (.int p3), .val (.int p4), .val (.int p5), .val (.ref b1), .val (.ref b4), .val (.int off), .val (.int cnt), .val (.int ln), .val (.ref r19), .unset] [(.int (((own_cut gj nj) (ln - (1 : Int32)).toNatClampNeg) ^^^ (1 : Int32))), (.int (ln - (1 : Int32))), (.ref r19)]))
        refine own_step (fun _ κ => XS.i2b X33.here hx rfl (hb hby at_263) rfl κ) ?_
        show own_Go _ _ _ _ (T33.setTop (mkF m 264 #[.val (.int p0), .val (.int p1), .val (.int p2), .val (.int p3), .val (.int p4), .val (.int p5), .val (.ref b1), .val (.ref b4), .val (.int off), .val (.int cnt), .val (.int ln), .val (.ref r19), .unset] [(.int ((((own_cut gj nj) (ln - (1 : Int32)).toNatClampNeg) ^^^ (1 : Int32)).toInt8.toInt32)), (.int (ln - (1 : Int32))), (.ref r19)]))
        obtain ⟨cl36, Ar36, Sz36, Nz36, -⟩ := p18_1.opened
        have hin36 := inb_of (j := (ln - (1 : Int32))) Sz36 (own_last hc34 hz)
        obtain ⟨T36, h36, X36, e36, W36, st36⟩ := stB X33 hx hZ eq33 Ar36 (j := (ln - (1 : Int32))) hin36 (g := (mkF m 264 #[.val (.int p0), .val (.int p1), .val (.int p2), .val (.int p3), .val (.int p4), .val (.int p5), .val (.ref b1), .val (.ref b4), .val (.int off), .val (.int cnt), .val (.int ln), .val (.ref r19), .unset] [(.int ((((own_cut gj nj) (ln - (1 : Int32)).toNatClampNeg) ^^^ (1 : Int32)).toInt8.toInt32)), (.int (ln - (1 : Int32))), (.ref r19)])) rfl rfl (hb hby at_264)
        refine own_step st36 ?_
        have N36 := Fr.snoc X36 N33 ge22
        have V36 : own_By Z h36 r19 ln (own_upd (own_cut gj nj) (ln - (1 : Int32)).toNatClampNeg ((((own_cut gj nj) (ln - (1 : Int32)).toNatClampNeg) ^^^ (1 : Int32)).toInt8.toInt32).toInt8.toInt32) := p18_1.set W36 (own_last hc34 hz)
        have f37 := f23.wr W36
        have f38 := f24.other W36 (Or.inl ne20)
        have f39 := f25.other W36 (Or.inl ne20)
        have f40 := f26.other W36 ne21
        have z41 : n0 ≤ h36.size := Nat.le_trans z27 (Keep.of_wr W36).1
        show own_Go _ _ _ _ (T36.setTop (mkF m 265 #[.val (.int p0), .val (.int p1), .val (.int p2), .val (.int p3), .val (.int p4), .val (.int p5), .val (.ref b1), .val (.ref b4), .val (.int off), .val (.int cnt), .val (.int ln), .val (.ref r19), .unset] []))
        refine own_step (fun _ κ => XS.aload X36.here hx rfl (hb hby at_265) rfl rfl κ) ?_
        show own_Go _ _ _ _ (T36.setTop (mkF m 267 #[.val (.int p0), .val (.int p1), .val (.int p2), .val (.int p3), .val (.int p4), .val (.int p5), .val (.ref b1), .val (.ref b4), .val (.int off), .val (.int cnt), .val (.int ln), .val (.ref r19), .unset] [(.ref b4)]))
        obtain ⟨cq42, kq42, q42a, q42b, q42c⟩ := isOf hZ e36 f37
        obtain ⟨vr42, _, ⟨T42, L42, k42, n42⟩, -, X42, ⟨Lc42, hQ42, l42, y42, z42⟩, st42⟩ := X36.virtualBack hx (y := (⟨"com/example/lens_on_archives/lensonarchives/Bytes", "toArray", "()[B"⟩ : MethodName)) (z := (⟨"com/example/lens_on_archives/lensonarchives/Bytes", "toArray", "()[B"⟩ : MethodName)) hown (mvT hZ (hw _ (List.mem_of_getElem? (i := 16) rfl))) (mvT hZ (hw _ (List.mem_of_getElem? (i := 17) rfl))) (notFace_of_selects (args := #[]) (mvT hZ (hw _ (List.mem_of_getElem? (i := 19) rfl)))) (mvT hZ (hw _ (List.mem_of_getElem? (i := 19) rfl))) (mvT hZ (hw _ (List.mem_of_getElem? (i := 18) rfl))) (by decide) (backOf (W := 0) (rm11 l Z a0 hw [] b4 bj nj gj ln h36 n0 z41 f38 f39 f40 (own_nn hz.1) (own_n34 (Int.le_trans hz.2 (by decide)))) hZ (hw _ (List.mem_of_getElem? (i := 20) rfl)) (hw _ (List.mem_of_getElem? (i := 3) rfl)) (by decide) (by decide)) q42a q42c (g := (mkF m 267 #[.val (.int p0), .val (.int p1), .val (.int p2), .val (.int p3), .val (.int p4), .val (.int p5), .val (.ref b1), .val (.ref b4), .val (.int off), .val (.int cnt), .val (.int ln), .val (.ref r19), .unset] [(.ref b4)])) rfl (by rw [hml]; rfl) (Steps.refl _) (argsL := []) (rest := []) (lenOf pd_4 rfl) rfl (by show 2 * 0 + _ ≤ _; exact Nat.le_of_eq rfl) (hb hby at_267) (fun _ _ => ⟨rfl, e36, (by decide : 5 + 1 ≤ _), (by decide : 116 + 34 ≤ _)⟩)
        dsimp only [Pt.U, Pt.locs, Pt.cells, Pt.slots] at X42 l42 y42 z42 st42 hQ42
        subst l42 y42 z42
        obtain ⟨r43, rfl, Nq42, Kq42, p42_0, p42_1⟩ := hQ42
        have N42 := Fr.app N36 Nq42
        have ne44 : b4 ≠ r43 := Nat.ne_of_lt (Nat.lt_of_lt_of_le f37.lt p42_0)
        have ne45 : bj ≠ r43 := Nat.ne_of_lt (Nat.lt_of_lt_of_le f40.lt p42_0)
        have ne46 : r19 ≠ r43 := Nat.ne_of_lt (Nat.lt_of_lt_of_le V36.lt p42_0)
        have ge47 : n0 ≤ r43 := Nat.le_trans z41 p42_0
        have f48 := f37.keep Kq42
        have f49 := f38.keep Kq42 nin0
        have f50 := f39.keep Kq42 nin0
        have f51 := f40.keep Kq42 nin0
        have f52 := V36.keep Kq42 nin0
        have z53 : n0 ≤ T42.heap.size := Nat.le_trans z41 Kq42.1
        refine own_step (fun _ κ => st42.trans κ) ?_
        show own_Go _ _ _ _ (T42.setTop (mkF m 270 #[.val (.int p0), .val (.int p1), .val (.int p2), .val (.int p3), .val (.int p4), .val (.int p5), .val (.ref b1), .val (.ref b4), .val (.int off), .val (.int cnt), .val (.int ln), .val (.ref r19), .unset] [(.ref r43)]))
        refine own_step (fun _ κ => XS.astore X42.here hx rfl (hb hby at_270) rfl rfl (l' := #[.val (.int p0), .val (.int p1), .val (.int p2), .val (.int p3), .val (.int p4), .val (.int p5), .val (.ref b1), .val (.ref b4), .val (.int off), .val (.int cnt), .val (.int ln), .val (.ref r19), .val (.ref r43)]) rfl κ) ?_
        show own_Go _ _ _ _ (T42.setTop (mkF m 272 #[.val (.int p0), .val (.int p1), .val (.int p2), .val (.int p3), .val (.int p4), .val (.int p5), .val (.ref b1), .val (.ref b4), .val (.int off), .val (.int cnt), .val (.int ln), .val (.ref r19), .val (.ref r43)] []))
        refine own_step (fun _ κ => XS.aload X42.here hx rfl (hb hby at_272) rfl rfl κ) ?_
        show own_Go _ _ _ _ (T42.setTop (mkF m 274 #[.val (.int p0), .val (.int p1), .val (.int p2), .val (.int p3), .val (.int p4), .val (.int p5), .val (.ref b1), .val (.ref b4), .val (.int off), .val (.int cnt), .val (.int ln), .val (.ref r19), .val (.ref r43)] [(.ref r43)]))
        obtain ⟨cl54, Ar54, Sz54, Nz54, -⟩ := p42_1.opened
        refine own_step (fun _ κ => X42.arraylength hx Ar54.1 (State.isArrayOf_alike hZ.alike Ar54.2.1) (g := (mkF m 274 #[.val (.int p0), .val (.int p1), .val (.int p2), .val (.int p3), .val (.int p4), .val (.int p5), .val (.ref b1), .val (.ref b4), .val (.int off), .val (.int cnt), .val (.int ln), .val (.ref r19), .val (.ref r43)] [(.ref r43)])) rfl rfl (hb hby at_274) _ κ) ?_
        rw [len_of Sz54 Nz54]
        show own_Go _ _ _ _ (T42.setTop (mkF m 275 #[.val (.int p0), .val (.int p1), .val (.int p2), .val (.int p3), .val (.int p4), .val (.int p5), .val (.ref b1), .val (.ref b4), .val (.int off), .val (.int cnt), .val (.int ln), .val (.ref r19), .val (.ref r43)] [(.int ln)]))
        refine own_step (fun _ κ => XS.iload X42.here hx rfl (hb hby at_275) rfl κ) ?_
        show own_Go _ _ _ _ (T42.setTop (mkF m 277 #[.val (.int p0), .val (.int p1), .val (.int p2), .val (.int p3), .val (.int p4), .val (.int p5), .val (.ref b1), .val (.ref b4), .val (.int off), .val (.int cnt), .val (.int ln), .val (.ref r19), .val (.ref r43)] [(.int ln), (.int ln)]))
        refine own_step (fun _ κ => XS.icmpYes X42.here hx rfl (pc0 := 277) (pc' := 282) rfl (hb hby at_277) rfl (teq rfl).1 (by decide) (by decide) κ) ?_
        show own_Go _ _ _ _ (T42.setTop (mkF m 282 #[.val (.int p0), .val (.int p1), .val (.int p2), .val (.int p3), .val (.int p4), .val (.int p5), .val (.ref b1), .val (.ref b4), .val (.int off), .val (.int cnt), .val (.int ln), .val (.ref r19), .val (.ref r43)] []))
        refine own_step (fun _ κ => XS.iload X42.here hx rfl (hb hby at_282) rfl κ) ?_
        show own_Go _ _ _ _ (T42.setTop (mkF m 284 #[.val (.int p0), .val (.int p1), .val (.int p2), .val (.int p3), .val (.int p4), .val (.int p5), .val (.ref b1), .val (.ref b4), .val (.int off), .val (.int cnt), .val (.int ln), .val (.ref r19), .val (.ref r43)] [(.int ln)]))
        refine own_step (fun _ κ => XS.ifNo X42.here hx rfl (hb hby at_284) rfl ((if0 _ _).trans (tlt hc34).2.2.2) κ) ?_
        show own_Go _ _ _ _ (T42.setTop (mkF m 287 #[.val (.int p0), .val (.int p1), .val (.int p2), .val (.int p3), .val (.int p4), .val (.int p5), .val (.ref b1), .val (.ref b4), .val (.int off), .val (.int cnt), .val (.int ln), .val (.ref r19), .val (.ref r43)] []))
        refine own_step (fun _ κ => XS.aload X42.here hx rfl (hb hby at_287) rfl rfl κ) ?_
        show own_Go _ _ _ _ (T42.setTop (mkF m 289 #[.val (.int p0), .val (.int p1), .val (.int p2), .val (.int p3), .val (.int p4), .val (.int p5), .val (.ref b1), .val (.ref b4), .val (.int off), .val (.int cnt), .val (.int ln), .val (.ref r19), .val (.ref r43)] [(.ref r43)]))
        refine own_step (fun _ κ => XS.iload X42.here hx rfl (hb hby at_289) rfl κ) ?_
        show own_Go _ _ _ _ (T42.setTop (mkF m 291 #[.val (.int p0), .val (.int p1), .val (.int p2), .val (.int p3), .val (.int p4), .val (.int p5), .val (.ref b1), .val (.ref b4), .val (.int off), .val (.int cnt), .val (.int ln), .val (.ref r19), .val (.ref r43)] [(.int ln), (.ref r43)]))
        refine own_step (fun _ κ => XS.iconst X42.here hx rfl (hb hby at_291) κ) ?_
        show own_Go _ _ _ _ (T42.setTop (mkF m 292 #[.val (.int p0), .val (.int p1), .val (.int p2), .val (.int p3), .val (.int p4), .val (.int p5), .val (.ref b1), .val (.ref b4), .val (.int off), .val (.int cnt), .val (.int ln), .val (.ref r19), .val (.ref r43)] [(.int (1 : Int32)), (.int ln), (.ref r43)]))
        refine own_step (fun _ κ => XS.isub X42.here hx rfl (hb hby at_292) rfl κ) ?_
        show own_Go _ _ _ _ (T42.setTop (mkF m 293 #[.val (.int p0), .val (.int p1), .val (.int p2), .val (.int p3), .val (.int p4), .val (.int p5), .val (.ref b1), .val (.ref b4), .val (.int off), .val (.int cnt), .val (.int ln), .val (.ref r19), .val (.ref r43)] [(.int (ln - (1 : Int32))), (.ref r43)]))
        obtain ⟨cl55, Ar55, Sz55, Nz55, at55⟩ := p42_1.opened
        have hin55 := inb_of (j := (ln - (1 : Int32))) Sz55 (own_last hc34 hz)
        refine own_step (fun _ κ => X42.baloadBytes hx (j := (ln - (1 : Int32))) (v := (.int ((own_cut gj nj) (ln - (1 : Int32)).toNatClampNeg))) Ar55.1 (State.isArrayOf_alike hZ.alike Ar55.2.1) Ar55.2.2 hin55 (at55 _ hin55) (g := (mkF m 293 #[.val (.int p0), .val (.int p1), .val (.int p2), .val (.int p3), .val (.int p4), .val (.int p5), .val (.ref b1), .val (.ref b4), .val (.int off), .val (.int cnt), .val (.int ln), .val (.ref r19), .val (.ref r43)] [(.int (ln - (1 : Int32))), (.ref r43)])) rfl rfl (hb hby at_293) _ κ) ?_
        show own_Go _ _ _ _ (T42.setTop (mkF m 294 #[.val (.int p0), .val (.int p1), .val (.int p2), .val (.int p3), .val (.int p4), .val (.int p5), .val (.ref b1), .val (.ref b4), .val (.int off), .val (.int cnt), .val (.int ln), .val (.ref r19), .val (.ref r43)] [(.int ((own_cut gj nj) (ln - (1 : Int32)).toNatClampNeg))]))
        refine own_step (fun _ κ => XS.iload X42.here hx rfl (hb hby at_294) rfl κ) ?_
        show own_Go _ _ _ _ (T42.setTop (mkF m 296 #[.val (.int p0), .val (.int p1), .val (.int p2), .val (.int p3), .val (.int p4), .val (.int p5), .val (.ref b1), .val (.ref b4), .val (.int off), .val (.int cnt), .val (.int ln), .val (.ref r19), .val (.ref r43)] [(.int off), (.int ((own_cut gj nj) (ln - (1 : Int32)).toNatClampNeg))]))
        refine own_step (fun _ κ => XS.iloadN X42.here hx rfl (hb hby at_296) rfl κ) ?_
        show own_Go _ _ _ _ (T42.setTop (mkF m 297 #[.val (.int p0), .val (.int p1), .val (.int p2), .val (.int p3), .val (.int p4), .val (.int p5), .val (.ref b1), .val (.ref b4), .val (.int off), .val (.int cnt), .val (.int ln), .val (.ref r19), .val (.ref r43)] [(.int p1), (.int off), (.int ((own_cut gj nj) (ln - (1 : Int32)).toNatClampNeg))]))
        refine own_step (fun _ κ => XS.iloadN X42.here hx rfl (hb hby at_297) rfl κ) ?_
        show own_Go _ _ _ _ (T42.setTop (mkF m 298 #[.val (.int p0), .val (.int p1), .val (.int p2), .val (.int p3), .val (.int p4), .val (.int p5), .val (.ref b1), .val (.ref b4), .val (.int off), .val (.int cnt), .val (.int ln), .val (.ref r19), .val (.ref r43)] [(.int p2), (.int p1), (.int off), (.int ((own_cut gj nj) (ln - (1 : Int32)).toNatClampNeg))]))
        refine own_step (fun _ κ => XS.iloadN X42.here hx rfl (hb hby at_298) rfl κ) ?_
        show own_Go _ _ _ _ (T42.setTop (mkF m 299 #[.val (.int p0), .val (.int p1), .val (.int p2), .val (.int p3), .val (.int p4), .val (.int p5), .val (.ref b1), .val (.ref b4), .val (.int off), .val (.int cnt), .val (.int ln), .val (.ref r19), .val (.ref r43)] [(.int p3), (.int p2), (.int p1), (.int off), (.int ((own_cut gj nj) (ln - (1 : Int32)).toNatClampNeg))]))
        refine own_step (fun _ κ => XS.iload X42.here hx rfl (hb hby at_299) rfl κ) ?_
        show own_Go _ _ _ _ (T42.setTop (mkF m 301 #[.val (.int p0), .val (.int p1), .val (.int p2), .val (.int p3), .val (.int p4), .val (.int p5), .val (.ref b1), .val (.ref b4), .val (.int off), .val (.int cnt), .val (.int ln), .val (.ref r19), .val (.ref r43)] [(.int ln), (.int p3), (.int p2), (.int p1), (.int off), (.int ((own_cut gj nj) (ln - (1 : Int32)).toNatClampNeg))]))
        refine own_step (fun _ κ => XS.iconst X42.here hx rfl (hb hby at_301) κ) ?_
        show own_Go _ _ _ _ (T42.setTop (mkF m 302 #[.val (.int p0), .val (.int p1), .val (.int p2), .val (.int p3), .val (.int p4), .val (.int p5), .val (.ref b1), .val (.ref b4), .val (.int off), .val (.int cnt), .val (.int ln), .val (.ref r19), .val (.ref r43)] [(.int (1 : Int32)), (.int ln), (.int p3), (.int p2), (.int p1), (.int off), (.int ((own_cut gj nj) (ln - (1 : Int32)).toNatClampNeg))]))
        refine own_step (fun _ κ => XS.isub X42.here hx rfl (hb hby at_302) rfl κ) ?_
        show own_Go _ _ _ _ (T42.setTop (mkF m 303 #[.val (.int p0), .val (.int p1), .val (.int p2), .val (.int p3), .val (.int p4), .val (.int p5), .val (.ref b1), .val (.ref b4), .val (.int off), .val (.int cnt), .val (.int ln), .val (.ref r19), .val (.ref r43)] [(.int (ln - (1 : Int32))), (.int p3), (.int p2), (.int p1), (.int off), (.int ((own_cut gj nj) (ln - (1 : Int32)).toNatClampNeg))]))
        obtain ⟨vr56, _, ⟨T56, L56, k56, n56⟩, -, X56, ⟨Lc56, hQ56, l56, y56, z56⟩, st56⟩ := Jvm.LawKit.callS X42 hx (y := (⟨"com/example/lens_on_archives/lensonarchives/BytesToArrayPinLaw", "expect", "(IIIII)B"⟩ : MethodName)) hown (mvT hZ (hw _ (List.mem_of_getElem? (i := 59) rfl))) (mvT hZ (hw _ (List.mem_of_getElem? (i := 60) rfl))) (mvT hZ (hw _ (List.mem_of_getElem? (i := 36) rfl))) (mvT hZ (hw _ (List.mem_of_getElem? (i := 61) rfl))) (by decide) (backOf (W := 1) (rm12 l Z a0 hw [] off p1 p2 p3 (ln - (1 : Int32))  T42.heap n0 z53 ) hZ (hw _ (List.mem_of_getElem? (i := 61) rfl)) (hw _ (List.mem_of_getElem? (i := 36) rfl)) (by decide) (by decide)) (g := (mkF m 303 #[.val (.int p0), .val (.int p1), .val (.int p2), .val (.int p3), .val (.int p4), .val (.int p5), .val (.ref b1), .val (.ref b4), .val (.int off), .val (.int cnt), .val (.int ln), .val (.ref r19), .val (.ref r43)] [(.int (ln - (1 : Int32))), (.int p3), (.int p2), (.int p1), (.int off), (.int ((own_cut gj nj) (ln - (1 : Int32)).toNatClampNeg))])) rfl (by rw [hml]; rfl) (argsL := [(.int off), (.int p1), (.int p2), (.int p3), (.int (ln - (1 : Int32)))]) (rest := [(.int ((own_cut gj nj) (ln - (1 : Int32)).toNatClampNeg))]) (lenOf pd_3 rfl) rfl (by show 2 * 0 + _ ≤ _; exact Nat.le_of_eq rfl) (hb hby at_303) (fun _ _ => ⟨rfl, rfl, (by decide : 6 + 0 ≤ _), (by decide : 150 + 0 ≤ _)⟩)
        dsimp only [Pt.U, Pt.locs, Pt.cells, Pt.slots] at X56 l56 y56 z56 st56 hQ56
        subst l56 y56 z56
        obtain ⟨rfl, Nq56, eq56⟩ := hQ56
        have N56 := Fr.app N42 Nq56
        refine own_step st56 ?_
        show own_Go _ _ _ _ (T56.setTop (mkF m 306 #[.val (.int p0), .val (.int p1), .val (.int p2), .val (.int p3), .val (.int p4), .val (.int p5), .val (.ref b1), .val (.ref b4), .val (.int off), .val (.int cnt), .val (.int ln), .val (.ref r19), .val (.ref r43)] [(.int (own_exp off p1 p2 p3 (ln - (1 : Int32)))), (.int ((own_cut gj nj) (ln - (1 : Int32)).toNatClampNeg))]))
        refine own_step (fun _ κ => XS.icmpYes X56.here hx rfl (pc0 := 306) (pc' := 311) rfl (hb hby at_306) rfl (teq ((hG.cut hzn) _ (own_last hc34 hz).1 (own_last hc34 hz).2)).1 (by decide) (by decide) κ) ?_
        show own_Go _ _ _ _ (T56.setTop (mkF m 311 #[.val (.int p0), .val (.int p1), .val (.int p2), .val (.int p3), .val (.int p4), .val (.int p5), .val (.ref b1), .val (.ref b4), .val (.int off), .val (.int cnt), .val (.int ln), .val (.ref r19), .val (.ref r43)] []))
        refine own_step (fun _ κ => XS.iconst X56.here hx rfl (hb hby at_311) κ) ?_
        show own_Go _ _ _ _ (T56.setTop (mkF m 312 #[.val (.int p0), .val (.int p1), .val (.int p2), .val (.int p3), .val (.int p4), .val (.int p5), .val (.ref b1), .val (.ref b4), .val (.int off), .val (.int cnt), .val (.int ln), .val (.ref r19), .val (.ref r43)] [(.int (1 : Int32))]))
        obtain ⟨fs, hr, hrun, hended, hW, hsame⟩ := X56.leave (v := some (.int (1 : Int32))) (fun h => by rw [Bd.returns] at h; cases h)
        refine ⟨_, _, retN X56 hx (t := .boolean) Bd.returns (by simp) (hb hby at_312) hr, hrun, hended, _, _, rfl, ?_, ⟨_, rfl⟩, hW, hsame.mono (by decide) (by decide)⟩
        show Q0 Z p0 p1 p2 p3 p4 p5  h0 n0 _ T56.heap _
        exact ⟨rfl, N56⟩
      · refine own_step (fun _ κ => XS.ifYes X33.here hx rfl (pc0 := 245) (pc' := 265) rfl (hb hby at_245) rfl ((if0 _ _).trans (flt hc34).2.2.2) (by decide) (by decide) κ) ?_
        show own_Go _ _ _ _ (T33.setTop (mkF m 265 #[.val (.int p0), .val (.int p1), .val (.int p2), .val (.int p3), .val (.int p4), .val (.int p5), .val (.ref b1), .val (.ref b4), .val (.int off), .val (.int cnt), .val (.int ln), .val (.ref r19), .unset] []))
        refine own_step (fun _ κ => XS.aload X33.here hx rfl (hb hby at_265) rfl rfl κ) ?_
        show own_Go _ _ _ _ (T33.setTop (mkF m 267 #[.val (.int p0), .val (.int p1), .val (.int p2), .val (.int p3), .val (.int p4), .val (.int p5), .val (.ref b1), .val (.ref b4), .val (.int off), .val (.int cnt), .val (.int ln), .val (.ref r19), .unset] [(.ref b4)]))
        obtain ⟨cq57, kq57, q57a, q57b, q57c⟩ := isOf hZ eq33 f23
        obtain ⟨vr57, _, ⟨T57, L57, k57, n57⟩, -, X57, ⟨Lc57, hQ57, l57, y57, z57⟩, st57⟩ := X33.virtualBack hx (y := (⟨"com/example/lens_on_archives/lensonarchives/Bytes", "toArray", "()[B"⟩ : MethodName)) (z := (⟨"com/example/lens_on_archives/lensonarchives/Bytes", "toArray", "()[B"⟩ : MethodName)) hown (mvT hZ (hw _ (List.mem_of_getElem? (i := 16) rfl))) (mvT hZ (hw _ (List.mem_of_getElem? (i := 17) rfl))) (notFace_of_selects (args := #[]) (mvT hZ (hw _ (List.mem_of_getElem? (i := 19) rfl)))) (mvT hZ (hw _ (List.mem_of_getElem? (i := 19) rfl))) (mvT hZ (hw _ (List.mem_of_getElem? (i := 18) rfl))) (by decide) (backOf (W := 0) (rm11 l Z a0 hw [] b4 bj nj gj ln T18.heap n0 z27 f24 f25 f26 (own_nn hz.1) (own_n34 (Int.le_trans hz.2 (by decide)))) hZ (hw _ (List.mem_of_getElem? (i := 20) rfl)) (hw _ (List.mem_of_getElem? (i := 3) rfl)) (by decide) (by decide)) q57a q57c (g := (mkF m 267 #[.val (.int p0), .val (.int p1), .val (.int p2), .val (.int p3), .val (.int p4), .val (.int p5), .val (.ref b1), .val (.ref b4), .val (.int off), .val (.int cnt), .val (.int ln), .val (.ref r19), .unset] [(.ref b4)])) rfl (by rw [hml]; rfl) (Steps.refl _) (argsL := []) (rest := []) (lenOf pd_4 rfl) rfl (by show 2 * 0 + _ ≤ _; exact Nat.le_of_eq rfl) (hb hby at_267) (fun _ _ => ⟨rfl, eq33, (by decide : 5 + 1 ≤ _), (by decide : 116 + 34 ≤ _)⟩)
        dsimp only [Pt.U, Pt.locs, Pt.cells, Pt.slots] at X57 l57 y57 z57 st57 hQ57
        subst l57 y57 z57
        obtain ⟨r58, rfl, Nq57, Kq57, p57_0, p57_1⟩ := hQ57
        have N57 := Fr.app N33 Nq57
        have ne59 : b4 ≠ r58 := Nat.ne_of_lt (Nat.lt_of_lt_of_le f23.lt p57_0)
        have ne60 : bj ≠ r58 := Nat.ne_of_lt (Nat.lt_of_lt_of_le f26.lt p57_0)
        have ne61 : r19 ≠ r58 := Nat.ne_of_lt (Nat.lt_of_lt_of_le p18_1.lt p57_0)
        have ge62 : n0 ≤ r58 := Nat.le_trans z27 p57_0
        have f63 := f23.keep Kq57
        have f64 := f24.keep Kq57 nin0
        have f65 := f25.keep Kq57 nin0
        have f66 := f26.keep Kq57 nin0
        have f67 := p18_1.keep Kq57 nin0
        have z68 : n0 ≤ T57.heap.size := Nat.le_trans z27 Kq57.1
        refine own_step (fun _ κ => st57.trans κ) ?_
        show own_Go _ _ _ _ (T57.setTop (mkF m 270 #[.val (.int p0), .val (.int p1), .val (.int p2), .val (.int p3), .val (.int p4), .val (.int p5), .val (.ref b1), .val (.ref b4), .val (.int off), .val (.int cnt), .val (.int ln), .val (.ref r19), .unset] [(.ref r58)]))
        refine own_step (fun _ κ => XS.astore X57.here hx rfl (hb hby at_270) rfl rfl (l' := #[.val (.int p0), .val (.int p1), .val (.int p2), .val (.int p3), .val (.int p4), .val (.int p5), .val (.ref b1), .val (.ref b4), .val (.int off), .val (.int cnt), .val (.int ln), .val (.ref r19), .val (.ref r58)]) rfl κ) ?_
        show own_Go _ _ _ _ (T57.setTop (mkF m 272 #[.val (.int p0), .val (.int p1), .val (.int p2), .val (.int p3), .val (.int p4), .val (.int p5), .val (.ref b1), .val (.ref b4), .val (.int off), .val (.int cnt), .val (.int ln), .val (.ref r19), .val (.ref r58)] []))
        refine own_step (fun _ κ => XS.aload X57.here hx rfl (hb hby at_272) rfl rfl κ) ?_
        show own_Go _ _ _ _ (T57.setTop (mkF m 274 #[.val (.int p0), .val (.int p1), .val (.int p2), .val (.int p3), .val (.int p4), .val (.int p5), .val (.ref b1), .val (.ref b4), .val (.int off), .val (.int cnt), .val (.int ln), .val (.ref r19), .val (.ref r58)] [(.ref r58)]))
        obtain ⟨cl69, Ar69, Sz69, Nz69, -⟩ := p57_1.opened
        refine own_step (fun _ κ => X57.arraylength hx Ar69.1 (State.isArrayOf_alike hZ.alike Ar69.2.1) (g := (mkF m 274 #[.val (.int p0), .val (.int p1), .val (.int p2), .val (.int p3), .val (.int p4), .val (.int p5), .val (.ref b1), .val (.ref b4), .val (.int off), .val (.int cnt), .val (.int ln), .val (.ref r19), .val (.ref r58)] [(.ref r58)])) rfl rfl (hb hby at_274) _ κ) ?_
        rw [len_of Sz69 Nz69]
        show own_Go _ _ _ _ (T57.setTop (mkF m 275 #[.val (.int p0), .val (.int p1), .val (.int p2), .val (.int p3), .val (.int p4), .val (.int p5), .val (.ref b1), .val (.ref b4), .val (.int off), .val (.int cnt), .val (.int ln), .val (.ref r19), .val (.ref r58)] [(.int ln)]))
        refine own_step (fun _ κ => XS.iload X57.here hx rfl (hb hby at_275) rfl κ) ?_
        show own_Go _ _ _ _ (T57.setTop (mkF m 277 #[.val (.int p0), .val (.int p1), .val (.int p2), .val (.int p3), .val (.int p4), .val (.int p5), .val (.ref b1), .val (.ref b4), .val (.int off), .val (.int cnt), .val (.int ln), .val (.ref r19), .val (.ref r58)] [(.int ln), (.int ln)]))
        refine own_step (fun _ κ => XS.icmpYes X57.here hx rfl (pc0 := 277) (pc' := 282) rfl (hb hby at_277) rfl (teq rfl).1 (by decide) (by decide) κ) ?_
        show own_Go _ _ _ _ (T57.setTop (mkF m 282 #[.val (.int p0), .val (.int p1), .val (.int p2), .val (.int p3), .val (.int p4), .val (.int p5), .val (.ref b1), .val (.ref b4), .val (.int off), .val (.int cnt), .val (.int ln), .val (.ref r19), .val (.ref r58)] []))
        refine own_step (fun _ κ => XS.iload X57.here hx rfl (hb hby at_282) rfl κ) ?_
        show own_Go _ _ _ _ (T57.setTop (mkF m 284 #[.val (.int p0), .val (.int p1), .val (.int p2), .val (.int p3), .val (.int p4), .val (.int p5), .val (.ref b1), .val (.ref b4), .val (.int off), .val (.int cnt), .val (.int ln), .val (.ref r19), .val (.ref r58)] [(.int ln)]))
        refine own_step (fun _ κ => XS.ifYes X57.here hx rfl (pc0 := 284) (pc' := 311) rfl (hb hby at_284) rfl ((if0 _ _).trans (flt hc34).2.2.2) (by decide) (by decide) κ) ?_
        show own_Go _ _ _ _ (T57.setTop (mkF m 311 #[.val (.int p0), .val (.int p1), .val (.int p2), .val (.int p3), .val (.int p4), .val (.int p5), .val (.ref b1), .val (.ref b4), .val (.int off), .val (.int cnt), .val (.int ln), .val (.ref r19), .val (.ref r58)] []))
        refine own_step (fun _ κ => XS.iconst X57.here hx rfl (hb hby at_311) κ) ?_
        show own_Go _ _ _ _ (T57.setTop (mkF m 312 #[.val (.int p0), .val (.int p1), .val (.int p2), .val (.int p3), .val (.int p4), .val (.int p5), .val (.ref b1), .val (.ref b4), .val (.int off), .val (.int cnt), .val (.int ln), .val (.ref r19), .val (.ref r58)] [(.int (1 : Int32))]))
        obtain ⟨fs, hr, hrun, hended, hW, hsame⟩ := X57.leave (v := some (.int (1 : Int32))) (fun h => by rw [Bd.returns] at h; cases h)
        refine ⟨_, _, retN X57 hx (t := .boolean) Bd.returns (by simp) (hb hby at_312) hr, hrun, hended, _, _, rfl, ?_, ⟨_, rfl⟩, hW, hsame.mono (by decide) (by decide)⟩
        show Q0 Z p0 p1 p2 p3 p4 p5  h0 n0 _ T57.heap _
        exact ⟨rfl, N57⟩
    · refine own_step (fun _ κ => XS.ifNo Xj.here hx rfl (hb hby at_98) rfl ((if0 _ _).trans (feq hc17).1) κ) ?_
      show own_Go _ _ _ _ (Tj.setTop (mkF m 101 #[.val (.int p0), .val (.int p1), .val (.int p2), .val (.int p3), .val (.int p4), .val (.int p5), .val (.ref b1), .val (.ref b4), .val (.int off), .val (.int cnt), .val (.int ln), .unset, .unset] []))
      refine own_step (fun _ κ => XS.iload Xj.here hx rfl (hb hby at_101) rfl κ) ?_
      show own_Go _ _ _ _ (Tj.setTop (mkF m 103 #[.val (.int p0), .val (.int p1), .val (.int p2), .val (.int p3), .val (.int p4), .val (.int p5), .val (.ref b1), .val (.ref b4), .val (.int off), .val (.int cnt), .val (.int ln), .unset, .unset] [(.int p5)]))
      refine own_step (fun _ κ => XS.iconst Xj.here hx rfl (hb hby at_103) κ) ?_
      show own_Go _ _ _ _ (Tj.setTop (mkF m 104 #[.val (.int p0), .val (.int p1), .val (.int p2), .val (.int p3), .val (.int p4), .val (.int p5), .val (.ref b1), .val (.ref b4), .val (.int off), .val (.int cnt), .val (.int ln), .unset, .unset] [(.int (3 : Int32)), (.int p5)]))
      refine own_step (fun _ κ => XS.iushr Xj.here hx rfl (hb hby at_104) rfl κ) ?_
      show own_Go _ _ _ _ (Tj.setTop (mkF m 105 #[.val (.int p0), .val (.int p1), .val (.int p2), .val (.int p3), .val (.int p4), .val (.int p5), .val (.ref b1), .val (.ref b4), .val (.int off), .val (.int cnt), .val (.int ln), .unset, .unset] [(.int ((p5.toUInt32 >>> ((3 : Int32) &&& 31).toUInt32).toInt32))]))
      refine own_step (fun _ κ => XS.bipush Xj.here hx rfl (hb hby at_105) κ) ?_
      show own_Go _ _ _ _ (Tj.setTop (mkF m 107 #[.val (.int p0), .val (.int p1), .val (.int p2), .val (.int p3), .val (.int p4), .val (.int p5), .val (.ref b1), .val (.ref b4), .val (.int off), .val (.int cnt), .val (.int ln), .unset, .unset] [(.int (31 : Int32)), (.int ((p5.toUInt32 >>> ((3 : Int32) &&& 31).toUInt32).toInt32))]))
      refine own_step (fun _ κ => XS.iand Xj.here hx rfl (hb hby at_107) rfl κ) ?_
      show own_Go _ _ _ _ (Tj.setTop (mkF m 108 #[.val (.int p0), .val (.int p1), .val (.int p2), .val (.int p3), .val (.int p4), .val (.int p5), .val (.ref b1), .val (.ref b4), .val (.int off), .val (.int cnt), .val (.int ln), .unset, .unset] [(.int (((p5.toUInt32 >>> ((3 : Int32) &&& 31).toUInt32).toInt32) &&& (31 : Int32)))]))
      refine own_step (fun _ κ => XS.iload Xj.here hx rfl (hb hby at_108) rfl κ) ?_
      show own_Go _ _ _ _ (Tj.setTop (mkF m 110 #[.val (.int p0), .val (.int p1), .val (.int p2), .val (.int p3), .val (.int p4), .val (.int p5), .val (.ref b1), .val (.ref b4), .val (.int off), .val (.int cnt), .val (.int ln), .unset, .unset] [(.int ln), (.int (((p5.toUInt32 >>> ((3 : Int32) &&& 31).toUInt32).toInt32) &&& (31 : Int32)))]))
      obtain ⟨vr70, _, ⟨T70, L70, k70, n70⟩, -, X70, ⟨Lc70, hQ70, l70, y70, z70⟩, st70⟩ := Jvm.LawKit.callS Xj hx (y := (⟨"java/lang/Math", "min", "(II)I"⟩ : MethodName)) hown (mvT hZ (hw _ (List.mem_of_getElem? (i := 53) rfl))) (mvT hZ (hw _ (List.mem_of_getElem? (i := 28) rfl))) (mvT hZ (hw _ (List.mem_of_getElem? (i := 12) rfl))) (mvT hZ (hw _ (List.mem_of_getElem? (i := 29) rfl))) (by decide) (backOf (W := 0) (rm2 l Z a0 hw [] (((p5.toUInt32 >>> ((3 : Int32) &&& 31).toUInt32).toInt32) &&& (31 : Int32)) ln  Tj.heap n0 zj ) hZ (hw _ (List.mem_of_getElem? (i := 29) rfl)) (hw _ (List.mem_of_getElem? (i := 12) rfl)) (by decide) (by decide)) (g := (mkF m 110 #[.val (.int p0), .val (.int p1), .val (.int p2), .val (.int p3), .val (.int p4), .val (.int p5), .val (.ref b1), .val (.ref b4), .val (.int off), .val (.int cnt), .val (.int ln), .unset, .unset] [(.int ln), (.int (((p5.toUInt32 >>> ((3 : Int32) &&& 31).toUInt32).toInt32) &&& (31 : Int32)))])) rfl (by rw [hml]; rfl) (argsL := [(.int (((p5.toUInt32 >>> ((3 : Int32) &&& 31).toUInt32).toInt32) &&& (31 : Int32))), (.int ln)]) (rest := []) (lenOf pd_0 rfl) rfl (by show 2 * 0 + _ ≤ _; exact Nat.le_of_eq rfl) (hb hby at_110) (fun _ _ => ⟨rfl, rfl, (by decide : 4 + 0 ≤ _), (by decide : 82 + 0 ≤ _)⟩)
      dsimp only [Pt.U, Pt.locs, Pt.cells, Pt.slots] at X70 l70 y70 z70 st70 hQ70
      subst l70 y70 z70
      obtain ⟨rfl, Nq70, eq70⟩ := hQ70
      have N70 := Fr.app Nj Nq70
      refine own_step st70 ?_
      show own_Go _ _ _ _ (T70.setTop (mkF m 113 #[.val (.int p0), .val (.int p1), .val (.int p2), .val (.int p3), .val (.int p4), .val (.int p5), .val (.ref b1), .val (.ref b4), .val (.int off), .val (.int cnt), .val (.int ln), .unset, .unset] [(.int (own_mn (((p5.toUInt32 >>> ((3 : Int32) &&& 31).toUInt32).toInt32) &&& (31 : Int32)) ln))]))
      refine own_step (fun _ κ => XS.istore X70.here hx rfl (hb hby at_113) rfl (l' := #[.val (.int p0), .val (.int p1), .val (.int p2), .val (.int p3), .val (.int p4), .val (.int p5), .val (.ref b1), .val (.ref b4), .val (.int off), .val (.int cnt), .val (.int ln), .val (.int (own_mn (((p5.toUInt32 >>> ((3 : Int32) &&& 31).toUInt32).toInt32) &&& (31 : Int32)) ln)), .unset]) rfl κ) ?_
      show own_Go _ _ _ _ (T70.setTop (mkF m 115 #[.val (.int p0), .val (.int p1), .val (.int p2), .val (.int p3), .val (.int p4), .val (.int p5), .val (.ref b1), .val (.ref b4), .val (.int off), .val (.int cnt), .val (.int ln), .val (.int (own_mn (((p5.toUInt32 >>> ((3 : Int32) &&& 31).toUInt32).toInt32) &&& (31 : Int32)) ln)), .unset] []))
      refine own_step (fun _ κ => XS.aload X70.here hx rfl (hb hby at_115) rfl rfl κ) ?_
      show own_Go _ _ _ _ (T70.setTop (mkF m 117 #[.val (.int p0), .val (.int p1), .val (.int p2), .val (.int p3), .val (.int p4), .val (.int p5), .val (.ref b1), .val (.ref b4), .val (.int off), .val (.int cnt), .val (.int ln), .val (.int (own_mn (((p5.toUInt32 >>> ((3 : Int32) &&& 31).toUInt32).toInt32) &&& (31 : Int32)) ln)), .unset] [(.ref b4)]))
      refine own_step (fun _ κ => XS.iload X70.here hx rfl (hb hby at_117) rfl κ) ?_
      show own_Go _ _ _ _ (T70.setTop (mkF m 119 #[.val (.int p0), .val (.int p1), .val (.int p2), .val (.int p3), .val (.int p4), .val (.int p5), .val (.ref b1), .val (.ref b4), .val (.int off), .val (.int cnt), .val (.int ln), .val (.int (own_mn (((p5.toUInt32 >>> ((3 : Int32) &&& 31).toUInt32).toInt32) &&& (31 : Int32)) ln)), .unset] [(.int (own_mn (((p5.toUInt32 >>> ((3 : Int32) &&& 31).toUInt32).toInt32) &&& (31 : Int32)) ln)), (.ref b4)]))
      obtain ⟨cq71, kq71, q71a, q71b, q71c⟩ := isOf hZ eq70 Ej
      obtain ⟨vr71, _, ⟨T71, L71, k71, n71⟩, -, X71, ⟨Lc71, hQ71, l71, y71, z71⟩, st71⟩ := X70.virtualBack hx (y := (⟨"com/example/lens_on_archives/lensonarchives/Bytes", "truncate", "(I)V"⟩ : MethodName)) (z := (⟨"com/example/lens_on_archives/lensonarchives/Bytes", "truncate", "(I)V"⟩ : MethodName)) hown (mvT hZ (hw _ (List.mem_of_getElem? (i := 54) rfl))) (mvT hZ (hw _ (List.mem_of_getElem? (i := 55) rfl))) (notFace_of_selects (args := #[]) (mvT hZ (hw _ (List.mem_of_getElem? (i := 57) rfl)))) (mvT hZ (hw _ (List.mem_of_getElem? (i := 57) rfl))) (mvT hZ (hw _ (List.mem_of_getElem? (i := 56) rfl))) (by decide) (backOf (W := 0) (rm10 l Z a0 hw [] b4 (own_mn (((p5.toUInt32 >>> ((3 : Int32) &&& 31).toUInt32).toInt32) &&& (31 : Int32)) ln) bj ln Tj.heap n0 zj Ej Fbj Fsj ge6) hZ (hw _ (List.mem_of_getElem? (i := 58) rfl)) (hw _ (List.mem_of_getElem? (i := 3) rfl)) (by decide) (by decide)) q71a q71c (g := (mkF m 119 #[.val (.int p0), .val (.int p1), .val (.int p2), .val (.int p3), .val (.int p4), .val (.int p5), .val (.ref b1), .val (.ref b4), .val (.int off), .val (.int cnt), .val (.int ln), .val (.int (own_mn (((p5.toUInt32 >>> ((3 : Int32) &&& 31).toUInt32).toInt32) &&& (31 : Int32)) ln)), .unset] [(.int (own_mn (((p5.toUInt32 >>> ((3 : Int32) &&& 31).toUInt32).toInt32) &&& (31 : Int32)) ln)), (.ref b4)])) rfl (by rw [hml]; rfl) (Steps.refl _) (argsL := [(.int (own_mn (((p5.toUInt32 >>> ((3 : Int32) &&& 31).toUInt32).toInt32) &&& (31 : Int32)) ln))]) (rest := []) (lenOf pd_2 rfl) rfl (by show 2 * 0 + _ ≤ _; exact Nat.le_of_eq rfl) (hb hby at_119) (fun _ _ => ⟨rfl, eq70, (by decide : 4 + 0 ≤ _), (by decide : 82 + 0 ≤ _)⟩)
      dsimp only [Pt.U, Pt.locs, Pt.cells, Pt.slots] at X71 l71 y71 z71 st71 hQ71
      subst l71 y71 z71
      obtain ⟨rfl, Nq71, Kq71, p71_0, p71_1, p71_2⟩ := hQ71
      have N71 := Fr.app N70 Nq71
      have f72 := Ej.keep Kq71
      have f73 := Vj.keep Kq71 (ninS hbx nin0)
      have z74 : n0 ≤ T71.heap.size := Nat.le_trans zj Kq71.1
      refine own_step (fun _ κ => st71.trans κ) ?_
      show own_Go _ _ _ _ (T71.setTop (mkF m 122 #[.val (.int p0), .val (.int p1), .val (.int p2), .val (.int p3), .val (.int p4), .val (.int p5), .val (.ref b1), .val (.ref b4), .val (.int off), .val (.int cnt), .val (.int ln), .val (.int (own_mn (((p5.toUInt32 >>> ((3 : Int32) &&& 31).toUInt32).toInt32) &&& (31 : Int32)) ln)), .unset] []))
      refine own_step (fun _ κ => XS.iload X71.here hx rfl (hb hby at_122) rfl κ) ?_
      show own_Go _ _ _ _ (T71.setTop (mkF m 124 #[.val (.int p0), .val (.int p1), .val (.int p2), .val (.int p3), .val (.int p4), .val (.int p5), .val (.ref b1), .val (.ref b4), .val (.int off), .val (.int cnt), .val (.int ln), .val (.int (own_mn (((p5.toUInt32 >>> ((3 : Int32) &&& 31).toUInt32).toInt32) &&& (31 : Int32)) ln)), .unset] [(.int (own_mn (((p5.toUInt32 >>> ((3 : Int32) &&& 31).toUInt32).toInt32) &&& (31 : Int32)) ln))]))
      refine own_step (fun _ κ => XS.istore X71.here hx rfl (hb hby at_124) rfl (l' := #[.val (.int p0), .val (.int p1), .val (.int p2), .val (.int p3), .val (.int p4), .val (.int p5), .val (.ref b1), .val (.ref b4), .val (.int off), .val (.int cnt), .val (.int (own_mn (((p5.toUInt32 >>> ((3 : Int32) &&& 31).toUInt32).toInt32) &&& (31 : Int32)) ln)), .val (.int (own_mn (((p5.toUInt32 >>> ((3 : Int32) &&& 31).toUInt32).toInt32) &&& (31 : Int32)) ln)), .unset]) rfl κ) ?_
      show own_Go _ _ _ _ (T71.setTop (mkF m 126 #[.val (.int p0), .val (.int p1), .val (.int p2), .val (.int p3), .val (.int p4), .val (.int p5), .val (.ref b1), .val (.ref b4), .val (.int off), .val (.int cnt), .val (.int (own_mn (((p5.toUInt32 >>> ((3 : Int32) &&& 31).toUInt32).toInt32) &&& (31 : Int32)) ln)), .val (.int (own_mn (((p5.toUInt32 >>> ((3 : Int32) &&& 31).toUInt32).toInt32) &&& (31 : Int32)) ln)), .unset] []))
      refine own_step (fun _ κ => XS.aload X71.here hx rfl (hb hby at_126) rfl rfl κ) ?_
      show own_Go _ _ _ _ (T71.setTop (mkF m 128 #[.val (.int p0), .val (.int p1), .val (.int p2), .val (.int p3), .val (.int p4), .val (.int p5), .val (.ref b1), .val (.ref b4), .val (.int off), .val (.int cnt), .val (.int (own_mn (((p5.toUInt32 >>> ((3 : Int32) &&& 31).toUInt32).toInt32) &&& (31 : Int32)) ln)), .val (.int (own_mn (((p5.toUInt32 >>> ((3 : Int32) &&& 31).toUInt32).toInt32) &&& (31 : Int32)) ln)), .unset] [(.ref b4)]))
      obtain ⟨cq75, kq75, q75a, q75b, q75c⟩ := isOf hZ rfl p71_0
      obtain ⟨vr75, _, ⟨T75, L75, k75, n75⟩, -, X75, ⟨Lc75, hQ75, l75, y75, z75⟩, st75⟩ := X71.virtualBack hx (y := (⟨"com/example/lens_on_archives/lensonarchives/Bytes", "toArray", "()[B"⟩ : MethodName)) (z := (⟨"com/example/lens_on_archives/lensonarchives/Bytes", "toArray", "()[B"⟩ : MethodName)) hown (mvT hZ (hw _ (List.mem_of_getElem? (i := 16) rfl))) (mvT hZ (hw _ (List.mem_of_getElem? (i := 17) rfl))) (notFace_of_selects (args := #[]) (mvT hZ (hw _ (List.mem_of_getElem? (i := 19) rfl)))) (mvT hZ (hw _ (List.mem_of_getElem? (i := 19) rfl))) (mvT hZ (hw _ (List.mem_of_getElem? (i := 18) rfl))) (by decide) (backOf (W := 0) (rm11 l Z a0 hw [] b4 bj nj gj (own_mn (((p5.toUInt32 >>> ((3 : Int32) &&& 31).toUInt32).toInt32) &&& (31 : Int32)) ln) T71.heap n0 z74 p71_1 p71_2 f73 (own_nn (own_kept (u := ((p5.toUInt32 >>> ((3 : Int32) &&& 31).toUInt32).toInt32)) hz).1.1) (own_n34 (Int.le_trans (own_kept (u := ((p5.toUInt32 >>> ((3 : Int32) &&& 31).toUInt32).toInt32)) hz).1.2 (by decide)))) hZ (hw _ (List.mem_of_getElem? (i := 20) rfl)) (hw _ (List.mem_of_getElem? (i := 3) rfl)) (by decide) (by decide)) q75a q75c (g := (mkF m 128 #[.val (.int p0), .val (.int p1), .val (.int p2), .val (.int p3), .val (.int p4), .val (.int p5), .val (.ref b1), .val (.ref b4), .val (.int off), .val (.int cnt), .val (.int (own_mn (((p5.toUInt32 >>> ((3 : Int32) &&& 31).toUInt32).toInt32) &&& (31 : Int32)) ln)), .val (.int (own_mn (((p5.toUInt32 >>> ((3 : Int32) &&& 31).toUInt32).toInt32) &&& (31 : Int32)) ln)), .unset] [(.ref b4)])) rfl (by rw [hml]; rfl) (Steps.refl _) (argsL := []) (rest := []) (lenOf pd_4 rfl) rfl (by show 2 * 0 + _ ≤ _; exact Nat.le_of_eq rfl) (hb hby at_128) (fun _ _ => ⟨rfl, rfl, (by decide : 4 + 1 ≤ _), (by decide : 82 + 34 ≤ _)⟩)
      dsimp only [Pt.U, Pt.locs, Pt.cells, Pt.slots] at X75 l75 y75 z75 st75 hQ75
      subst l75 y75 z75
      obtain ⟨r76, rfl, Nq75, Kq75, p75_0, p75_1⟩ := hQ75
      have N75 := Fr.app N71 Nq75
      have ne77 : b4 ≠ r76 := Nat.ne_of_lt (Nat.lt_of_lt_of_le p71_0.lt p75_0)
      have ne78 : bj ≠ r76 := Nat.ne_of_lt (Nat.lt_of_lt_of_le f73.lt p75_0)
      have ge79 : n0 ≤ r76 := Nat.le_trans z74 p75_0
      have f80 := p71_0.keep Kq75
      have f81 := f73.keep Kq75 nin0
      have f82 := p71_1.keep Kq75 nin0
      have f83 := p71_2.keep Kq75 nin0
      have z84 : n0 ≤ T75.heap.size := Nat.le_trans z74 Kq75.1
      refine own_step (fun _ κ => st75.trans κ) ?_
      show own_Go _ _ _ _ (T75.setTop (mkF m 131 #[.val (.int p0), .val (.int p1), .val (.int p2), .val (.int p3), .val (.int p4), .val (.int p5), .val (.ref b1), .val (.ref b4), .val (.int off), .val (.int cnt), .val (.int (own_mn (((p5.toUInt32 >>> ((3 : Int32) &&& 31).toUInt32).toInt32) &&& (31 : Int32)) ln)), .val (.int (own_mn (((p5.toUInt32 >>> ((3 : Int32) &&& 31).toUInt32).toInt32) &&& (31 : Int32)) ln)), .unset] [(.ref r76)]))
      refine own_step (fun _ κ => XS.astore X75.here hx rfl (hb hby at_131) rfl rfl (l' := #[.val (.int p0), .val (.int p1), .val (.int p2), .val (.int p3), .val (.int p4), .val (.int p5), .val (.ref b1), .val (.ref b4), .val (.int off), .val (.int cnt), .val (.int (own_mn (((p5.toUInt32 >>> ((3 : Int32) &&& 31).toUInt32).toInt32) &&& (31 : Int32)) ln)), .val (.ref r76), .unset]) rfl κ) ?_
      show own_Go _ _ _ _ (T75.setTop (mkF m 133 #[.val (.int p0), .val (.int p1), .val (.int p2), .val (.int p3), .val (.int p4), .val (.int p5), .val (.ref b1), .val (.ref b4), .val (.int off), .val (.int cnt), .val (.int (own_mn (((p5.toUInt32 >>> ((3 : Int32) &&& 31).toUInt32).toInt32) &&& (31 : Int32)) ln)), .val (.ref r76), .unset] []))
      refine own_step (fun _ κ => XS.aload X75.here hx rfl (hb hby at_133) rfl rfl κ) ?_
      show own_Go _ _ _ _ (T75.setTop (mkF m 135 #[.val (.int p0), .val (.int p1), .val (.int p2), .val (.int p3), .val (.int p4), .val (.int p5), .val (.ref b1), .val (.ref b4), .val (.int off), .val (.int cnt), .val (.int (own_mn (((p5.toUInt32 >>> ((3 : Int32) &&& 31).toUInt32).toInt32) &&& (31 : Int32)) ln)), .val (.ref r76), .unset] [(.ref r76)]))
      obtain ⟨cl85, Ar85, Sz85, Nz85, -⟩ := p75_1.opened
      refine own_step (fun _ κ => X75.arraylength hx Ar85.1 (State.isArrayOf_alike hZ.alike Ar85.2.1) (g := (mkF m 135 #[.val (.int p0), .val (.int p1), .val (.int p2), .val (.int p3), .val (.int p4), .val (.int p5), .val (.ref b1), .val (.ref b4), .val (.int off), .val (.int cnt), .val (.int (own_mn (((p5.toUInt32 >>> ((3 : Int32) &&& 31).toUInt32).toInt32) &&& (31 : Int32)) ln)), .val (.ref r76), .unset] [(.ref r76)])) rfl rfl (hb hby at_135) _ κ) ?_
      rw [len_of Sz85 Nz85]
      show own_Go _ _ _ _ (T75.setTop (mkF m 136 #[.val (.int p0), .val (.int p1), .val (.int p2), .val (.int p3), .val (.int p4), .val (.int p5), .val (.ref b1), .val (.ref b4), .val (.int off), .val (.int cnt), .val (.int (own_mn (((p5.toUInt32 >>> ((3 : Int32) &&& 31).toUInt32).toInt32) &&& (31 : Int32)) ln)), .val (.ref r76), .unset] [(.int (own_mn (((p5.toUInt32 >>> ((3 : Int32) &&& 31).toUInt32).toInt32) &&& (31 : Int32)) ln))]))
      refine own_step (fun _ κ => XS.iload X75.here hx rfl (hb hby at_136) rfl κ) ?_
      show own_Go _ _ _ _ (T75.setTop (mkF m 138 #[.val (.int p0), .val (.int p1), .val (.int p2), .val (.int p3), .val (.int p4), .val (.int p5), .val (.ref b1), .val (.ref b4), .val (.int off), .val (.int cnt), .val (.int (own_mn (((p5.toUInt32 >>> ((3 : Int32) &&& 31).toUInt32).toInt32) &&& (31 : Int32)) ln)), .val (.ref r76), .unset] [(.int (own_mn (((p5.toUInt32 >>> ((3 : Int32) &&& 31).toUInt32).toInt32) &&& (31 : Int32)) ln)), (.int (own_mn (((p5.toUInt32 >>> ((3 : Int32) &&& 31).toUInt32).toInt32) &&& (31 : Int32)) ln))]))
      refine own_step (fun _ κ => XS.icmpYes X75.here hx rfl (pc0 := 138) (pc' := 143) rfl (hb hby at_138) rfl (teq rfl).1 (by decide) (by decide) κ) ?_
      show own_Go _ _ _ _ (T75.setTop (mkF m 143 #[.val (.int p0), .val (.int p1), .val (.int p2), .val (.int p3), .val (.int p4), .val (.int p5), .val (.ref b1), .val (.ref b4), .val (.int off), .val (.int cnt), .val (.int (own_mn (((p5.toUInt32 >>> ((3 : Int32) &&& 31).toUInt32).toInt32) &&& (31 : Int32)) ln)), .val (.ref r76), .unset] []))
      refine own_step (fun _ κ => XS.aload X75.here hx rfl (hb hby at_143) rfl rfl κ) ?_
      show own_Go _ _ _ _ (T75.setTop (mkF m 145 #[.val (.int p0), .val (.int p1), .val (.int p2), .val (.int p3), .val (.int p4), .val (.int p5), .val (.ref b1), .val (.ref b4), .val (.int off), .val (.int cnt), .val (.int (own_mn (((p5.toUInt32 >>> ((3 : Int32) &&& 31).toUInt32).toInt32) &&& (31 : Int32)) ln)), .val (.ref r76), .unset] [(.ref r76)]))
      refine own_step (fun _ κ => XS.iload X75.here hx rfl (hb hby at_145) rfl κ) ?_
      show own_Go _ _ _ _ (T75.setTop (mkF m 147 #[.val (.int p0), .val (.int p1), .val (.int p2), .val (.int p3), .val (.int p4), .val (.int p5), .val (.ref b1), .val (.ref b4), .val (.int off), .val (.int cnt), .val (.int (own_mn (((p5.toUInt32 >>> ((3 : Int32) &&& 31).toUInt32).toInt32) &&& (31 : Int32)) ln)), .val (.ref r76), .unset] [(.int (own_mn (((p5.toUInt32 >>> ((3 : Int32) &&& 31).toUInt32).toInt32) &&& (31 : Int32)) ln)), (.ref r76)]))
      refine own_step (fun _ κ => XS.iload X75.here hx rfl (hb hby at_147) rfl κ) ?_
      show own_Go _ _ _ _ (T75.setTop (mkF m 149 #[.val (.int p0), .val (.int p1), .val (.int p2), .val (.int p3), .val (.int p4), .val (.int p5), .val (.ref b1), .val (.ref b4), .val (.int off), .val (.int cnt), .val (.int (own_mn (((p5.toUInt32 >>> ((3 : Int32) &&& 31).toUInt32).toInt32) &&& (31 : Int32)) ln)), .val (.ref r76), .unset] [(.int off), (.int (own_mn (((p5.toUInt32 >>> ((3 : Int32) &&& 31).toUInt32).toInt32) &&& (31 : Int32)) ln)), (.ref r76)]))
      refine own_step (fun _ κ => XS.iloadN X75.here hx rfl (hb hby at_149) rfl κ) ?_
      show own_Go _ _ _ _ (T75.setTop (mkF m 150 #[.val (.int p0), .val (.int p1), .val (.int p2), .val (.int p3), .val (.int p4), .val (.int p5), .val (.ref b1), .val (.ref b4), .val (.int off), .val (.int cnt), .val (.int (own_mn (((p5.toUInt32 >>> ((3 : Int32) &&& 31).toUInt32).toInt32) &&& (31 : Int32)) ln)), .val (.ref r76), .unset] [(.int p1), (.int off), (.int (own_mn (((p5.toUInt32 >>> ((3 : Int32) &&& 31).toUInt32).toInt32) &&& (31 : Int32)) ln)), (.ref r76)]))
      refine own_step (fun _ κ => XS.iloadN X75.here hx rfl (hb hby at_150) rfl κ) ?_
      show own_Go _ _ _ _ (T75.setTop (mkF m 151 #[.val (.int p0), .val (.int p1), .val (.int p2), .val (.int p3), .val (.int p4), .val (.int p5), .val (.ref b1), .val (.ref b4), .val (.int off), .val (.int cnt), .val (.int (own_mn (((p5.toUInt32 >>> ((3 : Int32) &&& 31).toUInt32).toInt32) &&& (31 : Int32)) ln)), .val (.ref r76), .unset] [(.int p2), (.int p1), (.int off), (.int (own_mn (((p5.toUInt32 >>> ((3 : Int32) &&& 31).toUInt32).toInt32) &&& (31 : Int32)) ln)), (.ref r76)]))
      refine own_step (fun _ κ => XS.iloadN X75.here hx rfl (hb hby at_151) rfl κ) ?_
      show own_Go _ _ _ _ (T75.setTop (mkF m 152 #[.val (.int p0), .val (.int p1), .val (.int p2), .val (.int p3), .val (.int p4), .val (.int p5), .val (.ref b1), .val (.ref b4), .val (.int off), .val (.int cnt), .val (.int (own_mn (((p5.toUInt32 >>> ((3 : Int32) &&& 31).toUInt32).toInt32) &&& (31 : Int32)) ln)), .val (.ref r76), .unset] [(.int p3), (.int p2), (.int p1), (.int off), (.int (own_mn (((p5.toUInt32 >>> ((3 : Int32) &&& 31).toUInt32).toInt32) &&& (31 : Int32)) ln)), (.ref r76)]))
      refine own_step (fun _ κ => XS.iconst X75.here hx rfl (hb hby at_152) κ) ?_
      show own_Go _ _ _ _ (T75.setTop (mkF m 153 #[.val (.int p0), .val (.int p1), .val (.int p2), .val (.int p3), .val (.int p4), .val (.int p5), .val (.ref b1), .val (.ref b4), .val (.int off), .val (.int cnt), .val (.int (own_mn (((p5.toUInt32 >>> ((3 : Int32) &&& 31).toUInt32).toInt32) &&& (31 : Int32)) ln)), .val (.ref r76), .unset] [(.int (0 : Int32)), (.int p3), (.int p2), (.int p1), (.int off), (.int (own_mn (((p5.toUInt32 >>> ((3 : Int32) &&& 31).toUInt32).toInt32) &&& (31 : Int32)) ln)), (.ref r76)]))
      obtain ⟨vr86, _, ⟨T86, L86, k86, n86⟩, -, X86, ⟨Lc86, hQ86, l86, y86, z86⟩, st86⟩ := Jvm.LawKit.callS X75 hx (y := (⟨"com/example/lens_on_archives/lensonarchives/BytesToArrayPinLaw", "ok", "([BIIIIII)Z"⟩ : MethodName)) hown (mvT hZ (hw _ (List.mem_of_getElem? (i := 34) rfl))) (mvT hZ (hw _ (List.mem_of_getElem? (i := 35) rfl))) (mvT hZ (hw _ (List.mem_of_getElem? (i := 36) rfl))) (mvT hZ (hw _ (List.mem_of_getElem? (i := 37) rfl))) (by decide) (backOf (W := 0) (rm13 l Z a0 hw [] r76 (own_mn (((p5.toUInt32 >>> ((3 : Int32) &&& 31).toUInt32).toInt32) &&& (31 : Int32)) ln) off p1 p2 p3 (0 : Int32) (own_cut gj nj) T75.heap n0 z84 p75_1 (fun h1 h2 => ((hG.less (own_kept (u := ((p5.toUInt32 >>> ((3 : Int32) &&& 31).toUInt32).toInt32)) hz).2).cut (own_ng (Int.le_trans (Int.not_lt.mp (fun q => (own_kept (u := ((p5.toUInt32 >>> ((3 : Int32) &&& 31).toUInt32).toInt32)) hz).2 (Int32.lt_iff_toInt_lt.mpr q))) (Int.not_lt.mp (fun q => hzn (Int32.lt_iff_toInt_lt.mpr q)))))) _ h1 h2)) hZ (hw _ (List.mem_of_getElem? (i := 37) rfl)) (hw _ (List.mem_of_getElem? (i := 36) rfl)) (by decide) (by decide)) (g := (mkF m 153 #[.val (.int p0), .val (.int p1), .val (.int p2), .val (.int p3), .val (.int p4), .val (.int p5), .val (.ref b1), .val (.ref b4), .val (.int off), .val (.int cnt), .val (.int (own_mn (((p5.toUInt32 >>> ((3 : Int32) &&& 31).toUInt32).toInt32) &&& (31 : Int32)) ln)), .val (.ref r76), .unset] [(.int (0 : Int32)), (.int p3), (.int p2), (.int p1), (.int off), (.int (own_mn (((p5.toUInt32 >>> ((3 : Int32) &&& 31).toUInt32).toInt32) &&& (31 : Int32)) ln)), (.ref r76)])) rfl (by rw [hml]; rfl) (argsL := [(.ref r76), (.int (own_mn (((p5.toUInt32 >>> ((3 : Int32) &&& 31).toUInt32).toInt32) &&& (31 : Int32)) ln)), (.int off), (.int p1), (.int p2), (.int p3), (.int (0 : Int32))]) (rest := []) (lenOf pd_5 rfl) rfl (by show 2 * 0 + _ ≤ _; exact Nat.le_of_eq rfl) (hb hby at_153) (fun _ _ => ⟨rfl, rfl, (by decide : 5 + 0 ≤ _), (by decide : 116 + 0 ≤ _)⟩)
      dsimp only [Pt.U, Pt.locs, Pt.cells, Pt.slots] at X86 l86 y86 z86 st86 hQ86
      subst l86 y86 z86
      obtain ⟨rfl, Nq86, eq86⟩ := hQ86
      have N86 := Fr.app N75 Nq86
      refine own_step st86 ?_
      show own_Go _ _ _ _ (T86.setTop (mkF m 156 #[.val (.int p0), .val (.int p1), .val (.int p2), .val (.int p3), .val (.int p4), .val (.int p5), .val (.ref b1), .val (.ref b4), .val (.int off), .val (.int cnt), .val (.int (own_mn (((p5.toUInt32 >>> ((3 : Int32) &&& 31).toUInt32).toInt32) &&& (31 : Int32)) ln)), .val (.ref r76), .unset] [(.int (1 : Int32))]))
      refine own_step (fun _ κ => XS.ifYes X86.here hx rfl (pc0 := 156) (pc' := 161) rfl (hb hby at_156) rfl ((if0 _ _).trans (feq (by decide)).2) (by decide) (by decide) κ) ?_
      show own_Go _ _ _ _ (T86.setTop (mkF m 161 #[.val (.int p0), .val (.int p1), .val (.int p2), .val (.int p3), .val (.int p4), .val (.int p5), .val (.ref b1), .val (.ref b4), .val (.int off), .val (.int cnt), .val (.int (own_mn (((p5.toUInt32 >>> ((3 : Int32) &&& 31).toUInt32).toInt32) &&& (31 : Int32)) ln)), .val (.ref r76), .unset] []))
      refine own_step (fun _ κ => XS.aload X86.here hx rfl (hb hby at_161) rfl rfl κ) ?_
      show own_Go _ _ _ _ (T86.setTop (mkF m 163 #[.val (.int p0), .val (.int p1), .val (.int p2), .val (.int p3), .val (.int p4), .val (.int p5), .val (.ref b1), .val (.ref b4), .val (.int off), .val (.int cnt), .val (.int (own_mn (((p5.toUInt32 >>> ((3 : Int32) &&& 31).toUInt32).toInt32) &&& (31 : Int32)) ln)), .val (.ref r76), .unset] [(.ref r76)]))
      refine own_step (fun _ κ => XS.iload X86.here hx rfl (hb hby at_163) rfl κ) ?_
      show own_Go _ _ _ _ (T86.setTop (mkF m 165 #[.val (.int p0), .val (.int p1), .val (.int p2), .val (.int p3), .val (.int p4), .val (.int p5), .val (.ref b1), .val (.ref b4), .val (.int off), .val (.int cnt), .val (.int (own_mn (((p5.toUInt32 >>> ((3 : Int32) &&& 31).toUInt32).toInt32) &&& (31 : Int32)) ln)), .val (.ref r76), .unset] [(.int (own_mn (((p5.toUInt32 >>> ((3 : Int32) &&& 31).toUInt32).toInt32) &&& (31 : Int32)) ln)), (.ref r76)]))
      refine own_step (fun _ κ => XS.iload X86.here hx rfl (hb hby at_165) rfl κ) ?_
      show own_Go _ _ _ _ (T86.setTop (mkF m 167 #[.val (.int p0), .val (.int p1), .val (.int p2), .val (.int p3), .val (.int p4), .val (.int p5), .val (.ref b1), .val (.ref b4), .val (.int off), .val (.int cnt), .val (.int (own_mn (((p5.toUInt32 >>> ((3 : Int32) &&& 31).toUInt32).toInt32) &&& (31 : Int32)) ln)), .val (.ref r76), .unset] [(.int off), (.int (own_mn (((p5.toUInt32 >>> ((3 : Int32) &&& 31).toUInt32).toInt32) &&& (31 : Int32)) ln)), (.ref r76)]))
      refine own_step (fun _ κ => XS.iloadN X86.here hx rfl (hb hby at_167) rfl κ) ?_
      show own_Go _ _ _ _ (T86.setTop (mkF m 168 #[.val (.int p0), .val (.int p1), .val (.int p2), .val (.int p3), .val (.int p4), .val (.int p5), .val (.ref b1), .val (.ref b4), .val (.int off), .val (.int cnt), .val (.int (own_mn (((p5.toUInt32 >>> ((3 : Int32) &&& 31).toUInt32).toInt32) &&& (31 : Int32)) ln)), .val (.ref r76), .unset] [(.int p1), (.int off), (.int (own_mn (((p5.toUInt32 >>> ((3 : Int32) &&& 31).toUInt32).toInt32) &&& (31 : Int32)) ln)), (.ref r76)]))
      refine own_step (fun _ κ => XS.iloadN X86.here hx rfl (hb hby at_168) rfl κ) ?_
      show own_Go _ _ _ _ (T86.setTop (mkF m 169 #[.val (.int p0), .val (.int p1), .val (.int p2), .val (.int p3), .val (.int p4), .val (.int p5), .val (.ref b1), .val (.ref b4), .val (.int off), .val (.int cnt), .val (.int (own_mn (((p5.toUInt32 >>> ((3 : Int32) &&& 31).toUInt32).toInt32) &&& (31 : Int32)) ln)), .val (.ref r76), .unset] [(.int p2), (.int p1), (.int off), (.int (own_mn (((p5.toUInt32 >>> ((3 : Int32) &&& 31).toUInt32).toInt32) &&& (31 : Int32)) ln)), (.ref r76)]))
      refine own_step (fun _ κ => XS.iloadN X86.here hx rfl (hb hby at_169) rfl κ) ?_
      show own_Go _ _ _ _ (T86.setTop (mkF m 170 #[.val (.int p0), .val (.int p1), .val (.int p2), .val (.int p3), .val (.int p4), .val (.int p5), .val (.ref b1), .val (.ref b4), .val (.int off), .val (.int cnt), .val (.int (own_mn (((p5.toUInt32 >>> ((3 : Int32) &&& 31).toUInt32).toInt32) &&& (31 : Int32)) ln)), .val (.ref r76), .unset] [(.int p3), (.int p2), (.int p1), (.int off), (.int (own_mn (((p5.toUInt32 >>> ((3 : Int32) &&& 31).toUInt32).toInt32) &&& (31 : Int32)) ln)), (.ref r76)]))
      refine own_step (fun _ κ => XS.iload X86.here hx rfl (hb hby at_170) rfl κ) ?_
      show own_Go _ _ _ _ (T86.setTop (mkF m 172 #[.val (.int p0), .val (.int p1), .val (.int p2), .val (.int p3), .val (.int p4), .val (.int p5), .val (.ref b1), .val (.ref b4), .val (.int off), .val (.int cnt), .val (.int (own_mn (((p5.toUInt32 >>> ((3 : Int32) &&& 31).toUInt32).toInt32) &&& (31 : Int32)) ln)), .val (.ref r76), .unset] [(.int off), (.int p3), (.int p2), (.int p1), (.int off), (.int (own_mn (((p5.toUInt32 >>> ((3 : Int32) &&& 31).toUInt32).toInt32) &&& (31 : Int32)) ln)), (.ref r76)]))
      refine own_step (fun _ κ => XS.iconst X86.here hx rfl (hb hby at_172) κ) ?_
      show own_Go _ _ _ _ (T86.setTop (mkF m 173 #[.val (.int p0), .val (.int p1), .val (.int p2), .val (.int p3), .val (.int p4), .val (.int p5), .val (.ref b1), .val (.ref b4), .val (.int off), .val (.int cnt), .val (.int (own_mn (((p5.toUInt32 >>> ((3 : Int32) &&& 31).toUInt32).toInt32) &&& (31 : Int32)) ln)), .val (.ref r76), .unset] [(.int (1 : Int32)), (.int off), (.int p3), (.int p2), (.int p1), (.int off), (.int (own_mn (((p5.toUInt32 >>> ((3 : Int32) &&& 31).toUInt32).toInt32) &&& (31 : Int32)) ln)), (.ref r76)]))
      refine own_step (fun _ κ => XS.isub X86.here hx rfl (hb hby at_173) rfl κ) ?_
      show own_Go _ _ _ _ (T86.setTop (mkF m 174 #[.val (.int p0), .val (.int p1), .val (.int p2), .val (.int p3), .val (.int p4), .val (.int p5), .val (.ref b1), .val (.ref b4), .val (.int off), .val (.int cnt), .val (.int (own_mn (((p5.toUInt32 >>> ((3 : Int32) &&& 31).toUInt32).toInt32) &&& (31 : Int32)) ln)), .val (.ref r76), .unset] [(.int (off - (1 : Int32))), (.int p3), (.int p2), (.int p1), (.int off), (.int (own_mn (((p5.toUInt32 >>> ((3 : Int32) &&& 31).toUInt32).toInt32) &&& (31 : Int32)) ln)), (.ref r76)]))
      obtain ⟨vr87, _, ⟨T87, L87, k87, n87⟩, -, X87, ⟨Lc87, hQ87, l87, y87, z87⟩, st87⟩ := Jvm.LawKit.callS X86 hx (y := (⟨"com/example/lens_on_archives/lensonarchives/BytesToArrayPinLaw", "ok", "([BIIIIII)Z"⟩ : MethodName)) hown (mvT hZ (hw _ (List.mem_of_getElem? (i := 34) rfl))) (mvT hZ (hw _ (List.mem_of_getElem? (i := 35) rfl))) (mvT hZ (hw _ (List.mem_of_getElem? (i := 36) rfl))) (mvT hZ (hw _ (List.mem_of_getElem? (i := 37) rfl))) (by decide) (backOf (W := 0) (rm13 l Z a0 hw [] r76 (own_mn (((p5.toUInt32 >>> ((3 : Int32) &&& 31).toUInt32).toInt32) &&& (31 : Int32)) ln) off p1 p2 p3 (off - (1 : Int32)) (own_cut gj nj) T75.heap n0 z84 p75_1 (fun h1 h2 => ((hG.less (own_kept (u := ((p5.toUInt32 >>> ((3 : Int32) &&& 31).toUInt32).toInt32)) hz).2).cut (own_ng (Int.le_trans (Int.not_lt.mp (fun q => (own_kept (u := ((p5.toUInt32 >>> ((3 : Int32) &&& 31).toUInt32).toInt32)) hz).2 (Int32.lt_iff_toInt_lt.mpr q))) (Int.not_lt.mp (fun q => hzn (Int32.lt_iff_toInt_lt.mpr q)))))) _ h1 h2)) hZ (hw _ (List.mem_of_getElem? (i := 37) rfl)) (hw _ (List.mem_of_getElem? (i := 36) rfl)) (by decide) (by decide)) (g := (mkF m 174 #[.val (.int p0), .val (.int p1), .val (.int p2), .val (.int p3), .val (.int p4), .val (.int p5), .val (.ref b1), .val (.ref b4), .val (.int off), .val (.int cnt), .val (.int (own_mn (((p5.toUInt32 >>> ((3 : Int32) &&& 31).toUInt32).toInt32) &&& (31 : Int32)) ln)), .val (.ref r76), .unset] [(.int (off - (1 : Int32))), (.int p3), (.int p2), (.int p1), (.int off), (.int (own_mn (((p5.toUInt32 >>> ((3 : Int32) &&& 31).toUInt32).toInt32) &&& (31 : Int32)) ln)), (.ref r76)])) rfl (by rw [hml]; rfl) (argsL := [(.ref r76), (.int (own_mn (((p5.toUInt32 >>> ((3 : Int32) &&& 31).toUInt32).toInt32) &&& (31 : Int32)) ln)), (.int off), (.int p1), (.int p2), (.int p3), (.int (off - (1 : Int32)))]) (rest := []) (lenOf pd_5 rfl) rfl (by show 2 * 0 + _ ≤ _; exact Nat.le_of_eq rfl) (hb hby at_174) (fun _ _ => ⟨rfl, eq86, (by decide : 5 + 0 ≤ _), (by decide : 116 + 0 ≤ _)⟩)
      dsimp only [Pt.U, Pt.locs, Pt.cells, Pt.slots] at X87 l87 y87 z87 st87 hQ87
      subst l87 y87 z87
      obtain ⟨rfl, Nq87, eq87⟩ := hQ87
      have N87 := Fr.app N86 Nq87
      refine own_step st87 ?_
      show own_Go _ _ _ _ (T87.setTop (mkF m 177 #[.val (.int p0), .val (.int p1), .val (.int p2), .val (.int p3), .val (.int p4), .val (.int p5), .val (.ref b1), .val (.ref b4), .val (.int off), .val (.int cnt), .val (.int (own_mn (((p5.toUInt32 >>> ((3 : Int32) &&& 31).toUInt32).toInt32) &&& (31 : Int32)) ln)), .val (.ref r76), .unset] [(.int (1 : Int32))]))
      refine own_step (fun _ κ => XS.ifYes X87.here hx rfl (pc0 := 177) (pc' := 182) rfl (hb hby at_177) rfl ((if0 _ _).trans (feq (by decide)).2) (by decide) (by decide) κ) ?_
      show own_Go _ _ _ _ (T87.setTop (mkF m 182 #[.val (.int p0), .val (.int p1), .val (.int p2), .val (.int p3), .val (.int p4), .val (.int p5), .val (.ref b1), .val (.ref b4), .val (.int off), .val (.int cnt), .val (.int (own_mn (((p5.toUInt32 >>> ((3 : Int32) &&& 31).toUInt32).toInt32) &&& (31 : Int32)) ln)), .val (.ref r76), .unset] []))
      refine own_step (fun _ κ => XS.aload X87.here hx rfl (hb hby at_182) rfl rfl κ) ?_
      show own_Go _ _ _ _ (T87.setTop (mkF m 184 #[.val (.int p0), .val (.int p1), .val (.int p2), .val (.int p3), .val (.int p4), .val (.int p5), .val (.ref b1), .val (.ref b4), .val (.int off), .val (.int cnt), .val (.int (own_mn (((p5.toUInt32 >>> ((3 : Int32) &&& 31).toUInt32).toInt32) &&& (31 : Int32)) ln)), .val (.ref r76), .unset] [(.ref r76)]))
      refine own_step (fun _ κ => XS.iload X87.here hx rfl (hb hby at_184) rfl κ) ?_
      show own_Go _ _ _ _ (T87.setTop (mkF m 186 #[.val (.int p0), .val (.int p1), .val (.int p2), .val (.int p3), .val (.int p4), .val (.int p5), .val (.ref b1), .val (.ref b4), .val (.int off), .val (.int cnt), .val (.int (own_mn (((p5.toUInt32 >>> ((3 : Int32) &&& 31).toUInt32).toInt32) &&& (31 : Int32)) ln)), .val (.ref r76), .unset] [(.int (own_mn (((p5.toUInt32 >>> ((3 : Int32) &&& 31).toUInt32).toInt32) &&& (31 : Int32)) ln)), (.ref r76)]))
      refine own_step (fun _ κ => XS.iload X87.here hx rfl (hb hby at_186) rfl κ) ?_
      show own_Go _ _ _ _ (T87.setTop (mkF m 188 #[.val (.int p0), .val (.int p1), .val (.int p2), .val (.int p3), .val (.int p4), .val (.int p5), .val (.ref b1), .val (.ref b4), .val (.int off), .val (.int cnt), .val (.int (own_mn (((p5.toUInt32 >>> ((3 : Int32) &&& 31).toUInt32).toInt32) &&& (31 : Int32)) ln)), .val (.ref r76), .unset] [(.int off), (.int (own_mn (((p5.toUInt32 >>> ((3 : Int32) &&& 31).toUInt32).toInt32) &&& (31 : Int32)) ln)), (.ref r76)]))
      refine own_step (fun _ κ => XS.iloadN X87.here hx rfl (hb hby at_188) rfl κ) ?_
      show own_Go _ _ _ _ (T87.setTop (mkF m 189 #[.val (.int p0), .val (.int p1), .val (.int p2), .val (.int p3), .val (.int p4), .val (.int p5), .val (.ref b1), .val (.ref b4), .val (.int off), .val (.int cnt), .val (.int (own_mn (((p5.toUInt32 >>> ((3 : Int32) &&& 31).toUInt32).toInt32) &&& (31 : Int32)) ln)), .val (.ref r76), .unset] [(.int p1), (.int off), (.int (own_mn (((p5.toUInt32 >>> ((3 : Int32) &&& 31).toUInt32).toInt32) &&& (31 : Int32)) ln)), (.ref r76)]))
      refine own_step (fun _ κ => XS.iloadN X87.here hx rfl (hb hby at_189) rfl κ) ?_
      show own_Go _ _ _ _ (T87.setTop (mkF m 190 #[.val (.int p0), .val (.int p1), .val (.int p2), .val (.int p3), .val (.int p4), .val (.int p5), .val (.ref b1), .val (.ref b4), .val (.int off), .val (.int cnt), .val (.int (own_mn (((p5.toUInt32 >>> ((3 : Int32) &&& 31).toUInt32).toInt32) &&& (31 : Int32)) ln)), .val (.ref r76), .unset] [(.int p2), (.int p1), (.int off), (.int (own_mn (((p5.toUInt32 >>> ((3 : Int32) &&& 31).toUInt32).toInt32) &&& (31 : Int32)) ln)), (.ref r76)]))
      refine own_step (fun _ κ => XS.iloadN X87.here hx rfl (hb hby at_190) rfl κ) ?_
      show own_Go _ _ _ _ (T87.setTop (mkF m 191 #[.val (.int p0), .val (.int p1), .val (.int p2), .val (.int p3), .val (.int p4), .val (.int p5), .val (.ref b1), .val (.ref b4), .val (.int off), .val (.int cnt), .val (.int (own_mn (((p5.toUInt32 >>> ((3 : Int32) &&& 31).toUInt32).toInt32) &&& (31 : Int32)) ln)), .val (.ref r76), .unset] [(.int p3), (.int p2), (.int p1), (.int off), (.int (own_mn (((p5.toUInt32 >>> ((3 : Int32) &&& 31).toUInt32).toInt32) &&& (31 : Int32)) ln)), (.ref r76)]))
      refine own_step (fun _ κ => XS.iload X87.here hx rfl (hb hby at_191) rfl κ) ?_
      show own_Go _ _ _ _ (T87.setTop (mkF m 193 #[.val (.int p0), .val (.int p1), .val (.int p2), .val (.int p3), .val (.int p4), .val (.int p5), .val (.ref b1), .val (.ref b4), .val (.int off), .val (.int cnt), .val (.int (own_mn (((p5.toUInt32 >>> ((3 : Int32) &&& 31).toUInt32).toInt32) &&& (31 : Int32)) ln)), .val (.ref r76), .unset] [(.int off), (.int p3), (.int p2), (.int p1), (.int off), (.int (own_mn (((p5.toUInt32 >>> ((3 : Int32) &&& 31).toUInt32).toInt32) &&& (31 : Int32)) ln)), (.ref r76)]))
      obtain ⟨vr88, _, ⟨T88, L88, k88, n88⟩, -, X88, ⟨Lc88, hQ88, l88, y88, z88⟩, st88⟩ := Jvm.LawKit.callS X87 hx (y := (⟨"com/example/lens_on_archives/lensonarchives/BytesToArrayPinLaw", "ok", "([BIIIIII)Z"⟩ : MethodName)) hown (mvT hZ (hw _ (List.mem_of_getElem? (i := 34) rfl))) (mvT hZ (hw _ (List.mem_of_getElem? (i := 35) rfl))) (mvT hZ (hw _ (List.mem_of_getElem? (i := 36) rfl))) (mvT hZ (hw _ (List.mem_of_getElem? (i := 37) rfl))) (by decide) (backOf (W := 0) (rm13 l Z a0 hw [] r76 (own_mn (((p5.toUInt32 >>> ((3 : Int32) &&& 31).toUInt32).toInt32) &&& (31 : Int32)) ln) off p1 p2 p3 off (own_cut gj nj) T75.heap n0 z84 p75_1 (fun h1 h2 => ((hG.less (own_kept (u := ((p5.toUInt32 >>> ((3 : Int32) &&& 31).toUInt32).toInt32)) hz).2).cut (own_ng (Int.le_trans (Int.not_lt.mp (fun q => (own_kept (u := ((p5.toUInt32 >>> ((3 : Int32) &&& 31).toUInt32).toInt32)) hz).2 (Int32.lt_iff_toInt_lt.mpr q))) (Int.not_lt.mp (fun q => hzn (Int32.lt_iff_toInt_lt.mpr q)))))) _ h1 h2)) hZ (hw _ (List.mem_of_getElem? (i := 37) rfl)) (hw _ (List.mem_of_getElem? (i := 36) rfl)) (by decide) (by decide)) (g := (mkF m 193 #[.val (.int p0), .val (.int p1), .val (.int p2), .val (.int p3), .val (.int p4), .val (.int p5), .val (.ref b1), .val (.ref b4), .val (.int off), .val (.int cnt), .val (.int (own_mn (((p5.toUInt32 >>> ((3 : Int32) &&& 31).toUInt32).toInt32) &&& (31 : Int32)) ln)), .val (.ref r76), .unset] [(.int off), (.int p3), (.int p2), (.int p1), (.int off), (.int (own_mn (((p5.toUInt32 >>> ((3 : Int32) &&& 31).toUInt32).toInt32) &&& (31 : Int32)) ln)), (.ref r76)])) rfl (by rw [hml]; rfl) (argsL := [(.ref r76), (.int (own_mn (((p5.toUInt32 >>> ((3 : Int32) &&& 31).toUInt32).toInt32) &&& (31 : Int32)) ln)), (.int off), (.int p1), (.int p2), (.int p3), (.int off)]) (rest := []) (lenOf pd_5 rfl) rfl (by show 2 * 0 + _ ≤ _; exact Nat.le_of_eq rfl) (hb hby at_193) (fun _ _ => ⟨rfl, eq87, (by decide : 5 + 0 ≤ _), (by decide : 116 + 0 ≤ _)⟩)
      dsimp only [Pt.U, Pt.locs, Pt.cells, Pt.slots] at X88 l88 y88 z88 st88 hQ88
      subst l88 y88 z88
      obtain ⟨rfl, Nq88, eq88⟩ := hQ88
      have N88 := Fr.app N87 Nq88
      refine own_step st88 ?_
      show own_Go _ _ _ _ (T88.setTop (mkF m 196 #[.val (.int p0), .val (.int p1), .val (.int p2), .val (.int p3), .val (.int p4), .val (.int p5), .val (.ref b1), .val (.ref b4), .val (.int off), .val (.int cnt), .val (.int (own_mn (((p5.toUInt32 >>> ((3 : Int32) &&& 31).toUInt32).toInt32) &&& (31 : Int32)) ln)), .val (.ref r76), .unset] [(.int (1 : Int32))]))
      refine own_step (fun _ κ => XS.ifYes X88.here hx rfl (pc0 := 196) (pc' := 201) rfl (hb hby at_196) rfl ((if0 _ _).trans (feq (by decide)).2) (by decide) (by decide) κ) ?_
      show own_Go _ _ _ _ (T88.setTop (mkF m 201 #[.val (.int p0), .val (.int p1), .val (.int p2), .val (.int p3), .val (.int p4), .val (.int p5), .val (.ref b1), .val (.ref b4), .val (.int off), .val (.int cnt), .val (.int (own_mn (((p5.toUInt32 >>> ((3 : Int32) &&& 31).toUInt32).toInt32) &&& (31 : Int32)) ln)), .val (.ref r76), .unset] []))
      refine own_step (fun _ κ => XS.aload X88.here hx rfl (hb hby at_201) rfl rfl κ) ?_
      show own_Go _ _ _ _ (T88.setTop (mkF m 203 #[.val (.int p0), .val (.int p1), .val (.int p2), .val (.int p3), .val (.int p4), .val (.int p5), .val (.ref b1), .val (.ref b4), .val (.int off), .val (.int cnt), .val (.int (own_mn (((p5.toUInt32 >>> ((3 : Int32) &&& 31).toUInt32).toInt32) &&& (31 : Int32)) ln)), .val (.ref r76), .unset] [(.ref r76)]))
      refine own_step (fun _ κ => XS.iload X88.here hx rfl (hb hby at_203) rfl κ) ?_
      show own_Go _ _ _ _ (T88.setTop (mkF m 205 #[.val (.int p0), .val (.int p1), .val (.int p2), .val (.int p3), .val (.int p4), .val (.int p5), .val (.ref b1), .val (.ref b4), .val (.int off), .val (.int cnt), .val (.int (own_mn (((p5.toUInt32 >>> ((3 : Int32) &&& 31).toUInt32).toInt32) &&& (31 : Int32)) ln)), .val (.ref r76), .unset] [(.int (own_mn (((p5.toUInt32 >>> ((3 : Int32) &&& 31).toUInt32).toInt32) &&& (31 : Int32)) ln)), (.ref r76)]))
      refine own_step (fun _ κ => XS.iload X88.here hx rfl (hb hby at_205) rfl κ) ?_
      show own_Go _ _ _ _ (T88.setTop (mkF m 207 #[.val (.int p0), .val (.int p1), .val (.int p2), .val (.int p3), .val (.int p4), .val (.int p5), .val (.ref b1), .val (.ref b4), .val (.int off), .val (.int cnt), .val (.int (own_mn (((p5.toUInt32 >>> ((3 : Int32) &&& 31).toUInt32).toInt32) &&& (31 : Int32)) ln)), .val (.ref r76), .unset] [(.int off), (.int (own_mn (((p5.toUInt32 >>> ((3 : Int32) &&& 31).toUInt32).toInt32) &&& (31 : Int32)) ln)), (.ref r76)]))
      refine own_step (fun _ κ => XS.iloadN X88.here hx rfl (hb hby at_207) rfl κ) ?_
      show own_Go _ _ _ _ (T88.setTop (mkF m 208 #[.val (.int p0), .val (.int p1), .val (.int p2), .val (.int p3), .val (.int p4), .val (.int p5), .val (.ref b1), .val (.ref b4), .val (.int off), .val (.int cnt), .val (.int (own_mn (((p5.toUInt32 >>> ((3 : Int32) &&& 31).toUInt32).toInt32) &&& (31 : Int32)) ln)), .val (.ref r76), .unset] [(.int p1), (.int off), (.int (own_mn (((p5.toUInt32 >>> ((3 : Int32) &&& 31).toUInt32).toInt32) &&& (31 : Int32)) ln)), (.ref r76)]))
      refine own_step (fun _ κ => XS.iloadN X88.here hx rfl (hb hby at_208) rfl κ) ?_
      show own_Go _ _ _ _ (T88.setTop (mkF m 209 #[.val (.int p0), .val (.int p1), .val (.int p2), .val (.int p3), .val (.int p4), .val (.int p5), .val (.ref b1), .val (.ref b4), .val (.int off), .val (.int cnt), .val (.int (own_mn (((p5.toUInt32 >>> ((3 : Int32) &&& 31).toUInt32).toInt32) &&& (31 : Int32)) ln)), .val (.ref r76), .unset] [(.int p2), (.int p1), (.int off), (.int (own_mn (((p5.toUInt32 >>> ((3 : Int32) &&& 31).toUInt32).toInt32) &&& (31 : Int32)) ln)), (.ref r76)]))
      refine own_step (fun _ κ => XS.iloadN X88.here hx rfl (hb hby at_209) rfl κ) ?_
      show own_Go _ _ _ _ (T88.setTop (mkF m 210 #[.val (.int p0), .val (.int p1), .val (.int p2), .val (.int p3), .val (.int p4), .val (.int p5), .val (.ref b1), .val (.ref b4), .val (.int off), .val (.int cnt), .val (.int (own_mn (((p5.toUInt32 >>> ((3 : Int32) &&& 31).toUInt32).toInt32) &&& (31 : Int32)) ln)), .val (.ref r76), .unset] [(.int p3), (.int p2), (.int p1), (.int off), (.int (own_mn (((p5.toUInt32 >>> ((3 : Int32) &&& 31).toUInt32).toInt32) &&& (31 : Int32)) ln)), (.ref r76)]))
      refine own_step (fun _ κ => XS.iload X88.here hx rfl (hb hby at_210) rfl κ) ?_
      show own_Go _ _ _ _ (T88.setTop (mkF m 212 #[.val (.int p0), .val (.int p1), .val (.int p2), .val (.int p3), .val (.int p4), .val (.int p5), .val (.ref b1), .val (.ref b4), .val (.int off), .val (.int cnt), .val (.int (own_mn (((p5.toUInt32 >>> ((3 : Int32) &&& 31).toUInt32).toInt32) &&& (31 : Int32)) ln)), .val (.ref r76), .unset] [(.int off), (.int p3), (.int p2), (.int p1), (.int off), (.int (own_mn (((p5.toUInt32 >>> ((3 : Int32) &&& 31).toUInt32).toInt32) &&& (31 : Int32)) ln)), (.ref r76)]))
      refine own_step (fun _ κ => XS.iconst X88.here hx rfl (hb hby at_212) κ) ?_
      show own_Go _ _ _ _ (T88.setTop (mkF m 213 #[.val (.int p0), .val (.int p1), .val (.int p2), .val (.int p3), .val (.int p4), .val (.int p5), .val (.ref b1), .val (.ref b4), .val (.int off), .val (.int cnt), .val (.int (own_mn (((p5.toUInt32 >>> ((3 : Int32) &&& 31).toUInt32).toInt32) &&& (31 : Int32)) ln)), .val (.ref r76), .unset] [(.int (1 : Int32)), (.int off), (.int p3), (.int p2), (.int p1), (.int off), (.int (own_mn (((p5.toUInt32 >>> ((3 : Int32) &&& 31).toUInt32).toInt32) &&& (31 : Int32)) ln)), (.ref r76)]))
      refine own_step (fun _ κ => XS.iadd X88.here hx rfl (hb hby at_213) rfl κ) ?_
      show own_Go _ _ _ _ (T88.setTop (mkF m 214 #[.val (.int p0), .val (.int p1), .val (.int p2), .val (.int p3), .val (.int p4), .val (.int p5), .val (.ref b1), .val (.ref b4), .val (.int off), .val (.int cnt), .val (.int (own_mn (((p5.toUInt32 >>> ((3 : Int32) &&& 31).toUInt32).toInt32) &&& (31 : Int32)) ln)), .val (.ref r76), .unset] [(.int (off + (1 : Int32))), (.int p3), (.int p2), (.int p1), (.int off), (.int (own_mn (((p5.toUInt32 >>> ((3 : Int32) &&& 31).toUInt32).toInt32) &&& (31 : Int32)) ln)), (.ref r76)]))
      obtain ⟨vr89, _, ⟨T89, L89, k89, n89⟩, -, X89, ⟨Lc89, hQ89, l89, y89, z89⟩, st89⟩ := Jvm.LawKit.callS X88 hx (y := (⟨"com/example/lens_on_archives/lensonarchives/BytesToArrayPinLaw", "ok", "([BIIIIII)Z"⟩ : MethodName)) hown (mvT hZ (hw _ (List.mem_of_getElem? (i := 34) rfl))) (mvT hZ (hw _ (List.mem_of_getElem? (i := 35) rfl))) (mvT hZ (hw _ (List.mem_of_getElem? (i := 36) rfl))) (mvT hZ (hw _ (List.mem_of_getElem? (i := 37) rfl))) (by decide) (backOf (W := 0) (rm13 l Z a0 hw [] r76 (own_mn (((p5.toUInt32 >>> ((3 : Int32) &&& 31).toUInt32).toInt32) &&& (31 : Int32)) ln) off p1 p2 p3 (off + (1 : Int32)) (own_cut gj nj) T75.heap n0 z84 p75_1 (fun h1 h2 => ((hG.less (own_kept (u := ((p5.toUInt32 >>> ((3 : Int32) &&& 31).toUInt32).toInt32)) hz).2).cut (own_ng (Int.le_trans (Int.not_lt.mp (fun q => (own_kept (u := ((p5.toUInt32 >>> ((3 : Int32) &&& 31).toUInt32).toInt32)) hz).2 (Int32.lt_iff_toInt_lt.mpr q))) (Int.not_lt.mp (fun q => hzn (Int32.lt_iff_toInt_lt.mpr q)))))) _ h1 h2)) hZ (hw _ (List.mem_of_getElem? (i := 37) rfl)) (hw _ (List.mem_of_getElem? (i := 36) rfl)) (by decide) (by decide)) (g := (mkF m 214 #[.val (.int p0), .val (.int p1), .val (.int p2), .val (.int p3), .val (.int p4), .val (.int p5), .val (.ref b1), .val (.ref b4), .val (.int off), .val (.int cnt), .val (.int (own_mn (((p5.toUInt32 >>> ((3 : Int32) &&& 31).toUInt32).toInt32) &&& (31 : Int32)) ln)), .val (.ref r76), .unset] [(.int (off + (1 : Int32))), (.int p3), (.int p2), (.int p1), (.int off), (.int (own_mn (((p5.toUInt32 >>> ((3 : Int32) &&& 31).toUInt32).toInt32) &&& (31 : Int32)) ln)), (.ref r76)])) rfl (by rw [hml]; rfl) (argsL := [(.ref r76), (.int (own_mn (((p5.toUInt32 >>> ((3 : Int32) &&& 31).toUInt32).toInt32) &&& (31 : Int32)) ln)), (.int off), (.int p1), (.int p2), (.int p3), (.int (off + (1 : Int32)))]) (rest := []) (lenOf pd_5 rfl) rfl (by show 2 * 0 + _ ≤ _; exact Nat.le_of_eq rfl) (hb hby at_214) (fun _ _ => ⟨rfl, eq88, (by decide : 5 + 0 ≤ _), (by decide : 116 + 0 ≤ _)⟩)
      dsimp only [Pt.U, Pt.locs, Pt.cells, Pt.slots] at X89 l89 y89 z89 st89 hQ89
      subst l89 y89 z89
      obtain ⟨rfl, Nq89, eq89⟩ := hQ89
      have N89 := Fr.app N88 Nq89
      refine own_step st89 ?_
      show own_Go _ _ _ _ (T89.setTop (mkF m 217 #[.val (.int p0), .val (.int p1), .val (.int p2), .val (.int p3), .val (.int p4), .val (.int p5), .val (.ref b1), .val (.ref b4), .val (.int off), .val (.int cnt), .val (.int (own_mn (((p5.toUInt32 >>> ((3 : Int32) &&& 31).toUInt32).toInt32) &&& (31 : Int32)) ln)), .val (.ref r76), .unset] [(.int (1 : Int32))]))
      refine own_step (fun _ κ => XS.ifYes X89.here hx rfl (pc0 := 217) (pc' := 222) rfl (hb hby at_217) rfl ((if0 _ _).trans (feq (by decide)).2) (by decide) (by decide) κ) ?_
      show own_Go _ _ _ _ (T89.setTop (mkF m 222 #[.val (.int p0), .val (.int p1), .val (.int p2), .val (.int p3), .val (.int p4), .val (.int p5), .val (.ref b1), .val (.ref b4), .val (.int off), .val (.int cnt), .val (.int (own_mn (((p5.toUInt32 >>> ((3 : Int32) &&& 31).toUInt32).toInt32) &&& (31 : Int32)) ln)), .val (.ref r76), .unset] []))
      refine own_step (fun _ κ => XS.aload X89.here hx rfl (hb hby at_222) rfl rfl κ) ?_
      show own_Go _ _ _ _ (T89.setTop (mkF m 224 #[.val (.int p0), .val (.int p1), .val (.int p2), .val (.int p3), .val (.int p4), .val (.int p5), .val (.ref b1), .val (.ref b4), .val (.int off), .val (.int cnt), .val (.int (own_mn (((p5.toUInt32 >>> ((3 : Int32) &&& 31).toUInt32).toInt32) &&& (31 : Int32)) ln)), .val (.ref r76), .unset] [(.ref r76)]))
      refine own_step (fun _ κ => XS.iload X89.here hx rfl (hb hby at_224) rfl κ) ?_
      show own_Go _ _ _ _ (T89.setTop (mkF m 226 #[.val (.int p0), .val (.int p1), .val (.int p2), .val (.int p3), .val (.int p4), .val (.int p5), .val (.ref b1), .val (.ref b4), .val (.int off), .val (.int cnt), .val (.int (own_mn (((p5.toUInt32 >>> ((3 : Int32) &&& 31).toUInt32).toInt32) &&& (31 : Int32)) ln)), .val (.ref r76), .unset] [(.int (own_mn (((p5.toUInt32 >>> ((3 : Int32) &&& 31).toUInt32).toInt32) &&& (31 : Int32)) ln)), (.ref r76)]))
      refine own_step (fun _ κ => XS.iload X89.here hx rfl (hb hby at_226) rfl κ) ?_
      show own_Go _ _ _ _ (T89.setTop (mkF m 228 #[.val (.int p0), .val (.int p1), .val (.int p2), .val (.int p3), .val (.int p4), .val (.int p5), .val (.ref b1), .val (.ref b4), .val (.int off), .val (.int cnt), .val (.int (own_mn (((p5.toUInt32 >>> ((3 : Int32) &&& 31).toUInt32).toInt32) &&& (31 : Int32)) ln)), .val (.ref r76), .unset] [(.int off), (.int (own_mn (((p5.toUInt32 >>> ((3 : Int32) &&& 31).toUInt32).toInt32) &&& (31 : Int32)) ln)), (.ref r76)]))
      refine own_step (fun _ κ => XS.iloadN X89.here hx rfl (hb hby at_228) rfl κ) ?_
      show own_Go _ _ _ _ (T89.setTop (mkF m 229 #[.val (.int p0), .val (.int p1), .val (.int p2), .val (.int p3), .val (.int p4), .val (.int p5), .val (.ref b1), .val (.ref b4), .val (.int off), .val (.int cnt), .val (.int (own_mn (((p5.toUInt32 >>> ((3 : Int32) &&& 31).toUInt32).toInt32) &&& (31 : Int32)) ln)), .val (.ref r76), .unset] [(.int p1), (.int off), (.int (own_mn (((p5.toUInt32 >>> ((3 : Int32) &&& 31).toUInt32).toInt32) &&& (31 : Int32)) ln)), (.ref r76)]))
      refine own_step (fun _ κ => XS.iloadN X89.here hx rfl (hb hby at_229) rfl κ) ?_
      show own_Go _ _ _ _ (T89.setTop (mkF m 230 #[.val (.int p0), .val (.int p1), .val (.int p2), .val (.int p3), .val (.int p4), .val (.int p5), .val (.ref b1), .val (.ref b4), .val (.int off), .val (.int cnt), .val (.int (own_mn (((p5.toUInt32 >>> ((3 : Int32) &&& 31).toUInt32).toInt32) &&& (31 : Int32)) ln)), .val (.ref r76), .unset] [(.int p2), (.int p1), (.int off), (.int (own_mn (((p5.toUInt32 >>> ((3 : Int32) &&& 31).toUInt32).toInt32) &&& (31 : Int32)) ln)), (.ref r76)]))
      refine own_step (fun _ κ => XS.iloadN X89.here hx rfl (hb hby at_230) rfl κ) ?_
      show own_Go _ _ _ _ (T89.setTop (mkF m 231 #[.val (.int p0), .val (.int p1), .val (.int p2), .val (.int p3), .val (.int p4), .val (.int p5), .val (.ref b1), .val (.ref b4), .val (.int off), .val (.int cnt), .val (.int (own_mn (((p5.toUInt32 >>> ((3 : Int32) &&& 31).toUInt32).toInt32) &&& (31 : Int32)) ln)), .val (.ref r76), .unset] [(.int p3), (.int p2), (.int p1), (.int off), (.int (own_mn (((p5.toUInt32 >>> ((3 : Int32) &&& 31).toUInt32).toInt32) &&& (31 : Int32)) ln)), (.ref r76)]))
      refine own_step (fun _ κ => XS.iload X89.here hx rfl (hb hby at_231) rfl κ) ?_
      show own_Go _ _ _ _ (T89.setTop (mkF m 233 #[.val (.int p0), .val (.int p1), .val (.int p2), .val (.int p3), .val (.int p4), .val (.int p5), .val (.ref b1), .val (.ref b4), .val (.int off), .val (.int cnt), .val (.int (own_mn (((p5.toUInt32 >>> ((3 : Int32) &&& 31).toUInt32).toInt32) &&& (31 : Int32)) ln)), .val (.ref r76), .unset] [(.int off), (.int p3), (.int p2), (.int p1), (.int off), (.int (own_mn (((p5.toUInt32 >>> ((3 : Int32) &&& 31).toUInt32).toInt32) &&& (31 : Int32)) ln)), (.ref r76)]))
      refine own_step (fun _ κ => XS.iconst X89.here hx rfl (hb hby at_233) κ) ?_
      show own_Go _ _ _ _ (T89.setTop (mkF m 234 #[.val (.int p0), .val (.int p1), .val (.int p2), .val (.int p3), .val (.int p4), .val (.int p5), .val (.ref b1), .val (.ref b4), .val (.int off), .val (.int cnt), .val (.int (own_mn (((p5.toUInt32 >>> ((3 : Int32) &&& 31).toUInt32).toInt32) &&& (31 : Int32)) ln)), .val (.ref r76), .unset] [(.int (2 : Int32)), (.int off), (.int p3), (.int p2), (.int p1), (.int off), (.int (own_mn (((p5.toUInt32 >>> ((3 : Int32) &&& 31).toUInt32).toInt32) &&& (31 : Int32)) ln)), (.ref r76)]))
      refine own_step (fun _ κ => XS.iadd X89.here hx rfl (hb hby at_234) rfl κ) ?_
      show own_Go _ _ _ _ (T89.setTop (mkF m 235 #[.val (.int p0), .val (.int p1), .val (.int p2), .val (.int p3), .val (.int p4), .val (.int p5), .val (.ref b1), .val (.ref b4), .val (.int off), .val (.int cnt), .val (.int (own_mn (((p5.toUInt32 >>> ((3 : Int32) &&& 31).toUInt32).toInt32) &&& (31 : Int32)) ln)), .val (.ref r76), .unset] [(.int (off + (2 : Int32))), (.int p3), (.int p2), (.int p1), (.int off), (.int (own_mn (((p5.toUInt32 >>> ((3 : Int32) &&& 31).toUInt32).toInt32) &&& (31 : Int32)) ln)), (.ref r76)]))
      obtain ⟨vr90, _, ⟨T90, L90, k90, n90⟩, -, X90, ⟨Lc90, hQ90, l90, y90, z90⟩, st90⟩ := Jvm.LawKit.callS X89 hx (y := (⟨"com/example/lens_on_archives/lensonarchives/BytesToArrayPinLaw", "ok", "([BIIIIII)Z"⟩ : MethodName)) hown (mvT hZ (hw _ (List.mem_of_getElem? (i := 34) rfl))) (mvT hZ (hw _ (List.mem_of_getElem? (i := 35) rfl))) (mvT hZ (hw _ (List.mem_of_getElem? (i := 36) rfl))) (mvT hZ (hw _ (List.mem_of_getElem? (i := 37) rfl))) (by decide) (backOf (W := 0) (rm13 l Z a0 hw [] r76 (own_mn (((p5.toUInt32 >>> ((3 : Int32) &&& 31).toUInt32).toInt32) &&& (31 : Int32)) ln) off p1 p2 p3 (off + (2 : Int32)) (own_cut gj nj) T75.heap n0 z84 p75_1 (fun h1 h2 => ((hG.less (own_kept (u := ((p5.toUInt32 >>> ((3 : Int32) &&& 31).toUInt32).toInt32)) hz).2).cut (own_ng (Int.le_trans (Int.not_lt.mp (fun q => (own_kept (u := ((p5.toUInt32 >>> ((3 : Int32) &&& 31).toUInt32).toInt32)) hz).2 (Int32.lt_iff_toInt_lt.mpr q))) (Int.not_lt.mp (fun q => hzn (Int32.lt_iff_toInt_lt.mpr q)))))) _ h1 h2)) hZ (hw _ (List.mem_of_getElem? (i := 37) rfl)) (hw _ (List.mem_of_getElem? (i := 36) rfl)) (by decide) (by decide)) (g := (mkF m 235 #[.val (.int p0), .val (.int p1), .val (.int p2), .val (.int p3), .val (.int p4), .val (.int p5), .val (.ref b1), .val (.ref b4), .val (.int off), .val (.int cnt), .val (.int (own_mn (((p5.toUInt32 >>> ((3 : Int32) &&& 31).toUInt32).toInt32) &&& (31 : Int32)) ln)), .val (.ref r76), .unset] [(.int (off + (2 : Int32))), (.int p3), (.int p2), (.int p1), (.int off), (.int (own_mn (((p5.toUInt32 >>> ((3 : Int32) &&& 31).toUInt32).toInt32) &&& (31 : Int32)) ln)), (.ref r76)])) rfl (by rw [hml]; rfl) (argsL := [(.ref r76), (.int (own_mn (((p5.toUInt32 >>> ((3 : Int32) &&& 31).toUInt32).toInt32) &&& (31 : Int32)) ln)), (.int off), (.int p1), (.int p2), (.int p3), (.int (off + (2 : Int32)))]) (rest := []) (lenOf pd_5 rfl) rfl (by show 2 * 0 + _ ≤ _; exact Nat.le_of_eq rfl) (hb hby at_235) (fun _ _ => ⟨rfl, eq89, (by decide : 5 + 0 ≤ _), (by decide : 116 + 0 ≤ _)⟩)
      dsimp only [Pt.U, Pt.locs, Pt.cells, Pt.slots] at X90 l90 y90 z90 st90 hQ90
      subst l90 y90 z90
      obtain ⟨rfl, Nq90, eq90⟩ := hQ90
      have N90 := Fr.app N89 Nq90
      refine own_step st90 ?_
      show own_Go _ _ _ _ (T90.setTop (mkF m 238 #[.val (.int p0), .val (.int p1), .val (.int p2), .val (.int p3), .val (.int p4), .val (.int p5), .val (.ref b1), .val (.ref b4), .val (.int off), .val (.int cnt), .val (.int (own_mn (((p5.toUInt32 >>> ((3 : Int32) &&& 31).toUInt32).toInt32) &&& (31 : Int32)) ln)), .val (.ref r76), .unset] [(.int (1 : Int32))]))
      refine own_step (fun _ κ => XS.ifYes X90.here hx rfl (pc0 := 238) (pc' := 243) rfl (hb hby at_238) rfl ((if0 _ _).trans (feq (by decide)).2) (by decide) (by decide) κ) ?_
      show own_Go _ _ _ _ (T90.setTop (mkF m 243 #[.val (.int p0), .val (.int p1), .val (.int p2), .val (.int p3), .val (.int p4), .val (.int p5), .val (.ref b1), .val (.ref b4), .val (.int off), .val (.int cnt), .val (.int (own_mn (((p5.toUInt32 >>> ((3 : Int32) &&& 31).toUInt32).toInt32) &&& (31 : Int32)) ln)), .val (.ref r76), .unset] []))
      refine own_step (fun _ κ => XS.iload X90.here hx rfl (hb hby at_243) rfl κ) ?_
      show own_Go _ _ _ _ (T90.setTop (mkF m 245 #[.val (.int p0), .val (.int p1), .val (.int p2), .val (.int p3), .val (.int p4), .val (.int p5), .val (.ref b1), .val (.ref b4), .val (.int off), .val (.int cnt), .val (.int (own_mn (((p5.toUInt32 >>> ((3 : Int32) &&& 31).toUInt32).toInt32) &&& (31 : Int32)) ln)), .val (.ref r76), .unset] [(.int (own_mn (((p5.toUInt32 >>> ((3 : Int32) &&& 31).toUInt32).toInt32) &&& (31 : Int32)) ln))]))
      by_cases hc91 : (0 : Int32) < (own_mn (((p5.toUInt32 >>> ((3 : Int32) &&& 31).toUInt32).toInt32) &&& (31 : Int32)) ln)
      · refine own_step (fun _ κ => XS.ifNo X90.here hx rfl (hb hby at_245) rfl ((if0 _ _).trans (tlt hc91).2.2.2) κ) ?_
        show own_Go _ _ _ _ (T90.setTop (mkF m 248 #[.val (.int p0), .val (.int p1), .val (.int p2), .val (.int p3), .val (.int p4), .val (.int p5), .val (.ref b1), .val (.ref b4), .val (.int off), .val (.int cnt), .val (.int (own_mn (((p5.toUInt32 >>> ((3 : Int32) &&& 31).toUInt32).toInt32) &&& (31 : Int32)) ln)), .val (.ref r76), .unset] []))
        refine own_step (fun _ κ => XS.aload X90.here hx rfl (hb hby at_248) rfl rfl κ) ?_
        show own_Go _ _ _ _ (T90.setTop (mkF m 250 #[.val (.int p0), .val (.int p1), .val (.int p2), .val (.int p3), .val (.int p4), .val (.int p5), .val (.ref b1), .val (.ref b4), .val (.int off), .val (.int cnt), .val (.int (own_mn (((p5.toUInt32 >>> ((3 : Int32) &&& 31).toUInt32).toInt32) &&& (31 : Int32)) ln)), .val (.ref r76), .unset] [(.ref r76)]))
        refine own_step (fun _ κ => XS.iload X90.here hx rfl (hb hby at_250) rfl κ) ?_
        show own_Go _ _ _ _ (T90.setTop (mkF m 252 #[.val (.int p0), .val (.int p1), .val (.int p2), .val (.int p3), .val (.int p4), .val (.int p5), .val (.ref b1), .val (.ref b4), .val (.int off), .val (.int cnt), .val (.int (own_mn (((p5.toUInt32 >>> ((3 : Int32) &&& 31).toUInt32).toInt32) &&& (31 : Int32)) ln)), .val (.ref r76), .unset] [(.int (own_mn (((p5.toUInt32 >>> ((3 : Int32) &&& 31).toUInt32).toInt32) &&& (31 : Int32)) ln)), (.ref r76)]))
        refine own_step (fun _ κ => XS.iconst X90.here hx rfl (hb hby at_252) κ) ?_
        show own_Go _ _ _ _ (T90.setTop (mkF m 253 #[.val (.int p0), .val (.int p1), .val (.int p2), .val (.int p3), .val (.int p4), .val (.int p5), .val (.ref b1), .val (.ref b4), .val (.int off), .val (.int cnt), .val (.int (own_mn (((p5.toUInt32 >>> ((3 : Int32) &&& 31).toUInt32).toInt32) &&& (31 : Int32)) ln)), .val (.ref r76), .unset] [(.int (1 : Int32)), (.int (own_mn (((p5.toUInt32 >>> ((3 : Int32) &&& 31).toUInt32).toInt32) &&& (31 : Int32)) ln)), (.ref r76)]))
        refine own_step (fun _ κ => XS.isub X90.here hx rfl (hb hby at_253) rfl κ) ?_
        show own_Go _ _ _ _ (T90.setTop (mkF m 254 #[.val (.int p0), .val (.int p1), .val (.int p2), .val (.int p3), .val (.int p4), .val (.int p5), .val (.ref b1), .val (.ref b4), .val (.int off), .val (.int cnt), .val (.int (own_mn (((p5.toUInt32 >>> ((3 : Int32) &&& 31).toUInt32).toInt32) &&& (31 : Int32)) ln)), .val (.ref r76), .unset] [(.int ((own_mn (((p5.toUInt32 >>> ((3 : Int32) &&& 31).toUInt32).toInt32) &&& (31 : Int32)) ln) - (1 : Int32))), (.ref r76)]))
        refine own_step (fun _ κ => XS.aload X90.here hx rfl (hb hby at_254) rfl rfl κ) ?_
        show own_Go _ _ _ _ (T90.setTop (mkF m 256 #[.val (.int p0), .val (.int p1), .val (.int p2), .val (.int p3), .val (.int p4), .val (.int p5), .val (.ref b1), .val (.ref b4), .val (.int off), .val (.int cnt), .val (.int (own_mn (((p5.toUInt32 >>> ((3 : Int32) &&& 31).toUInt32).toInt32) &&& (31 : Int32)) ln)), .val (.ref r76), .unset] [(.ref r76), (.int ((own_mn (((p5.toUInt32 >>> ((3 : Int32) &&& 31).toUInt32).toInt32) &&& (31 : Int32)) ln) - (1 : Int32))), (.ref r76)]))
        refine own_step (fun _ κ => XS.iload X90.here hx rfl (hb hby at_256) rfl κ) ?_
        show own_Go _ _ _ _ (T90.setTop (mkF m 258 #[.val (.int p0), .val (.int p1), .val (.int p2), .val (.int p3), .val (.int p4), .val (.int p5), .val (.ref b1), .val (.ref b4), .val (.int off), .val (.int cnt), .val (.int (own_mn (((p5.toUInt32 >>> ((3 : Int32) &&& 31).toUInt32).toInt32) &&& (31 : Int32)) ln)), .val (.ref r76), .unset] [(.int (own_mn (((p5.toUInt32 >>> ((3 : Int32) &&& 31).toUInt32).toInt32) &&& (31 : Int32)) ln)), (.ref r76), (.int ((own_mn (((p5.toUInt32 >>> ((3 : Int32) &&& 31).toUInt32).toInt32) &&& (31 : Int32)) ln) - (1 : Int32))), (.ref r76)]))
        refine own_step (fun _ κ => XS.iconst X90.here hx rfl (hb hby at_258) κ) ?_
        show own_Go _ _ _ _ (T90.setTop (mkF m 259 #[.val (.int p0), .val (.int p1), .val (.int p2), .val (.int p3), .val (.int p4), .val (.int p5), .val (.ref b1), .val (.ref b4), .val (.int off), .val (.int cnt), .val (.int (own_mn (((p5.toUInt32 >>> ((3 : Int32) &&& 31).toUInt32).toInt32) &&& (31 : Int32)) ln)), .val (.ref r76), .unset] [(.int (1 : Int32)), (.int (own_mn (((p5.toUInt32 >>> ((3 : Int32) &&& 31).toUInt32).toInt32) &&& (31 : Int32)) ln)), (.ref r76), (.int ((own_mn (((p5.toUInt32 >>> ((3 : Int32) &&& 31).toUInt32).toInt32) &&& (31 : Int32)) ln) - (1 : Int32))), (.ref r76)]))
        refine own_step (fun _ κ => XS.isub X90.here hx rfl (hb hby at_259) rfl κ) ?_
        show own_Go _ _ _ _ (T90.setTop (mkF m 260 #[.val (.int p0), .val (.int p1), .val (.int p2), .val (.int p3), .val (.int p4), .val (.int p5), .val (.ref b1), .val (.ref b4), .val (.int off), .val (.int cnt), .val (.int (own_mn (((p5.toUInt32 >>> ((3 : Int32) &&& 31).toUInt32).toInt32) &&& (31 : Int32)) ln)), .val (.ref r76), .unset] [(.int ((own_mn (((p5.toUInt32 >>> ((3 : Int32) &&& 31).toUInt32).toInt32) &&& (31 : Int32)) ln) - (1 : Int32))), (.ref r76), (.int ((own_mn (((p5.toUInt32 >>> ((3 : Int32) &&& 31).toUInt32).toInt32) &&& (31 : Int32)) ln) - (1 : Int32))), (.ref r76)]))
        obtain ⟨cl92, Ar92, Sz92, Nz92, at92⟩ := p75_1.opened
        have hin92 := inb_of (j := ((own_mn (((p5.toUInt32 >>> ((3 : Int32) &&& 31).toUInt32).toInt32) &&& (31 : Int32)) ln) - (1 : Int32))) Sz92 (own_last hc91 (own_kept (u := ((p5.toUInt32 >>> ((3 : Int32) &&& 31).toUInt32).toInt32)) hz).1)
        refine own_step (fun _ κ => X90.baloadBytes hx (j := ((own_mn (((p5.toUInt32 >>> ((3 : Int32) &&& 31).toUInt32).toInt32) &&& (31 : Int32)) ln) - (1 : Int32))) (v := (.int ((own_cut gj nj) ((own_mn (((p5.toUInt32 >>> ((3 : Int32) &&& 31).toUInt32).toInt32) &&& (31 : Int32)) ln) - (1 : Int32)).toNatClampNeg))) (by rw [eq90]; exact Ar92.1) (State.isArrayOf_alike hZ.alike Ar92.2.1) Ar92.2.2 hin92 (at92 _ hin92) (g := (mkF m 260 #[.val (.int p0), .val (.int p1), .val (.int p2), .val (.int p3), .val (.int p4), .val (.int p5), .val (.ref b1), .val (.ref b4), .val (.int off), .val (.int cnt), .val (.int (own_mn (((p5.toUInt32 >>> ((3 : Int32) &&& 31).toUInt32).toInt32) &&& (31 : Int32)) ln)), .val (.ref r76), .unset] [(.int ((own_mn (((p5.toUInt32 >>> ((3 : Int32) &&& 31).toUInt32).toInt32) &&& (31 : Int32)) ln) - (1 : Int32))), (.ref r76), (.int ((own_mn (((p5.toUInt32 >>> ((3 : Int32) &&& 31).toUInt32).toInt32) &&& (31 : Int32)) ln) - (1 : Int32))), (.ref r76)])) rfl rfl (hb hby at_260) _ κ) ?_
        show own_Go _ _ _ _ (T90.setTop (mkF m 261 #[.val (.int p0), .val (.int p1), .val (.int p2), .val (.int p3), .val (.int p4), .val (.int p5), .val (.ref b1), .val (.ref b4), .val (.int off), .val (.int cnt), .val (.int (own_mn (((p5.toUInt32 >>> ((3 : Int32) &&& 31).toUInt32).toInt32) &&& (31 : Int32)) ln)), .val (.ref r76), .unset] [(.int ((own_cut gj nj) ((own_mn (((p5.toUInt32 >>> ((3 : Int32) &&& 31).toUInt32).toInt32) &&& (31 : Int32)) ln) - (1 : Int32)).toNatClampNeg)), (.int ((own_mn (((p5.toUInt32 >>> ((3 : Int32) &&& 31).toUInt32).toInt32) &&& (31 : Int32)) ln) - (1 : Int32))), (.ref r76)]))
        refine own_step (fun _ κ => XS.iconst X90.here hx rfl (hb hby at_261) κ) ?_
        show own_Go _ _ _ _ (T90.setTop (mkF m 262 #[.val (.int p0), .val (.int p1), .val (.int p2), .val (.int p3), .val (.int p4), .val (.int p5), .val (.ref b1), .val (.ref b4), .val (.int off), .val (.int cnt), .val (.int (own_mn (((p5.toUInt32 >>> ((3 : Int32) &&& 31).toUInt32).toInt32) &&& (31 : Int32)) ln)), .val (.ref r76), .unset] [(.int (1 : Int32)), (.int ((own_cut gj nj) ((own_mn (((p5.toUInt32 >>> ((3 : Int32) &&& 31).toUInt32).toInt32) &&& (31 : Int32)) ln) - (1 : Int32)).toNatClampNeg)), (.int ((own_mn (((p5.toUInt32 >>> ((3 : Int32) &&& 31).toUInt32).toInt32) &&& (31 : Int32)) ln) - (1 : Int32))), (.ref r76)]))
        refine own_step (fun _ κ => XS.ixor X90.here hx rfl (hb hby at_262) rfl κ) ?_
        show own_Go _ _ _ _ (T90.setTop (mkF m 263 #[.val (.int p0), .val (.int p1), .val (.int p2), .val (.int p3), .val (.int p4), .val (.int p5), .val (.ref b1), .val (.ref b4), .val (.int off), .val (.int cnt), .val (.int (own_mn (((p5.toUInt32 >>> ((3 : Int32) &&& 31).toUInt32).toInt32) &&& (31 : Int32)) ln)), .val (.ref r76), .unset] [(.int (((own_cut gj nj) ((own_mn (((p5.toUInt32 >>> ((3 : Int32) &&& 31).toUInt32).toInt32) &&& (31 : Int32)) ln) - (1 : Int32)).toNatClampNeg) ^^^ (1 : Int32))), (.int ((own_mn (((p5.toUInt32 >>> ((3 : Int32) &&& 31).toUInt32).toInt32) &&& (31 : Int32)) ln) - (1 : Int32))), (.ref r76)]))
        refine own_step (fun _ κ => XS.i2b X90.here hx rfl (hb hby at_263) rfl κ) ?_
        show own_Go _ _ _ _ (T90.setTop (mkF m 264 #[.val (.int p0), .val (.int p1), .val (.int p2), .val (.int p3), .val (.int p4), .val (.int p5), .val (.ref b1), .val (.ref b4), .val (.int off), .val (.int cnt), .val (.int (own_mn (((p5.toUInt32 >>> ((3 : Int32) &&& 31).toUInt32).toInt32) &&& (31 : Int32)) ln)), .val (.ref r76), .unset] [(.int ((((own_cut gj nj) ((own_mn (((p5.toUInt32 >>> ((3 : Int32) &&& 31).toUInt32).toInt32) &&& (31 : Int32)) ln) - (1 : Int32)).toNatClampNeg) ^^^ (1 : Int32)).toInt8.toInt32)), (.int ((own_mn (((p5.toUInt32 >>> ((3 : Int32) &&& 31).toUInt32).toInt32) &&& (31 : Int32)) ln) - (1 : Int32))), (.ref r76)]))
        obtain ⟨cl93, Ar93, Sz93, Nz93, -⟩ := p75_1.opened
        have hin93 := inb_of (j := ((own_mn (((p5.toUInt32 >>> ((3 : Int32) &&& 31).toUInt32).toInt32) &&& (31 : Int32)) ln) - (1 : Int32))) Sz93 (own_last hc91 (own_kept (u := ((p5.toUInt32 >>> ((3 : Int32) &&& 31).toUInt32).toInt32)) hz).1)
        obtain ⟨T93, h93, X93, e93, W93, st93⟩ := stB X90 hx hZ eq90 Ar93 (j := ((own_mn (((p5.toUInt32 >>> ((3 : Int32) &&& 31).toUInt32).toInt32) &&& (31 : Int32)) ln) - (1 : Int32))) hin93 (g := (mkF m 264 #[.val (.int p0), .val (.int p1), .val (.int p2), .val (.int p3), .val (.int p4), .val (.int p5), .val (.ref b1), .val (.ref b4), .val (.int off), .val (.int cnt), .val (.int (own_mn (((p5.toUInt32 >>> ((3 : Int32) &&& 31).toUInt32).toInt32) &&& (31 : Int32)) ln)), .val (.ref r76), .unset] [(.int ((((own_cut gj nj) ((own_mn (((p5.toUInt32 >>> ((3 : Int32) &&& 31).toUInt32).toInt32) &&& (31 : Int32)) ln) - (1 : Int32)).toNatClampNeg) ^^^ (1 : Int32)).toInt8.toInt32)), (.int ((own_mn (((p5.toUInt32 >>> ((3 : Int32) &&& 31).toUInt32).toInt32) &&& (31 : Int32)) ln) - (1 : Int32))), (.ref r76)])) rfl rfl (hb hby at_264)
        refine own_step st93 ?_
        have N93 := Fr.snoc X93 N90 ge79
        have V93 : own_By Z h93 r76 (own_mn (((p5.toUInt32 >>> ((3 : Int32) &&& 31).toUInt32).toInt32) &&& (31 : Int32)) ln) (own_upd (own_cut gj nj) ((own_mn (((p5.toUInt32 >>> ((3 : Int32) &&& 31).toUInt32).toInt32) &&& (31 : Int32)) ln) - (1 : Int32)).toNatClampNeg ((((own_cut gj nj) ((own_mn (((p5.toUInt32 >>> ((3 : Int32) &&& 31).toUInt32).toInt32) &&& (31 : Int32)) ln) - (1 : Int32)).toNatClampNeg) ^^^ (1 : Int32)).toInt8.toInt32).toInt8.toInt32) := p75_1.set W93 (own_last hc91 (own_kept (u := ((p5.toUInt32 >>> ((3 : Int32) &&& 31).toUInt32).toInt32)) hz).1)
        have f94 := f80.wr W93
        have f95 := f81.other W93 ne78
        have f96 := f82.other W93 (Or.inl ne77)
        have f97 := f83.other W93 (Or.inl ne77)
        have z98 : n0 ≤ h93.size := Nat.le_trans z84 (Keep.of_wr W93).1
        show own_Go _ _ _ _ (T93.setTop (mkF m 265 #[.val (.int p0), .val (.int p1), .val (.int p2), .val (.int p3), .val (.int p4), .val (.int p5), .val (.ref b1), .val (.ref b4), .val (.int off), .val (.int cnt), .val (.int (own_mn (((p5.toUInt32 >>> ((3 : Int32) &&& 31).toUInt32).toInt32) &&& (31 : Int32)) ln)), .val (.ref r76), .unset] []))
        refine own_step (fun _ κ => XS.aload X93.here hx rfl (hb hby at_265) rfl rfl κ) ?_
        show own_Go _ _ _ _ (T93.setTop (mkF m 267 #[.val (.int p0), .val (.int p1), .val (.int p2), .val (.int p3), .val (.int p4), .val (.int p5), .val (.ref b1), .val (.ref b4), .val (.int off), .val (.int cnt), .val (.int (own_mn (((p5.toUInt32 >>> ((3 : Int32) &&& 31).toUInt32).toInt32) &&& (31 : Int32)) ln)), .val (.ref r76), .unset] [(.ref b4)]))
        obtain ⟨cq99, kq99, q99a, q99b, q99c⟩ := isOf hZ e93 f94
        obtain ⟨vr99, _, ⟨T99, L99, k99, n99⟩, -, X99, ⟨Lc99, hQ99, l99, y99, z99⟩, st99⟩ := X93.virtualBack hx (y := (⟨"com/example/lens_on_archives/lensonarchives/Bytes", "toArray", "()[B"⟩ : MethodName)) (z := (⟨"com/example/lens_on_archives/lensonarchives/Bytes", "toArray", "()[B"⟩ : MethodName)) hown (mvT hZ (hw _ (List.mem_of_getElem? (i := 16) rfl))) (mvT hZ (hw _ (List.mem_of_getElem? (i := 17) rfl))) (notFace_of_selects (args := #[]) (mvT hZ (hw _ (List.mem_of_getElem? (i := 19) rfl)))) (mvT hZ (hw _ (List.mem_of_getElem? (i := 19) rfl))) (mvT hZ (hw _ (List.mem_of_getElem? (i := 18) rfl))) (by decide) (backOf (W := 0) (rm11 l Z a0 hw [] b4 bj nj gj (own_mn (((p5.toUInt32 >>> ((3 : Int32) &&& 31).toUInt32).toInt32) &&& (31 : Int32)) ln) h93 n0 z98 f96 f97 f95 (own_nn (own_kept (u := ((p5.toUInt32 >>> ((3 : Int32) &&& 31).toUInt32).toInt32)) hz).1.1) (own_n34 (Int.le_trans (own_kept (u := ((p5.toUInt32 >>> ((3 : Int32) &&& 31).toUInt32).toInt32)) hz).1.2 (by decide)))) hZ (hw _ (List.mem_of_getElem? (i := 20) rfl)) (hw _ (List.mem_of_getElem? (i := 3) rfl)) (by decide) (by decide)) q99a q99c (g := (mkF m 267 #[.val (.int p0), .val (.int p1), .val (.int p2), .val (.int p3), .val (.int p4), .val (.int p5), .val (.ref b1), .val (.ref b4), .val (.int off), .val (.int cnt), .val (.int (own_mn (((p5.toUInt32 >>> ((3 : Int32) &&& 31).toUInt32).toInt32) &&& (31 : Int32)) ln)), .val (.ref r76), .unset] [(.ref b4)])) rfl (by rw [hml]; rfl) (Steps.refl _) (argsL := []) (rest := []) (lenOf pd_4 rfl) rfl (by show 2 * 0 + _ ≤ _; exact Nat.le_of_eq rfl) (hb hby at_267) (fun _ _ => ⟨rfl, e93, (by decide : 5 + 1 ≤ _), (by decide : 116 + 34 ≤ _)⟩)
        dsimp only [Pt.U, Pt.locs, Pt.cells, Pt.slots] at X99 l99 y99 z99 st99 hQ99
        subst l99 y99 z99
        obtain ⟨r100, rfl, Nq99, Kq99, p99_0, p99_1⟩ := hQ99
        have N99 := Fr.app N93 Nq99
        have ne101 : b4 ≠ r100 := Nat.ne_of_lt (Nat.lt_of_lt_of_le f94.lt p99_0)
        have ne102 : bj ≠ r100 := Nat.ne_of_lt (Nat.lt_of_lt_of_le f95.lt p99_0)
        have ne103 : r76 ≠ r100 := Nat.ne_of_lt (Nat.lt_of_lt_of_le V93.lt p99_0)
        have ge104 : n0 ≤ r100 := Nat.le_trans z98 p99_0
        have f105 := f94.keep Kq99
        have f106 := f95.keep Kq99 nin0
        have f107 := f96.keep Kq99 nin0
        have f108 := f97.keep Kq99 nin0
        have f109 := V93.keep Kq99 nin0
        have z110 : n0 ≤ T99.heap.size := Nat.le_trans z98 Kq99.1
        refine own_step (fun _ κ => st99.trans κ) ?_
        show own_Go _ _ _ _ (T99.setTop (mkF m 270 #[.val (.int p0), .val (.int p1), .val (.int p2), .val (.int p3), .val (.int p4), .val (.int p5), .val (.ref b1), .val (.ref b4), .val (.int off), .val (.int cnt), .val (.int (own_mn (((p5.toUInt32 >>> ((3 : Int32) &&& 31).toUInt32).toInt32) &&& (31 : Int32)) ln)), .val (.ref r76), .unset] [(.ref r100)]))
        refine own_step (fun _ κ => XS.astore X99.here hx rfl (hb hby at_270) rfl rfl (l' := #[.val (.int p0), .val (.int p1), .val (.int p2), .val (.int p3), .val (.int p4), .val (.int p5), .val (.ref b1), .val (.ref b4), .val (.int off), .val (.int cnt), .val (.int (own_mn (((p5.toUInt32 >>> ((3 : Int32) &&& 31).toUInt32).toInt32) &&& (31 : Int32)) ln)), .val (.ref r76), .val (.ref r100)]) rfl κ) ?_
        show own_Go _ _ _ _ (T99.setTop (mkF m 272 #[.val (.int p0), .val (.int p1), .val (.int p2), .val (.int p3), .val (.int p4), .val (.int p5), .val (.ref b1), .val (.ref b4), .val (.int off), .val (.int cnt), .val (.int (own_mn (((p5.toUInt32 >>> ((3 : Int32) &&& 31).toUInt32).toInt32) &&& (31 : Int32)) ln)), .val (.ref r76), .val (.ref r100)] []))
        refine own_step (fun _ κ => XS.aload X99.here hx rfl (hb hby at_272) rfl rfl κ) ?_
        show own_Go _ _ _ _ (T99.setTop (mkF m 274 #[.val (.int p0), .val (.int p1), .val (.int p2), .val (.int p3), .val (.int p4), .val (.int p5), .val (.ref b1), .val (.ref b4), .val (.int off), .val (.int cnt), .val (.int (own_mn (((p5.toUInt32 >>> ((3 : Int32) &&& 31).toUInt32).toInt32) &&& (31 : Int32)) ln)), .val (.ref r76), .val (.ref r100)] [(.ref r100)]))
        obtain ⟨cl111, Ar111, Sz111, Nz111, -⟩ := p99_1.opened
        refine own_step (fun _ κ => X99.arraylength hx Ar111.1 (State.isArrayOf_alike hZ.alike Ar111.2.1) (g := (mkF m 274 #[.val (.int p0), .val (.int p1), .val (.int p2), .val (.int p3), .val (.int p4), .val (.int p5), .val (.ref b1), .val (.ref b4), .val (.int off), .val (.int cnt), .val (.int (own_mn (((p5.toUInt32 >>> ((3 : Int32) &&& 31).toUInt32).toInt32) &&& (31 : Int32)) ln)), .val (.ref r76), .val (.ref r100)] [(.ref r100)])) rfl rfl (hb hby at_274) _ κ) ?_
        rw [len_of Sz111 Nz111]
        show own_Go _ _ _ _ (T99.setTop (mkF m 275 #[.val (.int p0), .val (.int p1), .val (.int p2), .val (.int p3), .val (.int p4), .val (.int p5), .val (.ref b1), .val (.ref b4), .val (.int off), .val (.int cnt), .val (.int (own_mn (((p5.toUInt32 >>> ((3 : Int32) &&& 31).toUInt32).toInt32) &&& (31 : Int32)) ln)), .val (.ref r76), .val (.ref r100)] [(.int (own_mn (((p5.toUInt32 >>> ((3 : Int32) &&& 31).toUInt32).toInt32) &&& (31 : Int32)) ln))]))
        refine own_step (fun _ κ => XS.iload X99.here hx rfl (hb hby at_275) rfl κ) ?_
        show own_Go _ _ _ _ (T99.setTop (mkF m 277 #[.val (.int p0), .val (.int p1), .val (.int p2), .val (.int p3), .val (.int p4), .val (.int p5), .val (.ref b1), .val (.ref b4), .val (.int off), .val (.int cnt), .val (.int (own_mn (((p5.toUInt32 >>> ((3 : Int32) &&& 31).toUInt32).toInt32) &&& (31 : Int32)) ln)), .val (.ref r76), .val (.ref r100)] [(.int (own_mn (((p5.toUInt32 >>> ((3 : Int32) &&& 31).toUInt32).toInt32) &&& (31 : Int32)) ln)), (.int (own_mn (((p5.toUInt32 >>> ((3 : Int32) &&& 31).toUInt32).toInt32) &&& (31 : Int32)) ln))]))
        refine own_step (fun _ κ => XS.icmpYes X99.here hx rfl (pc0 := 277) (pc' := 282) rfl (hb hby at_277) rfl (teq rfl).1 (by decide) (by decide) κ) ?_
        show own_Go _ _ _ _ (T99.setTop (mkF m 282 #[.val (.int p0), .val (.int p1), .val (.int p2), .val (.int p3), .val (.int p4), .val (.int p5), .val (.ref b1), .val (.ref b4), .val (.int off), .val (.int cnt), .val (.int (own_mn (((p5.toUInt32 >>> ((3 : Int32) &&& 31).toUInt32).toInt32) &&& (31 : Int32)) ln)), .val (.ref r76), .val (.ref r100)] []))
        refine own_step (fun _ κ => XS.iload X99.here hx rfl (hb hby at_282) rfl κ) ?_
        show own_Go _ _ _ _ (T99.setTop (mkF m 284 #[.val (.int p0), .val (.int p1), .val (.int p2), .val (.int p3), .val (.int p4), .val (.int p5), .val (.ref b1), .val (.ref b4), .val (.int off), .val (.int cnt), .val (.int (own_mn (((p5.toUInt32 >>> ((3 : Int32) &&& 31).toUInt32).toInt32) &&& (31 : Int32)) ln)), .val (.ref r76), .val (.ref r100)] [(.int (own_mn (((p5.toUInt32 >>> ((3 : Int32) &&& 31).toUInt32).toInt32) &&& (31 : Int32)) ln))]))
        refine own_step (fun _ κ => XS.ifNo X99.here hx rfl (hb hby at_284) rfl ((if0 _ _).trans (tlt hc91).2.2.2) κ) ?_
        show own_Go _ _ _ _ (T99.setTop (mkF m 287 #[.val (.int p0), .val (.int p1), .val (.int p2), .val (.int p3), .val (.int p4), .val (.int p5), .val (.ref b1), .val (.ref b4), .val (.int off), .val (.int cnt), .val (.int (own_mn (((p5.toUInt32 >>> ((3 : Int32) &&& 31).toUInt32).toInt32) &&& (31 : Int32)) ln)), .val (.ref r76), .val (.ref r100)] []))
        refine own_step (fun _ κ => XS.aload X99.here hx rfl (hb hby at_287) rfl rfl κ) ?_
        show own_Go _ _ _ _ (T99.setTop (mkF m 289 #[.val (.int p0), .val (.int p1), .val (.int p2), .val (.int p3), .val (.int p4), .val (.int p5), .val (.ref b1), .val (.ref b4), .val (.int off), .val (.int cnt), .val (.int (own_mn (((p5.toUInt32 >>> ((3 : Int32) &&& 31).toUInt32).toInt32) &&& (31 : Int32)) ln)), .val (.ref r76), .val (.ref r100)] [(.ref r100)]))
        refine own_step (fun _ κ => XS.iload X99.here hx rfl (hb hby at_289) rfl κ) ?_
        show own_Go _ _ _ _ (T99.setTop (mkF m 291 #[.val (.int p0), .val (.int p1), .val (.int p2), .val (.int p3), .val (.int p4), .val (.int p5), .val (.ref b1), .val (.ref b4), .val (.int off), .val (.int cnt), .val (.int (own_mn (((p5.toUInt32 >>> ((3 : Int32) &&& 31).toUInt32).toInt32) &&& (31 : Int32)) ln)), .val (.ref r76), .val (.ref r100)] [(.int (own_mn (((p5.toUInt32 >>> ((3 : Int32) &&& 31).toUInt32).toInt32) &&& (31 : Int32)) ln)), (.ref r100)]))
        refine own_step (fun _ κ => XS.iconst X99.here hx rfl (hb hby at_291) κ) ?_
        show own_Go _ _ _ _ (T99.setTop (mkF m 292 #[.val (.int p0), .val (.int p1), .val (.int p2), .val (.int p3), .val (.int p4), .val (.int p5), .val (.ref b1), .val (.ref b4), .val (.int off), .val (.int cnt), .val (.int (own_mn (((p5.toUInt32 >>> ((3 : Int32) &&& 31).toUInt32).toInt32) &&& (31 : Int32)) ln)), .val (.ref r76), .val (.ref r100)] [(.int (1 : Int32)), (.int (own_mn (((p5.toUInt32 >>> ((3 : Int32) &&& 31).toUInt32).toInt32) &&& (31 : Int32)) ln)), (.ref r100)]))
        refine own_step (fun _ κ => XS.isub X99.here hx rfl (hb hby at_292) rfl κ) ?_
        show own_Go _ _ _ _ (T99.setTop (mkF m 293 #[.val (.int p0), .val (.int p1), .val (.int p2), .val (.int p3), .val (.int p4), .val (.int p5), .val (.ref b1), .val (.ref b4), .val (.int off), .val (.int cnt), .val (.int (own_mn (((p5.toUInt32 >>> ((3 : Int32) &&& 31).toUInt32).toInt32) &&& (31 : Int32)) ln)), .val (.ref r76), .val (.ref r100)] [(.int ((own_mn (((p5.toUInt32 >>> ((3 : Int32) &&& 31).toUInt32).toInt32) &&& (31 : Int32)) ln) - (1 : Int32))), (.ref r100)]))
        obtain ⟨cl112, Ar112, Sz112, Nz112, at112⟩ := p99_1.opened
        have hin112 := inb_of (j := ((own_mn (((p5.toUInt32 >>> ((3 : Int32) &&& 31).toUInt32).toInt32) &&& (31 : Int32)) ln) - (1 : Int32))) Sz112 (own_last hc91 (own_kept (u := ((p5.toUInt32 >>> ((3 : Int32) &&& 31).toUInt32).toInt32)) hz).1)
        refine own_step (fun _ κ => X99.baloadBytes hx (j := ((own_mn (((p5.toUInt32 >>> ((3 : Int32) &&& 31).toUInt32).toInt32) &&& (31 : Int32)) ln) - (1 : Int32))) (v := (.int ((own_cut gj nj) ((own_mn (((p5.toUInt32 >>> ((3 : Int32) &&& 31).toUInt32).toInt32) &&& (31 : Int32)) ln) - (1 : Int32)).toNatClampNeg))) Ar112.1 (State.isArrayOf_alike hZ.alike Ar112.2.1) Ar112.2.2 hin112 (at112 _ hin112) (g := (mkF m 293 #[.val (.int p0), .val (.int p1), .val (.int p2), .val (.int p3), .val (.int p4), .val (.int p5), .val (.ref b1), .val (.ref b4), .val (.int off), .val (.int cnt), .val (.int (own_mn (((p5.toUInt32 >>> ((3 : Int32) &&& 31).toUInt32).toInt32) &&& (31 : Int32)) ln)), .val (.ref r76), .val (.ref r100)] [(.int ((own_mn (((p5.toUInt32 >>> ((3 : Int32) &&& 31).toUInt32).toInt32) &&& (31 : Int32)) ln) - (1 : Int32))), (.ref r100)])) rfl rfl (hb hby at_293) _ κ) ?_
        show own_Go _ _ _ _ (T99.setTop (mkF m 294 #[.val (.int p0), .val (.int p1), .val (.int p2), .val (.int p3), .val (.int p4), .val (.int p5), .val (.ref b1), .val (.ref b4), .val (.int off), .val (.int cnt), .val (.int (own_mn (((p5.toUInt32 >>> ((3 : Int32) &&& 31).toUInt32).toInt32) &&& (31 : Int32)) ln)), .val (.ref r76), .val (.ref r100)] [(.int ((own_cut gj nj) ((own_mn (((p5.toUInt32 >>> ((3 : Int32) &&& 31).toUInt32).toInt32) &&& (31 : Int32)) ln) - (1 : Int32)).toNatClampNeg))]))
        refine own_step (fun _ κ => XS.iload X99.here hx rfl (hb hby at_294) rfl κ) ?_
        show own_Go _ _ _ _ (T99.setTop (mkF m 296 #[.val (.int p0), .val (.int p1), .val (.int p2), .val (.int p3), .val (.int p4), .val (.int p5), .val (.ref b1), .val (.ref b4), .val (.int off), .val (.int cnt), .val (.int (own_mn (((p5.toUInt32 >>> ((3 : Int32) &&& 31).toUInt32).toInt32) &&& (31 : Int32)) ln)), .val (.ref r76), .val (.ref r100)] [(.int off), (.int ((own_cut gj nj) ((own_mn (((p5.toUInt32 >>> ((3 : Int32) &&& 31).toUInt32).toInt32) &&& (31 : Int32)) ln) - (1 : Int32)).toNatClampNeg))]))
        refine own_step (fun _ κ => XS.iloadN X99.here hx rfl (hb hby at_296) rfl κ) ?_
        show own_Go _ _ _ _ (T99.setTop (mkF m 297 #[.val (.int p0), .val (.int p1), .val (.int p2), .val (.int p3), .val (.int p4), .val (.int p5), .val (.ref b1), .val (.ref b4), .val (.int off), .val (.int cnt), .val (.int (own_mn (((p5.toUInt32 >>> ((3 : Int32) &&& 31).toUInt32).toInt32) &&& (31 : Int32)) ln)), .val (.ref r76), .val (.ref r100)] [(.int p1), (.int off), (.int ((own_cut gj nj) ((own_mn (((p5.toUInt32 >>> ((3 : Int32) &&& 31).toUInt32).toInt32) &&& (31 : Int32)) ln) - (1 : Int32)).toNatClampNeg))]))
        refine own_step (fun _ κ => XS.iloadN X99.here hx rfl (hb hby at_297) rfl κ) ?_
        show own_Go _ _ _ _ (T99.setTop (mkF m 298 #[.val (.int p0), .val (.int p1), .val (.int p2), .val (.int p3), .val (.int p4), .val (.int p5), .val (.ref b1), .val (.ref b4), .val (.int off), .val (.int cnt), .val (.int (own_mn (((p5.toUInt32 >>> ((3 : Int32) &&& 31).toUInt32).toInt32) &&& (31 : Int32)) ln)), .val (.ref r76), .val (.ref r100)] [(.int p2), (.int p1), (.int off), (.int ((own_cut gj nj) ((own_mn (((p5.toUInt32 >>> ((3 : Int32) &&& 31).toUInt32).toInt32) &&& (31 : Int32)) ln) - (1 : Int32)).toNatClampNeg))]))
        refine own_step (fun _ κ => XS.iloadN X99.here hx rfl (hb hby at_298) rfl κ) ?_
        show own_Go _ _ _ _ (T99.setTop (mkF m 299 #[.val (.int p0), .val (.int p1), .val (.int p2), .val (.int p3), .val (.int p4), .val (.int p5), .val (.ref b1), .val (.ref b4), .val (.int off), .val (.int cnt), .val (.int (own_mn (((p5.toUInt32 >>> ((3 : Int32) &&& 31).toUInt32).toInt32) &&& (31 : Int32)) ln)), .val (.ref r76), .val (.ref r100)] [(.int p3), (.int p2), (.int p1), (.int off), (.int ((own_cut gj nj) ((own_mn (((p5.toUInt32 >>> ((3 : Int32) &&& 31).toUInt32).toInt32) &&& (31 : Int32)) ln) - (1 : Int32)).toNatClampNeg))]))
        refine own_step (fun _ κ => XS.iload X99.here hx rfl (hb hby at_299) rfl κ) ?_
        show own_Go _ _ _ _ (T99.setTop (mkF m 301 #[.val (.int p0), .val (.int p1), .val (.int p2), .val (.int p3), .val (.int p4), .val (.int p5), .val (.ref b1), .val (.ref b4), .val (.int off), .val (.int cnt), .val (.int (own_mn (((p5.toUInt32 >>> ((3 : Int32) &&& 31).toUInt32).toInt32) &&& (31 : Int32)) ln)), .val (.ref r76), .val (.ref r100)] [(.int (own_mn (((p5.toUInt32 >>> ((3 : Int32) &&& 31).toUInt32).toInt32) &&& (31 : Int32)) ln)), (.int p3), (.int p2), (.int p1), (.int off), (.int ((own_cut gj nj) ((own_mn (((p5.toUInt32 >>> ((3 : Int32) &&& 31).toUInt32).toInt32) &&& (31 : Int32)) ln) - (1 : Int32)).toNatClampNeg))]))
        refine own_step (fun _ κ => XS.iconst X99.here hx rfl (hb hby at_301) κ) ?_
        show own_Go _ _ _ _ (T99.setTop (mkF m 302 #[.val (.int p0), .val (.int p1), .val (.int p2), .val (.int p3), .val (.int p4), .val (.int p5), .val (.ref b1), .val (.ref b4), .val (.int off), .val (.int cnt), .val (.int (own_mn (((p5.toUInt32 >>> ((3 : Int32) &&& 31).toUInt32).toInt32) &&& (31 : Int32)) ln)), .val (.ref r76), .val (.ref r100)] [(.int (1 : Int32)), (.int (own_mn (((p5.toUInt32 >>> ((3 : Int32) &&& 31).toUInt32).toInt32) &&& (31 : Int32)) ln)), (.int p3), (.int p2), (.int p1), (.int off), (.int ((own_cut gj nj) ((own_mn (((p5.toUInt32 >>> ((3 : Int32) &&& 31).toUInt32).toInt32) &&& (31 : Int32)) ln) - (1 : Int32)).toNatClampNeg))]))
        refine own_step (fun _ κ => XS.isub X99.here hx rfl (hb hby at_302) rfl κ) ?_
        show own_Go _ _ _ _ (T99.setTop (mkF m 303 #[.val (.int p0), .val (.int p1), .val (.int p2), .val (.int p3), .val (.int p4), .val (.int p5), .val (.ref b1), .val (.ref b4), .val (.int off), .val (.int cnt), .val (.int (own_mn (((p5.toUInt32 >>> ((3 : Int32) &&& 31).toUInt32).toInt32) &&& (31 : Int32)) ln)), .val (.ref r76), .val (.ref r100)] [(.int ((own_mn (((p5.toUInt32 >>> ((3 : Int32) &&& 31).toUInt32).toInt32) &&& (31 : Int32)) ln) - (1 : Int32))), (.int p3), (.int p2), (.int p1), (.int off), (.int ((own_cut gj nj) ((own_mn (((p5.toUInt32 >>> ((3 : Int32) &&& 31).toUInt32).toInt32) &&& (31 : Int32)) ln) - (1 : Int32)).toNatClampNeg))]))
        obtain ⟨vr113, _, ⟨T113, L113, k113, n113⟩, -, X113, ⟨Lc113, hQ113, l113, y113, z113⟩, st113⟩ := Jvm.LawKit.callS X99 hx (y := (⟨"com/example/lens_on_archives/lensonarchives/BytesToArrayPinLaw", "expect", "(IIIII)B"⟩ : MethodName)) hown (mvT hZ (hw _ (List.mem_of_getElem? (i := 59) rfl))) (mvT hZ (hw _ (List.mem_of_getElem? (i := 60) rfl))) (mvT hZ (hw _ (List.mem_of_getElem? (i := 36) rfl))) (mvT hZ (hw _ (List.mem_of_getElem? (i := 61) rfl))) (by decide) (backOf (W := 1) (rm12 l Z a0 hw [] off p1 p2 p3 ((own_mn (((p5.toUInt32 >>> ((3 : Int32) &&& 31).toUInt32).toInt32) &&& (31 : Int32)) ln) - (1 : Int32))  T99.heap n0 z110 ) hZ (hw _ (List.mem_of_getElem? (i := 61) rfl)) (hw _ (List.mem_of_getElem? (i := 36) rfl)) (by decide) (by decide)) (g := (mkF m 303 #[.val (.int p0), .val (.int p1), .val (.int p2), .val (.int p3), .val (.int p4), .val (.int p5), .val (.ref b1), .val (.ref b4), .val (.int off), .val (.int cnt), .val (.int (own_mn (((p5.toUInt32 >>> ((3 : Int32) &&& 31).toUInt32).toInt32) &&& (31 : Int32)) ln)), .val (.ref r76), .val (.ref r100)] [(.int ((own_mn (((p5.toUInt32 >>> ((3 : Int32) &&& 31).toUInt32).toInt32) &&& (31 : Int32)) ln) - (1 : Int32))), (.int p3), (.int p2), (.int p1), (.int off), (.int ((own_cut gj nj) ((own_mn (((p5.toUInt32 >>> ((3 : Int32) &&& 31).toUInt32).toInt32) &&& (31 : Int32)) ln) - (1 : Int32)).toNatClampNeg))])) rfl (by rw [hml]; rfl) (argsL := [(.int off), (.int p1), (.int p2), (.int p3), (.int ((own_mn (((p5.toUInt32 >>> ((3 : Int32) &&& 31).toUInt32).toInt32) &&& (31 : Int32)) ln) - (1 : Int32)))]) (rest := [(.int ((own_cut gj nj) ((own_mn (((p5.toUInt32 >>> ((3 : Int32) &&& 31).toUInt32).toInt32) &&& (31 : Int32)) ln) - (1 : Int32)).toNatClampNeg))]) (lenOf pd_3 rfl) rfl (by show 2 * 0 + _ ≤ _; exact Nat.le_of_eq rfl) (hb hby at_303) (fun _ _ => ⟨rfl, rfl, (by decide : 6 + 0 ≤ _), (by decide : 150 + 0 ≤ _)⟩)
        dsimp only [Pt.U, Pt.locs, Pt.cells, Pt.slots] at X113 l113 y113 z113 st113 hQ113
        subst l113 y113 z113
        obtain ⟨rfl, Nq113, eq113⟩ := hQ113
        have N113 := Fr.app N99 Nq113
        refine own_step st113 ?_
        show own_Go _ _ _ _ (T113.setTop (mkF m 306 #[.val (.int p0), .val (.int p1), .val (.int p2), .val (.int p3), .val (.int p4), .val (.int p5), .val (.ref b1), .val (.ref b4), .val (.int off), .val (.int cnt), .val (.int (own_mn (((p5.toUInt32 >>> ((3 : Int32) &&& 31).toUInt32).toInt32) &&& (31 : Int32)) ln)), .val (.ref r76), .val (.ref r100)] [(.int (own_exp off p1 p2 p3 ((own_mn (((p5.toUInt32 >>> ((3 : Int32) &&& 31).toUInt32).toInt32) &&& (31 : Int32)) ln) - (1 : Int32)))), (.int ((own_cut gj nj) ((own_mn (((p5.toUInt32 >>> ((3 : Int32) &&& 31).toUInt32).toInt32) &&& (31 : Int32)) ln) - (1 : Int32)).toNatClampNeg))]))
        refine own_step (fun _ κ => XS.icmpYes X113.here hx rfl (pc0 := 306) (pc' := 311) rfl (hb hby at_306) rfl (teq (((hG.less (own_kept (u := ((p5.toUInt32 >>> ((3 : Int32) &&& 31).toUInt32).toInt32)) hz).2).cut (own_ng (Int.le_trans (Int.not_lt.mp (fun q => (own_kept (u := ((p5.toUInt32 >>> ((3 : Int32) &&& 31).toUInt32).toInt32)) hz).2 (Int32.lt_iff_toInt_lt.mpr q))) (Int.not_lt.mp (fun q => hzn (Int32.lt_iff_toInt_lt.mpr q)))))) _ (own_last hc91 (own_kept (u := ((p5.toUInt32 >>> ((3 : Int32) &&& 31).toUInt32).toInt32)) hz).1).1 (own_last hc91 (own_kept (u := ((p5.toUInt32 >>> ((3 : Int32) &&& 31).toUInt32).toInt32)) hz).1).2)).1 (by decide) (by decide) κ) ?_
        show own_Go _ _ _ _ (T113.setTop (mkF m 311 #[.val (.int p0), .val (.int p1), .val (.int p2), .val (.int p3), .val (.int p4), .val (.int p5), .val (.ref b1), .val (.ref b4), .val (.int off), .val (.int cnt), .val (.int (own_mn (((p5.toUInt32 >>> ((3 : Int32) &&& 31).toUInt32).toInt32) &&& (31 : Int32)) ln)), .val (.ref r76), .val (.ref r100)] []))
        refine own_step (fun _ κ => XS.iconst X113.here hx rfl (hb hby at_311) κ) ?_
        show own_Go _ _ _ _ (T113.setTop (mkF m 312 #[.val (.int p0), .val (.int p1), .val (.int p2), .val (.int p3), .val (.int p4), .val (.int p5), .val (.ref b1), .val (.ref b4), .val (.int off), .val (.int cnt), .val (.int (own_mn (((p5.toUInt32 >>> ((3 : Int32) &&& 31).toUInt32).toInt32) &&& (31 : Int32)) ln)), .val (.ref r76), .val (.ref r100)] [(.int (1 : Int32))]))
        obtain ⟨fs, hr, hrun, hended, hW, hsame⟩ := X113.leave (v := some (.int (1 : Int32))) (fun h => by rw [Bd.returns] at h; cases h)
        refine ⟨_, _, retN X113 hx (t := .boolean) Bd.returns (by simp) (hb hby at_312) hr, hrun, hended, _, _, rfl, ?_, ⟨_, rfl⟩, hW, hsame.mono (by decide) (by decide)⟩
        show Q0 Z p0 p1 p2 p3 p4 p5  h0 n0 _ T113.heap _
        exact ⟨rfl, N113⟩
      · refine own_step (fun _ κ => XS.ifYes X90.here hx rfl (pc0 := 245) (pc' := 265) rfl (hb hby at_245) rfl ((if0 _ _).trans (flt hc91).2.2.2) (by decide) (by decide) κ) ?_
        show own_Go _ _ _ _ (T90.setTop (mkF m 265 #[.val (.int p0), .val (.int p1), .val (.int p2), .val (.int p3), .val (.int p4), .val (.int p5), .val (.ref b1), .val (.ref b4), .val (.int off), .val (.int cnt), .val (.int (own_mn (((p5.toUInt32 >>> ((3 : Int32) &&& 31).toUInt32).toInt32) &&& (31 : Int32)) ln)), .val (.ref r76), .unset] []))
        refine own_step (fun _ κ => XS.aload X90.here hx rfl (hb hby at_265) rfl rfl κ) ?_
        show own_Go _ _ _ _ (T90.setTop (mkF m 267 #[.val (.int p0), .val (.int p1), .val (.int p2), .val (.int p3), .val (.int p4), .val (.int p5), .val (.ref b1), .val (.ref b4), .val (.int off), .val (.int cnt), .val (.int (own_mn (((p5.toUInt32 >>> ((3 : Int32) &&& 31).toUInt32).toInt32) &&& (31 : Int32)) ln)), .val (.ref r76), .unset] [(.ref b4)]))
        obtain ⟨cq114, kq114, q114a, q114b, q114c⟩ := isOf hZ eq90 f80
        obtain ⟨vr114, _, ⟨T114, L114, k114, n114⟩, -, X114, ⟨Lc114, hQ114, l114, y114, z114⟩, st114⟩ := X90.virtualBack hx (y := (⟨"com/example/lens_on_archives/lensonarchives/Bytes", "toArray", "()[B"⟩ : MethodName)) (z := (⟨"com/example/lens_on_archives/lensonarchives/Bytes", "toArray", "()[B"⟩ : MethodName)) hown (mvT hZ (hw _ (List.mem_of_getElem? (i := 16) rfl))) (mvT hZ (hw _ (List.mem_of_getElem? (i := 17) rfl))) (notFace_of_selects (args := #[]) (mvT hZ (hw _ (List.mem_of_getElem? (i := 19) rfl)))) (mvT hZ (hw _ (List.mem_of_getElem? (i := 19) rfl))) (mvT hZ (hw _ (List.mem_of_getElem? (i := 18) rfl))) (by decide) (backOf (W := 0) (rm11 l Z a0 hw [] b4 bj nj gj (own_mn (((p5.toUInt32 >>> ((3 : Int32) &&& 31).toUInt32).toInt32) &&& (31 : Int32)) ln) T75.heap n0 z84 f82 f83 f81 (own_nn (own_kept (u := ((p5.toUInt32 >>> ((3 : Int32) &&& 31).toUInt32).toInt32)) hz).1.1) (own_n34 (Int.le_trans (own_kept (u := ((p5.toUInt32 >>> ((3 : Int32) &&& 31).toUInt32).toInt32)) hz).1.2 (by decide)))) hZ (hw _ (List.mem_of_getElem? (i := 20) rfl)) (hw _ (List.mem_of_getElem? (i := 3) rfl)) (by decide) (by decide)) q114a q114c (g := (mkF m 267 #[.val (.int p0), .val (.int p1), .val (.int p2), .val (.int p3), .val (.int p4), .val (.int p5), .val (.ref b1), .val (.ref b4), .val (.int off), .val (.int cnt), .val (.int (own_mn (((p5.toUInt32 >>> ((3 : Int32) &&& 31).toUInt32).toInt32) &&& (31 : Int32)) ln)), .val (.ref r76), .unset] [(.ref b4)])) rfl (by rw [hml]; rfl) (Steps.refl _) (argsL := []) (rest := []) (lenOf pd_4 rfl) rfl (by show 2 * 0 + _ ≤ _; exact Nat.le_of_eq rfl) (hb hby at_267) (fun _ _ => ⟨rfl, eq90, (by decide : 5 + 1 ≤ _), (by decide : 116 + 34 ≤ _)⟩)
        dsimp only [Pt.U, Pt.locs, Pt.cells, Pt.slots] at X114 l114 y114 z114 st114 hQ114
        subst l114 y114 z114
        obtain ⟨r115, rfl, Nq114, Kq114, p114_0, p114_1⟩ := hQ114
        have N114 := Fr.app N90 Nq114
        have ne116 : b4 ≠ r115 := Nat.ne_of_lt (Nat.lt_of_lt_of_le f80.lt p114_0)
        have ne117 : bj ≠ r115 := Nat.ne_of_lt (Nat.lt_of_lt_of_le f81.lt p114_0)
        have ne118 : r76 ≠ r115 := Nat.ne_of_lt (Nat.lt_of_lt_of_le p75_1.lt p114_0)
        have ge119 : n0 ≤ r115 := Nat.le_trans z84 p114_0
        have f120 := f80.keep Kq114
        have f121 := f81.keep Kq114 nin0
        have f122 := f82.keep Kq114 nin0
        have f123 := f83.keep Kq114 nin0
        have f124 := p75_1.keep Kq114 nin0
        have z125 : n0 ≤ T114.heap.size := Nat.le_trans z84 Kq114.1
        refine own_step (fun _ κ => st114.trans κ) ?_
        show own_Go _ _ _ _ (T114.setTop (mkF m 270 #[.val (.int p0), .val (.int p1), .val (.int p2), .val (.int p3), .val (.int p4), .val (.int p5), .val (.ref b1), .val (.ref b4), .val (.int off), .val (.int cnt), .val (.int (own_mn (((p5.toUInt32 >>> ((3 : Int32) &&& 31).toUInt32).toInt32) &&& (31 : Int32)) ln)), .val (.ref r76), .unset] [(.ref r115)]))
        refine own_step (fun _ κ => XS.astore X114.here hx rfl (hb hby at_270) rfl rfl (l' := #[.val (.int p0), .val (.int p1), .val (.int p2), .val (.int p3), .val (.int p4), .val (.int p5), .val (.ref b1), .val (.ref b4), .val (.int off), .val (.int cnt), .val (.int (own_mn (((p5.toUInt32 >>> ((3 : Int32) &&& 31).toUInt32).toInt32) &&& (31 : Int32)) ln)), .val (.ref r76), .val (.ref r115)]) rfl κ) ?_
        show own_Go _ _ _ _ (T114.setTop (mkF m 272 #[.val (.int p0), .val (.int p1), .val (.int p2), .val (.int p3), .val (.int p4), .val (.int p5), .val (.ref b1), .val (.ref b4), .val (.int off), .val (.int cnt), .val (.int (own_mn (((p5.toUInt32 >>> ((3 : Int32) &&& 31).toUInt32).toInt32) &&& (31 : Int32)) ln)), .val (.ref r76), .val (.ref r115)] []))
        refine own_step (fun _ κ => XS.aload X114.here hx rfl (hb hby at_272) rfl rfl κ) ?_
        show own_Go _ _ _ _ (T114.setTop (mkF m 274 #[.val (.int p0), .val (.int p1), .val (.int p2), .val (.int p3), .val (.int p4), .val (.int p5), .val (.ref b1), .val (.ref b4), .val (.int off), .val (.int cnt), .val (.int (own_mn (((p5.toUInt32 >>> ((3 : Int32) &&& 31).toUInt32).toInt32) &&& (31 : Int32)) ln)), .val (.ref r76), .val (.ref r115)] [(.ref r115)]))
        obtain ⟨cl126, Ar126, Sz126, Nz126, -⟩ := p114_1.opened
        refine own_step (fun _ κ => X114.arraylength hx Ar126.1 (State.isArrayOf_alike hZ.alike Ar126.2.1) (g := (mkF m 274 #[.val (.int p0), .val (.int p1), .val (.int p2), .val (.int p3), .val (.int p4), .val (.int p5), .val (.ref b1), .val (.ref b4), .val (.int off), .val (.int cnt), .val (.int (own_mn (((p5.toUInt32 >>> ((3 : Int32) &&& 31).toUInt32).toInt32) &&& (31 : Int32)) ln)), .val (.ref r76), .val (.ref r115)] [(.ref r115)])) rfl rfl (hb hby at_274) _ κ) ?_
        rw [len_of Sz126 Nz126]
        show own_Go _ _ _ _ (T114.setTop (mkF m 275 #[.val (.int p0), .val (.int p1), .val (.int p2), .val (.int p3), .val (.int p4), .val (.int p5), .val (.ref b1), .val (.ref b4), .val (.int off), .val (.int cnt), .val (.int (own_mn (((p5.toUInt32 >>> ((3 : Int32) &&& 31).toUInt32).toInt32) &&& (31 : Int32)) ln)), .val (.ref r76), .val (.ref r115)] [(.int (own_mn (((p5.toUInt32 >>> ((3 : Int32) &&& 31).toUInt32).toInt32) &&& (31 : Int32)) ln))]))
        refine own_step (fun _ κ => XS.iload X114.here hx rfl (hb hby at_275) rfl κ) ?_
        show own_Go _ _ _ _ (T114.setTop (mkF m 277 #[.val (.int p0), .val (.int p1), .val (.int p2), .val (.int p3), .val (.int p4), .val (.int p5), .val (.ref b1), .val (.ref b4), .val (.int off), .val (.int cnt), .val (.int (own_mn (((p5.toUInt32 >>> ((3 : Int32) &&& 31).toUInt32).toInt32) &&& (31 : Int32)) ln)), .val (.ref r76), .val (.ref r115)] [(.int (own_mn (((p5.toUInt32 >>> ((3 : Int32) &&& 31).toUInt32).toInt32) &&& (31 : Int32)) ln)), (.int (own_mn (((p5.toUInt32 >>> ((3 : Int32) &&& 31).toUInt32).toInt32) &&& (31 : Int32)) ln))]))
        refine own_step (fun _ κ => XS.icmpYes X114.here hx rfl (pc0 := 277) (pc' := 282) rfl (hb hby at_277) rfl (teq rfl).1 (by decide) (by decide) κ) ?_
        show own_Go _ _ _ _ (T114.setTop (mkF m 282 #[.val (.int p0), .val (.int p1), .val (.int p2), .val (.int p3), .val (.int p4), .val (.int p5), .val (.ref b1), .val (.ref b4), .val (.int off), .val (.int cnt), .val (.int (own_mn (((p5.toUInt32 >>> ((3 : Int32) &&& 31).toUInt32).toInt32) &&& (31 : Int32)) ln)), .val (.ref r76), .val (.ref r115)] []))
        refine own_step (fun _ κ => XS.iload X114.here hx rfl (hb hby at_282) rfl κ) ?_
        show own_Go _ _ _ _ (T114.setTop (mkF m 284 #[.val (.int p0), .val (.int p1), .val (.int p2), .val (.int p3), .val (.int p4), .val (.int p5), .val (.ref b1), .val (.ref b4), .val (.int off), .val (.int cnt), .val (.int (own_mn (((p5.toUInt32 >>> ((3 : Int32) &&& 31).toUInt32).toInt32) &&& (31 : Int32)) ln)), .val (.ref r76), .val (.ref r115)] [(.int (own_mn (((p5.toUInt32 >>> ((3 : Int32) &&& 31).toUInt32).toInt32) &&& (31 : Int32)) ln))]))
        refine own_step (fun _ κ => XS.ifYes X114.here hx rfl (pc0 := 284) (pc' := 311) rfl (hb hby at_284) rfl ((if0 _ _).trans (flt hc91).2.2.2) (by decide) (by decide) κ) ?_
        show own_Go _ _ _ _ (T114.setTop (mkF m 311 #[.val (.int p0), .val (.int p1), .val (.int p2), .val (.int p3), .val (.int p4), .val (.int p5), .val (.ref b1), .val (.ref b4), .val (.int off), .val (.int cnt), .val (.int (own_mn (((p5.toUInt32 >>> ((3 : Int32) &&& 31).toUInt32).toInt32) &&& (31 : Int32)) ln)), .val (.ref r76), .val (.ref r115)] []))
        refine own_step (fun _ κ => XS.iconst X114.here hx rfl (hb hby at_311) κ) ?_
        show own_Go _ _ _ _ (T114.setTop (mkF m 312 #[.val (.int p0), .val (.int p1), .val (.int p2), .val (.int p3), .val (.int p4), .val (.int p5), .val (.ref b1), .val (.ref b4), .val (.int off), .val (.int cnt), .val (.int (own_mn (((p5.toUInt32 >>> ((3 : Int32) &&& 31).toUInt32).toInt32) &&& (31 : Int32)) ln)), .val (.ref r76), .val (.ref r115)] [(.int (1 : Int32))]))
        obtain ⟨fs, hr, hrun, hended, hW, hsame⟩ := X114.leave (v := some (.int (1 : Int32))) (fun h => by rw [Bd.returns] at h; cases h)
        refine ⟨_, _, retN X114 hx (t := .boolean) Bd.returns (by simp) (hb hby at_312) hr, hrun, hended, _, _, rfl, ?_, ⟨_, rfl⟩, hW, hsame.mono (by decide) (by decide)⟩
        show Q0 Z p0 p1 p2 p3 p4 p5  h0 n0 _ T114.heap _
        exact ⟨rfl, N114⟩
  · intro J
    show own_Go _ _ _ _ (T9.setTop (mkF m 19 #[.val (.int p0), .val (.int p1), .val (.int p2), .val (.int p3), .val (.int p4), .val (.int p5), .val (.ref b1), .val (.ref b4), .unset, .unset, .unset, .unset, .unset] []))
    refine own_step (fun _ κ => XS.iload X9.here hx rfl (hb hby at_19) rfl κ) ?_
    show own_Go _ _ _ _ (T9.setTop (mkF m 21 #[.val (.int p0), .val (.int p1), .val (.int p2), .val (.int p3), .val (.int p4), .val (.int p5), .val (.ref b1), .val (.ref b4), .unset, .unset, .unset, .unset, .unset] [(.int p4)]))
    refine own_step (fun _ κ => XS.iconst X9.here hx rfl (hb hby at_21) κ) ?_
    show own_Go _ _ _ _ (T9.setTop (mkF m 22 #[.val (.int p0), .val (.int p1), .val (.int p2), .val (.int p3), .val (.int p4), .val (.int p5), .val (.ref b1), .val (.ref b4), .unset, .unset, .unset, .unset, .unset] [(.int (4 : Int32)), (.int p4)]))
    refine own_step (fun _ κ => XS.iand X9.here hx rfl (hb hby at_22) rfl κ) ?_
    show own_Go _ _ _ _ (T9.setTop (mkF m 23 #[.val (.int p0), .val (.int p1), .val (.int p2), .val (.int p3), .val (.int p4), .val (.int p5), .val (.ref b1), .val (.ref b4), .unset, .unset, .unset, .unset, .unset] [(.int (p4 &&& (4 : Int32)))]))
    by_cases hc127 : (p4 &&& (4 : Int32)) = (0 : Int32)
    · refine own_step (fun _ κ => XS.ifYes X9.here hx rfl (pc0 := 23) (pc' := 31) rfl (hb hby at_23) rfl ((if0 _ _).trans (teq hc127).1) (by decide) (by decide) κ) ?_
      show own_Go _ _ _ _ (T9.setTop (mkF m 31 #[.val (.int p0), .val (.int p1), .val (.int p2), .val (.int p3), .val (.int p4), .val (.int p5), .val (.ref b1), .val (.ref b4), .unset, .unset, .unset, .unset, .unset] []))
      refine own_step (fun _ κ => XS.iconst X9.here hx rfl (hb hby at_31) κ) ?_
      show own_Go _ _ _ _ (T9.setTop (mkF m 32 #[.val (.int p0), .val (.int p1), .val (.int p2), .val (.int p3), .val (.int p4), .val (.int p5), .val (.ref b1), .val (.ref b4), .unset, .unset, .unset, .unset, .unset] [(.int (0 : Int32))]))
      refine own_step (fun _ κ => XS.istore X9.here hx rfl (hb hby at_32) rfl (l' := #[.val (.int p0), .val (.int p1), .val (.int p2), .val (.int p3), .val (.int p4), .val (.int p5), .val (.ref b1), .val (.ref b4), .val (.int (0 : Int32)), .unset, .unset, .unset, .unset]) rfl κ) ?_
      show own_Go _ _ _ _ (T9.setTop (mkF m 34 #[.val (.int p0), .val (.int p1), .val (.int p2), .val (.int p3), .val (.int p4), .val (.int p5), .val (.ref b1), .val (.ref b4), .val (.int (0 : Int32)), .unset, .unset, .unset, .unset] []))
      refine own_step (fun _ κ => XS.iload X9.here hx rfl (hb hby at_34) rfl κ) ?_
      show own_Go _ _ _ _ (T9.setTop (mkF m 36 #[.val (.int p0), .val (.int p1), .val (.int p2), .val (.int p3), .val (.int p4), .val (.int p5), .val (.ref b1), .val (.ref b4), .val (.int (0 : Int32)), .unset, .unset, .unset, .unset] [(.int (0 : Int32))]))
      refine own_step (fun _ κ => XS.ifYes X9.here hx rfl (pc0 := 36) (pc' := 46) rfl (hb hby at_36) rfl ((if0 _ _).trans (teq rfl).1) (by decide) (by decide) κ) ?_
      show own_Go _ _ _ _ (T9.setTop (mkF m 46 #[.val (.int p0), .val (.int p1), .val (.int p2), .val (.int p3), .val (.int p4), .val (.int p5), .val (.ref b1), .val (.ref b4), .val (.int (0 : Int32)), .unset, .unset, .unset, .unset] []))
      refine own_step (fun _ κ => XS.iload X9.here hx rfl (hb hby at_46) rfl κ) ?_
      show own_Go _ _ _ _ (T9.setTop (mkF m 48 #[.val (.int p0), .val (.int p1), .val (.int p2), .val (.int p3), .val (.int p4), .val (.int p5), .val (.ref b1), .val (.ref b4), .val (.int (0 : Int32)), .unset, .unset, .unset, .unset] [(.int p4)]))
      refine own_step (fun _ κ => XS.iconst X9.here hx rfl (hb hby at_48) κ) ?_
      show own_Go _ _ _ _ (T9.setTop (mkF m 49 #[.val (.int p0), .val (.int p1), .val (.int p2), .val (.int p3), .val (.int p4), .val (.int p5), .val (.ref b1), .val (.ref b4), .val (.int (0 : Int32)), .unset, .unset, .unset, .unset] [(.int (3 : Int32)), (.int p4)]))
      refine own_step (fun _ κ => XS.iand X9.here hx rfl (hb hby at_49) rfl κ) ?_
      show own_Go _ _ _ _ (T9.setTop (mkF m 50 #[.val (.int p0), .val (.int p1), .val (.int p2), .val (.int p3), .val (.int p4), .val (.int p5), .val (.ref b1), .val (.ref b4), .val (.int (0 : Int32)), .unset, .unset, .unset, .unset] [(.int (p4 &&& (3 : Int32)))]))
      refine own_step (fun _ κ => XS.istore X9.here hx rfl (hb hby at_50) rfl (l' := #[.val (.int p0), .val (.int p1), .val (.int p2), .val (.int p3), .val (.int p4), .val (.int p5), .val (.ref b1), .val (.ref b4), .val (.int (0 : Int32)), .val (.int (p4 &&& (3 : Int32))), .unset, .unset, .unset]) rfl κ) ?_
      show own_Go _ _ _ _ (T9.setTop (mkF m 52 #[.val (.int p0), .val (.int p1), .val (.int p2), .val (.int p3), .val (.int p4), .val (.int p5), .val (.ref b1), .val (.ref b4), .val (.int (0 : Int32)), .val (.int (p4 &&& (3 : Int32))), .unset, .unset, .unset] []))
      refine own_step (fun _ κ => XS.iload X9.here hx rfl (hb hby at_52) rfl κ) ?_
      show own_Go _ _ _ _ (T9.setTop (mkF m 54 #[.val (.int p0), .val (.int p1), .val (.int p2), .val (.int p3), .val (.int p4), .val (.int p5), .val (.ref b1), .val (.ref b4), .val (.int (0 : Int32)), .val (.int (p4 &&& (3 : Int32))), .unset, .unset, .unset] [(.int (p4 &&& (3 : Int32)))]))
      by_cases hc128 : (0 : Int32) < (p4 &&& (3 : Int32))
      · refine own_step (fun _ κ => XS.ifNo X9.here hx rfl (hb hby at_54) rfl ((if0 _ _).trans (tlt hc128).2.2.2) κ) ?_
        show own_Go _ _ _ _ (T9.setTop (mkF m 57 #[.val (.int p0), .val (.int p1), .val (.int p2), .val (.int p3), .val (.int p4), .val (.int p5), .val (.ref b1), .val (.ref b4), .val (.int (0 : Int32)), .val (.int (p4 &&& (3 : Int32))), .unset, .unset, .unset] []))
        refine own_step (fun _ κ => XS.aload X9.here hx rfl (hb hby at_57) rfl rfl κ) ?_
        show own_Go _ _ _ _ (T9.setTop (mkF m 59 #[.val (.int p0), .val (.int p1), .val (.int p2), .val (.int p3), .val (.int p4), .val (.int p5), .val (.ref b1), .val (.ref b4), .val (.int (0 : Int32)), .val (.int (p4 &&& (3 : Int32))), .unset, .unset, .unset] [(.ref b4)]))
        refine own_step (fun _ κ => XS.iloadN X9.here hx rfl (hb hby at_59) rfl κ) ?_
        show own_Go _ _ _ _ (T9.setTop (mkF m 60 #[.val (.int p0), .val (.int p1), .val (.int p2), .val (.int p3), .val (.int p4), .val (.int p5), .val (.ref b1), .val (.ref b4), .val (.int (0 : Int32)), .val (.int (p4 &&& (3 : Int32))), .unset, .unset, .unset] [(.int p1), (.ref b4)]))
        obtain ⟨cq129, kq129, q129a, q129b, q129c⟩ := isOf hZ rfl p9_1
        obtain ⟨vr129, _, ⟨T129, L129, k129, n129⟩, -, X129, ⟨Lc129, hQ129, l129, y129, z129⟩, st129⟩ := X9.virtualBack hx (y := (⟨"com/example/lens_on_archives/lensonarchives/Bytes", "write", "(I)V"⟩ : MethodName)) (z := (⟨"com/example/lens_on_archives/lensonarchives/Bytes", "write", "(I)V"⟩ : MethodName)) hown (mvT hZ (hw _ (List.mem_of_getElem? (i := 48) rfl))) (mvT hZ (hw _ (List.mem_of_getElem? (i := 49) rfl))) (notFace_of_selects (args := #[]) (mvT hZ (hw _ (List.mem_of_getElem? (i := 51) rfl)))) (mvT hZ (hw _ (List.mem_of_getElem? (i := 51) rfl))) (mvT hZ (hw _ (List.mem_of_getElem? (i := 50) rfl))) (by decide) (backOf (W := 0) (rm7 l Z a0 hw [] b4 p1 b10 (own_mx (16 : Int32) (p0 &&& (31 : Int32))) own_zero (0 : Int32) T9.heap n0 z16 p9_1 p9_2 p9_3 p9_4 ge6 ge13 ne12 (own_ng (Int.le_trans (by decide : ((0 : Int32) + (1 : Int32)).toInt ≤ 16) hN.1)) (by decide)) hZ (hw _ (List.mem_of_getElem? (i := 52) rfl)) (hw _ (List.mem_of_getElem? (i := 3) rfl)) (by decide) (by decide)) q129a q129c (g := (mkF m 60 #[.val (.int p0), .val (.int p1), .val (.int p2), .val (.int p3), .val (.int p4), .val (.int p5), .val (.ref b1), .val (.ref b4), .val (.int (0 : Int32)), .val (.int (p4 &&& (3 : Int32))), .unset, .unset, .unset] [(.int p1), (.ref b4)])) rfl (by rw [hml]; rfl) (Steps.refl _) (argsL := [(.int p1)]) (rest := []) (lenOf pd_2 rfl) rfl (by show 2 * 0 + _ ≤ _; exact Nat.le_of_eq rfl) (hb hby at_60) (fun _ _ => ⟨rfl, rfl, (by decide : 3 + 0 ≤ _), (by decide : 48 + 0 ≤ _)⟩)
        dsimp only [Pt.U, Pt.locs, Pt.cells, Pt.slots] at X129 l129 y129 z129 st129 hQ129
        subst l129 y129 z129
        obtain ⟨rfl, Nq129, Kq129, p129_0, p129_1, p129_2, p129_3⟩ := hQ129
        have N129 := Fr.app N9 Nq129
        have f130 := f14.keep Kq129 (ninS ne5 (ninS ne11 nin0))
        have f131 := p9_1.keep Kq129
        have z132 : n0 ≤ T129.heap.size := Nat.le_trans z16 Kq129.1
        refine own_step (fun _ κ => st129.trans κ) ?_
        show own_Go _ _ _ _ (T129.setTop (mkF m 63 #[.val (.int p0), .val (.int p1), .val (.int p2), .val (.int p3), .val (.int p4), .val (.int p5), .val (.ref b1), .val (.ref b4), .val (.int (0 : Int32)), .val (.int (p4 &&& (3 : Int32))), .unset, .unset, .unset] []))
        refine own_step (fun _ κ => XS.iload X129.here hx rfl (hb hby at_63) rfl κ) ?_
        show own_Go _ _ _ _ (T129.setTop (mkF m 65 #[.val (.int p0), .val (.int p1), .val (.int p2), .val (.int p3), .val (.int p4), .val (.int p5), .val (.ref b1), .val (.ref b4), .val (.int (0 : Int32)), .val (.int (p4 &&& (3 : Int32))), .unset, .unset, .unset] [(.int (p4 &&& (3 : Int32)))]))
        refine own_step (fun _ κ => XS.iconst X129.here hx rfl (hb hby at_65) κ) ?_
        show own_Go _ _ _ _ (T129.setTop (mkF m 66 #[.val (.int p0), .val (.int p1), .val (.int p2), .val (.int p3), .val (.int p4), .val (.int p5), .val (.ref b1), .val (.ref b4), .val (.int (0 : Int32)), .val (.int (p4 &&& (3 : Int32))), .unset, .unset, .unset] [(.int (1 : Int32)), (.int (p4 &&& (3 : Int32)))]))
        by_cases hc133 : (1 : Int32) < (p4 &&& (3 : Int32))
        · refine own_step (fun _ κ => XS.icmpNo X129.here hx rfl (hb hby at_66) rfl (tlt hc133).2.2.2 κ) ?_
          show own_Go _ _ _ _ (T129.setTop (mkF m 69 #[.val (.int p0), .val (.int p1), .val (.int p2), .val (.int p3), .val (.int p4), .val (.int p5), .val (.ref b1), .val (.ref b4), .val (.int (0 : Int32)), .val (.int (p4 &&& (3 : Int32))), .unset, .unset, .unset] []))
          refine own_step (fun _ κ => XS.aload X129.here hx rfl (hb hby at_69) rfl rfl κ) ?_
          show own_Go _ _ _ _ (T129.setTop (mkF m 71 #[.val (.int p0), .val (.int p1), .val (.int p2), .val (.int p3), .val (.int p4), .val (.int p5), .val (.ref b1), .val (.ref b4), .val (.int (0 : Int32)), .val (.int (p4 &&& (3 : Int32))), .unset, .unset, .unset] [(.ref b4)]))
          refine own_step (fun _ κ => XS.iloadN X129.here hx rfl (hb hby at_71) rfl κ) ?_
          show own_Go _ _ _ _ (T129.setTop (mkF m 72 #[.val (.int p0), .val (.int p1), .val (.int p2), .val (.int p3), .val (.int p4), .val (.int p5), .val (.ref b1), .val (.ref b4), .val (.int (0 : Int32)), .val (.int (p4 &&& (3 : Int32))), .unset, .unset, .unset] [(.int p2), (.ref b4)]))
          obtain ⟨cq134, kq134, q134a, q134b, q134c⟩ := isOf hZ rfl p129_0
          obtain ⟨vr134, _, ⟨T134, L134, k134, n134⟩, -, X134, ⟨Lc134, hQ134, l134, y134, z134⟩, st134⟩ := X129.virtualBack hx (y := (⟨"com/example/lens_on_archives/lensonarchives/Bytes", "write", "(I)V"⟩ : MethodName)) (z := (⟨"com/example/lens_on_archives/lensonarchives/Bytes", "write", "(I)V"⟩ : MethodName)) hown (mvT hZ (hw _ (List.mem_of_getElem? (i := 48) rfl))) (mvT hZ (hw _ (List.mem_of_getElem? (i := 49) rfl))) (notFace_of_selects (args := #[]) (mvT hZ (hw _ (List.mem_of_getElem? (i := 51) rfl)))) (mvT hZ (hw _ (List.mem_of_getElem? (i := 51) rfl))) (mvT hZ (hw _ (List.mem_of_getElem? (i := 50) rfl))) (by decide) (backOf (W := 0) (rm7 l Z a0 hw [] b4 p2 b10 (own_mx (16 : Int32) (p0 &&& (31 : Int32))) (own_upd own_zero (0 : Int32).toNatClampNeg (p1.toInt8.toInt32).toInt8.toInt32) ((0 : Int32) + (1 : Int32)) T129.heap n0 z132 p129_0 p129_1 p129_2 p129_3 ge6 ge13 ne12 (own_ng (Int.le_trans (by decide : (((0 : Int32) + (1 : Int32)) + (1 : Int32)).toInt ≤ 16) hN.1)) (by decide)) hZ (hw _ (List.mem_of_getElem? (i := 52) rfl)) (hw _ (List.mem_of_getElem? (i := 3) rfl)) (by decide) (by decide)) q134a q134c (g := (mkF m 72 #[.val (.int p0), .val (.int p1), .val (.int p2), .val (.int p3), .val (.int p4), .val (.int p5), .val (.ref b1), .val (.ref b4), .val (.int (0 : Int32)), .val (.int (p4 &&& (3 : Int32))), .unset, .unset, .unset] [(.int p2), (.ref b4)])) rfl (by rw [hml]; rfl) (Steps.refl _) (argsL := [(.int p2)]) (rest := []) (lenOf pd_2 rfl) rfl (by show 2 * 0 + _ ≤ _; exact Nat.le_of_eq rfl) (hb hby at_72) (fun _ _ => ⟨rfl, rfl, (by decide : 3 + 0 ≤ _), (by decide : 48 + 0 ≤ _)⟩)
          dsimp only [Pt.U, Pt.locs, Pt.cells, Pt.slots] at X134 l134 y134 z134 st134 hQ134
          subst l134 y134 z134
          obtain ⟨rfl, Nq134, Kq134, p134_0, p134_1, p134_2, p134_3⟩ := hQ134
          have N134 := Fr.app N129 Nq134
          have f135 := f130.keep Kq134 (ninS ne5 (ninS ne11 nin0))
          have f136 := p129_0.keep Kq134
          have z137 : n0 ≤ T134.heap.size := Nat.le_trans z132 Kq134.1
          refine own_step (fun _ κ => st134.trans κ) ?_
          show own_Go _ _ _ _ (T134.setTop (mkF m 75 #[.val (.int p0), .val (.int p1), .val (.int p2), .val (.int p3), .val (.int p4), .val (.int p5), .val (.ref b1), .val (.ref b4), .val (.int (0 : Int32)), .val (.int (p4 &&& (3 : Int32))), .unset, .unset, .unset] []))
          refine own_step (fun _ κ => XS.iload X134.here hx rfl (hb hby at_75) rfl κ) ?_
          show own_Go _ _ _ _ (T134.setTop (mkF m 77 #[.val (.int p0), .val (.int p1), .val (.int p2), .val (.int p3), .val (.int p4), .val (.int p5), .val (.ref b1), .val (.ref b4), .val (.int (0 : Int32)), .val (.int (p4 &&& (3 : Int32))), .unset, .unset, .unset] [(.int (p4 &&& (3 : Int32)))]))
          refine own_step (fun _ κ => XS.iconst X134.here hx rfl (hb hby at_77) κ) ?_
          show own_Go _ _ _ _ (T134.setTop (mkF m 78 #[.val (.int p0), .val (.int p1), .val (.int p2), .val (.int p3), .val (.int p4), .val (.int p5), .val (.ref b1), .val (.ref b4), .val (.int (0 : Int32)), .val (.int (p4 &&& (3 : Int32))), .unset, .unset, .unset] [(.int (2 : Int32)), (.int (p4 &&& (3 : Int32)))]))
          by_cases hc138 : (2 : Int32) < (p4 &&& (3 : Int32))
          · refine own_step (fun _ κ => XS.icmpNo X134.here hx rfl (hb hby at_78) rfl (tlt hc138).2.2.2 κ) ?_
            show own_Go _ _ _ _ (T134.setTop (mkF m 81 #[.val (.int p0), .val (.int p1), .val (.int p2), .val (.int p3), .val (.int p4), .val (.int p5), .val (.ref b1), .val (.ref b4), .val (.int (0 : Int32)), .val (.int (p4 &&& (3 : Int32))), .unset, .unset, .unset] []))
            refine own_step (fun _ κ => XS.aload X134.here hx rfl (hb hby at_81) rfl rfl κ) ?_
            show own_Go _ _ _ _ (T134.setTop (mkF m 83 #[.val (.int p0), .val (.int p1), .val (.int p2), .val (.int p3), .val (.int p4), .val (.int p5), .val (.ref b1), .val (.ref b4), .val (.int (0 : Int32)), .val (.int (p4 &&& (3 : Int32))), .unset, .unset, .unset] [(.ref b4)]))
            refine own_step (fun _ κ => XS.iloadN X134.here hx rfl (hb hby at_83) rfl κ) ?_
            show own_Go _ _ _ _ (T134.setTop (mkF m 84 #[.val (.int p0), .val (.int p1), .val (.int p2), .val (.int p3), .val (.int p4), .val (.int p5), .val (.ref b1), .val (.ref b4), .val (.int (0 : Int32)), .val (.int (p4 &&& (3 : Int32))), .unset, .unset, .unset] [(.int p3), (.ref b4)]))
            obtain ⟨cq139, kq139, q139a, q139b, q139c⟩ := isOf hZ rfl p134_0
            obtain ⟨vr139, _, ⟨T139, L139, k139, n139⟩, -, X139, ⟨Lc139, hQ139, l139, y139, z139⟩, st139⟩ := X134.virtualBack hx (y := (⟨"com/example/lens_on_archives/lensonarchives/Bytes", "write", "(I)V"⟩ : MethodName)) (z := (⟨"com/example/lens_on_archives/lensonarchives/Bytes", "write", "(I)V"⟩ : MethodName)) hown (mvT hZ (hw _ (List.mem_of_getElem? (i := 48) rfl))) (mvT hZ (hw _ (List.mem_of_getElem? (i := 49) rfl))) (notFace_of_selects (args := #[]) (mvT hZ (hw _ (List.mem_of_getElem? (i := 51) rfl)))) (mvT hZ (hw _ (List.mem_of_getElem? (i := 51) rfl))) (mvT hZ (hw _ (List.mem_of_getElem? (i := 50) rfl))) (by decide) (backOf (W := 0) (rm7 l Z a0 hw [] b4 p3 b10 (own_mx (16 : Int32) (p0 &&& (31 : Int32))) (own_upd (own_upd own_zero (0 : Int32).toNatClampNeg (p1.toInt8.toInt32).toInt8.toInt32) ((0 : Int32) + (1 : Int32)).toNatClampNeg (p2.toInt8.toInt32).toInt8.toInt32) (((0 : Int32) + (1 : Int32)) + (1 : Int32)) T134.heap n0 z137 p134_0 p134_1 p134_2 p134_3 ge6 ge13 ne12 (own_ng (Int.le_trans (by decide : ((((0 : Int32) + (1 : Int32)) + (1 : Int32)) + (1 : Int32)).toInt ≤ 16) hN.1)) (by decide)) hZ (hw _ (List.mem_of_getElem? (i := 52) rfl)) (hw _ (List.mem_of_getElem? (i := 3) rfl)) (by decide) (by decide)) q139a q139c (g := (mkF m 84 #[.val (.int p0), .val (.int p1), .val (.int p2), .val (.int p3), .val (.int p4), .val (.int p5), .val (.ref b1), .val (.ref b4), .val (.int (0 : Int32)), .val (.int (p4 &&& (3 : Int32))), .unset, .unset, .unset] [(.int p3), (.ref b4)])) rfl (by rw [hml]; rfl) (Steps.refl _) (argsL := [(.int p3)]) (rest := []) (lenOf pd_2 rfl) rfl (by show 2 * 0 + _ ≤ _; exact Nat.le_of_eq rfl) (hb hby at_84) (fun _ _ => ⟨rfl, rfl, (by decide : 3 + 0 ≤ _), (by decide : 48 + 0 ≤ _)⟩)
            dsimp only [Pt.U, Pt.locs, Pt.cells, Pt.slots] at X139 l139 y139 z139 st139 hQ139
            subst l139 y139 z139
            obtain ⟨rfl, Nq139, Kq139, p139_0, p139_1, p139_2, p139_3⟩ := hQ139
            have N139 := Fr.app N134 Nq139
            have f140 := f135.keep Kq139 (ninS ne5 (ninS ne11 nin0))
            have f141 := p134_0.keep Kq139
            have z142 : n0 ≤ T139.heap.size := Nat.le_trans z137 Kq139.1
            refine own_step (fun _ κ => st139.trans κ) ?_
            show own_Go _ _ _ _ (T139.setTop (mkF m 87 #[.val (.int p0), .val (.int p1), .val (.int p2), .val (.int p3), .val (.int p4), .val (.int p5), .val (.ref b1), .val (.ref b4), .val (.int (0 : Int32)), .val (.int (p4 &&& (3 : Int32))), .unset, .unset, .unset] []))
            refine own_step (fun _ κ => XS.iload X139.here hx rfl (hb hby at_87) rfl κ) ?_
            show own_Go _ _ _ _ (T139.setTop (mkF m 89 #[.val (.int p0), .val (.int p1), .val (.int p2), .val (.int p3), .val (.int p4), .val (.int p5), .val (.ref b1), .val (.ref b4), .val (.int (0 : Int32)), .val (.int (p4 &&& (3 : Int32))), .unset, .unset, .unset] [(.int (0 : Int32))]))
            refine own_step (fun _ κ => XS.iload X139.here hx rfl (hb hby at_89) rfl κ) ?_
            show own_Go _ _ _ _ (T139.setTop (mkF m 91 #[.val (.int p0), .val (.int p1), .val (.int p2), .val (.int p3), .val (.int p4), .val (.int p5), .val (.ref b1), .val (.ref b4), .val (.int (0 : Int32)), .val (.int (p4 &&& (3 : Int32))), .unset, .unset, .unset] [(.int (p4 &&& (3 : Int32))), (.int (0 : Int32))]))
            refine own_step (fun _ κ => XS.iadd X139.here hx rfl (hb hby at_91) rfl κ) ?_
            show own_Go _ _ _ _ (T139.setTop (mkF m 92 #[.val (.int p0), .val (.int p1), .val (.int p2), .val (.int p3), .val (.int p4), .val (.int p5), .val (.ref b1), .val (.ref b4), .val (.int (0 : Int32)), .val (.int (p4 &&& (3 : Int32))), .unset, .unset, .unset] [(.int ((0 : Int32) + (p4 &&& (3 : Int32))))]))
            refine own_step (fun _ κ => XS.istore X139.here hx rfl (hb hby at_92) rfl (l' := #[.val (.int p0), .val (.int p1), .val (.int p2), .val (.int p3), .val (.int p4), .val (.int p5), .val (.ref b1), .val (.ref b4), .val (.int (0 : Int32)), .val (.int (p4 &&& (3 : Int32))), .val (.int ((0 : Int32) + (p4 &&& (3 : Int32)))), .unset, .unset]) rfl κ) ?_
            show own_Go _ _ _ _ (T139.setTop (mkF m 94 #[.val (.int p0), .val (.int p1), .val (.int p2), .val (.int p3), .val (.int p4), .val (.int p5), .val (.ref b1), .val (.ref b4), .val (.int (0 : Int32)), .val (.int (p4 &&& (3 : Int32))), .val (.int ((0 : Int32) + (p4 &&& (3 : Int32)))), .unset, .unset] []))
            have hcnt : (p4 &&& (3 : Int32)) = (3 : Int32) := own_cnt3 (own_m3 p4).2 hc138
            have hlen : ((((0 : Int32) + (1 : Int32)) + (1 : Int32)) + (1 : Int32)) = ((0 : Int32) + (p4 &&& (3 : Int32))) := by rw [hcnt] <;> decide
            have hzz : (((0 : Int32) + (p4 &&& (3 : Int32)))).toInt = 3 := by rw [← hlen]; decide
            have hzn : ¬ (own_mx (16 : Int32) (p0 &&& (31 : Int32))) < ((0 : Int32) + (p4 &&& (3 : Int32))) := by
              have hlow := hN.1
              rw [Int32.lt_iff_toInt_lt, hzz]
              omega
            have hzl : ((0 : Int32) + (p4 &&& (3 : Int32))) = (3 : Int32) := Int32.toInt_inj.mp (hzz.trans (by decide))
            have hG : own_Good (0 : Int32) p1 p2 p3 ((0 : Int32) + (p4 &&& (3 : Int32))) (own_upd (own_upd (own_upd own_zero (0 : Int32).toNatClampNeg (p1.toInt8.toInt32).toInt8.toInt32) ((0 : Int32) + (1 : Int32)).toNatClampNeg (p2.toInt8.toInt32).toInt8.toInt32) (((0 : Int32) + (1 : Int32)) + (1 : Int32)).toNatClampNeg (p3.toInt8.toInt32).toInt8.toInt32) := by rw [hzl]; exact own_hG_0 _ p1 p2 p3 hN.1
            have Fz : Fld Z T139.heap b4 "com/example/lens_on_archives/lensonarchives/Bytes" "size" "I" (.int ((0 : Int32) + (p4 &&& (3 : Int32)))) := by rw [← hlen]; exact p139_2
            exact J (T139, _, b10, (own_mx (16 : Int32) (p0 &&& (31 : Int32))), (own_upd (own_upd (own_upd own_zero (0 : Int32).toNatClampNeg (p1.toInt8.toInt32).toInt8.toInt32) ((0 : Int32) + (1 : Int32)).toNatClampNeg (p2.toInt8.toInt32).toInt8.toInt32) (((0 : Int32) + (1 : Int32)) + (1 : Int32)).toNatClampNeg (p3.toInt8.toInt32).toInt8.toInt32), (0 : Int32), (p4 &&& (3 : Int32)), ((0 : Int32) + (p4 &&& (3 : Int32)))) ⟨X139.more (by decide) (by decide), N139, z142, p139_0, p139_1, Fz, p139_3, (by show 0 ≤ (((0 : Int32) + (p4 &&& (3 : Int32)))).toInt ∧ (((0 : Int32) + (p4 &&& (3 : Int32)))).toInt ≤ 18; rw [hzz]; decide), hzn, hG, (Ne.symm ne12)⟩
          · refine own_step (fun _ κ => XS.icmpYes X134.here hx rfl (pc0 := 78) (pc' := 87) rfl (hb hby at_78) rfl (flt hc138).2.2.2 (by decide) (by decide) κ) ?_
            show own_Go _ _ _ _ (T134.setTop (mkF m 87 #[.val (.int p0), .val (.int p1), .val (.int p2), .val (.int p3), .val (.int p4), .val (.int p5), .val (.ref b1), .val (.ref b4), .val (.int (0 : Int32)), .val (.int (p4 &&& (3 : Int32))), .unset, .unset, .unset] []))
            refine own_step (fun _ κ => XS.iload X134.here hx rfl (hb hby at_87) rfl κ) ?_
            show own_Go _ _ _ _ (T134.setTop (mkF m 89 #[.val (.int p0), .val (.int p1), .val (.int p2), .val (.int p3), .val (.int p4), .val (.int p5), .val (.ref b1), .val (.ref b4), .val (.int (0 : Int32)), .val (.int (p4 &&& (3 : Int32))), .unset, .unset, .unset] [(.int (0 : Int32))]))
            refine own_step (fun _ κ => XS.iload X134.here hx rfl (hb hby at_89) rfl κ) ?_
            show own_Go _ _ _ _ (T134.setTop (mkF m 91 #[.val (.int p0), .val (.int p1), .val (.int p2), .val (.int p3), .val (.int p4), .val (.int p5), .val (.ref b1), .val (.ref b4), .val (.int (0 : Int32)), .val (.int (p4 &&& (3 : Int32))), .unset, .unset, .unset] [(.int (p4 &&& (3 : Int32))), (.int (0 : Int32))]))
            refine own_step (fun _ κ => XS.iadd X134.here hx rfl (hb hby at_91) rfl κ) ?_
            show own_Go _ _ _ _ (T134.setTop (mkF m 92 #[.val (.int p0), .val (.int p1), .val (.int p2), .val (.int p3), .val (.int p4), .val (.int p5), .val (.ref b1), .val (.ref b4), .val (.int (0 : Int32)), .val (.int (p4 &&& (3 : Int32))), .unset, .unset, .unset] [(.int ((0 : Int32) + (p4 &&& (3 : Int32))))]))
            refine own_step (fun _ κ => XS.istore X134.here hx rfl (hb hby at_92) rfl (l' := #[.val (.int p0), .val (.int p1), .val (.int p2), .val (.int p3), .val (.int p4), .val (.int p5), .val (.ref b1), .val (.ref b4), .val (.int (0 : Int32)), .val (.int (p4 &&& (3 : Int32))), .val (.int ((0 : Int32) + (p4 &&& (3 : Int32)))), .unset, .unset]) rfl κ) ?_
            show own_Go _ _ _ _ (T134.setTop (mkF m 94 #[.val (.int p0), .val (.int p1), .val (.int p2), .val (.int p3), .val (.int p4), .val (.int p5), .val (.ref b1), .val (.ref b4), .val (.int (0 : Int32)), .val (.int (p4 &&& (3 : Int32))), .val (.int ((0 : Int32) + (p4 &&& (3 : Int32)))), .unset, .unset] []))
            have hcnt : (p4 &&& (3 : Int32)) = (2 : Int32) := own_cnt hc133 hc138 (by decide)
            have hlen : (((0 : Int32) + (1 : Int32)) + (1 : Int32)) = ((0 : Int32) + (p4 &&& (3 : Int32))) := by rw [hcnt] <;> decide
            have hzz : (((0 : Int32) + (p4 &&& (3 : Int32)))).toInt = 2 := by rw [← hlen]; decide
            have hzn : ¬ (own_mx (16 : Int32) (p0 &&& (31 : Int32))) < ((0 : Int32) + (p4 &&& (3 : Int32))) := by
              have hlow := hN.1
              rw [Int32.lt_iff_toInt_lt, hzz]
              omega
            have hzl : ((0 : Int32) + (p4 &&& (3 : Int32))) = (2 : Int32) := Int32.toInt_inj.mp (hzz.trans (by decide))
            have hG : own_Good (0 : Int32) p1 p2 p3 ((0 : Int32) + (p4 &&& (3 : Int32))) (own_upd (own_upd own_zero (0 : Int32).toNatClampNeg (p1.toInt8.toInt32).toInt8.toInt32) ((0 : Int32) + (1 : Int32)).toNatClampNeg (p2.toInt8.toInt32).toInt8.toInt32) := by rw [hzl]; exact own_hG_1 _ p1 p2 p3 hN.1
            have Fz : Fld Z T134.heap b4 "com/example/lens_on_archives/lensonarchives/Bytes" "size" "I" (.int ((0 : Int32) + (p4 &&& (3 : Int32)))) := by rw [← hlen]; exact p134_2
            exact J (T134, _, b10, (own_mx (16 : Int32) (p0 &&& (31 : Int32))), (own_upd (own_upd own_zero (0 : Int32).toNatClampNeg (p1.toInt8.toInt32).toInt8.toInt32) ((0 : Int32) + (1 : Int32)).toNatClampNeg (p2.toInt8.toInt32).toInt8.toInt32), (0 : Int32), (p4 &&& (3 : Int32)), ((0 : Int32) + (p4 &&& (3 : Int32)))) ⟨X134.more (by decide) (by decide), N134, z137, p134_0, p134_1, Fz, p134_3, (by show 0 ≤ (((0 : Int32) + (p4 &&& (3 : Int32)))).toInt ∧ (((0 : Int32) + (p4 &&& (3 : Int32)))).toInt ≤ 18; rw [hzz]; decide), hzn, hG, (Ne.symm ne12)⟩
        · refine own_step (fun _ κ => XS.icmpYes X129.here hx rfl (pc0 := 66) (pc' := 75) rfl (hb hby at_66) rfl (flt hc133).2.2.2 (by decide) (by decide) κ) ?_
          show own_Go _ _ _ _ (T129.setTop (mkF m 75 #[.val (.int p0), .val (.int p1), .val (.int p2), .val (.int p3), .val (.int p4), .val (.int p5), .val (.ref b1), .val (.ref b4), .val (.int (0 : Int32)), .val (.int (p4 &&& (3 : Int32))), .unset, .unset, .unset] []))
          refine own_step (fun _ κ => XS.iload X129.here hx rfl (hb hby at_75) rfl κ) ?_
          show own_Go _ _ _ _ (T129.setTop (mkF m 77 #[.val (.int p0), .val (.int p1), .val (.int p2), .val (.int p3), .val (.int p4), .val (.int p5), .val (.ref b1), .val (.ref b4), .val (.int (0 : Int32)), .val (.int (p4 &&& (3 : Int32))), .unset, .unset, .unset] [(.int (p4 &&& (3 : Int32)))]))
          refine own_step (fun _ κ => XS.iconst X129.here hx rfl (hb hby at_77) κ) ?_
          show own_Go _ _ _ _ (T129.setTop (mkF m 78 #[.val (.int p0), .val (.int p1), .val (.int p2), .val (.int p3), .val (.int p4), .val (.int p5), .val (.ref b1), .val (.ref b4), .val (.int (0 : Int32)), .val (.int (p4 &&& (3 : Int32))), .unset, .unset, .unset] [(.int (2 : Int32)), (.int (p4 &&& (3 : Int32)))]))
          refine own_step (fun _ κ => XS.icmpYes X129.here hx rfl (pc0 := 78) (pc' := 87) rfl (hb hby at_78) rfl (flt (own_ltF hc133 (by decide))).2.2.2 (by decide) (by decide) κ) ?_
          show own_Go _ _ _ _ (T129.setTop (mkF m 87 #[.val (.int p0), .val (.int p1), .val (.int p2), .val (.int p3), .val (.int p4), .val (.int p5), .val (.ref b1), .val (.ref b4), .val (.int (0 : Int32)), .val (.int (p4 &&& (3 : Int32))), .unset, .unset, .unset] []))
          refine own_step (fun _ κ => XS.iload X129.here hx rfl (hb hby at_87) rfl κ) ?_
          show own_Go _ _ _ _ (T129.setTop (mkF m 89 #[.val (.int p0), .val (.int p1), .val (.int p2), .val (.int p3), .val (.int p4), .val (.int p5), .val (.ref b1), .val (.ref b4), .val (.int (0 : Int32)), .val (.int (p4 &&& (3 : Int32))), .unset, .unset, .unset] [(.int (0 : Int32))]))
          refine own_step (fun _ κ => XS.iload X129.here hx rfl (hb hby at_89) rfl κ) ?_
          show own_Go _ _ _ _ (T129.setTop (mkF m 91 #[.val (.int p0), .val (.int p1), .val (.int p2), .val (.int p3), .val (.int p4), .val (.int p5), .val (.ref b1), .val (.ref b4), .val (.int (0 : Int32)), .val (.int (p4 &&& (3 : Int32))), .unset, .unset, .unset] [(.int (p4 &&& (3 : Int32))), (.int (0 : Int32))]))
          refine own_step (fun _ κ => XS.iadd X129.here hx rfl (hb hby at_91) rfl κ) ?_
          show own_Go _ _ _ _ (T129.setTop (mkF m 92 #[.val (.int p0), .val (.int p1), .val (.int p2), .val (.int p3), .val (.int p4), .val (.int p5), .val (.ref b1), .val (.ref b4), .val (.int (0 : Int32)), .val (.int (p4 &&& (3 : Int32))), .unset, .unset, .unset] [(.int ((0 : Int32) + (p4 &&& (3 : Int32))))]))
          refine own_step (fun _ κ => XS.istore X129.here hx rfl (hb hby at_92) rfl (l' := #[.val (.int p0), .val (.int p1), .val (.int p2), .val (.int p3), .val (.int p4), .val (.int p5), .val (.ref b1), .val (.ref b4), .val (.int (0 : Int32)), .val (.int (p4 &&& (3 : Int32))), .val (.int ((0 : Int32) + (p4 &&& (3 : Int32)))), .unset, .unset]) rfl κ) ?_
          show own_Go _ _ _ _ (T129.setTop (mkF m 94 #[.val (.int p0), .val (.int p1), .val (.int p2), .val (.int p3), .val (.int p4), .val (.int p5), .val (.ref b1), .val (.ref b4), .val (.int (0 : Int32)), .val (.int (p4 &&& (3 : Int32))), .val (.int ((0 : Int32) + (p4 &&& (3 : Int32)))), .unset, .unset] []))
          have hcnt : (p4 &&& (3 : Int32)) = (1 : Int32) := own_cnt hc128 hc133 (by decide)
          have hlen : ((0 : Int32) + (1 : Int32)) = ((0 : Int32) + (p4 &&& (3 : Int32))) := by rw [hcnt] <;> decide
          have hzz : (((0 : Int32) + (p4 &&& (3 : Int32)))).toInt = 1 := by rw [← hlen]; decide
          have hzn : ¬ (own_mx (16 : Int32) (p0 &&& (31 : Int32))) < ((0 : Int32) + (p4 &&& (3 : Int32))) := by
            have hlow := hN.1
            rw [Int32.lt_iff_toInt_lt, hzz]
            omega
          have hzl : ((0 : Int32) + (p4 &&& (3 : Int32))) = (1 : Int32) := Int32.toInt_inj.mp (hzz.trans (by decide))
          have hG : own_Good (0 : Int32) p1 p2 p3 ((0 : Int32) + (p4 &&& (3 : Int32))) (own_upd own_zero (0 : Int32).toNatClampNeg (p1.toInt8.toInt32).toInt8.toInt32) := by rw [hzl]; exact own_hG_2 _ p1 p2 p3 hN.1
          have Fz : Fld Z T129.heap b4 "com/example/lens_on_archives/lensonarchives/Bytes" "size" "I" (.int ((0 : Int32) + (p4 &&& (3 : Int32)))) := by rw [← hlen]; exact p129_2
          exact J (T129, _, b10, (own_mx (16 : Int32) (p0 &&& (31 : Int32))), (own_upd own_zero (0 : Int32).toNatClampNeg (p1.toInt8.toInt32).toInt8.toInt32), (0 : Int32), (p4 &&& (3 : Int32)), ((0 : Int32) + (p4 &&& (3 : Int32)))) ⟨X129.more (by decide) (by decide), N129, z132, p129_0, p129_1, Fz, p129_3, (by show 0 ≤ (((0 : Int32) + (p4 &&& (3 : Int32)))).toInt ∧ (((0 : Int32) + (p4 &&& (3 : Int32)))).toInt ≤ 18; rw [hzz]; decide), hzn, hG, (Ne.symm ne12)⟩
      · refine own_step (fun _ κ => XS.ifYes X9.here hx rfl (pc0 := 54) (pc' := 63) rfl (hb hby at_54) rfl ((if0 _ _).trans (flt hc128).2.2.2) (by decide) (by decide) κ) ?_
        show own_Go _ _ _ _ (T9.setTop (mkF m 63 #[.val (.int p0), .val (.int p1), .val (.int p2), .val (.int p3), .val (.int p4), .val (.int p5), .val (.ref b1), .val (.ref b4), .val (.int (0 : Int32)), .val (.int (p4 &&& (3 : Int32))), .unset, .unset, .unset] []))
        refine own_step (fun _ κ => XS.iload X9.here hx rfl (hb hby at_63) rfl κ) ?_
        show own_Go _ _ _ _ (T9.setTop (mkF m 65 #[.val (.int p0), .val (.int p1), .val (.int p2), .val (.int p3), .val (.int p4), .val (.int p5), .val (.ref b1), .val (.ref b4), .val (.int (0 : Int32)), .val (.int (p4 &&& (3 : Int32))), .unset, .unset, .unset] [(.int (p4 &&& (3 : Int32)))]))
        refine own_step (fun _ κ => XS.iconst X9.here hx rfl (hb hby at_65) κ) ?_
        show own_Go _ _ _ _ (T9.setTop (mkF m 66 #[.val (.int p0), .val (.int p1), .val (.int p2), .val (.int p3), .val (.int p4), .val (.int p5), .val (.ref b1), .val (.ref b4), .val (.int (0 : Int32)), .val (.int (p4 &&& (3 : Int32))), .unset, .unset, .unset] [(.int (1 : Int32)), (.int (p4 &&& (3 : Int32)))]))
        refine own_step (fun _ κ => XS.icmpYes X9.here hx rfl (pc0 := 66) (pc' := 75) rfl (hb hby at_66) rfl (flt (own_ltF hc128 (by decide))).2.2.2 (by decide) (by decide) κ) ?_
        show own_Go _ _ _ _ (T9.setTop (mkF m 75 #[.val (.int p0), .val (.int p1), .val (.int p2), .val (.int p3), .val (.int p4), .val (.int p5), .val (.ref b1), .val (.ref b4), .val (.int (0 : Int32)), .val (.int (p4 &&& (3 : Int32))), .unset, .unset, .unset] []))
        refine own_step (fun _ κ => XS.iload X9.here hx rfl (hb hby at_75) rfl κ) ?_
        show own_Go _ _ _ _ (T9.setTop (mkF m 77 #[.val (.int p0), .val (.int p1), .val (.int p2), .val (.int p3), .val (.int p4), .val (.int p5), .val (.ref b1), .val (.ref b4), .val (.int (0 : Int32)), .val (.int (p4 &&& (3 : Int32))), .unset, .unset, .unset] [(.int (p4 &&& (3 : Int32)))]))
        refine own_step (fun _ κ => XS.iconst X9.here hx rfl (hb hby at_77) κ) ?_
        show own_Go _ _ _ _ (T9.setTop (mkF m 78 #[.val (.int p0), .val (.int p1), .val (.int p2), .val (.int p3), .val (.int p4), .val (.int p5), .val (.ref b1), .val (.ref b4), .val (.int (0 : Int32)), .val (.int (p4 &&& (3 : Int32))), .unset, .unset, .unset] [(.int (2 : Int32)), (.int (p4 &&& (3 : Int32)))]))
        refine own_step (fun _ κ => XS.icmpYes X9.here hx rfl (pc0 := 78) (pc' := 87) rfl (hb hby at_78) rfl (flt (own_ltF hc128 (by decide))).2.2.2 (by decide) (by decide) κ) ?_
        show own_Go _ _ _ _ (T9.setTop (mkF m 87 #[.val (.int p0), .val (.int p1), .val (.int p2), .val (.int p3), .val (.int p4), .val (.int p5), .val (.ref b1), .val (.ref b4), .val (.int (0 : Int32)), .val (.int (p4 &&& (3 : Int32))), .unset, .unset, .unset] []))
        refine own_step (fun _ κ => XS.iload X9.here hx rfl (hb hby at_87) rfl κ) ?_
        show own_Go _ _ _ _ (T9.setTop (mkF m 89 #[.val (.int p0), .val (.int p1), .val (.int p2), .val (.int p3), .val (.int p4), .val (.int p5), .val (.ref b1), .val (.ref b4), .val (.int (0 : Int32)), .val (.int (p4 &&& (3 : Int32))), .unset, .unset, .unset] [(.int (0 : Int32))]))
        refine own_step (fun _ κ => XS.iload X9.here hx rfl (hb hby at_89) rfl κ) ?_
        show own_Go _ _ _ _ (T9.setTop (mkF m 91 #[.val (.int p0), .val (.int p1), .val (.int p2), .val (.int p3), .val (.int p4), .val (.int p5), .val (.ref b1), .val (.ref b4), .val (.int (0 : Int32)), .val (.int (p4 &&& (3 : Int32))), .unset, .unset, .unset] [(.int (p4 &&& (3 : Int32))), (.int (0 : Int32))]))
        refine own_step (fun _ κ => XS.iadd X9.here hx rfl (hb hby at_91) rfl κ) ?_
        show own_Go _ _ _ _ (T9.setTop (mkF m 92 #[.val (.int p0), .val (.int p1), .val (.int p2), .val (.int p3), .val (.int p4), .val (.int p5), .val (.ref b1), .val (.ref b4), .val (.int (0 : Int32)), .val (.int (p4 &&& (3 : Int32))), .unset, .unset, .unset] [(.int ((0 : Int32) + (p4 &&& (3 : Int32))))]))
        refine own_step (fun _ κ => XS.istore X9.here hx rfl (hb hby at_92) rfl (l' := #[.val (.int p0), .val (.int p1), .val (.int p2), .val (.int p3), .val (.int p4), .val (.int p5), .val (.ref b1), .val (.ref b4), .val (.int (0 : Int32)), .val (.int (p4 &&& (3 : Int32))), .val (.int ((0 : Int32) + (p4 &&& (3 : Int32)))), .unset, .unset]) rfl κ) ?_
        show own_Go _ _ _ _ (T9.setTop (mkF m 94 #[.val (.int p0), .val (.int p1), .val (.int p2), .val (.int p3), .val (.int p4), .val (.int p5), .val (.ref b1), .val (.ref b4), .val (.int (0 : Int32)), .val (.int (p4 &&& (3 : Int32))), .val (.int ((0 : Int32) + (p4 &&& (3 : Int32)))), .unset, .unset] []))
        have hcnt : (p4 &&& (3 : Int32)) = (0 : Int32) := own_cnt0 (own_m3 p4).1 hc128
        have hlen : (0 : Int32) = ((0 : Int32) + (p4 &&& (3 : Int32))) := by rw [hcnt] <;> decide
        have hzz : (((0 : Int32) + (p4 &&& (3 : Int32)))).toInt = 0 := by rw [← hlen]; decide
        have hzn : ¬ (own_mx (16 : Int32) (p0 &&& (31 : Int32))) < ((0 : Int32) + (p4 &&& (3 : Int32))) := by
          have hlow := hN.1
          rw [Int32.lt_iff_toInt_lt, hzz]
          omega
        have hzl : ((0 : Int32) + (p4 &&& (3 : Int32))) = (0 : Int32) := Int32.toInt_inj.mp (hzz.trans (by decide))
        have hG : own_Good (0 : Int32) p1 p2 p3 ((0 : Int32) + (p4 &&& (3 : Int32))) own_zero := by rw [hzl]; exact own_hG_3 _ p1 p2 p3 hN.1
        have Fz : Fld Z T9.heap b4 "com/example/lens_on_archives/lensonarchives/Bytes" "size" "I" (.int ((0 : Int32) + (p4 &&& (3 : Int32)))) := by rw [← hlen]; exact p9_3
        exact J (T9, _, b10, (own_mx (16 : Int32) (p0 &&& (31 : Int32))), own_zero, (0 : Int32), (p4 &&& (3 : Int32)), ((0 : Int32) + (p4 &&& (3 : Int32)))) ⟨X9.more (by decide) (by decide), N9, z16, p9_1, p9_2, Fz, p9_4, (by show 0 ≤ (((0 : Int32) + (p4 &&& (3 : Int32)))).toInt ∧ (((0 : Int32) + (p4 &&& (3 : Int32)))).toInt ≤ 18; rw [hzz]; decide), hzn, hG, (Ne.symm ne12)⟩
    · refine own_step (fun _ κ => XS.ifNo X9.here hx rfl (hb hby at_23) rfl ((if0 _ _).trans (feq hc127).1) κ) ?_
      show own_Go _ _ _ _ (T9.setTop (mkF m 26 #[.val (.int p0), .val (.int p1), .val (.int p2), .val (.int p3), .val (.int p4), .val (.int p5), .val (.ref b1), .val (.ref b4), .unset, .unset, .unset, .unset, .unset] []))
      refine own_step (fun _ κ => XS.bipush X9.here hx rfl (hb hby at_26) κ) ?_
      show own_Go _ _ _ _ (T9.setTop (mkF m 28 #[.val (.int p0), .val (.int p1), .val (.int p2), .val (.int p3), .val (.int p4), .val (.int p5), .val (.ref b1), .val (.ref b4), .unset, .unset, .unset, .unset, .unset] [(.int (15 : Int32))]))
      refine own_step (fun _ κ => XS.goto X9.here hx rfl (pc0 := 28) (pc' := 32) rfl (hb hby at_28) (by decide) (by decide) κ) ?_
      show own_Go _ _ _ _ (T9.setTop (mkF m 32 #[.val (.int p0), .val (.int p1), .val (.int p2), .val (.int p3), .val (.int p4), .val (.int p5), .val (.ref b1), .val (.ref b4), .unset, .unset, .unset, .unset, .unset] [(.int (15 : Int32))]))
      refine own_step (fun _ κ => XS.istore X9.here hx rfl (hb hby at_32) rfl (l' := #[.val (.int p0), .val (.int p1), .val (.int p2), .val (.int p3), .val (.int p4), .val (.int p5), .val (.ref b1), .val (.ref b4), .val (.int (15 : Int32)), .unset, .unset, .unset, .unset]) rfl κ) ?_
      show own_Go _ _ _ _ (T9.setTop (mkF m 34 #[.val (.int p0), .val (.int p1), .val (.int p2), .val (.int p3), .val (.int p4), .val (.int p5), .val (.ref b1), .val (.ref b4), .val (.int (15 : Int32)), .unset, .unset, .unset, .unset] []))
      refine own_step (fun _ κ => XS.iload X9.here hx rfl (hb hby at_34) rfl κ) ?_
      show own_Go _ _ _ _ (T9.setTop (mkF m 36 #[.val (.int p0), .val (.int p1), .val (.int p2), .val (.int p3), .val (.int p4), .val (.int p5), .val (.ref b1), .val (.ref b4), .val (.int (15 : Int32)), .unset, .unset, .unset, .unset] [(.int (15 : Int32))]))
      refine own_step (fun _ κ => XS.ifNo X9.here hx rfl (hb hby at_36) rfl ((if0 _ _).trans (feq (by decide)).1) κ) ?_
      show own_Go _ _ _ _ (T9.setTop (mkF m 39 #[.val (.int p0), .val (.int p1), .val (.int p2), .val (.int p3), .val (.int p4), .val (.int p5), .val (.ref b1), .val (.ref b4), .val (.int (15 : Int32)), .unset, .unset, .unset, .unset] []))
      refine own_step (fun _ κ => XS.aload X9.here hx rfl (hb hby at_39) rfl rfl κ) ?_
      show own_Go _ _ _ _ (T9.setTop (mkF m 41 #[.val (.int p0), .val (.int p1), .val (.int p2), .val (.int p3), .val (.int p4), .val (.int p5), .val (.ref b1), .val (.ref b4), .val (.int (15 : Int32)), .unset, .unset, .unset, .unset] [(.ref b4)]))
      refine own_step (fun _ κ => XS.aload X9.here hx rfl (hb hby at_41) rfl rfl κ) ?_
      show own_Go _ _ _ _ (T9.setTop (mkF m 43 #[.val (.int p0), .val (.int p1), .val (.int p2), .val (.int p3), .val (.int p4), .val (.int p5), .val (.ref b1), .val (.ref b4), .val (.int (15 : Int32)), .unset, .unset, .unset, .unset] [(.ref b1), (.ref b4)]))
      obtain ⟨cq143, kq143, q143a, q143b, q143c⟩ := isOf hZ rfl p9_1
      obtain ⟨vr143, _, ⟨T143, L143, k143, n143⟩, -, X143, ⟨Lc143, hQ143, l143, y143, z143⟩, st143⟩ := X9.virtualBack hx (y := (⟨"com/example/lens_on_archives/lensonarchives/Bytes", "write", "([B)V"⟩ : MethodName)) (z := (⟨"com/example/lens_on_archives/lensonarchives/Bytes", "write", "([B)V"⟩ : MethodName)) hown (mvT hZ (hw _ (List.mem_of_getElem? (i := 38) rfl))) (mvT hZ (hw _ (List.mem_of_getElem? (i := 39) rfl))) (notFace_of_selects (args := #[]) (mvT hZ (hw _ (List.mem_of_getElem? (i := 41) rfl)))) (mvT hZ (hw _ (List.mem_of_getElem? (i := 41) rfl))) (mvT hZ (hw _ (List.mem_of_getElem? (i := 40) rfl))) (by decide) (backOf (W := 0) (rm9 l Z a0 hw [] b4 b1 b10 (own_mx (16 : Int32) (p0 &&& (31 : Int32))) T9.heap n0 z16 p9_1 p9_2 p9_3 p9_4 f14 ge6 ge13 ne12 (by have := own_nat (own_nn (Int.le_trans (by decide) hN.1)); have := hN.1; have : (0 : Int32).toNatClampNeg = 0 := (by decide); have : (15 : Int32).toNatClampNeg = 15 := (by decide); omega) (own_ng (Int.le_trans (by decide) hN.1)) ne11) hZ (hw _ (List.mem_of_getElem? (i := 42) rfl)) (hw _ (List.mem_of_getElem? (i := 3) rfl)) (by decide) (by decide)) q143a q143c (g := (mkF m 43 #[.val (.int p0), .val (.int p1), .val (.int p2), .val (.int p3), .val (.int p4), .val (.int p5), .val (.ref b1), .val (.ref b4), .val (.int (15 : Int32)), .unset, .unset, .unset, .unset] [(.ref b1), (.ref b4)])) rfl (by rw [hml]; rfl) (Steps.refl _) (argsL := [(.ref b1)]) (rest := []) (lenOf pd_6 rfl) rfl (by show 2 * 0 + _ ≤ _; exact Nat.le_of_eq rfl) (hb hby at_43) (fun _ _ => ⟨rfl, rfl, (by decide : 3 + 0 ≤ _), (by decide : 48 + 0 ≤ _)⟩)
      dsimp only [Pt.U, Pt.locs, Pt.cells, Pt.slots] at X143 l143 y143 z143 st143 hQ143
      subst l143 y143 z143
      obtain ⟨rfl, Nq143, Kq143, p143_0, p143_1, p143_2, p143_3⟩ := hQ143
      have N143 := Fr.app N9 Nq143
      have f144 := f14.keep Kq143 (ninS ne5 (ninS ne11 nin0))
      have f145 := p9_1.keep Kq143
      have z146 : n0 ≤ T143.heap.size := Nat.le_trans z16 Kq143.1
      refine own_step (fun _ κ => st143.trans κ) ?_
      show own_Go _ _ _ _ (T143.setTop (mkF m 46 #[.val (.int p0), .val (.int p1), .val (.int p2), .val (.int p3), .val (.int p4), .val (.int p5), .val (.ref b1), .val (.ref b4), .val (.int (15 : Int32)), .unset, .unset, .unset, .unset] []))
      refine own_step (fun _ κ => XS.iload X143.here hx rfl (hb hby at_46) rfl κ) ?_
      show own_Go _ _ _ _ (T143.setTop (mkF m 48 #[.val (.int p0), .val (.int p1), .val (.int p2), .val (.int p3), .val (.int p4), .val (.int p5), .val (.ref b1), .val (.ref b4), .val (.int (15 : Int32)), .unset, .unset, .unset, .unset] [(.int p4)]))
      refine own_step (fun _ κ => XS.iconst X143.here hx rfl (hb hby at_48) κ) ?_
      show own_Go _ _ _ _ (T143.setTop (mkF m 49 #[.val (.int p0), .val (.int p1), .val (.int p2), .val (.int p3), .val (.int p4), .val (.int p5), .val (.ref b1), .val (.ref b4), .val (.int (15 : Int32)), .unset, .unset, .unset, .unset] [(.int (3 : Int32)), (.int p4)]))
      refine own_step (fun _ κ => XS.iand X143.here hx rfl (hb hby at_49) rfl κ) ?_
      show own_Go _ _ _ _ (T143.setTop (mkF m 50 #[.val (.int p0), .val (.int p1), .val (.int p2), .val (.int p3), .val (.int p4), .val (.int p5), .val (.ref b1), .val (.ref b4), .val (.int (15 : Int32)), .unset, .unset, .unset, .unset] [(.int (p4 &&& (3 : Int32)))]))
      refine own_step (fun _ κ => XS.istore X143.here hx rfl (hb hby at_50) rfl (l' := #[.val (.int p0), .val (.int p1), .val (.int p2), .val (.int p3), .val (.int p4), .val (.int p5), .val (.ref b1), .val (.ref b4), .val (.int (15 : Int32)), .val (.int (p4 &&& (3 : Int32))), .unset, .unset, .unset]) rfl κ) ?_
      show own_Go _ _ _ _ (T143.setTop (mkF m 52 #[.val (.int p0), .val (.int p1), .val (.int p2), .val (.int p3), .val (.int p4), .val (.int p5), .val (.ref b1), .val (.ref b4), .val (.int (15 : Int32)), .val (.int (p4 &&& (3 : Int32))), .unset, .unset, .unset] []))
      refine own_step (fun _ κ => XS.iload X143.here hx rfl (hb hby at_52) rfl κ) ?_
      show own_Go _ _ _ _ (T143.setTop (mkF m 54 #[.val (.int p0), .val (.int p1), .val (.int p2), .val (.int p3), .val (.int p4), .val (.int p5), .val (.ref b1), .val (.ref b4), .val (.int (15 : Int32)), .val (.int (p4 &&& (3 : Int32))), .unset, .unset, .unset] [(.int (p4 &&& (3 : Int32)))]))
      by_cases hc147 : (0 : Int32) < (p4 &&& (3 : Int32))
      · refine own_step (fun _ κ => XS.ifNo X143.here hx rfl (hb hby at_54) rfl ((if0 _ _).trans (tlt hc147).2.2.2) κ) ?_
        show own_Go _ _ _ _ (T143.setTop (mkF m 57 #[.val (.int p0), .val (.int p1), .val (.int p2), .val (.int p3), .val (.int p4), .val (.int p5), .val (.ref b1), .val (.ref b4), .val (.int (15 : Int32)), .val (.int (p4 &&& (3 : Int32))), .unset, .unset, .unset] []))
        refine own_step (fun _ κ => XS.aload X143.here hx rfl (hb hby at_57) rfl rfl κ) ?_
        show own_Go _ _ _ _ (T143.setTop (mkF m 59 #[.val (.int p0), .val (.int p1), .val (.int p2), .val (.int p3), .val (.int p4), .val (.int p5), .val (.ref b1), .val (.ref b4), .val (.int (15 : Int32)), .val (.int (p4 &&& (3 : Int32))), .unset, .unset, .unset] [(.ref b4)]))
        refine own_step (fun _ κ => XS.iloadN X143.here hx rfl (hb hby at_59) rfl κ) ?_
        show own_Go _ _ _ _ (T143.setTop (mkF m 60 #[.val (.int p0), .val (.int p1), .val (.int p2), .val (.int p3), .val (.int p4), .val (.int p5), .val (.ref b1), .val (.ref b4), .val (.int (15 : Int32)), .val (.int (p4 &&& (3 : Int32))), .unset, .unset, .unset] [(.int p1), (.ref b4)]))
        obtain ⟨cq148, kq148, q148a, q148b, q148c⟩ := isOf hZ rfl p143_0
        obtain ⟨vr148, _, ⟨T148, L148, k148, n148⟩, -, X148, ⟨Lc148, hQ148, l148, y148, z148⟩, st148⟩ := X143.virtualBack hx (y := (⟨"com/example/lens_on_archives/lensonarchives/Bytes", "write", "(I)V"⟩ : MethodName)) (z := (⟨"com/example/lens_on_archives/lensonarchives/Bytes", "write", "(I)V"⟩ : MethodName)) hown (mvT hZ (hw _ (List.mem_of_getElem? (i := 48) rfl))) (mvT hZ (hw _ (List.mem_of_getElem? (i := 49) rfl))) (notFace_of_selects (args := #[]) (mvT hZ (hw _ (List.mem_of_getElem? (i := 51) rfl)))) (mvT hZ (hw _ (List.mem_of_getElem? (i := 51) rfl))) (mvT hZ (hw _ (List.mem_of_getElem? (i := 50) rfl))) (by decide) (backOf (W := 0) (rm7 l Z a0 hw [] b4 p1 b10 (own_mx (16 : Int32) (p0 &&& (31 : Int32))) own_zero (15 : Int32) T143.heap n0 z146 p143_0 p143_1 p143_2 p143_3 ge6 ge13 ne12 (own_ng (Int.le_trans (by decide : ((15 : Int32) + (1 : Int32)).toInt ≤ 16) hN.1)) (by decide)) hZ (hw _ (List.mem_of_getElem? (i := 52) rfl)) (hw _ (List.mem_of_getElem? (i := 3) rfl)) (by decide) (by decide)) q148a q148c (g := (mkF m 60 #[.val (.int p0), .val (.int p1), .val (.int p2), .val (.int p3), .val (.int p4), .val (.int p5), .val (.ref b1), .val (.ref b4), .val (.int (15 : Int32)), .val (.int (p4 &&& (3 : Int32))), .unset, .unset, .unset] [(.int p1), (.ref b4)])) rfl (by rw [hml]; rfl) (Steps.refl _) (argsL := [(.int p1)]) (rest := []) (lenOf pd_2 rfl) rfl (by show 2 * 0 + _ ≤ _; exact Nat.le_of_eq rfl) (hb hby at_60) (fun _ _ => ⟨rfl, rfl, (by decide : 3 + 0 ≤ _), (by decide : 48 + 0 ≤ _)⟩)
        dsimp only [Pt.U, Pt.locs, Pt.cells, Pt.slots] at X148 l148 y148 z148 st148 hQ148
        subst l148 y148 z148
        obtain ⟨rfl, Nq148, Kq148, p148_0, p148_1, p148_2, p148_3⟩ := hQ148
        have N148 := Fr.app N143 Nq148
        have f149 := f144.keep Kq148 (ninS ne5 (ninS ne11 nin0))
        have f150 := p143_0.keep Kq148
        have z151 : n0 ≤ T148.heap.size := Nat.le_trans z146 Kq148.1
        refine own_step (fun _ κ => st148.trans κ) ?_
        show own_Go _ _ _ _ (T148.setTop (mkF m 63 #[.val (.int p0), .val (.int p1), .val (.int p2), .val (.int p3), .val (.int p4), .val (.int p5), .val (.ref b1), .val (.ref b4), .val (.int (15 : Int32)), .val (.int (p4 &&& (3 : Int32))), .unset, .unset, .unset] []))
        refine own_step (fun _ κ => XS.iload X148.here hx rfl (hb hby at_63) rfl κ) ?_
        show own_Go _ _ _ _ (T148.setTop (mkF m 65 #[.val (.int p0), .val (.int p1), .val (.int p2), .val (.int p3), .val (.int p4), .val (.int p5), .val (.ref b1), .val (.ref b4), .val (.int (15 : Int32)), .val (.int (p4 &&& (3 : Int32))), .unset, .unset, .unset] [(.int (p4 &&& (3 : Int32)))]))
        refine own_step (fun _ κ => XS.iconst X148.here hx rfl (hb hby at_65) κ) ?_
        show own_Go _ _ _ _ (T148.setTop (mkF m 66 #[.val (.int p0), .val (.int p1), .val (.int p2), .val (.int p3), .val (.int p4), .val (.int p5), .val (.ref b1), .val (.ref b4), .val (.int (15 : Int32)), .val (.int (p4 &&& (3 : Int32))), .unset, .unset, .unset] [(.int (1 : Int32)), (.int (p4 &&& (3 : Int32)))]))
        by_cases hc152 : (1 : Int32) < (p4 &&& (3 : Int32))
        · refine own_step (fun _ κ => XS.icmpNo X148.here hx rfl (hb hby at_66) rfl (tlt hc152).2.2.2 κ) ?_
          show own_Go _ _ _ _ (T148.setTop (mkF m 69 #[.val (.int p0), .val (.int p1), .val (.int p2), .val (.int p3), .val (.int p4), .val (.int p5), .val (.ref b1), .val (.ref b4), .val (.int (15 : Int32)), .val (.int (p4 &&& (3 : Int32))), .unset, .unset, .unset] []))
          refine own_step (fun _ κ => XS.aload X148.here hx rfl (hb hby at_69) rfl rfl κ) ?_
          show own_Go _ _ _ _ (T148.setTop (mkF m 71 #[.val (.int p0), .val (.int p1), .val (.int p2), .val (.int p3), .val (.int p4), .val (.int p5), .val (.ref b1), .val (.ref b4), .val (.int (15 : Int32)), .val (.int (p4 &&& (3 : Int32))), .unset, .unset, .unset] [(.ref b4)]))
          refine own_step (fun _ κ => XS.iloadN X148.here hx rfl (hb hby at_71) rfl κ) ?_
          show own_Go _ _ _ _ (T148.setTop (mkF m 72 #[.val (.int p0), .val (.int p1), .val (.int p2), .val (.int p3), .val (.int p4), .val (.int p5), .val (.ref b1), .val (.ref b4), .val (.int (15 : Int32)), .val (.int (p4 &&& (3 : Int32))), .unset, .unset, .unset] [(.int p2), (.ref b4)]))
          by_cases hc153 : (own_mx (16 : Int32) (p0 &&& (31 : Int32))) < (((15 : Int32) + (1 : Int32)) + (1 : Int32))
          · show own_Go _ _ _ _ (T148.setTop (mkF m 72 #[.val (.int p0), .val (.int p1), .val (.int p2), .val (.int p3), .val (.int p4), .val (.int p5), .val (.ref b1), .val (.ref b4), .val (.int (15 : Int32)), .val (.int (p4 &&& (3 : Int32))), .unset, .unset, .unset] [(.int p2), (.ref b4)]))
            obtain ⟨cq154, kq154, q154a, q154b, q154c⟩ := isOf hZ rfl p148_0
            obtain ⟨vr154, _, ⟨T154, L154, k154, n154⟩, -, X154, ⟨Lc154, hQ154, l154, y154, z154⟩, st154⟩ := X148.virtualBack hx (y := (⟨"com/example/lens_on_archives/lensonarchives/Bytes", "write", "(I)V"⟩ : MethodName)) (z := (⟨"com/example/lens_on_archives/lensonarchives/Bytes", "write", "(I)V"⟩ : MethodName)) hown (mvT hZ (hw _ (List.mem_of_getElem? (i := 48) rfl))) (mvT hZ (hw _ (List.mem_of_getElem? (i := 49) rfl))) (notFace_of_selects (args := #[]) (mvT hZ (hw _ (List.mem_of_getElem? (i := 51) rfl)))) (mvT hZ (hw _ (List.mem_of_getElem? (i := 51) rfl))) (mvT hZ (hw _ (List.mem_of_getElem? (i := 50) rfl))) (by decide) (backOf (W := 0) (rm8 l Z a0 hw [] b4 p2 b10 (own_mx (16 : Int32) (p0 &&& (31 : Int32))) (own_upd own_zero (15 : Int32).toNatClampNeg (p1.toInt8.toInt32).toInt8.toInt32) ((15 : Int32) + (1 : Int32)) T148.heap n0 z151 p148_0 p148_1 p148_2 p148_3 ge6 hc153 (own_le17 hN.1 (by decide : 0 ≤ (((15 : Int32) + (1 : Int32)) : Int32).toInt ∧ (((15 : Int32) + (1 : Int32)) : Int32).toInt ≤ 17) hc153) (by decide)) hZ (hw _ (List.mem_of_getElem? (i := 52) rfl)) (hw _ (List.mem_of_getElem? (i := 3) rfl)) (by decide) (by decide)) q154a q154c (g := (mkF m 72 #[.val (.int p0), .val (.int p1), .val (.int p2), .val (.int p3), .val (.int p4), .val (.int p5), .val (.ref b1), .val (.ref b4), .val (.int (15 : Int32)), .val (.int (p4 &&& (3 : Int32))), .unset, .unset, .unset] [(.int p2), (.ref b4)])) rfl (by rw [hml]; rfl) (Steps.refl _) (argsL := [(.int p2)]) (rest := []) (lenOf pd_2 rfl) rfl (by show 2 * 0 + _ ≤ _; exact Nat.le_of_eq rfl) (hb hby at_72) (fun _ _ => ⟨rfl, rfl, (by decide : 3 + 1 ≤ _), (by decide : 48 + 34 ≤ _)⟩)
            dsimp only [Pt.U, Pt.locs, Pt.cells, Pt.slots] at X154 l154 y154 z154 st154 hQ154
            subst l154 y154 z154
            obtain ⟨r155, rfl, Nq154, Kq154, p154_0, p154_1, p154_2, p154_3, p154_4⟩ := hQ154
            have N154 := Fr.app N148 Nq154
            have ne156 : b1 ≠ r155 := Nat.ne_of_lt (Nat.lt_of_lt_of_le f149.lt p154_0)
            have ne157 : b4 ≠ r155 := Nat.ne_of_lt (Nat.lt_of_lt_of_le p148_0.lt p154_0)
            have ne158 : b10 ≠ r155 := Nat.ne_of_lt (Nat.lt_of_lt_of_le p148_3.lt p154_0)
            have ge159 : n0 ≤ r155 := Nat.le_trans z151 p154_0
            have f160 := f149.keep Kq154 (ninS ne5 nin0)
            have f161 := p148_0.keep Kq154
            have f162 := p148_3.keep Kq154 (ninS (Ne.symm ne12) nin0)
            have z163 : n0 ≤ T154.heap.size := Nat.le_trans z151 Kq154.1
            refine own_step (fun _ κ => st154.trans κ) ?_
            show own_Go _ _ _ _ (T154.setTop (mkF m 75 #[.val (.int p0), .val (.int p1), .val (.int p2), .val (.int p3), .val (.int p4), .val (.int p5), .val (.ref b1), .val (.ref b4), .val (.int (15 : Int32)), .val (.int (p4 &&& (3 : Int32))), .unset, .unset, .unset] []))
            refine own_step (fun _ κ => XS.iload X154.here hx rfl (hb hby at_75) rfl κ) ?_
            show own_Go _ _ _ _ (T154.setTop (mkF m 77 #[.val (.int p0), .val (.int p1), .val (.int p2), .val (.int p3), .val (.int p4), .val (.int p5), .val (.ref b1), .val (.ref b4), .val (.int (15 : Int32)), .val (.int (p4 &&& (3 : Int32))), .unset, .unset, .unset] [(.int (p4 &&& (3 : Int32)))]))
            refine own_step (fun _ κ => XS.iconst X154.here hx rfl (hb hby at_77) κ) ?_
            show own_Go _ _ _ _ (T154.setTop (mkF m 78 #[.val (.int p0), .val (.int p1), .val (.int p2), .val (.int p3), .val (.int p4), .val (.int p5), .val (.ref b1), .val (.ref b4), .val (.int (15 : Int32)), .val (.int (p4 &&& (3 : Int32))), .unset, .unset, .unset] [(.int (2 : Int32)), (.int (p4 &&& (3 : Int32)))]))
            by_cases hc164 : (2 : Int32) < (p4 &&& (3 : Int32))
            · refine own_step (fun _ κ => XS.icmpNo X154.here hx rfl (hb hby at_78) rfl (tlt hc164).2.2.2 κ) ?_
              show own_Go _ _ _ _ (T154.setTop (mkF m 81 #[.val (.int p0), .val (.int p1), .val (.int p2), .val (.int p3), .val (.int p4), .val (.int p5), .val (.ref b1), .val (.ref b4), .val (.int (15 : Int32)), .val (.int (p4 &&& (3 : Int32))), .unset, .unset, .unset] []))
              refine own_step (fun _ κ => XS.aload X154.here hx rfl (hb hby at_81) rfl rfl κ) ?_
              show own_Go _ _ _ _ (T154.setTop (mkF m 83 #[.val (.int p0), .val (.int p1), .val (.int p2), .val (.int p3), .val (.int p4), .val (.int p5), .val (.ref b1), .val (.ref b4), .val (.int (15 : Int32)), .val (.int (p4 &&& (3 : Int32))), .unset, .unset, .unset] [(.ref b4)]))
              refine own_step (fun _ κ => XS.iloadN X154.here hx rfl (hb hby at_83) rfl κ) ?_
              show own_Go _ _ _ _ (T154.setTop (mkF m 84 #[.val (.int p0), .val (.int p1), .val (.int p2), .val (.int p3), .val (.int p4), .val (.int p5), .val (.ref b1), .val (.ref b4), .val (.int (15 : Int32)), .val (.int (p4 &&& (3 : Int32))), .unset, .unset, .unset] [(.int p3), (.ref b4)]))
              obtain ⟨cq165, kq165, q165a, q165b, q165c⟩ := isOf hZ rfl p154_1
              obtain ⟨vr165, _, ⟨T165, L165, k165, n165⟩, -, X165, ⟨Lc165, hQ165, l165, y165, z165⟩, st165⟩ := X154.virtualBack hx (y := (⟨"com/example/lens_on_archives/lensonarchives/Bytes", "write", "(I)V"⟩ : MethodName)) (z := (⟨"com/example/lens_on_archives/lensonarchives/Bytes", "write", "(I)V"⟩ : MethodName)) hown (mvT hZ (hw _ (List.mem_of_getElem? (i := 48) rfl))) (mvT hZ (hw _ (List.mem_of_getElem? (i := 49) rfl))) (notFace_of_selects (args := #[]) (mvT hZ (hw _ (List.mem_of_getElem? (i := 51) rfl)))) (mvT hZ (hw _ (List.mem_of_getElem? (i := 51) rfl))) (mvT hZ (hw _ (List.mem_of_getElem? (i := 50) rfl))) (by decide) (backOf (W := 0) (rm7 l Z a0 hw [] b4 p3 r155 (own_mx ((2 : Int32) * (own_mx (16 : Int32) (p0 &&& (31 : Int32)))) (((15 : Int32) + (1 : Int32)) + (1 : Int32))) (own_upd (own_cut (own_upd own_zero (15 : Int32).toNatClampNeg (p1.toInt8.toInt32).toInt8.toInt32) (own_mx (16 : Int32) (p0 &&& (31 : Int32)))) ((15 : Int32) + (1 : Int32)).toNatClampNeg (p2.toInt8.toInt32).toInt8.toInt32) (((15 : Int32) + (1 : Int32)) + (1 : Int32)) T154.heap n0 z163 p154_1 p154_2 p154_3 p154_4 ge6 ge159 ne157 (own_ng (Int.le_trans (by decide : ((((15 : Int32) + (1 : Int32)) + (1 : Int32)) + (1 : Int32)).toInt ≤ 32) (own_grow (t := (((15 : Int32) + (1 : Int32)) + (1 : Int32))) (own_le17 hN.1 (by decide) hc153) (by decide)).1)) (by decide)) hZ (hw _ (List.mem_of_getElem? (i := 52) rfl)) (hw _ (List.mem_of_getElem? (i := 3) rfl)) (by decide) (by decide)) q165a q165c (g := (mkF m 84 #[.val (.int p0), .val (.int p1), .val (.int p2), .val (.int p3), .val (.int p4), .val (.int p5), .val (.ref b1), .val (.ref b4), .val (.int (15 : Int32)), .val (.int (p4 &&& (3 : Int32))), .unset, .unset, .unset] [(.int p3), (.ref b4)])) rfl (by rw [hml]; rfl) (Steps.refl _) (argsL := [(.int p3)]) (rest := []) (lenOf pd_2 rfl) rfl (by show 2 * 0 + _ ≤ _; exact Nat.le_of_eq rfl) (hb hby at_84) (fun _ _ => ⟨rfl, rfl, (by decide : 4 + 0 ≤ _), (by decide : 82 + 0 ≤ _)⟩)
              dsimp only [Pt.U, Pt.locs, Pt.cells, Pt.slots] at X165 l165 y165 z165 st165 hQ165
              subst l165 y165 z165
              obtain ⟨rfl, Nq165, Kq165, p165_0, p165_1, p165_2, p165_3⟩ := hQ165
              have N165 := Fr.app N154 Nq165
              have f166 := f160.keep Kq165 (ninS ne5 (ninS ne156 nin0))
              have f167 := p154_1.keep Kq165
              have f168 := f162.keep Kq165 (ninS (Ne.symm ne12) (ninS ne158 nin0))
              have z169 : n0 ≤ T165.heap.size := Nat.le_trans z163 Kq165.1
              refine own_step (fun _ κ => st165.trans κ) ?_
              show own_Go _ _ _ _ (T165.setTop (mkF m 87 #[.val (.int p0), .val (.int p1), .val (.int p2), .val (.int p3), .val (.int p4), .val (.int p5), .val (.ref b1), .val (.ref b4), .val (.int (15 : Int32)), .val (.int (p4 &&& (3 : Int32))), .unset, .unset, .unset] []))
              refine own_step (fun _ κ => XS.iload X165.here hx rfl (hb hby at_87) rfl κ) ?_
              show own_Go _ _ _ _ (T165.setTop (mkF m 89 #[.val (.int p0), .val (.int p1), .val (.int p2), .val (.int p3), .val (.int p4), .val (.int p5), .val (.ref b1), .val (.ref b4), .val (.int (15 : Int32)), .val (.int (p4 &&& (3 : Int32))), .unset, .unset, .unset] [(.int (15 : Int32))]))
              refine own_step (fun _ κ => XS.iload X165.here hx rfl (hb hby at_89) rfl κ) ?_
              show own_Go _ _ _ _ (T165.setTop (mkF m 91 #[.val (.int p0), .val (.int p1), .val (.int p2), .val (.int p3), .val (.int p4), .val (.int p5), .val (.ref b1), .val (.ref b4), .val (.int (15 : Int32)), .val (.int (p4 &&& (3 : Int32))), .unset, .unset, .unset] [(.int (p4 &&& (3 : Int32))), (.int (15 : Int32))]))
              refine own_step (fun _ κ => XS.iadd X165.here hx rfl (hb hby at_91) rfl κ) ?_
              show own_Go _ _ _ _ (T165.setTop (mkF m 92 #[.val (.int p0), .val (.int p1), .val (.int p2), .val (.int p3), .val (.int p4), .val (.int p5), .val (.ref b1), .val (.ref b4), .val (.int (15 : Int32)), .val (.int (p4 &&& (3 : Int32))), .unset, .unset, .unset] [(.int ((15 : Int32) + (p4 &&& (3 : Int32))))]))
              refine own_step (fun _ κ => XS.istore X165.here hx rfl (hb hby at_92) rfl (l' := #[.val (.int p0), .val (.int p1), .val (.int p2), .val (.int p3), .val (.int p4), .val (.int p5), .val (.ref b1), .val (.ref b4), .val (.int (15 : Int32)), .val (.int (p4 &&& (3 : Int32))), .val (.int ((15 : Int32) + (p4 &&& (3 : Int32)))), .unset, .unset]) rfl κ) ?_
              show own_Go _ _ _ _ (T165.setTop (mkF m 94 #[.val (.int p0), .val (.int p1), .val (.int p2), .val (.int p3), .val (.int p4), .val (.int p5), .val (.ref b1), .val (.ref b4), .val (.int (15 : Int32)), .val (.int (p4 &&& (3 : Int32))), .val (.int ((15 : Int32) + (p4 &&& (3 : Int32)))), .unset, .unset] []))
              have hcnt : (p4 &&& (3 : Int32)) = (3 : Int32) := own_cnt3 (own_m3 p4).2 hc164
              have hlen : ((((15 : Int32) + (1 : Int32)) + (1 : Int32)) + (1 : Int32)) = ((15 : Int32) + (p4 &&& (3 : Int32))) := by rw [hcnt] <;> decide
              have hzz : (((15 : Int32) + (p4 &&& (3 : Int32)))).toInt = 18 := by rw [← hlen]; decide
              have hzn : ¬ (own_mx ((2 : Int32) * (own_mx (16 : Int32) (p0 &&& (31 : Int32)))) (((15 : Int32) + (1 : Int32)) + (1 : Int32))) < ((15 : Int32) + (p4 &&& (3 : Int32))) := by
                have hlow := (own_grow (t := (((15 : Int32) + (1 : Int32)) + (1 : Int32))) (own_le17 hN.1 (by decide) hc153) (by decide)).1
                rw [Int32.lt_iff_toInt_lt, hzz]
                omega
              have hzl : ((15 : Int32) + (p4 &&& (3 : Int32))) = (18 : Int32) := Int32.toInt_inj.mp (hzz.trans (by decide))
              have hG : own_Good (15 : Int32) p1 p2 p3 ((15 : Int32) + (p4 &&& (3 : Int32))) (own_upd (own_upd (own_cut (own_upd own_zero (15 : Int32).toNatClampNeg (p1.toInt8.toInt32).toInt8.toInt32) (own_mx (16 : Int32) (p0 &&& (31 : Int32)))) ((15 : Int32) + (1 : Int32)).toNatClampNeg (p2.toInt8.toInt32).toInt8.toInt32) (((15 : Int32) + (1 : Int32)) + (1 : Int32)).toNatClampNeg (p3.toInt8.toInt32).toInt8.toInt32) := by rw [hzl]; exact own_hG_4 _ p1 p2 p3 hN.1
              have Fz : Fld Z T165.heap b4 "com/example/lens_on_archives/lensonarchives/Bytes" "size" "I" (.int ((15 : Int32) + (p4 &&& (3 : Int32)))) := by rw [← hlen]; exact p165_2
              exact J (T165, _, r155, (own_mx ((2 : Int32) * (own_mx (16 : Int32) (p0 &&& (31 : Int32)))) (((15 : Int32) + (1 : Int32)) + (1 : Int32))), (own_upd (own_upd (own_cut (own_upd own_zero (15 : Int32).toNatClampNeg (p1.toInt8.toInt32).toInt8.toInt32) (own_mx (16 : Int32) (p0 &&& (31 : Int32)))) ((15 : Int32) + (1 : Int32)).toNatClampNeg (p2.toInt8.toInt32).toInt8.toInt32) (((15 : Int32) + (1 : Int32)) + (1 : Int32)).toNatClampNeg (p3.toInt8.toInt32).toInt8.toInt32), (15 : Int32), (p4 &&& (3 : Int32)), ((15 : Int32) + (p4 &&& (3 : Int32)))) ⟨X165.more (by decide) (by decide), N165, z169, p165_0, p165_1, Fz, p165_3, (by show 0 ≤ (((15 : Int32) + (p4 &&& (3 : Int32)))).toInt ∧ (((15 : Int32) + (p4 &&& (3 : Int32)))).toInt ≤ 18; rw [hzz]; decide), hzn, hG, (Ne.symm ne157)⟩
            · refine own_step (fun _ κ => XS.icmpYes X154.here hx rfl (pc0 := 78) (pc' := 87) rfl (hb hby at_78) rfl (flt hc164).2.2.2 (by decide) (by decide) κ) ?_
              show own_Go _ _ _ _ (T154.setTop (mkF m 87 #[.val (.int p0), .val (.int p1), .val (.int p2), .val (.int p3), .val (.int p4), .val (.int p5), .val (.ref b1), .val (.ref b4), .val (.int (15 : Int32)), .val (.int (p4 &&& (3 : Int32))), .unset, .unset, .unset] []))
              refine own_step (fun _ κ => XS.iload X154.here hx rfl (hb hby at_87) rfl κ) ?_
              show own_Go _ _ _ _ (T154.setTop (mkF m 89 #[.val (.int p0), .val (.int p1), .val (.int p2), .val (.int p3), .val (.int p4), .val (.int p5), .val (.ref b1), .val (.ref b4), .val (.int (15 : Int32)), .val (.int (p4 &&& (3 : Int32))), .unset, .unset, .unset] [(.int (15 : Int32))]))
              refine own_step (fun _ κ => XS.iload X154.here hx rfl (hb hby at_89) rfl κ) ?_
              show own_Go _ _ _ _ (T154.setTop (mkF m 91 #[.val (.int p0), .val (.int p1), .val (.int p2), .val (.int p3), .val (.int p4), .val (.int p5), .val (.ref b1), .val (.ref b4), .val (.int (15 : Int32)), .val (.int (p4 &&& (3 : Int32))), .unset, .unset, .unset] [(.int (p4 &&& (3 : Int32))), (.int (15 : Int32))]))
              refine own_step (fun _ κ => XS.iadd X154.here hx rfl (hb hby at_91) rfl κ) ?_
              show own_Go _ _ _ _ (T154.setTop (mkF m 92 #[.val (.int p0), .val (.int p1), .val (.int p2), .val (.int p3), .val (.int p4), .val (.int p5), .val (.ref b1), .val (.ref b4), .val (.int (15 : Int32)), .val (.int (p4 &&& (3 : Int32))), .unset, .unset, .unset] [(.int ((15 : Int32) + (p4 &&& (3 : Int32))))]))
              refine own_step (fun _ κ => XS.istore X154.here hx rfl (hb hby at_92) rfl (l' := #[.val (.int p0), .val (.int p1), .val (.int p2), .val (.int p3), .val (.int p4), .val (.int p5), .val (.ref b1), .val (.ref b4), .val (.int (15 : Int32)), .val (.int (p4 &&& (3 : Int32))), .val (.int ((15 : Int32) + (p4 &&& (3 : Int32)))), .unset, .unset]) rfl κ) ?_
              show own_Go _ _ _ _ (T154.setTop (mkF m 94 #[.val (.int p0), .val (.int p1), .val (.int p2), .val (.int p3), .val (.int p4), .val (.int p5), .val (.ref b1), .val (.ref b4), .val (.int (15 : Int32)), .val (.int (p4 &&& (3 : Int32))), .val (.int ((15 : Int32) + (p4 &&& (3 : Int32)))), .unset, .unset] []))
              have hcnt : (p4 &&& (3 : Int32)) = (2 : Int32) := own_cnt hc152 hc164 (by decide)
              have hlen : (((15 : Int32) + (1 : Int32)) + (1 : Int32)) = ((15 : Int32) + (p4 &&& (3 : Int32))) := by rw [hcnt] <;> decide
              have hzz : (((15 : Int32) + (p4 &&& (3 : Int32)))).toInt = 17 := by rw [← hlen]; decide
              have hzn : ¬ (own_mx ((2 : Int32) * (own_mx (16 : Int32) (p0 &&& (31 : Int32)))) (((15 : Int32) + (1 : Int32)) + (1 : Int32))) < ((15 : Int32) + (p4 &&& (3 : Int32))) := by
                have hlow := (own_grow (t := (((15 : Int32) + (1 : Int32)) + (1 : Int32))) (own_le17 hN.1 (by decide) hc153) (by decide)).1
                rw [Int32.lt_iff_toInt_lt, hzz]
                omega
              have hzl : ((15 : Int32) + (p4 &&& (3 : Int32))) = (17 : Int32) := Int32.toInt_inj.mp (hzz.trans (by decide))
              have hG : own_Good (15 : Int32) p1 p2 p3 ((15 : Int32) + (p4 &&& (3 : Int32))) (own_upd (own_cut (own_upd own_zero (15 : Int32).toNatClampNeg (p1.toInt8.toInt32).toInt8.toInt32) (own_mx (16 : Int32) (p0 &&& (31 : Int32)))) ((15 : Int32) + (1 : Int32)).toNatClampNeg (p2.toInt8.toInt32).toInt8.toInt32) := by rw [hzl]; exact own_hG_5 _ p1 p2 p3 hN.1
              have Fz : Fld Z T154.heap b4 "com/example/lens_on_archives/lensonarchives/Bytes" "size" "I" (.int ((15 : Int32) + (p4 &&& (3 : Int32)))) := by rw [← hlen]; exact p154_3
              exact J (T154, _, r155, (own_mx ((2 : Int32) * (own_mx (16 : Int32) (p0 &&& (31 : Int32)))) (((15 : Int32) + (1 : Int32)) + (1 : Int32))), (own_upd (own_cut (own_upd own_zero (15 : Int32).toNatClampNeg (p1.toInt8.toInt32).toInt8.toInt32) (own_mx (16 : Int32) (p0 &&& (31 : Int32)))) ((15 : Int32) + (1 : Int32)).toNatClampNeg (p2.toInt8.toInt32).toInt8.toInt32), (15 : Int32), (p4 &&& (3 : Int32)), ((15 : Int32) + (p4 &&& (3 : Int32)))) ⟨X154.more (by decide) (by decide), N154, z163, p154_1, p154_2, Fz, p154_4, (by show 0 ≤ (((15 : Int32) + (p4 &&& (3 : Int32)))).toInt ∧ (((15 : Int32) + (p4 &&& (3 : Int32)))).toInt ≤ 18; rw [hzz]; decide), hzn, hG, (Ne.symm ne157)⟩
          · show own_Go _ _ _ _ (T148.setTop (mkF m 72 #[.val (.int p0), .val (.int p1), .val (.int p2), .val (.int p3), .val (.int p4), .val (.int p5), .val (.ref b1), .val (.ref b4), .val (.int (15 : Int32)), .val (.int (p4 &&& (3 : Int32))), .unset, .unset, .unset] [(.int p2), (.ref b4)]))
            obtain ⟨cq170, kq170, q170a, q170b, q170c⟩ := isOf hZ rfl p148_0
            obtain ⟨vr170, _, ⟨T170, L170, k170, n170⟩, -, X170, ⟨Lc170, hQ170, l170, y170, z170⟩, st170⟩ := X148.virtualBack hx (y := (⟨"com/example/lens_on_archives/lensonarchives/Bytes", "write", "(I)V"⟩ : MethodName)) (z := (⟨"com/example/lens_on_archives/lensonarchives/Bytes", "write", "(I)V"⟩ : MethodName)) hown (mvT hZ (hw _ (List.mem_of_getElem? (i := 48) rfl))) (mvT hZ (hw _ (List.mem_of_getElem? (i := 49) rfl))) (notFace_of_selects (args := #[]) (mvT hZ (hw _ (List.mem_of_getElem? (i := 51) rfl)))) (mvT hZ (hw _ (List.mem_of_getElem? (i := 51) rfl))) (mvT hZ (hw _ (List.mem_of_getElem? (i := 50) rfl))) (by decide) (backOf (W := 0) (rm7 l Z a0 hw [] b4 p2 b10 (own_mx (16 : Int32) (p0 &&& (31 : Int32))) (own_upd own_zero (15 : Int32).toNatClampNeg (p1.toInt8.toInt32).toInt8.toInt32) ((15 : Int32) + (1 : Int32)) T148.heap n0 z151 p148_0 p148_1 p148_2 p148_3 ge6 ge13 ne12 hc153 (by decide)) hZ (hw _ (List.mem_of_getElem? (i := 52) rfl)) (hw _ (List.mem_of_getElem? (i := 3) rfl)) (by decide) (by decide)) q170a q170c (g := (mkF m 72 #[.val (.int p0), .val (.int p1), .val (.int p2), .val (.int p3), .val (.int p4), .val (.int p5), .val (.ref b1), .val (.ref b4), .val (.int (15 : Int32)), .val (.int (p4 &&& (3 : Int32))), .unset, .unset, .unset] [(.int p2), (.ref b4)])) rfl (by rw [hml]; rfl) (Steps.refl _) (argsL := [(.int p2)]) (rest := []) (lenOf pd_2 rfl) rfl (by show 2 * 0 + _ ≤ _; exact Nat.le_of_eq rfl) (hb hby at_72) (fun _ _ => ⟨rfl, rfl, (by decide : 3 + 0 ≤ _), (by decide : 48 + 0 ≤ _)⟩)
            dsimp only [Pt.U, Pt.locs, Pt.cells, Pt.slots] at X170 l170 y170 z170 st170 hQ170
            subst l170 y170 z170
            obtain ⟨rfl, Nq170, Kq170, p170_0, p170_1, p170_2, p170_3⟩ := hQ170
            have N170 := Fr.app N148 Nq170
            have f171 := f149.keep Kq170 (ninS ne5 (ninS ne11 nin0))
            have f172 := p148_0.keep Kq170
            have z173 : n0 ≤ T170.heap.size := Nat.le_trans z151 Kq170.1
            refine own_step (fun _ κ => st170.trans κ) ?_
            show own_Go _ _ _ _ (T170.setTop (mkF m 75 #[.val (.int p0), .val (.int p1), .val (.int p2), .val (.int p3), .val (.int p4), .val (.int p5), .val (.ref b1), .val (.ref b4), .val (.int (15 : Int32)), .val (.int (p4 &&& (3 : Int32))), .unset, .unset, .unset] []))
            refine own_step (fun _ κ => XS.iload X170.here hx rfl (hb hby at_75) rfl κ) ?_
            show own_Go _ _ _ _ (T170.setTop (mkF m 77 #[.val (.int p0), .val (.int p1), .val (.int p2), .val (.int p3), .val (.int p4), .val (.int p5), .val (.ref b1), .val (.ref b4), .val (.int (15 : Int32)), .val (.int (p4 &&& (3 : Int32))), .unset, .unset, .unset] [(.int (p4 &&& (3 : Int32)))]))
            refine own_step (fun _ κ => XS.iconst X170.here hx rfl (hb hby at_77) κ) ?_
            show own_Go _ _ _ _ (T170.setTop (mkF m 78 #[.val (.int p0), .val (.int p1), .val (.int p2), .val (.int p3), .val (.int p4), .val (.int p5), .val (.ref b1), .val (.ref b4), .val (.int (15 : Int32)), .val (.int (p4 &&& (3 : Int32))), .unset, .unset, .unset] [(.int (2 : Int32)), (.int (p4 &&& (3 : Int32)))]))
            by_cases hc174 : (2 : Int32) < (p4 &&& (3 : Int32))
            · refine own_step (fun _ κ => XS.icmpNo X170.here hx rfl (hb hby at_78) rfl (tlt hc174).2.2.2 κ) ?_
              show own_Go _ _ _ _ (T170.setTop (mkF m 81 #[.val (.int p0), .val (.int p1), .val (.int p2), .val (.int p3), .val (.int p4), .val (.int p5), .val (.ref b1), .val (.ref b4), .val (.int (15 : Int32)), .val (.int (p4 &&& (3 : Int32))), .unset, .unset, .unset] []))
              refine own_step (fun _ κ => XS.aload X170.here hx rfl (hb hby at_81) rfl rfl κ) ?_
              show own_Go _ _ _ _ (T170.setTop (mkF m 83 #[.val (.int p0), .val (.int p1), .val (.int p2), .val (.int p3), .val (.int p4), .val (.int p5), .val (.ref b1), .val (.ref b4), .val (.int (15 : Int32)), .val (.int (p4 &&& (3 : Int32))), .unset, .unset, .unset] [(.ref b4)]))
              refine own_step (fun _ κ => XS.iloadN X170.here hx rfl (hb hby at_83) rfl κ) ?_
              show own_Go _ _ _ _ (T170.setTop (mkF m 84 #[.val (.int p0), .val (.int p1), .val (.int p2), .val (.int p3), .val (.int p4), .val (.int p5), .val (.ref b1), .val (.ref b4), .val (.int (15 : Int32)), .val (.int (p4 &&& (3 : Int32))), .unset, .unset, .unset] [(.int p3), (.ref b4)]))
              by_cases hc175 : (own_mx (16 : Int32) (p0 &&& (31 : Int32))) < ((((15 : Int32) + (1 : Int32)) + (1 : Int32)) + (1 : Int32))
              · show own_Go _ _ _ _ (T170.setTop (mkF m 84 #[.val (.int p0), .val (.int p1), .val (.int p2), .val (.int p3), .val (.int p4), .val (.int p5), .val (.ref b1), .val (.ref b4), .val (.int (15 : Int32)), .val (.int (p4 &&& (3 : Int32))), .unset, .unset, .unset] [(.int p3), (.ref b4)]))
                obtain ⟨cq176, kq176, q176a, q176b, q176c⟩ := isOf hZ rfl p170_0
                obtain ⟨vr176, _, ⟨T176, L176, k176, n176⟩, -, X176, ⟨Lc176, hQ176, l176, y176, z176⟩, st176⟩ := X170.virtualBack hx (y := (⟨"com/example/lens_on_archives/lensonarchives/Bytes", "write", "(I)V"⟩ : MethodName)) (z := (⟨"com/example/lens_on_archives/lensonarchives/Bytes", "write", "(I)V"⟩ : MethodName)) hown (mvT hZ (hw _ (List.mem_of_getElem? (i := 48) rfl))) (mvT hZ (hw _ (List.mem_of_getElem? (i := 49) rfl))) (notFace_of_selects (args := #[]) (mvT hZ (hw _ (List.mem_of_getElem? (i := 51) rfl)))) (mvT hZ (hw _ (List.mem_of_getElem? (i := 51) rfl))) (mvT hZ (hw _ (List.mem_of_getElem? (i := 50) rfl))) (by decide) (backOf (W := 0) (rm8 l Z a0 hw [] b4 p3 b10 (own_mx (16 : Int32) (p0 &&& (31 : Int32))) (own_upd (own_upd own_zero (15 : Int32).toNatClampNeg (p1.toInt8.toInt32).toInt8.toInt32) ((15 : Int32) + (1 : Int32)).toNatClampNeg (p2.toInt8.toInt32).toInt8.toInt32) (((15 : Int32) + (1 : Int32)) + (1 : Int32)) T170.heap n0 z173 p170_0 p170_1 p170_2 p170_3 ge6 hc175 (own_le17 hN.1 (by decide : 0 ≤ ((((15 : Int32) + (1 : Int32)) + (1 : Int32)) : Int32).toInt ∧ ((((15 : Int32) + (1 : Int32)) + (1 : Int32)) : Int32).toInt ≤ 17) hc175) (by decide)) hZ (hw _ (List.mem_of_getElem? (i := 52) rfl)) (hw _ (List.mem_of_getElem? (i := 3) rfl)) (by decide) (by decide)) q176a q176c (g := (mkF m 84 #[.val (.int p0), .val (.int p1), .val (.int p2), .val (.int p3), .val (.int p4), .val (.int p5), .val (.ref b1), .val (.ref b4), .val (.int (15 : Int32)), .val (.int (p4 &&& (3 : Int32))), .unset, .unset, .unset] [(.int p3), (.ref b4)])) rfl (by rw [hml]; rfl) (Steps.refl _) (argsL := [(.int p3)]) (rest := []) (lenOf pd_2 rfl) rfl (by show 2 * 0 + _ ≤ _; exact Nat.le_of_eq rfl) (hb hby at_84) (fun _ _ => ⟨rfl, rfl, (by decide : 3 + 1 ≤ _), (by decide : 48 + 34 ≤ _)⟩)
                dsimp only [Pt.U, Pt.locs, Pt.cells, Pt.slots] at X176 l176 y176 z176 st176 hQ176
                subst l176 y176 z176
                obtain ⟨r177, rfl, Nq176, Kq176, p176_0, p176_1, p176_2, p176_3, p176_4⟩ := hQ176
                have N176 := Fr.app N170 Nq176
                have ne178 : b1 ≠ r177 := Nat.ne_of_lt (Nat.lt_of_lt_of_le f171.lt p176_0)
                have ne179 : b4 ≠ r177 := Nat.ne_of_lt (Nat.lt_of_lt_of_le p170_0.lt p176_0)
                have ne180 : b10 ≠ r177 := Nat.ne_of_lt (Nat.lt_of_lt_of_le p170_3.lt p176_0)
                have ge181 : n0 ≤ r177 := Nat.le_trans z173 p176_0
                have f182 := f171.keep Kq176 (ninS ne5 nin0)
                have f183 := p170_0.keep Kq176
                have f184 := p170_3.keep Kq176 (ninS (Ne.symm ne12) nin0)
                have z185 : n0 ≤ T176.heap.size := Nat.le_trans z173 Kq176.1
                refine own_step (fun _ κ => st176.trans κ) ?_
                show own_Go _ _ _ _ (T176.setTop (mkF m 87 #[.val (.int p0), .val (.int p1), .val (.int p2), .val (.int p3), .val (.int p4), .val (.int p5), .val (.ref b1), .val (.ref b4), .val (.int (15 : Int32)), .val (.int (p4 &&& (3 : Int32))), .unset, .unset, .unset] []))
                refine own_step (fun _ κ => XS.iload X176.here hx rfl (hb hby at_87) rfl κ) ?_
                show own_Go _ _ _ _ (T176.setTop (mkF m 89 #[.val (.int p0), .val (.int p1), .val (.int p2), .val (.int p3), .val (.int p4), .val (.int p5), .val (.ref b1), .val (.ref b4), .val (.int (15 : Int32)), .val (.int (p4 &&& (3 : Int32))), .unset, .unset, .unset] [(.int (15 : Int32))]))
                refine own_step (fun _ κ => XS.iload X176.here hx rfl (hb hby at_89) rfl κ) ?_
                show own_Go _ _ _ _ (T176.setTop (mkF m 91 #[.val (.int p0), .val (.int p1), .val (.int p2), .val (.int p3), .val (.int p4), .val (.int p5), .val (.ref b1), .val (.ref b4), .val (.int (15 : Int32)), .val (.int (p4 &&& (3 : Int32))), .unset, .unset, .unset] [(.int (p4 &&& (3 : Int32))), (.int (15 : Int32))]))
                refine own_step (fun _ κ => XS.iadd X176.here hx rfl (hb hby at_91) rfl κ) ?_
                show own_Go _ _ _ _ (T176.setTop (mkF m 92 #[.val (.int p0), .val (.int p1), .val (.int p2), .val (.int p3), .val (.int p4), .val (.int p5), .val (.ref b1), .val (.ref b4), .val (.int (15 : Int32)), .val (.int (p4 &&& (3 : Int32))), .unset, .unset, .unset] [(.int ((15 : Int32) + (p4 &&& (3 : Int32))))]))
                refine own_step (fun _ κ => XS.istore X176.here hx rfl (hb hby at_92) rfl (l' := #[.val (.int p0), .val (.int p1), .val (.int p2), .val (.int p3), .val (.int p4), .val (.int p5), .val (.ref b1), .val (.ref b4), .val (.int (15 : Int32)), .val (.int (p4 &&& (3 : Int32))), .val (.int ((15 : Int32) + (p4 &&& (3 : Int32)))), .unset, .unset]) rfl κ) ?_
                show own_Go _ _ _ _ (T176.setTop (mkF m 94 #[.val (.int p0), .val (.int p1), .val (.int p2), .val (.int p3), .val (.int p4), .val (.int p5), .val (.ref b1), .val (.ref b4), .val (.int (15 : Int32)), .val (.int (p4 &&& (3 : Int32))), .val (.int ((15 : Int32) + (p4 &&& (3 : Int32)))), .unset, .unset] []))
                have hcnt : (p4 &&& (3 : Int32)) = (3 : Int32) := own_cnt3 (own_m3 p4).2 hc174
                have hlen : ((((15 : Int32) + (1 : Int32)) + (1 : Int32)) + (1 : Int32)) = ((15 : Int32) + (p4 &&& (3 : Int32))) := by rw [hcnt] <;> decide
                have hzz : (((15 : Int32) + (p4 &&& (3 : Int32)))).toInt = 18 := by rw [← hlen]; decide
                have hzn : ¬ (own_mx ((2 : Int32) * (own_mx (16 : Int32) (p0 &&& (31 : Int32)))) ((((15 : Int32) + (1 : Int32)) + (1 : Int32)) + (1 : Int32))) < ((15 : Int32) + (p4 &&& (3 : Int32))) := by
                  have hlow := (own_grow (t := ((((15 : Int32) + (1 : Int32)) + (1 : Int32)) + (1 : Int32))) (own_le17 hN.1 (by decide) hc175) (by decide)).1
                  rw [Int32.lt_iff_toInt_lt, hzz]
                  omega
                have hzl : ((15 : Int32) + (p4 &&& (3 : Int32))) = (18 : Int32) := Int32.toInt_inj.mp (hzz.trans (by decide))
                have hG : own_Good (15 : Int32) p1 p2 p3 ((15 : Int32) + (p4 &&& (3 : Int32))) (own_upd (own_cut (own_upd (own_upd own_zero (15 : Int32).toNatClampNeg (p1.toInt8.toInt32).toInt8.toInt32) ((15 : Int32) + (1 : Int32)).toNatClampNeg (p2.toInt8.toInt32).toInt8.toInt32) (own_mx (16 : Int32) (p0 &&& (31 : Int32)))) (((15 : Int32) + (1 : Int32)) + (1 : Int32)).toNatClampNeg (p3.toInt8.toInt32).toInt8.toInt32) := by rw [hzl]; exact own_hG_6 _ p1 p2 p3 (by have q := hc153; rw [Int32.lt_iff_toInt_lt] at q; have : (((15 : Int32) + (1 : Int32)) + (1 : Int32)).toInt = 17 := (by decide); omega)
                have Fz : Fld Z T176.heap b4 "com/example/lens_on_archives/lensonarchives/Bytes" "size" "I" (.int ((15 : Int32) + (p4 &&& (3 : Int32)))) := by rw [← hlen]; exact p176_3
                exact J (T176, _, r177, (own_mx ((2 : Int32) * (own_mx (16 : Int32) (p0 &&& (31 : Int32)))) ((((15 : Int32) + (1 : Int32)) + (1 : Int32)) + (1 : Int32))), (own_upd (own_cut (own_upd (own_upd own_zero (15 : Int32).toNatClampNeg (p1.toInt8.toInt32).toInt8.toInt32) ((15 : Int32) + (1 : Int32)).toNatClampNeg (p2.toInt8.toInt32).toInt8.toInt32) (own_mx (16 : Int32) (p0 &&& (31 : Int32)))) (((15 : Int32) + (1 : Int32)) + (1 : Int32)).toNatClampNeg (p3.toInt8.toInt32).toInt8.toInt32), (15 : Int32), (p4 &&& (3 : Int32)), ((15 : Int32) + (p4 &&& (3 : Int32)))) ⟨X176.more (by decide) (by decide), N176, z185, p176_1, p176_2, Fz, p176_4, (by show 0 ≤ (((15 : Int32) + (p4 &&& (3 : Int32)))).toInt ∧ (((15 : Int32) + (p4 &&& (3 : Int32)))).toInt ≤ 18; rw [hzz]; decide), hzn, hG, (Ne.symm ne179)⟩
              · show own_Go _ _ _ _ (T170.setTop (mkF m 84 #[.val (.int p0), .val (.int p1), .val (.int p2), .val (.int p3), .val (.int p4), .val (.int p5), .val (.ref b1), .val (.ref b4), .val (.int (15 : Int32)), .val (.int (p4 &&& (3 : Int32))), .unset, .unset, .unset] [(.int p3), (.ref b4)]))
                obtain ⟨cq186, kq186, q186a, q186b, q186c⟩ := isOf hZ rfl p170_0
                obtain ⟨vr186, _, ⟨T186, L186, k186, n186⟩, -, X186, ⟨Lc186, hQ186, l186, y186, z186⟩, st186⟩ := X170.virtualBack hx (y := (⟨"com/example/lens_on_archives/lensonarchives/Bytes", "write", "(I)V"⟩ : MethodName)) (z := (⟨"com/example/lens_on_archives/lensonarchives/Bytes", "write", "(I)V"⟩ : MethodName)) hown (mvT hZ (hw _ (List.mem_of_getElem? (i := 48) rfl))) (mvT hZ (hw _ (List.mem_of_getElem? (i := 49) rfl))) (notFace_of_selects (args := #[]) (mvT hZ (hw _ (List.mem_of_getElem? (i := 51) rfl)))) (mvT hZ (hw _ (List.mem_of_getElem? (i := 51) rfl))) (mvT hZ (hw _ (List.mem_of_getElem? (i := 50) rfl))) (by decide) (backOf (W := 0) (rm7 l Z a0 hw [] b4 p3 b10 (own_mx (16 : Int32) (p0 &&& (31 : Int32))) (own_upd (own_upd own_zero (15 : Int32).toNatClampNeg (p1.toInt8.toInt32).toInt8.toInt32) ((15 : Int32) + (1 : Int32)).toNatClampNeg (p2.toInt8.toInt32).toInt8.toInt32) (((15 : Int32) + (1 : Int32)) + (1 : Int32)) T170.heap n0 z173 p170_0 p170_1 p170_2 p170_3 ge6 ge13 ne12 hc175 (by decide)) hZ (hw _ (List.mem_of_getElem? (i := 52) rfl)) (hw _ (List.mem_of_getElem? (i := 3) rfl)) (by decide) (by decide)) q186a q186c (g := (mkF m 84 #[.val (.int p0), .val (.int p1), .val (.int p2), .val (.int p3), .val (.int p4), .val (.int p5), .val (.ref b1), .val (.ref b4), .val (.int (15 : Int32)), .val (.int (p4 &&& (3 : Int32))), .unset, .unset, .unset] [(.int p3), (.ref b4)])) rfl (by rw [hml]; rfl) (Steps.refl _) (argsL := [(.int p3)]) (rest := []) (lenOf pd_2 rfl) rfl (by show 2 * 0 + _ ≤ _; exact Nat.le_of_eq rfl) (hb hby at_84) (fun _ _ => ⟨rfl, rfl, (by decide : 3 + 0 ≤ _), (by decide : 48 + 0 ≤ _)⟩)
                dsimp only [Pt.U, Pt.locs, Pt.cells, Pt.slots] at X186 l186 y186 z186 st186 hQ186
                subst l186 y186 z186
                obtain ⟨rfl, Nq186, Kq186, p186_0, p186_1, p186_2, p186_3⟩ := hQ186
                have N186 := Fr.app N170 Nq186
                have f187 := f171.keep Kq186 (ninS ne5 (ninS ne11 nin0))
                have f188 := p170_0.keep Kq186
                have z189 : n0 ≤ T186.heap.size := Nat.le_trans z173 Kq186.1
                refine own_step (fun _ κ => st186.trans κ) ?_
                show own_Go _ _ _ _ (T186.setTop (mkF m 87 #[.val (.int p0), .val (.int p1), .val (.int p2), .val (.int p3), .val (.int p4), .val (.int p5), .val (.ref b1), .val (.ref b4), .val (.int (15 : Int32)), .val (.int (p4 &&& (3 : Int32))), .unset, .unset, .unset] []))
                refine own_step (fun _ κ => XS.iload X186.here hx rfl (hb hby at_87) rfl κ) ?_
                show own_Go _ _ _ _ (T186.setTop (mkF m 89 #[.val (.int p0), .val (.int p1), .val (.int p2), .val (.int p3), .val (.int p4), .val (.int p5), .val (.ref b1), .val (.ref b4), .val (.int (15 : Int32)), .val (.int (p4 &&& (3 : Int32))), .unset, .unset, .unset] [(.int (15 : Int32))]))
                refine own_step (fun _ κ => XS.iload X186.here hx rfl (hb hby at_89) rfl κ) ?_
                show own_Go _ _ _ _ (T186.setTop (mkF m 91 #[.val (.int p0), .val (.int p1), .val (.int p2), .val (.int p3), .val (.int p4), .val (.int p5), .val (.ref b1), .val (.ref b4), .val (.int (15 : Int32)), .val (.int (p4 &&& (3 : Int32))), .unset, .unset, .unset] [(.int (p4 &&& (3 : Int32))), (.int (15 : Int32))]))
                refine own_step (fun _ κ => XS.iadd X186.here hx rfl (hb hby at_91) rfl κ) ?_
                show own_Go _ _ _ _ (T186.setTop (mkF m 92 #[.val (.int p0), .val (.int p1), .val (.int p2), .val (.int p3), .val (.int p4), .val (.int p5), .val (.ref b1), .val (.ref b4), .val (.int (15 : Int32)), .val (.int (p4 &&& (3 : Int32))), .unset, .unset, .unset] [(.int ((15 : Int32) + (p4 &&& (3 : Int32))))]))
                refine own_step (fun _ κ => XS.istore X186.here hx rfl (hb hby at_92) rfl (l' := #[.val (.int p0), .val (.int p1), .val (.int p2), .val (.int p3), .val (.int p4), .val (.int p5), .val (.ref b1), .val (.ref b4), .val (.int (15 : Int32)), .val (.int (p4 &&& (3 : Int32))), .val (.int ((15 : Int32) + (p4 &&& (3 : Int32)))), .unset, .unset]) rfl κ) ?_
                show own_Go _ _ _ _ (T186.setTop (mkF m 94 #[.val (.int p0), .val (.int p1), .val (.int p2), .val (.int p3), .val (.int p4), .val (.int p5), .val (.ref b1), .val (.ref b4), .val (.int (15 : Int32)), .val (.int (p4 &&& (3 : Int32))), .val (.int ((15 : Int32) + (p4 &&& (3 : Int32)))), .unset, .unset] []))
                have hcnt : (p4 &&& (3 : Int32)) = (3 : Int32) := own_cnt3 (own_m3 p4).2 hc174
                have hlen : ((((15 : Int32) + (1 : Int32)) + (1 : Int32)) + (1 : Int32)) = ((15 : Int32) + (p4 &&& (3 : Int32))) := by rw [hcnt] <;> decide
                have hzz : (((15 : Int32) + (p4 &&& (3 : Int32)))).toInt = 18 := by rw [← hlen]; decide
                have hzn : ¬ (own_mx (16 : Int32) (p0 &&& (31 : Int32))) < ((15 : Int32) + (p4 &&& (3 : Int32))) := by
                  have hlow := hN.1
                  have hk0 := hc153
                  rw [Int32.lt_iff_toInt_lt] at hk0
                  have ht0 : ((((15 : Int32) + (1 : Int32)) + (1 : Int32)) : Int32).toInt = 17 := by decide
                  have hk1 := hc175
                  rw [Int32.lt_iff_toInt_lt] at hk1
                  have ht1 : (((((15 : Int32) + (1 : Int32)) + (1 : Int32)) + (1 : Int32)) : Int32).toInt = 18 := by decide
                  rw [Int32.lt_iff_toInt_lt, hzz]
                  omega
                have hzl : ((15 : Int32) + (p4 &&& (3 : Int32))) = (18 : Int32) := Int32.toInt_inj.mp (hzz.trans (by decide))
                have hG : own_Good (15 : Int32) p1 p2 p3 ((15 : Int32) + (p4 &&& (3 : Int32))) (own_upd (own_upd (own_upd own_zero (15 : Int32).toNatClampNeg (p1.toInt8.toInt32).toInt8.toInt32) ((15 : Int32) + (1 : Int32)).toNatClampNeg (p2.toInt8.toInt32).toInt8.toInt32) (((15 : Int32) + (1 : Int32)) + (1 : Int32)).toNatClampNeg (p3.toInt8.toInt32).toInt8.toInt32) := by rw [hzl]; exact own_hG_7 _ p1 p2 p3 hN.1
                have Fz : Fld Z T186.heap b4 "com/example/lens_on_archives/lensonarchives/Bytes" "size" "I" (.int ((15 : Int32) + (p4 &&& (3 : Int32)))) := by rw [← hlen]; exact p186_2
                exact J (T186, _, b10, (own_mx (16 : Int32) (p0 &&& (31 : Int32))), (own_upd (own_upd (own_upd own_zero (15 : Int32).toNatClampNeg (p1.toInt8.toInt32).toInt8.toInt32) ((15 : Int32) + (1 : Int32)).toNatClampNeg (p2.toInt8.toInt32).toInt8.toInt32) (((15 : Int32) + (1 : Int32)) + (1 : Int32)).toNatClampNeg (p3.toInt8.toInt32).toInt8.toInt32), (15 : Int32), (p4 &&& (3 : Int32)), ((15 : Int32) + (p4 &&& (3 : Int32)))) ⟨X186.more (by decide) (by decide), N186, z189, p186_0, p186_1, Fz, p186_3, (by show 0 ≤ (((15 : Int32) + (p4 &&& (3 : Int32)))).toInt ∧ (((15 : Int32) + (p4 &&& (3 : Int32)))).toInt ≤ 18; rw [hzz]; decide), hzn, hG, (Ne.symm ne12)⟩
            · refine own_step (fun _ κ => XS.icmpYes X170.here hx rfl (pc0 := 78) (pc' := 87) rfl (hb hby at_78) rfl (flt hc174).2.2.2 (by decide) (by decide) κ) ?_
              show own_Go _ _ _ _ (T170.setTop (mkF m 87 #[.val (.int p0), .val (.int p1), .val (.int p2), .val (.int p3), .val (.int p4), .val (.int p5), .val (.ref b1), .val (.ref b4), .val (.int (15 : Int32)), .val (.int (p4 &&& (3 : Int32))), .unset, .unset, .unset] []))
              refine own_step (fun _ κ => XS.iload X170.here hx rfl (hb hby at_87) rfl κ) ?_
              show own_Go _ _ _ _ (T170.setTop (mkF m 89 #[.val (.int p0), .val (.int p1), .val (.int p2), .val (.int p3), .val (.int p4), .val (.int p5), .val (.ref b1), .val (.ref b4), .val (.int (15 : Int32)), .val (.int (p4 &&& (3 : Int32))), .unset, .unset, .unset] [(.int (15 : Int32))]))
              refine own_step (fun _ κ => XS.iload X170.here hx rfl (hb hby at_89) rfl κ) ?_
              show own_Go _ _ _ _ (T170.setTop (mkF m 91 #[.val (.int p0), .val (.int p1), .val (.int p2), .val (.int p3), .val (.int p4), .val (.int p5), .val (.ref b1), .val (.ref b4), .val (.int (15 : Int32)), .val (.int (p4 &&& (3 : Int32))), .unset, .unset, .unset] [(.int (p4 &&& (3 : Int32))), (.int (15 : Int32))]))
              refine own_step (fun _ κ => XS.iadd X170.here hx rfl (hb hby at_91) rfl κ) ?_
              show own_Go _ _ _ _ (T170.setTop (mkF m 92 #[.val (.int p0), .val (.int p1), .val (.int p2), .val (.int p3), .val (.int p4), .val (.int p5), .val (.ref b1), .val (.ref b4), .val (.int (15 : Int32)), .val (.int (p4 &&& (3 : Int32))), .unset, .unset, .unset] [(.int ((15 : Int32) + (p4 &&& (3 : Int32))))]))
              refine own_step (fun _ κ => XS.istore X170.here hx rfl (hb hby at_92) rfl (l' := #[.val (.int p0), .val (.int p1), .val (.int p2), .val (.int p3), .val (.int p4), .val (.int p5), .val (.ref b1), .val (.ref b4), .val (.int (15 : Int32)), .val (.int (p4 &&& (3 : Int32))), .val (.int ((15 : Int32) + (p4 &&& (3 : Int32)))), .unset, .unset]) rfl κ) ?_
              show own_Go _ _ _ _ (T170.setTop (mkF m 94 #[.val (.int p0), .val (.int p1), .val (.int p2), .val (.int p3), .val (.int p4), .val (.int p5), .val (.ref b1), .val (.ref b4), .val (.int (15 : Int32)), .val (.int (p4 &&& (3 : Int32))), .val (.int ((15 : Int32) + (p4 &&& (3 : Int32)))), .unset, .unset] []))
              have hcnt : (p4 &&& (3 : Int32)) = (2 : Int32) := own_cnt hc152 hc174 (by decide)
              have hlen : (((15 : Int32) + (1 : Int32)) + (1 : Int32)) = ((15 : Int32) + (p4 &&& (3 : Int32))) := by rw [hcnt] <;> decide
              have hzz : (((15 : Int32) + (p4 &&& (3 : Int32)))).toInt = 17 := by rw [← hlen]; decide
              have hzn : ¬ (own_mx (16 : Int32) (p0 &&& (31 : Int32))) < ((15 : Int32) + (p4 &&& (3 : Int32))) := by
                have hlow := hN.1
                have hk0 := hc153
                rw [Int32.lt_iff_toInt_lt] at hk0
                have ht0 : ((((15 : Int32) + (1 : Int32)) + (1 : Int32)) : Int32).toInt = 17 := by decide
                rw [Int32.lt_iff_toInt_lt, hzz]
                omega
              have hzl : ((15 : Int32) + (p4 &&& (3 : Int32))) = (17 : Int32) := Int32.toInt_inj.mp (hzz.trans (by decide))
              have hG : own_Good (15 : Int32) p1 p2 p3 ((15 : Int32) + (p4 &&& (3 : Int32))) (own_upd (own_upd own_zero (15 : Int32).toNatClampNeg (p1.toInt8.toInt32).toInt8.toInt32) ((15 : Int32) + (1 : Int32)).toNatClampNeg (p2.toInt8.toInt32).toInt8.toInt32) := by rw [hzl]; exact own_hG_8 _ p1 p2 p3 hN.1
              have Fz : Fld Z T170.heap b4 "com/example/lens_on_archives/lensonarchives/Bytes" "size" "I" (.int ((15 : Int32) + (p4 &&& (3 : Int32)))) := by rw [← hlen]; exact p170_2
              exact J (T170, _, b10, (own_mx (16 : Int32) (p0 &&& (31 : Int32))), (own_upd (own_upd own_zero (15 : Int32).toNatClampNeg (p1.toInt8.toInt32).toInt8.toInt32) ((15 : Int32) + (1 : Int32)).toNatClampNeg (p2.toInt8.toInt32).toInt8.toInt32), (15 : Int32), (p4 &&& (3 : Int32)), ((15 : Int32) + (p4 &&& (3 : Int32)))) ⟨X170.more (by decide) (by decide), N170, z173, p170_0, p170_1, Fz, p170_3, (by show 0 ≤ (((15 : Int32) + (p4 &&& (3 : Int32)))).toInt ∧ (((15 : Int32) + (p4 &&& (3 : Int32)))).toInt ≤ 18; rw [hzz]; decide), hzn, hG, (Ne.symm ne12)⟩
        · refine own_step (fun _ κ => XS.icmpYes X148.here hx rfl (pc0 := 66) (pc' := 75) rfl (hb hby at_66) rfl (flt hc152).2.2.2 (by decide) (by decide) κ) ?_
          show own_Go _ _ _ _ (T148.setTop (mkF m 75 #[.val (.int p0), .val (.int p1), .val (.int p2), .val (.int p3), .val (.int p4), .val (.int p5), .val (.ref b1), .val (.ref b4), .val (.int (15 : Int32)), .val (.int (p4 &&& (3 : Int32))), .unset, .unset, .unset] []))
          refine own_step (fun _ κ => XS.iload X148.here hx rfl (hb hby at_75) rfl κ) ?_
          show own_Go _ _ _ _ (T148.setTop (mkF m 77 #[.val (.int p0), .val (.int p1), .val (.int p2), .val (.int p3), .val (.int p4), .val (.int p5), .val (.ref b1), .val (.ref b4), .val (.int (15 : Int32)), .val (.int (p4 &&& (3 : Int32))), .unset, .unset, .unset] [(.int (p4 &&& (3 : Int32)))]))
          refine own_step (fun _ κ => XS.iconst X148.here hx rfl (hb hby at_77) κ) ?_
          show own_Go _ _ _ _ (T148.setTop (mkF m 78 #[.val (.int p0), .val (.int p1), .val (.int p2), .val (.int p3), .val (.int p4), .val (.int p5), .val (.ref b1), .val (.ref b4), .val (.int (15 : Int32)), .val (.int (p4 &&& (3 : Int32))), .unset, .unset, .unset] [(.int (2 : Int32)), (.int (p4 &&& (3 : Int32)))]))
          refine own_step (fun _ κ => XS.icmpYes X148.here hx rfl (pc0 := 78) (pc' := 87) rfl (hb hby at_78) rfl (flt (own_ltF hc152 (by decide))).2.2.2 (by decide) (by decide) κ) ?_
          show own_Go _ _ _ _ (T148.setTop (mkF m 87 #[.val (.int p0), .val (.int p1), .val (.int p2), .val (.int p3), .val (.int p4), .val (.int p5), .val (.ref b1), .val (.ref b4), .val (.int (15 : Int32)), .val (.int (p4 &&& (3 : Int32))), .unset, .unset, .unset] []))
          refine own_step (fun _ κ => XS.iload X148.here hx rfl (hb hby at_87) rfl κ) ?_
          show own_Go _ _ _ _ (T148.setTop (mkF m 89 #[.val (.int p0), .val (.int p1), .val (.int p2), .val (.int p3), .val (.int p4), .val (.int p5), .val (.ref b1), .val (.ref b4), .val (.int (15 : Int32)), .val (.int (p4 &&& (3 : Int32))), .unset, .unset, .unset] [(.int (15 : Int32))]))
          refine own_step (fun _ κ => XS.iload X148.here hx rfl (hb hby at_89) rfl κ) ?_
          show own_Go _ _ _ _ (T148.setTop (mkF m 91 #[.val (.int p0), .val (.int p1), .val (.int p2), .val (.int p3), .val (.int p4), .val (.int p5), .val (.ref b1), .val (.ref b4), .val (.int (15 : Int32)), .val (.int (p4 &&& (3 : Int32))), .unset, .unset, .unset] [(.int (p4 &&& (3 : Int32))), (.int (15 : Int32))]))
          refine own_step (fun _ κ => XS.iadd X148.here hx rfl (hb hby at_91) rfl κ) ?_
          show own_Go _ _ _ _ (T148.setTop (mkF m 92 #[.val (.int p0), .val (.int p1), .val (.int p2), .val (.int p3), .val (.int p4), .val (.int p5), .val (.ref b1), .val (.ref b4), .val (.int (15 : Int32)), .val (.int (p4 &&& (3 : Int32))), .unset, .unset, .unset] [(.int ((15 : Int32) + (p4 &&& (3 : Int32))))]))
          refine own_step (fun _ κ => XS.istore X148.here hx rfl (hb hby at_92) rfl (l' := #[.val (.int p0), .val (.int p1), .val (.int p2), .val (.int p3), .val (.int p4), .val (.int p5), .val (.ref b1), .val (.ref b4), .val (.int (15 : Int32)), .val (.int (p4 &&& (3 : Int32))), .val (.int ((15 : Int32) + (p4 &&& (3 : Int32)))), .unset, .unset]) rfl κ) ?_
          show own_Go _ _ _ _ (T148.setTop (mkF m 94 #[.val (.int p0), .val (.int p1), .val (.int p2), .val (.int p3), .val (.int p4), .val (.int p5), .val (.ref b1), .val (.ref b4), .val (.int (15 : Int32)), .val (.int (p4 &&& (3 : Int32))), .val (.int ((15 : Int32) + (p4 &&& (3 : Int32)))), .unset, .unset] []))
          have hcnt : (p4 &&& (3 : Int32)) = (1 : Int32) := own_cnt hc147 hc152 (by decide)
          have hlen : ((15 : Int32) + (1 : Int32)) = ((15 : Int32) + (p4 &&& (3 : Int32))) := by rw [hcnt] <;> decide
          have hzz : (((15 : Int32) + (p4 &&& (3 : Int32)))).toInt = 16 := by rw [← hlen]; decide
          have hzn : ¬ (own_mx (16 : Int32) (p0 &&& (31 : Int32))) < ((15 : Int32) + (p4 &&& (3 : Int32))) := by
            have hlow := hN.1
            rw [Int32.lt_iff_toInt_lt, hzz]
            omega
          have hzl : ((15 : Int32) + (p4 &&& (3 : Int32))) = (16 : Int32) := Int32.toInt_inj.mp (hzz.trans (by decide))
          have hG : own_Good (15 : Int32) p1 p2 p3 ((15 : Int32) + (p4 &&& (3 : Int32))) (own_upd own_zero (15 : Int32).toNatClampNeg (p1.toInt8.toInt32).toInt8.toInt32) := by rw [hzl]; exact own_hG_9 _ p1 p2 p3 hN.1
          have Fz : Fld Z T148.heap b4 "com/example/lens_on_archives/lensonarchives/Bytes" "size" "I" (.int ((15 : Int32) + (p4 &&& (3 : Int32)))) := by rw [← hlen]; exact p148_2
          exact J (T148, _, b10, (own_mx (16 : Int32) (p0 &&& (31 : Int32))), (own_upd own_zero (15 : Int32).toNatClampNeg (p1.toInt8.toInt32).toInt8.toInt32), (15 : Int32), (p4 &&& (3 : Int32)), ((15 : Int32) + (p4 &&& (3 : Int32)))) ⟨X148.more (by decide) (by decide), N148, z151, p148_0, p148_1, Fz, p148_3, (by show 0 ≤ (((15 : Int32) + (p4 &&& (3 : Int32)))).toInt ∧ (((15 : Int32) + (p4 &&& (3 : Int32)))).toInt ≤ 18; rw [hzz]; decide), hzn, hG, (Ne.symm ne12)⟩
      · refine own_step (fun _ κ => XS.ifYes X143.here hx rfl (pc0 := 54) (pc' := 63) rfl (hb hby at_54) rfl ((if0 _ _).trans (flt hc147).2.2.2) (by decide) (by decide) κ) ?_
        show own_Go _ _ _ _ (T143.setTop (mkF m 63 #[.val (.int p0), .val (.int p1), .val (.int p2), .val (.int p3), .val (.int p4), .val (.int p5), .val (.ref b1), .val (.ref b4), .val (.int (15 : Int32)), .val (.int (p4 &&& (3 : Int32))), .unset, .unset, .unset] []))
        refine own_step (fun _ κ => XS.iload X143.here hx rfl (hb hby at_63) rfl κ) ?_
        show own_Go _ _ _ _ (T143.setTop (mkF m 65 #[.val (.int p0), .val (.int p1), .val (.int p2), .val (.int p3), .val (.int p4), .val (.int p5), .val (.ref b1), .val (.ref b4), .val (.int (15 : Int32)), .val (.int (p4 &&& (3 : Int32))), .unset, .unset, .unset] [(.int (p4 &&& (3 : Int32)))]))
        refine own_step (fun _ κ => XS.iconst X143.here hx rfl (hb hby at_65) κ) ?_
        show own_Go _ _ _ _ (T143.setTop (mkF m 66 #[.val (.int p0), .val (.int p1), .val (.int p2), .val (.int p3), .val (.int p4), .val (.int p5), .val (.ref b1), .val (.ref b4), .val (.int (15 : Int32)), .val (.int (p4 &&& (3 : Int32))), .unset, .unset, .unset] [(.int (1 : Int32)), (.int (p4 &&& (3 : Int32)))]))
        refine own_step (fun _ κ => XS.icmpYes X143.here hx rfl (pc0 := 66) (pc' := 75) rfl (hb hby at_66) rfl (flt (own_ltF hc147 (by decide))).2.2.2 (by decide) (by decide) κ) ?_
        show own_Go _ _ _ _ (T143.setTop (mkF m 75 #[.val (.int p0), .val (.int p1), .val (.int p2), .val (.int p3), .val (.int p4), .val (.int p5), .val (.ref b1), .val (.ref b4), .val (.int (15 : Int32)), .val (.int (p4 &&& (3 : Int32))), .unset, .unset, .unset] []))
        refine own_step (fun _ κ => XS.iload X143.here hx rfl (hb hby at_75) rfl κ) ?_
        show own_Go _ _ _ _ (T143.setTop (mkF m 77 #[.val (.int p0), .val (.int p1), .val (.int p2), .val (.int p3), .val (.int p4), .val (.int p5), .val (.ref b1), .val (.ref b4), .val (.int (15 : Int32)), .val (.int (p4 &&& (3 : Int32))), .unset, .unset, .unset] [(.int (p4 &&& (3 : Int32)))]))
        refine own_step (fun _ κ => XS.iconst X143.here hx rfl (hb hby at_77) κ) ?_
        show own_Go _ _ _ _ (T143.setTop (mkF m 78 #[.val (.int p0), .val (.int p1), .val (.int p2), .val (.int p3), .val (.int p4), .val (.int p5), .val (.ref b1), .val (.ref b4), .val (.int (15 : Int32)), .val (.int (p4 &&& (3 : Int32))), .unset, .unset, .unset] [(.int (2 : Int32)), (.int (p4 &&& (3 : Int32)))]))
        refine own_step (fun _ κ => XS.icmpYes X143.here hx rfl (pc0 := 78) (pc' := 87) rfl (hb hby at_78) rfl (flt (own_ltF hc147 (by decide))).2.2.2 (by decide) (by decide) κ) ?_
        show own_Go _ _ _ _ (T143.setTop (mkF m 87 #[.val (.int p0), .val (.int p1), .val (.int p2), .val (.int p3), .val (.int p4), .val (.int p5), .val (.ref b1), .val (.ref b4), .val (.int (15 : Int32)), .val (.int (p4 &&& (3 : Int32))), .unset, .unset, .unset] []))
        refine own_step (fun _ κ => XS.iload X143.here hx rfl (hb hby at_87) rfl κ) ?_
        show own_Go _ _ _ _ (T143.setTop (mkF m 89 #[.val (.int p0), .val (.int p1), .val (.int p2), .val (.int p3), .val (.int p4), .val (.int p5), .val (.ref b1), .val (.ref b4), .val (.int (15 : Int32)), .val (.int (p4 &&& (3 : Int32))), .unset, .unset, .unset] [(.int (15 : Int32))]))
        refine own_step (fun _ κ => XS.iload X143.here hx rfl (hb hby at_89) rfl κ) ?_
        show own_Go _ _ _ _ (T143.setTop (mkF m 91 #[.val (.int p0), .val (.int p1), .val (.int p2), .val (.int p3), .val (.int p4), .val (.int p5), .val (.ref b1), .val (.ref b4), .val (.int (15 : Int32)), .val (.int (p4 &&& (3 : Int32))), .unset, .unset, .unset] [(.int (p4 &&& (3 : Int32))), (.int (15 : Int32))]))
        refine own_step (fun _ κ => XS.iadd X143.here hx rfl (hb hby at_91) rfl κ) ?_
        show own_Go _ _ _ _ (T143.setTop (mkF m 92 #[.val (.int p0), .val (.int p1), .val (.int p2), .val (.int p3), .val (.int p4), .val (.int p5), .val (.ref b1), .val (.ref b4), .val (.int (15 : Int32)), .val (.int (p4 &&& (3 : Int32))), .unset, .unset, .unset] [(.int ((15 : Int32) + (p4 &&& (3 : Int32))))]))
        refine own_step (fun _ κ => XS.istore X143.here hx rfl (hb hby at_92) rfl (l' := #[.val (.int p0), .val (.int p1), .val (.int p2), .val (.int p3), .val (.int p4), .val (.int p5), .val (.ref b1), .val (.ref b4), .val (.int (15 : Int32)), .val (.int (p4 &&& (3 : Int32))), .val (.int ((15 : Int32) + (p4 &&& (3 : Int32)))), .unset, .unset]) rfl κ) ?_
        show own_Go _ _ _ _ (T143.setTop (mkF m 94 #[.val (.int p0), .val (.int p1), .val (.int p2), .val (.int p3), .val (.int p4), .val (.int p5), .val (.ref b1), .val (.ref b4), .val (.int (15 : Int32)), .val (.int (p4 &&& (3 : Int32))), .val (.int ((15 : Int32) + (p4 &&& (3 : Int32)))), .unset, .unset] []))
        have hcnt : (p4 &&& (3 : Int32)) = (0 : Int32) := own_cnt0 (own_m3 p4).1 hc147
        have hlen : (15 : Int32) = ((15 : Int32) + (p4 &&& (3 : Int32))) := by rw [hcnt] <;> decide
        have hzz : (((15 : Int32) + (p4 &&& (3 : Int32)))).toInt = 15 := by rw [← hlen]; decide
        have hzn : ¬ (own_mx (16 : Int32) (p0 &&& (31 : Int32))) < ((15 : Int32) + (p4 &&& (3 : Int32))) := by
          have hlow := hN.1
          rw [Int32.lt_iff_toInt_lt, hzz]
          omega
        have hzl : ((15 : Int32) + (p4 &&& (3 : Int32))) = (15 : Int32) := Int32.toInt_inj.mp (hzz.trans (by decide))
        have hG : own_Good (15 : Int32) p1 p2 p3 ((15 : Int32) + (p4 &&& (3 : Int32))) own_zero := by rw [hzl]; exact own_hG_10 _ p1 p2 p3 hN.1
        have Fz : Fld Z T143.heap b4 "com/example/lens_on_archives/lensonarchives/Bytes" "size" "I" (.int ((15 : Int32) + (p4 &&& (3 : Int32)))) := by rw [← hlen]; exact p143_2
        exact J (T143, _, b10, (own_mx (16 : Int32) (p0 &&& (31 : Int32))), own_zero, (15 : Int32), (p4 &&& (3 : Int32)), ((15 : Int32) + (p4 &&& (3 : Int32)))) ⟨X143.more (by decide) (by decide), N143, z146, p143_0, p143_1, Fz, p143_3, (by show 0 ≤ (((15 : Int32) + (p4 &&& (3 : Int32)))).toInt ∧ (((15 : Int32) + (p4 &&& (3 : Int32)))).toInt ≤ 18; rw [hzz]; decide), hzn, hG, (Ne.symm ne12)⟩
set_option maxRecDepth 65536 in
set_option maxHeartbeats 40000000 in
theorem comes_1 {Post : Tables → Env → Array Value → State → Outcome → State → Prop} (hpost : ∀ tb e args s v u, (limb_1_1.after args s (.returned v) u = true ∧ limb_1_2.after args s (.returned v) u = true ∧ True) → FrameEnd s (.returned v) u (Jvm.fieldLocs frame_1_writes args s ++ Jvm.arrayLocs frame_1_arrays args s ++ Jvm.staticLocs frame_1_statics s) 24 320 → Post tb e args s (.returned v) u) :
    ArmFor flags0 classFile x code maxLocals ret World_1 tables_1 room_1 Calls_1 rest_1 Pre_1 Post := by
  intro l hfl _ _ p e ha hc hk s m args below hf hA hF happ hP
  obtain ⟨hcalls, hrest, hpre⟩ := hP
  obtain ⟨-, -, -, hnamed, -, -, -, hat⟩ := (Spec.applies_iff hf).mp happ
  obtain ⟨hg, hn⟩ := and_e (Cond.before_iff.mp (show (Jvm.Cond.and given_1 narrow_1).before args s = true from hpre))
  obtain ⟨g0, gr0⟩ := and_e hg
  obtain ⟨w0, w1, w2, w3, w4, w5, rfl⟩ : ∃ w0 w1 w2 w3 w4 w5 : Value, args = #[w0, w1, w2, w3, w4, w5] := by
    have hs : args.size = 6 := by simpa [Cond.value, given_1] using g0
    obtain ⟨L⟩ := args
    match L, hs with
    | [w0, w1, w2, w3, w4, w5], _ => exact ⟨w0, w1, w2, w3, w4, w5, rfl⟩
  have hw := fun d (hd : d ∈ tables_1) => atoms_spec (ws := Jvm.Cond.code x code maxLocals ret :: tables_1) hat d (List.mem_cons_of_mem _ hd)
  have hfit : Fit s := fun {y c} hc i hi => by
    obtain ⟨ha, rfl⟩ := Array.getElem?_eq_some_iff.mp hc
    have q := List.all_eq_true.mp ((Array.all_eq_true_iff_forall_mem.mp hF) _ (Array.getElem_mem ha)) i (List.mem_range.mpr hi)
    simpa [Array.getElem?_eq_getElem hi] using q
  obtain ⟨ga0, gr1⟩ := and_e gr0
  obtain ⟨i0, ei0⟩ := is_v ga0
  obtain rfl : w0 = (.int i0) := Option.some.inj ei0
  obtain ⟨ga1, gr2⟩ := and_e gr1
  obtain ⟨i1, ei1⟩ := is_v ga1
  obtain rfl : w1 = (.int i1) := Option.some.inj ei1
  obtain ⟨ga2, gr3⟩ := and_e gr2
  obtain ⟨i2, ei2⟩ := is_v ga2
  obtain rfl : w2 = (.int i2) := Option.some.inj ei2
  obtain ⟨ga3, gr4⟩ := and_e gr3
  obtain ⟨i3, ei3⟩ := is_v ga3
  obtain rfl : w3 = (.int i3) := Option.some.inj ei3
  obtain ⟨ga4, gr5⟩ := and_e gr4
  obtain ⟨i4, ei4⟩ := is_v ga4
  obtain rfl : w4 = (.int i4) := Option.some.inj ei4
  obtain ⟨i5, ei5⟩ := is_v gr5
  obtain rfl : w5 = (.int i5) := Option.some.inj ei5
  obtain ⟨n, o, h1, h2, h3, _, L, rfl, ⟨rfl, N⟩, hq⟩ := rm0 l s _ hw tables_1 i0 i1 i2 i3 i4 i5 s.heap s.heap.size (Nat.le_refl _) p e ha hc hk s m _ below hf ((Spec.applies_iff_loose hf).mp happ).1 ⟨rfl, State.Warmed39.refl s, rfl⟩ trivial
  refine ⟨n, _, h1, h2, h3, hpost _ _ _ _ _ _ ⟨Cond.after_iff.mpr rfl, Cond.after_iff.mpr (eq_i res_at (Term.int_eval (1)) rfl), trivial⟩ ⟨hq.1, hq.2.1, (hq.2.2.sift fun y hy => Or.inr (N y hy)).mono (by decide) (by decide)⟩⟩
theorem main_1_1 : Claimed_1_1 := comes_1 fun _ _ _ _ _ _ h hF => ⟨h.1, hF⟩
theorem main_1_2 : Claimed_1_2 := comes_1 fun _ _ _ _ _ _ h hF => ⟨h.2.1, hF⟩
end Jvm.Pilot.@@N@@
namespace Jvm.Pilot.@@N@@
open Jvm Jvm.ClassFile Sem Op Lib Jvm.Free Jvm.Stand Jvm.Pilot.@@N@@.Jvm.D
/-! MADE BY PROGRAM (witnessworld.py) out of the Statement's table words and the real class files: 12 classes; the members and pool entries that the words name. The judged class is class 1, her method 3. -/
namespace start1
open Jvm.ClassFile
def u (s : String) : CpInfo := .utf8 (stringToUtf16 s)
/-- a pool by its gaps: so many unusable entries, then the entry; so many at the end -/
def gap : Nat → List CpInfo → List CpInfo
  | 0, r => r
  | n + 1, r => .unusable :: gap n r
def poolList (es : List (Nat × CpInfo)) (last : Nat) : List CpInfo := es.foldr (fun e r => gap e.1 (e.2 :: r)) (gap last [])
def pool (es : List (Nat × CpInfo)) (last : Nat) : Array CpInfo := ⟨poolList es last⟩
def fileOf (pool : Array CpInfo) (this : Nat) (attrs : Array Attribute := #[]) (ms : Array MethodInfo := #[]) (fl : Nat := 33) (sup : Nat := 0) (ifs : Array Nat := #[]) (fds : Array FieldInfo := #[]) : ClassFile where
  minorVersion := 0
  majorVersion := 65
  constantPool := pool
  accessFlags := fl
  thisClass := this
  superClass := sup
  interfaces := ifs
  fields := fds
  methods := ms
  attributes := attrs
def plain (name : String) (sup : Option ClassId) : Class where
  name := name
  kind := .ordinary
  loader := none
  accessFlags := 33
  super := sup
  interfaces := #[]
  cf := none
  fields := #[]
  methods := #[]
  instanceTypes := #[]
  staticTypes := #[]
  resolved := #[]
  callSites := []
  init := .initialized
  statics := none
  mirror := none

def pool0 : Array CpInfo := pool [(5, u "<init>"), (0, u "()V"), (1, .class_ 10), (1, u "java/lang/Object"), (85, u "clone"), (0, u "()Ljava/lang/Object;")] 26

def k0c0 : Code := { maxStack := 0, maxLocals := 1, code := object_method_1_code, exceptionTable := #[], attributes := #[] }
def k0m0 : Method := { name := "<init>", desc := "()V", sig := { parameters := [], returnType := none }, accessFlags := 1, code := some k0c0 }
def k0m1 : Method := { name := "clone", desc := "()Ljava/lang/Object;", sig := { parameters := [], returnType := some (.object "java/lang/Object") }, accessFlags := 260, code := none }
/-- java/lang/Object -/
def k0 : Class := { plain "java/lang/Object" none with
  accessFlags := 33
  interfaces := #[]
  cf := some (fileOf pool0 8 #[] #[{ accessFlags := 1, nameIndex := 5, descriptorIndex := 6, attributes := #[] }, { accessFlags := 260, nameIndex := 96, descriptorIndex := 97, attributes := #[] }] 33 0 #[] #[])
  fields := #[]
  methods := #[k0m0, k0m1]
  instanceTypes := #[]
  staticTypes := #[]
  resolved := Array.replicate 124 none
  statics := none }

def pool1 : Array CpInfo := pool [(2, .class_ 4), (1, u "java/lang/Object"), (0, u "<init>"), (0, u "()V"), (0, .methodref 8 9), (0, .class_ 10), (0, .nameAndType 11 12), (0, u "com/example/lens_on_archives/lensonarchives/BytesToArrayPinLaw"), (0, u "expect"), (0, u "(IIIII)B"), (0, .class_ 14), (0, u "com/example/lens_on_archives/lensonarchives/Bytes"), (0, .methodref 13 16), (0, .nameAndType 5 17), (0, u "(I)V"), (0, .methodref 13 19), (0, .nameAndType 20 21), (0, u "write"), (0, u "([B)V"), (0, .methodref 13 23), (0, .nameAndType 20 17), (0, .methodref 25 26), (0, .class_ 27), (0, .nameAndType 28 29), (0, u "java/lang/Math"), (0, u "min"), (0, u "(II)I"), (0, .methodref 13 31), (0, .nameAndType 32 17), (0, u "truncate"), (0, .methodref 13 34), (0, .nameAndType 35 36), (0, u "toArray"), (0, u "()[B"), (0, .methodref 8 38), (0, .nameAndType 39 40), (0, u "ok"), (0, u "([BIIIIII)Z"), (3, u "law"), (0, u "(IIIIII)Z")] 4

def k1m0 : Method := { name := "<init>", desc := "()V", sig := { parameters := [], returnType := none }, accessFlags := 2, code := none }
def k1c1 : Code := { maxStack := 3, maxLocals := 5, code := method_2_code, exceptionTable := #[], attributes := #[] }
def k1m1 : Method := { name := "expect", desc := "(IIIII)B", sig := { parameters := [.int, .int, .int, .int, .int], returnType := some .byte }, accessFlags := 10, code := some k1c1 }
def k1c2 : Code := { maxStack := 6, maxLocals := 7, code := method_3_code, exceptionTable := #[], attributes := #[] }
def k1m2 : Method := { name := "ok", desc := "([BIIIIII)Z", sig := { parameters := [(.array .byte), .int, .int, .int, .int, .int, .int], returnType := some .boolean }, accessFlags := 10, code := some k1c2 }
def k1c3 : Code := { maxStack := 8, maxLocals := 13, code := code, exceptionTable := #[], attributes := #[] }
def k1m3 : Method := { name := "law", desc := "(IIIIII)Z", sig := { parameters := [.int, .int, .int, .int, .int, .int], returnType := some .boolean }, accessFlags := 9, code := some k1c3 }
/-- com/example/lens_on_archives/lensonarchives/BytesToArrayPinLaw -/
def k1 : Class := { plain "com/example/lens_on_archives/lensonarchives/BytesToArrayPinLaw" (some 0) with
  accessFlags := 49
  interfaces := #[]
  cf := some (fileOf pool1 8 #[] #[{ accessFlags := 2, nameIndex := 5, descriptorIndex := 6, attributes := #[] }, { accessFlags := 10, nameIndex := 11, descriptorIndex := 12, attributes := #[] }, { accessFlags := 10, nameIndex := 39, descriptorIndex := 40, attributes := #[] }, { accessFlags := 9, nameIndex := 44, descriptorIndex := 45, attributes := #[] }] 49 2 #[] #[])
  fields := #[]
  methods := #[k1m0, k1m1, k1m2, k1m3]
  instanceTypes := #[]
  staticTypes := #[]
  resolved := Array.replicate 50 none
  statics := none }

def pool2 : Array CpInfo := pool [(1, .methodref 2 3), (0, .class_ 4), (0, .nameAndType 5 6), (0, u "java/lang/Object"), (0, u "<init>"), (0, u "()V"), (0, .methodref 8 9), (0, .class_ 10), (0, .nameAndType 11 12), (0, u "java/lang/Math"), (0, u "max"), (0, u "(II)I"), (0, .fieldref 14 15), (0, .class_ 16), (0, .nameAndType 17 18), (0, u "com/example/lens_on_archives/lensonarchives/Bytes"), (0, u "bytes"), (0, u "[B"), (0, .fieldref 14 20), (0, .nameAndType 21 22), (0, u "size"), (0, u "I"), (0, .methodref 14 24), (0, .nameAndType 25 26), (0, u "room"), (0, u "(I)V"), (0, .methodref 28 29), (0, .class_ 30), (0, .nameAndType 31 32), (0, u "java/lang/System"), (0, u "arraycopy"), (0, u "(Ljava/lang/Object;ILjava/lang/Object;II)V"), (6, u "write"), (0, .methodref 41 42), (0, .class_ 43), (0, .nameAndType 44 45), (0, u "java/util/Arrays"), (0, u "copyOf"), (0, u "([BI)[B"), (3, u "([B)V"), (3, u "truncate"), (0, u "toArray"), (0, u "()[B")] 2

def k2c0 : Code := { maxStack := 3, maxLocals := 2, code := prog_1_method_1_code, exceptionTable := #[], attributes := #[] }
def k2m0 : Method := { name := "<init>", desc := "(I)V", sig := { parameters := [.int], returnType := none }, accessFlags := 0, code := some k2c0 }
def k2c1 : Code := { maxStack := 5, maxLocals := 2, code := prog_1_method_3_code, exceptionTable := #[], attributes := #[] }
def k2m1 : Method := { name := "write", desc := "(I)V", sig := { parameters := [.int], returnType := none }, accessFlags := 0, code := some k2c1 }
def k2c2 : Code := { maxStack := 5, maxLocals := 2, code := prog_1_method_4_code, exceptionTable := #[], attributes := #[] }
def k2m2 : Method := { name := "write", desc := "([B)V", sig := { parameters := [(.array .byte)], returnType := none }, accessFlags := 0, code := some k2c2 }
def k2c3 : Code := { maxStack := 2, maxLocals := 2, code := prog_1_method_6_code, exceptionTable := #[], attributes := #[] }
def k2m3 : Method := { name := "truncate", desc := "(I)V", sig := { parameters := [.int], returnType := none }, accessFlags := 0, code := some k2c3 }
def k2c4 : Code := { maxStack := 2, maxLocals := 1, code := prog_1_method_7_code, exceptionTable := #[], attributes := #[] }
def k2m4 : Method := { name := "toArray", desc := "()[B", sig := { parameters := [], returnType := some (.array .byte) }, accessFlags := 0, code := some k2c4 }
def k2c5 : Code := { maxStack := 5, maxLocals := 2, code := prog_1_method_8_code, exceptionTable := #[], attributes := #[] }
def k2m5 : Method := { name := "room", desc := "(I)V", sig := { parameters := [.int], returnType := none }, accessFlags := 2, code := some k2c5 }
/-- com/example/lens_on_archives/lensonarchives/Bytes -/
def k2 : Class := { plain "com/example/lens_on_archives/lensonarchives/Bytes" (some 0) with
  accessFlags := 48
  interfaces := #[]
  cf := some (fileOf pool2 14 #[] #[{ accessFlags := 0, nameIndex := 5, descriptorIndex := 26, attributes := #[] }, { accessFlags := 0, nameIndex := 39, descriptorIndex := 26, attributes := #[] }, { accessFlags := 0, nameIndex := 39, descriptorIndex := 49, attributes := #[] }, { accessFlags := 0, nameIndex := 53, descriptorIndex := 26, attributes := #[] }, { accessFlags := 0, nameIndex := 54, descriptorIndex := 55, attributes := #[] }, { accessFlags := 2, nameIndex := 25, descriptorIndex := 26, attributes := #[] }] 48 2 #[] #[{ accessFlags := 2, nameIndex := 17, descriptorIndex := 18, attributes := #[] }, { accessFlags := 2, nameIndex := 21, descriptorIndex := 22, attributes := #[] }])
  fields := #[{ name := "bytes", type := (.array .byte), accessFlags := 2, slot := 0, constantValue := 0 }, { name := "size", type := .int, accessFlags := 2, slot := 1, constantValue := 0 }]
  methods := #[k2m0, k2m1, k2m2, k2m3, k2m4, k2m5]
  instanceTypes := #[(.array .byte), .int]
  staticTypes := #[]
  resolved := Array.replicate 58 none
  statics := none }

def pool3 : Array CpInfo := pool [(1, .class_ 2), (0, u "java/lang/Math"), (1, .class_ 6), (1, u "java/lang/Object"), (0, u "<init>"), (0, u "()V"), (89, .class_ 100), (1, u "java/lang/Math$RandomNumberGeneratorHolder"), (71, u "negativeZeroFloatBits"), (0, u "J"), (2, u "negativeZeroDoubleBits"), (21, u "max"), (2, u "min"), (43, u "$assertionsDisabled"), (0, u "Z"), (88, u "(II)I"), (2, u "twoToTheDoubleScaleDown"), (0, u "D"), (4, u "twoToTheDoubleScaleUp"), (9, u "E"), (3, u "PI"), (2, u "TAU"), (2, u "DEGREES_TO_RADIANS"), (0, u "RADIANS_TO_DEGREES")] 94

def k3m0 : Method := { name := "<init>", desc := "()V", sig := { parameters := [], returnType := none }, accessFlags := 2, code := none }
def k3c1 : Code := { maxStack := 2, maxLocals := 2, code := jdk_29_method_65_code, exceptionTable := #[], attributes := #[] }
def k3m1 : Method := { name := "max", desc := "(II)I", sig := { parameters := [.int, .int], returnType := some .int }, accessFlags := 9, code := some k3c1 }
def k3c2 : Code := { maxStack := 2, maxLocals := 2, code := jdk_29_method_69_code, exceptionTable := #[], attributes := #[] }
def k3m2 : Method := { name := "min", desc := "(II)I", sig := { parameters := [.int, .int], returnType := some .int }, accessFlags := 9, code := some k3c2 }
/-- java/lang/Math -/
def k3 : Class := { plain "java/lang/Math" (some 0) with
  accessFlags := 49
  interfaces := #[]
  cf := some (fileOf pool3 1 #[.nestMembers #[98]] #[{ accessFlags := 2, nameIndex := 7, descriptorIndex := 8, attributes := #[] }, { accessFlags := 9, nameIndex := 198, descriptorIndex := 335, attributes := #[] }, { accessFlags := 9, nameIndex := 201, descriptorIndex := 335, attributes := #[] }] 49 4 #[] #[{ accessFlags := 25, nameIndex := 354, descriptorIndex := 339, attributes := #[] }, { accessFlags := 25, nameIndex := 358, descriptorIndex := 339, attributes := #[] }, { accessFlags := 25, nameIndex := 361, descriptorIndex := 339, attributes := #[] }, { accessFlags := 26, nameIndex := 364, descriptorIndex := 339, attributes := #[] }, { accessFlags := 26, nameIndex := 365, descriptorIndex := 339, attributes := #[] }, { accessFlags := 26, nameIndex := 172, descriptorIndex := 173, attributes := #[] }, { accessFlags := 26, nameIndex := 176, descriptorIndex := 173, attributes := #[] }, { accessFlags := 8, nameIndex := 344, descriptorIndex := 339, attributes := #[] }, { accessFlags := 8, nameIndex := 338, descriptorIndex := 339, attributes := #[] }, { accessFlags := 4120, nameIndex := 245, descriptorIndex := 246, attributes := #[] }])
  fields := #[{ name := "E", type := .double, accessFlags := 25, slot := 0, constantValue := 0 }, { name := "PI", type := .double, accessFlags := 25, slot := 1, constantValue := 0 }, { name := "TAU", type := .double, accessFlags := 25, slot := 2, constantValue := 0 }, { name := "DEGREES_TO_RADIANS", type := .double, accessFlags := 26, slot := 3, constantValue := 0 }, { name := "RADIANS_TO_DEGREES", type := .double, accessFlags := 26, slot := 4, constantValue := 0 }, { name := "negativeZeroFloatBits", type := .long, accessFlags := 26, slot := 5, constantValue := 0 }, { name := "negativeZeroDoubleBits", type := .long, accessFlags := 26, slot := 6, constantValue := 0 }, { name := "twoToTheDoubleScaleUp", type := .double, accessFlags := 8, slot := 7, constantValue := 0 }, { name := "twoToTheDoubleScaleDown", type := .double, accessFlags := 8, slot := 8, constantValue := 0 }, { name := "$assertionsDisabled", type := .boolean, accessFlags := 4120, slot := 9, constantValue := 0 }]
  methods := #[k3m0, k3m1, k3m2]
  instanceTypes := #[]
  staticTypes := #[.double, .double, .double, .double, .double, .long, .long, .double, .double, .boolean]
  resolved := Array.replicate 460 none
  statics := none }

def pool4 : Array CpInfo := pool [(2, .class_ 4), (1, u "java/lang/Object"), (0, u "<init>"), (0, u "()V"), (7, .class_ 16), (1, u "java/util/Arrays"), (57, .class_ 76), (1, u "java/util/Arrays$NaturalOrder"), (32, u "()Ljava/lang/Object;"), (3, .class_ 115), (1, u "java/util/Arrays$LegacyMergeSort"), (1, u "Z"), (10, .nameAndType 129 109), (0, u "clone"), (20, .methodref 151 152), (0, .class_ 153), (0, .nameAndType 154 155), (0, u "java/lang/System"), (0, u "arraycopy"), (0, u "(Ljava/lang/Object;ILjava/lang/Object;II)V"), (146, u "copyOf"), (1, .methodref 305 306), (0, .class_ 307), (0, .nameAndType 308 309), (0, u "java/lang/Math"), (0, u "min"), (0, u "(II)I"), (0, .methodref 311 128), (0, .class_ 312), (0, u "[B"), (62, .class_ 376), (0, u "java/util/Arrays$ArrayList"), (68, u "$assertionsDisabled"), (269, u "MIN_ARRAY_SORT_GRAN"), (0, u "I"), (2, u "INSERTIONSORT_THRESHOLD"), (149, u "([BI)[B"), (105, .class_ 976), (0, u "java/util/Arrays$ArrayItr")] 52

def k4m0 : Method := { name := "<init>", desc := "()V", sig := { parameters := [], returnType := none }, accessFlags := 2, code := none }
def k4c1 : Code := { maxStack := 6, maxLocals := 3, code := jdk_65_method_121_code, exceptionTable := #[], attributes := #[] }
def k4m1 : Method := { name := "copyOf", desc := "([BI)[B", sig := { parameters := [(.array .byte), .int], returnType := some (.array .byte) }, accessFlags := 9, code := some k4c1 }
/-- java/util/Arrays -/
def k4 : Class := { plain "java/util/Arrays" (some 0) with
  accessFlags := 49
  interfaces := #[]
  cf := some (fileOf pool4 14 #[.nestMembers #[975, 375, 113, 74]] #[{ accessFlags := 2, nameIndex := 5, descriptorIndex := 6, attributes := #[] }, { accessFlags := 9, nameIndex := 302, descriptorIndex := 869, attributes := #[] }] 49 2 #[] #[{ accessFlags := 26, nameIndex := 715, descriptorIndex := 716, attributes := #[] }, { accessFlags := 26, nameIndex := 719, descriptorIndex := 716, attributes := #[] }, { accessFlags := 4120, nameIndex := 445, descriptorIndex := 117, attributes := #[] }])
  fields := #[{ name := "MIN_ARRAY_SORT_GRAN", type := .int, accessFlags := 26, slot := 0, constantValue := 0 }, { name := "INSERTIONSORT_THRESHOLD", type := .int, accessFlags := 26, slot := 1, constantValue := 0 }, { name := "$assertionsDisabled", type := .boolean, accessFlags := 4120, slot := 2, constantValue := 0 }]
  methods := #[k4m0, k4m1]
  instanceTypes := #[]
  staticTypes := #[.int, .int, .boolean]
  resolved := Array.replicate 1029 none
  statics := none }

def pool5 : Array CpInfo := pool [(2, .class_ 4), (1, u "java/lang/Object"), (0, u "<init>"), (0, u "()V"), (1, .class_ 10), (1, u "java/lang/System"), (0, u "allowSecurityManager"), (0, u "I"), (16, u "cons"), (0, u "Ljava/io/Console;"), (77, .class_ 110), (1, u "java/lang/System$CallersHolder"), (43, u "initialErrStream"), (0, u "Ljava/io/PrintStream;"), (19, u "security"), (0, u "Ljava/lang/SecurityManager;"), (31, .class_ 209), (0, u "java/lang/System$1"), (7, u "props"), (0, u "Ljava/util/Properties;"), (2, u "lineSeparator"), (0, u "Ljava/lang/String;"), (96, .class_ 321), (1, u "java/lang/System$LoggerFinder"), (5, .class_ 328), (0, u "java/lang/System$Logger"), (67, u "err"), (2, u "out"), (91, u "notSupportedJnuEncoding"), (15, u "in"), (17, u "initialIn"), (0, u "Ljava/io/InputStream;"), (35, u "bootLayer"), (0, u "Ljava/lang/ModuleLayer;"), (99, .class_ 664), (0, u "java/lang/System$2"), (9, u "NEVER"), (2, u "MAYBE"), (49, u "arraycopy"), (0, u "(Ljava/lang/Object;ILjava/lang/Object;II)V"), (72, .class_ 802), (0, u "java/lang/System$Logger$Level")] 31

def k5m0 : Method := { name := "<init>", desc := "()V", sig := { parameters := [], returnType := none }, accessFlags := 2, code := none }
def k5m1 : Method := { name := "arraycopy", desc := "(Ljava/lang/Object;ILjava/lang/Object;II)V", sig := { parameters := [(.object "java/lang/Object"), .int, (.object "java/lang/Object"), .int, .int], returnType := none }, accessFlags := 265, code := none }
/-- java/lang/System -/
def k5 : Class := { plain "java/lang/System" (some 0) with
  accessFlags := 49
  interfaces := #[]
  cf := some (fileOf pool5 8 #[.nestMembers #[319, 327, 801, 108, 663, 208]] #[{ accessFlags := 2, nameIndex := 5, descriptorIndex := 6, attributes := #[] }, { accessFlags := 265, nameIndex := 727, descriptorIndex := 728, attributes := #[] }] 49 2 #[] #[{ accessFlags := 25, nameIndex := 507, descriptorIndex := 526, attributes := #[] }, { accessFlags := 25, nameIndex := 399, descriptorIndex := 155, attributes := #[] }, { accessFlags := 25, nameIndex := 396, descriptorIndex := 155, attributes := #[] }, { accessFlags := 10, nameIndex := 525, descriptorIndex := 526, attributes := #[] }, { accessFlags := 26, nameIndex := 674, descriptorIndex := 12, attributes := #[] }, { accessFlags := 26, nameIndex := 677, descriptorIndex := 12, attributes := #[] }, { accessFlags := 10, nameIndex := 11, descriptorIndex := 12, attributes := #[] }, { accessFlags := 74, nameIndex := 175, descriptorIndex := 176, attributes := #[] }, { accessFlags := 10, nameIndex := 491, descriptorIndex := 222, attributes := #[] }, { accessFlags := 74, nameIndex := 29, descriptorIndex := 30, attributes := #[] }, { accessFlags := 74, nameIndex := 154, descriptorIndex := 155, attributes := #[] }, { accessFlags := 10, nameIndex := 217, descriptorIndex := 218, attributes := #[] }, { accessFlags := 10, nameIndex := 221, descriptorIndex := 222, attributes := #[] }, { accessFlags := 8, nameIndex := 562, descriptorIndex := 563, attributes := #[] }])
  fields := #[{ name := "in", type := (.object "java/io/InputStream"), accessFlags := 25, slot := 0, constantValue := 0 }, { name := "out", type := (.object "java/io/PrintStream"), accessFlags := 25, slot := 1, constantValue := 0 }, { name := "err", type := (.object "java/io/PrintStream"), accessFlags := 25, slot := 2, constantValue := 0 }, { name := "initialIn", type := (.object "java/io/InputStream"), accessFlags := 10, slot := 3, constantValue := 0 }, { name := "NEVER", type := .int, accessFlags := 26, slot := 4, constantValue := 0 }, { name := "MAYBE", type := .int, accessFlags := 26, slot := 5, constantValue := 0 }, { name := "allowSecurityManager", type := .int, accessFlags := 10, slot := 6, constantValue := 0 }, { name := "security", type := (.object "java/lang/SecurityManager"), accessFlags := 74, slot := 7, constantValue := 0 }, { name := "notSupportedJnuEncoding", type := (.object "java/lang/String"), accessFlags := 10, slot := 8, constantValue := 0 }, { name := "cons", type := (.object "java/io/Console"), accessFlags := 74, slot := 9, constantValue := 0 }, { name := "initialErrStream", type := (.object "java/io/PrintStream"), accessFlags := 74, slot := 10, constantValue := 0 }, { name := "props", type := (.object "java/util/Properties"), accessFlags := 10, slot := 11, constantValue := 0 }, { name := "lineSeparator", type := (.object "java/lang/String"), accessFlags := 10, slot := 12, constantValue := 0 }, { name := "bootLayer", type := (.object "java/lang/ModuleLayer"), accessFlags := 8, slot := 13, constantValue := 0 }]
  methods := #[k5m0, k5m1]
  instanceTypes := #[]
  staticTypes := #[(.object "java/io/InputStream"), (.object "java/io/PrintStream"), (.object "java/io/PrintStream"), (.object "java/io/InputStream"), .int, .int, .int, (.object "java/lang/SecurityManager"), (.object "java/lang/String"), (.object "java/io/Console"), (.object "java/io/PrintStream"), (.object "java/util/Properties"), (.object "java/lang/String"), (.object "java/lang/ModuleLayer")]
  resolved := Array.replicate 834 none
  statics := none }

def pool6 : Array CpInfo := pool [(1, .class_ 2), (0, u "java/lang/Cloneable"), (0, .class_ 4), (0, u "java/lang/Object")] 2

/-- java/lang/Cloneable -/
def k6 : Class := { plain "java/lang/Cloneable" (some 0) with
  accessFlags := 1537
  interfaces := #[]
  cf := some (fileOf pool6 1 #[] #[] 1537 3 #[] #[])
  fields := #[]
  methods := #[]
  instanceTypes := #[]
  staticTypes := #[]
  resolved := Array.replicate 7 none
  statics := none }

def pool7 : Array CpInfo := pool [(1, u "java/io/Serializable"), (0, .class_ 1), (0, u "java/lang/Object"), (0, .class_ 3)] 3

/-- java/io/Serializable -/
def k7 : Class := { plain "java/io/Serializable" (some 0) with
  accessFlags := 1537
  interfaces := #[]
  cf := some (fileOf pool7 2 #[] #[] 1537 4 #[] #[])
  fields := #[]
  methods := #[]
  instanceTypes := #[]
  staticTypes := #[]
  resolved := Array.replicate 8 none
  statics := none }

/-- the primitive byte -/
def k8 : Class := { plain "byte" none with kind := .primitive 'B', accessFlags := 0x411 }
/-- [B -/
def k9 : Class := { plain "[B" (some 0) with kind := .array 8 .byte, interfaces := #[6, 7], accessFlags := 1041 }

/-- the primitive int -/
def k10 : Class := { plain "int" none with kind := .primitive 'I', accessFlags := 0x411 }
/-- [I -/
def k11 : Class := { plain "[I" (some 0) with kind := .array 10 .int, interfaces := #[6, 7], accessFlags := 1041 }

def heap : Heap := #[]
def classes : Array Class := #[k0, k1, k2, k3, k4, k5, k6, k7, k8, k9, k10, k11]
def interned : List (Array UInt16 × Addr) := []
def slotsUsed : Nat := 0
def theMethod : MethodId := ⟨1, 3⟩
def args0 : Array Value := #[.int 5, .int 3, .int 2, .int 1, .int 2, .int 4]
def aboutOver (below : List Frame) : State where
  vm := { classes := classes, interned := interned.toArray }
  heap := heap
  slotsUsed := slotsUsed
  threads := #[{ frames := .invoking theMethod args0 :: below }]
def below0 : List Frame := [.native { method := ⟨0, 0⟩, args := #[] }]
def about1 : State := aboutOver below0
def p0 : Program := .bare "" "" ""
def e0 : Env := launch0.env 0 0 0
theorem w_frames : about1.frames = Frame.invoking theMethod args0 :: below0 := rfl
set_option maxRecDepth 65536 in
theorem w_args : argsFit about1.vm theMethod args0 = true := by decide +kernel
set_option maxRecDepth 65536 in
theorem w_heap : heapFits about1 = true := by decide +kernel
set_option maxRecDepth 65536 in
theorem w_runnable : about1.curStatus? = some .runnable := by decide +kernel
set_option maxRecDepth 65536 in
theorem w_alone : about1.alone = true := by decide +kernel
set_option maxRecDepth 65536 in
theorem w_named : about1.methodNamed? x = some theMethod := by decide +kernel
set_option maxRecDepth 65536 in
theorem w_hears : about1.hears theMethod below0 = true := by decide +kernel
set_option maxRecDepth 65536 in
theorem w_ripe : about1.ripe theMethod args0 below0 = true := by decide +kernel
theorem w_running : about1.status = .running := rfl
set_option maxRecDepth 65536 in
theorem w_room : about1.hasRoom e0.platform room_1 = true :=
  launch0.hasRoom_least _ room_1 (by decide +kernel) (by decide +kernel) (by decide +kernel) (by decide +kernel) (by decide +kernel) (by decide +kernel)
theorem allAtoms_all (ts : List Jvm.Cond) (a : Array Jvm.Value) (st : Jvm.State) : (allAtoms ts).before a st = ts.all (fun c => c.before a st) := by
  induction ts with
  | nil => rfl
  | cons c t ih =>
    show (Jvm.Cond.and c (allAtoms t)).before a st = _
    rw [Jvm.Cond.before_and, ih, List.all_cons]
def words1 : List Jvm.Cond := Jvm.Cond.code x code maxLocals ret :: tables_1
/-- a 'code' word, met by the world's own term for the bytes: nothing is compared byte by byte -/
theorem code_word {y : MethodName} {bytes : ByteArray} {mx : Nat} {rt : Option FieldType} {a : Array Value} {s : State} {m : MethodId} {meth : Method} {c : Code} (h1 : s.methodNamed? y = some m) (h2 : s.vm.method? m = some meth) (h3 : meth.code = some c) (h4 : c.code = bytes)
    (h5 : (c.maxLocals == mx && c.exceptionTable.isEmpty && decide (c.maxStack ≤ mostOperands) && decide (meth.sig.returnType = rt) && !meth.locks && decide (parseMethodDescriptor y.desc = some meth.sig)) = true) : (Jvm.Cond.code y bytes mx rt).before a s = true := by
  simp only [Bool.and_eq_true, beq_iff_eq, Bool.not_eq_true', decide_eq_true_eq] at h5
  obtain ⟨⟨⟨⟨⟨g1, g2⟩, g3⟩, g4⟩, g5⟩, g6⟩ := h5
  simp [Cond.before, Cond.holds, Cond.value, h1, h2, h3, h4, g1, g2, g3, g4, g5, g6]
def isCode : Jvm.Cond → Bool
  | .code _ _ _ _ => true
  | _ => false
theorem all_split {L : List Jvm.Cond} {P : Jvm.Cond → Bool} (h1 : L.all (fun c => isCode c || P c) = true) (h2 : ∀ c ∈ L.filter isCode, P c = true) : L.all P = true := by
  refine List.all_eq_true.mpr fun c hc => ?_
  have h := List.all_eq_true.mp h1 c hc
  rcases Bool.eq_false_or_eq_true (isCode c) with hi | hi
  · exact h2 c (List.mem_filter.mpr ⟨hc, hi⟩)
  · simpa [hi] using h
set_option maxRecDepth 65536 in
theorem w_c0 : (Jvm.Cond.code x code maxLocals ret).before args0 about1 = true := code_word (m := ⟨1, 3⟩) (meth := k1m3) (c := k1c3) (by decide +kernel) rfl rfl rfl (by decide +kernel)
set_option maxRecDepth 65536 in
theorem w_c1 : (Jvm.Cond.code ({ cls := "com/example/lens_on_archives/lensonarchives/Bytes", name := "<init>", desc := "(I)V" } : Jvm.MethodName) prog_1_method_1_code (2 : Nat) (Option.none : Option Jvm.ClassFile.FieldType)).before args0 about1 = true := code_word (m := ⟨2, 0⟩) (meth := k2m0) (c := k2c0) (by decide +kernel) rfl rfl rfl (by decide +kernel)
set_option maxRecDepth 65536 in
theorem w_c2 : (Jvm.Cond.code ({ cls := "java/lang/Object", name := "<init>", desc := "()V" } : Jvm.MethodName) object_method_1_code (1 : Nat) (Option.none : Option Jvm.ClassFile.FieldType)).before args0 about1 = true := code_word (m := ⟨0, 0⟩) (meth := k0m0) (c := k0c0) (by decide +kernel) rfl rfl rfl (by decide +kernel)
set_option maxRecDepth 65536 in
theorem w_c3 : (Jvm.Cond.code ({ cls := "java/lang/Math", name := "max", desc := "(II)I" } : Jvm.MethodName) jdk_29_method_65_code (2 : Nat) (Option.some Jvm.ClassFile.FieldType.int)).before args0 about1 = true := code_word (m := ⟨3, 1⟩) (meth := k3m1) (c := k3c1) (by decide +kernel) rfl rfl rfl (by decide +kernel)
set_option maxRecDepth 65536 in
theorem w_c4 : (Jvm.Cond.code ({ cls := "com/example/lens_on_archives/lensonarchives/Bytes", name := "toArray", desc := "()[B" } : Jvm.MethodName) prog_1_method_7_code (1 : Nat) (Option.some (Jvm.ClassFile.FieldType.array Jvm.ClassFile.FieldType.byte))).before args0 about1 = true := code_word (m := ⟨2, 4⟩) (meth := k2m4) (c := k2c4) (by decide +kernel) rfl rfl rfl (by decide +kernel)
set_option maxRecDepth 65536 in
theorem w_c5 : (Jvm.Cond.code ({ cls := "java/util/Arrays", name := "copyOf", desc := "([BI)[B" } : Jvm.MethodName) jdk_65_method_121_code (3 : Nat) (Option.some (Jvm.ClassFile.FieldType.array Jvm.ClassFile.FieldType.byte))).before args0 about1 = true := code_word (m := ⟨4, 1⟩) (meth := k4m1) (c := k4c1) (by decide +kernel) rfl rfl rfl (by decide +kernel)
set_option maxRecDepth 65536 in
theorem w_c6 : (Jvm.Cond.code ({ cls := "java/lang/Math", name := "min", desc := "(II)I" } : Jvm.MethodName) jdk_29_method_69_code (2 : Nat) (Option.some Jvm.ClassFile.FieldType.int)).before args0 about1 = true := code_word (m := ⟨3, 2⟩) (meth := k3m2) (c := k3c2) (by decide +kernel) rfl rfl rfl (by decide +kernel)
set_option maxRecDepth 65536 in
theorem w_c7 : (Jvm.Cond.code ({ cls := "com/example/lens_on_archives/lensonarchives/BytesToArrayPinLaw", name := "ok", desc := "([BIIIIII)Z" } : Jvm.MethodName) method_3_code (7 : Nat) (Option.some Jvm.ClassFile.FieldType.boolean)).before args0 about1 = true := code_word (m := ⟨1, 2⟩) (meth := k1m2) (c := k1c2) (by decide +kernel) rfl rfl rfl (by decide +kernel)
set_option maxRecDepth 65536 in
theorem w_c8 : (Jvm.Cond.code ({ cls := "com/example/lens_on_archives/lensonarchives/Bytes", name := "write", desc := "([B)V" } : Jvm.MethodName) prog_1_method_4_code (2 : Nat) (Option.none : Option Jvm.ClassFile.FieldType)).before args0 about1 = true := code_word (m := ⟨2, 2⟩) (meth := k2m2) (c := k2c2) (by decide +kernel) rfl rfl rfl (by decide +kernel)
set_option maxRecDepth 65536 in
theorem w_c9 : (Jvm.Cond.code ({ cls := "com/example/lens_on_archives/lensonarchives/Bytes", name := "room", desc := "(I)V" } : Jvm.MethodName) prog_1_method_8_code (2 : Nat) (Option.none : Option Jvm.ClassFile.FieldType)).before args0 about1 = true := code_word (m := ⟨2, 5⟩) (meth := k2m5) (c := k2c5) (by decide +kernel) rfl rfl rfl (by decide +kernel)
set_option maxRecDepth 65536 in
theorem w_c10 : (Jvm.Cond.code ({ cls := "com/example/lens_on_archives/lensonarchives/Bytes", name := "write", desc := "(I)V" } : Jvm.MethodName) prog_1_method_3_code (2 : Nat) (Option.none : Option Jvm.ClassFile.FieldType)).before args0 about1 = true := code_word (m := ⟨2, 1⟩) (meth := k2m1) (c := k2c1) (by decide +kernel) rfl rfl rfl (by decide +kernel)
set_option maxRecDepth 65536 in
theorem w_c11 : (Jvm.Cond.code ({ cls := "com/example/lens_on_archives/lensonarchives/Bytes", name := "truncate", desc := "(I)V" } : Jvm.MethodName) prog_1_method_6_code (2 : Nat) (Option.none : Option Jvm.ClassFile.FieldType)).before args0 about1 = true := code_word (m := ⟨2, 3⟩) (meth := k2m3) (c := k2c3) (by decide +kernel) rfl rfl rfl (by decide +kernel)
set_option maxRecDepth 65536 in
theorem w_c12 : (Jvm.Cond.code ({ cls := "com/example/lens_on_archives/lensonarchives/BytesToArrayPinLaw", name := "expect", desc := "(IIIII)B" } : Jvm.MethodName) method_2_code (5 : Nat) (Option.some Jvm.ClassFile.FieldType.byte)).before args0 about1 = true := code_word (m := ⟨1, 1⟩) (meth := k1m1) (c := k1c1) (by decide +kernel) rfl rfl rfl (by decide +kernel)
def codes1 : List Jvm.Cond := [Jvm.Cond.code x code maxLocals ret, Jvm.Cond.code ({ cls := "com/example/lens_on_archives/lensonarchives/Bytes", name := "<init>", desc := "(I)V" } : Jvm.MethodName) prog_1_method_1_code (2 : Nat) (Option.none : Option Jvm.ClassFile.FieldType), Jvm.Cond.code ({ cls := "java/lang/Object", name := "<init>", desc := "()V" } : Jvm.MethodName) object_method_1_code (1 : Nat) (Option.none : Option Jvm.ClassFile.FieldType), Jvm.Cond.code ({ cls := "java/lang/Math", name := "max", desc := "(II)I" } : Jvm.MethodName) jdk_29_method_65_code (2 : Nat) (Option.some Jvm.ClassFile.FieldType.int), Jvm.Cond.code ({ cls := "com/example/lens_on_archives/lensonarchives/Bytes", name := "toArray", desc := "()[B" } : Jvm.MethodName) prog_1_method_7_code (1 : Nat) (Option.some (Jvm.ClassFile.FieldType.array Jvm.ClassFile.FieldType.byte)), Jvm.Cond.code ({ cls := "java/util/Arrays", name := "copyOf", desc := "([BI)[B" } : Jvm.MethodName) jdk_65_method_121_code (3 : Nat) (Option.some (Jvm.ClassFile.FieldType.array Jvm.ClassFile.FieldType.byte)), Jvm.Cond.code ({ cls := "java/lang/Math", name := "min", desc := "(II)I" } : Jvm.MethodName) jdk_29_method_69_code (2 : Nat) (Option.some Jvm.ClassFile.FieldType.int), Jvm.Cond.code ({ cls := "com/example/lens_on_archives/lensonarchives/BytesToArrayPinLaw", name := "ok", desc := "([BIIIIII)Z" } : Jvm.MethodName) method_3_code (7 : Nat) (Option.some Jvm.ClassFile.FieldType.boolean), Jvm.Cond.code ({ cls := "com/example/lens_on_archives/lensonarchives/Bytes", name := "write", desc := "([B)V" } : Jvm.MethodName) prog_1_method_4_code (2 : Nat) (Option.none : Option Jvm.ClassFile.FieldType), Jvm.Cond.code ({ cls := "com/example/lens_on_archives/lensonarchives/Bytes", name := "room", desc := "(I)V" } : Jvm.MethodName) prog_1_method_8_code (2 : Nat) (Option.none : Option Jvm.ClassFile.FieldType), Jvm.Cond.code ({ cls := "com/example/lens_on_archives/lensonarchives/Bytes", name := "write", desc := "(I)V" } : Jvm.MethodName) prog_1_method_3_code (2 : Nat) (Option.none : Option Jvm.ClassFile.FieldType), Jvm.Cond.code ({ cls := "com/example/lens_on_archives/lensonarchives/Bytes", name := "truncate", desc := "(I)V" } : Jvm.MethodName) prog_1_method_6_code (2 : Nat) (Option.none : Option Jvm.ClassFile.FieldType), Jvm.Cond.code ({ cls := "com/example/lens_on_archives/lensonarchives/BytesToArrayPinLaw", name := "expect", desc := "(IIIII)B" } : Jvm.MethodName) method_2_code (5 : Nat) (Option.some Jvm.ClassFile.FieldType.byte)]
set_option maxRecDepth 65536 in
theorem codes_eq : words1.filter isCode = codes1 := rfl
theorem w_codes : ∀ c ∈ words1.filter isCode, c.before args0 about1 = true := by
  rw [codes_eq]
  intro c hc
  simp only [codes1, List.mem_cons, List.not_mem_nil, or_false] at hc
  rcases hc with rfl | rfl | rfl | rfl | rfl | rfl | rfl | rfl | rfl | rfl | rfl | rfl | rfl
  · exact w_c0
  · exact w_c1
  · exact w_c2
  · exact w_c3
  · exact w_c4
  · exact w_c5
  · exact w_c6
  · exact w_c7
  · exact w_c8
  · exact w_c9
  · exact w_c10
  · exact w_c11
  · exact w_c12
set_option maxRecDepth 65536 in
theorem w_t1 : (words1.take 24).all (fun c => isCode c || c.before args0 about1) = true := by decide +kernel
set_option maxRecDepth 65536 in
theorem w_t2 : ((words1.drop 24).take 24).all (fun c => isCode c || c.before args0 about1) = true := by decide +kernel
set_option maxRecDepth 65536 in
theorem w_t3 : ((words1.drop 24).drop 24).all (fun c => isCode c || c.before args0 about1) = true := by decide +kernel
theorem w_tables : (allAtoms (Jvm.Cond.code x code maxLocals ret :: tables_1)).before args0 about1 = true := by
  rw [allAtoms_all]
  show words1.all (fun c => c.before args0 about1) = true
  refine all_split ?_ w_codes
  rw [← List.take_append_drop 24 words1, List.all_append, w_t1, ← List.take_append_drop 24 (words1.drop 24), List.all_append, w_t2, w_t3]
  rfl
set_option maxRecDepth 65536 in
theorem w_case : (Jvm.Cond.and given_1 narrow_1).before args0 about1 = true := by decide +kernel
theorem w_applies : (headSpec (Jvm.Cond.code x code maxLocals ret :: tables_1) room_1).applies x e0.platform about1 = true :=
  (Spec.applies_iff w_frames).mpr ⟨w_running, w_runnable, w_alone, w_named, w_hears, w_ripe, w_room, w_tables⟩
theorem atStart : AtStart classFile x code maxLocals ret World_1 tables_1 room_1 Calls_1 rest_1 Pre_1 launch0 p0 e0 about1 theMethod args0 below0 :=
  ⟨lists_1, trivial, launch0.admits_env _ _ _, launch0.least_env, fairChoices_fair.cas, fairChoices_fair.clock, w_frames, w_args, w_heap, w_applies, trivial, trivial, w_case⟩
end start1
theorem witness_1 : WitnessClaimed_1 := ⟨start1.p0, start1.e0, start1.about1, start1.theMethod, start1.args0, start1.below0, start1.atStart⟩
end Jvm.Pilot.@@N@@
