import JvmDerived
import JvmDerived.Pilot.@@N@@Statement
import JvmDerived.Pilot.@@N@@Code
set_option linter.unusedVariables false
set_option linter.unusedSimpArgs false
namespace Jvm.Pilot.@@N@@
open Jvm Jvm.ClassFile Sem Op Lib Jvm.Free Jvm.Stand Jvm.LawKit Jvm.RoadKit Bundle Jvm.Pilot.@@N@@.Jvm.D
theorem own_w {a0 : Array Value} {Z : State} (hw : ∀ d ∈ tables_1, d.before a0 Z = true) (i : Nat) {d : Jvm.Cond} (h : tables_1[i]? = some d) : d.before a0 Z = true := hw _ (List.mem_of_getElem? h)
abbrev own_y0 : MethodName := ⟨"com/example/everrow/everrow/csv/CsvWriter", "fitsTabSeparated", "(Ljava/lang/String;)Z"⟩
abbrev own_y1 : MethodName := ⟨"com/example/everrow/everrow/csv/CsvWriterFitsTabSeparatedPinLaw", "breaks", "(C)Z"⟩
abbrev own_y2 : MethodName := ⟨"com/example/everrow/everrow/csv/CsvWriterFitsTabSeparatedPinLaw", "draw", "(I)C"⟩
abbrev own_y3 : MethodName := ⟨"java/lang/String", "<init>", "([C)V"⟩
abbrev own_y4 : MethodName := ⟨"java/lang/String", "<init>", "([CIILjava/lang/Void;)V"⟩
abbrev own_y5 : MethodName := ⟨"java/lang/String", "charAt", "(I)C"⟩
abbrev own_y6 : MethodName := ⟨"java/lang/String", "checkIndex", "(II)V"⟩
abbrev own_y7 : MethodName := ⟨"java/lang/String", "coder", "()B"⟩
abbrev own_y8 : MethodName := ⟨"java/lang/String", "isLatin1", "()Z"⟩
abbrev own_y9 : MethodName := ⟨"java/lang/String", "length", "()I"⟩
abbrev own_y10 : MethodName := ⟨"java/lang/StringLatin1", "charAt", "([BI)C"⟩
abbrev own_y11 : MethodName := ⟨"java/lang/StringUTF16", "charAt", "([BI)C"⟩
abbrev own_y12 : MethodName := ⟨"java/lang/StringUTF16", "checkIndex", "(I[B)V"⟩
abbrev own_y13 : MethodName := ⟨"java/lang/StringUTF16", "coderFromArrayLen", "([BI)B"⟩
abbrev own_y14 : MethodName := ⟨"java/lang/StringUTF16", "compress", "([CII)[B"⟩
abbrev own_y15 : MethodName := ⟨"java/lang/StringUTF16", "compress", "([CI[BII)I"⟩
abbrev own_y16 : MethodName := ⟨"java/lang/StringUTF16", "getChar", "([BI)C"⟩
abbrev own_y17 : MethodName := ⟨"java/lang/StringUTF16", "length", "([B)I"⟩
abbrev own_y18 : MethodName := ⟨"java/lang/StringUTF16", "newBytesFor", "(I)[B"⟩
abbrev own_y19 : MethodName := ⟨"java/lang/StringUTF16", "newBytesLength", "(I)I"⟩
abbrev own_y20 : MethodName := ⟨"java/lang/StringUTF16", "putChar", "([BII)V"⟩
abbrev own_y21 : MethodName := ⟨"java/lang/StringUTF16", "toBytes", "([CII)[B"⟩
abbrev own_y22 : MethodName := ⟨"jdk/internal/util/Preconditions", "checkIndex", "(IILjava/util/function/BiFunction;)I"⟩
abbrev own_r0 : Room := { frames := 0, cells := 0, slots := 0, locals := 0 }
abbrev own_r1 : Room := { frames := 1, cells := 0, slots := 0, locals := 13 }
abbrev own_r2 : Room := { frames := 1, cells := 0, slots := 0, locals := 14 }
abbrev own_r3 : Room := { frames := 1, cells := 1, slots := 2, locals := 12 }
abbrev own_r4 : Room := { frames := 1, cells := 1, slots := 4, locals := 12 }
abbrev own_r5 : Room := { frames := 1, cells := 1, slots := 6, locals := 12 }
abbrev own_r6 : Room := { frames := 1, cells := 1, slots := 8, locals := 12 }
abbrev own_r7 : Room := { frames := 1, cells := 4, slots := 8, locals := 12 }
abbrev own_r8 : Room := { frames := 2, cells := 0, slots := 0, locals := 26 }
abbrev own_r9 : Room := { frames := 2, cells := 0, slots := 0, locals := 27 }
abbrev own_r10 : Room := { frames := 2, cells := 1, slots := 2, locals := 24 }
abbrev own_r11 : Room := { frames := 2, cells := 1, slots := 4, locals := 24 }
abbrev own_r12 : Room := { frames := 2, cells := 1, slots := 6, locals := 24 }
abbrev own_r13 : Room := { frames := 2, cells := 1, slots := 8, locals := 24 }
abbrev own_r14 : Room := { frames := 2, cells := 4, slots := 8, locals := 29 }
abbrev own_r15 : Room := { frames := 3, cells := 0, slots := 0, locals := 40 }
abbrev own_r16 : Room := { frames := 3, cells := 2, slots := 12, locals := 40 }
abbrev own_r17 : Room := { frames := 3, cells := 2, slots := 3, locals := 40 }
abbrev own_r18 : Room := { frames := 3, cells := 2, slots := 6, locals := 40 }
abbrev own_r19 : Room := { frames := 3, cells := 2, slots := 9, locals := 40 }
abbrev own_r20 : Room := { frames := 4, cells := 0, slots := 0, locals := 53 }
abbrev own_r21 : Room := { frames := 4, cells := 2, slots := 12, locals := 57 }
abbrev own_r22 : Room := { frames := 4, cells := 2, slots := 3, locals := 57 }
abbrev own_r23 : Room := { frames := 4, cells := 2, slots := 6, locals := 57 }
abbrev own_r24 : Room := { frames := 4, cells := 2, slots := 9, locals := 57 }
abbrev own_r25 : Room := { frames := 5, cells := 0, slots := 0, locals := 66 }
abbrev own_r26 : Room := { frames := 5, cells := 2, slots := 12, locals := 74 }
abbrev own_r27 : Room := { frames := 5, cells := 2, slots := 3, locals := 74 }
abbrev own_r28 : Room := { frames := 5, cells := 2, slots := 6, locals := 74 }
abbrev own_r29 : Room := { frames := 5, cells := 2, slots := 9, locals := 74 }
theorem own_2z {a b : Nat} (h : 2 * 0 + a = b := by rfl) : 2 * 0 + a ≤ b := Nat.le_of_eq h
section OwnKit
variable {p : Program} {l : Launch} {e : Env} {R : Room} {s : State} {m : MethodId} {args : Array Value} {below : List Frame} {meth : Method} {c : Code} {T : State} {locs : List Loc} {cells slots : Nat}
/-- from T the run comes to an end of which F holds -/
def oG (p : Program) (e : Env) (below : List Frame) (F : State → Outcome → Prop) (T : State) : Prop := ∃ t o, Steps p.tables e below T t ∧ t.status = .running ∧ Ended t below o ∧ F t o
theorem oS {F : State → Outcome → Prop} {A B : State} (k : ∀ t, Steps p.tables e below A t → Steps p.tables e below B t) (h : oG p e below F A) : oG p e below F B := by
  obtain ⟨t, o, h1, h2⟩ := h
  exact ⟨t, o, k t h1, h2⟩
theorem own_in {F : State → Outcome → Prop} {A B : State} (k : ∀ {t}, Steps p.tables e below A t → Steps p.tables e below B t) (h : oG p e below F A) : ∃ t o, Steps p.tables e below B t ∧ t.status = .running ∧ Ended t below o ∧ F t o := by
  obtain ⟨t, o, h1, h2⟩ := h
  exact ⟨t, o, k h1, h2⟩
theorem own_retI (X : Stand p l e R s m args below meth c T locs cells slots) (hx : p.tables.exec = Jvm.exec) {pc : Nat} {Ls : Array Slot} {z : Int32} {rest : List Value} (hret : meth.sig.returnType = some .int) (hd : decode c.code pc = .ok (.ireturn, 1)) {fs : List Frame}
    (hl : ∀ (f : JFrame) (acts : List Action), f.method = m → f.locked = none → f.entered = [] → (doReturn e (T.setTop f) acts (some (.int z))).1 = T.setFrames fs) : Steps p.tables e below (T.setTop (mkF m pc Ls (.int z :: rest))) (T.setFrames fs) :=
  retOut X hx hret rfl (Or.inl ⟨rfl, Or.inl rfl, _, rfl⟩) hd hl
theorem own_join {α : Type} {F : State → Outcome → Prop} {B : State} {H : Heap} (X : Stand p l e R s m args below meth c T locs cells slots) (eT : T.heap = H) (A : State → α → State) (Pr : α → Prop)
    (h1 : ∀ T' a, Stand p l e R s m args below meth c T' locs cells slots → T'.heap = H → Pr a → oG p e below F (A T' a))
    (h2 : (∀ T' a, Stand p l e R s m args below meth c T' locs cells slots → T'.heap = H → Pr a → oG p e below F (A T' a)) → oG p e below F B) : oG p e below F B := h2 h1
theorem own_sta {args : Array Value} {s : State} {C n d K : String} (h : (Jvm.Cond.exactly (.static C n d) K).value args s none s [] = some true) (w1 : (Jvm.Cond.initialized C).before args s = true) (w2 : (Jvm.Cond.laysStatic C n d).before args s = true) :
    ∃ a, (Term.static C n d).eval args s none [] s = some (.ref a) ∧ Sta s s.heap C n d (.ref a) ∧ Exa s s.heap a K := by
  obtain ⟨a, ea⟩ := exa_v h
  exact ⟨a, ea, Sta.start ea (Or.inr ⟨w1, w2⟩), Exa.start ea h⟩
theorem own_staF {args : Array Value} {s : State} {t : Term} {C n d : String} {a : Addr} {k : Int32} (ea : t.eval args s none [] s = some (.ref a)) (h : (Jvm.Cond.eq (.field t C n d) (.int k)).value args s none s [] = some true) : Fld s s.heap a C n d (.int k) := by
  obtain ⟨x, y, e1, e2, -, -⟩ := cmp_v (Or.inl h)
  cases (Term.int_eval k).symm.trans e2
  have e3 : x = .int k := by
    cases x <;> simp [Cond.value, e1, Term.int_eval] at h
    rw [h]
  rw [fld_at ea, e3] at e1
  exact Fld.start e1
end OwnKit

def own_zero : Nat → Int32 := fun _ => 0
def own_upd (g : Nat → Int32) (j : Nat) (v : Int32) : Nat → Int32 := fun i => if i = j then v else g i
def own_cut (g : Nat → Int32) (n : Int32) : Nat → Int32 := fun i => if i < n.toNatClampNeg then g i else 0
def own_vs (n : Int32) (g : Nat → Int32) : List Value := (List.range n.toNatClampNeg).map fun i => Value.int (g i)
/-- at b lies a byte[] of length n whose places hold g -/
def own_By (Z : State) (h : Heap) (b : Addr) (n : Int32) (g : Nat → Int32) : Prop := ∃ k, Arv Z h b k .byte n (own_vs n g) (.int (0 : Int32))
theorem own_vs_get (n : Int32) (g : Nat → Int32) (i : Nat) (hi : i < n.toNatClampNeg) : (own_vs n g).getD i (.int (0 : Int32)) = .int (g i) := by
  simp [own_vs, List.getD, List.getElem?_map, List.getElem?_range hi]
theorem own_vs_len (n : Int32) (g : Nat → Int32) : (own_vs n g).length = n.toNatClampNeg := by simp [own_vs]
section OwnBy
variable {Z : State} {h h' : Heap} {a b : Addr} {n : Int32} {g : Nat → Int32} {ws : List Addr} {sl : Nat} {v : Value}
theorem own_By.ext (F : own_By Z h b n g) (E : Ext h h') : own_By Z h' b n g := by obtain ⟨k, A⟩ := F; exact ⟨k, A.ext E⟩
theorem own_By.other (F : own_By Z h b n g) (W : Wr h h' a sl v) (q : b ≠ a) : own_By Z h' b n g := by obtain ⟨k, A⟩ := F; exact ⟨k, A.other W q⟩
theorem own_By.keep (F : own_By Z h b n g) (K : Keep h h' ws) (q : b ∉ ws) : own_By Z h' b n g := by obtain ⟨k, A⟩ := F; exact ⟨k, A.keep K q⟩
theorem own_By.lt (F : own_By Z h b n g) : b < h.size := by obtain ⟨k, A⟩ := F; exact A.lt
theorem own_By.mk {k : ClassId} {vs : List Value} {d : Value} (A : Arv Z h b k .byte n vs d) (q : ∀ i, i < n.toNatClampNeg → vs.getD i d = .int (g i)) : own_By Z h b n g := by
  obtain ⟨c, A, r1, r2, r3, H, G⟩ := A
  refine ⟨k, ⟨c, A, r1, r2, r3, fun i hi => ?_, fun i hi => ?_⟩⟩
  · rw [own_vs_get n g i (by rw [← r2]; exact hi), ← q i (by rw [← r2]; exact hi)]; exact H i hi
  · rw [own_vs_get n g i (by rw [← r2]; exact hi), ← q i (by rw [← r2]; exact hi)]; exact G i hi
theorem own_By.congr {g' : Nat → Int32} (F : own_By Z h b n g) (q : ∀ i, i < n.toNatClampNeg → g i = g' i) : own_By Z h b n g' := by
  obtain ⟨k, A⟩ := F
  exact own_By.mk A fun i hi => by rw [own_vs_get n g i hi, q i hi]
theorem own_By.new {k : ClassId} (A : Arr Z h b (newA k .byte n) .byte) (q : ¬ n < 0) : own_By Z h b n own_zero :=
  own_By.mk (Arv.new A q) fun i hi => rfl
theorem own_By.opened (F : own_By Z h b n g) : ∃ cl : Cell, Arr Z h b cl .byte ∧ cl.slots.size = n.toNatClampNeg ∧ ¬ n < 0 ∧ ∀ j : Int32, ¬ (j < 0 ∨ cl.slots.size ≤ j.toNatClampNeg) → cl.slots[j.toNatClampNeg]? = some (.int (g j.toNatClampNeg)) := by
  obtain ⟨k, c, A, r1, r2, r3, H, G⟩ := F
  refine ⟨c, A, r2, r3, fun j hj => ?_⟩
  have hlt : j.toNatClampNeg < c.slots.size := Nat.lt_of_not_le fun y => hj (Or.inr y)
  rw [H _ hlt, own_vs_get n g _ (by rw [← r2]; exact hlt)]
theorem own_By.set {j x : Int32} (F : own_By Z h b n g) (W : Wr h h' b j.toNatClampNeg (.int x.toInt8.toInt32)) (hj : ¬ j < 0 ∧ j < n) : own_By Z h' b n (own_upd g j.toNatClampNeg x.toInt8.toInt32) := by
  obtain ⟨k, c, A, r1, r2, r3, H, G⟩ := F
  have hin := inb_of r2 hj
  have hlt : j.toNatClampNeg < n.toNatClampNeg := by rw [← r2]; exact Nat.lt_of_not_le fun y => hin (Or.inr y)
  refine own_By.mk (Arv.set A r1 r2 r3 H G (fits_nar_byte _) W j.toNatClampNeg rfl (by rw [own_vs_len]; exact hlt)) fun i hi => ?_
  by_cases e : i = j.toNatClampNeg
  · subst e
    simp [own_upd, List.getD, List.getElem?_set, own_vs_len, hlt]
  · have := own_vs_get n g i hi
    simp only [List.getD] at this ⊢
    rw [List.getElem?_set_ne (fun q => e q.symm), this]
    simp [own_upd, e]
end OwnBy

def own_c1 (u : Int32) : Int32 := nar .char ((u &&& (255 : Int32)).toUInt32.toUInt16.toUInt32.toInt32)
def own_gc (lo hi : Int32) : Int32 := nar .char ((((lo &&& (255 : Int32)) <<< ((0 : Int32) &&& 31)) ||| ((hi &&& (255 : Int32)) <<< ((8 : Int32) &&& 31))).toUInt32.toUInt16.toUInt32.toInt32)
def own_bl (c : Int32) : Int32 := ((c >>> ((0 : Int32) &&& 31)).toInt8.toInt32).toInt8.toInt32
def own_bh (c : Int32) : Int32 := ((c >>> ((8 : Int32) &&& 31)).toInt8.toInt32).toInt8.toInt32
def own_lb (c : Int32) : Int32 := (c.toInt8.toInt32).toInt8.toInt32
def own_draw (x : Int32) : Int32 := if (x &&& (3 : Int32)) = (0 : Int32) then nar .char (((x.toUInt32 >>> ((16 : Int32) &&& 31).toUInt32).toInt32).toUInt32.toUInt16.toUInt32.toInt32) else nar .char (((8 : Int32) + (((x.toUInt32 >>> ((2 : Int32) &&& 31).toUInt32).toInt32) &&& (7 : Int32))).toUInt32.toUInt16.toUInt32.toInt32)
def own_R (c : Int32) : Prop := 0 ≤ c.toInt ∧ c.toInt ≤ 65535
theorem own_narR (c : Int32) : own_R (nar .char c) := by
  have h := c_i2c c
  exact ⟨h.2.1, by have := h.2.2; show c.toUInt32.toUInt16.toUInt32.toInt32.toInt ≤ 65535; omega⟩
theorem own_narI {c : Int32} (h : own_R c) : nar .char c = c := by
  apply Int32.toInt_inj.mp
  have q := c_i2c c
  show c.toUInt32.toUInt16.toUInt32.toInt32.toInt = c.toInt
  have := h.1
  have := h.2
  omega
theorem own_drawR (x : Int32) : own_R (own_draw x) := by
  unfold own_draw
  split <;> exact own_narR _
theorem own_lat {c : Int32} (h : own_R c) (q : ¬ (255 : Int32) < c) : nar .char (own_c1 (own_lb c)) = c := by
  apply Int32.toInt_inj.mp
  rw [Int32.lt_iff_toInt_lt] at q
  have k : (255 : Int32).toInt = 255 := by decide
  have h1 := h.1
  have h2 := h.2
  have b1 := c_i2b c
  have b2 := c_i2b c.toInt8.toInt32
  have m1 := c_mask (own_lb c) 255 8 (by decide) (by decide)
  have e1 := c_i2c (own_lb c &&& 255)
  have e2 := c_i2c ((own_lb c &&& 255).toUInt32.toUInt16.toUInt32.toInt32)
  have e3 := c_i2c (own_c1 (own_lb c))
  have d1 : (own_c1 (own_lb c)).toInt = ((own_lb c &&& 255).toUInt32.toUInt16.toUInt32.toInt32).toUInt32.toUInt16.toUInt32.toInt32.toInt := rfl
  have d2 : (nar .char (own_c1 (own_lb c))).toInt = (own_c1 (own_lb c)).toUInt32.toUInt16.toUInt32.toInt32.toInt := rfl
  have d3 : (own_lb c).toInt = (c.toInt8.toInt32).toInt8.toInt32.toInt := rfl
  have p8 : ((2 ^ 8 : Nat) : Int) = 256 := by decide
  rw [p8] at m1
  omega
theorem own_utf {c : Int32} (h : own_R c) : nar .char (nar .char (own_gc (own_bl c) (own_bh c))) = c := by
  have h1 := h.1
  have h2 := h.2
  have s0 := c_ishr c 0 0 (by decide)
  have s8 := c_ishr c 8 8 (by decide)
  have a1 := c_i2b (c >>> ((0 : Int32) &&& 31))
  have a2 := c_i2b ((c >>> ((0 : Int32) &&& 31)).toInt8.toInt32)
  have b1 := c_i2b (c >>> ((8 : Int32) &&& 31))
  have b2 := c_i2b ((c >>> ((8 : Int32) &&& 31)).toInt8.toInt32)
  have dl : (own_bl c).toInt = ((c >>> ((0 : Int32) &&& 31)).toInt8.toInt32).toInt8.toInt32.toInt := rfl
  have dh : (own_bh c).toInt = ((c >>> ((8 : Int32) &&& 31)).toInt8.toInt32).toInt8.toInt32.toInt := rfl
  have m1 := c_mask (own_bl c) 255 8 (by decide) (by decide)
  have m2 := c_mask (own_bh c) 255 8 (by decide) (by decide)
  have p8 : ((2 ^ 8 : Nat) : Int) = 256 := by decide
  have p0 : ((2 ^ 0 : Nat) : Int) = 1 := by decide
  rw [p8] at m1 m2 s8
  rw [p0] at s0
  have t1 := c_ishl (own_bl c &&& 255) 0 0 (by decide)
  have t2 := c_ishl (own_bh c &&& 255) 8 8 (by decide)
  rw [p0] at t1
  rw [p8] at t2
  have r1 := rng32 ((own_bl c &&& 255) <<< ((0 : Int32) &&& 31))
  have r2 := rng32 ((own_bh c &&& 255) <<< ((8 : Int32) &&& 31))
  have o1 := c_or' ((own_bl c &&& 255) <<< ((0 : Int32) &&& 31)) ((own_bh c &&& 255) <<< ((8 : Int32) &&& 31)) 8 (by decide) 256 (by decide) (by omega) (by omega) (by omega)
  have r3 := rng32 (((own_bl c &&& 255) <<< ((0 : Int32) &&& 31)) ||| ((own_bh c &&& 255) <<< ((8 : Int32) &&& 31)))
  have e0 : (((own_bl c &&& 255) <<< ((0 : Int32) &&& 31)) ||| ((own_bh c &&& 255) <<< ((8 : Int32) &&& 31))) = c := by
    apply Int32.toInt_inj.mp
    omega
  have i1 : own_gc (own_bl c) (own_bh c) = c := by
    unfold own_gc
    rw [e0]
    show nar .char (nar .char c) = c
    rw [own_narI h, own_narI h]
  rw [i1, own_narI h, own_narI h]
theorem own_gcE {c : Int32} (h : own_R c) : own_gc (own_bl c) (own_bh c) = c := by
  have q := own_utf h
  have r := own_narR ((((own_bl c &&& (255 : Int32)) <<< ((0 : Int32) &&& 31)) ||| ((own_bh c &&& (255 : Int32)) <<< ((8 : Int32) &&& 31))).toUInt32.toUInt16.toUInt32.toInt32)
  have r' : own_R (own_gc (own_bl c) (own_bh c)) := r
  rw [own_narI r', own_narI r'] at q
  exact q
def own_brk (c : Int32) : Int32 := if c = (9 : Int32) then 1 else if c = (10 : Int32) then 1 else if c = (13 : Int32) then 1 else 0
theorem own_brkN {c : Int32} (h1 : ¬ c = (9 : Int32)) (h2 : ¬ c = (13 : Int32)) (h3 : ¬ c = (10 : Int32)) : own_brk c = (0 : Int32) := by
  unfold own_brk
  rw [if_neg h1, if_neg h3, if_neg h2]
theorem own_brkY {c k : Int32} (h : c = k) (q : ¬ own_brk k = (0 : Int32)) : ¬ own_brk c = (0 : Int32) := by rw [h]; exact q
theorem own_shr0 (x : Int32) : (x >>> ((0 : Int32) &&& 31)) = x := by
  apply Int32.toInt_inj.mp
  rw [c_ishr x 0 0 (by decide)]
  simp
/-- the String at a has the length z and the chars g -/
def own_S (Z : State) (h : Heap) (a : Addr) (z : Int32) (g : Nat → Int32) : Prop :=
  (∃ b f, Exa Z h a "java/lang/String" ∧ Fld Z h a "java/lang/String" "value" "[B" (.ref b) ∧ Fld Z h a "java/lang/String" "coder" "B" (.int (0 : Int32)) ∧ own_By Z h b z f ∧ ∀ i, i < z.toNatClampNeg → nar .char (own_c1 (f i)) = g i) ∨
  (∃ b n f, Exa Z h a "java/lang/String" ∧ Fld Z h a "java/lang/String" "value" "[B" (.ref b) ∧ Fld Z h a "java/lang/String" "coder" "B" (.int (1 : Int32)) ∧ own_By Z h b n f ∧ (n >>> ((1 : Int32) &&& 31)) = z ∧
    ∀ j : Int32, ¬ j < (0 : Int32) → j < z → (¬ (j <<< ((1 : Int32) &&& 31)) < (0 : Int32) ∧ (j <<< ((1 : Int32) &&& 31)) < n) ∧ (¬ ((j <<< ((1 : Int32) &&& 31)) + (1 : Int32)) < (0 : Int32) ∧ ((j <<< ((1 : Int32) &&& 31)) + (1 : Int32)) < n) ∧
      nar .char (nar .char (own_gc (f (j <<< ((1 : Int32) &&& 31)).toNatClampNeg) (f ((j <<< ((1 : Int32) &&& 31)) + (1 : Int32)).toNatClampNeg))) = g j.toNatClampNeg)
theorem own_lt_nat {j z : Int32} (h1 : ¬ j < (0 : Int32)) (h2 : j < z) : j.toNatClampNeg < z.toNatClampNeg := by
  have a1 := nat_of h1
  rw [Int32.lt_iff_toInt_lt] at h2 h1
  have k0 : (0 : Int32).toInt = 0 := by decide
  have a2 := nat_of (j := z) (by rw [Int32.lt_iff_toInt_lt]; omega)
  omega

def own_gl (l : List Int32) : Nat → Int32 := fun i => l.getD i 0
theorem own_S.exa {Z : State} {h : Heap} {a : Addr} {z : Int32} {g : Nat → Int32} (S : own_S Z h a z g) : Exa Z h a "java/lang/String" := by
  rcases S with ⟨_, _, E, _⟩ | ⟨_, _, _, E, _⟩ <;> exact E
theorem own_latP1 (c0 : Int32) (r0 : own_R c0) (q0 : ¬ (255 : Int32) < c0) : ∀ i, i < (1 : Int32).toNatClampNeg → nar .char (own_c1 ((own_upd own_zero (0 : Int32).toNatClampNeg (own_lb c0)) i)) = own_gl [c0] i := by
  intro i hi
  have e : (1 : Int32).toNatClampNeg = 1 := by decide
  have q : i = 0 := by omega
  rcases q with rfl
  · exact own_lat r0 q0
theorem own_utfP1 (c0 : Int32) (r0 : own_R c0) : ∀ j : Int32, ¬ j < (0 : Int32) → j < (1 : Int32) → (¬ (j <<< ((1 : Int32) &&& 31)) < (0 : Int32) ∧ (j <<< ((1 : Int32) &&& 31)) < (2 : Int32)) ∧ (¬ ((j <<< ((1 : Int32) &&& 31)) + (1 : Int32)) < (0 : Int32) ∧ ((j <<< ((1 : Int32) &&& 31)) + (1 : Int32)) < (2 : Int32)) ∧
      nar .char (nar .char (own_gc ((own_upd (own_upd own_zero 0 (own_bl c0)) (0 + 1) (own_bh c0)) (j <<< ((1 : Int32) &&& 31)).toNatClampNeg) ((own_upd (own_upd own_zero 0 (own_bl c0)) (0 + 1) (own_bh c0)) ((j <<< ((1 : Int32) &&& 31)) + (1 : Int32)).toNatClampNeg))) = own_gl [c0] j.toNatClampNeg := by
  intro j h1 h2
  rw [Int32.lt_iff_toInt_lt] at h1 h2
  have k0 : (0 : Int32).toInt = 0 := by decide
  have k1 : (1 : Int32).toInt = 1 := by decide
  have q : j.toInt = 0 := by omega
  have q2 : j = 0 := by
    simp only [← Int32.toInt_inj]
    exact q
  rcases q2 with rfl
  · exact ⟨by decide, by decide, own_utf r0⟩
theorem own_latP2 (c0 c1 : Int32) (r0 : own_R c0) (r1 : own_R c1) (q0 : ¬ (255 : Int32) < c0) (q1 : ¬ (255 : Int32) < c1) : ∀ i, i < (2 : Int32).toNatClampNeg → nar .char (own_c1 ((own_upd (own_upd own_zero (0 : Int32).toNatClampNeg (own_lb c0)) (1 : Int32).toNatClampNeg (own_lb c1)) i)) = own_gl [c0, c1] i := by
  intro i hi
  have e : (2 : Int32).toNatClampNeg = 2 := by decide
  have q : i = 0 ∨ i = 1 := by omega
  rcases q with rfl | rfl
  · exact own_lat r0 q0
  · exact own_lat r1 q1
theorem own_utfP2 (c0 c1 : Int32) (r0 : own_R c0) (r1 : own_R c1) : ∀ j : Int32, ¬ j < (0 : Int32) → j < (2 : Int32) → (¬ (j <<< ((1 : Int32) &&& 31)) < (0 : Int32) ∧ (j <<< ((1 : Int32) &&& 31)) < (4 : Int32)) ∧ (¬ ((j <<< ((1 : Int32) &&& 31)) + (1 : Int32)) < (0 : Int32) ∧ ((j <<< ((1 : Int32) &&& 31)) + (1 : Int32)) < (4 : Int32)) ∧
      nar .char (nar .char (own_gc ((own_upd (own_upd (own_upd (own_upd own_zero 0 (own_bl c0)) (0 + 1) (own_bh c0)) 2 (own_bl c1)) (2 + 1) (own_bh c1)) (j <<< ((1 : Int32) &&& 31)).toNatClampNeg) ((own_upd (own_upd (own_upd (own_upd own_zero 0 (own_bl c0)) (0 + 1) (own_bh c0)) 2 (own_bl c1)) (2 + 1) (own_bh c1)) ((j <<< ((1 : Int32) &&& 31)) + (1 : Int32)).toNatClampNeg))) = own_gl [c0, c1] j.toNatClampNeg := by
  intro j h1 h2
  rw [Int32.lt_iff_toInt_lt] at h1 h2
  have k0 : (0 : Int32).toInt = 0 := by decide
  have k1 : (2 : Int32).toInt = 2 := by decide
  have q : j.toInt = 0 ∨ j.toInt = 1 := by omega
  have q2 : j = 0 ∨ j = 1 := by
    simp only [← Int32.toInt_inj]
    exact q
  rcases q2 with rfl | rfl
  · exact ⟨by decide, by decide, own_utf r0⟩
  · exact ⟨by decide, by decide, own_utf r1⟩
theorem own_latP3 (c0 c1 c2 : Int32) (r0 : own_R c0) (r1 : own_R c1) (r2 : own_R c2) (q0 : ¬ (255 : Int32) < c0) (q1 : ¬ (255 : Int32) < c1) (q2 : ¬ (255 : Int32) < c2) : ∀ i, i < (3 : Int32).toNatClampNeg → nar .char (own_c1 ((own_upd (own_upd (own_upd own_zero (0 : Int32).toNatClampNeg (own_lb c0)) (1 : Int32).toNatClampNeg (own_lb c1)) (2 : Int32).toNatClampNeg (own_lb c2)) i)) = own_gl [c0, c1, c2] i := by
  intro i hi
  have e : (3 : Int32).toNatClampNeg = 3 := by decide
  have q : i = 0 ∨ i = 1 ∨ i = 2 := by omega
  rcases q with rfl | rfl | rfl
  · exact own_lat r0 q0
  · exact own_lat r1 q1
  · exact own_lat r2 q2
theorem own_utfP3 (c0 c1 c2 : Int32) (r0 : own_R c0) (r1 : own_R c1) (r2 : own_R c2) : ∀ j : Int32, ¬ j < (0 : Int32) → j < (3 : Int32) → (¬ (j <<< ((1 : Int32) &&& 31)) < (0 : Int32) ∧ (j <<< ((1 : Int32) &&& 31)) < (6 : Int32)) ∧ (¬ ((j <<< ((1 : Int32) &&& 31)) + (1 : Int32)) < (0 : Int32) ∧ ((j <<< ((1 : Int32) &&& 31)) + (1 : Int32)) < (6 : Int32)) ∧
      nar .char (nar .char (own_gc ((own_upd (own_upd (own_upd (own_upd (own_upd (own_upd own_zero 0 (own_bl c0)) (0 + 1) (own_bh c0)) 2 (own_bl c1)) (2 + 1) (own_bh c1)) 4 (own_bl c2)) (4 + 1) (own_bh c2)) (j <<< ((1 : Int32) &&& 31)).toNatClampNeg) ((own_upd (own_upd (own_upd (own_upd (own_upd (own_upd own_zero 0 (own_bl c0)) (0 + 1) (own_bh c0)) 2 (own_bl c1)) (2 + 1) (own_bh c1)) 4 (own_bl c2)) (4 + 1) (own_bh c2)) ((j <<< ((1 : Int32) &&& 31)) + (1 : Int32)).toNatClampNeg))) = own_gl [c0, c1, c2] j.toNatClampNeg := by
  intro j h1 h2
  rw [Int32.lt_iff_toInt_lt] at h1 h2
  have k0 : (0 : Int32).toInt = 0 := by decide
  have k1 : (3 : Int32).toInt = 3 := by decide
  have q : j.toInt = 0 ∨ j.toInt = 1 ∨ j.toInt = 2 := by omega
  have q2 : j = 0 ∨ j = 1 ∨ j = 2 := by
    simp only [← Int32.toInt_inj]
    exact q
  rcases q2 with rfl | rfl | rfl
  · exact ⟨by decide, by decide, own_utf r0⟩
  · exact ⟨by decide, by decide, own_utf r1⟩
  · exact ⟨by decide, by decide, own_utf r2⟩
theorem own_latP4 (c0 c1 c2 c3 : Int32) (r0 : own_R c0) (r1 : own_R c1) (r2 : own_R c2) (r3 : own_R c3) (q0 : ¬ (255 : Int32) < c0) (q1 : ¬ (255 : Int32) < c1) (q2 : ¬ (255 : Int32) < c2) (q3 : ¬ (255 : Int32) < c3) : ∀ i, i < (4 : Int32).toNatClampNeg → nar .char (own_c1 ((own_upd (own_upd (own_upd (own_upd own_zero (0 : Int32).toNatClampNeg (own_lb c0)) (1 : Int32).toNatClampNeg (own_lb c1)) (2 : Int32).toNatClampNeg (own_lb c2)) (3 : Int32).toNatClampNeg (own_lb c3)) i)) = own_gl [c0, c1, c2, c3] i := by
  intro i hi
  have e : (4 : Int32).toNatClampNeg = 4 := by decide
  have q : i = 0 ∨ i = 1 ∨ i = 2 ∨ i = 3 := by omega
  rcases q with rfl | rfl | rfl | rfl
  · exact own_lat r0 q0
  · exact own_lat r1 q1
  · exact own_lat r2 q2
  · exact own_lat r3 q3
theorem own_utfP4 (c0 c1 c2 c3 : Int32) (r0 : own_R c0) (r1 : own_R c1) (r2 : own_R c2) (r3 : own_R c3) : ∀ j : Int32, ¬ j < (0 : Int32) → j < (4 : Int32) → (¬ (j <<< ((1 : Int32) &&& 31)) < (0 : Int32) ∧ (j <<< ((1 : Int32) &&& 31)) < (8 : Int32)) ∧ (¬ ((j <<< ((1 : Int32) &&& 31)) + (1 : Int32)) < (0 : Int32) ∧ ((j <<< ((1 : Int32) &&& 31)) + (1 : Int32)) < (8 : Int32)) ∧
      nar .char (nar .char (own_gc ((own_upd (own_upd (own_upd (own_upd (own_upd (own_upd (own_upd (own_upd own_zero 0 (own_bl c0)) (0 + 1) (own_bh c0)) 2 (own_bl c1)) (2 + 1) (own_bh c1)) 4 (own_bl c2)) (4 + 1) (own_bh c2)) 6 (own_bl c3)) (6 + 1) (own_bh c3)) (j <<< ((1 : Int32) &&& 31)).toNatClampNeg) ((own_upd (own_upd (own_upd (own_upd (own_upd (own_upd (own_upd (own_upd own_zero 0 (own_bl c0)) (0 + 1) (own_bh c0)) 2 (own_bl c1)) (2 + 1) (own_bh c1)) 4 (own_bl c2)) (4 + 1) (own_bh c2)) 6 (own_bl c3)) (6 + 1) (own_bh c3)) ((j <<< ((1 : Int32) &&& 31)) + (1 : Int32)).toNatClampNeg))) = own_gl [c0, c1, c2, c3] j.toNatClampNeg := by
  intro j h1 h2
  rw [Int32.lt_iff_toInt_lt] at h1 h2
  have k0 : (0 : Int32).toInt = 0 := by decide
  have k1 : (4 : Int32).toInt = 4 := by decide
  have q : j.toInt = 0 ∨ j.toInt = 1 ∨ j.toInt = 2 ∨ j.toInt = 3 := by omega
  have q2 : j = 0 ∨ j = 1 ∨ j = 2 ∨ j = 3 := by
    simp only [← Int32.toInt_inj]
    exact q
  rcases q2 with rfl | rfl | rfl | rfl
  · exact ⟨by decide, by decide, own_utf r0⟩
  · exact ⟨by decide, by decide, own_utf r1⟩
  · exact ⟨by decide, by decide, own_utf r2⟩
  · exact ⟨by decide, by decide, own_utf r3⟩

section OwnBackC
variable {p : Program} {l : Launch} {e : Env} {R : Room} {s : State} {args : Array Value} {below : List Frame} {Z : State} {a0 : Array Value} {EL : List (String × Nat)} {h : Heap} {vm0 : Vm} {x : Addr}
/-- a callee that may load a constant of EL, and writes the object x, which is none of the booked Strings -/
theorem own_backC {y : MethodName} {bytes : ByteArray} {maxL : Nat} {ret : Option FieldType} {rm : Room} {len W : Nat} {as' : Array Value} {Q : Option Value → Heap → List Loc → Prop}
    (hM : MetFree l y (head1 [Jvm.Cond.code y bytes maxL ret] rm) (fun a U => a = as' ∧ Z.Warmed39 U.vm ∧ U.heap = h ∧ CHv Z EL U.vm h ∧ Safe Z EL U.vm h x) (fun _ _ _ _ _ => True) (fun _ U o U' => ∃ v L, o = .returned v ∧ Q v U'.heap L ∧ ReturnedEndW U o U' L rm.cells rm.slots))
    (hZ : Z.Warmed39 vm0) (wc : (Jvm.Cond.code y bytes maxL ret).before a0 Z = true) (wz : (Jvm.Cond.initialized y.cls).before a0 Z = true) (hf : rm.frames + 1 ≤ R.frames) (hl : W + (maxL + 11) + rm.locals ≤ R.locals) (hEL : EW Z a0 EL) (H : CHv Z EL vm0 h) (hlt : x < h.size) (S : Safe Z EL vm0 h x) :
    BackS l R p e below (s.setVm vm0) args y len W (fun A a => a = as' ∧ A.U.heap = h ∧ A.cells + rm.cells ≤ R.cells ∧ A.slots + rm.slots ≤ R.slots)
      (fun A _ v B => ∃ L, Q v B.U.heap L ∧ B.locs = A.locs ++ L ∧ B.cells = A.cells + rm.cells ∧ B.slots = A.slots + rm.slots) := by
  refine BackS.of_freeW (bytes := bytes) (maxL := maxL) (ret := ret) (E := fun _ _ o t L k n => k = rm.cells ∧ n = rm.slots ∧ ∃ v, o = .returned v ∧ Q v t.heap L) hM hf hl ?_ ?_ ?_ ?_ ?_
  · intro m meth c A a Y hp
    have hU : Z.Warmed39 A.U.vm := wtrans (s := s.setVm vm0) hZ Y.warmed
    exact ⟨by show (Jvm.Cond.and _ .tt).before a A.U = true; rw [Cond.before_and, mv hU wc]; rfl, mv hU wc, mv hU wz, hp.2.2.1, hp.2.2.2⟩
  · intro m meth c A a g mk Y hp
    have r := CHv.at Y hZ hEL H
    exact ⟨hp.1, wtrans (s := s.setVm vm0) hZ Y.warmed, hp.2.1, r.1, r.safe hlt S⟩
  · intros; trivial
  · rintro a first o t ⟨v, L, h1, h2, h3⟩
    exact ⟨L, _, _, h3, rfl, rfl, v, h1, h2⟩
  · rintro m meth c A a g mk v t L k n Y hp - - ⟨e1, e2, v', e3, e4⟩
    cases e3
    subst e1 e2
    exact ⟨L, e4, rfl, rfl, rfl⟩
end OwnBackC

theorem own_sA {Z : State} {a0 : Array Value} (hw : ∀ d ∈ tables_1, d.before a0 Z = true) : ∀ a ∈ Bundle.stringAtoms, a.before a0 Z = true := fun d hd => by
  simp only [Bundle.stringAtoms, List.mem_cons, List.not_mem_nil, or_false] at hd
  rcases hd with rfl | rfl | rfl | rfl | rfl | rfl | rfl
  · exact (own_w hw 7 rfl)
  · exact (own_w hw 6 rfl)
  · exact (own_w hw 20 rfl)
  · exact (own_w hw 21 rfl)
  · exact (own_w hw 22 rfl)
  · exact (own_w hw 23 rfl)
  · exact (own_w hw 24 rfl)
theorem own_EW {Z : State} {a0 : Array Value} (hw : ∀ d ∈ tables_1, d.before a0 Z = true) : EW Z a0 consts_1 := EW.cons (own_w hw 19 rfl) (by decide) EW.nil

theorem own_mod5 (x : Int32) : 0 ≤ ((x &&& (2147483647 : Int32)) % (5 : Int32)).toInt ∧ ((x &&& (2147483647 : Int32)) % (5 : Int32)).toInt < 5 := by
  have m := c_mask x 2147483647 31 (by decide) (by decide)
  have p31 : ((2 ^ 31 : Nat) : Int) = 2147483648 := by decide
  rw [p31] at m
  have r := (c_irem (x &&& 2147483647) 5 5 (by decide)).1 (by omega)
  omega
theorem own_len4 {z : Int32} (h : 0 ≤ z.toInt ∧ z.toInt < 5) (h0 : ¬ z = (0 : Int32)) (h1 : ¬ z = (1 : Int32)) (h2 : ¬ z = (2 : Int32)) (h3 : ¬ z = (3 : Int32)) : z = (4 : Int32) := by
  have k0 : (0 : Int32).toInt = 0 := by decide
  have k1 : (1 : Int32).toInt = 1 := by decide
  have k2 : (2 : Int32).toInt = 2 := by decide
  have k3 : (3 : Int32).toInt = 3 := by decide
  have k4 : (4 : Int32).toInt = 4 := by decide
  rw [← Int32.toInt_inj] at *
  omega
theorem pn_0 : plainName "com/example/everrow/everrow/csv/CsvWriterFitsTabSeparatedPinLaw" = true := by first | (simp [plainName, overriddenIn]; done) | decide +kernel
theorem pn_1 : plainName "jdk/internal/util/Preconditions" = true := by first | (simp [plainName, overriddenIn]; done) | decide +kernel
theorem pn_2 : plainName "java/lang/String" = true := by first | (simp [plainName, overriddenIn]; done) | decide +kernel
theorem pn_3 : plainName "java/lang/StringLatin1" = true := by first | (simp [plainName, overriddenIn]; done) | decide +kernel
theorem pn_4 : plainName "java/lang/StringUTF16" = true := by first | (simp [plainName, overriddenIn]; done) | decide +kernel
theorem pn_5 : plainName "com/example/everrow/everrow/csv/CsvWriter" = true := by first | (simp [plainName, overriddenIn]; done) | decide +kernel
theorem pd_0 : parseMethodDescriptor "(IILjava/util/function/BiFunction;)I" = some ⟨[.int, .int, (.object "java/util/function/BiFunction")], some .int⟩ := by decide +kernel
theorem pd_1 : parseMethodDescriptor "(II)V" = some ⟨[.int, .int], none⟩ := by decide +kernel
theorem pd_2 : parseMethodDescriptor "([B)I" = some ⟨[(.array .byte)], some .int⟩ := by decide +kernel
theorem pd_3 : parseMethodDescriptor "(I[B)V" = some ⟨[.int, (.array .byte)], none⟩ := by decide +kernel
theorem pd_4 : parseMethodDescriptor "([BI)C" = some ⟨[(.array .byte), .int], some .char⟩ := by decide +kernel
theorem pd_5 : parseMethodDescriptor "()B" = some ⟨[], some .byte⟩ := by decide +kernel
theorem pd_6 : parseMethodDescriptor "()Z" = some ⟨[], some .boolean⟩ := by decide +kernel
theorem pd_7 : parseMethodDescriptor "(I)I" = some ⟨[.int], some .int⟩ := by decide +kernel
theorem pd_8 : parseMethodDescriptor "(I)[B" = some ⟨[.int], some (.array .byte)⟩ := by decide +kernel
theorem pd_9 : parseMethodDescriptor "([BII)V" = some ⟨[(.array .byte), .int, .int], none⟩ := by decide +kernel
theorem pd_10 : parseMethodDescriptor "([CI[BII)I" = some ⟨[(.array .char), .int, (.array .byte), .int, .int], some .int⟩ := by decide +kernel
theorem pd_11 : parseMethodDescriptor "([CII)[B" = some ⟨[(.array .char), .int, .int], some (.array .byte)⟩ := by decide +kernel
theorem pd_12 : parseMethodDescriptor "([BI)B" = some ⟨[(.array .byte), .int], some .byte⟩ := by decide +kernel
theorem pd_13 : parseMethodDescriptor "([CIILjava/lang/Void;)V" = some ⟨[(.array .char), .int, .int, (.object "java/lang/Void")], none⟩ := by decide +kernel
theorem pd_14 : parseMethodDescriptor "()I" = some ⟨[], some .int⟩ := by decide +kernel
theorem pd_15 : parseMethodDescriptor "(I)C" = some ⟨[.int], some .char⟩ := by decide +kernel
theorem pd_16 : parseMethodDescriptor "([C)V" = some ⟨[(.array .char)], none⟩ := by decide +kernel
theorem pd_17 : parseMethodDescriptor "(Ljava/lang/String;)Z" = some ⟨[(.object "java/lang/String")], some .boolean⟩ := by decide +kernel
theorem pd_18 : parseMethodDescriptor "(C)Z" = some ⟨[.char], some .boolean⟩ := by decide +kernel
theorem q5_0 : decode jdk_41_method_11_code 0 = .ok (.iload_n 0, 1) := by decide +kernel
theorem q5_1 : decode jdk_41_method_11_code 1 = .ok (.ifCond .lt 8, 3) := by decide +kernel
theorem q5_4 : decode jdk_41_method_11_code 4 = .ok (.iload_n 0, 1) := by decide +kernel
theorem q5_5 : decode jdk_41_method_11_code 5 = .ok (.iload_n 1, 1) := by decide +kernel
theorem q5_6 : decode jdk_41_method_11_code 6 = .ok (.if_icmp .lt 10, 3) := by decide +kernel
theorem q5_16 : decode jdk_41_method_11_code 16 = .ok (.iload_n 0, 1) := by decide +kernel
theorem q5_17 : decode jdk_41_method_11_code 17 = .ok (.ireturn, 1) := by decide +kernel
theorem q2_0 : decode jdk_42_method_149_code 0 = .ok (.aload_n 0, 1) := by decide +kernel
theorem q2_1 : decode jdk_42_method_149_code 1 = .ok (.invokespecial 1, 3) := by decide +kernel
theorem q2_4 : decode jdk_42_method_149_code 4 = .ok (.iload_n 3, 1) := by decide +kernel
theorem q2_5 : decode jdk_42_method_149_code 5 = .ok (.ifCond .ne 22, 3) := by decide +kernel
theorem q2_8 : decode jdk_42_method_149_code 8 = .ok (.aload_n 0, 1) := by decide +kernel
theorem q2_9 : decode jdk_42_method_149_code 9 = .ok (.ldc 7, 2) := by decide +kernel
theorem q2_11 : decode jdk_42_method_149_code 11 = .ok (.getfield 9, 3) := by decide +kernel
theorem q2_14 : decode jdk_42_method_149_code 14 = .ok (.putfield 9, 3) := by decide +kernel
theorem q2_17 : decode jdk_42_method_149_code 17 = .ok (.aload_n 0, 1) := by decide +kernel
theorem q2_18 : decode jdk_42_method_149_code 18 = .ok (.ldc 7, 2) := by decide +kernel
theorem q2_20 : decode jdk_42_method_149_code 20 = .ok (.getfield 15, 3) := by decide +kernel
theorem q2_23 : decode jdk_42_method_149_code 23 = .ok (.putfield 15, 3) := by decide +kernel
theorem q2_26 : decode jdk_42_method_149_code 26 = .ok (.return_, 1) := by decide +kernel
theorem q2_27 : decode jdk_42_method_149_code 27 = .ok (.getstatic 38, 3) := by decide +kernel
theorem q2_30 : decode jdk_42_method_149_code 30 = .ok (.ifCond .eq 28, 3) := by decide +kernel
theorem q2_33 : decode jdk_42_method_149_code 33 = .ok (.aload_n 1, 1) := by decide +kernel
theorem q2_34 : decode jdk_42_method_149_code 34 = .ok (.iload_n 2, 1) := by decide +kernel
theorem q2_35 : decode jdk_42_method_149_code 35 = .ok (.iload_n 3, 1) := by decide +kernel
theorem q2_36 : decode jdk_42_method_149_code 36 = .ok (.invokestatic 177, 3) := by decide +kernel
theorem q2_39 : decode jdk_42_method_149_code 39 = .ok (.astore 5, 2) := by decide +kernel
theorem q2_41 : decode jdk_42_method_149_code 41 = .ok (.aload_n 0, 1) := by decide +kernel
theorem q2_42 : decode jdk_42_method_149_code 42 = .ok (.aload 5, 2) := by decide +kernel
theorem q2_44 : decode jdk_42_method_149_code 44 = .ok (.iload_n 3, 1) := by decide +kernel
theorem q2_45 : decode jdk_42_method_149_code 45 = .ok (.invokestatic 47, 3) := by decide +kernel
theorem q2_48 : decode jdk_42_method_149_code 48 = .ok (.putfield 15, 3) := by decide +kernel
theorem q2_51 : decode jdk_42_method_149_code 51 = .ok (.aload_n 0, 1) := by decide +kernel
theorem q2_52 : decode jdk_42_method_149_code 52 = .ok (.aload 5, 2) := by decide +kernel
theorem q2_54 : decode jdk_42_method_149_code 54 = .ok (.putfield 9, 3) := by decide +kernel
theorem q2_57 : decode jdk_42_method_149_code 57 = .ok (.return_, 1) := by decide +kernel
theorem q0_0 : decode jdk_42_method_152_code 0 = .ok (.getstatic 38, 3) := by decide +kernel
theorem q0_3 : decode jdk_42_method_152_code 3 = .ok (.ifCond .eq 10, 3) := by decide +kernel
theorem q0_6 : decode jdk_42_method_152_code 6 = .ok (.aload_n 0, 1) := by decide +kernel
theorem q0_7 : decode jdk_42_method_152_code 7 = .ok (.getfield 15, 3) := by decide +kernel
theorem q0_10 : decode jdk_42_method_152_code 10 = .ok (.goto 4, 3) := by decide +kernel
theorem q0_14 : decode jdk_42_method_152_code 14 = .ok (.ireturn, 1) := by decide +kernel
theorem q1_0 : decode jdk_42_method_154_code 0 = .ok (.getstatic 38, 3) := by decide +kernel
theorem q1_3 : decode jdk_42_method_154_code 3 = .ok (.ifCond .eq 14, 3) := by decide +kernel
theorem q1_6 : decode jdk_42_method_154_code 6 = .ok (.aload_n 0, 1) := by decide +kernel
theorem q1_7 : decode jdk_42_method_154_code 7 = .ok (.getfield 15, 3) := by decide +kernel
theorem q1_10 : decode jdk_42_method_154_code 10 = .ok (.ifCond .ne 7, 3) := by decide +kernel
theorem q1_13 : decode jdk_42_method_154_code 13 = .ok (.iconst 1, 1) := by decide +kernel
theorem q1_14 : decode jdk_42_method_154_code 14 = .ok (.goto 4, 3) := by decide +kernel
theorem q1_17 : decode jdk_42_method_154_code 17 = .ok (.iconst 0, 1) := by decide +kernel
theorem q1_18 : decode jdk_42_method_154_code 18 = .ok (.ireturn, 1) := by decide +kernel
theorem q3_0 : decode jdk_42_method_155_code 0 = .ok (.iload_n 0, 1) := by decide +kernel
theorem q3_1 : decode jdk_42_method_155_code 1 = .ok (.iload_n 1, 1) := by decide +kernel
theorem q3_2 : decode jdk_42_method_155_code 2 = .ok (.getstatic 1053, 3) := by decide +kernel
theorem q3_5 : decode jdk_42_method_155_code 5 = .ok (.invokestatic 1059, 3) := by decide +kernel
theorem q3_8 : decode jdk_42_method_155_code 8 = .ok (.pop, 1) := by decide +kernel
theorem q3_9 : decode jdk_42_method_155_code 9 = .ok (.return_, 1) := by decide +kernel
theorem q14_0 : decode jdk_42_method_3_code 0 = .ok (.aload_n 0, 1) := by decide +kernel
theorem q14_1 : decode jdk_42_method_3_code 1 = .ok (.aload_n 1, 1) := by decide +kernel
theorem q14_2 : decode jdk_42_method_3_code 2 = .ok (.iconst 0, 1) := by decide +kernel
theorem q14_3 : decode jdk_42_method_3_code 3 = .ok (.aload_n 1, 1) := by decide +kernel
theorem q14_4 : decode jdk_42_method_3_code 4 = .ok (.arraylength, 1) := by decide +kernel
theorem q14_5 : decode jdk_42_method_3_code 5 = .ok (.aconst_null, 1) := by decide +kernel
theorem q14_6 : decode jdk_42_method_3_code 6 = .ok (.invokespecial 27, 3) := by decide +kernel
theorem q14_9 : decode jdk_42_method_3_code 9 = .ok (.return_, 1) := by decide +kernel
theorem q12_0 : decode jdk_42_method_54_code 0 = .ok (.aload_n 0, 1) := by decide +kernel
theorem q12_1 : decode jdk_42_method_54_code 1 = .ok (.getfield 9, 3) := by decide +kernel
theorem q12_4 : decode jdk_42_method_54_code 4 = .ok (.arraylength, 1) := by decide +kernel
theorem q12_5 : decode jdk_42_method_54_code 5 = .ok (.aload_n 0, 1) := by decide +kernel
theorem q12_6 : decode jdk_42_method_54_code 6 = .ok (.invokevirtual 335, 3) := by decide +kernel
theorem q12_9 : decode jdk_42_method_54_code 9 = .ok (.ishr, 1) := by decide +kernel
theorem q12_10 : decode jdk_42_method_54_code 10 = .ok (.ireturn, 1) := by decide +kernel
theorem q4_0 : decode jdk_42_method_56_code 0 = .ok (.aload_n 0, 1) := by decide +kernel
theorem q4_1 : decode jdk_42_method_56_code 1 = .ok (.invokevirtual 492, 3) := by decide +kernel
theorem q4_4 : decode jdk_42_method_56_code 4 = .ok (.ifCond .eq 12, 3) := by decide +kernel
theorem q4_7 : decode jdk_42_method_56_code 7 = .ok (.aload_n 0, 1) := by decide +kernel
theorem q4_8 : decode jdk_42_method_56_code 8 = .ok (.getfield 9, 3) := by decide +kernel
theorem q4_11 : decode jdk_42_method_56_code 11 = .ok (.iload_n 1, 1) := by decide +kernel
theorem q4_12 : decode jdk_42_method_56_code 12 = .ok (.invokestatic 495, 3) := by decide +kernel
theorem q4_15 : decode jdk_42_method_56_code 15 = .ok (.ireturn, 1) := by decide +kernel
theorem q4_16 : decode jdk_42_method_56_code 16 = .ok (.aload_n 0, 1) := by decide +kernel
theorem q4_17 : decode jdk_42_method_56_code 17 = .ok (.getfield 9, 3) := by decide +kernel
theorem q4_20 : decode jdk_42_method_56_code 20 = .ok (.iload_n 1, 1) := by decide +kernel
theorem q4_21 : decode jdk_42_method_56_code 21 = .ok (.invokestatic 498, 3) := by decide +kernel
theorem q4_24 : decode jdk_42_method_56_code 24 = .ok (.ireturn, 1) := by decide +kernel
theorem q17_0 : decode jdk_43_method_2_code 0 = .ok (.iload_n 1, 1) := by decide +kernel
theorem q17_1 : decode jdk_43_method_2_code 1 = .ok (.aload_n 0, 1) := by decide +kernel
theorem q17_2 : decode jdk_43_method_2_code 2 = .ok (.arraylength, 1) := by decide +kernel
theorem q17_3 : decode jdk_43_method_2_code 3 = .ok (.invokestatic 9, 3) := by decide +kernel
theorem q17_6 : decode jdk_43_method_2_code 6 = .ok (.aload_n 0, 1) := by decide +kernel
theorem q17_7 : decode jdk_43_method_2_code 7 = .ok (.iload_n 1, 1) := by decide +kernel
theorem q17_8 : decode jdk_43_method_2_code 8 = .ok (.baload, 1) := by decide +kernel
theorem q17_9 : decode jdk_43_method_2_code 9 = .ok (.sipush 255, 3) := by decide +kernel
theorem q17_12 : decode jdk_43_method_2_code 12 = .ok (.iand, 1) := by decide +kernel
theorem q17_13 : decode jdk_43_method_2_code 13 = .ok (.i2c, 1) := by decide +kernel
theorem q17_14 : decode jdk_43_method_2_code 14 = .ok (.ireturn, 1) := by decide +kernel
theorem q11_0 : decode jdk_52_method_14_code 0 = .ok (.iload_n 2, 1) := by decide +kernel
theorem q11_1 : decode jdk_52_method_14_code 1 = .ok (.invokestatic 107, 3) := by decide +kernel
theorem q11_4 : decode jdk_52_method_14_code 4 = .ok (.astore_n 3, 1) := by decide +kernel
theorem q11_5 : decode jdk_52_method_14_code 5 = .ok (.iconst 0, 1) := by decide +kernel
theorem q11_6 : decode jdk_52_method_14_code 6 = .ok (.istore 4, 2) := by decide +kernel
theorem q11_8 : decode jdk_52_method_14_code 8 = .ok (.iload 4, 2) := by decide +kernel
theorem q11_10 : decode jdk_52_method_14_code 10 = .ok (.iload_n 2, 1) := by decide +kernel
theorem q11_11 : decode jdk_52_method_14_code 11 = .ok (.if_icmp .ge 21, 3) := by decide +kernel
theorem q11_14 : decode jdk_52_method_14_code 14 = .ok (.aload_n 3, 1) := by decide +kernel
theorem q11_15 : decode jdk_52_method_14_code 15 = .ok (.iload 4, 2) := by decide +kernel
theorem q11_17 : decode jdk_52_method_14_code 17 = .ok (.aload_n 0, 1) := by decide +kernel
theorem q11_18 : decode jdk_52_method_14_code 18 = .ok (.iload_n 1, 1) := by decide +kernel
theorem q11_19 : decode jdk_52_method_14_code 19 = .ok (.caload, 1) := by decide +kernel
theorem q11_20 : decode jdk_52_method_14_code 20 = .ok (.invokestatic 111, 3) := by decide +kernel
theorem q11_23 : decode jdk_52_method_14_code 23 = .ok (.iinc 1 1, 3) := by decide +kernel
theorem q11_26 : decode jdk_52_method_14_code 26 = .ok (.iinc 4 1, 3) := by decide +kernel
theorem q11_29 : decode jdk_52_method_14_code 29 = .ok (.goto (-21), 3) := by decide +kernel
theorem q11_32 : decode jdk_52_method_14_code 32 = .ok (.aload_n 3, 1) := by decide +kernel
theorem q11_33 : decode jdk_52_method_14_code 33 = .ok (.areturn, 1) := by decide +kernel
theorem q9_0 : decode jdk_52_method_15_code 0 = .ok (.iload_n 1, 1) := by decide +kernel
theorem q9_1 : decode jdk_52_method_15_code 1 = .ok (.aload_n 0, 1) := by decide +kernel
theorem q9_2 : decode jdk_52_method_15_code 2 = .ok (.arraylength, 1) := by decide +kernel
theorem q9_3 : decode jdk_52_method_15_code 3 = .ok (.isub, 1) := by decide +kernel
theorem q9_4 : decode jdk_52_method_15_code 4 = .ok (.bipush 31, 2) := by decide +kernel
theorem q9_6 : decode jdk_52_method_15_code 6 = .ok (.iushr, 1) := by decide +kernel
theorem q9_7 : decode jdk_52_method_15_code 7 = .ok (.i2b, 1) := by decide +kernel
theorem q9_8 : decode jdk_52_method_15_code 8 = .ok (.ireturn, 1) := by decide +kernel
theorem q7_0 : decode jdk_52_method_16_code 0 = .ok (.iload_n 2, 1) := by decide +kernel
theorem q7_1 : decode jdk_52_method_16_code 1 = .ok (.newarray .byte, 2) := by decide +kernel
theorem q7_3 : decode jdk_52_method_16_code 3 = .ok (.astore_n 3, 1) := by decide +kernel
theorem q7_4 : decode jdk_52_method_16_code 4 = .ok (.aload_n 0, 1) := by decide +kernel
theorem q7_5 : decode jdk_52_method_16_code 5 = .ok (.iload_n 1, 1) := by decide +kernel
theorem q7_6 : decode jdk_52_method_16_code 6 = .ok (.aload_n 3, 1) := by decide +kernel
theorem q7_7 : decode jdk_52_method_16_code 7 = .ok (.iconst 0, 1) := by decide +kernel
theorem q7_8 : decode jdk_52_method_16_code 8 = .ok (.iload_n 2, 1) := by decide +kernel
theorem q7_9 : decode jdk_52_method_16_code 9 = .ok (.invokestatic 115, 3) := by decide +kernel
theorem q7_12 : decode jdk_52_method_16_code 12 = .ok (.istore 4, 2) := by decide +kernel
theorem q7_14 : decode jdk_52_method_16_code 14 = .ok (.iload 4, 2) := by decide +kernel
theorem q7_16 : decode jdk_52_method_16_code 16 = .ok (.iload_n 2, 1) := by decide +kernel
theorem q7_17 : decode jdk_52_method_16_code 17 = .ok (.if_icmp .eq 40, 3) := by decide +kernel
theorem q7_20 : decode jdk_52_method_16_code 20 = .ok (.aload_n 0, 1) := by decide +kernel
theorem q7_21 : decode jdk_52_method_16_code 21 = .ok (.iload_n 1, 1) := by decide +kernel
theorem q7_22 : decode jdk_52_method_16_code 22 = .ok (.iload_n 2, 1) := by decide +kernel
theorem q7_23 : decode jdk_52_method_16_code 23 = .ok (.invokestatic 119, 3) := by decide +kernel
theorem q7_26 : decode jdk_52_method_16_code 26 = .ok (.astore 5, 2) := by decide +kernel
theorem q7_28 : decode jdk_52_method_16_code 28 = .ok (.aload 5, 2) := by decide +kernel
theorem q7_30 : decode jdk_52_method_16_code 30 = .ok (.iload 4, 2) := by decide +kernel
theorem q7_32 : decode jdk_52_method_16_code 32 = .ok (.invokestatic 71, 3) := by decide +kernel
theorem q7_35 : decode jdk_52_method_16_code 35 = .ok (.sipush 255, 3) := by decide +kernel
theorem q7_38 : decode jdk_52_method_16_code 38 = .ok (.if_icmp .gt 16, 3) := by decide +kernel
theorem q7_54 : decode jdk_52_method_16_code 54 = .ok (.aload 5, 2) := by decide +kernel
theorem q7_56 : decode jdk_52_method_16_code 56 = .ok (.areturn, 1) := by decide +kernel
theorem q7_57 : decode jdk_52_method_16_code 57 = .ok (.aload_n 3, 1) := by decide +kernel
theorem q7_58 : decode jdk_52_method_16_code 58 = .ok (.areturn, 1) := by decide +kernel
theorem q8_0 : decode jdk_52_method_21_code 0 = .ok (.iconst 0, 1) := by decide +kernel
theorem q8_1 : decode jdk_52_method_21_code 1 = .ok (.istore 5, 2) := by decide +kernel
theorem q8_3 : decode jdk_52_method_21_code 3 = .ok (.iload 5, 2) := by decide +kernel
theorem q8_5 : decode jdk_52_method_21_code 5 = .ok (.iload 4, 2) := by decide +kernel
theorem q8_7 : decode jdk_52_method_21_code 7 = .ok (.if_icmp .ge 37, 3) := by decide +kernel
theorem q8_10 : decode jdk_52_method_21_code 10 = .ok (.aload_n 0, 1) := by decide +kernel
theorem q8_11 : decode jdk_52_method_21_code 11 = .ok (.iload_n 1, 1) := by decide +kernel
theorem q8_12 : decode jdk_52_method_21_code 12 = .ok (.caload, 1) := by decide +kernel
theorem q8_13 : decode jdk_52_method_21_code 13 = .ok (.istore 6, 2) := by decide +kernel
theorem q8_15 : decode jdk_52_method_21_code 15 = .ok (.iload 6, 2) := by decide +kernel
theorem q8_17 : decode jdk_52_method_21_code 17 = .ok (.sipush 255, 3) := by decide +kernel
theorem q8_20 : decode jdk_52_method_21_code 20 = .ok (.if_icmp .le 6, 3) := by decide +kernel
theorem q8_23 : decode jdk_52_method_21_code 23 = .ok (.iload 5, 2) := by decide +kernel
theorem q8_25 : decode jdk_52_method_21_code 25 = .ok (.ireturn, 1) := by decide +kernel
theorem q8_26 : decode jdk_52_method_21_code 26 = .ok (.aload_n 2, 1) := by decide +kernel
theorem q8_27 : decode jdk_52_method_21_code 27 = .ok (.iload_n 3, 1) := by decide +kernel
theorem q8_28 : decode jdk_52_method_21_code 28 = .ok (.iload 6, 2) := by decide +kernel
theorem q8_30 : decode jdk_52_method_21_code 30 = .ok (.i2b, 1) := by decide +kernel
theorem q8_31 : decode jdk_52_method_21_code 31 = .ok (.bastore, 1) := by decide +kernel
theorem q8_32 : decode jdk_52_method_21_code 32 = .ok (.iinc 1 1, 3) := by decide +kernel
theorem q8_35 : decode jdk_52_method_21_code 35 = .ok (.iinc 3 1, 3) := by decide +kernel
theorem q8_38 : decode jdk_52_method_21_code 38 = .ok (.iinc 5 1, 3) := by decide +kernel
theorem q8_41 : decode jdk_52_method_21_code 41 = .ok (.goto (-38), 3) := by decide +kernel
theorem q8_44 : decode jdk_52_method_21_code 44 = .ok (.iload 4, 2) := by decide +kernel
theorem q8_46 : decode jdk_52_method_21_code 46 = .ok (.ireturn, 1) := by decide +kernel
theorem q15_0 : decode jdk_52_method_2_code 0 = .ok (.iload_n 0, 1) := by decide +kernel
theorem q15_1 : decode jdk_52_method_2_code 1 = .ok (.invokestatic 11, 3) := by decide +kernel
theorem q15_4 : decode jdk_52_method_2_code 4 = .ok (.newarray .byte, 2) := by decide +kernel
theorem q15_6 : decode jdk_52_method_2_code 6 = .ok (.areturn, 1) := by decide +kernel
theorem q20_0 : decode jdk_52_method_3_code 0 = .ok (.iload_n 0, 1) := by decide +kernel
theorem q20_1 : decode jdk_52_method_3_code 1 = .ok (.ifCond .ge 11, 3) := by decide +kernel
theorem q20_12 : decode jdk_52_method_3_code 12 = .ok (.iload_n 0, 1) := by decide +kernel
theorem q20_13 : decode jdk_52_method_3_code 13 = .ok (.ldc 20, 2) := by decide +kernel
theorem q20_15 : decode jdk_52_method_3_code 15 = .ok (.if_icmp .lt 40, 3) := by decide +kernel
theorem q20_55 : decode jdk_52_method_3_code 55 = .ok (.iload_n 0, 1) := by decide +kernel
theorem q20_56 : decode jdk_52_method_3_code 56 = .ok (.iconst 1, 1) := by decide +kernel
theorem q20_57 : decode jdk_52_method_3_code 57 = .ok (.ishl, 1) := by decide +kernel
theorem q20_58 : decode jdk_52_method_3_code 58 = .ok (.ireturn, 1) := by decide +kernel
theorem q19_0 : decode jdk_52_method_4_code 0 = .ok (.getstatic 44, 3) := by decide +kernel
theorem q19_3 : decode jdk_52_method_4_code 3 = .ok (.ifCond .ne 25, 3) := by decide +kernel
theorem q19_28 : decode jdk_52_method_4_code 28 = .ok (.iload_n 1, 1) := by decide +kernel
theorem q19_29 : decode jdk_52_method_4_code 29 = .ok (.iconst 1, 1) := by decide +kernel
theorem q19_30 : decode jdk_52_method_4_code 30 = .ok (.ishl, 1) := by decide +kernel
theorem q19_31 : decode jdk_52_method_4_code 31 = .ok (.istore_n 1, 1) := by decide +kernel
theorem q19_32 : decode jdk_52_method_4_code 32 = .ok (.aload_n 0, 1) := by decide +kernel
theorem q19_33 : decode jdk_52_method_4_code 33 = .ok (.iload_n 1, 1) := by decide +kernel
theorem q19_34 : decode jdk_52_method_4_code 34 = .ok (.iinc 1 1, 3) := by decide +kernel
theorem q19_37 : decode jdk_52_method_4_code 37 = .ok (.iload_n 2, 1) := by decide +kernel
theorem q19_38 : decode jdk_52_method_4_code 38 = .ok (.getstatic 59, 3) := by decide +kernel
theorem q19_41 : decode jdk_52_method_4_code 41 = .ok (.ishr, 1) := by decide +kernel
theorem q19_42 : decode jdk_52_method_4_code 42 = .ok (.i2b, 1) := by decide +kernel
theorem q19_43 : decode jdk_52_method_4_code 43 = .ok (.bastore, 1) := by decide +kernel
theorem q19_44 : decode jdk_52_method_4_code 44 = .ok (.aload_n 0, 1) := by decide +kernel
theorem q19_45 : decode jdk_52_method_4_code 45 = .ok (.iload_n 1, 1) := by decide +kernel
theorem q19_46 : decode jdk_52_method_4_code 46 = .ok (.iload_n 2, 1) := by decide +kernel
theorem q19_47 : decode jdk_52_method_4_code 47 = .ok (.getstatic 63, 3) := by decide +kernel
theorem q19_50 : decode jdk_52_method_4_code 50 = .ok (.ishr, 1) := by decide +kernel
theorem q19_51 : decode jdk_52_method_4_code 51 = .ok (.i2b, 1) := by decide +kernel
theorem q19_52 : decode jdk_52_method_4_code 52 = .ok (.bastore, 1) := by decide +kernel
theorem q19_53 : decode jdk_52_method_4_code 53 = .ok (.return_, 1) := by decide +kernel
theorem q18_0 : decode jdk_52_method_5_code 0 = .ok (.getstatic 44, 3) := by decide +kernel
theorem q18_3 : decode jdk_52_method_5_code 3 = .ok (.ifCond .ne 25, 3) := by decide +kernel
theorem q18_28 : decode jdk_52_method_5_code 28 = .ok (.iload_n 1, 1) := by decide +kernel
theorem q18_29 : decode jdk_52_method_5_code 29 = .ok (.iconst 1, 1) := by decide +kernel
theorem q18_30 : decode jdk_52_method_5_code 30 = .ok (.ishl, 1) := by decide +kernel
theorem q18_31 : decode jdk_52_method_5_code 31 = .ok (.istore_n 1, 1) := by decide +kernel
theorem q18_32 : decode jdk_52_method_5_code 32 = .ok (.aload_n 0, 1) := by decide +kernel
theorem q18_33 : decode jdk_52_method_5_code 33 = .ok (.iload_n 1, 1) := by decide +kernel
theorem q18_34 : decode jdk_52_method_5_code 34 = .ok (.iinc 1 1, 3) := by decide +kernel
theorem q18_37 : decode jdk_52_method_5_code 37 = .ok (.baload, 1) := by decide +kernel
theorem q18_38 : decode jdk_52_method_5_code 38 = .ok (.sipush 255, 3) := by decide +kernel
theorem q18_41 : decode jdk_52_method_5_code 41 = .ok (.iand, 1) := by decide +kernel
theorem q18_42 : decode jdk_52_method_5_code 42 = .ok (.getstatic 59, 3) := by decide +kernel
theorem q18_45 : decode jdk_52_method_5_code 45 = .ok (.ishl, 1) := by decide +kernel
theorem q18_46 : decode jdk_52_method_5_code 46 = .ok (.aload_n 0, 1) := by decide +kernel
theorem q18_47 : decode jdk_52_method_5_code 47 = .ok (.iload_n 1, 1) := by decide +kernel
theorem q18_48 : decode jdk_52_method_5_code 48 = .ok (.baload, 1) := by decide +kernel
theorem q18_49 : decode jdk_52_method_5_code 49 = .ok (.sipush 255, 3) := by decide +kernel
theorem q18_52 : decode jdk_52_method_5_code 52 = .ok (.iand, 1) := by decide +kernel
theorem q18_53 : decode jdk_52_method_5_code 53 = .ok (.getstatic 63, 3) := by decide +kernel
theorem q18_56 : decode jdk_52_method_5_code 56 = .ok (.ishl, 1) := by decide +kernel
theorem q18_57 : decode jdk_52_method_5_code 57 = .ok (.ior, 1) := by decide +kernel
theorem q18_58 : decode jdk_52_method_5_code 58 = .ok (.i2c, 1) := by decide +kernel
theorem q18_59 : decode jdk_52_method_5_code 59 = .ok (.ireturn, 1) := by decide +kernel
theorem q16_0 : decode jdk_52_method_6_code 0 = .ok (.aload_n 0, 1) := by decide +kernel
theorem q16_1 : decode jdk_52_method_6_code 1 = .ok (.arraylength, 1) := by decide +kernel
theorem q16_2 : decode jdk_52_method_6_code 2 = .ok (.iconst 1, 1) := by decide +kernel
theorem q16_3 : decode jdk_52_method_6_code 3 = .ok (.ishr, 1) := by decide +kernel
theorem q16_4 : decode jdk_52_method_6_code 4 = .ok (.ireturn, 1) := by decide +kernel
theorem q6_0 : decode jdk_52_method_83_code 0 = .ok (.iload_n 1, 1) := by decide +kernel
theorem q6_1 : decode jdk_52_method_83_code 1 = .ok (.aload_n 0, 1) := by decide +kernel
theorem q6_2 : decode jdk_52_method_83_code 2 = .ok (.invokestatic 67, 3) := by decide +kernel
theorem q6_5 : decode jdk_52_method_83_code 5 = .ok (.aload_n 0, 1) := by decide +kernel
theorem q6_6 : decode jdk_52_method_83_code 6 = .ok (.iload_n 1, 1) := by decide +kernel
theorem q6_7 : decode jdk_52_method_83_code 7 = .ok (.invokestatic 71, 3) := by decide +kernel
theorem q6_10 : decode jdk_52_method_83_code 10 = .ok (.ireturn, 1) := by decide +kernel
theorem q10_0 : decode jdk_52_method_91_code 0 = .ok (.iload_n 0, 1) := by decide +kernel
theorem q10_1 : decode jdk_52_method_91_code 1 = .ok (.aload_n 1, 1) := by decide +kernel
theorem q10_2 : decode jdk_52_method_91_code 2 = .ok (.invokestatic 48, 3) := by decide +kernel
theorem q10_5 : decode jdk_52_method_91_code 5 = .ok (.invokestatic 414, 3) := by decide +kernel
theorem q10_8 : decode jdk_52_method_91_code 8 = .ok (.return_, 1) := by decide +kernel
theorem q21_0 : decode method_2_code 0 = .ok (.iload_n 0, 1) := by decide +kernel
theorem q21_1 : decode method_2_code 1 = .ok (.iconst 3, 1) := by decide +kernel
theorem q21_2 : decode method_2_code 2 = .ok (.iand, 1) := by decide +kernel
theorem q21_3 : decode method_2_code 3 = .ok (.ifCond .ne 9, 3) := by decide +kernel
theorem q21_6 : decode method_2_code 6 = .ok (.iload_n 0, 1) := by decide +kernel
theorem q21_7 : decode method_2_code 7 = .ok (.bipush 16, 2) := by decide +kernel
theorem q21_9 : decode method_2_code 9 = .ok (.iushr, 1) := by decide +kernel
theorem q21_10 : decode method_2_code 10 = .ok (.i2c, 1) := by decide +kernel
theorem q21_11 : decode method_2_code 11 = .ok (.ireturn, 1) := by decide +kernel
theorem q21_12 : decode method_2_code 12 = .ok (.bipush 8, 2) := by decide +kernel
theorem q21_14 : decode method_2_code 14 = .ok (.iload_n 0, 1) := by decide +kernel
theorem q21_15 : decode method_2_code 15 = .ok (.iconst 2, 1) := by decide +kernel
theorem q21_16 : decode method_2_code 16 = .ok (.iushr, 1) := by decide +kernel
theorem q21_17 : decode method_2_code 17 = .ok (.bipush 7, 2) := by decide +kernel
theorem q21_19 : decode method_2_code 19 = .ok (.iand, 1) := by decide +kernel
theorem q21_20 : decode method_2_code 20 = .ok (.iadd, 1) := by decide +kernel
theorem q21_21 : decode method_2_code 21 = .ok (.i2c, 1) := by decide +kernel
theorem q21_22 : decode method_2_code 22 = .ok (.ireturn, 1) := by decide +kernel
theorem q22_0 : decode method_3_code 0 = .ok (.iload_n 0, 1) := by decide +kernel
theorem q22_1 : decode method_3_code 1 = .ok (.bipush 9, 2) := by decide +kernel
theorem q22_3 : decode method_3_code 3 = .ok (.if_icmp .eq 15, 3) := by decide +kernel
theorem q22_6 : decode method_3_code 6 = .ok (.iload_n 0, 1) := by decide +kernel
theorem q22_7 : decode method_3_code 7 = .ok (.bipush 10, 2) := by decide +kernel
theorem q22_9 : decode method_3_code 9 = .ok (.if_icmp .eq 9, 3) := by decide +kernel
theorem q22_12 : decode method_3_code 12 = .ok (.iload_n 0, 1) := by decide +kernel
theorem q22_13 : decode method_3_code 13 = .ok (.bipush 13, 2) := by decide +kernel
theorem q22_15 : decode method_3_code 15 = .ok (.if_icmp .ne 7, 3) := by decide +kernel
theorem q22_18 : decode method_3_code 18 = .ok (.iconst 1, 1) := by decide +kernel
theorem q22_19 : decode method_3_code 19 = .ok (.goto 4, 3) := by decide +kernel
theorem q22_22 : decode method_3_code 22 = .ok (.iconst 0, 1) := by decide +kernel
theorem q22_23 : decode method_3_code 23 = .ok (.ireturn, 1) := by decide +kernel
theorem q13_0 : decode prog_58_method_4_code 0 = .ok (.iconst 0, 1) := by decide +kernel
theorem q13_1 : decode prog_58_method_4_code 1 = .ok (.istore_n 1, 1) := by decide +kernel
theorem q13_2 : decode prog_58_method_4_code 2 = .ok (.iload_n 1, 1) := by decide +kernel
theorem q13_3 : decode prog_58_method_4_code 3 = .ok (.aload_n 0, 1) := by decide +kernel
theorem q13_4 : decode prog_58_method_4_code 4 = .ok (.invokevirtual 25, 3) := by decide +kernel
theorem q13_7 : decode prog_58_method_4_code 7 = .ok (.if_icmp .ge 35, 3) := by decide +kernel
theorem q13_10 : decode prog_58_method_4_code 10 = .ok (.aload_n 0, 1) := by decide +kernel
theorem q13_11 : decode prog_58_method_4_code 11 = .ok (.iload_n 1, 1) := by decide +kernel
theorem q13_12 : decode prog_58_method_4_code 12 = .ok (.invokevirtual 31, 3) := by decide +kernel
theorem q13_15 : decode prog_58_method_4_code 15 = .ok (.istore_n 2, 1) := by decide +kernel
theorem q13_16 : decode prog_58_method_4_code 16 = .ok (.iload_n 2, 1) := by decide +kernel
theorem q13_17 : decode prog_58_method_4_code 17 = .ok (.bipush 9, 2) := by decide +kernel
theorem q13_19 : decode prog_58_method_4_code 19 = .ok (.if_icmp .eq 15, 3) := by decide +kernel
theorem q13_22 : decode prog_58_method_4_code 22 = .ok (.iload_n 2, 1) := by decide +kernel
theorem q13_23 : decode prog_58_method_4_code 23 = .ok (.bipush 13, 2) := by decide +kernel
theorem q13_25 : decode prog_58_method_4_code 25 = .ok (.if_icmp .eq 9, 3) := by decide +kernel
theorem q13_28 : decode prog_58_method_4_code 28 = .ok (.iload_n 2, 1) := by decide +kernel
theorem q13_29 : decode prog_58_method_4_code 29 = .ok (.bipush 10, 2) := by decide +kernel
theorem q13_31 : decode prog_58_method_4_code 31 = .ok (.if_icmp .ne 5, 3) := by decide +kernel
theorem q13_34 : decode prog_58_method_4_code 34 = .ok (.iconst 0, 1) := by decide +kernel
theorem q13_35 : decode prog_58_method_4_code 35 = .ok (.ireturn, 1) := by decide +kernel
theorem q13_36 : decode prog_58_method_4_code 36 = .ok (.iinc 1 1, 3) := by decide +kernel
theorem q13_39 : decode prog_58_method_4_code 39 = .ok (.goto (-37), 3) := by decide +kernel
theorem q13_42 : decode prog_58_method_4_code 42 = .ok (.iconst 1, 1) := by decide +kernel
theorem q13_43 : decode prog_58_method_4_code 43 = .ok (.ireturn, 1) := by decide +kernel
theorem ef_1 (m : MethodId) (px : Int32) : entryFrame m #[(.int px)] 1 = mkF m 0 #[.val (.int px)] [] := by first | (simp [entryFrame, mkF, argsToLocals, Value.category]; done) | rfl
def Q1 (Z : State) (px : Int32) (h0 : Heap) (n0 : Nat) (v : Option Value) (h : Heap) (L : List Loc) : Prop := v = some (.int (own_draw px)) ∧ Fr n0 L ∧ h = h0
set_option maxRecDepth 65536 in
set_option maxHeartbeats 40000000 in
theorem rm1 (l : Launch) (Z : State) (a0 : Array Value) (hw : ∀ d ∈ tables_1, d.before a0 Z = true) (ws : List Jvm.Cond) (px : Int32) (h0 : Heap) (n0 : Nat) (Z0 : n0 ≤ h0.size)  :
    MetFree l own_y2 (head1 (Jvm.Cond.code own_y2 method_2_code 1 (some .char) :: ws) own_r0) (fun ar_ U => ar_ = #[(.int px)] ∧ Z.Warmed39 U.vm ∧ U.heap = h0) (fun _ _ _ _ _ => True) (fun _ U oo_ U' => ∃ v L, oo_ = .returned v ∧ Q1 Z px  h0 n0 v U'.heap L ∧ FrameEnd U oo_ U' L own_r0.cells own_r0.slots) := by
  refine MetFree.of_bodySF (plainFor_of_name pn_0) hisR ?_
  intro p e s m args below meth c s₁ Bd hml0 hP hK
  obtain ⟨rfl, hZ, hh⟩ := hP
  have hx := Bd.exec
  have hby := Bd.bytes
  have hml : c.maxLocals = 1 := hml0
  have hown : s.vm.findClass "com/example/everrow/everrow/csv/CsvWriterFitsTabSeparatedPinLaw" = some m.cls := findClass_of_methodNamed Bd.named
  have hnm := (name_of_methodNamed Bd.named Bd.method).1
  have X0 : Stand p l e own_r0 s m #[(.int px)] below meth c s₁ [] 0 0 := Stand.of_body Bd
  have e0 : s₁.heap = h0 := by rw [← hh, Bd.state]; rfl
  have N0 := Fr.nil n0
  refine own_in (castTop (ef_1 m px)) ?_
  show oG _ _ _ _ (s₁.setTop (mkF m 0 #[.val (.int px)] []))
  refine oS (fun _ κ => XS.iloadN X0.here hx rfl (hb hby q21_0) rfl κ) ?_
  refine oS (fun _ κ => XS.iconst X0.here hx rfl (hb hby q21_1) κ) ?_
  refine oS (fun _ κ => XS.iand X0.here hx rfl (hb hby q21_2) rfl κ) ?_
  show oG _ _ _ _ (s₁.setTop (mkF m 3 #[.val (.int px)] [(.int (px &&& (3 : Int32)))]))
  by_cases hc1 : (px &&& (3 : Int32)) = (0 : Int32)
  · refine oS (fun _ κ => XS.ifNo X0.here hx rfl (hb hby q21_3) rfl ((if0 _ _).trans (teq hc1).2) κ) ?_
    show oG _ _ _ _ (s₁.setTop (mkF m 6 #[.val (.int px)] []))
    refine oS (fun _ κ => XS.iloadN X0.here hx rfl (hb hby q21_6) rfl κ) ?_
    refine oS (fun _ κ => XS.bipush X0.here hx rfl (hb hby q21_7) κ) ?_
    refine oS (fun _ κ => XS.iushr X0.here hx rfl (hb hby q21_9) rfl κ) ?_
    show oG _ _ _ _ (s₁.setTop (mkF m 10 #[.val (.int px)] [(.int ((px.toUInt32 >>> ((16 : Int32) &&& 31).toUInt32).toInt32))]))
    refine oS (fun _ κ => XS.i2c X0.here hx rfl (hb hby q21_10) rfl κ) ?_
    show oG _ _ _ _ (s₁.setTop (mkF m 11 #[.val (.int px)] [(.int (((px.toUInt32 >>> ((16 : Int32) &&& 31).toUInt32).toInt32).toUInt32.toUInt16.toUInt32.toInt32))]))
    obtain ⟨fs, hr, hrun, hended, hW, hsame⟩ := X0.leave (v := some (.int (nar .char (((px.toUInt32 >>> ((16 : Int32) &&& 31).toUInt32).toInt32).toUInt32.toUInt16.toUInt32.toInt32)))) (fun h => by rw [Bd.returns] at h; cases h)
    refine ⟨_, _, retN X0 hx (t := .char) Bd.returns (by simp) (hb hby q21_11) hr, hrun, hended, _, _, rfl, ?_, ⟨_, rfl⟩, hW, hsame.mono (by decide) (by decide)⟩
    show Q1 Z px  h0 n0 _ s₁.heap _
    rw [e0]
    exact ⟨by unfold own_draw; rw [if_pos hc1], N0, rfl⟩
  · refine oS (fun _ κ => XS.ifYes X0.here hx rfl (pc0 := 3) (pc' := 12) rfl (hb hby q21_3) rfl ((if0 _ _).trans (feq hc1).2) (by decide) (by decide) κ) ?_
    show oG _ _ _ _ (s₁.setTop (mkF m 12 #[.val (.int px)] []))
    refine oS (fun _ κ => XS.bipush X0.here hx rfl (hb hby q21_12) κ) ?_
    refine oS (fun _ κ => XS.iloadN X0.here hx rfl (hb hby q21_14) rfl κ) ?_
    refine oS (fun _ κ => XS.iconst X0.here hx rfl (hb hby q21_15) κ) ?_
    refine oS (fun _ κ => XS.iushr X0.here hx rfl (hb hby q21_16) rfl κ) ?_
    show oG _ _ _ _ (s₁.setTop (mkF m 17 #[.val (.int px)] [(.int ((px.toUInt32 >>> ((2 : Int32) &&& 31).toUInt32).toInt32)), (.int (8 : Int32))]))
    refine oS (fun _ κ => XS.bipush X0.here hx rfl (hb hby q21_17) κ) ?_
    refine oS (fun _ κ => XS.iand X0.here hx rfl (hb hby q21_19) rfl κ) ?_
    show oG _ _ _ _ (s₁.setTop (mkF m 20 #[.val (.int px)] [(.int (((px.toUInt32 >>> ((2 : Int32) &&& 31).toUInt32).toInt32) &&& (7 : Int32))), (.int (8 : Int32))]))
    refine oS (fun _ κ => XS.iadd X0.here hx rfl (hb hby q21_20) rfl κ) ?_
    show oG _ _ _ _ (s₁.setTop (mkF m 21 #[.val (.int px)] [(.int ((8 : Int32) + (((px.toUInt32 >>> ((2 : Int32) &&& 31).toUInt32).toInt32) &&& (7 : Int32))))]))
    refine oS (fun _ κ => XS.i2c X0.here hx rfl (hb hby q21_21) rfl κ) ?_
    show oG _ _ _ _ (s₁.setTop (mkF m 22 #[.val (.int px)] [(.int (((8 : Int32) + (((px.toUInt32 >>> ((2 : Int32) &&& 31).toUInt32).toInt32) &&& (7 : Int32))).toUInt32.toUInt16.toUInt32.toInt32))]))
    obtain ⟨fs, hr, hrun, hended, hW, hsame⟩ := X0.leave (v := some (.int (nar .char (((8 : Int32) + (((px.toUInt32 >>> ((2 : Int32) &&& 31).toUInt32).toInt32) &&& (7 : Int32))).toUInt32.toUInt16.toUInt32.toInt32)))) (fun h => by rw [Bd.returns] at h; cases h)
    refine ⟨_, _, retN X0 hx (t := .char) Bd.returns (by simp) (hb hby q21_22) hr, hrun, hended, _, _, rfl, ?_, ⟨_, rfl⟩, hW, hsame.mono (by decide) (by decide)⟩
    show Q1 Z px  h0 n0 _ s₁.heap _
    rw [e0]
    exact ⟨by unfold own_draw; rw [if_neg hc1], N0, rfl⟩
theorem ef_2 (m : MethodId) (pc : Int32) : entryFrame m #[(.int pc)] 1 = mkF m 0 #[.val (.int pc)] [] := by first | (simp [entryFrame, mkF, argsToLocals, Value.category]; done) | rfl
def Q2 (Z : State) (pc : Int32) (h0 : Heap) (n0 : Nat) (v : Option Value) (h : Heap) (L : List Loc) : Prop := v = some (.int (own_brk pc)) ∧ Fr n0 L ∧ h = h0
set_option maxRecDepth 65536 in
set_option maxHeartbeats 40000000 in
theorem rm2 (l : Launch) (Z : State) (a0 : Array Value) (hw : ∀ d ∈ tables_1, d.before a0 Z = true) (ws : List Jvm.Cond) (pc : Int32) (h0 : Heap) (n0 : Nat) (Z0 : n0 ≤ h0.size)  :
    MetFree l own_y1 (head1 (Jvm.Cond.code own_y1 method_3_code 1 (some .boolean) :: ws) own_r0) (fun ar_ U => ar_ = #[(.int pc)] ∧ Z.Warmed39 U.vm ∧ U.heap = h0) (fun _ _ _ _ _ => True) (fun _ U oo_ U' => ∃ v L, oo_ = .returned v ∧ Q2 Z pc  h0 n0 v U'.heap L ∧ FrameEnd U oo_ U' L own_r0.cells own_r0.slots) := by
  refine MetFree.of_bodySF (plainFor_of_name pn_0) hisR ?_
  intro p e s m args below meth c s₁ Bd hml0 hP hK
  obtain ⟨rfl, hZ, hh⟩ := hP
  have hx := Bd.exec
  have hby := Bd.bytes
  have hml : c.maxLocals = 1 := hml0
  have hown : s.vm.findClass "com/example/everrow/everrow/csv/CsvWriterFitsTabSeparatedPinLaw" = some m.cls := findClass_of_methodNamed Bd.named
  have hnm := (name_of_methodNamed Bd.named Bd.method).1
  have X0 : Stand p l e own_r0 s m #[(.int pc)] below meth c s₁ [] 0 0 := Stand.of_body Bd
  have e0 : s₁.heap = h0 := by rw [← hh, Bd.state]; rfl
  have N0 := Fr.nil n0
  refine own_in (castTop (ef_2 m pc)) ?_
  show oG _ _ _ _ (s₁.setTop (mkF m 0 #[.val (.int pc)] []))
  refine oS (fun _ κ => XS.iloadN X0.here hx rfl (hb hby q22_0) rfl κ) ?_
  refine oS (fun _ κ => XS.bipush X0.here hx rfl (hb hby q22_1) κ) ?_
  by_cases hc1 : pc = (9 : Int32)
  · refine oS (fun _ κ => XS.icmpYes X0.here hx rfl (pc0 := 3) (pc' := 18) rfl (hb hby q22_3) rfl (teq hc1).1 (by decide) (by decide) κ) ?_
    show oG _ _ _ _ (s₁.setTop (mkF m 18 #[.val (.int pc)] []))
    refine oS (fun _ κ => XS.iconst X0.here hx rfl (hb hby q22_18) κ) ?_
    refine oS (fun _ κ => XS.goto X0.here hx rfl (pc0 := 19) (pc' := 23) rfl (hb hby q22_19) (by decide) (by decide) κ) ?_
    show oG _ _ _ _ (s₁.setTop (mkF m 23 #[.val (.int pc)] [(.int (1 : Int32))]))
    obtain ⟨fs, hr, hrun, hended, hW, hsame⟩ := X0.leave (v := some (.int (1 : Int32))) (fun h => by rw [Bd.returns] at h; cases h)
    refine ⟨_, _, retN X0 hx (t := .boolean) Bd.returns (by simp) (hb hby q22_23) hr, hrun, hended, _, _, rfl, ?_, ⟨_, rfl⟩, hW, hsame.mono (by decide) (by decide)⟩
    show Q2 Z pc  h0 n0 _ s₁.heap _
    rw [e0]
    exact ⟨by unfold own_brk; rw [if_pos hc1], N0, rfl⟩
  · refine oS (fun _ κ => XS.icmpNo X0.here hx rfl (hb hby q22_3) rfl (feq hc1).1 κ) ?_
    show oG _ _ _ _ (s₁.setTop (mkF m 6 #[.val (.int pc)] []))
    refine oS (fun _ κ => XS.iloadN X0.here hx rfl (hb hby q22_6) rfl κ) ?_
    refine oS (fun _ κ => XS.bipush X0.here hx rfl (hb hby q22_7) κ) ?_
    by_cases hc2 : pc = (10 : Int32)
    · refine oS (fun _ κ => XS.icmpYes X0.here hx rfl (pc0 := 9) (pc' := 18) rfl (hb hby q22_9) rfl (teq hc2).1 (by decide) (by decide) κ) ?_
      show oG _ _ _ _ (s₁.setTop (mkF m 18 #[.val (.int pc)] []))
      refine oS (fun _ κ => XS.iconst X0.here hx rfl (hb hby q22_18) κ) ?_
      refine oS (fun _ κ => XS.goto X0.here hx rfl (pc0 := 19) (pc' := 23) rfl (hb hby q22_19) (by decide) (by decide) κ) ?_
      show oG _ _ _ _ (s₁.setTop (mkF m 23 #[.val (.int pc)] [(.int (1 : Int32))]))
      obtain ⟨fs, hr, hrun, hended, hW, hsame⟩ := X0.leave (v := some (.int (1 : Int32))) (fun h => by rw [Bd.returns] at h; cases h)
      refine ⟨_, _, retN X0 hx (t := .boolean) Bd.returns (by simp) (hb hby q22_23) hr, hrun, hended, _, _, rfl, ?_, ⟨_, rfl⟩, hW, hsame.mono (by decide) (by decide)⟩
      show Q2 Z pc  h0 n0 _ s₁.heap _
      rw [e0]
      exact ⟨by unfold own_brk; rw [if_neg hc1, if_pos hc2], N0, rfl⟩
    · refine oS (fun _ κ => XS.icmpNo X0.here hx rfl (hb hby q22_9) rfl (feq hc2).1 κ) ?_
      show oG _ _ _ _ (s₁.setTop (mkF m 12 #[.val (.int pc)] []))
      refine oS (fun _ κ => XS.iloadN X0.here hx rfl (hb hby q22_12) rfl κ) ?_
      refine oS (fun _ κ => XS.bipush X0.here hx rfl (hb hby q22_13) κ) ?_
      by_cases hc3 : pc = (13 : Int32)
      · refine oS (fun _ κ => XS.icmpNo X0.here hx rfl (hb hby q22_15) rfl (teq hc3).2 κ) ?_
        show oG _ _ _ _ (s₁.setTop (mkF m 18 #[.val (.int pc)] []))
        refine oS (fun _ κ => XS.iconst X0.here hx rfl (hb hby q22_18) κ) ?_
        refine oS (fun _ κ => XS.goto X0.here hx rfl (pc0 := 19) (pc' := 23) rfl (hb hby q22_19) (by decide) (by decide) κ) ?_
        show oG _ _ _ _ (s₁.setTop (mkF m 23 #[.val (.int pc)] [(.int (1 : Int32))]))
        obtain ⟨fs, hr, hrun, hended, hW, hsame⟩ := X0.leave (v := some (.int (1 : Int32))) (fun h => by rw [Bd.returns] at h; cases h)
        refine ⟨_, _, retN X0 hx (t := .boolean) Bd.returns (by simp) (hb hby q22_23) hr, hrun, hended, _, _, rfl, ?_, ⟨_, rfl⟩, hW, hsame.mono (by decide) (by decide)⟩
        show Q2 Z pc  h0 n0 _ s₁.heap _
        rw [e0]
        exact ⟨by unfold own_brk; rw [if_neg hc1, if_neg hc2, if_pos hc3], N0, rfl⟩
      · refine oS (fun _ κ => XS.icmpYes X0.here hx rfl (pc0 := 15) (pc' := 22) rfl (hb hby q22_15) rfl (feq hc3).2 (by decide) (by decide) κ) ?_
        show oG _ _ _ _ (s₁.setTop (mkF m 22 #[.val (.int pc)] []))
        refine oS (fun _ κ => XS.iconst X0.here hx rfl (hb hby q22_22) κ) ?_
        obtain ⟨fs, hr, hrun, hended, hW, hsame⟩ := X0.leave (v := some (.int (0 : Int32))) (fun h => by rw [Bd.returns] at h; cases h)
        refine ⟨_, _, retN X0 hx (t := .boolean) Bd.returns (by simp) (hb hby q22_23) hr, hrun, hended, _, _, rfl, ?_, ⟨_, rfl⟩, hW, hsame.mono (by decide) (by decide)⟩
        show Q2 Z pc  h0 n0 _ s₁.heap _
        rw [e0]
        exact ⟨by unfold own_brk; rw [if_neg hc1, if_neg hc2, if_neg hc3], N0, rfl⟩
theorem ef_3 (m : MethodId) (pi : Int32) (pn : Int32) (fv : Value) (h_fv : fv.isRef = true) : entryFrame m #[(.int pi), (.int pn), fv] 3 = mkF m 0 #[.val (.int pi), .val (.int pn), .val fv] [] := by
  rcases ref_cases h_fv with rfl | ⟨_, rfl⟩ <;> rfl
def Q3 (Z : State) (pi : Int32) (pn : Int32) (fv : Value) (h0 : Heap) (n0 : Nat) (v : Option Value) (h : Heap) (L : List Loc) : Prop := v = some (.int pi) ∧ Fr n0 L ∧ h = h0
set_option maxRecDepth 65536 in
set_option maxHeartbeats 40000000 in
theorem rm3 (l : Launch) (Z : State) (a0 : Array Value) (hw : ∀ d ∈ tables_1, d.before a0 Z = true) (ws : List Jvm.Cond) (pi : Int32) (pn : Int32) (fv : Value) (h0 : Heap) (n0 : Nat) (Z0 : n0 ≤ h0.size) (P0 : fv.isRef = true) (P1 : ¬ pi < (0 : Int32)) (P2 : pi < pn) :
    MetFree l own_y22 (head1 (Jvm.Cond.code own_y22 jdk_41_method_11_code 3 (some .int) :: ws) own_r0) (fun ar_ U => ar_ = #[(.int pi), (.int pn), fv] ∧ Z.Warmed39 U.vm ∧ U.heap = h0) (fun _ _ _ _ _ => True) (fun _ U oo_ U' => ∃ v L, oo_ = .returned v ∧ Q3 Z pi pn fv  h0 n0 v U'.heap L ∧ FrameEnd U oo_ U' L own_r0.cells own_r0.slots) := by
  refine MetFree.of_bodySF (plainFor_of_name pn_1) hisR ?_
  intro p e s m args below meth c s₁ Bd hml0 hP hK
  obtain ⟨rfl, hZ, hh⟩ := hP
  have hx := Bd.exec
  have hby := Bd.bytes
  have hml : c.maxLocals = 3 := hml0
  have hown : s.vm.findClass "jdk/internal/util/Preconditions" = some m.cls := findClass_of_methodNamed Bd.named
  have hnm := (name_of_methodNamed Bd.named Bd.method).1
  have X0 : Stand p l e own_r0 s m #[(.int pi), (.int pn), fv] below meth c s₁ [] 0 0 := Stand.of_body Bd
  have e0 : s₁.heap = h0 := by rw [← hh, Bd.state]; rfl
  have N0 := Fr.nil n0
  refine own_in (castTop (ef_3 m pi pn fv P0)) ?_
  show oG _ _ _ _ (s₁.setTop (mkF m 0 #[.val (.int pi), .val (.int pn), .val fv] []))
  refine oS (fun _ κ => XS.iloadN X0.here hx rfl (hb hby q5_0) rfl κ) ?_
  refine oS (fun _ κ => XS.ifNo X0.here hx rfl (hb hby q5_1) rfl ((if0 _ _).trans (flt P1).1) κ) ?_
  show oG _ _ _ _ (s₁.setTop (mkF m 4 #[.val (.int pi), .val (.int pn), .val fv] []))
  refine oS (fun _ κ => XS.iloadN X0.here hx rfl (hb hby q5_4) rfl κ) ?_
  refine oS (fun _ κ => XS.iloadN X0.here hx rfl (hb hby q5_5) rfl κ) ?_
  refine oS (fun _ κ => XS.icmpYes X0.here hx rfl (pc0 := 6) (pc' := 16) rfl (hb hby q5_6) rfl (tlt P2).1 (by decide) (by decide) κ) ?_
  show oG _ _ _ _ (s₁.setTop (mkF m 16 #[.val (.int pi), .val (.int pn), .val fv] []))
  refine oS (fun _ κ => XS.iloadN X0.here hx rfl (hb hby q5_16) rfl κ) ?_
  obtain ⟨fs, hr, hrun, hended, hW, hsame⟩ := X0.leave (v := some (.int pi)) (fun h => by rw [Bd.returns] at h; cases h)
  refine ⟨_, _, own_retI X0 hx Bd.returns (hb hby q5_17) hr, hrun, hended, _, _, rfl, ?_, ⟨_, rfl⟩, hW, hsame.mono (by decide) (by decide)⟩
  show Q3 Z pi pn fv  h0 n0 _ s₁.heap _
  rw [e0]
  exact ⟨rfl, N0, rfl⟩
theorem ef_4 (m : MethodId) (pi : Int32) (pn : Int32) : entryFrame m #[(.int pi), (.int pn)] 2 = mkF m 0 #[.val (.int pi), .val (.int pn)] [] := by first | (simp [entryFrame, mkF, argsToLocals, Value.category]; done) | rfl
def Q4 (Z : State) (pi : Int32) (pn : Int32) (fv : Value) (h0 : Heap) (n0 : Nat) (v : Option Value) (h : Heap) (L : List Loc) : Prop := v = none ∧ Fr n0 L ∧ h = h0
set_option maxRecDepth 65536 in
set_option maxHeartbeats 40000000 in
theorem rm4 (l : Launch) (Z : State) (a0 : Array Value) (hw : ∀ d ∈ tables_1, d.before a0 Z = true) (ws : List Jvm.Cond) (pi : Int32) (pn : Int32) (fv : Value) (h0 : Heap) (n0 : Nat) (Z0 : n0 ≤ h0.size) (P0 : Old Z n0 h0) (P1 : Sta Z Z.heap "jdk/internal/util/Preconditions" "SIOOBE_FORMATTER" "Ljava/util/function/BiFunction;" fv) (P2 : fv.isRef = true) (P3 : ¬ pi < (0 : Int32)) (P4 : pi < pn) :
    MetFree l own_y6 (head1 (Jvm.Cond.code own_y6 jdk_42_method_155_code 2 none :: ws) own_r2) (fun ar_ U => ar_ = #[(.int pi), (.int pn)] ∧ Z.Warmed39 U.vm ∧ U.heap = h0) (fun _ _ _ _ _ => True) (fun _ U oo_ U' => ∃ v L, oo_ = .returned v ∧ Q4 Z pi pn fv h0 n0 v U'.heap L ∧ FrameEnd U oo_ U' L own_r2.cells own_r2.slots) := by
  refine MetFree.of_bodySF (plainFor_of_name pn_2) hisR ?_
  intro p e s m args below meth c s₁ Bd hml0 hP hK
  obtain ⟨rfl, hZ, hh⟩ := hP
  have hx := Bd.exec
  have hby := Bd.bytes
  have hml : c.maxLocals = 2 := hml0
  have hown : s.vm.findClass "java/lang/String" = some m.cls := findClass_of_methodNamed Bd.named
  have hnm := (name_of_methodNamed Bd.named Bd.method).1
  have X0 : Stand p l e own_r2 s m #[(.int pi), (.int pn)] below meth c s₁ [] 0 0 := Stand.of_body Bd
  have e0 : s₁.heap = h0 := by rw [← hh, Bd.state]; rfl
  have N0 := Fr.nil n0
  refine own_in (castTop (ef_4 m pi pn)) ?_
  show oG _ _ _ _ (s₁.setTop (mkF m 0 #[.val (.int pi), .val (.int pn)] []))
  refine oS (fun _ κ => XS.iloadN X0.here hx rfl (hb hby q3_0) rfl κ) ?_
  refine oS (fun _ κ => XS.iloadN X0.here hx rfl (hb hby q3_1) rfl κ) ?_
  obtain ⟨T1, X1, e1, st1⟩ := getS2 X0 hx hZ hown (host := "") (Or.inl (own_w hw 72 rfl)) Via.refl e0 (P1.ext P0.2) (g := (mkF m 2 #[.val (.int pi), .val (.int pn)] [(.int pn), (.int pi)])) rfl (hb hby q3_2)
  refine oS st1 ?_
  show oG _ _ _ _ (T1.setTop (mkF m 5 #[.val (.int pi), .val (.int pn)] [fv, (.int pn), (.int pi)]))
  obtain ⟨vr2, _, ⟨T2, L2, k2, n2⟩, -, X2, ⟨Lc2, hQ2, l2, y2, z2⟩, st2⟩ := Jvm.LawKit.callS X1 hx (y := own_y22) hown (mvT hZ (own_w hw 74 rfl)) (mvT hZ (own_w hw 75 rfl)) (mvT hZ (own_w hw 73 rfl)) (mvT hZ (own_w hw 76 rfl)) (by decide) (backOf (W := 0) (rm3 l Z a0 hw [] pi pn fv  h0 n0 Z0 P2 P3 P4) hZ (own_w hw 76 rfl) (own_w hw 73 rfl) (by decide) (by decide)) (g := (mkF m 5 #[.val (.int pi), .val (.int pn)] [fv, (.int pn), (.int pi)])) rfl (by rw [hml]; rfl) (argsL := [(.int pi), (.int pn), fv]) (rest := []) (lenOf pd_0 rfl) rfl own_2z (hb hby q3_5) (fun _ _ => ⟨rfl, e1, (by decide : 0 + 0 ≤ _), (by decide : 0 + 0 ≤ _)⟩)
  dsimp only [Pt.U, Pt.locs, Pt.cells, Pt.slots] at X2 l2 y2 z2 st2 hQ2
  subst l2 y2 z2
  obtain ⟨rfl, Nq2, eq2⟩ := hQ2
  have N2 := Fr.app N0 Nq2
  refine oS st2 ?_
  show oG _ _ _ _ (T2.setTop (mkF m 8 #[.val (.int pi), .val (.int pn)] [(.int pi)]))
  refine oS (fun _ κ => XS.pop X2.here hx rfl (hb hby q3_8) rfl rfl κ) ?_
  show oG _ _ _ _ (T2.setTop (mkF m 9 #[.val (.int pi), .val (.int pn)] []))
  obtain ⟨fs, hr, hrun, hended, hW, hsame⟩ := X2.leave (v := none) (fun _ => rfl)
  refine ⟨_, _, X2.returnOut hx Bd.returns (hb hby q3_9) hr, hrun, hended, _, _, rfl, ?_, ⟨_, rfl⟩, hW, hsame.mono (by decide) (by decide)⟩
  show Q4 Z pi pn fv h0 n0 _ T2.heap _
  rw [eq2]
  exact ⟨rfl, N2, rfl⟩
theorem ef_5 (m : MethodId) (b : Addr) (pi : Int32) : entryFrame m #[(.ref b), (.int pi)] 2 = mkF m 0 #[.val (.ref b), .val (.int pi)] [] := by first | (simp [entryFrame, mkF, argsToLocals, Value.category]; done) | rfl
def Q5 (Z : State) (b : Addr) (pi : Int32) (n : Int32) (f : Nat → Int32) (fv : Value) (h0 : Heap) (n0 : Nat) (v : Option Value) (h : Heap) (L : List Loc) : Prop := v = some (.int (own_c1 (f pi.toNatClampNeg))) ∧ Fr n0 L ∧ h = h0
set_option maxRecDepth 65536 in
set_option maxHeartbeats 40000000 in
theorem rm5 (l : Launch) (Z : State) (a0 : Array Value) (hw : ∀ d ∈ tables_1, d.before a0 Z = true) (ws : List Jvm.Cond) (b : Addr) (pi : Int32) (n : Int32) (f : Nat → Int32) (fv : Value) (h0 : Heap) (n0 : Nat) (Z0 : n0 ≤ h0.size) (P0 : own_By Z h0 b n f) (P1 : Old Z n0 h0) (P2 : Sta Z Z.heap "jdk/internal/util/Preconditions" "SIOOBE_FORMATTER" "Ljava/util/function/BiFunction;" fv) (P3 : fv.isRef = true) (P4 : ¬ pi < (0 : Int32)) (P5 : pi < n) :
    MetFree l own_y10 (head1 (Jvm.Cond.code own_y10 jdk_43_method_2_code 2 (some .char) :: ws) own_r9) (fun ar_ U => ar_ = #[(.ref b), (.int pi)] ∧ Z.Warmed39 U.vm ∧ U.heap = h0) (fun _ _ _ _ _ => True) (fun _ U oo_ U' => ∃ v L, oo_ = .returned v ∧ Q5 Z b pi n f fv h0 n0 v U'.heap L ∧ FrameEnd U oo_ U' L own_r9.cells own_r9.slots) := by
  refine MetFree.of_bodySF (plainFor_of_name pn_3) hisR ?_
  intro p e s m args below meth c s₁ Bd hml0 hP hK
  obtain ⟨rfl, hZ, hh⟩ := hP
  have hx := Bd.exec
  have hby := Bd.bytes
  have hml : c.maxLocals = 2 := hml0
  have hown : s.vm.findClass "java/lang/StringLatin1" = some m.cls := findClass_of_methodNamed Bd.named
  have hnm := (name_of_methodNamed Bd.named Bd.method).1
  have X0 : Stand p l e own_r9 s m #[(.ref b), (.int pi)] below meth c s₁ [] 0 0 := Stand.of_body Bd
  have e0 : s₁.heap = h0 := by rw [← hh, Bd.state]; rfl
  have N0 := Fr.nil n0
  refine own_in (castTop (ef_5 m b pi)) ?_
  show oG _ _ _ _ (s₁.setTop (mkF m 0 #[.val (.ref b), .val (.int pi)] []))
  refine oS (fun _ κ => XS.iloadN X0.here hx rfl (hb hby q17_0) rfl κ) ?_
  refine oS (fun _ κ => XS.aloadN X0.here hx rfl (hb hby q17_1) rfl rfl κ) ?_
  obtain ⟨cl1, Ar1, Sz1, Nz1, -⟩ := P0.opened
  refine oS (fun _ κ => X0.arraylength hx (by rw [e0]; exact Ar1.1) (State.isArrayOf_alike hZ.alike Ar1.2.1) (g := (mkF m 2 #[.val (.ref b), .val (.int pi)] [(.ref b), (.int pi)])) rfl rfl (hb hby q17_2) _ κ) ?_
  rw [len_of Sz1 Nz1]
  show oG _ _ _ _ (s₁.setTop (mkF m 3 #[.val (.ref b), .val (.int pi)] [(.int n), (.int pi)]))
  obtain ⟨vr2, _, ⟨T2, L2, k2, n2⟩, -, X2, ⟨Lc2, hQ2, l2, y2, z2⟩, st2⟩ := Jvm.LawKit.callS X0 hx (y := own_y6) hown (mvT hZ (own_w hw 69 rfl)) (mvT hZ (own_w hw 70 rfl)) (mvT hZ (own_w hw 7 rfl)) (mvT hZ (own_w hw 71 rfl)) (by decide) (backOf (W := 0) (rm4 l Z a0 hw [] pi n fv h0 n0 Z0 P1 P2 P3 P4 P5) hZ (own_w hw 71 rfl) (own_w hw 7 rfl) (by decide) (by decide)) (g := (mkF m 3 #[.val (.ref b), .val (.int pi)] [(.int n), (.int pi)])) rfl (by rw [hml]; rfl) (argsL := [(.int pi), (.int n)]) (rest := []) (lenOf pd_1 rfl) rfl own_2z (hb hby q17_3) (fun _ _ => ⟨rfl, e0, (by decide : 0 + 0 ≤ _), (by decide : 0 + 0 ≤ _)⟩)
  dsimp only [Pt.U, Pt.locs, Pt.cells, Pt.slots] at X2 l2 y2 z2 st2 hQ2
  subst l2 y2 z2
  obtain ⟨rfl, Nq2, eq2⟩ := hQ2
  have N2 := Fr.app N0 Nq2
  refine oS st2 ?_
  show oG _ _ _ _ (T2.setTop (mkF m 6 #[.val (.ref b), .val (.int pi)] []))
  refine oS (fun _ κ => XS.aloadN X2.here hx rfl (hb hby q17_6) rfl rfl κ) ?_
  refine oS (fun _ κ => XS.iloadN X2.here hx rfl (hb hby q17_7) rfl κ) ?_
  obtain ⟨cl3, Ar3, Sz3, Nz3, at3⟩ := P0.opened
  have hin3 := inb_of (j := pi) Sz3 ⟨P4, P5⟩
  refine oS (fun _ κ => X2.baloadBytes hx (j := pi) (v := (.int (f pi.toNatClampNeg))) (by rw [eq2]; exact Ar3.1) (State.isArrayOf_alike hZ.alike Ar3.2.1) Ar3.2.2 hin3 (at3 _ hin3) (g := (mkF m 8 #[.val (.ref b), .val (.int pi)] [(.int pi), (.ref b)])) rfl rfl (hb hby q17_8) _ κ) ?_
  show oG _ _ _ _ (T2.setTop (mkF m 9 #[.val (.ref b), .val (.int pi)] [(.int (f pi.toNatClampNeg))]))
  refine oS (fun _ κ => XS.sipush X2.here hx rfl (hb hby q17_9) κ) ?_
  refine oS (fun _ κ => XS.iand X2.here hx rfl (hb hby q17_12) rfl κ) ?_
  show oG _ _ _ _ (T2.setTop (mkF m 13 #[.val (.ref b), .val (.int pi)] [(.int ((f pi.toNatClampNeg) &&& (255 : Int32)))]))
  refine oS (fun _ κ => XS.i2c X2.here hx rfl (hb hby q17_13) rfl κ) ?_
  show oG _ _ _ _ (T2.setTop (mkF m 14 #[.val (.ref b), .val (.int pi)] [(.int (((f pi.toNatClampNeg) &&& (255 : Int32)).toUInt32.toUInt16.toUInt32.toInt32))]))
  obtain ⟨fs, hr, hrun, hended, hW, hsame⟩ := X2.leave (v := some (.int (nar .char (((f pi.toNatClampNeg) &&& (255 : Int32)).toUInt32.toUInt16.toUInt32.toInt32)))) (fun h => by rw [Bd.returns] at h; cases h)
  refine ⟨_, _, retN X2 hx (t := .char) Bd.returns (by simp) (hb hby q17_14) hr, hrun, hended, _, _, rfl, ?_, ⟨_, rfl⟩, hW, hsame.mono (by decide) (by decide)⟩
  show Q5 Z b pi n f fv h0 n0 _ T2.heap _
  rw [eq2]
  exact ⟨rfl, N2, rfl⟩
theorem ef_6 (m : MethodId) (a : Addr) : entryFrame m #[(.ref a)] 1 = mkF m 0 #[.val (.ref a)] [] := by first | (simp [entryFrame, mkF, argsToLocals, Value.category]; done) | rfl
def Q6 (Z : State) (a : Addr) (cs : Int32) (h0 : Heap) (n0 : Nat) (v : Option Value) (h : Heap) (L : List Loc) : Prop := v = some (.int (1 : Int32)) ∧ Fr n0 L ∧ h = h0
set_option maxRecDepth 65536 in
set_option maxHeartbeats 40000000 in
theorem rm6 (l : Launch) (Z : State) (a0 : Array Value) (hw : ∀ d ∈ tables_1, d.before a0 Z = true) (ws : List Jvm.Cond) (a : Addr) (cs : Int32) (h0 : Heap) (n0 : Nat) (Z0 : n0 ≤ h0.size) (P0 : Old Z n0 h0) (P1 : Sta Z Z.heap "java/lang/String" "COMPACT_STRINGS" "Z" (.int cs)) (P2 : ¬ cs = (0 : Int32)) (P3 : Fld Z h0 a "java/lang/String" "coder" "B" (.int (0 : Int32))) :
    MetFree l own_y8 (head1 (Jvm.Cond.code own_y8 jdk_42_method_154_code 1 (some .boolean) :: ws) own_r0) (fun ar_ U => ar_ = #[(.ref a)] ∧ Z.Warmed39 U.vm ∧ U.heap = h0) (fun _ _ _ _ _ => True) (fun _ U oo_ U' => ∃ v L, oo_ = .returned v ∧ Q6 Z a cs h0 n0 v U'.heap L ∧ FrameEnd U oo_ U' L own_r0.cells own_r0.slots) := by
  refine MetFree.of_bodySF (plainFor_of_name pn_2) hisR ?_
  intro p e s m args below meth c s₁ Bd hml0 hP hK
  obtain ⟨rfl, hZ, hh⟩ := hP
  have hx := Bd.exec
  have hby := Bd.bytes
  have hml : c.maxLocals = 1 := hml0
  have hown : s.vm.findClass "java/lang/String" = some m.cls := findClass_of_methodNamed Bd.named
  have hnm := (name_of_methodNamed Bd.named Bd.method).1
  have X0 : Stand p l e own_r0 s m #[(.ref a)] below meth c s₁ [] 0 0 := Stand.of_body Bd
  have e0 : s₁.heap = h0 := by rw [← hh, Bd.state]; rfl
  have N0 := Fr.nil n0
  refine own_in (castTop (ef_6 m a)) ?_
  show oG _ _ _ _ (s₁.setTop (mkF m 0 #[.val (.ref a)] []))
  obtain ⟨T1, X1, e1, st1⟩ := getS2 X0 hx hZ hown (host := "") (Or.inl (own_w hw 41 rfl)) Via.refl e0 (P1.ext P0.2) (g := (mkF m 0 #[.val (.ref a)] [])) rfl (hb hby q1_0)
  refine oS st1 ?_
  show oG _ _ _ _ (T1.setTop (mkF m 3 #[.val (.ref a)] [(.int cs)]))
  refine oS (fun _ κ => XS.ifNo X1.here hx rfl (hb hby q1_3) rfl ((if0 _ _).trans (feq P2).1) κ) ?_
  show oG _ _ _ _ (T1.setTop (mkF m 6 #[.val (.ref a)] []))
  refine oS (fun _ κ => XS.aloadN X1.here hx rfl (hb hby q1_6) rfl rfl κ) ?_
  obtain ⟨T2, X2, e2, st2⟩ := getF X1 hx hZ hown (host := "") (Or.inl (own_w hw 26 rfl)) Via.refl e1 P3 (g := (mkF m 7 #[.val (.ref a)] [(.ref a)])) rfl rfl (hb hby q1_7)
  refine oS st2 ?_
  show oG _ _ _ _ (T2.setTop (mkF m 10 #[.val (.ref a)] [(.int (0 : Int32))]))
  refine oS (fun _ κ => XS.ifNo X2.here hx rfl (hb hby q1_10) rfl ((if0 _ _).trans (teq rfl).2) κ) ?_
  show oG _ _ _ _ (T2.setTop (mkF m 13 #[.val (.ref a)] []))
  refine oS (fun _ κ => XS.iconst X2.here hx rfl (hb hby q1_13) κ) ?_
  refine oS (fun _ κ => XS.goto X2.here hx rfl (pc0 := 14) (pc' := 18) rfl (hb hby q1_14) (by decide) (by decide) κ) ?_
  show oG _ _ _ _ (T2.setTop (mkF m 18 #[.val (.ref a)] [(.int (1 : Int32))]))
  obtain ⟨fs, hr, hrun, hended, hW, hsame⟩ := X2.leave (v := some (.int (1 : Int32))) (fun h => by rw [Bd.returns] at h; cases h)
  refine ⟨_, _, retN X2 hx (t := .boolean) Bd.returns (by simp) (hb hby q1_18) hr, hrun, hended, _, _, rfl, ?_, ⟨_, rfl⟩, hW, hsame.mono (by decide) (by decide)⟩
  show Q6 Z a cs h0 n0 _ T2.heap _
  rw [e2]
  exact ⟨rfl, N0, rfl⟩
theorem ef_7 (m : MethodId) (a : Addr) : entryFrame m #[(.ref a)] 1 = mkF m 0 #[.val (.ref a)] [] := by first | (simp [entryFrame, mkF, argsToLocals, Value.category]; done) | rfl
def Q7 (Z : State) (a : Addr) (cs : Int32) (h0 : Heap) (n0 : Nat) (v : Option Value) (h : Heap) (L : List Loc) : Prop := v = some (.int (0 : Int32)) ∧ Fr n0 L ∧ h = h0
set_option maxRecDepth 65536 in
set_option maxHeartbeats 40000000 in
theorem rm7 (l : Launch) (Z : State) (a0 : Array Value) (hw : ∀ d ∈ tables_1, d.before a0 Z = true) (ws : List Jvm.Cond) (a : Addr) (cs : Int32) (h0 : Heap) (n0 : Nat) (Z0 : n0 ≤ h0.size) (P0 : Old Z n0 h0) (P1 : Sta Z Z.heap "java/lang/String" "COMPACT_STRINGS" "Z" (.int cs)) (P2 : ¬ cs = (0 : Int32)) (P3 : Fld Z h0 a "java/lang/String" "coder" "B" (.int (1 : Int32))) :
    MetFree l own_y8 (head1 (Jvm.Cond.code own_y8 jdk_42_method_154_code 1 (some .boolean) :: ws) own_r0) (fun ar_ U => ar_ = #[(.ref a)] ∧ Z.Warmed39 U.vm ∧ U.heap = h0) (fun _ _ _ _ _ => True) (fun _ U oo_ U' => ∃ v L, oo_ = .returned v ∧ Q7 Z a cs h0 n0 v U'.heap L ∧ FrameEnd U oo_ U' L own_r0.cells own_r0.slots) := by
  refine MetFree.of_bodySF (plainFor_of_name pn_2) hisR ?_
  intro p e s m args below meth c s₁ Bd hml0 hP hK
  obtain ⟨rfl, hZ, hh⟩ := hP
  have hx := Bd.exec
  have hby := Bd.bytes
  have hml : c.maxLocals = 1 := hml0
  have hown : s.vm.findClass "java/lang/String" = some m.cls := findClass_of_methodNamed Bd.named
  have hnm := (name_of_methodNamed Bd.named Bd.method).1
  have X0 : Stand p l e own_r0 s m #[(.ref a)] below meth c s₁ [] 0 0 := Stand.of_body Bd
  have e0 : s₁.heap = h0 := by rw [← hh, Bd.state]; rfl
  have N0 := Fr.nil n0
  refine own_in (castTop (ef_7 m a)) ?_
  show oG _ _ _ _ (s₁.setTop (mkF m 0 #[.val (.ref a)] []))
  obtain ⟨T1, X1, e1, st1⟩ := getS2 X0 hx hZ hown (host := "") (Or.inl (own_w hw 41 rfl)) Via.refl e0 (P1.ext P0.2) (g := (mkF m 0 #[.val (.ref a)] [])) rfl (hb hby q1_0)
  refine oS st1 ?_
  show oG _ _ _ _ (T1.setTop (mkF m 3 #[.val (.ref a)] [(.int cs)]))
  refine oS (fun _ κ => XS.ifNo X1.here hx rfl (hb hby q1_3) rfl ((if0 _ _).trans (feq P2).1) κ) ?_
  show oG _ _ _ _ (T1.setTop (mkF m 6 #[.val (.ref a)] []))
  refine oS (fun _ κ => XS.aloadN X1.here hx rfl (hb hby q1_6) rfl rfl κ) ?_
  obtain ⟨T2, X2, e2, st2⟩ := getF X1 hx hZ hown (host := "") (Or.inl (own_w hw 26 rfl)) Via.refl e1 P3 (g := (mkF m 7 #[.val (.ref a)] [(.ref a)])) rfl rfl (hb hby q1_7)
  refine oS st2 ?_
  show oG _ _ _ _ (T2.setTop (mkF m 10 #[.val (.ref a)] [(.int (1 : Int32))]))
  refine oS (fun _ κ => XS.ifYes X2.here hx rfl (pc0 := 10) (pc' := 17) rfl (hb hby q1_10) rfl ((if0 _ _).trans (feq (by decide)).2) (by decide) (by decide) κ) ?_
  show oG _ _ _ _ (T2.setTop (mkF m 17 #[.val (.ref a)] []))
  refine oS (fun _ κ => XS.iconst X2.here hx rfl (hb hby q1_17) κ) ?_
  obtain ⟨fs, hr, hrun, hended, hW, hsame⟩ := X2.leave (v := some (.int (0 : Int32))) (fun h => by rw [Bd.returns] at h; cases h)
  refine ⟨_, _, retN X2 hx (t := .boolean) Bd.returns (by simp) (hb hby q1_18) hr, hrun, hended, _, _, rfl, ?_, ⟨_, rfl⟩, hW, hsame.mono (by decide) (by decide)⟩
  show Q7 Z a cs h0 n0 _ T2.heap _
  rw [e2]
  exact ⟨rfl, N0, rfl⟩
theorem ef_8 (m : MethodId) (a : Addr) : entryFrame m #[(.ref a)] 1 = mkF m 0 #[.val (.ref a)] [] := by first | (simp [entryFrame, mkF, argsToLocals, Value.category]; done) | rfl
def Q8 (Z : State) (a : Addr) (cs : Int32) (h0 : Heap) (n0 : Nat) (v : Option Value) (h : Heap) (L : List Loc) : Prop := v = some (.int (0 : Int32)) ∧ Fr n0 L ∧ h = h0
set_option maxRecDepth 65536 in
set_option maxHeartbeats 40000000 in
theorem rm8 (l : Launch) (Z : State) (a0 : Array Value) (hw : ∀ d ∈ tables_1, d.before a0 Z = true) (ws : List Jvm.Cond) (a : Addr) (cs : Int32) (h0 : Heap) (n0 : Nat) (Z0 : n0 ≤ h0.size) (P0 : Old Z n0 h0) (P1 : Sta Z Z.heap "java/lang/String" "COMPACT_STRINGS" "Z" (.int cs)) (P2 : ¬ cs = (0 : Int32)) (P3 : Fld Z h0 a "java/lang/String" "coder" "B" (.int (0 : Int32))) :
    MetFree l own_y7 (head1 (Jvm.Cond.code own_y7 jdk_42_method_152_code 1 (some .byte) :: ws) own_r0) (fun ar_ U => ar_ = #[(.ref a)] ∧ Z.Warmed39 U.vm ∧ U.heap = h0) (fun _ _ _ _ _ => True) (fun _ U oo_ U' => ∃ v L, oo_ = .returned v ∧ Q8 Z a cs h0 n0 v U'.heap L ∧ FrameEnd U oo_ U' L own_r0.cells own_r0.slots) := by
  refine MetFree.of_bodySF (plainFor_of_name pn_2) hisR ?_
  intro p e s m args below meth c s₁ Bd hml0 hP hK
  obtain ⟨rfl, hZ, hh⟩ := hP
  have hx := Bd.exec
  have hby := Bd.bytes
  have hml : c.maxLocals = 1 := hml0
  have hown : s.vm.findClass "java/lang/String" = some m.cls := findClass_of_methodNamed Bd.named
  have hnm := (name_of_methodNamed Bd.named Bd.method).1
  have X0 : Stand p l e own_r0 s m #[(.ref a)] below meth c s₁ [] 0 0 := Stand.of_body Bd
  have e0 : s₁.heap = h0 := by rw [← hh, Bd.state]; rfl
  have N0 := Fr.nil n0
  refine own_in (castTop (ef_8 m a)) ?_
  show oG _ _ _ _ (s₁.setTop (mkF m 0 #[.val (.ref a)] []))
  obtain ⟨T1, X1, e1, st1⟩ := getS2 X0 hx hZ hown (host := "") (Or.inl (own_w hw 41 rfl)) Via.refl e0 (P1.ext P0.2) (g := (mkF m 0 #[.val (.ref a)] [])) rfl (hb hby q0_0)
  refine oS st1 ?_
  show oG _ _ _ _ (T1.setTop (mkF m 3 #[.val (.ref a)] [(.int cs)]))
  refine oS (fun _ κ => XS.ifNo X1.here hx rfl (hb hby q0_3) rfl ((if0 _ _).trans (feq P2).1) κ) ?_
  show oG _ _ _ _ (T1.setTop (mkF m 6 #[.val (.ref a)] []))
  refine oS (fun _ κ => XS.aloadN X1.here hx rfl (hb hby q0_6) rfl rfl κ) ?_
  obtain ⟨T2, X2, e2, st2⟩ := getF X1 hx hZ hown (host := "") (Or.inl (own_w hw 26 rfl)) Via.refl e1 P3 (g := (mkF m 7 #[.val (.ref a)] [(.ref a)])) rfl rfl (hb hby q0_7)
  refine oS st2 ?_
  show oG _ _ _ _ (T2.setTop (mkF m 10 #[.val (.ref a)] [(.int (0 : Int32))]))
  refine oS (fun _ κ => XS.goto X2.here hx rfl (pc0 := 10) (pc' := 14) rfl (hb hby q0_10) (by decide) (by decide) κ) ?_
  show oG _ _ _ _ (T2.setTop (mkF m 14 #[.val (.ref a)] [(.int (0 : Int32))]))
  obtain ⟨fs, hr, hrun, hended, hW, hsame⟩ := X2.leave (v := some (.int (0 : Int32))) (fun h => by rw [Bd.returns] at h; cases h)
  refine ⟨_, _, retN X2 hx (t := .byte) Bd.returns (by simp) (hb hby q0_14) hr, hrun, hended, _, _, rfl, ?_, ⟨_, rfl⟩, hW, hsame.mono (by decide) (by decide)⟩
  show Q8 Z a cs h0 n0 _ T2.heap _
  rw [e2]
  exact ⟨rfl, N0, rfl⟩
theorem ef_9 (m : MethodId) (a : Addr) : entryFrame m #[(.ref a)] 1 = mkF m 0 #[.val (.ref a)] [] := by first | (simp [entryFrame, mkF, argsToLocals, Value.category]; done) | rfl
def Q9 (Z : State) (a : Addr) (cs : Int32) (h0 : Heap) (n0 : Nat) (v : Option Value) (h : Heap) (L : List Loc) : Prop := v = some (.int (1 : Int32)) ∧ Fr n0 L ∧ h = h0
set_option maxRecDepth 65536 in
set_option maxHeartbeats 40000000 in
theorem rm9 (l : Launch) (Z : State) (a0 : Array Value) (hw : ∀ d ∈ tables_1, d.before a0 Z = true) (ws : List Jvm.Cond) (a : Addr) (cs : Int32) (h0 : Heap) (n0 : Nat) (Z0 : n0 ≤ h0.size) (P0 : Old Z n0 h0) (P1 : Sta Z Z.heap "java/lang/String" "COMPACT_STRINGS" "Z" (.int cs)) (P2 : ¬ cs = (0 : Int32)) (P3 : Fld Z h0 a "java/lang/String" "coder" "B" (.int (1 : Int32))) :
    MetFree l own_y7 (head1 (Jvm.Cond.code own_y7 jdk_42_method_152_code 1 (some .byte) :: ws) own_r0) (fun ar_ U => ar_ = #[(.ref a)] ∧ Z.Warmed39 U.vm ∧ U.heap = h0) (fun _ _ _ _ _ => True) (fun _ U oo_ U' => ∃ v L, oo_ = .returned v ∧ Q9 Z a cs h0 n0 v U'.heap L ∧ FrameEnd U oo_ U' L own_r0.cells own_r0.slots) := by
  refine MetFree.of_bodySF (plainFor_of_name pn_2) hisR ?_
  intro p e s m args below meth c s₁ Bd hml0 hP hK
  obtain ⟨rfl, hZ, hh⟩ := hP
  have hx := Bd.exec
  have hby := Bd.bytes
  have hml : c.maxLocals = 1 := hml0
  have hown : s.vm.findClass "java/lang/String" = some m.cls := findClass_of_methodNamed Bd.named
  have hnm := (name_of_methodNamed Bd.named Bd.method).1
  have X0 : Stand p l e own_r0 s m #[(.ref a)] below meth c s₁ [] 0 0 := Stand.of_body Bd
  have e0 : s₁.heap = h0 := by rw [← hh, Bd.state]; rfl
  have N0 := Fr.nil n0
  refine own_in (castTop (ef_9 m a)) ?_
  show oG _ _ _ _ (s₁.setTop (mkF m 0 #[.val (.ref a)] []))
  obtain ⟨T1, X1, e1, st1⟩ := getS2 X0 hx hZ hown (host := "") (Or.inl (own_w hw 41 rfl)) Via.refl e0 (P1.ext P0.2) (g := (mkF m 0 #[.val (.ref a)] [])) rfl (hb hby q0_0)
  refine oS st1 ?_
  show oG _ _ _ _ (T1.setTop (mkF m 3 #[.val (.ref a)] [(.int cs)]))
  refine oS (fun _ κ => XS.ifNo X1.here hx rfl (hb hby q0_3) rfl ((if0 _ _).trans (feq P2).1) κ) ?_
  show oG _ _ _ _ (T1.setTop (mkF m 6 #[.val (.ref a)] []))
  refine oS (fun _ κ => XS.aloadN X1.here hx rfl (hb hby q0_6) rfl rfl κ) ?_
  obtain ⟨T2, X2, e2, st2⟩ := getF X1 hx hZ hown (host := "") (Or.inl (own_w hw 26 rfl)) Via.refl e1 P3 (g := (mkF m 7 #[.val (.ref a)] [(.ref a)])) rfl rfl (hb hby q0_7)
  refine oS st2 ?_
  show oG _ _ _ _ (T2.setTop (mkF m 10 #[.val (.ref a)] [(.int (1 : Int32))]))
  refine oS (fun _ κ => XS.goto X2.here hx rfl (pc0 := 10) (pc' := 14) rfl (hb hby q0_10) (by decide) (by decide) κ) ?_
  show oG _ _ _ _ (T2.setTop (mkF m 14 #[.val (.ref a)] [(.int (1 : Int32))]))
  obtain ⟨fs, hr, hrun, hended, hW, hsame⟩ := X2.leave (v := some (.int (1 : Int32))) (fun h => by rw [Bd.returns] at h; cases h)
  refine ⟨_, _, retN X2 hx (t := .byte) Bd.returns (by simp) (hb hby q0_14) hr, hrun, hended, _, _, rfl, ?_, ⟨_, rfl⟩, hW, hsame.mono (by decide) (by decide)⟩
  show Q9 Z a cs h0 n0 _ T2.heap _
  rw [e2]
  exact ⟨rfl, N0, rfl⟩
theorem ef_10 (m : MethodId) (b : Addr) : entryFrame m #[(.ref b)] 1 = mkF m 0 #[.val (.ref b)] [] := by first | (simp [entryFrame, mkF, argsToLocals, Value.category]; done) | rfl
def Q10 (Z : State) (b : Addr) (n : Int32) (f : Nat → Int32) (h0 : Heap) (n0 : Nat) (v : Option Value) (h : Heap) (L : List Loc) : Prop := v = some (.int (n >>> ((1 : Int32) &&& 31))) ∧ Fr n0 L ∧ h = h0
set_option maxRecDepth 65536 in
set_option maxHeartbeats 40000000 in
theorem rm10 (l : Launch) (Z : State) (a0 : Array Value) (hw : ∀ d ∈ tables_1, d.before a0 Z = true) (ws : List Jvm.Cond) (b : Addr) (n : Int32) (f : Nat → Int32) (h0 : Heap) (n0 : Nat) (Z0 : n0 ≤ h0.size) (P0 : own_By Z h0 b n f) :
    MetFree l own_y17 (head1 (Jvm.Cond.code own_y17 jdk_52_method_6_code 1 (some .int) :: ws) own_r0) (fun ar_ U => ar_ = #[(.ref b)] ∧ Z.Warmed39 U.vm ∧ U.heap = h0) (fun _ _ _ _ _ => True) (fun _ U oo_ U' => ∃ v L, oo_ = .returned v ∧ Q10 Z b n f h0 n0 v U'.heap L ∧ FrameEnd U oo_ U' L own_r0.cells own_r0.slots) := by
  refine MetFree.of_bodySF (plainFor_of_name pn_4) hisR ?_
  intro p e s m args below meth c s₁ Bd hml0 hP hK
  obtain ⟨rfl, hZ, hh⟩ := hP
  have hx := Bd.exec
  have hby := Bd.bytes
  have hml : c.maxLocals = 1 := hml0
  have hown : s.vm.findClass "java/lang/StringUTF16" = some m.cls := findClass_of_methodNamed Bd.named
  have hnm := (name_of_methodNamed Bd.named Bd.method).1
  have X0 : Stand p l e own_r0 s m #[(.ref b)] below meth c s₁ [] 0 0 := Stand.of_body Bd
  have e0 : s₁.heap = h0 := by rw [← hh, Bd.state]; rfl
  have N0 := Fr.nil n0
  refine own_in (castTop (ef_10 m b)) ?_
  show oG _ _ _ _ (s₁.setTop (mkF m 0 #[.val (.ref b)] []))
  refine oS (fun _ κ => XS.aloadN X0.here hx rfl (hb hby q16_0) rfl rfl κ) ?_
  obtain ⟨cl1, Ar1, Sz1, Nz1, -⟩ := P0.opened
  refine oS (fun _ κ => X0.arraylength hx (by rw [e0]; exact Ar1.1) (State.isArrayOf_alike hZ.alike Ar1.2.1) (g := (mkF m 1 #[.val (.ref b)] [(.ref b)])) rfl rfl (hb hby q16_1) _ κ) ?_
  rw [len_of Sz1 Nz1]
  show oG _ _ _ _ (s₁.setTop (mkF m 2 #[.val (.ref b)] [(.int n)]))
  refine oS (fun _ κ => XS.iconst X0.here hx rfl (hb hby q16_2) κ) ?_
  refine oS (fun _ κ => XS.ishr X0.here hx rfl (hb hby q16_3) rfl κ) ?_
  show oG _ _ _ _ (s₁.setTop (mkF m 4 #[.val (.ref b)] [(.int (n >>> ((1 : Int32) &&& 31)))]))
  obtain ⟨fs, hr, hrun, hended, hW, hsame⟩ := X0.leave (v := some (.int (n >>> ((1 : Int32) &&& 31)))) (fun h => by rw [Bd.returns] at h; cases h)
  refine ⟨_, _, own_retI X0 hx Bd.returns (hb hby q16_4) hr, hrun, hended, _, _, rfl, ?_, ⟨_, rfl⟩, hW, hsame.mono (by decide) (by decide)⟩
  show Q10 Z b n f h0 n0 _ s₁.heap _
  rw [e0]
  exact ⟨rfl, N0, rfl⟩
theorem ef_11 (m : MethodId) (pi : Int32) (b : Addr) : entryFrame m #[(.int pi), (.ref b)] 2 = mkF m 0 #[.val (.int pi), .val (.ref b)] [] := by first | (simp [entryFrame, mkF, argsToLocals, Value.category]; done) | rfl
def Q11 (Z : State) (pi : Int32) (b : Addr) (n : Int32) (f : Nat → Int32) (fv : Value) (h0 : Heap) (n0 : Nat) (v : Option Value) (h : Heap) (L : List Loc) : Prop := v = none ∧ Fr n0 L ∧ h = h0
set_option maxRecDepth 65536 in
set_option maxHeartbeats 40000000 in
theorem rm11 (l : Launch) (Z : State) (a0 : Array Value) (hw : ∀ d ∈ tables_1, d.before a0 Z = true) (ws : List Jvm.Cond) (pi : Int32) (b : Addr) (n : Int32) (f : Nat → Int32) (fv : Value) (h0 : Heap) (n0 : Nat) (Z0 : n0 ≤ h0.size) (P0 : own_By Z h0 b n f) (P1 : Old Z n0 h0) (P2 : Sta Z Z.heap "jdk/internal/util/Preconditions" "SIOOBE_FORMATTER" "Ljava/util/function/BiFunction;" fv) (P3 : fv.isRef = true) (P4 : ¬ pi < (0 : Int32)) (P5 : pi < (n >>> ((1 : Int32) &&& 31))) :
    MetFree l own_y12 (head1 (Jvm.Cond.code own_y12 jdk_52_method_91_code 2 none :: ws) own_r9) (fun ar_ U => ar_ = #[(.int pi), (.ref b)] ∧ Z.Warmed39 U.vm ∧ U.heap = h0) (fun _ _ _ _ _ => True) (fun _ U oo_ U' => ∃ v L, oo_ = .returned v ∧ Q11 Z pi b n f fv h0 n0 v U'.heap L ∧ FrameEnd U oo_ U' L own_r9.cells own_r9.slots) := by
  refine MetFree.of_bodySF (plainFor_of_name pn_4) hisR ?_
  intro p e s m args below meth c s₁ Bd hml0 hP hK
  obtain ⟨rfl, hZ, hh⟩ := hP
  have hx := Bd.exec
  have hby := Bd.bytes
  have hml : c.maxLocals = 2 := hml0
  have hown : s.vm.findClass "java/lang/StringUTF16" = some m.cls := findClass_of_methodNamed Bd.named
  have hnm := (name_of_methodNamed Bd.named Bd.method).1
  have X0 : Stand p l e own_r9 s m #[(.int pi), (.ref b)] below meth c s₁ [] 0 0 := Stand.of_body Bd
  have e0 : s₁.heap = h0 := by rw [← hh, Bd.state]; rfl
  have N0 := Fr.nil n0
  refine own_in (castTop (ef_11 m pi b)) ?_
  show oG _ _ _ _ (s₁.setTop (mkF m 0 #[.val (.int pi), .val (.ref b)] []))
  refine oS (fun _ κ => XS.iloadN X0.here hx rfl (hb hby q10_0) rfl κ) ?_
  refine oS (fun _ κ => XS.aloadN X0.here hx rfl (hb hby q10_1) rfl rfl κ) ?_
  obtain ⟨vr1, _, ⟨T1, L1, k1, n1⟩, -, X1, ⟨Lc1, hQ1, l1, y1, z1⟩, st1⟩ := Jvm.LawKit.callS X0 hx (y := own_y17) hown (mvT hZ (own_w hw 102 rfl)) (mvT hZ (own_w hw 103 rfl)) (mvT hZ (own_w hw 44 rfl)) (mvT hZ (own_w hw 104 rfl)) (by decide) (backOf (W := 1) (rm10 l Z a0 hw [] b n f h0 n0 Z0 P0) hZ (own_w hw 104 rfl) (own_w hw 44 rfl) (by decide) (by decide)) (g := (mkF m 2 #[.val (.int pi), .val (.ref b)] [(.ref b), (.int pi)])) rfl (by rw [hml]; rfl) (argsL := [(.ref b)]) (rest := [(.int pi)]) (lenOf pd_2 rfl) rfl own_2z (hb hby q10_2) (fun _ _ => ⟨rfl, e0, (by decide : 0 + 0 ≤ _), (by decide : 0 + 0 ≤ _)⟩)
  dsimp only [Pt.U, Pt.locs, Pt.cells, Pt.slots] at X1 l1 y1 z1 st1 hQ1
  subst l1 y1 z1
  obtain ⟨rfl, Nq1, eq1⟩ := hQ1
  have N1 := Fr.app N0 Nq1
  refine oS st1 ?_
  show oG _ _ _ _ (T1.setTop (mkF m 5 #[.val (.int pi), .val (.ref b)] [(.int (n >>> ((1 : Int32) &&& 31))), (.int pi)]))
  obtain ⟨vr2, _, ⟨T2, L2, k2, n2⟩, -, X2, ⟨Lc2, hQ2, l2, y2, z2⟩, st2⟩ := Jvm.LawKit.callS X1 hx (y := own_y6) hown (mvT hZ (own_w hw 105 rfl)) (mvT hZ (own_w hw 70 rfl)) (mvT hZ (own_w hw 7 rfl)) (mvT hZ (own_w hw 71 rfl)) (by decide) (backOf (W := 0) (rm4 l Z a0 hw [] pi (n >>> ((1 : Int32) &&& 31)) fv h0 n0 Z0 P1 P2 P3 P4 P5) hZ (own_w hw 71 rfl) (own_w hw 7 rfl) (by decide) (by decide)) (g := (mkF m 5 #[.val (.int pi), .val (.ref b)] [(.int (n >>> ((1 : Int32) &&& 31))), (.int pi)])) rfl (by rw [hml]; rfl) (argsL := [(.int pi), (.int (n >>> ((1 : Int32) &&& 31)))]) (rest := []) (lenOf pd_1 rfl) rfl own_2z (hb hby q10_5) (fun _ _ => ⟨rfl, eq1, (by decide : 0 + 0 ≤ _), (by decide : 0 + 0 ≤ _)⟩)
  dsimp only [Pt.U, Pt.locs, Pt.cells, Pt.slots] at X2 l2 y2 z2 st2 hQ2
  subst l2 y2 z2
  obtain ⟨rfl, Nq2, eq2⟩ := hQ2
  have N2 := Fr.app N1 Nq2
  refine oS st2 ?_
  show oG _ _ _ _ (T2.setTop (mkF m 8 #[.val (.int pi), .val (.ref b)] []))
  obtain ⟨fs, hr, hrun, hended, hW, hsame⟩ := X2.leave (v := none) (fun _ => rfl)
  refine ⟨_, _, X2.returnOut hx Bd.returns (hb hby q10_8) hr, hrun, hended, _, _, rfl, ?_, ⟨_, rfl⟩, hW, hsame.mono (by decide) (by decide)⟩
  show Q11 Z pi b n f fv h0 n0 _ T2.heap _
  rw [eq2]
  exact ⟨rfl, N2, rfl⟩
theorem ef_12 (m : MethodId) (b : Addr) (pi : Int32) : entryFrame m #[(.ref b), (.int pi)] 2 = mkF m 0 #[.val (.ref b), .val (.int pi)] [] := by first | (simp [entryFrame, mkF, argsToLocals, Value.category]; done) | rfl
def Q12 (Z : State) (b : Addr) (pi : Int32) (n : Int32) (f : Nat → Int32) (h0 : Heap) (n0 : Nat) (v : Option Value) (h : Heap) (L : List Loc) : Prop := v = some (.int (own_gc (f (pi <<< ((1 : Int32) &&& 31)).toNatClampNeg) (f ((pi <<< ((1 : Int32) &&& 31)) + (1 : Int32)).toNatClampNeg))) ∧ Fr n0 L ∧ h = h0
set_option maxRecDepth 65536 in
set_option maxHeartbeats 40000000 in
theorem rm12 (l : Launch) (Z : State) (a0 : Array Value) (hw : ∀ d ∈ tables_1, d.before a0 Z = true) (ws : List Jvm.Cond) (b : Addr) (pi : Int32) (n : Int32) (f : Nat → Int32) (h0 : Heap) (n0 : Nat) (Z0 : n0 ≤ h0.size) (P0 : own_By Z h0 b n f) (P1 : Old Z n0 h0) (P2 : Sta Z Z.heap "java/lang/StringUTF16" "$assertionsDisabled" "Z" (.int (1 : Int32))) (P3 : Sta Z Z.heap "java/lang/StringUTF16" "HI_BYTE_SHIFT" "I" (.int (0 : Int32))) (P4 : Sta Z Z.heap "java/lang/StringUTF16" "LO_BYTE_SHIFT" "I" (.int (8 : Int32))) (P5 : ¬ (pi <<< ((1 : Int32) &&& 31)) < (0 : Int32) ∧ (pi <<< ((1 : Int32) &&& 31)) < n) (P6 : ¬ ((pi <<< ((1 : Int32) &&& 31)) + (1 : Int32)) < (0 : Int32) ∧ ((pi <<< ((1 : Int32) &&& 31)) + (1 : Int32)) < n) :
    MetFree l own_y16 (head1 (Jvm.Cond.code own_y16 jdk_52_method_5_code 2 (some .char) :: ws) own_r0) (fun ar_ U => ar_ = #[(.ref b), (.int pi)] ∧ Z.Warmed39 U.vm ∧ U.heap = h0) (fun _ _ _ _ _ => True) (fun _ U oo_ U' => ∃ v L, oo_ = .returned v ∧ Q12 Z b pi n f h0 n0 v U'.heap L ∧ FrameEnd U oo_ U' L own_r0.cells own_r0.slots) := by
  refine MetFree.of_bodySF (plainFor_of_name pn_4) hisR ?_
  intro p e s m args below meth c s₁ Bd hml0 hP hK
  obtain ⟨rfl, hZ, hh⟩ := hP
  have hx := Bd.exec
  have hby := Bd.bytes
  have hml : c.maxLocals = 2 := hml0
  have hown : s.vm.findClass "java/lang/StringUTF16" = some m.cls := findClass_of_methodNamed Bd.named
  have hnm := (name_of_methodNamed Bd.named Bd.method).1
  have X0 : Stand p l e own_r0 s m #[(.ref b), (.int pi)] below meth c s₁ [] 0 0 := Stand.of_body Bd
  have e0 : s₁.heap = h0 := by rw [← hh, Bd.state]; rfl
  have N0 := Fr.nil n0
  refine own_in (castTop (ef_12 m b pi)) ?_
  show oG _ _ _ _ (s₁.setTop (mkF m 0 #[.val (.ref b), .val (.int pi)] []))
  obtain ⟨T1, X1, e1, st1⟩ := getS2 X0 hx hZ hown (host := "") (Or.inl (own_w hw 90 rfl)) Via.refl e0 (P2.ext P1.2) (g := (mkF m 0 #[.val (.ref b), .val (.int pi)] [])) rfl (hb hby q18_0)
  refine oS st1 ?_
  show oG _ _ _ _ (T1.setTop (mkF m 3 #[.val (.ref b), .val (.int pi)] [(.int (1 : Int32))]))
  refine oS (fun _ κ => XS.ifYes X1.here hx rfl (pc0 := 3) (pc' := 28) rfl (hb hby q18_3) rfl ((if0 _ _).trans (feq (by decide)).2) (by decide) (by decide) κ) ?_
  show oG _ _ _ _ (T1.setTop (mkF m 28 #[.val (.ref b), .val (.int pi)] []))
  refine oS (fun _ κ => XS.iloadN X1.here hx rfl (hb hby q18_28) rfl κ) ?_
  refine oS (fun _ κ => XS.iconst X1.here hx rfl (hb hby q18_29) κ) ?_
  refine oS (fun _ κ => XS.ishl X1.here hx rfl (hb hby q18_30) rfl κ) ?_
  show oG _ _ _ _ (T1.setTop (mkF m 31 #[.val (.ref b), .val (.int pi)] [(.int (pi <<< ((1 : Int32) &&& 31)))]))
  refine oS (fun _ κ => XS.istoreN X1.here hx rfl (hb hby q18_31) rfl (l' := #[.val (.ref b), .val (.int (pi <<< ((1 : Int32) &&& 31)))]) rfl κ) ?_
  refine oS (fun _ κ => XS.aloadN X1.here hx rfl (hb hby q18_32) rfl rfl κ) ?_
  refine oS (fun _ κ => XS.iloadN X1.here hx rfl (hb hby q18_33) rfl κ) ?_
  refine oS (fun _ κ => XS.iinc X1.here hx rfl (hb hby q18_34) rfl (l' := #[.val (.ref b), .val (.int ((pi <<< ((1 : Int32) &&& 31)) + (1 : Int32)))]) rfl κ) ?_
  show oG _ _ _ _ (T1.setTop (mkF m 37 #[.val (.ref b), .val (.int ((pi <<< ((1 : Int32) &&& 31)) + (1 : Int32)))] [(.int (pi <<< ((1 : Int32) &&& 31))), (.ref b)]))
  obtain ⟨cl2, Ar2, Sz2, Nz2, at2⟩ := P0.opened
  have hin2 := inb_of (j := (pi <<< ((1 : Int32) &&& 31))) Sz2 P5
  refine oS (fun _ κ => X1.baloadBytes hx (j := (pi <<< ((1 : Int32) &&& 31))) (v := (.int (f (pi <<< ((1 : Int32) &&& 31)).toNatClampNeg))) (by rw [e1]; exact Ar2.1) (State.isArrayOf_alike hZ.alike Ar2.2.1) Ar2.2.2 hin2 (at2 _ hin2) (g := (mkF m 37 #[.val (.ref b), .val (.int ((pi <<< ((1 : Int32) &&& 31)) + (1 : Int32)))] [(.int (pi <<< ((1 : Int32) &&& 31))), (.ref b)])) rfl rfl (hb hby q18_37) _ κ) ?_
  show oG _ _ _ _ (T1.setTop (mkF m 38 #[.val (.ref b), .val (.int ((pi <<< ((1 : Int32) &&& 31)) + (1 : Int32)))] [(.int (f (pi <<< ((1 : Int32) &&& 31)).toNatClampNeg))]))
  refine oS (fun _ κ => XS.sipush X1.here hx rfl (hb hby q18_38) κ) ?_
  refine oS (fun _ κ => XS.iand X1.here hx rfl (hb hby q18_41) rfl κ) ?_
  show oG _ _ _ _ (T1.setTop (mkF m 42 #[.val (.ref b), .val (.int ((pi <<< ((1 : Int32) &&& 31)) + (1 : Int32)))] [(.int ((f (pi <<< ((1 : Int32) &&& 31)).toNatClampNeg) &&& (255 : Int32)))]))
  obtain ⟨T3, X3, e3, st3⟩ := getS2 X1 hx hZ hown (host := "") (Or.inl (own_w hw 91 rfl)) Via.refl e1 (P3.ext P1.2) (g := (mkF m 42 #[.val (.ref b), .val (.int ((pi <<< ((1 : Int32) &&& 31)) + (1 : Int32)))] [(.int ((f (pi <<< ((1 : Int32) &&& 31)).toNatClampNeg) &&& (255 : Int32)))])) rfl (hb hby q18_42)
  refine oS st3 ?_
  show oG _ _ _ _ (T3.setTop (mkF m 45 #[.val (.ref b), .val (.int ((pi <<< ((1 : Int32) &&& 31)) + (1 : Int32)))] [(.int (0 : Int32)), (.int ((f (pi <<< ((1 : Int32) &&& 31)).toNatClampNeg) &&& (255 : Int32)))]))
  refine oS (fun _ κ => XS.ishl X3.here hx rfl (hb hby q18_45) rfl κ) ?_
  show oG _ _ _ _ (T3.setTop (mkF m 46 #[.val (.ref b), .val (.int ((pi <<< ((1 : Int32) &&& 31)) + (1 : Int32)))] [(.int (((f (pi <<< ((1 : Int32) &&& 31)).toNatClampNeg) &&& (255 : Int32)) <<< ((0 : Int32) &&& 31)))]))
  refine oS (fun _ κ => XS.aloadN X3.here hx rfl (hb hby q18_46) rfl rfl κ) ?_
  refine oS (fun _ κ => XS.iloadN X3.here hx rfl (hb hby q18_47) rfl κ) ?_
  obtain ⟨cl4, Ar4, Sz4, Nz4, at4⟩ := P0.opened
  have hin4 := inb_of (j := ((pi <<< ((1 : Int32) &&& 31)) + (1 : Int32))) Sz4 P6
  refine oS (fun _ κ => X3.baloadBytes hx (j := ((pi <<< ((1 : Int32) &&& 31)) + (1 : Int32))) (v := (.int (f ((pi <<< ((1 : Int32) &&& 31)) + (1 : Int32)).toNatClampNeg))) (by rw [e3]; exact Ar4.1) (State.isArrayOf_alike hZ.alike Ar4.2.1) Ar4.2.2 hin4 (at4 _ hin4) (g := (mkF m 48 #[.val (.ref b), .val (.int ((pi <<< ((1 : Int32) &&& 31)) + (1 : Int32)))] [(.int ((pi <<< ((1 : Int32) &&& 31)) + (1 : Int32))), (.ref b), (.int (((f (pi <<< ((1 : Int32) &&& 31)).toNatClampNeg) &&& (255 : Int32)) <<< ((0 : Int32) &&& 31)))])) rfl rfl (hb hby q18_48) _ κ) ?_
  show oG _ _ _ _ (T3.setTop (mkF m 49 #[.val (.ref b), .val (.int ((pi <<< ((1 : Int32) &&& 31)) + (1 : Int32)))] [(.int (f ((pi <<< ((1 : Int32) &&& 31)) + (1 : Int32)).toNatClampNeg)), (.int (((f (pi <<< ((1 : Int32) &&& 31)).toNatClampNeg) &&& (255 : Int32)) <<< ((0 : Int32) &&& 31)))]))
  refine oS (fun _ κ => XS.sipush X3.here hx rfl (hb hby q18_49) κ) ?_
  refine oS (fun _ κ => XS.iand X3.here hx rfl (hb hby q18_52) rfl κ) ?_
  show oG _ _ _ _ (T3.setTop (mkF m 53 #[.val (.ref b), .val (.int ((pi <<< ((1 : Int32) &&& 31)) + (1 : Int32)))] [(.int ((f ((pi <<< ((1 : Int32) &&& 31)) + (1 : Int32)).toNatClampNeg) &&& (255 : Int32))), (.int (((f (pi <<< ((1 : Int32) &&& 31)).toNatClampNeg) &&& (255 : Int32)) <<< ((0 : Int32) &&& 31)))]))
  obtain ⟨T5, X5, e5, st5⟩ := getS2 X3 hx hZ hown (host := "") (Or.inl (own_w hw 92 rfl)) Via.refl e3 (P4.ext P1.2) (g := (mkF m 53 #[.val (.ref b), .val (.int ((pi <<< ((1 : Int32) &&& 31)) + (1 : Int32)))] [(.int ((f ((pi <<< ((1 : Int32) &&& 31)) + (1 : Int32)).toNatClampNeg) &&& (255 : Int32))), (.int (((f (pi <<< ((1 : Int32) &&& 31)).toNatClampNeg) &&& (255 : Int32)) <<< ((0 : Int32) &&& 31)))])) rfl (hb hby q18_53)
  refine oS st5 ?_
  show oG _ _ _ _ (T5.setTop (mkF m 56 #[.val (.ref b), .val (.int ((pi <<< ((1 : Int32) &&& 31)) + (1 : Int32)))] [(.int (8 : Int32)), (.int ((f ((pi <<< ((1 : Int32) &&& 31)) + (1 : Int32)).toNatClampNeg) &&& (255 : Int32))), (.int (((f (pi <<< ((1 : Int32) &&& 31)).toNatClampNeg) &&& (255 : Int32)) <<< ((0 : Int32) &&& 31)))]))
  refine oS (fun _ κ => XS.ishl X5.here hx rfl (hb hby q18_56) rfl κ) ?_
  show oG _ _ _ _ (T5.setTop (mkF m 57 #[.val (.ref b), .val (.int ((pi <<< ((1 : Int32) &&& 31)) + (1 : Int32)))] [(.int (((f ((pi <<< ((1 : Int32) &&& 31)) + (1 : Int32)).toNatClampNeg) &&& (255 : Int32)) <<< ((8 : Int32) &&& 31))), (.int (((f (pi <<< ((1 : Int32) &&& 31)).toNatClampNeg) &&& (255 : Int32)) <<< ((0 : Int32) &&& 31)))]))
  refine oS (fun _ κ => XS.ior X5.here hx rfl (hb hby q18_57) rfl κ) ?_
  show oG _ _ _ _ (T5.setTop (mkF m 58 #[.val (.ref b), .val (.int ((pi <<< ((1 : Int32) &&& 31)) + (1 : Int32)))] [(.int ((((f (pi <<< ((1 : Int32) &&& 31)).toNatClampNeg) &&& (255 : Int32)) <<< ((0 : Int32) &&& 31)) ||| (((f ((pi <<< ((1 : Int32) &&& 31)) + (1 : Int32)).toNatClampNeg) &&& (255 : Int32)) <<< ((8 : Int32) &&& 31))))]))
  refine oS (fun _ κ => XS.i2c X5.here hx rfl (hb hby q18_58) rfl κ) ?_
  show oG _ _ _ _ (T5.setTop (mkF m 59 #[.val (.ref b), .val (.int ((pi <<< ((1 : Int32) &&& 31)) + (1 : Int32)))] [(.int (((((f (pi <<< ((1 : Int32) &&& 31)).toNatClampNeg) &&& (255 : Int32)) <<< ((0 : Int32) &&& 31)) ||| (((f ((pi <<< ((1 : Int32) &&& 31)) + (1 : Int32)).toNatClampNeg) &&& (255 : Int32)) <<< ((8 : Int32) &&& 31))).toUInt32.toUInt16.toUInt32.toInt32))]))
  obtain ⟨fs, hr, hrun, hended, hW, hsame⟩ := X5.leave (v := some (.int (nar .char (((((f (pi <<< ((1 : Int32) &&& 31)).toNatClampNeg) &&& (255 : Int32)) <<< ((0 : Int32) &&& 31)) ||| (((f ((pi <<< ((1 : Int32) &&& 31)) + (1 : Int32)).toNatClampNeg) &&& (255 : Int32)) <<< ((8 : Int32) &&& 31))).toUInt32.toUInt16.toUInt32.toInt32)))) (fun h => by rw [Bd.returns] at h; cases h)
  refine ⟨_, _, retN X5 hx (t := .char) Bd.returns (by simp) (hb hby q18_59) hr, hrun, hended, _, _, rfl, ?_, ⟨_, rfl⟩, hW, hsame.mono (by decide) (by decide)⟩
  show Q12 Z b pi n f h0 n0 _ T5.heap _
  rw [e5]
  exact ⟨rfl, N0, rfl⟩
theorem ef_13 (m : MethodId) (b : Addr) (pi : Int32) : entryFrame m #[(.ref b), (.int pi)] 2 = mkF m 0 #[.val (.ref b), .val (.int pi)] [] := by first | (simp [entryFrame, mkF, argsToLocals, Value.category]; done) | rfl
def Q13 (Z : State) (b : Addr) (pi : Int32) (n : Int32) (f : Nat → Int32) (fv : Value) (h0 : Heap) (n0 : Nat) (v : Option Value) (h : Heap) (L : List Loc) : Prop := v = some (.int (nar .char (own_gc (f (pi <<< ((1 : Int32) &&& 31)).toNatClampNeg) (f ((pi <<< ((1 : Int32) &&& 31)) + (1 : Int32)).toNatClampNeg)))) ∧ Fr n0 L ∧ h = h0
set_option maxRecDepth 65536 in
set_option maxHeartbeats 40000000 in
theorem rm13 (l : Launch) (Z : State) (a0 : Array Value) (hw : ∀ d ∈ tables_1, d.before a0 Z = true) (ws : List Jvm.Cond) (b : Addr) (pi : Int32) (n : Int32) (f : Nat → Int32) (fv : Value) (h0 : Heap) (n0 : Nat) (Z0 : n0 ≤ h0.size) (P0 : own_By Z h0 b n f) (P1 : Old Z n0 h0) (P2 : Sta Z Z.heap "jdk/internal/util/Preconditions" "SIOOBE_FORMATTER" "Ljava/util/function/BiFunction;" fv) (P3 : fv.isRef = true) (P4 : Sta Z Z.heap "java/lang/StringUTF16" "$assertionsDisabled" "Z" (.int (1 : Int32))) (P5 : Sta Z Z.heap "java/lang/StringUTF16" "HI_BYTE_SHIFT" "I" (.int (0 : Int32))) (P6 : Sta Z Z.heap "java/lang/StringUTF16" "LO_BYTE_SHIFT" "I" (.int (8 : Int32))) (P7 : ¬ pi < (0 : Int32)) (P8 : pi < (n >>> ((1 : Int32) &&& 31))) (P9 : ¬ (pi <<< ((1 : Int32) &&& 31)) < (0 : Int32) ∧ (pi <<< ((1 : Int32) &&& 31)) < n) (P10 : ¬ ((pi <<< ((1 : Int32) &&& 31)) + (1 : Int32)) < (0 : Int32) ∧ ((pi <<< ((1 : Int32) &&& 31)) + (1 : Int32)) < n) :
    MetFree l own_y11 (head1 (Jvm.Cond.code own_y11 jdk_52_method_83_code 2 (some .char) :: ws) own_r15) (fun ar_ U => ar_ = #[(.ref b), (.int pi)] ∧ Z.Warmed39 U.vm ∧ U.heap = h0) (fun _ _ _ _ _ => True) (fun _ U oo_ U' => ∃ v L, oo_ = .returned v ∧ Q13 Z b pi n f fv h0 n0 v U'.heap L ∧ FrameEnd U oo_ U' L own_r15.cells own_r15.slots) := by
  refine MetFree.of_bodySF (plainFor_of_name pn_4) hisR ?_
  intro p e s m args below meth c s₁ Bd hml0 hP hK
  obtain ⟨rfl, hZ, hh⟩ := hP
  have hx := Bd.exec
  have hby := Bd.bytes
  have hml : c.maxLocals = 2 := hml0
  have hown : s.vm.findClass "java/lang/StringUTF16" = some m.cls := findClass_of_methodNamed Bd.named
  have hnm := (name_of_methodNamed Bd.named Bd.method).1
  have X0 : Stand p l e own_r15 s m #[(.ref b), (.int pi)] below meth c s₁ [] 0 0 := Stand.of_body Bd
  have e0 : s₁.heap = h0 := by rw [← hh, Bd.state]; rfl
  have N0 := Fr.nil n0
  refine own_in (castTop (ef_13 m b pi)) ?_
  show oG _ _ _ _ (s₁.setTop (mkF m 0 #[.val (.ref b), .val (.int pi)] []))
  refine oS (fun _ κ => XS.iloadN X0.here hx rfl (hb hby q6_0) rfl κ) ?_
  refine oS (fun _ κ => XS.aloadN X0.here hx rfl (hb hby q6_1) rfl rfl κ) ?_
  obtain ⟨vr1, _, ⟨T1, L1, k1, n1⟩, -, X1, ⟨Lc1, hQ1, l1, y1, z1⟩, st1⟩ := Jvm.LawKit.callS X0 hx (y := own_y12) hown (mvT hZ (own_w hw 99 rfl)) (mvT hZ (own_w hw 100 rfl)) (mvT hZ (own_w hw 44 rfl)) (mvT hZ (own_w hw 101 rfl)) (by decide) (backOf (W := 0) (rm11 l Z a0 hw [] pi b n f fv h0 n0 Z0 P0 P1 P2 P3 P7 P8) hZ (own_w hw 101 rfl) (own_w hw 44 rfl) (by decide) (by decide)) (g := (mkF m 2 #[.val (.ref b), .val (.int pi)] [(.ref b), (.int pi)])) rfl (by rw [hml]; rfl) (argsL := [(.int pi), (.ref b)]) (rest := []) (lenOf pd_3 rfl) rfl own_2z (hb hby q6_2) (fun _ _ => ⟨rfl, e0, (by decide : 0 + 0 ≤ _), (by decide : 0 + 0 ≤ _)⟩)
  dsimp only [Pt.U, Pt.locs, Pt.cells, Pt.slots] at X1 l1 y1 z1 st1 hQ1
  subst l1 y1 z1
  obtain ⟨rfl, Nq1, eq1⟩ := hQ1
  have N1 := Fr.app N0 Nq1
  refine oS st1 ?_
  show oG _ _ _ _ (T1.setTop (mkF m 5 #[.val (.ref b), .val (.int pi)] []))
  refine oS (fun _ κ => XS.aloadN X1.here hx rfl (hb hby q6_5) rfl rfl κ) ?_
  refine oS (fun _ κ => XS.iloadN X1.here hx rfl (hb hby q6_6) rfl κ) ?_
  obtain ⟨vr2, _, ⟨T2, L2, k2, n2⟩, -, X2, ⟨Lc2, hQ2, l2, y2, z2⟩, st2⟩ := Jvm.LawKit.callS X1 hx (y := own_y16) hown (mvT hZ (own_w hw 93 rfl)) (mvT hZ (own_w hw 94 rfl)) (mvT hZ (own_w hw 44 rfl)) (mvT hZ (own_w hw 95 rfl)) (by decide) (backOf (W := 0) (rm12 l Z a0 hw [] b pi n f h0 n0 Z0 P0 P1 P4 P5 P6 P9 P10) hZ (own_w hw 95 rfl) (own_w hw 44 rfl) (by decide) (by decide)) (g := (mkF m 7 #[.val (.ref b), .val (.int pi)] [(.int pi), (.ref b)])) rfl (by rw [hml]; rfl) (argsL := [(.ref b), (.int pi)]) (rest := []) (lenOf pd_4 rfl) rfl own_2z (hb hby q6_7) (fun _ _ => ⟨rfl, eq1, (by decide : 0 + 0 ≤ _), (by decide : 0 + 0 ≤ _)⟩)
  dsimp only [Pt.U, Pt.locs, Pt.cells, Pt.slots] at X2 l2 y2 z2 st2 hQ2
  subst l2 y2 z2
  obtain ⟨rfl, Nq2, eq2⟩ := hQ2
  have N2 := Fr.app N1 Nq2
  refine oS st2 ?_
  show oG _ _ _ _ (T2.setTop (mkF m 10 #[.val (.ref b), .val (.int pi)] [(.int (own_gc (f (pi <<< ((1 : Int32) &&& 31)).toNatClampNeg) (f ((pi <<< ((1 : Int32) &&& 31)) + (1 : Int32)).toNatClampNeg)))]))
  obtain ⟨fs, hr, hrun, hended, hW, hsame⟩ := X2.leave (v := some (.int (nar .char (own_gc (f (pi <<< ((1 : Int32) &&& 31)).toNatClampNeg) (f ((pi <<< ((1 : Int32) &&& 31)) + (1 : Int32)).toNatClampNeg))))) (fun h => by rw [Bd.returns] at h; cases h)
  refine ⟨_, _, retN X2 hx (t := .char) Bd.returns (by simp) (hb hby q6_10) hr, hrun, hended, _, _, rfl, ?_, ⟨_, rfl⟩, hW, hsame.mono (by decide) (by decide)⟩
  show Q13 Z b pi n f fv h0 n0 _ T2.heap _
  rw [eq2]
  exact ⟨rfl, N2, rfl⟩
theorem ef_14 (m : MethodId) (a : Addr) : entryFrame m #[(.ref a)] 1 = mkF m 0 #[.val (.ref a)] [] := by first | (simp [entryFrame, mkF, argsToLocals, Value.category]; done) | rfl
def Q14 (Z : State) (a : Addr) (pl : Int32) (g : Nat → Int32) (cs : Int32) (h0 : Heap) (n0 : Nat) (v : Option Value) (h : Heap) (L : List Loc) : Prop := v = some (.int pl) ∧ Fr n0 L ∧ h = h0
set_option maxRecDepth 65536 in
set_option maxHeartbeats 40000000 in
theorem rm14 (l : Launch) (Z : State) (a0 : Array Value) (hw : ∀ d ∈ tables_1, d.before a0 Z = true) (ws : List Jvm.Cond) (a : Addr) (pl : Int32) (g : Nat → Int32) (cs : Int32) (h0 : Heap) (n0 : Nat) (Z0 : n0 ≤ h0.size) (P0 : own_S Z h0 a pl g) (P1 : Old Z n0 h0) (P2 : Sta Z Z.heap "java/lang/String" "COMPACT_STRINGS" "Z" (.int cs)) (P3 : ¬ cs = (0 : Int32)) :
    MetFree l own_y9 (head1 (Jvm.Cond.code own_y9 jdk_42_method_54_code 1 (some .int) :: ws) own_r1) (fun ar_ U => ar_ = #[(.ref a)] ∧ Z.Warmed39 U.vm ∧ U.heap = h0) (fun _ _ _ _ _ => True) (fun _ U oo_ U' => ∃ v L, oo_ = .returned v ∧ Q14 Z a pl g cs h0 n0 v U'.heap L ∧ FrameEnd U oo_ U' L own_r1.cells own_r1.slots) := by
  refine MetFree.of_bodySF (plainFor_of_name pn_2) hisR ?_
  intro p e s m args below meth c s₁ Bd hml0 hP hK
  obtain ⟨rfl, hZ, hh⟩ := hP
  have hx := Bd.exec
  have hby := Bd.bytes
  have hml : c.maxLocals = 1 := hml0
  have hown : s.vm.findClass "java/lang/String" = some m.cls := findClass_of_methodNamed Bd.named
  have hnm := (name_of_methodNamed Bd.named Bd.method).1
  have X0 : Stand p l e own_r1 s m #[(.ref a)] below meth c s₁ [] 0 0 := Stand.of_body Bd
  have e0 : s₁.heap = h0 := by rw [← hh, Bd.state]; rfl
  have N0 := Fr.nil n0
  refine own_in (castTop (ef_14 m a)) ?_
  show oG _ _ _ _ (s₁.setTop (mkF m 0 #[.val (.ref a)] []))
  rcases id P0 with ⟨b, f, Ex, Fv, Fc, Vb, hg⟩ | ⟨b, n, f, Ex, Fv, Fc, Vb, hn, hg⟩
  · show oG _ _ _ _ (s₁.setTop (mkF m 0 #[.val (.ref a)] []))
    refine oS (fun _ κ => XS.aloadN X0.here hx rfl (hb hby q12_0) rfl rfl κ) ?_
    obtain ⟨T1, X1, e1, st1⟩ := getF X0 hx hZ hown (host := "") (Or.inl (own_w hw 25 rfl)) Via.refl e0 Fv (g := (mkF m 1 #[.val (.ref a)] [(.ref a)])) rfl rfl (hb hby q12_1)
    refine oS st1 ?_
    show oG _ _ _ _ (T1.setTop (mkF m 4 #[.val (.ref a)] [(.ref b)]))
    obtain ⟨cl2, Ar2, Sz2, Nz2, -⟩ := Vb.opened
    refine oS (fun _ κ => X1.arraylength hx (by rw [e1]; exact Ar2.1) (State.isArrayOf_alike hZ.alike Ar2.2.1) (g := (mkF m 4 #[.val (.ref a)] [(.ref b)])) rfl rfl (hb hby q12_4) _ κ) ?_
    rw [len_of Sz2 Nz2]
    show oG _ _ _ _ (T1.setTop (mkF m 5 #[.val (.ref a)] [(.int pl)]))
    refine oS (fun _ κ => XS.aloadN X1.here hx rfl (hb hby q12_5) rfl rfl κ) ?_
    obtain ⟨cq3, kq3, q3a, q3b, q3c⟩ := isOf hZ e1 Ex
    obtain ⟨vr3, _, ⟨T3, L3, k3, n3⟩, -, X3, ⟨Lc3, hQ3, l3, y3, z3⟩, st3⟩ := X1.virtualBack hx (y := own_y7) (z := own_y7) hown (mvT hZ (own_w hw 36 rfl)) (mvT hZ (own_w hw 37 rfl)) (notFace_of_selects (args := #[]) (mvT hZ (own_w hw 39 rfl))) (mvT hZ (own_w hw 39 rfl)) (mvT hZ (own_w hw 38 rfl)) (by decide) (backOf (W := 1) (rm8 l Z a0 hw [] a cs h0 n0 Z0 P1 P2 P3 Fc) hZ (own_w hw 40 rfl) (own_w hw 7 rfl) (by decide) (by decide)) q3a q3c (g := (mkF m 6 #[.val (.ref a)] [(.ref a), (.int pl)])) rfl (by rw [hml]; rfl) (Steps.refl _) (argsL := []) (rest := [(.int pl)]) (lenOf pd_5 rfl) rfl own_2z (hb hby q12_6) (fun _ _ => ⟨rfl, e1, (by decide : 0 + 0 ≤ _), (by decide : 0 + 0 ≤ _)⟩)
    dsimp only [Pt.U, Pt.locs, Pt.cells, Pt.slots] at X3 l3 y3 z3 st3 hQ3
    subst l3 y3 z3
    obtain ⟨rfl, Nq3, eq3⟩ := hQ3
    have N3 := Fr.app N0 Nq3
    refine oS (fun _ κ => st3.trans κ) ?_
    show oG _ _ _ _ (T3.setTop (mkF m 9 #[.val (.ref a)] [(.int (0 : Int32)), (.int pl)]))
    refine oS (fun _ κ => XS.ishr X3.here hx rfl (hb hby q12_9) rfl κ) ?_
    show oG _ _ _ _ (T3.setTop (mkF m 10 #[.val (.ref a)] [(.int (pl >>> ((0 : Int32) &&& 31)))]))
    obtain ⟨fs, hr, hrun, hended, hW, hsame⟩ := X3.leave (v := some (.int (pl >>> ((0 : Int32) &&& 31)))) (fun h => by rw [Bd.returns] at h; cases h)
    refine ⟨_, _, own_retI X3 hx Bd.returns (hb hby q12_10) hr, hrun, hended, _, _, rfl, ?_, ⟨_, rfl⟩, hW, hsame.mono (by decide) (by decide)⟩
    show Q14 Z a pl g cs h0 n0 _ T3.heap _
    rw [eq3]
    exact ⟨by rw [own_shr0], N3, rfl⟩
  · show oG _ _ _ _ (s₁.setTop (mkF m 0 #[.val (.ref a)] []))
    refine oS (fun _ κ => XS.aloadN X0.here hx rfl (hb hby q12_0) rfl rfl κ) ?_
    obtain ⟨T4, X4, e4, st4⟩ := getF X0 hx hZ hown (host := "") (Or.inl (own_w hw 25 rfl)) Via.refl e0 Fv (g := (mkF m 1 #[.val (.ref a)] [(.ref a)])) rfl rfl (hb hby q12_1)
    refine oS st4 ?_
    show oG _ _ _ _ (T4.setTop (mkF m 4 #[.val (.ref a)] [(.ref b)]))
    obtain ⟨cl5, Ar5, Sz5, Nz5, -⟩ := Vb.opened
    refine oS (fun _ κ => X4.arraylength hx (by rw [e4]; exact Ar5.1) (State.isArrayOf_alike hZ.alike Ar5.2.1) (g := (mkF m 4 #[.val (.ref a)] [(.ref b)])) rfl rfl (hb hby q12_4) _ κ) ?_
    rw [len_of Sz5 Nz5]
    show oG _ _ _ _ (T4.setTop (mkF m 5 #[.val (.ref a)] [(.int n)]))
    refine oS (fun _ κ => XS.aloadN X4.here hx rfl (hb hby q12_5) rfl rfl κ) ?_
    obtain ⟨cq6, kq6, q6a, q6b, q6c⟩ := isOf hZ e4 Ex
    obtain ⟨vr6, _, ⟨T6, L6, k6, n6⟩, -, X6, ⟨Lc6, hQ6, l6, y6, z6⟩, st6⟩ := X4.virtualBack hx (y := own_y7) (z := own_y7) hown (mvT hZ (own_w hw 36 rfl)) (mvT hZ (own_w hw 37 rfl)) (notFace_of_selects (args := #[]) (mvT hZ (own_w hw 39 rfl))) (mvT hZ (own_w hw 39 rfl)) (mvT hZ (own_w hw 38 rfl)) (by decide) (backOf (W := 1) (rm9 l Z a0 hw [] a cs h0 n0 Z0 P1 P2 P3 Fc) hZ (own_w hw 40 rfl) (own_w hw 7 rfl) (by decide) (by decide)) q6a q6c (g := (mkF m 6 #[.val (.ref a)] [(.ref a), (.int n)])) rfl (by rw [hml]; rfl) (Steps.refl _) (argsL := []) (rest := [(.int n)]) (lenOf pd_5 rfl) rfl own_2z (hb hby q12_6) (fun _ _ => ⟨rfl, e4, (by decide : 0 + 0 ≤ _), (by decide : 0 + 0 ≤ _)⟩)
    dsimp only [Pt.U, Pt.locs, Pt.cells, Pt.slots] at X6 l6 y6 z6 st6 hQ6
    subst l6 y6 z6
    obtain ⟨rfl, Nq6, eq6⟩ := hQ6
    have N6 := Fr.app N0 Nq6
    refine oS (fun _ κ => st6.trans κ) ?_
    show oG _ _ _ _ (T6.setTop (mkF m 9 #[.val (.ref a)] [(.int (1 : Int32)), (.int n)]))
    refine oS (fun _ κ => XS.ishr X6.here hx rfl (hb hby q12_9) rfl κ) ?_
    show oG _ _ _ _ (T6.setTop (mkF m 10 #[.val (.ref a)] [(.int (n >>> ((1 : Int32) &&& 31)))]))
    obtain ⟨fs, hr, hrun, hended, hW, hsame⟩ := X6.leave (v := some (.int (n >>> ((1 : Int32) &&& 31)))) (fun h => by rw [Bd.returns] at h; cases h)
    refine ⟨_, _, own_retI X6 hx Bd.returns (hb hby q12_10) hr, hrun, hended, _, _, rfl, ?_, ⟨_, rfl⟩, hW, hsame.mono (by decide) (by decide)⟩
    show Q14 Z a pl g cs h0 n0 _ T6.heap _
    rw [eq6]
    exact ⟨by rw [hn], N6, rfl⟩
theorem ef_15 (m : MethodId) (a : Addr) (pi : Int32) : entryFrame m #[(.ref a), (.int pi)] 2 = mkF m 0 #[.val (.ref a), .val (.int pi)] [] := by first | (simp [entryFrame, mkF, argsToLocals, Value.category]; done) | rfl
def Q15 (Z : State) (a : Addr) (pi : Int32) (pl : Int32) (g : Nat → Int32) (vv : Int32) (cs : Int32) (fv : Value) (h0 : Heap) (n0 : Nat) (v : Option Value) (h : Heap) (L : List Loc) : Prop := v = some (.int vv) ∧ Fr n0 L ∧ h = h0
set_option maxRecDepth 65536 in
set_option maxHeartbeats 40000000 in
theorem rm15 (l : Launch) (Z : State) (a0 : Array Value) (hw : ∀ d ∈ tables_1, d.before a0 Z = true) (ws : List Jvm.Cond) (a : Addr) (pi : Int32) (pl : Int32) (g : Nat → Int32) (vv : Int32) (cs : Int32) (fv : Value) (h0 : Heap) (n0 : Nat) (Z0 : n0 ≤ h0.size) (P0 : own_S Z h0 a pl g) (P1 : Old Z n0 h0) (P2 : Sta Z Z.heap "java/lang/String" "COMPACT_STRINGS" "Z" (.int cs)) (P3 : ¬ cs = (0 : Int32)) (P4 : Sta Z Z.heap "jdk/internal/util/Preconditions" "SIOOBE_FORMATTER" "Ljava/util/function/BiFunction;" fv) (P5 : fv.isRef = true) (P6 : Sta Z Z.heap "java/lang/StringUTF16" "$assertionsDisabled" "Z" (.int (1 : Int32))) (P7 : Sta Z Z.heap "java/lang/StringUTF16" "HI_BYTE_SHIFT" "I" (.int (0 : Int32))) (P8 : Sta Z Z.heap "java/lang/StringUTF16" "LO_BYTE_SHIFT" "I" (.int (8 : Int32))) (P9 : ¬ pi < (0 : Int32)) (P10 : pi < pl) (P11 : g pi.toNatClampNeg = vv) :
    MetFree l own_y5 (head1 (Jvm.Cond.code own_y5 jdk_42_method_56_code 2 (some .char) :: ws) own_r20) (fun ar_ U => ar_ = #[(.ref a), (.int pi)] ∧ Z.Warmed39 U.vm ∧ U.heap = h0) (fun _ _ _ _ _ => True) (fun _ U oo_ U' => ∃ v L, oo_ = .returned v ∧ Q15 Z a pi pl g vv cs fv h0 n0 v U'.heap L ∧ FrameEnd U oo_ U' L own_r20.cells own_r20.slots) := by
  refine MetFree.of_bodySF (plainFor_of_name pn_2) hisR ?_
  intro p e s m args below meth c s₁ Bd hml0 hP hK
  obtain ⟨rfl, hZ, hh⟩ := hP
  have hx := Bd.exec
  have hby := Bd.bytes
  have hml : c.maxLocals = 2 := hml0
  have hown : s.vm.findClass "java/lang/String" = some m.cls := findClass_of_methodNamed Bd.named
  have hnm := (name_of_methodNamed Bd.named Bd.method).1
  have X0 : Stand p l e own_r20 s m #[(.ref a), (.int pi)] below meth c s₁ [] 0 0 := Stand.of_body Bd
  have e0 : s₁.heap = h0 := by rw [← hh, Bd.state]; rfl
  have N0 := Fr.nil n0
  refine own_in (castTop (ef_15 m a pi)) ?_
  show oG _ _ _ _ (s₁.setTop (mkF m 0 #[.val (.ref a), .val (.int pi)] []))
  rcases id P0 with ⟨b, f, Ex, Fv, Fc, Vb, hg⟩ | ⟨b, n, f, Ex, Fv, Fc, Vb, hn, hg⟩
  · show oG _ _ _ _ (s₁.setTop (mkF m 0 #[.val (.ref a), .val (.int pi)] []))
    refine oS (fun _ κ => XS.aloadN X0.here hx rfl (hb hby q4_0) rfl rfl κ) ?_
    obtain ⟨cq1, kq1, q1a, q1b, q1c⟩ := isOf hZ e0 Ex
    obtain ⟨vr1, _, ⟨T1, L1, k1, n1⟩, -, X1, ⟨Lc1, hQ1, l1, y1, z1⟩, st1⟩ := X0.virtualBack hx (y := own_y8) (z := own_y8) hown (mvT hZ (own_w hw 60 rfl)) (mvT hZ (own_w hw 61 rfl)) (notFace_of_selects (args := #[]) (mvT hZ (own_w hw 63 rfl))) (mvT hZ (own_w hw 63 rfl)) (mvT hZ (own_w hw 62 rfl)) (by decide) (backOf (W := 0) (rm6 l Z a0 hw [] a cs h0 n0 Z0 P1 P2 P3 Fc) hZ (own_w hw 64 rfl) (own_w hw 7 rfl) (by decide) (by decide)) q1a q1c (g := (mkF m 1 #[.val (.ref a), .val (.int pi)] [(.ref a)])) rfl (by rw [hml]; rfl) (Steps.refl _) (argsL := []) (rest := []) (lenOf pd_6 rfl) rfl own_2z (hb hby q4_1) (fun _ _ => ⟨rfl, e0, (by decide : 0 + 0 ≤ _), (by decide : 0 + 0 ≤ _)⟩)
    dsimp only [Pt.U, Pt.locs, Pt.cells, Pt.slots] at X1 l1 y1 z1 st1 hQ1
    subst l1 y1 z1
    obtain ⟨rfl, Nq1, eq1⟩ := hQ1
    have N1 := Fr.app N0 Nq1
    refine oS (fun _ κ => st1.trans κ) ?_
    show oG _ _ _ _ (T1.setTop (mkF m 4 #[.val (.ref a), .val (.int pi)] [(.int (1 : Int32))]))
    refine oS (fun _ κ => XS.ifNo X1.here hx rfl (hb hby q4_4) rfl ((if0 _ _).trans (feq (by decide)).1) κ) ?_
    show oG _ _ _ _ (T1.setTop (mkF m 7 #[.val (.ref a), .val (.int pi)] []))
    refine oS (fun _ κ => XS.aloadN X1.here hx rfl (hb hby q4_7) rfl rfl κ) ?_
    obtain ⟨T2, X2, e2, st2⟩ := getF X1 hx hZ hown (host := "") (Or.inl (own_w hw 25 rfl)) Via.refl eq1 Fv (g := (mkF m 8 #[.val (.ref a), .val (.int pi)] [(.ref a)])) rfl rfl (hb hby q4_8)
    refine oS st2 ?_
    show oG _ _ _ _ (T2.setTop (mkF m 11 #[.val (.ref a), .val (.int pi)] [(.ref b)]))
    refine oS (fun _ κ => XS.iloadN X2.here hx rfl (hb hby q4_11) rfl κ) ?_
    obtain ⟨vr3, _, ⟨T3, L3, k3, n3⟩, -, X3, ⟨Lc3, hQ3, l3, y3, z3⟩, st3⟩ := Jvm.LawKit.callS X2 hx (y := own_y10) hown (mvT hZ (own_w hw 65 rfl)) (mvT hZ (own_w hw 66 rfl)) (mvT hZ (own_w hw 67 rfl)) (mvT hZ (own_w hw 68 rfl)) (by decide) (backOf (W := 0) (rm5 l Z a0 hw [] b pi pl f fv h0 n0 Z0 Vb P1 P4 P5 P9 P10) hZ (own_w hw 68 rfl) (own_w hw 67 rfl) (by decide) (by decide)) (g := (mkF m 12 #[.val (.ref a), .val (.int pi)] [(.int pi), (.ref b)])) rfl (by rw [hml]; rfl) (argsL := [(.ref b), (.int pi)]) (rest := []) (lenOf pd_4 rfl) rfl own_2z (hb hby q4_12) (fun _ _ => ⟨rfl, e2, (by decide : 0 + 0 ≤ _), (by decide : 0 + 0 ≤ _)⟩)
    dsimp only [Pt.U, Pt.locs, Pt.cells, Pt.slots] at X3 l3 y3 z3 st3 hQ3
    subst l3 y3 z3
    obtain ⟨rfl, Nq3, eq3⟩ := hQ3
    have N3 := Fr.app N1 Nq3
    refine oS st3 ?_
    show oG _ _ _ _ (T3.setTop (mkF m 15 #[.val (.ref a), .val (.int pi)] [(.int (own_c1 (f pi.toNatClampNeg)))]))
    obtain ⟨fs, hr, hrun, hended, hW, hsame⟩ := X3.leave (v := some (.int (nar .char (own_c1 (f pi.toNatClampNeg))))) (fun h => by rw [Bd.returns] at h; cases h)
    refine ⟨_, _, retN X3 hx (t := .char) Bd.returns (by simp) (hb hby q4_15) hr, hrun, hended, _, _, rfl, ?_, ⟨_, rfl⟩, hW, hsame.mono (by decide) (by decide)⟩
    show Q15 Z a pi pl g vv cs fv h0 n0 _ T3.heap _
    rw [eq3]
    exact ⟨by rw [hg _ (own_lt_nat P9 P10), P11], N3, rfl⟩
  · show oG _ _ _ _ (s₁.setTop (mkF m 0 #[.val (.ref a), .val (.int pi)] []))
    refine oS (fun _ κ => XS.aloadN X0.here hx rfl (hb hby q4_0) rfl rfl κ) ?_
    obtain ⟨cq4, kq4, q4a, q4b, q4c⟩ := isOf hZ e0 Ex
    obtain ⟨vr4, _, ⟨T4, L4, k4, n4⟩, -, X4, ⟨Lc4, hQ4, l4, y4, z4⟩, st4⟩ := X0.virtualBack hx (y := own_y8) (z := own_y8) hown (mvT hZ (own_w hw 60 rfl)) (mvT hZ (own_w hw 61 rfl)) (notFace_of_selects (args := #[]) (mvT hZ (own_w hw 63 rfl))) (mvT hZ (own_w hw 63 rfl)) (mvT hZ (own_w hw 62 rfl)) (by decide) (backOf (W := 0) (rm7 l Z a0 hw [] a cs h0 n0 Z0 P1 P2 P3 Fc) hZ (own_w hw 64 rfl) (own_w hw 7 rfl) (by decide) (by decide)) q4a q4c (g := (mkF m 1 #[.val (.ref a), .val (.int pi)] [(.ref a)])) rfl (by rw [hml]; rfl) (Steps.refl _) (argsL := []) (rest := []) (lenOf pd_6 rfl) rfl own_2z (hb hby q4_1) (fun _ _ => ⟨rfl, e0, (by decide : 0 + 0 ≤ _), (by decide : 0 + 0 ≤ _)⟩)
    dsimp only [Pt.U, Pt.locs, Pt.cells, Pt.slots] at X4 l4 y4 z4 st4 hQ4
    subst l4 y4 z4
    obtain ⟨rfl, Nq4, eq4⟩ := hQ4
    have N4 := Fr.app N0 Nq4
    refine oS (fun _ κ => st4.trans κ) ?_
    show oG _ _ _ _ (T4.setTop (mkF m 4 #[.val (.ref a), .val (.int pi)] [(.int (0 : Int32))]))
    refine oS (fun _ κ => XS.ifYes X4.here hx rfl (pc0 := 4) (pc' := 16) rfl (hb hby q4_4) rfl ((if0 _ _).trans (teq rfl).1) (by decide) (by decide) κ) ?_
    show oG _ _ _ _ (T4.setTop (mkF m 16 #[.val (.ref a), .val (.int pi)] []))
    refine oS (fun _ κ => XS.aloadN X4.here hx rfl (hb hby q4_16) rfl rfl κ) ?_
    obtain ⟨T5, X5, e5, st5⟩ := getF X4 hx hZ hown (host := "") (Or.inl (own_w hw 25 rfl)) Via.refl eq4 Fv (g := (mkF m 17 #[.val (.ref a), .val (.int pi)] [(.ref a)])) rfl rfl (hb hby q4_17)
    refine oS st5 ?_
    show oG _ _ _ _ (T5.setTop (mkF m 20 #[.val (.ref a), .val (.int pi)] [(.ref b)]))
    refine oS (fun _ κ => XS.iloadN X5.here hx rfl (hb hby q4_20) rfl κ) ?_
    obtain ⟨vr6, _, ⟨T6, L6, k6, n6⟩, -, X6, ⟨Lc6, hQ6, l6, y6, z6⟩, st6⟩ := Jvm.LawKit.callS X5 hx (y := own_y11) hown (mvT hZ (own_w hw 96 rfl)) (mvT hZ (own_w hw 97 rfl)) (mvT hZ (own_w hw 44 rfl)) (mvT hZ (own_w hw 98 rfl)) (by decide) (backOf (W := 0) (rm13 l Z a0 hw [] b pi n f fv h0 n0 Z0 Vb P1 P4 P5 P6 P7 P8 P9 (by rw [hn]; exact P10) (hg pi P9 P10).1 (hg pi P9 P10).2.1) hZ (own_w hw 98 rfl) (own_w hw 44 rfl) (by decide) (by decide)) (g := (mkF m 21 #[.val (.ref a), .val (.int pi)] [(.int pi), (.ref b)])) rfl (by rw [hml]; rfl) (argsL := [(.ref b), (.int pi)]) (rest := []) (lenOf pd_4 rfl) rfl own_2z (hb hby q4_21) (fun _ _ => ⟨rfl, e5, (by decide : 0 + 0 ≤ _), (by decide : 0 + 0 ≤ _)⟩)
    dsimp only [Pt.U, Pt.locs, Pt.cells, Pt.slots] at X6 l6 y6 z6 st6 hQ6
    subst l6 y6 z6
    obtain ⟨rfl, Nq6, eq6⟩ := hQ6
    have N6 := Fr.app N4 Nq6
    refine oS st6 ?_
    show oG _ _ _ _ (T6.setTop (mkF m 24 #[.val (.ref a), .val (.int pi)] [(.int (nar .char (own_gc (f (pi <<< ((1 : Int32) &&& 31)).toNatClampNeg) (f ((pi <<< ((1 : Int32) &&& 31)) + (1 : Int32)).toNatClampNeg))))]))
    obtain ⟨fs, hr, hrun, hended, hW, hsame⟩ := X6.leave (v := some (.int (nar .char (nar .char (own_gc (f (pi <<< ((1 : Int32) &&& 31)).toNatClampNeg) (f ((pi <<< ((1 : Int32) &&& 31)) + (1 : Int32)).toNatClampNeg)))))) (fun h => by rw [Bd.returns] at h; cases h)
    refine ⟨_, _, retN X6 hx (t := .char) Bd.returns (by simp) (hb hby q4_24) hr, hrun, hended, _, _, rfl, ?_, ⟨_, rfl⟩, hW, hsame.mono (by decide) (by decide)⟩
    show Q15 Z a pi pl g vv cs fv h0 n0 _ T6.heap _
    rw [eq6]
    exact ⟨by rw [(hg pi P9 P10).2.2, P11], N6, rfl⟩
theorem ef_16 (m : MethodId) (a : Addr) (b : Addr) : entryFrame m #[(.ref a), (.int (0 : Int32)), (.ref b), (.int (0 : Int32)), (.int (1 : Int32))] 7 = mkF m 0 #[.val (.ref a), .val (.int (0 : Int32)), .val (.ref b), .val (.int (0 : Int32)), .val (.int (1 : Int32)), .unset, .unset] [] := by first | (simp [entryFrame, mkF, argsToLocals, Value.category]; done) | rfl
def Q16 (Z : State) (a : Addr) (b : Addr) (ka : ClassId) (c0 : Int32) (h0 : Heap) (n0 : Nat) (v : Option Value) (h : Heap) (L : List Loc) : Prop := ∃ u : Int32, v = some (.int u) ∧ Fr n0 L ∧ Keep h0 h [b] ∧ ((u = (1 : Int32) ∧ (own_By Z h b (1 : Int32) (own_upd own_zero (0 : Int32).toNatClampNeg (own_lb c0))) ∧ (¬ (255 : Int32) < c0)) ∨ (u = (0 : Int32) ∧ ((255 : Int32) < c0)))
set_option maxRecDepth 65536 in
set_option maxHeartbeats 40000000 in
theorem rm16 (l : Launch) (Z : State) (a0 : Array Value) (hw : ∀ d ∈ tables_1, d.before a0 Z = true) (ws : List Jvm.Cond) (a : Addr) (b : Addr) (ka : ClassId) (c0 : Int32) (h0 : Heap) (n0 : Nat) (Z0 : n0 ≤ h0.size) (P0 : Arv Z h0 a ka .char (1 : Int32) [(.int c0)] (.int (0 : Int32))) (P1 : own_By Z h0 b (1 : Int32) own_zero) (P2 : n0 ≤ b) (P3 : a ≠ b) :
    MetFree l own_y15 (head1 (Jvm.Cond.code own_y15 jdk_52_method_21_code 7 (some .int) :: ws) own_r0) (fun ar_ U => ar_ = #[(.ref a), (.int (0 : Int32)), (.ref b), (.int (0 : Int32)), (.int (1 : Int32))] ∧ Z.Warmed39 U.vm ∧ U.heap = h0) (fun _ _ _ _ _ => True) (fun _ U oo_ U' => ∃ v L, oo_ = .returned v ∧ Q16 Z a b ka c0 h0 n0 v U'.heap L ∧ FrameEnd U oo_ U' L own_r0.cells own_r0.slots) := by
  refine MetFree.of_bodySF (plainFor_of_name pn_4) hisR ?_
  intro p e s m args below meth c s₁ Bd hml0 hP hK
  obtain ⟨rfl, hZ, hh⟩ := hP
  have hx := Bd.exec
  have hby := Bd.bytes
  have hml : c.maxLocals = 7 := hml0
  have hown : s.vm.findClass "java/lang/StringUTF16" = some m.cls := findClass_of_methodNamed Bd.named
  have hnm := (name_of_methodNamed Bd.named Bd.method).1
  have X0 : Stand p l e own_r0 s m #[(.ref a), (.int (0 : Int32)), (.ref b), (.int (0 : Int32)), (.int (1 : Int32))] below meth c s₁ [] 0 0 := Stand.of_body Bd
  have e0 : s₁.heap = h0 := by rw [← hh, Bd.state]; rfl
  have N0 := Fr.nil n0
  refine own_in (castTop (ef_16 m a b)) ?_
  show oG _ _ _ _ (s₁.setTop (mkF m 0 #[.val (.ref a), .val (.int (0 : Int32)), .val (.ref b), .val (.int (0 : Int32)), .val (.int (1 : Int32)), .unset, .unset] []))
  refine oS (fun _ κ => XS.iconst X0.here hx rfl (hb hby q8_0) κ) ?_
  refine oS (fun _ κ => XS.istore X0.here hx rfl (hb hby q8_1) rfl (l' := #[.val (.ref a), .val (.int (0 : Int32)), .val (.ref b), .val (.int (0 : Int32)), .val (.int (1 : Int32)), .val (.int (0 : Int32)), .unset]) rfl κ) ?_
  refine oS (fun _ κ => XS.iload X0.here hx rfl (hb hby q8_3) rfl κ) ?_
  refine oS (fun _ κ => XS.iload X0.here hx rfl (hb hby q8_5) rfl κ) ?_
  refine oS (fun _ κ => XS.icmpNo X0.here hx rfl (hb hby q8_7) rfl (tlt (by decide)).2.1 κ) ?_
  show oG _ _ _ _ (s₁.setTop (mkF m 10 #[.val (.ref a), .val (.int (0 : Int32)), .val (.ref b), .val (.int (0 : Int32)), .val (.int (1 : Int32)), .val (.int (0 : Int32)), .unset] []))
  refine oS (fun _ κ => XS.aloadN X0.here hx rfl (hb hby q8_10) rfl rfl κ) ?_
  refine oS (fun _ κ => XS.iloadN X0.here hx rfl (hb hby q8_11) rfl κ) ?_
  obtain ⟨cl1, Ar1, q1, Sz1, Nz1, Hs1, Gs1⟩ := id (P0)
  have hin1 := inb_of (j := (0 : Int32)) Sz1 ⟨by decide, by decide⟩
  have hat1 := Hs1.at (j := (0 : Int32)) hin1 rfl
  refine oS (fun _ κ => X0.caload hx (j := (0 : Int32)) (v := (.int c0)) (by rw [e0]; exact Ar1.1) (State.isArrayOf_alike hZ.alike Ar1.2.1) Ar1.2.2 hin1 hat1 (g := (mkF m 12 #[.val (.ref a), .val (.int (0 : Int32)), .val (.ref b), .val (.int (0 : Int32)), .val (.int (1 : Int32)), .val (.int (0 : Int32)), .unset] [(.int (0 : Int32)), (.ref a)])) rfl rfl (hb hby q8_12) _ κ) ?_
  show oG _ _ _ _ (s₁.setTop (mkF m 13 #[.val (.ref a), .val (.int (0 : Int32)), .val (.ref b), .val (.int (0 : Int32)), .val (.int (1 : Int32)), .val (.int (0 : Int32)), .unset] [(.int c0)]))
  refine oS (fun _ κ => XS.istore X0.here hx rfl (hb hby q8_13) rfl (l' := #[.val (.ref a), .val (.int (0 : Int32)), .val (.ref b), .val (.int (0 : Int32)), .val (.int (1 : Int32)), .val (.int (0 : Int32)), .val (.int c0)]) rfl κ) ?_
  refine oS (fun _ κ => XS.iload X0.here hx rfl (hb hby q8_15) rfl κ) ?_
  refine oS (fun _ κ => XS.sipush X0.here hx rfl (hb hby q8_17) κ) ?_
  by_cases hc2 : (255 : Int32) < c0
  · refine oS (fun _ κ => XS.icmpNo X0.here hx rfl (hb hby q8_20) rfl (tlt hc2).2.2.2 κ) ?_
    show oG _ _ _ _ (s₁.setTop (mkF m 23 #[.val (.ref a), .val (.int (0 : Int32)), .val (.ref b), .val (.int (0 : Int32)), .val (.int (1 : Int32)), .val (.int (0 : Int32)), .val (.int c0)] []))
    refine oS (fun _ κ => XS.iload X0.here hx rfl (hb hby q8_23) rfl κ) ?_
    obtain ⟨fs, hr, hrun, hended, hW, hsame⟩ := X0.leave (v := some (.int (0 : Int32))) (fun h => by rw [Bd.returns] at h; cases h)
    refine ⟨_, _, own_retI X0 hx Bd.returns (hb hby q8_25) hr, hrun, hended, _, _, rfl, ?_, ⟨_, rfl⟩, hW, hsame.mono (by decide) (by decide)⟩
    show Q16 Z a b ka c0 h0 n0 _ s₁.heap _
    rw [e0]
    exact ⟨(0 : Int32), rfl, N0, (Keep.refl h0 [b]), (Or.inr ⟨rfl, hc2⟩)⟩
  · refine oS (fun _ κ => XS.icmpYes X0.here hx rfl (pc0 := 20) (pc' := 26) rfl (hb hby q8_20) rfl (flt hc2).2.2.2 (by decide) (by decide) κ) ?_
    show oG _ _ _ _ (s₁.setTop (mkF m 26 #[.val (.ref a), .val (.int (0 : Int32)), .val (.ref b), .val (.int (0 : Int32)), .val (.int (1 : Int32)), .val (.int (0 : Int32)), .val (.int c0)] []))
    refine oS (fun _ κ => XS.aloadN X0.here hx rfl (hb hby q8_26) rfl rfl κ) ?_
    refine oS (fun _ κ => XS.iloadN X0.here hx rfl (hb hby q8_27) rfl κ) ?_
    refine oS (fun _ κ => XS.iload X0.here hx rfl (hb hby q8_28) rfl κ) ?_
    refine oS (fun _ κ => XS.i2b X0.here hx rfl (hb hby q8_30) rfl κ) ?_
    show oG _ _ _ _ (s₁.setTop (mkF m 31 #[.val (.ref a), .val (.int (0 : Int32)), .val (.ref b), .val (.int (0 : Int32)), .val (.int (1 : Int32)), .val (.int (0 : Int32)), .val (.int c0)] [(.int (c0.toInt8.toInt32)), (.int (0 : Int32)), (.ref b)]))
    obtain ⟨cl3, Ar3, Sz3, Nz3, -⟩ := P1.opened
    have hin3 := inb_of (j := (0 : Int32)) Sz3 ⟨by decide, by decide⟩
    obtain ⟨T3, h3, X3, e3, W3, st3⟩ := stB X0 hx hZ e0 Ar3 (j := (0 : Int32)) hin3 (g := (mkF m 31 #[.val (.ref a), .val (.int (0 : Int32)), .val (.ref b), .val (.int (0 : Int32)), .val (.int (1 : Int32)), .val (.int (0 : Int32)), .val (.int c0)] [(.int (c0.toInt8.toInt32)), (.int (0 : Int32)), (.ref b)])) rfl rfl (hb hby q8_31)
    refine oS st3 ?_
    have N3 := Fr.snoc X3 N0 P2
    have V3 : own_By Z h3 b (1 : Int32) (own_upd own_zero (0 : Int32).toNatClampNeg (c0.toInt8.toInt32).toInt8.toInt32) := P1.set W3 ⟨by decide, by decide⟩
    have f4 := P0.other W3 P3
    have K5 : Keep h0 h3 [b] := (Keep.refl h0 [b]).wr W3 (Or.inl (List.mem_of_getElem? (i := 0) rfl))
    have z6 : n0 ≤ h3.size := Nat.le_trans Z0 (Keep.of_wr W3).1
    show oG _ _ _ _ (T3.setTop (mkF m 32 #[.val (.ref a), .val (.int (0 : Int32)), .val (.ref b), .val (.int (0 : Int32)), .val (.int (1 : Int32)), .val (.int (0 : Int32)), .val (.int c0)] []))
    refine oS (fun _ κ => XS.iinc X3.here hx rfl (hb hby q8_32) rfl (l' := #[.val (.ref a), .val (.int ((0 : Int32) + (1 : Int32))), .val (.ref b), .val (.int (0 : Int32)), .val (.int (1 : Int32)), .val (.int (0 : Int32)), .val (.int c0)]) rfl κ) ?_
    show oG _ _ _ _ (T3.setTop (mkF m 35 #[.val (.ref a), .val (.int ((0 : Int32) + (1 : Int32))), .val (.ref b), .val (.int (0 : Int32)), .val (.int (1 : Int32)), .val (.int (0 : Int32)), .val (.int c0)] []))
    rw [show (((0 : Int32) + (1 : Int32)) : Int32) = (1 : Int32) from by decide]
    show oG _ _ _ _ (T3.setTop (mkF m 35 #[.val (.ref a), .val (.int (1 : Int32)), .val (.ref b), .val (.int (0 : Int32)), .val (.int (1 : Int32)), .val (.int (0 : Int32)), .val (.int c0)] []))
    refine oS (fun _ κ => XS.iinc X3.here hx rfl (hb hby q8_35) rfl (l' := #[.val (.ref a), .val (.int (1 : Int32)), .val (.ref b), .val (.int ((0 : Int32) + (1 : Int32))), .val (.int (1 : Int32)), .val (.int (0 : Int32)), .val (.int c0)]) rfl κ) ?_
    show oG _ _ _ _ (T3.setTop (mkF m 38 #[.val (.ref a), .val (.int (1 : Int32)), .val (.ref b), .val (.int ((0 : Int32) + (1 : Int32))), .val (.int (1 : Int32)), .val (.int (0 : Int32)), .val (.int c0)] []))
    rw [show (((0 : Int32) + (1 : Int32)) : Int32) = (1 : Int32) from by decide]
    show oG _ _ _ _ (T3.setTop (mkF m 38 #[.val (.ref a), .val (.int (1 : Int32)), .val (.ref b), .val (.int (1 : Int32)), .val (.int (1 : Int32)), .val (.int (0 : Int32)), .val (.int c0)] []))
    refine oS (fun _ κ => XS.iinc X3.here hx rfl (hb hby q8_38) rfl (l' := #[.val (.ref a), .val (.int (1 : Int32)), .val (.ref b), .val (.int (1 : Int32)), .val (.int (1 : Int32)), .val (.int ((0 : Int32) + (1 : Int32))), .val (.int c0)]) rfl κ) ?_
    show oG _ _ _ _ (T3.setTop (mkF m 41 #[.val (.ref a), .val (.int (1 : Int32)), .val (.ref b), .val (.int (1 : Int32)), .val (.int (1 : Int32)), .val (.int ((0 : Int32) + (1 : Int32))), .val (.int c0)] []))
    rw [show (((0 : Int32) + (1 : Int32)) : Int32) = (1 : Int32) from by decide]
    show oG _ _ _ _ (T3.setTop (mkF m 41 #[.val (.ref a), .val (.int (1 : Int32)), .val (.ref b), .val (.int (1 : Int32)), .val (.int (1 : Int32)), .val (.int (1 : Int32)), .val (.int c0)] []))
    refine oS (fun _ κ => XS.goto X3.here hx rfl (pc0 := 41) (pc' := 3) rfl (hb hby q8_41) (by decide) (by decide) κ) ?_
    show oG _ _ _ _ (T3.setTop (mkF m 3 #[.val (.ref a), .val (.int (1 : Int32)), .val (.ref b), .val (.int (1 : Int32)), .val (.int (1 : Int32)), .val (.int (1 : Int32)), .val (.int c0)] []))
    refine oS (fun _ κ => XS.iload X3.here hx rfl (hb hby q8_3) rfl κ) ?_
    refine oS (fun _ κ => XS.iload X3.here hx rfl (hb hby q8_5) rfl κ) ?_
    refine oS (fun _ κ => XS.icmpYes X3.here hx rfl (pc0 := 7) (pc' := 44) rfl (hb hby q8_7) rfl (flt (by decide)).2.1 (by decide) (by decide) κ) ?_
    show oG _ _ _ _ (T3.setTop (mkF m 44 #[.val (.ref a), .val (.int (1 : Int32)), .val (.ref b), .val (.int (1 : Int32)), .val (.int (1 : Int32)), .val (.int (1 : Int32)), .val (.int c0)] []))
    refine oS (fun _ κ => XS.iload X3.here hx rfl (hb hby q8_44) rfl κ) ?_
    obtain ⟨fs, hr, hrun, hended, hW, hsame⟩ := X3.leave (v := some (.int (1 : Int32))) (fun h => by rw [Bd.returns] at h; cases h)
    refine ⟨_, _, own_retI X3 hx Bd.returns (hb hby q8_46) hr, hrun, hended, _, _, rfl, ?_, ⟨_, rfl⟩, hW, hsame.mono (by decide) (by decide)⟩
    show Q16 Z a b ka c0 h0 n0 _ T3.heap _
    rw [e3]
    exact ⟨(1 : Int32), rfl, N3, K5, (Or.inl ⟨rfl, V3, hc2⟩)⟩
theorem ef_17 (m : MethodId) (a : Addr) (b : Addr) : entryFrame m #[(.ref a), (.int (0 : Int32)), (.ref b), (.int (0 : Int32)), (.int (2 : Int32))] 7 = mkF m 0 #[.val (.ref a), .val (.int (0 : Int32)), .val (.ref b), .val (.int (0 : Int32)), .val (.int (2 : Int32)), .unset, .unset] [] := by first | (simp [entryFrame, mkF, argsToLocals, Value.category]; done) | rfl
def Q17 (Z : State) (a : Addr) (b : Addr) (ka : ClassId) (c0 : Int32) (c1 : Int32) (h0 : Heap) (n0 : Nat) (v : Option Value) (h : Heap) (L : List Loc) : Prop := ∃ u : Int32, v = some (.int u) ∧ Fr n0 L ∧ Keep h0 h [b] ∧ ((u = (2 : Int32) ∧ (own_By Z h b (2 : Int32) (own_upd (own_upd own_zero (0 : Int32).toNatClampNeg (own_lb c0)) (1 : Int32).toNatClampNeg (own_lb c1))) ∧ (¬ (255 : Int32) < c0) ∧ (¬ (255 : Int32) < c1)) ∨ (u = (0 : Int32) ∧ ((255 : Int32) < c0)) ∨ (u = (1 : Int32) ∧ ((255 : Int32) < c1)))
set_option maxRecDepth 65536 in
set_option maxHeartbeats 40000000 in
theorem rm17 (l : Launch) (Z : State) (a0 : Array Value) (hw : ∀ d ∈ tables_1, d.before a0 Z = true) (ws : List Jvm.Cond) (a : Addr) (b : Addr) (ka : ClassId) (c0 : Int32) (c1 : Int32) (h0 : Heap) (n0 : Nat) (Z0 : n0 ≤ h0.size) (P0 : Arv Z h0 a ka .char (2 : Int32) [(.int c0), (.int c1)] (.int (0 : Int32))) (P1 : own_By Z h0 b (2 : Int32) own_zero) (P2 : n0 ≤ b) (P3 : a ≠ b) :
    MetFree l own_y15 (head1 (Jvm.Cond.code own_y15 jdk_52_method_21_code 7 (some .int) :: ws) own_r0) (fun ar_ U => ar_ = #[(.ref a), (.int (0 : Int32)), (.ref b), (.int (0 : Int32)), (.int (2 : Int32))] ∧ Z.Warmed39 U.vm ∧ U.heap = h0) (fun _ _ _ _ _ => True) (fun _ U oo_ U' => ∃ v L, oo_ = .returned v ∧ Q17 Z a b ka c0 c1 h0 n0 v U'.heap L ∧ FrameEnd U oo_ U' L own_r0.cells own_r0.slots) := by
  refine MetFree.of_bodySF (plainFor_of_name pn_4) hisR ?_
  intro p e s m args below meth c s₁ Bd hml0 hP hK
  obtain ⟨rfl, hZ, hh⟩ := hP
  have hx := Bd.exec
  have hby := Bd.bytes
  have hml : c.maxLocals = 7 := hml0
  have hown : s.vm.findClass "java/lang/StringUTF16" = some m.cls := findClass_of_methodNamed Bd.named
  have hnm := (name_of_methodNamed Bd.named Bd.method).1
  have X0 : Stand p l e own_r0 s m #[(.ref a), (.int (0 : Int32)), (.ref b), (.int (0 : Int32)), (.int (2 : Int32))] below meth c s₁ [] 0 0 := Stand.of_body Bd
  have e0 : s₁.heap = h0 := by rw [← hh, Bd.state]; rfl
  have N0 := Fr.nil n0
  refine own_in (castTop (ef_17 m a b)) ?_
  show oG _ _ _ _ (s₁.setTop (mkF m 0 #[.val (.ref a), .val (.int (0 : Int32)), .val (.ref b), .val (.int (0 : Int32)), .val (.int (2 : Int32)), .unset, .unset] []))
  refine oS (fun _ κ => XS.iconst X0.here hx rfl (hb hby q8_0) κ) ?_
  refine oS (fun _ κ => XS.istore X0.here hx rfl (hb hby q8_1) rfl (l' := #[.val (.ref a), .val (.int (0 : Int32)), .val (.ref b), .val (.int (0 : Int32)), .val (.int (2 : Int32)), .val (.int (0 : Int32)), .unset]) rfl κ) ?_
  refine oS (fun _ κ => XS.iload X0.here hx rfl (hb hby q8_3) rfl κ) ?_
  refine oS (fun _ κ => XS.iload X0.here hx rfl (hb hby q8_5) rfl κ) ?_
  refine oS (fun _ κ => XS.icmpNo X0.here hx rfl (hb hby q8_7) rfl (tlt (by decide)).2.1 κ) ?_
  show oG _ _ _ _ (s₁.setTop (mkF m 10 #[.val (.ref a), .val (.int (0 : Int32)), .val (.ref b), .val (.int (0 : Int32)), .val (.int (2 : Int32)), .val (.int (0 : Int32)), .unset] []))
  refine oS (fun _ κ => XS.aloadN X0.here hx rfl (hb hby q8_10) rfl rfl κ) ?_
  refine oS (fun _ κ => XS.iloadN X0.here hx rfl (hb hby q8_11) rfl κ) ?_
  obtain ⟨cl1, Ar1, q1, Sz1, Nz1, Hs1, Gs1⟩ := id (P0)
  have hin1 := inb_of (j := (0 : Int32)) Sz1 ⟨by decide, by decide⟩
  have hat1 := Hs1.at (j := (0 : Int32)) hin1 rfl
  refine oS (fun _ κ => X0.caload hx (j := (0 : Int32)) (v := (.int c0)) (by rw [e0]; exact Ar1.1) (State.isArrayOf_alike hZ.alike Ar1.2.1) Ar1.2.2 hin1 hat1 (g := (mkF m 12 #[.val (.ref a), .val (.int (0 : Int32)), .val (.ref b), .val (.int (0 : Int32)), .val (.int (2 : Int32)), .val (.int (0 : Int32)), .unset] [(.int (0 : Int32)), (.ref a)])) rfl rfl (hb hby q8_12) _ κ) ?_
  show oG _ _ _ _ (s₁.setTop (mkF m 13 #[.val (.ref a), .val (.int (0 : Int32)), .val (.ref b), .val (.int (0 : Int32)), .val (.int (2 : Int32)), .val (.int (0 : Int32)), .unset] [(.int c0)]))
  refine oS (fun _ κ => XS.istore X0.here hx rfl (hb hby q8_13) rfl (l' := #[.val (.ref a), .val (.int (0 : Int32)), .val (.ref b), .val (.int (0 : Int32)), .val (.int (2 : Int32)), .val (.int (0 : Int32)), .val (.int c0)]) rfl κ) ?_
  refine oS (fun _ κ => XS.iload X0.here hx rfl (hb hby q8_15) rfl κ) ?_
  refine oS (fun _ κ => XS.sipush X0.here hx rfl (hb hby q8_17) κ) ?_
  by_cases hc2 : (255 : Int32) < c0
  · refine oS (fun _ κ => XS.icmpNo X0.here hx rfl (hb hby q8_20) rfl (tlt hc2).2.2.2 κ) ?_
    show oG _ _ _ _ (s₁.setTop (mkF m 23 #[.val (.ref a), .val (.int (0 : Int32)), .val (.ref b), .val (.int (0 : Int32)), .val (.int (2 : Int32)), .val (.int (0 : Int32)), .val (.int c0)] []))
    refine oS (fun _ κ => XS.iload X0.here hx rfl (hb hby q8_23) rfl κ) ?_
    obtain ⟨fs, hr, hrun, hended, hW, hsame⟩ := X0.leave (v := some (.int (0 : Int32))) (fun h => by rw [Bd.returns] at h; cases h)
    refine ⟨_, _, own_retI X0 hx Bd.returns (hb hby q8_25) hr, hrun, hended, _, _, rfl, ?_, ⟨_, rfl⟩, hW, hsame.mono (by decide) (by decide)⟩
    show Q17 Z a b ka c0 c1 h0 n0 _ s₁.heap _
    rw [e0]
    exact ⟨(0 : Int32), rfl, N0, (Keep.refl h0 [b]), (Or.inr (Or.inl ⟨rfl, hc2⟩))⟩
  · refine oS (fun _ κ => XS.icmpYes X0.here hx rfl (pc0 := 20) (pc' := 26) rfl (hb hby q8_20) rfl (flt hc2).2.2.2 (by decide) (by decide) κ) ?_
    show oG _ _ _ _ (s₁.setTop (mkF m 26 #[.val (.ref a), .val (.int (0 : Int32)), .val (.ref b), .val (.int (0 : Int32)), .val (.int (2 : Int32)), .val (.int (0 : Int32)), .val (.int c0)] []))
    refine oS (fun _ κ => XS.aloadN X0.here hx rfl (hb hby q8_26) rfl rfl κ) ?_
    refine oS (fun _ κ => XS.iloadN X0.here hx rfl (hb hby q8_27) rfl κ) ?_
    refine oS (fun _ κ => XS.iload X0.here hx rfl (hb hby q8_28) rfl κ) ?_
    refine oS (fun _ κ => XS.i2b X0.here hx rfl (hb hby q8_30) rfl κ) ?_
    show oG _ _ _ _ (s₁.setTop (mkF m 31 #[.val (.ref a), .val (.int (0 : Int32)), .val (.ref b), .val (.int (0 : Int32)), .val (.int (2 : Int32)), .val (.int (0 : Int32)), .val (.int c0)] [(.int (c0.toInt8.toInt32)), (.int (0 : Int32)), (.ref b)]))
    obtain ⟨cl3, Ar3, Sz3, Nz3, -⟩ := P1.opened
    have hin3 := inb_of (j := (0 : Int32)) Sz3 ⟨by decide, by decide⟩
    obtain ⟨T3, h3, X3, e3, W3, st3⟩ := stB X0 hx hZ e0 Ar3 (j := (0 : Int32)) hin3 (g := (mkF m 31 #[.val (.ref a), .val (.int (0 : Int32)), .val (.ref b), .val (.int (0 : Int32)), .val (.int (2 : Int32)), .val (.int (0 : Int32)), .val (.int c0)] [(.int (c0.toInt8.toInt32)), (.int (0 : Int32)), (.ref b)])) rfl rfl (hb hby q8_31)
    refine oS st3 ?_
    have N3 := Fr.snoc X3 N0 P2
    have V3 : own_By Z h3 b (2 : Int32) (own_upd own_zero (0 : Int32).toNatClampNeg (c0.toInt8.toInt32).toInt8.toInt32) := P1.set W3 ⟨by decide, by decide⟩
    have f4 := P0.other W3 P3
    have K5 : Keep h0 h3 [b] := (Keep.refl h0 [b]).wr W3 (Or.inl (List.mem_of_getElem? (i := 0) rfl))
    have z6 : n0 ≤ h3.size := Nat.le_trans Z0 (Keep.of_wr W3).1
    show oG _ _ _ _ (T3.setTop (mkF m 32 #[.val (.ref a), .val (.int (0 : Int32)), .val (.ref b), .val (.int (0 : Int32)), .val (.int (2 : Int32)), .val (.int (0 : Int32)), .val (.int c0)] []))
    refine oS (fun _ κ => XS.iinc X3.here hx rfl (hb hby q8_32) rfl (l' := #[.val (.ref a), .val (.int ((0 : Int32) + (1 : Int32))), .val (.ref b), .val (.int (0 : Int32)), .val (.int (2 : Int32)), .val (.int (0 : Int32)), .val (.int c0)]) rfl κ) ?_
    show oG _ _ _ _ (T3.setTop (mkF m 35 #[.val (.ref a), .val (.int ((0 : Int32) + (1 : Int32))), .val (.ref b), .val (.int (0 : Int32)), .val (.int (2 : Int32)), .val (.int (0 : Int32)), .val (.int c0)] []))
    rw [show (((0 : Int32) + (1 : Int32)) : Int32) = (1 : Int32) from by decide]
    show oG _ _ _ _ (T3.setTop (mkF m 35 #[.val (.ref a), .val (.int (1 : Int32)), .val (.ref b), .val (.int (0 : Int32)), .val (.int (2 : Int32)), .val (.int (0 : Int32)), .val (.int c0)] []))
    refine oS (fun _ κ => XS.iinc X3.here hx rfl (hb hby q8_35) rfl (l' := #[.val (.ref a), .val (.int (1 : Int32)), .val (.ref b), .val (.int ((0 : Int32) + (1 : Int32))), .val (.int (2 : Int32)), .val (.int (0 : Int32)), .val (.int c0)]) rfl κ) ?_
    show oG _ _ _ _ (T3.setTop (mkF m 38 #[.val (.ref a), .val (.int (1 : Int32)), .val (.ref b), .val (.int ((0 : Int32) + (1 : Int32))), .val (.int (2 : Int32)), .val (.int (0 : Int32)), .val (.int c0)] []))
    rw [show (((0 : Int32) + (1 : Int32)) : Int32) = (1 : Int32) from by decide]
    show oG _ _ _ _ (T3.setTop (mkF m 38 #[.val (.ref a), .val (.int (1 : Int32)), .val (.ref b), .val (.int (1 : Int32)), .val (.int (2 : Int32)), .val (.int (0 : Int32)), .val (.int c0)] []))
    refine oS (fun _ κ => XS.iinc X3.here hx rfl (hb hby q8_38) rfl (l' := #[.val (.ref a), .val (.int (1 : Int32)), .val (.ref b), .val (.int (1 : Int32)), .val (.int (2 : Int32)), .val (.int ((0 : Int32) + (1 : Int32))), .val (.int c0)]) rfl κ) ?_
    show oG _ _ _ _ (T3.setTop (mkF m 41 #[.val (.ref a), .val (.int (1 : Int32)), .val (.ref b), .val (.int (1 : Int32)), .val (.int (2 : Int32)), .val (.int ((0 : Int32) + (1 : Int32))), .val (.int c0)] []))
    rw [show (((0 : Int32) + (1 : Int32)) : Int32) = (1 : Int32) from by decide]
    show oG _ _ _ _ (T3.setTop (mkF m 41 #[.val (.ref a), .val (.int (1 : Int32)), .val (.ref b), .val (.int (1 : Int32)), .val (.int (2 : Int32)), .val (.int (1 : Int32)), .val (.int c0)] []))
    refine oS (fun _ κ => XS.goto X3.here hx rfl (pc0 := 41) (pc' := 3) rfl (hb hby q8_41) (by decide) (by decide) κ) ?_
    show oG _ _ _ _ (T3.setTop (mkF m 3 #[.val (.ref a), .val (.int (1 : Int32)), .val (.ref b), .val (.int (1 : Int32)), .val (.int (2 : Int32)), .val (.int (1 : Int32)), .val (.int c0)] []))
    refine oS (fun _ κ => XS.iload X3.here hx rfl (hb hby q8_3) rfl κ) ?_
    refine oS (fun _ κ => XS.iload X3.here hx rfl (hb hby q8_5) rfl κ) ?_
    refine oS (fun _ κ => XS.icmpNo X3.here hx rfl (hb hby q8_7) rfl (tlt (by decide)).2.1 κ) ?_
    show oG _ _ _ _ (T3.setTop (mkF m 10 #[.val (.ref a), .val (.int (1 : Int32)), .val (.ref b), .val (.int (1 : Int32)), .val (.int (2 : Int32)), .val (.int (1 : Int32)), .val (.int c0)] []))
    refine oS (fun _ κ => XS.aloadN X3.here hx rfl (hb hby q8_10) rfl rfl κ) ?_
    refine oS (fun _ κ => XS.iloadN X3.here hx rfl (hb hby q8_11) rfl κ) ?_
    obtain ⟨cl7, Ar7, q7, Sz7, Nz7, Hs7, Gs7⟩ := id (f4)
    have hin7 := inb_of (j := (1 : Int32)) Sz7 ⟨by decide, by decide⟩
    have hat7 := Hs7.at (j := (1 : Int32)) hin7 rfl
    refine oS (fun _ κ => X3.caload hx (j := (1 : Int32)) (v := (.int c1)) (by rw [e3]; exact Ar7.1) (State.isArrayOf_alike hZ.alike Ar7.2.1) Ar7.2.2 hin7 hat7 (g := (mkF m 12 #[.val (.ref a), .val (.int (1 : Int32)), .val (.ref b), .val (.int (1 : Int32)), .val (.int (2 : Int32)), .val (.int (1 : Int32)), .val (.int c0)] [(.int (1 : Int32)), (.ref a)])) rfl rfl (hb hby q8_12) _ κ) ?_
    show oG _ _ _ _ (T3.setTop (mkF m 13 #[.val (.ref a), .val (.int (1 : Int32)), .val (.ref b), .val (.int (1 : Int32)), .val (.int (2 : Int32)), .val (.int (1 : Int32)), .val (.int c0)] [(.int c1)]))
    refine oS (fun _ κ => XS.istore X3.here hx rfl (hb hby q8_13) rfl (l' := #[.val (.ref a), .val (.int (1 : Int32)), .val (.ref b), .val (.int (1 : Int32)), .val (.int (2 : Int32)), .val (.int (1 : Int32)), .val (.int c1)]) rfl κ) ?_
    refine oS (fun _ κ => XS.iload X3.here hx rfl (hb hby q8_15) rfl κ) ?_
    refine oS (fun _ κ => XS.sipush X3.here hx rfl (hb hby q8_17) κ) ?_
    by_cases hc8 : (255 : Int32) < c1
    · refine oS (fun _ κ => XS.icmpNo X3.here hx rfl (hb hby q8_20) rfl (tlt hc8).2.2.2 κ) ?_
      show oG _ _ _ _ (T3.setTop (mkF m 23 #[.val (.ref a), .val (.int (1 : Int32)), .val (.ref b), .val (.int (1 : Int32)), .val (.int (2 : Int32)), .val (.int (1 : Int32)), .val (.int c1)] []))
      refine oS (fun _ κ => XS.iload X3.here hx rfl (hb hby q8_23) rfl κ) ?_
      obtain ⟨fs, hr, hrun, hended, hW, hsame⟩ := X3.leave (v := some (.int (1 : Int32))) (fun h => by rw [Bd.returns] at h; cases h)
      refine ⟨_, _, own_retI X3 hx Bd.returns (hb hby q8_25) hr, hrun, hended, _, _, rfl, ?_, ⟨_, rfl⟩, hW, hsame.mono (by decide) (by decide)⟩
      show Q17 Z a b ka c0 c1 h0 n0 _ T3.heap _
      rw [e3]
      exact ⟨(1 : Int32), rfl, N3, K5, (Or.inr (Or.inr ⟨rfl, hc8⟩))⟩
    · refine oS (fun _ κ => XS.icmpYes X3.here hx rfl (pc0 := 20) (pc' := 26) rfl (hb hby q8_20) rfl (flt hc8).2.2.2 (by decide) (by decide) κ) ?_
      show oG _ _ _ _ (T3.setTop (mkF m 26 #[.val (.ref a), .val (.int (1 : Int32)), .val (.ref b), .val (.int (1 : Int32)), .val (.int (2 : Int32)), .val (.int (1 : Int32)), .val (.int c1)] []))
      refine oS (fun _ κ => XS.aloadN X3.here hx rfl (hb hby q8_26) rfl rfl κ) ?_
      refine oS (fun _ κ => XS.iloadN X3.here hx rfl (hb hby q8_27) rfl κ) ?_
      refine oS (fun _ κ => XS.iload X3.here hx rfl (hb hby q8_28) rfl κ) ?_
      refine oS (fun _ κ => XS.i2b X3.here hx rfl (hb hby q8_30) rfl κ) ?_
      show oG _ _ _ _ (T3.setTop (mkF m 31 #[.val (.ref a), .val (.int (1 : Int32)), .val (.ref b), .val (.int (1 : Int32)), .val (.int (2 : Int32)), .val (.int (1 : Int32)), .val (.int c1)] [(.int (c1.toInt8.toInt32)), (.int (1 : Int32)), (.ref b)]))
      obtain ⟨cl9, Ar9, Sz9, Nz9, -⟩ := V3.opened
      have hin9 := inb_of (j := (1 : Int32)) Sz9 ⟨by decide, by decide⟩
      obtain ⟨T9, h9, X9, e9, W9, st9⟩ := stB X3 hx hZ e3 Ar9 (j := (1 : Int32)) hin9 (g := (mkF m 31 #[.val (.ref a), .val (.int (1 : Int32)), .val (.ref b), .val (.int (1 : Int32)), .val (.int (2 : Int32)), .val (.int (1 : Int32)), .val (.int c1)] [(.int (c1.toInt8.toInt32)), (.int (1 : Int32)), (.ref b)])) rfl rfl (hb hby q8_31)
      refine oS st9 ?_
      have N9 := Fr.snoc X9 N3 P2
      have V9 : own_By Z h9 b (2 : Int32) (own_upd (own_upd own_zero (0 : Int32).toNatClampNeg (c0.toInt8.toInt32).toInt8.toInt32) (1 : Int32).toNatClampNeg (c1.toInt8.toInt32).toInt8.toInt32) := V3.set W9 ⟨by decide, by decide⟩
      have f10 := f4.other W9 P3
      have K11 : Keep h0 h9 [b] := K5.wr W9 (Or.inl (List.mem_of_getElem? (i := 0) rfl))
      have z12 : n0 ≤ h9.size := Nat.le_trans z6 (Keep.of_wr W9).1
      show oG _ _ _ _ (T9.setTop (mkF m 32 #[.val (.ref a), .val (.int (1 : Int32)), .val (.ref b), .val (.int (1 : Int32)), .val (.int (2 : Int32)), .val (.int (1 : Int32)), .val (.int c1)] []))
      refine oS (fun _ κ => XS.iinc X9.here hx rfl (hb hby q8_32) rfl (l' := #[.val (.ref a), .val (.int ((1 : Int32) + (1 : Int32))), .val (.ref b), .val (.int (1 : Int32)), .val (.int (2 : Int32)), .val (.int (1 : Int32)), .val (.int c1)]) rfl κ) ?_
      show oG _ _ _ _ (T9.setTop (mkF m 35 #[.val (.ref a), .val (.int ((1 : Int32) + (1 : Int32))), .val (.ref b), .val (.int (1 : Int32)), .val (.int (2 : Int32)), .val (.int (1 : Int32)), .val (.int c1)] []))
      rw [show (((1 : Int32) + (1 : Int32)) : Int32) = (2 : Int32) from by decide]
      show oG _ _ _ _ (T9.setTop (mkF m 35 #[.val (.ref a), .val (.int (2 : Int32)), .val (.ref b), .val (.int (1 : Int32)), .val (.int (2 : Int32)), .val (.int (1 : Int32)), .val (.int c1)] []))
      refine oS (fun _ κ => XS.iinc X9.here hx rfl (hb hby q8_35) rfl (l' := #[.val (.ref a), .val (.int (2 : Int32)), .val (.ref b), .val (.int ((1 : Int32) + (1 : Int32))), .val (.int (2 : Int32)), .val (.int (1 : Int32)), .val (.int c1)]) rfl κ) ?_
      show oG _ _ _ _ (T9.setTop (mkF m 38 #[.val (.ref a), .val (.int (2 : Int32)), .val (.ref b), .val (.int ((1 : Int32) + (1 : Int32))), .val (.int (2 : Int32)), .val (.int (1 : Int32)), .val (.int c1)] []))
      rw [show (((1 : Int32) + (1 : Int32)) : Int32) = (2 : Int32) from by decide]
      show oG _ _ _ _ (T9.setTop (mkF m 38 #[.val (.ref a), .val (.int (2 : Int32)), .val (.ref b), .val (.int (2 : Int32)), .val (.int (2 : Int32)), .val (.int (1 : Int32)), .val (.int c1)] []))
      refine oS (fun _ κ => XS.iinc X9.here hx rfl (hb hby q8_38) rfl (l' := #[.val (.ref a), .val (.int (2 : Int32)), .val (.ref b), .val (.int (2 : Int32)), .val (.int (2 : Int32)), .val (.int ((1 : Int32) + (1 : Int32))), .val (.int c1)]) rfl κ) ?_
      show oG _ _ _ _ (T9.setTop (mkF m 41 #[.val (.ref a), .val (.int (2 : Int32)), .val (.ref b), .val (.int (2 : Int32)), .val (.int (2 : Int32)), .val (.int ((1 : Int32) + (1 : Int32))), .val (.int c1)] []))
      rw [show (((1 : Int32) + (1 : Int32)) : Int32) = (2 : Int32) from by decide]
      show oG _ _ _ _ (T9.setTop (mkF m 41 #[.val (.ref a), .val (.int (2 : Int32)), .val (.ref b), .val (.int (2 : Int32)), .val (.int (2 : Int32)), .val (.int (2 : Int32)), .val (.int c1)] []))
      refine oS (fun _ κ => XS.goto X9.here hx rfl (pc0 := 41) (pc' := 3) rfl (hb hby q8_41) (by decide) (by decide) κ) ?_
      show oG _ _ _ _ (T9.setTop (mkF m 3 #[.val (.ref a), .val (.int (2 : Int32)), .val (.ref b), .val (.int (2 : Int32)), .val (.int (2 : Int32)), .val (.int (2 : Int32)), .val (.int c1)] []))
      refine oS (fun _ κ => XS.iload X9.here hx rfl (hb hby q8_3) rfl κ) ?_
      refine oS (fun _ κ => XS.iload X9.here hx rfl (hb hby q8_5) rfl κ) ?_
      refine oS (fun _ κ => XS.icmpYes X9.here hx rfl (pc0 := 7) (pc' := 44) rfl (hb hby q8_7) rfl (flt (by decide)).2.1 (by decide) (by decide) κ) ?_
      show oG _ _ _ _ (T9.setTop (mkF m 44 #[.val (.ref a), .val (.int (2 : Int32)), .val (.ref b), .val (.int (2 : Int32)), .val (.int (2 : Int32)), .val (.int (2 : Int32)), .val (.int c1)] []))
      refine oS (fun _ κ => XS.iload X9.here hx rfl (hb hby q8_44) rfl κ) ?_
      obtain ⟨fs, hr, hrun, hended, hW, hsame⟩ := X9.leave (v := some (.int (2 : Int32))) (fun h => by rw [Bd.returns] at h; cases h)
      refine ⟨_, _, own_retI X9 hx Bd.returns (hb hby q8_46) hr, hrun, hended, _, _, rfl, ?_, ⟨_, rfl⟩, hW, hsame.mono (by decide) (by decide)⟩
      show Q17 Z a b ka c0 c1 h0 n0 _ T9.heap _
      rw [e9]
      exact ⟨(2 : Int32), rfl, N9, K11, (Or.inl ⟨rfl, V9, hc2, hc8⟩)⟩
theorem ef_18 (m : MethodId) (a : Addr) (b : Addr) : entryFrame m #[(.ref a), (.int (0 : Int32)), (.ref b), (.int (0 : Int32)), (.int (3 : Int32))] 7 = mkF m 0 #[.val (.ref a), .val (.int (0 : Int32)), .val (.ref b), .val (.int (0 : Int32)), .val (.int (3 : Int32)), .unset, .unset] [] := by first | (simp [entryFrame, mkF, argsToLocals, Value.category]; done) | rfl
def Q18 (Z : State) (a : Addr) (b : Addr) (ka : ClassId) (c0 : Int32) (c1 : Int32) (c2 : Int32) (h0 : Heap) (n0 : Nat) (v : Option Value) (h : Heap) (L : List Loc) : Prop := ∃ u : Int32, v = some (.int u) ∧ Fr n0 L ∧ Keep h0 h [b] ∧ ((u = (3 : Int32) ∧ (own_By Z h b (3 : Int32) (own_upd (own_upd (own_upd own_zero (0 : Int32).toNatClampNeg (own_lb c0)) (1 : Int32).toNatClampNeg (own_lb c1)) (2 : Int32).toNatClampNeg (own_lb c2))) ∧ (¬ (255 : Int32) < c0) ∧ (¬ (255 : Int32) < c1) ∧ (¬ (255 : Int32) < c2)) ∨ (u = (0 : Int32) ∧ ((255 : Int32) < c0)) ∨ (u = (1 : Int32) ∧ ((255 : Int32) < c1)) ∨ (u = (2 : Int32) ∧ ((255 : Int32) < c2)))
set_option maxRecDepth 65536 in
set_option maxHeartbeats 40000000 in
theorem rm18 (l : Launch) (Z : State) (a0 : Array Value) (hw : ∀ d ∈ tables_1, d.before a0 Z = true) (ws : List Jvm.Cond) (a : Addr) (b : Addr) (ka : ClassId) (c0 : Int32) (c1 : Int32) (c2 : Int32) (h0 : Heap) (n0 : Nat) (Z0 : n0 ≤ h0.size) (P0 : Arv Z h0 a ka .char (3 : Int32) [(.int c0), (.int c1), (.int c2)] (.int (0 : Int32))) (P1 : own_By Z h0 b (3 : Int32) own_zero) (P2 : n0 ≤ b) (P3 : a ≠ b) :
    MetFree l own_y15 (head1 (Jvm.Cond.code own_y15 jdk_52_method_21_code 7 (some .int) :: ws) own_r0) (fun ar_ U => ar_ = #[(.ref a), (.int (0 : Int32)), (.ref b), (.int (0 : Int32)), (.int (3 : Int32))] ∧ Z.Warmed39 U.vm ∧ U.heap = h0) (fun _ _ _ _ _ => True) (fun _ U oo_ U' => ∃ v L, oo_ = .returned v ∧ Q18 Z a b ka c0 c1 c2 h0 n0 v U'.heap L ∧ FrameEnd U oo_ U' L own_r0.cells own_r0.slots) := by
  refine MetFree.of_bodySF (plainFor_of_name pn_4) hisR ?_
  intro p e s m args below meth c s₁ Bd hml0 hP hK
  obtain ⟨rfl, hZ, hh⟩ := hP
  have hx := Bd.exec
  have hby := Bd.bytes
  have hml : c.maxLocals = 7 := hml0
  have hown : s.vm.findClass "java/lang/StringUTF16" = some m.cls := findClass_of_methodNamed Bd.named
  have hnm := (name_of_methodNamed Bd.named Bd.method).1
  have X0 : Stand p l e own_r0 s m #[(.ref a), (.int (0 : Int32)), (.ref b), (.int (0 : Int32)), (.int (3 : Int32))] below meth c s₁ [] 0 0 := Stand.of_body Bd
  have e0 : s₁.heap = h0 := by rw [← hh, Bd.state]; rfl
  have N0 := Fr.nil n0
  refine own_in (castTop (ef_18 m a b)) ?_
  show oG _ _ _ _ (s₁.setTop (mkF m 0 #[.val (.ref a), .val (.int (0 : Int32)), .val (.ref b), .val (.int (0 : Int32)), .val (.int (3 : Int32)), .unset, .unset] []))
  refine oS (fun _ κ => XS.iconst X0.here hx rfl (hb hby q8_0) κ) ?_
  refine oS (fun _ κ => XS.istore X0.here hx rfl (hb hby q8_1) rfl (l' := #[.val (.ref a), .val (.int (0 : Int32)), .val (.ref b), .val (.int (0 : Int32)), .val (.int (3 : Int32)), .val (.int (0 : Int32)), .unset]) rfl κ) ?_
  refine oS (fun _ κ => XS.iload X0.here hx rfl (hb hby q8_3) rfl κ) ?_
  refine oS (fun _ κ => XS.iload X0.here hx rfl (hb hby q8_5) rfl κ) ?_
  refine oS (fun _ κ => XS.icmpNo X0.here hx rfl (hb hby q8_7) rfl (tlt (by decide)).2.1 κ) ?_
  show oG _ _ _ _ (s₁.setTop (mkF m 10 #[.val (.ref a), .val (.int (0 : Int32)), .val (.ref b), .val (.int (0 : Int32)), .val (.int (3 : Int32)), .val (.int (0 : Int32)), .unset] []))
  refine oS (fun _ κ => XS.aloadN X0.here hx rfl (hb hby q8_10) rfl rfl κ) ?_
  refine oS (fun _ κ => XS.iloadN X0.here hx rfl (hb hby q8_11) rfl κ) ?_
  obtain ⟨cl1, Ar1, q1, Sz1, Nz1, Hs1, Gs1⟩ := id (P0)
  have hin1 := inb_of (j := (0 : Int32)) Sz1 ⟨by decide, by decide⟩
  have hat1 := Hs1.at (j := (0 : Int32)) hin1 rfl
  refine oS (fun _ κ => X0.caload hx (j := (0 : Int32)) (v := (.int c0)) (by rw [e0]; exact Ar1.1) (State.isArrayOf_alike hZ.alike Ar1.2.1) Ar1.2.2 hin1 hat1 (g := (mkF m 12 #[.val (.ref a), .val (.int (0 : Int32)), .val (.ref b), .val (.int (0 : Int32)), .val (.int (3 : Int32)), .val (.int (0 : Int32)), .unset] [(.int (0 : Int32)), (.ref a)])) rfl rfl (hb hby q8_12) _ κ) ?_
  show oG _ _ _ _ (s₁.setTop (mkF m 13 #[.val (.ref a), .val (.int (0 : Int32)), .val (.ref b), .val (.int (0 : Int32)), .val (.int (3 : Int32)), .val (.int (0 : Int32)), .unset] [(.int c0)]))
  refine oS (fun _ κ => XS.istore X0.here hx rfl (hb hby q8_13) rfl (l' := #[.val (.ref a), .val (.int (0 : Int32)), .val (.ref b), .val (.int (0 : Int32)), .val (.int (3 : Int32)), .val (.int (0 : Int32)), .val (.int c0)]) rfl κ) ?_
  refine oS (fun _ κ => XS.iload X0.here hx rfl (hb hby q8_15) rfl κ) ?_
  refine oS (fun _ κ => XS.sipush X0.here hx rfl (hb hby q8_17) κ) ?_
  by_cases hc2 : (255 : Int32) < c0
  · refine oS (fun _ κ => XS.icmpNo X0.here hx rfl (hb hby q8_20) rfl (tlt hc2).2.2.2 κ) ?_
    show oG _ _ _ _ (s₁.setTop (mkF m 23 #[.val (.ref a), .val (.int (0 : Int32)), .val (.ref b), .val (.int (0 : Int32)), .val (.int (3 : Int32)), .val (.int (0 : Int32)), .val (.int c0)] []))
    refine oS (fun _ κ => XS.iload X0.here hx rfl (hb hby q8_23) rfl κ) ?_
    obtain ⟨fs, hr, hrun, hended, hW, hsame⟩ := X0.leave (v := some (.int (0 : Int32))) (fun h => by rw [Bd.returns] at h; cases h)
    refine ⟨_, _, own_retI X0 hx Bd.returns (hb hby q8_25) hr, hrun, hended, _, _, rfl, ?_, ⟨_, rfl⟩, hW, hsame.mono (by decide) (by decide)⟩
    show Q18 Z a b ka c0 c1 c2 h0 n0 _ s₁.heap _
    rw [e0]
    exact ⟨(0 : Int32), rfl, N0, (Keep.refl h0 [b]), (Or.inr (Or.inl ⟨rfl, hc2⟩))⟩
  · refine oS (fun _ κ => XS.icmpYes X0.here hx rfl (pc0 := 20) (pc' := 26) rfl (hb hby q8_20) rfl (flt hc2).2.2.2 (by decide) (by decide) κ) ?_
    show oG _ _ _ _ (s₁.setTop (mkF m 26 #[.val (.ref a), .val (.int (0 : Int32)), .val (.ref b), .val (.int (0 : Int32)), .val (.int (3 : Int32)), .val (.int (0 : Int32)), .val (.int c0)] []))
    refine oS (fun _ κ => XS.aloadN X0.here hx rfl (hb hby q8_26) rfl rfl κ) ?_
    refine oS (fun _ κ => XS.iloadN X0.here hx rfl (hb hby q8_27) rfl κ) ?_
    refine oS (fun _ κ => XS.iload X0.here hx rfl (hb hby q8_28) rfl κ) ?_
    refine oS (fun _ κ => XS.i2b X0.here hx rfl (hb hby q8_30) rfl κ) ?_
    show oG _ _ _ _ (s₁.setTop (mkF m 31 #[.val (.ref a), .val (.int (0 : Int32)), .val (.ref b), .val (.int (0 : Int32)), .val (.int (3 : Int32)), .val (.int (0 : Int32)), .val (.int c0)] [(.int (c0.toInt8.toInt32)), (.int (0 : Int32)), (.ref b)]))
    obtain ⟨cl3, Ar3, Sz3, Nz3, -⟩ := P1.opened
    have hin3 := inb_of (j := (0 : Int32)) Sz3 ⟨by decide, by decide⟩
    obtain ⟨T3, h3, X3, e3, W3, st3⟩ := stB X0 hx hZ e0 Ar3 (j := (0 : Int32)) hin3 (g := (mkF m 31 #[.val (.ref a), .val (.int (0 : Int32)), .val (.ref b), .val (.int (0 : Int32)), .val (.int (3 : Int32)), .val (.int (0 : Int32)), .val (.int c0)] [(.int (c0.toInt8.toInt32)), (.int (0 : Int32)), (.ref b)])) rfl rfl (hb hby q8_31)
    refine oS st3 ?_
    have N3 := Fr.snoc X3 N0 P2
    have V3 : own_By Z h3 b (3 : Int32) (own_upd own_zero (0 : Int32).toNatClampNeg (c0.toInt8.toInt32).toInt8.toInt32) := P1.set W3 ⟨by decide, by decide⟩
    have f4 := P0.other W3 P3
    have K5 : Keep h0 h3 [b] := (Keep.refl h0 [b]).wr W3 (Or.inl (List.mem_of_getElem? (i := 0) rfl))
    have z6 : n0 ≤ h3.size := Nat.le_trans Z0 (Keep.of_wr W3).1
    show oG _ _ _ _ (T3.setTop (mkF m 32 #[.val (.ref a), .val (.int (0 : Int32)), .val (.ref b), .val (.int (0 : Int32)), .val (.int (3 : Int32)), .val (.int (0 : Int32)), .val (.int c0)] []))
    refine oS (fun _ κ => XS.iinc X3.here hx rfl (hb hby q8_32) rfl (l' := #[.val (.ref a), .val (.int ((0 : Int32) + (1 : Int32))), .val (.ref b), .val (.int (0 : Int32)), .val (.int (3 : Int32)), .val (.int (0 : Int32)), .val (.int c0)]) rfl κ) ?_
    show oG _ _ _ _ (T3.setTop (mkF m 35 #[.val (.ref a), .val (.int ((0 : Int32) + (1 : Int32))), .val (.ref b), .val (.int (0 : Int32)), .val (.int (3 : Int32)), .val (.int (0 : Int32)), .val (.int c0)] []))
    rw [show (((0 : Int32) + (1 : Int32)) : Int32) = (1 : Int32) from by decide]
    show oG _ _ _ _ (T3.setTop (mkF m 35 #[.val (.ref a), .val (.int (1 : Int32)), .val (.ref b), .val (.int (0 : Int32)), .val (.int (3 : Int32)), .val (.int (0 : Int32)), .val (.int c0)] []))
    refine oS (fun _ κ => XS.iinc X3.here hx rfl (hb hby q8_35) rfl (l' := #[.val (.ref a), .val (.int (1 : Int32)), .val (.ref b), .val (.int ((0 : Int32) + (1 : Int32))), .val (.int (3 : Int32)), .val (.int (0 : Int32)), .val (.int c0)]) rfl κ) ?_
    show oG _ _ _ _ (T3.setTop (mkF m 38 #[.val (.ref a), .val (.int (1 : Int32)), .val (.ref b), .val (.int ((0 : Int32) + (1 : Int32))), .val (.int (3 : Int32)), .val (.int (0 : Int32)), .val (.int c0)] []))
    rw [show (((0 : Int32) + (1 : Int32)) : Int32) = (1 : Int32) from by decide]
    show oG _ _ _ _ (T3.setTop (mkF m 38 #[.val (.ref a), .val (.int (1 : Int32)), .val (.ref b), .val (.int (1 : Int32)), .val (.int (3 : Int32)), .val (.int (0 : Int32)), .val (.int c0)] []))
    refine oS (fun _ κ => XS.iinc X3.here hx rfl (hb hby q8_38) rfl (l' := #[.val (.ref a), .val (.int (1 : Int32)), .val (.ref b), .val (.int (1 : Int32)), .val (.int (3 : Int32)), .val (.int ((0 : Int32) + (1 : Int32))), .val (.int c0)]) rfl κ) ?_
    show oG _ _ _ _ (T3.setTop (mkF m 41 #[.val (.ref a), .val (.int (1 : Int32)), .val (.ref b), .val (.int (1 : Int32)), .val (.int (3 : Int32)), .val (.int ((0 : Int32) + (1 : Int32))), .val (.int c0)] []))
    rw [show (((0 : Int32) + (1 : Int32)) : Int32) = (1 : Int32) from by decide]
    show oG _ _ _ _ (T3.setTop (mkF m 41 #[.val (.ref a), .val (.int (1 : Int32)), .val (.ref b), .val (.int (1 : Int32)), .val (.int (3 : Int32)), .val (.int (1 : Int32)), .val (.int c0)] []))
    refine oS (fun _ κ => XS.goto X3.here hx rfl (pc0 := 41) (pc' := 3) rfl (hb hby q8_41) (by decide) (by decide) κ) ?_
    show oG _ _ _ _ (T3.setTop (mkF m 3 #[.val (.ref a), .val (.int (1 : Int32)), .val (.ref b), .val (.int (1 : Int32)), .val (.int (3 : Int32)), .val (.int (1 : Int32)), .val (.int c0)] []))
    refine oS (fun _ κ => XS.iload X3.here hx rfl (hb hby q8_3) rfl κ) ?_
    refine oS (fun _ κ => XS.iload X3.here hx rfl (hb hby q8_5) rfl κ) ?_
    refine oS (fun _ κ => XS.icmpNo X3.here hx rfl (hb hby q8_7) rfl (tlt (by decide)).2.1 κ) ?_
    show oG _ _ _ _ (T3.setTop (mkF m 10 #[.val (.ref a), .val (.int (1 : Int32)), .val (.ref b), .val (.int (1 : Int32)), .val (.int (3 : Int32)), .val (.int (1 : Int32)), .val (.int c0)] []))
    refine oS (fun _ κ => XS.aloadN X3.here hx rfl (hb hby q8_10) rfl rfl κ) ?_
    refine oS (fun _ κ => XS.iloadN X3.here hx rfl (hb hby q8_11) rfl κ) ?_
    obtain ⟨cl7, Ar7, q7, Sz7, Nz7, Hs7, Gs7⟩ := id (f4)
    have hin7 := inb_of (j := (1 : Int32)) Sz7 ⟨by decide, by decide⟩
    have hat7 := Hs7.at (j := (1 : Int32)) hin7 rfl
    refine oS (fun _ κ => X3.caload hx (j := (1 : Int32)) (v := (.int c1)) (by rw [e3]; exact Ar7.1) (State.isArrayOf_alike hZ.alike Ar7.2.1) Ar7.2.2 hin7 hat7 (g := (mkF m 12 #[.val (.ref a), .val (.int (1 : Int32)), .val (.ref b), .val (.int (1 : Int32)), .val (.int (3 : Int32)), .val (.int (1 : Int32)), .val (.int c0)] [(.int (1 : Int32)), (.ref a)])) rfl rfl (hb hby q8_12) _ κ) ?_
    show oG _ _ _ _ (T3.setTop (mkF m 13 #[.val (.ref a), .val (.int (1 : Int32)), .val (.ref b), .val (.int (1 : Int32)), .val (.int (3 : Int32)), .val (.int (1 : Int32)), .val (.int c0)] [(.int c1)]))
    refine oS (fun _ κ => XS.istore X3.here hx rfl (hb hby q8_13) rfl (l' := #[.val (.ref a), .val (.int (1 : Int32)), .val (.ref b), .val (.int (1 : Int32)), .val (.int (3 : Int32)), .val (.int (1 : Int32)), .val (.int c1)]) rfl κ) ?_
    refine oS (fun _ κ => XS.iload X3.here hx rfl (hb hby q8_15) rfl κ) ?_
    refine oS (fun _ κ => XS.sipush X3.here hx rfl (hb hby q8_17) κ) ?_
    by_cases hc8 : (255 : Int32) < c1
    · refine oS (fun _ κ => XS.icmpNo X3.here hx rfl (hb hby q8_20) rfl (tlt hc8).2.2.2 κ) ?_
      show oG _ _ _ _ (T3.setTop (mkF m 23 #[.val (.ref a), .val (.int (1 : Int32)), .val (.ref b), .val (.int (1 : Int32)), .val (.int (3 : Int32)), .val (.int (1 : Int32)), .val (.int c1)] []))
      refine oS (fun _ κ => XS.iload X3.here hx rfl (hb hby q8_23) rfl κ) ?_
      obtain ⟨fs, hr, hrun, hended, hW, hsame⟩ := X3.leave (v := some (.int (1 : Int32))) (fun h => by rw [Bd.returns] at h; cases h)
      refine ⟨_, _, own_retI X3 hx Bd.returns (hb hby q8_25) hr, hrun, hended, _, _, rfl, ?_, ⟨_, rfl⟩, hW, hsame.mono (by decide) (by decide)⟩
      show Q18 Z a b ka c0 c1 c2 h0 n0 _ T3.heap _
      rw [e3]
      exact ⟨(1 : Int32), rfl, N3, K5, (Or.inr (Or.inr (Or.inl ⟨rfl, hc8⟩)))⟩
    · refine oS (fun _ κ => XS.icmpYes X3.here hx rfl (pc0 := 20) (pc' := 26) rfl (hb hby q8_20) rfl (flt hc8).2.2.2 (by decide) (by decide) κ) ?_
      show oG _ _ _ _ (T3.setTop (mkF m 26 #[.val (.ref a), .val (.int (1 : Int32)), .val (.ref b), .val (.int (1 : Int32)), .val (.int (3 : Int32)), .val (.int (1 : Int32)), .val (.int c1)] []))
      refine oS (fun _ κ => XS.aloadN X3.here hx rfl (hb hby q8_26) rfl rfl κ) ?_
      refine oS (fun _ κ => XS.iloadN X3.here hx rfl (hb hby q8_27) rfl κ) ?_
      refine oS (fun _ κ => XS.iload X3.here hx rfl (hb hby q8_28) rfl κ) ?_
      refine oS (fun _ κ => XS.i2b X3.here hx rfl (hb hby q8_30) rfl κ) ?_
      show oG _ _ _ _ (T3.setTop (mkF m 31 #[.val (.ref a), .val (.int (1 : Int32)), .val (.ref b), .val (.int (1 : Int32)), .val (.int (3 : Int32)), .val (.int (1 : Int32)), .val (.int c1)] [(.int (c1.toInt8.toInt32)), (.int (1 : Int32)), (.ref b)]))
      obtain ⟨cl9, Ar9, Sz9, Nz9, -⟩ := V3.opened
      have hin9 := inb_of (j := (1 : Int32)) Sz9 ⟨by decide, by decide⟩
      obtain ⟨T9, h9, X9, e9, W9, st9⟩ := stB X3 hx hZ e3 Ar9 (j := (1 : Int32)) hin9 (g := (mkF m 31 #[.val (.ref a), .val (.int (1 : Int32)), .val (.ref b), .val (.int (1 : Int32)), .val (.int (3 : Int32)), .val (.int (1 : Int32)), .val (.int c1)] [(.int (c1.toInt8.toInt32)), (.int (1 : Int32)), (.ref b)])) rfl rfl (hb hby q8_31)
      refine oS st9 ?_
      have N9 := Fr.snoc X9 N3 P2
      have V9 : own_By Z h9 b (3 : Int32) (own_upd (own_upd own_zero (0 : Int32).toNatClampNeg (c0.toInt8.toInt32).toInt8.toInt32) (1 : Int32).toNatClampNeg (c1.toInt8.toInt32).toInt8.toInt32) := V3.set W9 ⟨by decide, by decide⟩
      have f10 := f4.other W9 P3
      have K11 : Keep h0 h9 [b] := K5.wr W9 (Or.inl (List.mem_of_getElem? (i := 0) rfl))
      have z12 : n0 ≤ h9.size := Nat.le_trans z6 (Keep.of_wr W9).1
      show oG _ _ _ _ (T9.setTop (mkF m 32 #[.val (.ref a), .val (.int (1 : Int32)), .val (.ref b), .val (.int (1 : Int32)), .val (.int (3 : Int32)), .val (.int (1 : Int32)), .val (.int c1)] []))
      refine oS (fun _ κ => XS.iinc X9.here hx rfl (hb hby q8_32) rfl (l' := #[.val (.ref a), .val (.int ((1 : Int32) + (1 : Int32))), .val (.ref b), .val (.int (1 : Int32)), .val (.int (3 : Int32)), .val (.int (1 : Int32)), .val (.int c1)]) rfl κ) ?_
      show oG _ _ _ _ (T9.setTop (mkF m 35 #[.val (.ref a), .val (.int ((1 : Int32) + (1 : Int32))), .val (.ref b), .val (.int (1 : Int32)), .val (.int (3 : Int32)), .val (.int (1 : Int32)), .val (.int c1)] []))
      rw [show (((1 : Int32) + (1 : Int32)) : Int32) = (2 : Int32) from by decide]
      show oG _ _ _ _ (T9.setTop (mkF m 35 #[.val (.ref a), .val (.int (2 : Int32)), .val (.ref b), .val (.int (1 : Int32)), .val (.int (3 : Int32)), .val (.int (1 : Int32)), .val (.int c1)] []))
      refine oS (fun _ κ => XS.iinc X9.here hx rfl (hb hby q8_35) rfl (l' := #[.val (.ref a), .val (.int (2 : Int32)), .val (.ref b), .val (.int ((1 : Int32) + (1 : Int32))), .val (.int (3 : Int32)), .val (.int (1 : Int32)), .val (.int c1)]) rfl κ) ?_
      show oG _ _ _ _ (T9.setTop (mkF m 38 #[.val (.ref a), .val (.int (2 : Int32)), .val (.ref b), .val (.int ((1 : Int32) + (1 : Int32))), .val (.int (3 : Int32)), .val (.int (1 : Int32)), .val (.int c1)] []))
      rw [show (((1 : Int32) + (1 : Int32)) : Int32) = (2 : Int32) from by decide]
      show oG _ _ _ _ (T9.setTop (mkF m 38 #[.val (.ref a), .val (.int (2 : Int32)), .val (.ref b), .val (.int (2 : Int32)), .val (.int (3 : Int32)), .val (.int (1 : Int32)), .val (.int c1)] []))
      refine oS (fun _ κ => XS.iinc X9.here hx rfl (hb hby q8_38) rfl (l' := #[.val (.ref a), .val (.int (2 : Int32)), .val (.ref b), .val (.int (2 : Int32)), .val (.int (3 : Int32)), .val (.int ((1 : Int32) + (1 : Int32))), .val (.int c1)]) rfl κ) ?_
      show oG _ _ _ _ (T9.setTop (mkF m 41 #[.val (.ref a), .val (.int (2 : Int32)), .val (.ref b), .val (.int (2 : Int32)), .val (.int (3 : Int32)), .val (.int ((1 : Int32) + (1 : Int32))), .val (.int c1)] []))
      rw [show (((1 : Int32) + (1 : Int32)) : Int32) = (2 : Int32) from by decide]
      show oG _ _ _ _ (T9.setTop (mkF m 41 #[.val (.ref a), .val (.int (2 : Int32)), .val (.ref b), .val (.int (2 : Int32)), .val (.int (3 : Int32)), .val (.int (2 : Int32)), .val (.int c1)] []))
      refine oS (fun _ κ => XS.goto X9.here hx rfl (pc0 := 41) (pc' := 3) rfl (hb hby q8_41) (by decide) (by decide) κ) ?_
      show oG _ _ _ _ (T9.setTop (mkF m 3 #[.val (.ref a), .val (.int (2 : Int32)), .val (.ref b), .val (.int (2 : Int32)), .val (.int (3 : Int32)), .val (.int (2 : Int32)), .val (.int c1)] []))
      refine oS (fun _ κ => XS.iload X9.here hx rfl (hb hby q8_3) rfl κ) ?_
      refine oS (fun _ κ => XS.iload X9.here hx rfl (hb hby q8_5) rfl κ) ?_
      refine oS (fun _ κ => XS.icmpNo X9.here hx rfl (hb hby q8_7) rfl (tlt (by decide)).2.1 κ) ?_
      show oG _ _ _ _ (T9.setTop (mkF m 10 #[.val (.ref a), .val (.int (2 : Int32)), .val (.ref b), .val (.int (2 : Int32)), .val (.int (3 : Int32)), .val (.int (2 : Int32)), .val (.int c1)] []))
      refine oS (fun _ κ => XS.aloadN X9.here hx rfl (hb hby q8_10) rfl rfl κ) ?_
      refine oS (fun _ κ => XS.iloadN X9.here hx rfl (hb hby q8_11) rfl κ) ?_
      obtain ⟨cl13, Ar13, q13, Sz13, Nz13, Hs13, Gs13⟩ := id (f10)
      have hin13 := inb_of (j := (2 : Int32)) Sz13 ⟨by decide, by decide⟩
      have hat13 := Hs13.at (j := (2 : Int32)) hin13 rfl
      refine oS (fun _ κ => X9.caload hx (j := (2 : Int32)) (v := (.int c2)) (by rw [e9]; exact Ar13.1) (State.isArrayOf_alike hZ.alike Ar13.2.1) Ar13.2.2 hin13 hat13 (g := (mkF m 12 #[.val (.ref a), .val (.int (2 : Int32)), .val (.ref b), .val (.int (2 : Int32)), .val (.int (3 : Int32)), .val (.int (2 : Int32)), .val (.int c1)] [(.int (2 : Int32)), (.ref a)])) rfl rfl (hb hby q8_12) _ κ) ?_
      show oG _ _ _ _ (T9.setTop (mkF m 13 #[.val (.ref a), .val (.int (2 : Int32)), .val (.ref b), .val (.int (2 : Int32)), .val (.int (3 : Int32)), .val (.int (2 : Int32)), .val (.int c1)] [(.int c2)]))
      refine oS (fun _ κ => XS.istore X9.here hx rfl (hb hby q8_13) rfl (l' := #[.val (.ref a), .val (.int (2 : Int32)), .val (.ref b), .val (.int (2 : Int32)), .val (.int (3 : Int32)), .val (.int (2 : Int32)), .val (.int c2)]) rfl κ) ?_
      refine oS (fun _ κ => XS.iload X9.here hx rfl (hb hby q8_15) rfl κ) ?_
      refine oS (fun _ κ => XS.sipush X9.here hx rfl (hb hby q8_17) κ) ?_
      by_cases hc14 : (255 : Int32) < c2
      · refine oS (fun _ κ => XS.icmpNo X9.here hx rfl (hb hby q8_20) rfl (tlt hc14).2.2.2 κ) ?_
        show oG _ _ _ _ (T9.setTop (mkF m 23 #[.val (.ref a), .val (.int (2 : Int32)), .val (.ref b), .val (.int (2 : Int32)), .val (.int (3 : Int32)), .val (.int (2 : Int32)), .val (.int c2)] []))
        refine oS (fun _ κ => XS.iload X9.here hx rfl (hb hby q8_23) rfl κ) ?_
        obtain ⟨fs, hr, hrun, hended, hW, hsame⟩ := X9.leave (v := some (.int (2 : Int32))) (fun h => by rw [Bd.returns] at h; cases h)
        refine ⟨_, _, own_retI X9 hx Bd.returns (hb hby q8_25) hr, hrun, hended, _, _, rfl, ?_, ⟨_, rfl⟩, hW, hsame.mono (by decide) (by decide)⟩
        show Q18 Z a b ka c0 c1 c2 h0 n0 _ T9.heap _
        rw [e9]
        exact ⟨(2 : Int32), rfl, N9, K11, (Or.inr (Or.inr (Or.inr ⟨rfl, hc14⟩)))⟩
      · refine oS (fun _ κ => XS.icmpYes X9.here hx rfl (pc0 := 20) (pc' := 26) rfl (hb hby q8_20) rfl (flt hc14).2.2.2 (by decide) (by decide) κ) ?_
        show oG _ _ _ _ (T9.setTop (mkF m 26 #[.val (.ref a), .val (.int (2 : Int32)), .val (.ref b), .val (.int (2 : Int32)), .val (.int (3 : Int32)), .val (.int (2 : Int32)), .val (.int c2)] []))
        refine oS (fun _ κ => XS.aloadN X9.here hx rfl (hb hby q8_26) rfl rfl κ) ?_
        refine oS (fun _ κ => XS.iloadN X9.here hx rfl (hb hby q8_27) rfl κ) ?_
        refine oS (fun _ κ => XS.iload X9.here hx rfl (hb hby q8_28) rfl κ) ?_
        refine oS (fun _ κ => XS.i2b X9.here hx rfl (hb hby q8_30) rfl κ) ?_
        show oG _ _ _ _ (T9.setTop (mkF m 31 #[.val (.ref a), .val (.int (2 : Int32)), .val (.ref b), .val (.int (2 : Int32)), .val (.int (3 : Int32)), .val (.int (2 : Int32)), .val (.int c2)] [(.int (c2.toInt8.toInt32)), (.int (2 : Int32)), (.ref b)]))
        obtain ⟨cl15, Ar15, Sz15, Nz15, -⟩ := V9.opened
        have hin15 := inb_of (j := (2 : Int32)) Sz15 ⟨by decide, by decide⟩
        obtain ⟨T15, h15, X15, e15, W15, st15⟩ := stB X9 hx hZ e9 Ar15 (j := (2 : Int32)) hin15 (g := (mkF m 31 #[.val (.ref a), .val (.int (2 : Int32)), .val (.ref b), .val (.int (2 : Int32)), .val (.int (3 : Int32)), .val (.int (2 : Int32)), .val (.int c2)] [(.int (c2.toInt8.toInt32)), (.int (2 : Int32)), (.ref b)])) rfl rfl (hb hby q8_31)
        refine oS st15 ?_
        have N15 := Fr.snoc X15 N9 P2
        have V15 : own_By Z h15 b (3 : Int32) (own_upd (own_upd (own_upd own_zero (0 : Int32).toNatClampNeg (c0.toInt8.toInt32).toInt8.toInt32) (1 : Int32).toNatClampNeg (c1.toInt8.toInt32).toInt8.toInt32) (2 : Int32).toNatClampNeg (c2.toInt8.toInt32).toInt8.toInt32) := V9.set W15 ⟨by decide, by decide⟩
        have f16 := f10.other W15 P3
        have K17 : Keep h0 h15 [b] := K11.wr W15 (Or.inl (List.mem_of_getElem? (i := 0) rfl))
        have z18 : n0 ≤ h15.size := Nat.le_trans z12 (Keep.of_wr W15).1
        show oG _ _ _ _ (T15.setTop (mkF m 32 #[.val (.ref a), .val (.int (2 : Int32)), .val (.ref b), .val (.int (2 : Int32)), .val (.int (3 : Int32)), .val (.int (2 : Int32)), .val (.int c2)] []))
        refine oS (fun _ κ => XS.iinc X15.here hx rfl (hb hby q8_32) rfl (l' := #[.val (.ref a), .val (.int ((2 : Int32) + (1 : Int32))), .val (.ref b), .val (.int (2 : Int32)), .val (.int (3 : Int32)), .val (.int (2 : Int32)), .val (.int c2)]) rfl κ) ?_
        show oG _ _ _ _ (T15.setTop (mkF m 35 #[.val (.ref a), .val (.int ((2 : Int32) + (1 : Int32))), .val (.ref b), .val (.int (2 : Int32)), .val (.int (3 : Int32)), .val (.int (2 : Int32)), .val (.int c2)] []))
        rw [show (((2 : Int32) + (1 : Int32)) : Int32) = (3 : Int32) from by decide]
        show oG _ _ _ _ (T15.setTop (mkF m 35 #[.val (.ref a), .val (.int (3 : Int32)), .val (.ref b), .val (.int (2 : Int32)), .val (.int (3 : Int32)), .val (.int (2 : Int32)), .val (.int c2)] []))
        refine oS (fun _ κ => XS.iinc X15.here hx rfl (hb hby q8_35) rfl (l' := #[.val (.ref a), .val (.int (3 : Int32)), .val (.ref b), .val (.int ((2 : Int32) + (1 : Int32))), .val (.int (3 : Int32)), .val (.int (2 : Int32)), .val (.int c2)]) rfl κ) ?_
        show oG _ _ _ _ (T15.setTop (mkF m 38 #[.val (.ref a), .val (.int (3 : Int32)), .val (.ref b), .val (.int ((2 : Int32) + (1 : Int32))), .val (.int (3 : Int32)), .val (.int (2 : Int32)), .val (.int c2)] []))
        rw [show (((2 : Int32) + (1 : Int32)) : Int32) = (3 : Int32) from by decide]
        show oG _ _ _ _ (T15.setTop (mkF m 38 #[.val (.ref a), .val (.int (3 : Int32)), .val (.ref b), .val (.int (3 : Int32)), .val (.int (3 : Int32)), .val (.int (2 : Int32)), .val (.int c2)] []))
        refine oS (fun _ κ => XS.iinc X15.here hx rfl (hb hby q8_38) rfl (l' := #[.val (.ref a), .val (.int (3 : Int32)), .val (.ref b), .val (.int (3 : Int32)), .val (.int (3 : Int32)), .val (.int ((2 : Int32) + (1 : Int32))), .val (.int c2)]) rfl κ) ?_
        show oG _ _ _ _ (T15.setTop (mkF m 41 #[.val (.ref a), .val (.int (3 : Int32)), .val (.ref b), .val (.int (3 : Int32)), .val (.int (3 : Int32)), .val (.int ((2 : Int32) + (1 : Int32))), .val (.int c2)] []))
        rw [show (((2 : Int32) + (1 : Int32)) : Int32) = (3 : Int32) from by decide]
        show oG _ _ _ _ (T15.setTop (mkF m 41 #[.val (.ref a), .val (.int (3 : Int32)), .val (.ref b), .val (.int (3 : Int32)), .val (.int (3 : Int32)), .val (.int (3 : Int32)), .val (.int c2)] []))
        refine oS (fun _ κ => XS.goto X15.here hx rfl (pc0 := 41) (pc' := 3) rfl (hb hby q8_41) (by decide) (by decide) κ) ?_
        show oG _ _ _ _ (T15.setTop (mkF m 3 #[.val (.ref a), .val (.int (3 : Int32)), .val (.ref b), .val (.int (3 : Int32)), .val (.int (3 : Int32)), .val (.int (3 : Int32)), .val (.int c2)] []))
        refine oS (fun _ κ => XS.iload X15.here hx rfl (hb hby q8_3) rfl κ) ?_
        refine oS (fun _ κ => XS.iload X15.here hx rfl (hb hby q8_5) rfl κ) ?_
        refine oS (fun _ κ => XS.icmpYes X15.here hx rfl (pc0 := 7) (pc' := 44) rfl (hb hby q8_7) rfl (flt (by decide)).2.1 (by decide) (by decide) κ) ?_
        show oG _ _ _ _ (T15.setTop (mkF m 44 #[.val (.ref a), .val (.int (3 : Int32)), .val (.ref b), .val (.int (3 : Int32)), .val (.int (3 : Int32)), .val (.int (3 : Int32)), .val (.int c2)] []))
        refine oS (fun _ κ => XS.iload X15.here hx rfl (hb hby q8_44) rfl κ) ?_
        obtain ⟨fs, hr, hrun, hended, hW, hsame⟩ := X15.leave (v := some (.int (3 : Int32))) (fun h => by rw [Bd.returns] at h; cases h)
        refine ⟨_, _, own_retI X15 hx Bd.returns (hb hby q8_46) hr, hrun, hended, _, _, rfl, ?_, ⟨_, rfl⟩, hW, hsame.mono (by decide) (by decide)⟩
        show Q18 Z a b ka c0 c1 c2 h0 n0 _ T15.heap _
        rw [e15]
        exact ⟨(3 : Int32), rfl, N15, K17, (Or.inl ⟨rfl, V15, hc2, hc8, hc14⟩)⟩
theorem ef_19 (m : MethodId) (a : Addr) (b : Addr) : entryFrame m #[(.ref a), (.int (0 : Int32)), (.ref b), (.int (0 : Int32)), (.int (4 : Int32))] 7 = mkF m 0 #[.val (.ref a), .val (.int (0 : Int32)), .val (.ref b), .val (.int (0 : Int32)), .val (.int (4 : Int32)), .unset, .unset] [] := by first | (simp [entryFrame, mkF, argsToLocals, Value.category]; done) | rfl
def Q19 (Z : State) (a : Addr) (b : Addr) (ka : ClassId) (c0 : Int32) (c1 : Int32) (c2 : Int32) (c3 : Int32) (h0 : Heap) (n0 : Nat) (v : Option Value) (h : Heap) (L : List Loc) : Prop := ∃ u : Int32, v = some (.int u) ∧ Fr n0 L ∧ Keep h0 h [b] ∧ ((u = (4 : Int32) ∧ (own_By Z h b (4 : Int32) (own_upd (own_upd (own_upd (own_upd own_zero (0 : Int32).toNatClampNeg (own_lb c0)) (1 : Int32).toNatClampNeg (own_lb c1)) (2 : Int32).toNatClampNeg (own_lb c2)) (3 : Int32).toNatClampNeg (own_lb c3))) ∧ (¬ (255 : Int32) < c0) ∧ (¬ (255 : Int32) < c1) ∧ (¬ (255 : Int32) < c2) ∧ (¬ (255 : Int32) < c3)) ∨ (u = (0 : Int32) ∧ ((255 : Int32) < c0)) ∨ (u = (1 : Int32) ∧ ((255 : Int32) < c1)) ∨ (u = (2 : Int32) ∧ ((255 : Int32) < c2)) ∨ (u = (3 : Int32) ∧ ((255 : Int32) < c3)))
set_option maxRecDepth 65536 in
set_option maxHeartbeats 40000000 in
theorem rm19 (l : Launch) (Z : State) (a0 : Array Value) (hw : ∀ d ∈ tables_1, d.before a0 Z = true) (ws : List Jvm.Cond) (a : Addr) (b : Addr) (ka : ClassId) (c0 : Int32) (c1 : Int32) (c2 : Int32) (c3 : Int32) (h0 : Heap) (n0 : Nat) (Z0 : n0 ≤ h0.size) (P0 : Arv Z h0 a ka .char (4 : Int32) [(.int c0), (.int c1), (.int c2), (.int c3)] (.int (0 : Int32))) (P1 : own_By Z h0 b (4 : Int32) own_zero) (P2 : n0 ≤ b) (P3 : a ≠ b) :
    MetFree l own_y15 (head1 (Jvm.Cond.code own_y15 jdk_52_method_21_code 7 (some .int) :: ws) own_r0) (fun ar_ U => ar_ = #[(.ref a), (.int (0 : Int32)), (.ref b), (.int (0 : Int32)), (.int (4 : Int32))] ∧ Z.Warmed39 U.vm ∧ U.heap = h0) (fun _ _ _ _ _ => True) (fun _ U oo_ U' => ∃ v L, oo_ = .returned v ∧ Q19 Z a b ka c0 c1 c2 c3 h0 n0 v U'.heap L ∧ FrameEnd U oo_ U' L own_r0.cells own_r0.slots) := by
  refine MetFree.of_bodySF (plainFor_of_name pn_4) hisR ?_
  intro p e s m args below meth c s₁ Bd hml0 hP hK
  obtain ⟨rfl, hZ, hh⟩ := hP
  have hx := Bd.exec
  have hby := Bd.bytes
  have hml : c.maxLocals = 7 := hml0
  have hown : s.vm.findClass "java/lang/StringUTF16" = some m.cls := findClass_of_methodNamed Bd.named
  have hnm := (name_of_methodNamed Bd.named Bd.method).1
  have X0 : Stand p l e own_r0 s m #[(.ref a), (.int (0 : Int32)), (.ref b), (.int (0 : Int32)), (.int (4 : Int32))] below meth c s₁ [] 0 0 := Stand.of_body Bd
  have e0 : s₁.heap = h0 := by rw [← hh, Bd.state]; rfl
  have N0 := Fr.nil n0
  refine own_in (castTop (ef_19 m a b)) ?_
  show oG _ _ _ _ (s₁.setTop (mkF m 0 #[.val (.ref a), .val (.int (0 : Int32)), .val (.ref b), .val (.int (0 : Int32)), .val (.int (4 : Int32)), .unset, .unset] []))
  refine oS (fun _ κ => XS.iconst X0.here hx rfl (hb hby q8_0) κ) ?_
  refine oS (fun _ κ => XS.istore X0.here hx rfl (hb hby q8_1) rfl (l' := #[.val (.ref a), .val (.int (0 : Int32)), .val (.ref b), .val (.int (0 : Int32)), .val (.int (4 : Int32)), .val (.int (0 : Int32)), .unset]) rfl κ) ?_
  refine oS (fun _ κ => XS.iload X0.here hx rfl (hb hby q8_3) rfl κ) ?_
  refine oS (fun _ κ => XS.iload X0.here hx rfl (hb hby q8_5) rfl κ) ?_
  refine oS (fun _ κ => XS.icmpNo X0.here hx rfl (hb hby q8_7) rfl (tlt (by decide)).2.1 κ) ?_
  show oG _ _ _ _ (s₁.setTop (mkF m 10 #[.val (.ref a), .val (.int (0 : Int32)), .val (.ref b), .val (.int (0 : Int32)), .val (.int (4 : Int32)), .val (.int (0 : Int32)), .unset] []))
  refine oS (fun _ κ => XS.aloadN X0.here hx rfl (hb hby q8_10) rfl rfl κ) ?_
  refine oS (fun _ κ => XS.iloadN X0.here hx rfl (hb hby q8_11) rfl κ) ?_
  obtain ⟨cl1, Ar1, q1, Sz1, Nz1, Hs1, Gs1⟩ := id (P0)
  have hin1 := inb_of (j := (0 : Int32)) Sz1 ⟨by decide, by decide⟩
  have hat1 := Hs1.at (j := (0 : Int32)) hin1 rfl
  refine oS (fun _ κ => X0.caload hx (j := (0 : Int32)) (v := (.int c0)) (by rw [e0]; exact Ar1.1) (State.isArrayOf_alike hZ.alike Ar1.2.1) Ar1.2.2 hin1 hat1 (g := (mkF m 12 #[.val (.ref a), .val (.int (0 : Int32)), .val (.ref b), .val (.int (0 : Int32)), .val (.int (4 : Int32)), .val (.int (0 : Int32)), .unset] [(.int (0 : Int32)), (.ref a)])) rfl rfl (hb hby q8_12) _ κ) ?_
  show oG _ _ _ _ (s₁.setTop (mkF m 13 #[.val (.ref a), .val (.int (0 : Int32)), .val (.ref b), .val (.int (0 : Int32)), .val (.int (4 : Int32)), .val (.int (0 : Int32)), .unset] [(.int c0)]))
  refine oS (fun _ κ => XS.istore X0.here hx rfl (hb hby q8_13) rfl (l' := #[.val (.ref a), .val (.int (0 : Int32)), .val (.ref b), .val (.int (0 : Int32)), .val (.int (4 : Int32)), .val (.int (0 : Int32)), .val (.int c0)]) rfl κ) ?_
  refine oS (fun _ κ => XS.iload X0.here hx rfl (hb hby q8_15) rfl κ) ?_
  refine oS (fun _ κ => XS.sipush X0.here hx rfl (hb hby q8_17) κ) ?_
  by_cases hc2 : (255 : Int32) < c0
  · refine oS (fun _ κ => XS.icmpNo X0.here hx rfl (hb hby q8_20) rfl (tlt hc2).2.2.2 κ) ?_
    show oG _ _ _ _ (s₁.setTop (mkF m 23 #[.val (.ref a), .val (.int (0 : Int32)), .val (.ref b), .val (.int (0 : Int32)), .val (.int (4 : Int32)), .val (.int (0 : Int32)), .val (.int c0)] []))
    refine oS (fun _ κ => XS.iload X0.here hx rfl (hb hby q8_23) rfl κ) ?_
    obtain ⟨fs, hr, hrun, hended, hW, hsame⟩ := X0.leave (v := some (.int (0 : Int32))) (fun h => by rw [Bd.returns] at h; cases h)
    refine ⟨_, _, own_retI X0 hx Bd.returns (hb hby q8_25) hr, hrun, hended, _, _, rfl, ?_, ⟨_, rfl⟩, hW, hsame.mono (by decide) (by decide)⟩
    show Q19 Z a b ka c0 c1 c2 c3 h0 n0 _ s₁.heap _
    rw [e0]
    exact ⟨(0 : Int32), rfl, N0, (Keep.refl h0 [b]), (Or.inr (Or.inl ⟨rfl, hc2⟩))⟩
  · refine oS (fun _ κ => XS.icmpYes X0.here hx rfl (pc0 := 20) (pc' := 26) rfl (hb hby q8_20) rfl (flt hc2).2.2.2 (by decide) (by decide) κ) ?_
    show oG _ _ _ _ (s₁.setTop (mkF m 26 #[.val (.ref a), .val (.int (0 : Int32)), .val (.ref b), .val (.int (0 : Int32)), .val (.int (4 : Int32)), .val (.int (0 : Int32)), .val (.int c0)] []))
    refine oS (fun _ κ => XS.aloadN X0.here hx rfl (hb hby q8_26) rfl rfl κ) ?_
    refine oS (fun _ κ => XS.iloadN X0.here hx rfl (hb hby q8_27) rfl κ) ?_
    refine oS (fun _ κ => XS.iload X0.here hx rfl (hb hby q8_28) rfl κ) ?_
    refine oS (fun _ κ => XS.i2b X0.here hx rfl (hb hby q8_30) rfl κ) ?_
    show oG _ _ _ _ (s₁.setTop (mkF m 31 #[.val (.ref a), .val (.int (0 : Int32)), .val (.ref b), .val (.int (0 : Int32)), .val (.int (4 : Int32)), .val (.int (0 : Int32)), .val (.int c0)] [(.int (c0.toInt8.toInt32)), (.int (0 : Int32)), (.ref b)]))
    obtain ⟨cl3, Ar3, Sz3, Nz3, -⟩ := P1.opened
    have hin3 := inb_of (j := (0 : Int32)) Sz3 ⟨by decide, by decide⟩
    obtain ⟨T3, h3, X3, e3, W3, st3⟩ := stB X0 hx hZ e0 Ar3 (j := (0 : Int32)) hin3 (g := (mkF m 31 #[.val (.ref a), .val (.int (0 : Int32)), .val (.ref b), .val (.int (0 : Int32)), .val (.int (4 : Int32)), .val (.int (0 : Int32)), .val (.int c0)] [(.int (c0.toInt8.toInt32)), (.int (0 : Int32)), (.ref b)])) rfl rfl (hb hby q8_31)
    refine oS st3 ?_
    have N3 := Fr.snoc X3 N0 P2
    have V3 : own_By Z h3 b (4 : Int32) (own_upd own_zero (0 : Int32).toNatClampNeg (c0.toInt8.toInt32).toInt8.toInt32) := P1.set W3 ⟨by decide, by decide⟩
    have f4 := P0.other W3 P3
    have K5 : Keep h0 h3 [b] := (Keep.refl h0 [b]).wr W3 (Or.inl (List.mem_of_getElem? (i := 0) rfl))
    have z6 : n0 ≤ h3.size := Nat.le_trans Z0 (Keep.of_wr W3).1
    show oG _ _ _ _ (T3.setTop (mkF m 32 #[.val (.ref a), .val (.int (0 : Int32)), .val (.ref b), .val (.int (0 : Int32)), .val (.int (4 : Int32)), .val (.int (0 : Int32)), .val (.int c0)] []))
    refine oS (fun _ κ => XS.iinc X3.here hx rfl (hb hby q8_32) rfl (l' := #[.val (.ref a), .val (.int ((0 : Int32) + (1 : Int32))), .val (.ref b), .val (.int (0 : Int32)), .val (.int (4 : Int32)), .val (.int (0 : Int32)), .val (.int c0)]) rfl κ) ?_
    show oG _ _ _ _ (T3.setTop (mkF m 35 #[.val (.ref a), .val (.int ((0 : Int32) + (1 : Int32))), .val (.ref b), .val (.int (0 : Int32)), .val (.int (4 : Int32)), .val (.int (0 : Int32)), .val (.int c0)] []))
    rw [show (((0 : Int32) + (1 : Int32)) : Int32) = (1 : Int32) from by decide]
    show oG _ _ _ _ (T3.setTop (mkF m 35 #[.val (.ref a), .val (.int (1 : Int32)), .val (.ref b), .val (.int (0 : Int32)), .val (.int (4 : Int32)), .val (.int (0 : Int32)), .val (.int c0)] []))
    refine oS (fun _ κ => XS.iinc X3.here hx rfl (hb hby q8_35) rfl (l' := #[.val (.ref a), .val (.int (1 : Int32)), .val (.ref b), .val (.int ((0 : Int32) + (1 : Int32))), .val (.int (4 : Int32)), .val (.int (0 : Int32)), .val (.int c0)]) rfl κ) ?_
    show oG _ _ _ _ (T3.setTop (mkF m 38 #[.val (.ref a), .val (.int (1 : Int32)), .val (.ref b), .val (.int ((0 : Int32) + (1 : Int32))), .val (.int (4 : Int32)), .val (.int (0 : Int32)), .val (.int c0)] []))
    rw [show (((0 : Int32) + (1 : Int32)) : Int32) = (1 : Int32) from by decide]
    show oG _ _ _ _ (T3.setTop (mkF m 38 #[.val (.ref a), .val (.int (1 : Int32)), .val (.ref b), .val (.int (1 : Int32)), .val (.int (4 : Int32)), .val (.int (0 : Int32)), .val (.int c0)] []))
    refine oS (fun _ κ => XS.iinc X3.here hx rfl (hb hby q8_38) rfl (l' := #[.val (.ref a), .val (.int (1 : Int32)), .val (.ref b), .val (.int (1 : Int32)), .val (.int (4 : Int32)), .val (.int ((0 : Int32) + (1 : Int32))), .val (.int c0)]) rfl κ) ?_
    show oG _ _ _ _ (T3.setTop (mkF m 41 #[.val (.ref a), .val (.int (1 : Int32)), .val (.ref b), .val (.int (1 : Int32)), .val (.int (4 : Int32)), .val (.int ((0 : Int32) + (1 : Int32))), .val (.int c0)] []))
    rw [show (((0 : Int32) + (1 : Int32)) : Int32) = (1 : Int32) from by decide]
    show oG _ _ _ _ (T3.setTop (mkF m 41 #[.val (.ref a), .val (.int (1 : Int32)), .val (.ref b), .val (.int (1 : Int32)), .val (.int (4 : Int32)), .val (.int (1 : Int32)), .val (.int c0)] []))
    refine oS (fun _ κ => XS.goto X3.here hx rfl (pc0 := 41) (pc' := 3) rfl (hb hby q8_41) (by decide) (by decide) κ) ?_
    show oG _ _ _ _ (T3.setTop (mkF m 3 #[.val (.ref a), .val (.int (1 : Int32)), .val (.ref b), .val (.int (1 : Int32)), .val (.int (4 : Int32)), .val (.int (1 : Int32)), .val (.int c0)] []))
    refine oS (fun _ κ => XS.iload X3.here hx rfl (hb hby q8_3) rfl κ) ?_
    refine oS (fun _ κ => XS.iload X3.here hx rfl (hb hby q8_5) rfl κ) ?_
    refine oS (fun _ κ => XS.icmpNo X3.here hx rfl (hb hby q8_7) rfl (tlt (by decide)).2.1 κ) ?_
    show oG _ _ _ _ (T3.setTop (mkF m 10 #[.val (.ref a), .val (.int (1 : Int32)), .val (.ref b), .val (.int (1 : Int32)), .val (.int (4 : Int32)), .val (.int (1 : Int32)), .val (.int c0)] []))
    refine oS (fun _ κ => XS.aloadN X3.here hx rfl (hb hby q8_10) rfl rfl κ) ?_
    refine oS (fun _ κ => XS.iloadN X3.here hx rfl (hb hby q8_11) rfl κ) ?_
    obtain ⟨cl7, Ar7, q7, Sz7, Nz7, Hs7, Gs7⟩ := id (f4)
    have hin7 := inb_of (j := (1 : Int32)) Sz7 ⟨by decide, by decide⟩
    have hat7 := Hs7.at (j := (1 : Int32)) hin7 rfl
    refine oS (fun _ κ => X3.caload hx (j := (1 : Int32)) (v := (.int c1)) (by rw [e3]; exact Ar7.1) (State.isArrayOf_alike hZ.alike Ar7.2.1) Ar7.2.2 hin7 hat7 (g := (mkF m 12 #[.val (.ref a), .val (.int (1 : Int32)), .val (.ref b), .val (.int (1 : Int32)), .val (.int (4 : Int32)), .val (.int (1 : Int32)), .val (.int c0)] [(.int (1 : Int32)), (.ref a)])) rfl rfl (hb hby q8_12) _ κ) ?_
    show oG _ _ _ _ (T3.setTop (mkF m 13 #[.val (.ref a), .val (.int (1 : Int32)), .val (.ref b), .val (.int (1 : Int32)), .val (.int (4 : Int32)), .val (.int (1 : Int32)), .val (.int c0)] [(.int c1)]))
    refine oS (fun _ κ => XS.istore X3.here hx rfl (hb hby q8_13) rfl (l' := #[.val (.ref a), .val (.int (1 : Int32)), .val (.ref b), .val (.int (1 : Int32)), .val (.int (4 : Int32)), .val (.int (1 : Int32)), .val (.int c1)]) rfl κ) ?_
    refine oS (fun _ κ => XS.iload X3.here hx rfl (hb hby q8_15) rfl κ) ?_
    refine oS (fun _ κ => XS.sipush X3.here hx rfl (hb hby q8_17) κ) ?_
    by_cases hc8 : (255 : Int32) < c1
    · refine oS (fun _ κ => XS.icmpNo X3.here hx rfl (hb hby q8_20) rfl (tlt hc8).2.2.2 κ) ?_
      show oG _ _ _ _ (T3.setTop (mkF m 23 #[.val (.ref a), .val (.int (1 : Int32)), .val (.ref b), .val (.int (1 : Int32)), .val (.int (4 : Int32)), .val (.int (1 : Int32)), .val (.int c1)] []))
      refine oS (fun _ κ => XS.iload X3.here hx rfl (hb hby q8_23) rfl κ) ?_
      obtain ⟨fs, hr, hrun, hended, hW, hsame⟩ := X3.leave (v := some (.int (1 : Int32))) (fun h => by rw [Bd.returns] at h; cases h)
      refine ⟨_, _, own_retI X3 hx Bd.returns (hb hby q8_25) hr, hrun, hended, _, _, rfl, ?_, ⟨_, rfl⟩, hW, hsame.mono (by decide) (by decide)⟩
      show Q19 Z a b ka c0 c1 c2 c3 h0 n0 _ T3.heap _
      rw [e3]
      exact ⟨(1 : Int32), rfl, N3, K5, (Or.inr (Or.inr (Or.inl ⟨rfl, hc8⟩)))⟩
    · refine oS (fun _ κ => XS.icmpYes X3.here hx rfl (pc0 := 20) (pc' := 26) rfl (hb hby q8_20) rfl (flt hc8).2.2.2 (by decide) (by decide) κ) ?_
      show oG _ _ _ _ (T3.setTop (mkF m 26 #[.val (.ref a), .val (.int (1 : Int32)), .val (.ref b), .val (.int (1 : Int32)), .val (.int (4 : Int32)), .val (.int (1 : Int32)), .val (.int c1)] []))
      refine oS (fun _ κ => XS.aloadN X3.here hx rfl (hb hby q8_26) rfl rfl κ) ?_
      refine oS (fun _ κ => XS.iloadN X3.here hx rfl (hb hby q8_27) rfl κ) ?_
      refine oS (fun _ κ => XS.iload X3.here hx rfl (hb hby q8_28) rfl κ) ?_
      refine oS (fun _ κ => XS.i2b X3.here hx rfl (hb hby q8_30) rfl κ) ?_
      show oG _ _ _ _ (T3.setTop (mkF m 31 #[.val (.ref a), .val (.int (1 : Int32)), .val (.ref b), .val (.int (1 : Int32)), .val (.int (4 : Int32)), .val (.int (1 : Int32)), .val (.int c1)] [(.int (c1.toInt8.toInt32)), (.int (1 : Int32)), (.ref b)]))
      obtain ⟨cl9, Ar9, Sz9, Nz9, -⟩ := V3.opened
      have hin9 := inb_of (j := (1 : Int32)) Sz9 ⟨by decide, by decide⟩
      obtain ⟨T9, h9, X9, e9, W9, st9⟩ := stB X3 hx hZ e3 Ar9 (j := (1 : Int32)) hin9 (g := (mkF m 31 #[.val (.ref a), .val (.int (1 : Int32)), .val (.ref b), .val (.int (1 : Int32)), .val (.int (4 : Int32)), .val (.int (1 : Int32)), .val (.int c1)] [(.int (c1.toInt8.toInt32)), (.int (1 : Int32)), (.ref b)])) rfl rfl (hb hby q8_31)
      refine oS st9 ?_
      have N9 := Fr.snoc X9 N3 P2
      have V9 : own_By Z h9 b (4 : Int32) (own_upd (own_upd own_zero (0 : Int32).toNatClampNeg (c0.toInt8.toInt32).toInt8.toInt32) (1 : Int32).toNatClampNeg (c1.toInt8.toInt32).toInt8.toInt32) := V3.set W9 ⟨by decide, by decide⟩
      have f10 := f4.other W9 P3
      have K11 : Keep h0 h9 [b] := K5.wr W9 (Or.inl (List.mem_of_getElem? (i := 0) rfl))
      have z12 : n0 ≤ h9.size := Nat.le_trans z6 (Keep.of_wr W9).1
      show oG _ _ _ _ (T9.setTop (mkF m 32 #[.val (.ref a), .val (.int (1 : Int32)), .val (.ref b), .val (.int (1 : Int32)), .val (.int (4 : Int32)), .val (.int (1 : Int32)), .val (.int c1)] []))
      refine oS (fun _ κ => XS.iinc X9.here hx rfl (hb hby q8_32) rfl (l' := #[.val (.ref a), .val (.int ((1 : Int32) + (1 : Int32))), .val (.ref b), .val (.int (1 : Int32)), .val (.int (4 : Int32)), .val (.int (1 : Int32)), .val (.int c1)]) rfl κ) ?_
      show oG _ _ _ _ (T9.setTop (mkF m 35 #[.val (.ref a), .val (.int ((1 : Int32) + (1 : Int32))), .val (.ref b), .val (.int (1 : Int32)), .val (.int (4 : Int32)), .val (.int (1 : Int32)), .val (.int c1)] []))
      rw [show (((1 : Int32) + (1 : Int32)) : Int32) = (2 : Int32) from by decide]
      show oG _ _ _ _ (T9.setTop (mkF m 35 #[.val (.ref a), .val (.int (2 : Int32)), .val (.ref b), .val (.int (1 : Int32)), .val (.int (4 : Int32)), .val (.int (1 : Int32)), .val (.int c1)] []))
      refine oS (fun _ κ => XS.iinc X9.here hx rfl (hb hby q8_35) rfl (l' := #[.val (.ref a), .val (.int (2 : Int32)), .val (.ref b), .val (.int ((1 : Int32) + (1 : Int32))), .val (.int (4 : Int32)), .val (.int (1 : Int32)), .val (.int c1)]) rfl κ) ?_
      show oG _ _ _ _ (T9.setTop (mkF m 38 #[.val (.ref a), .val (.int (2 : Int32)), .val (.ref b), .val (.int ((1 : Int32) + (1 : Int32))), .val (.int (4 : Int32)), .val (.int (1 : Int32)), .val (.int c1)] []))
      rw [show (((1 : Int32) + (1 : Int32)) : Int32) = (2 : Int32) from by decide]
      show oG _ _ _ _ (T9.setTop (mkF m 38 #[.val (.ref a), .val (.int (2 : Int32)), .val (.ref b), .val (.int (2 : Int32)), .val (.int (4 : Int32)), .val (.int (1 : Int32)), .val (.int c1)] []))
      refine oS (fun _ κ => XS.iinc X9.here hx rfl (hb hby q8_38) rfl (l' := #[.val (.ref a), .val (.int (2 : Int32)), .val (.ref b), .val (.int (2 : Int32)), .val (.int (4 : Int32)), .val (.int ((1 : Int32) + (1 : Int32))), .val (.int c1)]) rfl κ) ?_
      show oG _ _ _ _ (T9.setTop (mkF m 41 #[.val (.ref a), .val (.int (2 : Int32)), .val (.ref b), .val (.int (2 : Int32)), .val (.int (4 : Int32)), .val (.int ((1 : Int32) + (1 : Int32))), .val (.int c1)] []))
      rw [show (((1 : Int32) + (1 : Int32)) : Int32) = (2 : Int32) from by decide]
      show oG _ _ _ _ (T9.setTop (mkF m 41 #[.val (.ref a), .val (.int (2 : Int32)), .val (.ref b), .val (.int (2 : Int32)), .val (.int (4 : Int32)), .val (.int (2 : Int32)), .val (.int c1)] []))
      refine oS (fun _ κ => XS.goto X9.here hx rfl (pc0 := 41) (pc' := 3) rfl (hb hby q8_41) (by decide) (by decide) κ) ?_
      show oG _ _ _ _ (T9.setTop (mkF m 3 #[.val (.ref a), .val (.int (2 : Int32)), .val (.ref b), .val (.int (2 : Int32)), .val (.int (4 : Int32)), .val (.int (2 : Int32)), .val (.int c1)] []))
      refine oS (fun _ κ => XS.iload X9.here hx rfl (hb hby q8_3) rfl κ) ?_
      refine oS (fun _ κ => XS.iload X9.here hx rfl (hb hby q8_5) rfl κ) ?_
      refine oS (fun _ κ => XS.icmpNo X9.here hx rfl (hb hby q8_7) rfl (tlt (by decide)).2.1 κ) ?_
      show oG _ _ _ _ (T9.setTop (mkF m 10 #[.val (.ref a), .val (.int (2 : Int32)), .val (.ref b), .val (.int (2 : Int32)), .val (.int (4 : Int32)), .val (.int (2 : Int32)), .val (.int c1)] []))
      refine oS (fun _ κ => XS.aloadN X9.here hx rfl (hb hby q8_10) rfl rfl κ) ?_
      refine oS (fun _ κ => XS.iloadN X9.here hx rfl (hb hby q8_11) rfl κ) ?_
      obtain ⟨cl13, Ar13, q13, Sz13, Nz13, Hs13, Gs13⟩ := id (f10)
      have hin13 := inb_of (j := (2 : Int32)) Sz13 ⟨by decide, by decide⟩
      have hat13 := Hs13.at (j := (2 : Int32)) hin13 rfl
      refine oS (fun _ κ => X9.caload hx (j := (2 : Int32)) (v := (.int c2)) (by rw [e9]; exact Ar13.1) (State.isArrayOf_alike hZ.alike Ar13.2.1) Ar13.2.2 hin13 hat13 (g := (mkF m 12 #[.val (.ref a), .val (.int (2 : Int32)), .val (.ref b), .val (.int (2 : Int32)), .val (.int (4 : Int32)), .val (.int (2 : Int32)), .val (.int c1)] [(.int (2 : Int32)), (.ref a)])) rfl rfl (hb hby q8_12) _ κ) ?_
      show oG _ _ _ _ (T9.setTop (mkF m 13 #[.val (.ref a), .val (.int (2 : Int32)), .val (.ref b), .val (.int (2 : Int32)), .val (.int (4 : Int32)), .val (.int (2 : Int32)), .val (.int c1)] [(.int c2)]))
      refine oS (fun _ κ => XS.istore X9.here hx rfl (hb hby q8_13) rfl (l' := #[.val (.ref a), .val (.int (2 : Int32)), .val (.ref b), .val (.int (2 : Int32)), .val (.int (4 : Int32)), .val (.int (2 : Int32)), .val (.int c2)]) rfl κ) ?_
      refine oS (fun _ κ => XS.iload X9.here hx rfl (hb hby q8_15) rfl κ) ?_
      refine oS (fun _ κ => XS.sipush X9.here hx rfl (hb hby q8_17) κ) ?_
      by_cases hc14 : (255 : Int32) < c2
      · refine oS (fun _ κ => XS.icmpNo X9.here hx rfl (hb hby q8_20) rfl (tlt hc14).2.2.2 κ) ?_
        show oG _ _ _ _ (T9.setTop (mkF m 23 #[.val (.ref a), .val (.int (2 : Int32)), .val (.ref b), .val (.int (2 : Int32)), .val (.int (4 : Int32)), .val (.int (2 : Int32)), .val (.int c2)] []))
        refine oS (fun _ κ => XS.iload X9.here hx rfl (hb hby q8_23) rfl κ) ?_
        obtain ⟨fs, hr, hrun, hended, hW, hsame⟩ := X9.leave (v := some (.int (2 : Int32))) (fun h => by rw [Bd.returns] at h; cases h)
        refine ⟨_, _, own_retI X9 hx Bd.returns (hb hby q8_25) hr, hrun, hended, _, _, rfl, ?_, ⟨_, rfl⟩, hW, hsame.mono (by decide) (by decide)⟩
        show Q19 Z a b ka c0 c1 c2 c3 h0 n0 _ T9.heap _
        rw [e9]
        exact ⟨(2 : Int32), rfl, N9, K11, (Or.inr (Or.inr (Or.inr (Or.inl ⟨rfl, hc14⟩))))⟩
      · refine oS (fun _ κ => XS.icmpYes X9.here hx rfl (pc0 := 20) (pc' := 26) rfl (hb hby q8_20) rfl (flt hc14).2.2.2 (by decide) (by decide) κ) ?_
        show oG _ _ _ _ (T9.setTop (mkF m 26 #[.val (.ref a), .val (.int (2 : Int32)), .val (.ref b), .val (.int (2 : Int32)), .val (.int (4 : Int32)), .val (.int (2 : Int32)), .val (.int c2)] []))
        refine oS (fun _ κ => XS.aloadN X9.here hx rfl (hb hby q8_26) rfl rfl κ) ?_
        refine oS (fun _ κ => XS.iloadN X9.here hx rfl (hb hby q8_27) rfl κ) ?_
        refine oS (fun _ κ => XS.iload X9.here hx rfl (hb hby q8_28) rfl κ) ?_
        refine oS (fun _ κ => XS.i2b X9.here hx rfl (hb hby q8_30) rfl κ) ?_
        show oG _ _ _ _ (T9.setTop (mkF m 31 #[.val (.ref a), .val (.int (2 : Int32)), .val (.ref b), .val (.int (2 : Int32)), .val (.int (4 : Int32)), .val (.int (2 : Int32)), .val (.int c2)] [(.int (c2.toInt8.toInt32)), (.int (2 : Int32)), (.ref b)]))
        obtain ⟨cl15, Ar15, Sz15, Nz15, -⟩ := V9.opened
        have hin15 := inb_of (j := (2 : Int32)) Sz15 ⟨by decide, by decide⟩
        obtain ⟨T15, h15, X15, e15, W15, st15⟩ := stB X9 hx hZ e9 Ar15 (j := (2 : Int32)) hin15 (g := (mkF m 31 #[.val (.ref a), .val (.int (2 : Int32)), .val (.ref b), .val (.int (2 : Int32)), .val (.int (4 : Int32)), .val (.int (2 : Int32)), .val (.int c2)] [(.int (c2.toInt8.toInt32)), (.int (2 : Int32)), (.ref b)])) rfl rfl (hb hby q8_31)
        refine oS st15 ?_
        have N15 := Fr.snoc X15 N9 P2
        have V15 : own_By Z h15 b (4 : Int32) (own_upd (own_upd (own_upd own_zero (0 : Int32).toNatClampNeg (c0.toInt8.toInt32).toInt8.toInt32) (1 : Int32).toNatClampNeg (c1.toInt8.toInt32).toInt8.toInt32) (2 : Int32).toNatClampNeg (c2.toInt8.toInt32).toInt8.toInt32) := V9.set W15 ⟨by decide, by decide⟩
        have f16 := f10.other W15 P3
        have K17 : Keep h0 h15 [b] := K11.wr W15 (Or.inl (List.mem_of_getElem? (i := 0) rfl))
        have z18 : n0 ≤ h15.size := Nat.le_trans z12 (Keep.of_wr W15).1
        show oG _ _ _ _ (T15.setTop (mkF m 32 #[.val (.ref a), .val (.int (2 : Int32)), .val (.ref b), .val (.int (2 : Int32)), .val (.int (4 : Int32)), .val (.int (2 : Int32)), .val (.int c2)] []))
        refine oS (fun _ κ => XS.iinc X15.here hx rfl (hb hby q8_32) rfl (l' := #[.val (.ref a), .val (.int ((2 : Int32) + (1 : Int32))), .val (.ref b), .val (.int (2 : Int32)), .val (.int (4 : Int32)), .val (.int (2 : Int32)), .val (.int c2)]) rfl κ) ?_
        show oG _ _ _ _ (T15.setTop (mkF m 35 #[.val (.ref a), .val (.int ((2 : Int32) + (1 : Int32))), .val (.ref b), .val (.int (2 : Int32)), .val (.int (4 : Int32)), .val (.int (2 : Int32)), .val (.int c2)] []))
        rw [show (((2 : Int32) + (1 : Int32)) : Int32) = (3 : Int32) from by decide]
        show oG _ _ _ _ (T15.setTop (mkF m 35 #[.val (.ref a), .val (.int (3 : Int32)), .val (.ref b), .val (.int (2 : Int32)), .val (.int (4 : Int32)), .val (.int (2 : Int32)), .val (.int c2)] []))
        refine oS (fun _ κ => XS.iinc X15.here hx rfl (hb hby q8_35) rfl (l' := #[.val (.ref a), .val (.int (3 : Int32)), .val (.ref b), .val (.int ((2 : Int32) + (1 : Int32))), .val (.int (4 : Int32)), .val (.int (2 : Int32)), .val (.int c2)]) rfl κ) ?_
        show oG _ _ _ _ (T15.setTop (mkF m 38 #[.val (.ref a), .val (.int (3 : Int32)), .val (.ref b), .val (.int ((2 : Int32) + (1 : Int32))), .val (.int (4 : Int32)), .val (.int (2 : Int32)), .val (.int c2)] []))
        rw [show (((2 : Int32) + (1 : Int32)) : Int32) = (3 : Int32) from by decide]
        show oG _ _ _ _ (T15.setTop (mkF m 38 #[.val (.ref a), .val (.int (3 : Int32)), .val (.ref b), .val (.int (3 : Int32)), .val (.int (4 : Int32)), .val (.int (2 : Int32)), .val (.int c2)] []))
        refine oS (fun _ κ => XS.iinc X15.here hx rfl (hb hby q8_38) rfl (l' := #[.val (.ref a), .val (.int (3 : Int32)), .val (.ref b), .val (.int (3 : Int32)), .val (.int (4 : Int32)), .val (.int ((2 : Int32) + (1 : Int32))), .val (.int c2)]) rfl κ) ?_
        show oG _ _ _ _ (T15.setTop (mkF m 41 #[.val (.ref a), .val (.int (3 : Int32)), .val (.ref b), .val (.int (3 : Int32)), .val (.int (4 : Int32)), .val (.int ((2 : Int32) + (1 : Int32))), .val (.int c2)] []))
        rw [show (((2 : Int32) + (1 : Int32)) : Int32) = (3 : Int32) from by decide]
        show oG _ _ _ _ (T15.setTop (mkF m 41 #[.val (.ref a), .val (.int (3 : Int32)), .val (.ref b), .val (.int (3 : Int32)), .val (.int (4 : Int32)), .val (.int (3 : Int32)), .val (.int c2)] []))
        refine oS (fun _ κ => XS.goto X15.here hx rfl (pc0 := 41) (pc' := 3) rfl (hb hby q8_41) (by decide) (by decide) κ) ?_
        show oG _ _ _ _ (T15.setTop (mkF m 3 #[.val (.ref a), .val (.int (3 : Int32)), .val (.ref b), .val (.int (3 : Int32)), .val (.int (4 : Int32)), .val (.int (3 : Int32)), .val (.int c2)] []))
        refine oS (fun _ κ => XS.iload X15.here hx rfl (hb hby q8_3) rfl κ) ?_
        refine oS (fun _ κ => XS.iload X15.here hx rfl (hb hby q8_5) rfl κ) ?_
        refine oS (fun _ κ => XS.icmpNo X15.here hx rfl (hb hby q8_7) rfl (tlt (by decide)).2.1 κ) ?_
        show oG _ _ _ _ (T15.setTop (mkF m 10 #[.val (.ref a), .val (.int (3 : Int32)), .val (.ref b), .val (.int (3 : Int32)), .val (.int (4 : Int32)), .val (.int (3 : Int32)), .val (.int c2)] []))
        refine oS (fun _ κ => XS.aloadN X15.here hx rfl (hb hby q8_10) rfl rfl κ) ?_
        refine oS (fun _ κ => XS.iloadN X15.here hx rfl (hb hby q8_11) rfl κ) ?_
        obtain ⟨cl19, Ar19, q19, Sz19, Nz19, Hs19, Gs19⟩ := id (f16)
        have hin19 := inb_of (j := (3 : Int32)) Sz19 ⟨by decide, by decide⟩
        have hat19 := Hs19.at (j := (3 : Int32)) hin19 rfl
        refine oS (fun _ κ => X15.caload hx (j := (3 : Int32)) (v := (.int c3)) (by rw [e15]; exact Ar19.1) (State.isArrayOf_alike hZ.alike Ar19.2.1) Ar19.2.2 hin19 hat19 (g := (mkF m 12 #[.val (.ref a), .val (.int (3 : Int32)), .val (.ref b), .val (.int (3 : Int32)), .val (.int (4 : Int32)), .val (.int (3 : Int32)), .val (.int c2)] [(.int (3 : Int32)), (.ref a)])) rfl rfl (hb hby q8_12) _ κ) ?_
        show oG _ _ _ _ (T15.setTop (mkF m 13 #[.val (.ref a), .val (.int (3 : Int32)), .val (.ref b), .val (.int (3 : Int32)), .val (.int (4 : Int32)), .val (.int (3 : Int32)), .val (.int c2)] [(.int c3)]))
        refine oS (fun _ κ => XS.istore X15.here hx rfl (hb hby q8_13) rfl (l' := #[.val (.ref a), .val (.int (3 : Int32)), .val (.ref b), .val (.int (3 : Int32)), .val (.int (4 : Int32)), .val (.int (3 : Int32)), .val (.int c3)]) rfl κ) ?_
        refine oS (fun _ κ => XS.iload X15.here hx rfl (hb hby q8_15) rfl κ) ?_
        refine oS (fun _ κ => XS.sipush X15.here hx rfl (hb hby q8_17) κ) ?_
        by_cases hc20 : (255 : Int32) < c3
        · refine oS (fun _ κ => XS.icmpNo X15.here hx rfl (hb hby q8_20) rfl (tlt hc20).2.2.2 κ) ?_
          show oG _ _ _ _ (T15.setTop (mkF m 23 #[.val (.ref a), .val (.int (3 : Int32)), .val (.ref b), .val (.int (3 : Int32)), .val (.int (4 : Int32)), .val (.int (3 : Int32)), .val (.int c3)] []))
          refine oS (fun _ κ => XS.iload X15.here hx rfl (hb hby q8_23) rfl κ) ?_
          obtain ⟨fs, hr, hrun, hended, hW, hsame⟩ := X15.leave (v := some (.int (3 : Int32))) (fun h => by rw [Bd.returns] at h; cases h)
          refine ⟨_, _, own_retI X15 hx Bd.returns (hb hby q8_25) hr, hrun, hended, _, _, rfl, ?_, ⟨_, rfl⟩, hW, hsame.mono (by decide) (by decide)⟩
          show Q19 Z a b ka c0 c1 c2 c3 h0 n0 _ T15.heap _
          rw [e15]
          exact ⟨(3 : Int32), rfl, N15, K17, (Or.inr (Or.inr (Or.inr (Or.inr ⟨rfl, hc20⟩))))⟩
        · refine oS (fun _ κ => XS.icmpYes X15.here hx rfl (pc0 := 20) (pc' := 26) rfl (hb hby q8_20) rfl (flt hc20).2.2.2 (by decide) (by decide) κ) ?_
          show oG _ _ _ _ (T15.setTop (mkF m 26 #[.val (.ref a), .val (.int (3 : Int32)), .val (.ref b), .val (.int (3 : Int32)), .val (.int (4 : Int32)), .val (.int (3 : Int32)), .val (.int c3)] []))
          refine oS (fun _ κ => XS.aloadN X15.here hx rfl (hb hby q8_26) rfl rfl κ) ?_
          refine oS (fun _ κ => XS.iloadN X15.here hx rfl (hb hby q8_27) rfl κ) ?_
          refine oS (fun _ κ => XS.iload X15.here hx rfl (hb hby q8_28) rfl κ) ?_
          refine oS (fun _ κ => XS.i2b X15.here hx rfl (hb hby q8_30) rfl κ) ?_
          show oG _ _ _ _ (T15.setTop (mkF m 31 #[.val (.ref a), .val (.int (3 : Int32)), .val (.ref b), .val (.int (3 : Int32)), .val (.int (4 : Int32)), .val (.int (3 : Int32)), .val (.int c3)] [(.int (c3.toInt8.toInt32)), (.int (3 : Int32)), (.ref b)]))
          obtain ⟨cl21, Ar21, Sz21, Nz21, -⟩ := V15.opened
          have hin21 := inb_of (j := (3 : Int32)) Sz21 ⟨by decide, by decide⟩
          obtain ⟨T21, h21, X21, e21, W21, st21⟩ := stB X15 hx hZ e15 Ar21 (j := (3 : Int32)) hin21 (g := (mkF m 31 #[.val (.ref a), .val (.int (3 : Int32)), .val (.ref b), .val (.int (3 : Int32)), .val (.int (4 : Int32)), .val (.int (3 : Int32)), .val (.int c3)] [(.int (c3.toInt8.toInt32)), (.int (3 : Int32)), (.ref b)])) rfl rfl (hb hby q8_31)
          refine oS st21 ?_
          have N21 := Fr.snoc X21 N15 P2
          have V21 : own_By Z h21 b (4 : Int32) (own_upd (own_upd (own_upd (own_upd own_zero (0 : Int32).toNatClampNeg (c0.toInt8.toInt32).toInt8.toInt32) (1 : Int32).toNatClampNeg (c1.toInt8.toInt32).toInt8.toInt32) (2 : Int32).toNatClampNeg (c2.toInt8.toInt32).toInt8.toInt32) (3 : Int32).toNatClampNeg (c3.toInt8.toInt32).toInt8.toInt32) := V15.set W21 ⟨by decide, by decide⟩
          have f22 := f16.other W21 P3
          have K23 : Keep h0 h21 [b] := K17.wr W21 (Or.inl (List.mem_of_getElem? (i := 0) rfl))
          have z24 : n0 ≤ h21.size := Nat.le_trans z18 (Keep.of_wr W21).1
          show oG _ _ _ _ (T21.setTop (mkF m 32 #[.val (.ref a), .val (.int (3 : Int32)), .val (.ref b), .val (.int (3 : Int32)), .val (.int (4 : Int32)), .val (.int (3 : Int32)), .val (.int c3)] []))
          refine oS (fun _ κ => XS.iinc X21.here hx rfl (hb hby q8_32) rfl (l' := #[.val (.ref a), .val (.int ((3 : Int32) + (1 : Int32))), .val (.ref b), .val (.int (3 : Int32)), .val (.int (4 : Int32)), .val (.int (3 : Int32)), .val (.int c3)]) rfl κ) ?_
          show oG _ _ _ _ (T21.setTop (mkF m 35 #[.val (.ref a), .val (.int ((3 : Int32) + (1 : Int32))), .val (.ref b), .val (.int (3 : Int32)), .val (.int (4 : Int32)), .val (.int (3 : Int32)), .val (.int c3)] []))
          rw [show (((3 : Int32) + (1 : Int32)) : Int32) = (4 : Int32) from by decide]
          show oG _ _ _ _ (T21.setTop (mkF m 35 #[.val (.ref a), .val (.int (4 : Int32)), .val (.ref b), .val (.int (3 : Int32)), .val (.int (4 : Int32)), .val (.int (3 : Int32)), .val (.int c3)] []))
          refine oS (fun _ κ => XS.iinc X21.here hx rfl (hb hby q8_35) rfl (l' := #[.val (.ref a), .val (.int (4 : Int32)), .val (.ref b), .val (.int ((3 : Int32) + (1 : Int32))), .val (.int (4 : Int32)), .val (.int (3 : Int32)), .val (.int c3)]) rfl κ) ?_
          show oG _ _ _ _ (T21.setTop (mkF m 38 #[.val (.ref a), .val (.int (4 : Int32)), .val (.ref b), .val (.int ((3 : Int32) + (1 : Int32))), .val (.int (4 : Int32)), .val (.int (3 : Int32)), .val (.int c3)] []))
          rw [show (((3 : Int32) + (1 : Int32)) : Int32) = (4 : Int32) from by decide]
          show oG _ _ _ _ (T21.setTop (mkF m 38 #[.val (.ref a), .val (.int (4 : Int32)), .val (.ref b), .val (.int (4 : Int32)), .val (.int (4 : Int32)), .val (.int (3 : Int32)), .val (.int c3)] []))
          refine oS (fun _ κ => XS.iinc X21.here hx rfl (hb hby q8_38) rfl (l' := #[.val (.ref a), .val (.int (4 : Int32)), .val (.ref b), .val (.int (4 : Int32)), .val (.int (4 : Int32)), .val (.int ((3 : Int32) + (1 : Int32))), .val (.int c3)]) rfl κ) ?_
          show oG _ _ _ _ (T21.setTop (mkF m 41 #[.val (.ref a), .val (.int (4 : Int32)), .val (.ref b), .val (.int (4 : Int32)), .val (.int (4 : Int32)), .val (.int ((3 : Int32) + (1 : Int32))), .val (.int c3)] []))
          rw [show (((3 : Int32) + (1 : Int32)) : Int32) = (4 : Int32) from by decide]
          show oG _ _ _ _ (T21.setTop (mkF m 41 #[.val (.ref a), .val (.int (4 : Int32)), .val (.ref b), .val (.int (4 : Int32)), .val (.int (4 : Int32)), .val (.int (4 : Int32)), .val (.int c3)] []))
          refine oS (fun _ κ => XS.goto X21.here hx rfl (pc0 := 41) (pc' := 3) rfl (hb hby q8_41) (by decide) (by decide) κ) ?_
          show oG _ _ _ _ (T21.setTop (mkF m 3 #[.val (.ref a), .val (.int (4 : Int32)), .val (.ref b), .val (.int (4 : Int32)), .val (.int (4 : Int32)), .val (.int (4 : Int32)), .val (.int c3)] []))
          refine oS (fun _ κ => XS.iload X21.here hx rfl (hb hby q8_3) rfl κ) ?_
          refine oS (fun _ κ => XS.iload X21.here hx rfl (hb hby q8_5) rfl κ) ?_
          refine oS (fun _ κ => XS.icmpYes X21.here hx rfl (pc0 := 7) (pc' := 44) rfl (hb hby q8_7) rfl (flt (by decide)).2.1 (by decide) (by decide) κ) ?_
          show oG _ _ _ _ (T21.setTop (mkF m 44 #[.val (.ref a), .val (.int (4 : Int32)), .val (.ref b), .val (.int (4 : Int32)), .val (.int (4 : Int32)), .val (.int (4 : Int32)), .val (.int c3)] []))
          refine oS (fun _ κ => XS.iload X21.here hx rfl (hb hby q8_44) rfl κ) ?_
          obtain ⟨fs, hr, hrun, hended, hW, hsame⟩ := X21.leave (v := some (.int (4 : Int32))) (fun h => by rw [Bd.returns] at h; cases h)
          refine ⟨_, _, own_retI X21 hx Bd.returns (hb hby q8_46) hr, hrun, hended, _, _, rfl, ?_, ⟨_, rfl⟩, hW, hsame.mono (by decide) (by decide)⟩
          show Q19 Z a b ka c0 c1 c2 c3 h0 n0 _ T21.heap _
          rw [e21]
          exact ⟨(4 : Int32), rfl, N21, K23, (Or.inl ⟨rfl, V21, hc2, hc8, hc14, hc20⟩)⟩
theorem ef_20 (m : MethodId) (b : Addr) (pi : Int32) (pc : Int32) : entryFrame m #[(.ref b), (.int pi), (.int pc)] 3 = mkF m 0 #[.val (.ref b), .val (.int pi), .val (.int pc)] [] := by first | (simp [entryFrame, mkF, argsToLocals, Value.category]; done) | rfl
def Q20 (Z : State) (b : Addr) (pi : Int32) (pc : Int32) (n : Int32) (f : Nat → Int32) (j0 : Nat) (h0 : Heap) (n0 : Nat) (v : Option Value) (h : Heap) (L : List Loc) : Prop := v = none ∧ Fr n0 L ∧ Keep h0 h [b] ∧ (own_By Z h b n (own_upd (own_upd f j0 (own_bl pc)) (j0 + 1) (own_bh pc)))
set_option maxRecDepth 65536 in
set_option maxHeartbeats 40000000 in
theorem rm20 (l : Launch) (Z : State) (a0 : Array Value) (hw : ∀ d ∈ tables_1, d.before a0 Z = true) (ws : List Jvm.Cond) (b : Addr) (pi : Int32) (pc : Int32) (n : Int32) (f : Nat → Int32) (j0 : Nat) (h0 : Heap) (n0 : Nat) (Z0 : n0 ≤ h0.size) (P0 : own_By Z h0 b n f) (P1 : n0 ≤ b) (P2 : Old Z n0 h0) (P3 : Sta Z Z.heap "java/lang/StringUTF16" "$assertionsDisabled" "Z" (.int (1 : Int32))) (P4 : Sta Z Z.heap "java/lang/StringUTF16" "HI_BYTE_SHIFT" "I" (.int (0 : Int32))) (P5 : Sta Z Z.heap "java/lang/StringUTF16" "LO_BYTE_SHIFT" "I" (.int (8 : Int32))) (P6 : ¬ (pi <<< ((1 : Int32) &&& 31)) < (0 : Int32) ∧ (pi <<< ((1 : Int32) &&& 31)) < n) (P7 : ¬ ((pi <<< ((1 : Int32) &&& 31)) + (1 : Int32)) < (0 : Int32) ∧ ((pi <<< ((1 : Int32) &&& 31)) + (1 : Int32)) < n) (P8 : (pi <<< ((1 : Int32) &&& 31)).toNatClampNeg = j0) (P9 : ((pi <<< ((1 : Int32) &&& 31)) + (1 : Int32)).toNatClampNeg = j0 + 1) :
    MetFree l own_y20 (head1 (Jvm.Cond.code own_y20 jdk_52_method_4_code 3 none :: ws) own_r0) (fun ar_ U => ar_ = #[(.ref b), (.int pi), (.int pc)] ∧ Z.Warmed39 U.vm ∧ U.heap = h0) (fun _ _ _ _ _ => True) (fun _ U oo_ U' => ∃ v L, oo_ = .returned v ∧ Q20 Z b pi pc n f j0 h0 n0 v U'.heap L ∧ FrameEnd U oo_ U' L own_r0.cells own_r0.slots) := by
  refine MetFree.of_bodySF (plainFor_of_name pn_4) hisR ?_
  intro p e s m args below meth c s₁ Bd hml0 hP hK
  obtain ⟨rfl, hZ, hh⟩ := hP
  have hx := Bd.exec
  have hby := Bd.bytes
  have hml : c.maxLocals = 3 := hml0
  have hown : s.vm.findClass "java/lang/StringUTF16" = some m.cls := findClass_of_methodNamed Bd.named
  have hnm := (name_of_methodNamed Bd.named Bd.method).1
  have X0 : Stand p l e own_r0 s m #[(.ref b), (.int pi), (.int pc)] below meth c s₁ [] 0 0 := Stand.of_body Bd
  have e0 : s₁.heap = h0 := by rw [← hh, Bd.state]; rfl
  have N0 := Fr.nil n0
  refine own_in (castTop (ef_20 m b pi pc)) ?_
  show oG _ _ _ _ (s₁.setTop (mkF m 0 #[.val (.ref b), .val (.int pi), .val (.int pc)] []))
  obtain ⟨T1, X1, e1, st1⟩ := getS2 X0 hx hZ hown (host := "") (Or.inl (own_w hw 90 rfl)) Via.refl e0 (P3.ext P2.2) (g := (mkF m 0 #[.val (.ref b), .val (.int pi), .val (.int pc)] [])) rfl (hb hby q19_0)
  refine oS st1 ?_
  show oG _ _ _ _ (T1.setTop (mkF m 3 #[.val (.ref b), .val (.int pi), .val (.int pc)] [(.int (1 : Int32))]))
  refine oS (fun _ κ => XS.ifYes X1.here hx rfl (pc0 := 3) (pc' := 28) rfl (hb hby q19_3) rfl ((if0 _ _).trans (feq (by decide)).2) (by decide) (by decide) κ) ?_
  show oG _ _ _ _ (T1.setTop (mkF m 28 #[.val (.ref b), .val (.int pi), .val (.int pc)] []))
  refine oS (fun _ κ => XS.iloadN X1.here hx rfl (hb hby q19_28) rfl κ) ?_
  refine oS (fun _ κ => XS.iconst X1.here hx rfl (hb hby q19_29) κ) ?_
  refine oS (fun _ κ => XS.ishl X1.here hx rfl (hb hby q19_30) rfl κ) ?_
  show oG _ _ _ _ (T1.setTop (mkF m 31 #[.val (.ref b), .val (.int pi), .val (.int pc)] [(.int (pi <<< ((1 : Int32) &&& 31)))]))
  refine oS (fun _ κ => XS.istoreN X1.here hx rfl (hb hby q19_31) rfl (l' := #[.val (.ref b), .val (.int (pi <<< ((1 : Int32) &&& 31))), .val (.int pc)]) rfl κ) ?_
  refine oS (fun _ κ => XS.aloadN X1.here hx rfl (hb hby q19_32) rfl rfl κ) ?_
  refine oS (fun _ κ => XS.iloadN X1.here hx rfl (hb hby q19_33) rfl κ) ?_
  refine oS (fun _ κ => XS.iinc X1.here hx rfl (hb hby q19_34) rfl (l' := #[.val (.ref b), .val (.int ((pi <<< ((1 : Int32) &&& 31)) + (1 : Int32))), .val (.int pc)]) rfl κ) ?_
  show oG _ _ _ _ (T1.setTop (mkF m 37 #[.val (.ref b), .val (.int ((pi <<< ((1 : Int32) &&& 31)) + (1 : Int32))), .val (.int pc)] [(.int (pi <<< ((1 : Int32) &&& 31))), (.ref b)]))
  refine oS (fun _ κ => XS.iloadN X1.here hx rfl (hb hby q19_37) rfl κ) ?_
  obtain ⟨T2, X2, e2, st2⟩ := getS2 X1 hx hZ hown (host := "") (Or.inl (own_w hw 91 rfl)) Via.refl e1 (P4.ext P2.2) (g := (mkF m 38 #[.val (.ref b), .val (.int ((pi <<< ((1 : Int32) &&& 31)) + (1 : Int32))), .val (.int pc)] [(.int pc), (.int (pi <<< ((1 : Int32) &&& 31))), (.ref b)])) rfl (hb hby q19_38)
  refine oS st2 ?_
  show oG _ _ _ _ (T2.setTop (mkF m 41 #[.val (.ref b), .val (.int ((pi <<< ((1 : Int32) &&& 31)) + (1 : Int32))), .val (.int pc)] [(.int (0 : Int32)), (.int pc), (.int (pi <<< ((1 : Int32) &&& 31))), (.ref b)]))
  refine oS (fun _ κ => XS.ishr X2.here hx rfl (hb hby q19_41) rfl κ) ?_
  show oG _ _ _ _ (T2.setTop (mkF m 42 #[.val (.ref b), .val (.int ((pi <<< ((1 : Int32) &&& 31)) + (1 : Int32))), .val (.int pc)] [(.int (pc >>> ((0 : Int32) &&& 31))), (.int (pi <<< ((1 : Int32) &&& 31))), (.ref b)]))
  refine oS (fun _ κ => XS.i2b X2.here hx rfl (hb hby q19_42) rfl κ) ?_
  show oG _ _ _ _ (T2.setTop (mkF m 43 #[.val (.ref b), .val (.int ((pi <<< ((1 : Int32) &&& 31)) + (1 : Int32))), .val (.int pc)] [(.int ((pc >>> ((0 : Int32) &&& 31)).toInt8.toInt32)), (.int (pi <<< ((1 : Int32) &&& 31))), (.ref b)]))
  obtain ⟨cl3, Ar3, Sz3, Nz3, -⟩ := P0.opened
  have hin3 := inb_of (j := (pi <<< ((1 : Int32) &&& 31))) Sz3 P6
  obtain ⟨T3, h3, X3, e3, W3, st3⟩ := stB X2 hx hZ e2 Ar3 (j := (pi <<< ((1 : Int32) &&& 31))) hin3 (g := (mkF m 43 #[.val (.ref b), .val (.int ((pi <<< ((1 : Int32) &&& 31)) + (1 : Int32))), .val (.int pc)] [(.int ((pc >>> ((0 : Int32) &&& 31)).toInt8.toInt32)), (.int (pi <<< ((1 : Int32) &&& 31))), (.ref b)])) rfl rfl (hb hby q19_43)
  refine oS st3 ?_
  have N3 := Fr.snoc X3 N0 P1
  have V3 : own_By Z h3 b n (own_upd f (pi <<< ((1 : Int32) &&& 31)).toNatClampNeg ((pc >>> ((0 : Int32) &&& 31)).toInt8.toInt32).toInt8.toInt32) := P0.set W3 P6
  have f4 := P2.wr W3 P1
  have K5 : Keep h0 h3 [b] := (Keep.refl h0 [b]).wr W3 (Or.inl (List.mem_of_getElem? (i := 0) rfl))
  have z6 : n0 ≤ h3.size := Nat.le_trans Z0 (Keep.of_wr W3).1
  show oG _ _ _ _ (T3.setTop (mkF m 44 #[.val (.ref b), .val (.int ((pi <<< ((1 : Int32) &&& 31)) + (1 : Int32))), .val (.int pc)] []))
  refine oS (fun _ κ => XS.aloadN X3.here hx rfl (hb hby q19_44) rfl rfl κ) ?_
  refine oS (fun _ κ => XS.iloadN X3.here hx rfl (hb hby q19_45) rfl κ) ?_
  refine oS (fun _ κ => XS.iloadN X3.here hx rfl (hb hby q19_46) rfl κ) ?_
  obtain ⟨T7, X7, e7, st7⟩ := getS2 X3 hx hZ hown (host := "") (Or.inl (own_w hw 92 rfl)) Via.refl e3 (P5.ext f4.2) (g := (mkF m 47 #[.val (.ref b), .val (.int ((pi <<< ((1 : Int32) &&& 31)) + (1 : Int32))), .val (.int pc)] [(.int pc), (.int ((pi <<< ((1 : Int32) &&& 31)) + (1 : Int32))), (.ref b)])) rfl (hb hby q19_47)
  refine oS st7 ?_
  show oG _ _ _ _ (T7.setTop (mkF m 50 #[.val (.ref b), .val (.int ((pi <<< ((1 : Int32) &&& 31)) + (1 : Int32))), .val (.int pc)] [(.int (8 : Int32)), (.int pc), (.int ((pi <<< ((1 : Int32) &&& 31)) + (1 : Int32))), (.ref b)]))
  refine oS (fun _ κ => XS.ishr X7.here hx rfl (hb hby q19_50) rfl κ) ?_
  show oG _ _ _ _ (T7.setTop (mkF m 51 #[.val (.ref b), .val (.int ((pi <<< ((1 : Int32) &&& 31)) + (1 : Int32))), .val (.int pc)] [(.int (pc >>> ((8 : Int32) &&& 31))), (.int ((pi <<< ((1 : Int32) &&& 31)) + (1 : Int32))), (.ref b)]))
  refine oS (fun _ κ => XS.i2b X7.here hx rfl (hb hby q19_51) rfl κ) ?_
  show oG _ _ _ _ (T7.setTop (mkF m 52 #[.val (.ref b), .val (.int ((pi <<< ((1 : Int32) &&& 31)) + (1 : Int32))), .val (.int pc)] [(.int ((pc >>> ((8 : Int32) &&& 31)).toInt8.toInt32)), (.int ((pi <<< ((1 : Int32) &&& 31)) + (1 : Int32))), (.ref b)]))
  obtain ⟨cl8, Ar8, Sz8, Nz8, -⟩ := V3.opened
  have hin8 := inb_of (j := ((pi <<< ((1 : Int32) &&& 31)) + (1 : Int32))) Sz8 P7
  obtain ⟨T8, h8, X8, e8, W8, st8⟩ := stB X7 hx hZ e7 Ar8 (j := ((pi <<< ((1 : Int32) &&& 31)) + (1 : Int32))) hin8 (g := (mkF m 52 #[.val (.ref b), .val (.int ((pi <<< ((1 : Int32) &&& 31)) + (1 : Int32))), .val (.int pc)] [(.int ((pc >>> ((8 : Int32) &&& 31)).toInt8.toInt32)), (.int ((pi <<< ((1 : Int32) &&& 31)) + (1 : Int32))), (.ref b)])) rfl rfl (hb hby q19_52)
  refine oS st8 ?_
  have N8 := Fr.snoc X8 N3 P1
  have V8 : own_By Z h8 b n (own_upd (own_upd f (pi <<< ((1 : Int32) &&& 31)).toNatClampNeg ((pc >>> ((0 : Int32) &&& 31)).toInt8.toInt32).toInt8.toInt32) ((pi <<< ((1 : Int32) &&& 31)) + (1 : Int32)).toNatClampNeg ((pc >>> ((8 : Int32) &&& 31)).toInt8.toInt32).toInt8.toInt32) := V3.set W8 P7
  have f9 := f4.wr W8 P1
  have K10 : Keep h0 h8 [b] := K5.wr W8 (Or.inl (List.mem_of_getElem? (i := 0) rfl))
  have z11 : n0 ≤ h8.size := Nat.le_trans z6 (Keep.of_wr W8).1
  show oG _ _ _ _ (T8.setTop (mkF m 53 #[.val (.ref b), .val (.int ((pi <<< ((1 : Int32) &&& 31)) + (1 : Int32))), .val (.int pc)] []))
  obtain ⟨fs, hr, hrun, hended, hW, hsame⟩ := X8.leave (v := none) (fun _ => rfl)
  refine ⟨_, _, X8.returnOut hx Bd.returns (hb hby q19_53) hr, hrun, hended, _, _, rfl, ?_, ⟨_, rfl⟩, hW, hsame.mono (by decide) (by decide)⟩
  show Q20 Z b pi pc n f j0 h0 n0 _ T8.heap _
  rw [e8]
  exact ⟨rfl, N8, K10, by have q := V8; rw [P8, P9] at q; exact q⟩
theorem ef_21 (m : MethodId)  : entryFrame m #[(.int (1 : Int32))] 1 = mkF m 0 #[.val (.int (1 : Int32))] [] := by first | (simp [entryFrame, mkF, argsToLocals, Value.category]; done) | rfl
def Q21 (Z : State)  (h0 : Heap) (n0 : Nat) (v : Option Value) (h : Heap) (L : List Loc) : Prop := v = some (.int (2 : Int32)) ∧ Fr n0 L ∧ h = h0
set_option maxRecDepth 65536 in
set_option maxHeartbeats 40000000 in
theorem rm21 (l : Launch) (Z : State) (a0 : Array Value) (hw : ∀ d ∈ tables_1, d.before a0 Z = true) (ws : List Jvm.Cond)  (h0 : Heap) (n0 : Nat) (Z0 : n0 ≤ h0.size)  :
    MetFree l own_y19 (head1 (Jvm.Cond.code own_y19 jdk_52_method_3_code 1 (some .int) :: ws) own_r0) (fun ar_ U => ar_ = #[(.int (1 : Int32))] ∧ Z.Warmed39 U.vm ∧ U.heap = h0) (fun _ _ _ _ _ => True) (fun _ U oo_ U' => ∃ v L, oo_ = .returned v ∧ Q21 Z   h0 n0 v U'.heap L ∧ FrameEnd U oo_ U' L own_r0.cells own_r0.slots) := by
  refine MetFree.of_bodySF (plainFor_of_name pn_4) hisR ?_
  intro p e s m args below meth c s₁ Bd hml0 hP hK
  obtain ⟨rfl, hZ, hh⟩ := hP
  have hx := Bd.exec
  have hby := Bd.bytes
  have hml : c.maxLocals = 1 := hml0
  have hown : s.vm.findClass "java/lang/StringUTF16" = some m.cls := findClass_of_methodNamed Bd.named
  have hnm := (name_of_methodNamed Bd.named Bd.method).1
  have X0 : Stand p l e own_r0 s m #[(.int (1 : Int32))] below meth c s₁ [] 0 0 := Stand.of_body Bd
  have e0 : s₁.heap = h0 := by rw [← hh, Bd.state]; rfl
  have N0 := Fr.nil n0
  refine own_in (castTop (ef_21 m )) ?_
  show oG _ _ _ _ (s₁.setTop (mkF m 0 #[.val (.int (1 : Int32))] []))
  refine oS (fun _ κ => XS.iloadN X0.here hx rfl (hb hby q20_0) rfl κ) ?_
  refine oS (fun _ κ => XS.ifYes X0.here hx rfl (pc0 := 1) (pc' := 12) rfl (hb hby q20_1) rfl ((if0 _ _).trans (flt (by decide)).2.1) (by decide) (by decide) κ) ?_
  show oG _ _ _ _ (s₁.setTop (mkF m 12 #[.val (.int (1 : Int32))] []))
  refine oS (fun _ κ => XS.iloadN X0.here hx rfl (hb hby q20_12) rfl κ) ?_
  refine oS (fun _ κ => X0.ldcInt hx hown (mvT hZ (own_w hw 86 rfl)) (g := (mkF m 13 #[.val (.int (1 : Int32))] [(.int (1 : Int32))])) rfl (hb hby q20_13) _ κ) ?_
  show oG _ _ _ _ (s₁.setTop (mkF m 15 #[.val (.int (1 : Int32))] [(.int (1073741823 : Int32)), (.int (1 : Int32))]))
  refine oS (fun _ κ => XS.icmpYes X0.here hx rfl (pc0 := 15) (pc' := 55) rfl (hb hby q20_15) rfl (tlt (by decide)).1 (by decide) (by decide) κ) ?_
  show oG _ _ _ _ (s₁.setTop (mkF m 55 #[.val (.int (1 : Int32))] []))
  refine oS (fun _ κ => XS.iloadN X0.here hx rfl (hb hby q20_55) rfl κ) ?_
  refine oS (fun _ κ => XS.iconst X0.here hx rfl (hb hby q20_56) κ) ?_
  refine oS (fun _ κ => XS.ishl X0.here hx rfl (hb hby q20_57) rfl κ) ?_
  show oG _ _ _ _ (s₁.setTop (mkF m 58 #[.val (.int (1 : Int32))] [(.int ((1 : Int32) <<< ((1 : Int32) &&& 31)))]))
  rw [show (((1 : Int32) <<< ((1 : Int32) &&& 31)) : Int32) = (2 : Int32) from by decide]
  show oG _ _ _ _ (s₁.setTop (mkF m 58 #[.val (.int (1 : Int32))] [(.int (2 : Int32))]))
  obtain ⟨fs, hr, hrun, hended, hW, hsame⟩ := X0.leave (v := some (.int (2 : Int32))) (fun h => by rw [Bd.returns] at h; cases h)
  refine ⟨_, _, own_retI X0 hx Bd.returns (hb hby q20_58) hr, hrun, hended, _, _, rfl, ?_, ⟨_, rfl⟩, hW, hsame.mono (by decide) (by decide)⟩
  show Q21 Z   h0 n0 _ s₁.heap _
  rw [e0]
  exact ⟨rfl, N0, rfl⟩
theorem ef_22 (m : MethodId)  : entryFrame m #[(.int (2 : Int32))] 1 = mkF m 0 #[.val (.int (2 : Int32))] [] := by first | (simp [entryFrame, mkF, argsToLocals, Value.category]; done) | rfl
def Q22 (Z : State)  (h0 : Heap) (n0 : Nat) (v : Option Value) (h : Heap) (L : List Loc) : Prop := v = some (.int (4 : Int32)) ∧ Fr n0 L ∧ h = h0
set_option maxRecDepth 65536 in
set_option maxHeartbeats 40000000 in
theorem rm22 (l : Launch) (Z : State) (a0 : Array Value) (hw : ∀ d ∈ tables_1, d.before a0 Z = true) (ws : List Jvm.Cond)  (h0 : Heap) (n0 : Nat) (Z0 : n0 ≤ h0.size)  :
    MetFree l own_y19 (head1 (Jvm.Cond.code own_y19 jdk_52_method_3_code 1 (some .int) :: ws) own_r0) (fun ar_ U => ar_ = #[(.int (2 : Int32))] ∧ Z.Warmed39 U.vm ∧ U.heap = h0) (fun _ _ _ _ _ => True) (fun _ U oo_ U' => ∃ v L, oo_ = .returned v ∧ Q22 Z   h0 n0 v U'.heap L ∧ FrameEnd U oo_ U' L own_r0.cells own_r0.slots) := by
  refine MetFree.of_bodySF (plainFor_of_name pn_4) hisR ?_
  intro p e s m args below meth c s₁ Bd hml0 hP hK
  obtain ⟨rfl, hZ, hh⟩ := hP
  have hx := Bd.exec
  have hby := Bd.bytes
  have hml : c.maxLocals = 1 := hml0
  have hown : s.vm.findClass "java/lang/StringUTF16" = some m.cls := findClass_of_methodNamed Bd.named
  have hnm := (name_of_methodNamed Bd.named Bd.method).1
  have X0 : Stand p l e own_r0 s m #[(.int (2 : Int32))] below meth c s₁ [] 0 0 := Stand.of_body Bd
  have e0 : s₁.heap = h0 := by rw [← hh, Bd.state]; rfl
  have N0 := Fr.nil n0
  refine own_in (castTop (ef_22 m )) ?_
  show oG _ _ _ _ (s₁.setTop (mkF m 0 #[.val (.int (2 : Int32))] []))
  refine oS (fun _ κ => XS.iloadN X0.here hx rfl (hb hby q20_0) rfl κ) ?_
  refine oS (fun _ κ => XS.ifYes X0.here hx rfl (pc0 := 1) (pc' := 12) rfl (hb hby q20_1) rfl ((if0 _ _).trans (flt (by decide)).2.1) (by decide) (by decide) κ) ?_
  show oG _ _ _ _ (s₁.setTop (mkF m 12 #[.val (.int (2 : Int32))] []))
  refine oS (fun _ κ => XS.iloadN X0.here hx rfl (hb hby q20_12) rfl κ) ?_
  refine oS (fun _ κ => X0.ldcInt hx hown (mvT hZ (own_w hw 86 rfl)) (g := (mkF m 13 #[.val (.int (2 : Int32))] [(.int (2 : Int32))])) rfl (hb hby q20_13) _ κ) ?_
  show oG _ _ _ _ (s₁.setTop (mkF m 15 #[.val (.int (2 : Int32))] [(.int (1073741823 : Int32)), (.int (2 : Int32))]))
  refine oS (fun _ κ => XS.icmpYes X0.here hx rfl (pc0 := 15) (pc' := 55) rfl (hb hby q20_15) rfl (tlt (by decide)).1 (by decide) (by decide) κ) ?_
  show oG _ _ _ _ (s₁.setTop (mkF m 55 #[.val (.int (2 : Int32))] []))
  refine oS (fun _ κ => XS.iloadN X0.here hx rfl (hb hby q20_55) rfl κ) ?_
  refine oS (fun _ κ => XS.iconst X0.here hx rfl (hb hby q20_56) κ) ?_
  refine oS (fun _ κ => XS.ishl X0.here hx rfl (hb hby q20_57) rfl κ) ?_
  show oG _ _ _ _ (s₁.setTop (mkF m 58 #[.val (.int (2 : Int32))] [(.int ((2 : Int32) <<< ((1 : Int32) &&& 31)))]))
  rw [show (((2 : Int32) <<< ((1 : Int32) &&& 31)) : Int32) = (4 : Int32) from by decide]
  show oG _ _ _ _ (s₁.setTop (mkF m 58 #[.val (.int (2 : Int32))] [(.int (4 : Int32))]))
  obtain ⟨fs, hr, hrun, hended, hW, hsame⟩ := X0.leave (v := some (.int (4 : Int32))) (fun h => by rw [Bd.returns] at h; cases h)
  refine ⟨_, _, own_retI X0 hx Bd.returns (hb hby q20_58) hr, hrun, hended, _, _, rfl, ?_, ⟨_, rfl⟩, hW, hsame.mono (by decide) (by decide)⟩
  show Q22 Z   h0 n0 _ s₁.heap _
  rw [e0]
  exact ⟨rfl, N0, rfl⟩
theorem ef_23 (m : MethodId)  : entryFrame m #[(.int (3 : Int32))] 1 = mkF m 0 #[.val (.int (3 : Int32))] [] := by first | (simp [entryFrame, mkF, argsToLocals, Value.category]; done) | rfl
def Q23 (Z : State)  (h0 : Heap) (n0 : Nat) (v : Option Value) (h : Heap) (L : List Loc) : Prop := v = some (.int (6 : Int32)) ∧ Fr n0 L ∧ h = h0
set_option maxRecDepth 65536 in
set_option maxHeartbeats 40000000 in
theorem rm23 (l : Launch) (Z : State) (a0 : Array Value) (hw : ∀ d ∈ tables_1, d.before a0 Z = true) (ws : List Jvm.Cond)  (h0 : Heap) (n0 : Nat) (Z0 : n0 ≤ h0.size)  :
    MetFree l own_y19 (head1 (Jvm.Cond.code own_y19 jdk_52_method_3_code 1 (some .int) :: ws) own_r0) (fun ar_ U => ar_ = #[(.int (3 : Int32))] ∧ Z.Warmed39 U.vm ∧ U.heap = h0) (fun _ _ _ _ _ => True) (fun _ U oo_ U' => ∃ v L, oo_ = .returned v ∧ Q23 Z   h0 n0 v U'.heap L ∧ FrameEnd U oo_ U' L own_r0.cells own_r0.slots) := by
  refine MetFree.of_bodySF (plainFor_of_name pn_4) hisR ?_
  intro p e s m args below meth c s₁ Bd hml0 hP hK
  obtain ⟨rfl, hZ, hh⟩ := hP
  have hx := Bd.exec
  have hby := Bd.bytes
  have hml : c.maxLocals = 1 := hml0
  have hown : s.vm.findClass "java/lang/StringUTF16" = some m.cls := findClass_of_methodNamed Bd.named
  have hnm := (name_of_methodNamed Bd.named Bd.method).1
  have X0 : Stand p l e own_r0 s m #[(.int (3 : Int32))] below meth c s₁ [] 0 0 := Stand.of_body Bd
  have e0 : s₁.heap = h0 := by rw [← hh, Bd.state]; rfl
  have N0 := Fr.nil n0
  refine own_in (castTop (ef_23 m )) ?_
  show oG _ _ _ _ (s₁.setTop (mkF m 0 #[.val (.int (3 : Int32))] []))
  refine oS (fun _ κ => XS.iloadN X0.here hx rfl (hb hby q20_0) rfl κ) ?_
  refine oS (fun _ κ => XS.ifYes X0.here hx rfl (pc0 := 1) (pc' := 12) rfl (hb hby q20_1) rfl ((if0 _ _).trans (flt (by decide)).2.1) (by decide) (by decide) κ) ?_
  show oG _ _ _ _ (s₁.setTop (mkF m 12 #[.val (.int (3 : Int32))] []))
  refine oS (fun _ κ => XS.iloadN X0.here hx rfl (hb hby q20_12) rfl κ) ?_
  refine oS (fun _ κ => X0.ldcInt hx hown (mvT hZ (own_w hw 86 rfl)) (g := (mkF m 13 #[.val (.int (3 : Int32))] [(.int (3 : Int32))])) rfl (hb hby q20_13) _ κ) ?_
  show oG _ _ _ _ (s₁.setTop (mkF m 15 #[.val (.int (3 : Int32))] [(.int (1073741823 : Int32)), (.int (3 : Int32))]))
  refine oS (fun _ κ => XS.icmpYes X0.here hx rfl (pc0 := 15) (pc' := 55) rfl (hb hby q20_15) rfl (tlt (by decide)).1 (by decide) (by decide) κ) ?_
  show oG _ _ _ _ (s₁.setTop (mkF m 55 #[.val (.int (3 : Int32))] []))
  refine oS (fun _ κ => XS.iloadN X0.here hx rfl (hb hby q20_55) rfl κ) ?_
  refine oS (fun _ κ => XS.iconst X0.here hx rfl (hb hby q20_56) κ) ?_
  refine oS (fun _ κ => XS.ishl X0.here hx rfl (hb hby q20_57) rfl κ) ?_
  show oG _ _ _ _ (s₁.setTop (mkF m 58 #[.val (.int (3 : Int32))] [(.int ((3 : Int32) <<< ((1 : Int32) &&& 31)))]))
  rw [show (((3 : Int32) <<< ((1 : Int32) &&& 31)) : Int32) = (6 : Int32) from by decide]
  show oG _ _ _ _ (s₁.setTop (mkF m 58 #[.val (.int (3 : Int32))] [(.int (6 : Int32))]))
  obtain ⟨fs, hr, hrun, hended, hW, hsame⟩ := X0.leave (v := some (.int (6 : Int32))) (fun h => by rw [Bd.returns] at h; cases h)
  refine ⟨_, _, own_retI X0 hx Bd.returns (hb hby q20_58) hr, hrun, hended, _, _, rfl, ?_, ⟨_, rfl⟩, hW, hsame.mono (by decide) (by decide)⟩
  show Q23 Z   h0 n0 _ s₁.heap _
  rw [e0]
  exact ⟨rfl, N0, rfl⟩
theorem ef_24 (m : MethodId)  : entryFrame m #[(.int (4 : Int32))] 1 = mkF m 0 #[.val (.int (4 : Int32))] [] := by first | (simp [entryFrame, mkF, argsToLocals, Value.category]; done) | rfl
def Q24 (Z : State)  (h0 : Heap) (n0 : Nat) (v : Option Value) (h : Heap) (L : List Loc) : Prop := v = some (.int (8 : Int32)) ∧ Fr n0 L ∧ h = h0
set_option maxRecDepth 65536 in
set_option maxHeartbeats 40000000 in
theorem rm24 (l : Launch) (Z : State) (a0 : Array Value) (hw : ∀ d ∈ tables_1, d.before a0 Z = true) (ws : List Jvm.Cond)  (h0 : Heap) (n0 : Nat) (Z0 : n0 ≤ h0.size)  :
    MetFree l own_y19 (head1 (Jvm.Cond.code own_y19 jdk_52_method_3_code 1 (some .int) :: ws) own_r0) (fun ar_ U => ar_ = #[(.int (4 : Int32))] ∧ Z.Warmed39 U.vm ∧ U.heap = h0) (fun _ _ _ _ _ => True) (fun _ U oo_ U' => ∃ v L, oo_ = .returned v ∧ Q24 Z   h0 n0 v U'.heap L ∧ FrameEnd U oo_ U' L own_r0.cells own_r0.slots) := by
  refine MetFree.of_bodySF (plainFor_of_name pn_4) hisR ?_
  intro p e s m args below meth c s₁ Bd hml0 hP hK
  obtain ⟨rfl, hZ, hh⟩ := hP
  have hx := Bd.exec
  have hby := Bd.bytes
  have hml : c.maxLocals = 1 := hml0
  have hown : s.vm.findClass "java/lang/StringUTF16" = some m.cls := findClass_of_methodNamed Bd.named
  have hnm := (name_of_methodNamed Bd.named Bd.method).1
  have X0 : Stand p l e own_r0 s m #[(.int (4 : Int32))] below meth c s₁ [] 0 0 := Stand.of_body Bd
  have e0 : s₁.heap = h0 := by rw [← hh, Bd.state]; rfl
  have N0 := Fr.nil n0
  refine own_in (castTop (ef_24 m )) ?_
  show oG _ _ _ _ (s₁.setTop (mkF m 0 #[.val (.int (4 : Int32))] []))
  refine oS (fun _ κ => XS.iloadN X0.here hx rfl (hb hby q20_0) rfl κ) ?_
  refine oS (fun _ κ => XS.ifYes X0.here hx rfl (pc0 := 1) (pc' := 12) rfl (hb hby q20_1) rfl ((if0 _ _).trans (flt (by decide)).2.1) (by decide) (by decide) κ) ?_
  show oG _ _ _ _ (s₁.setTop (mkF m 12 #[.val (.int (4 : Int32))] []))
  refine oS (fun _ κ => XS.iloadN X0.here hx rfl (hb hby q20_12) rfl κ) ?_
  refine oS (fun _ κ => X0.ldcInt hx hown (mvT hZ (own_w hw 86 rfl)) (g := (mkF m 13 #[.val (.int (4 : Int32))] [(.int (4 : Int32))])) rfl (hb hby q20_13) _ κ) ?_
  show oG _ _ _ _ (s₁.setTop (mkF m 15 #[.val (.int (4 : Int32))] [(.int (1073741823 : Int32)), (.int (4 : Int32))]))
  refine oS (fun _ κ => XS.icmpYes X0.here hx rfl (pc0 := 15) (pc' := 55) rfl (hb hby q20_15) rfl (tlt (by decide)).1 (by decide) (by decide) κ) ?_
  show oG _ _ _ _ (s₁.setTop (mkF m 55 #[.val (.int (4 : Int32))] []))
  refine oS (fun _ κ => XS.iloadN X0.here hx rfl (hb hby q20_55) rfl κ) ?_
  refine oS (fun _ κ => XS.iconst X0.here hx rfl (hb hby q20_56) κ) ?_
  refine oS (fun _ κ => XS.ishl X0.here hx rfl (hb hby q20_57) rfl κ) ?_
  show oG _ _ _ _ (s₁.setTop (mkF m 58 #[.val (.int (4 : Int32))] [(.int ((4 : Int32) <<< ((1 : Int32) &&& 31)))]))
  rw [show (((4 : Int32) <<< ((1 : Int32) &&& 31)) : Int32) = (8 : Int32) from by decide]
  show oG _ _ _ _ (s₁.setTop (mkF m 58 #[.val (.int (4 : Int32))] [(.int (8 : Int32))]))
  obtain ⟨fs, hr, hrun, hended, hW, hsame⟩ := X0.leave (v := some (.int (8 : Int32))) (fun h => by rw [Bd.returns] at h; cases h)
  refine ⟨_, _, own_retI X0 hx Bd.returns (hb hby q20_58) hr, hrun, hended, _, _, rfl, ?_, ⟨_, rfl⟩, hW, hsame.mono (by decide) (by decide)⟩
  show Q24 Z   h0 n0 _ s₁.heap _
  rw [e0]
  exact ⟨rfl, N0, rfl⟩
theorem ef_25 (m : MethodId)  : entryFrame m #[(.int (1 : Int32))] 1 = mkF m 0 #[.val (.int (1 : Int32))] [] := by first | (simp [entryFrame, mkF, argsToLocals, Value.category]; done) | rfl
def Q25 (Z : State)  (h0 : Heap) (n0 : Nat) (v : Option Value) (h : Heap) (L : List Loc) : Prop := ∃ r : Addr, v = some (.ref r) ∧ Fr n0 L ∧ Keep h0 h [] ∧ (h0.size ≤ r) ∧ (own_By Z h r (2 : Int32) own_zero)
set_option maxRecDepth 65536 in
set_option maxHeartbeats 40000000 in
theorem rm25 (l : Launch) (Z : State) (a0 : Array Value) (hw : ∀ d ∈ tables_1, d.before a0 Z = true) (ws : List Jvm.Cond)  (h0 : Heap) (n0 : Nat) (Z0 : n0 ≤ h0.size)  :
    MetFree l own_y18 (head1 (Jvm.Cond.code own_y18 jdk_52_method_2_code 1 (some (.array .byte)) :: ws) own_r3) (fun ar_ U => ar_ = #[(.int (1 : Int32))] ∧ Z.Warmed39 U.vm ∧ U.heap = h0) (fun _ _ _ _ _ => True) (fun _ U oo_ U' => ∃ v L, oo_ = .returned v ∧ Q25 Z   h0 n0 v U'.heap L ∧ FrameEnd U oo_ U' L own_r3.cells own_r3.slots) := by
  refine MetFree.of_bodySF (plainFor_of_name pn_4) hisR ?_
  intro p e s m args below meth c s₁ Bd hml0 hP hK
  obtain ⟨rfl, hZ, hh⟩ := hP
  have hx := Bd.exec
  have hby := Bd.bytes
  have hml : c.maxLocals = 1 := hml0
  have hown : s.vm.findClass "java/lang/StringUTF16" = some m.cls := findClass_of_methodNamed Bd.named
  have hnm := (name_of_methodNamed Bd.named Bd.method).1
  have X0 : Stand p l e own_r3 s m #[(.int (1 : Int32))] below meth c s₁ [] 0 0 := Stand.of_body Bd
  have e0 : s₁.heap = h0 := by rw [← hh, Bd.state]; rfl
  have N0 := Fr.nil n0
  refine own_in (castTop (ef_25 m )) ?_
  show oG _ _ _ _ (s₁.setTop (mkF m 0 #[.val (.int (1 : Int32))] []))
  refine oS (fun _ κ => XS.iloadN X0.here hx rfl (hb hby q15_0) rfl κ) ?_
  obtain ⟨vr1, _, ⟨T1, L1, k1, n1⟩, -, X1, ⟨Lc1, hQ1, l1, y1, z1⟩, st1⟩ := Jvm.LawKit.callS X0 hx (y := own_y19) hown (mvT hZ (own_w hw 83 rfl)) (mvT hZ (own_w hw 84 rfl)) (mvT hZ (own_w hw 44 rfl)) (mvT hZ (own_w hw 85 rfl)) (by decide) (backOf (W := 0) (rm21 l Z a0 hw []   h0 n0 Z0 ) hZ (own_w hw 85 rfl) (own_w hw 44 rfl) (by decide) (by decide)) (g := (mkF m 1 #[.val (.int (1 : Int32))] [(.int (1 : Int32))])) rfl (by rw [hml]; rfl) (argsL := [(.int (1 : Int32))]) (rest := []) (lenOf pd_7 rfl) rfl own_2z (hb hby q15_1) (fun _ _ => ⟨rfl, e0, (by decide : 0 + 0 ≤ _), (by decide : 0 + 0 ≤ _)⟩)
  dsimp only [Pt.U, Pt.locs, Pt.cells, Pt.slots] at X1 l1 y1 z1 st1 hQ1
  subst l1 y1 z1
  obtain ⟨rfl, Nq1, eq1⟩ := hQ1
  have N1 := Fr.app N0 Nq1
  refine oS st1 ?_
  show oG _ _ _ _ (T1.setTop (mkF m 4 #[.val (.int (1 : Int32))] [(.int (2 : Int32))]))
  obtain ⟨T2, h2, k2, X2, e2, E2, A2, st2⟩ := newP X1 hx hZ (own_w hw 20 rfl) eq1 (g := (mkF m 4 #[.val (.int (1 : Int32))] [(.int (2 : Int32))])) rfl (hb hby q15_4) rfl (by decide) (cap := 2) (by decide) (by decide) (by decide) (by decide)
  obtain ⟨b2, g2⟩ : ∃ z, z = h0.size := ⟨_, rfl⟩
  rw [← g2] at A2 st2
  refine oS st2 ?_
  have ge3 : n0 ≤ b2 := Nat.le_trans Z0 (Nat.le_of_eq g2.symm)
  have sz4 : h0.size ≤ b2 := Nat.le_trans (Keep.refl h0 []).1 (Nat.le_of_eq g2.symm)
  have K5 : Keep h0 h2 [] := (Keep.refl h0 []).ext E2
  have z6 : n0 ≤ h2.size := Nat.le_trans Z0 E2.1
  have V2 : own_By Z h2 b2 (2 : Int32) own_zero := own_By.new A2 (by decide)
  show oG _ _ _ _ (T2.setTop (mkF m 6 #[.val (.int (1 : Int32))] [(.ref b2)]))
  obtain ⟨fs, hr, hrun, hended, hW, hsame⟩ := X2.leave (v := some (.ref b2)) (fun h => by rw [Bd.returns] at h; cases h)
  refine ⟨_, _, retOut X2 hx Bd.returns rfl (Or.inr (Or.inr (Or.inr (Or.inr ⟨rfl, rfl, rfl⟩)))) (hb hby q15_6) hr, hrun, hended, _, _, rfl, ?_, ⟨_, rfl⟩, hW, hsame.mono (by decide) (by decide)⟩
  show Q25 Z   h0 n0 _ T2.heap _
  rw [e2]
  exact ⟨b2, rfl, N1, K5, sz4, V2⟩
theorem ef_26 (m : MethodId)  : entryFrame m #[(.int (2 : Int32))] 1 = mkF m 0 #[.val (.int (2 : Int32))] [] := by first | (simp [entryFrame, mkF, argsToLocals, Value.category]; done) | rfl
def Q26 (Z : State)  (h0 : Heap) (n0 : Nat) (v : Option Value) (h : Heap) (L : List Loc) : Prop := ∃ r : Addr, v = some (.ref r) ∧ Fr n0 L ∧ Keep h0 h [] ∧ (h0.size ≤ r) ∧ (own_By Z h r (4 : Int32) own_zero)
set_option maxRecDepth 65536 in
set_option maxHeartbeats 40000000 in
theorem rm26 (l : Launch) (Z : State) (a0 : Array Value) (hw : ∀ d ∈ tables_1, d.before a0 Z = true) (ws : List Jvm.Cond)  (h0 : Heap) (n0 : Nat) (Z0 : n0 ≤ h0.size)  :
    MetFree l own_y18 (head1 (Jvm.Cond.code own_y18 jdk_52_method_2_code 1 (some (.array .byte)) :: ws) own_r4) (fun ar_ U => ar_ = #[(.int (2 : Int32))] ∧ Z.Warmed39 U.vm ∧ U.heap = h0) (fun _ _ _ _ _ => True) (fun _ U oo_ U' => ∃ v L, oo_ = .returned v ∧ Q26 Z   h0 n0 v U'.heap L ∧ FrameEnd U oo_ U' L own_r4.cells own_r4.slots) := by
  refine MetFree.of_bodySF (plainFor_of_name pn_4) hisR ?_
  intro p e s m args below meth c s₁ Bd hml0 hP hK
  obtain ⟨rfl, hZ, hh⟩ := hP
  have hx := Bd.exec
  have hby := Bd.bytes
  have hml : c.maxLocals = 1 := hml0
  have hown : s.vm.findClass "java/lang/StringUTF16" = some m.cls := findClass_of_methodNamed Bd.named
  have hnm := (name_of_methodNamed Bd.named Bd.method).1
  have X0 : Stand p l e own_r4 s m #[(.int (2 : Int32))] below meth c s₁ [] 0 0 := Stand.of_body Bd
  have e0 : s₁.heap = h0 := by rw [← hh, Bd.state]; rfl
  have N0 := Fr.nil n0
  refine own_in (castTop (ef_26 m )) ?_
  show oG _ _ _ _ (s₁.setTop (mkF m 0 #[.val (.int (2 : Int32))] []))
  refine oS (fun _ κ => XS.iloadN X0.here hx rfl (hb hby q15_0) rfl κ) ?_
  obtain ⟨vr1, _, ⟨T1, L1, k1, n1⟩, -, X1, ⟨Lc1, hQ1, l1, y1, z1⟩, st1⟩ := Jvm.LawKit.callS X0 hx (y := own_y19) hown (mvT hZ (own_w hw 83 rfl)) (mvT hZ (own_w hw 84 rfl)) (mvT hZ (own_w hw 44 rfl)) (mvT hZ (own_w hw 85 rfl)) (by decide) (backOf (W := 0) (rm22 l Z a0 hw []   h0 n0 Z0 ) hZ (own_w hw 85 rfl) (own_w hw 44 rfl) (by decide) (by decide)) (g := (mkF m 1 #[.val (.int (2 : Int32))] [(.int (2 : Int32))])) rfl (by rw [hml]; rfl) (argsL := [(.int (2 : Int32))]) (rest := []) (lenOf pd_7 rfl) rfl own_2z (hb hby q15_1) (fun _ _ => ⟨rfl, e0, (by decide : 0 + 0 ≤ _), (by decide : 0 + 0 ≤ _)⟩)
  dsimp only [Pt.U, Pt.locs, Pt.cells, Pt.slots] at X1 l1 y1 z1 st1 hQ1
  subst l1 y1 z1
  obtain ⟨rfl, Nq1, eq1⟩ := hQ1
  have N1 := Fr.app N0 Nq1
  refine oS st1 ?_
  show oG _ _ _ _ (T1.setTop (mkF m 4 #[.val (.int (2 : Int32))] [(.int (4 : Int32))]))
  obtain ⟨T2, h2, k2, X2, e2, E2, A2, st2⟩ := newP X1 hx hZ (own_w hw 20 rfl) eq1 (g := (mkF m 4 #[.val (.int (2 : Int32))] [(.int (4 : Int32))])) rfl (hb hby q15_4) rfl (by decide) (cap := 4) (by decide) (by decide) (by decide) (by decide)
  obtain ⟨b2, g2⟩ : ∃ z, z = h0.size := ⟨_, rfl⟩
  rw [← g2] at A2 st2
  refine oS st2 ?_
  have ge3 : n0 ≤ b2 := Nat.le_trans Z0 (Nat.le_of_eq g2.symm)
  have sz4 : h0.size ≤ b2 := Nat.le_trans (Keep.refl h0 []).1 (Nat.le_of_eq g2.symm)
  have K5 : Keep h0 h2 [] := (Keep.refl h0 []).ext E2
  have z6 : n0 ≤ h2.size := Nat.le_trans Z0 E2.1
  have V2 : own_By Z h2 b2 (4 : Int32) own_zero := own_By.new A2 (by decide)
  show oG _ _ _ _ (T2.setTop (mkF m 6 #[.val (.int (2 : Int32))] [(.ref b2)]))
  obtain ⟨fs, hr, hrun, hended, hW, hsame⟩ := X2.leave (v := some (.ref b2)) (fun h => by rw [Bd.returns] at h; cases h)
  refine ⟨_, _, retOut X2 hx Bd.returns rfl (Or.inr (Or.inr (Or.inr (Or.inr ⟨rfl, rfl, rfl⟩)))) (hb hby q15_6) hr, hrun, hended, _, _, rfl, ?_, ⟨_, rfl⟩, hW, hsame.mono (by decide) (by decide)⟩
  show Q26 Z   h0 n0 _ T2.heap _
  rw [e2]
  exact ⟨b2, rfl, N1, K5, sz4, V2⟩
theorem ef_27 (m : MethodId)  : entryFrame m #[(.int (3 : Int32))] 1 = mkF m 0 #[.val (.int (3 : Int32))] [] := by first | (simp [entryFrame, mkF, argsToLocals, Value.category]; done) | rfl
def Q27 (Z : State)  (h0 : Heap) (n0 : Nat) (v : Option Value) (h : Heap) (L : List Loc) : Prop := ∃ r : Addr, v = some (.ref r) ∧ Fr n0 L ∧ Keep h0 h [] ∧ (h0.size ≤ r) ∧ (own_By Z h r (6 : Int32) own_zero)
set_option maxRecDepth 65536 in
set_option maxHeartbeats 40000000 in
theorem rm27 (l : Launch) (Z : State) (a0 : Array Value) (hw : ∀ d ∈ tables_1, d.before a0 Z = true) (ws : List Jvm.Cond)  (h0 : Heap) (n0 : Nat) (Z0 : n0 ≤ h0.size)  :
    MetFree l own_y18 (head1 (Jvm.Cond.code own_y18 jdk_52_method_2_code 1 (some (.array .byte)) :: ws) own_r5) (fun ar_ U => ar_ = #[(.int (3 : Int32))] ∧ Z.Warmed39 U.vm ∧ U.heap = h0) (fun _ _ _ _ _ => True) (fun _ U oo_ U' => ∃ v L, oo_ = .returned v ∧ Q27 Z   h0 n0 v U'.heap L ∧ FrameEnd U oo_ U' L own_r5.cells own_r5.slots) := by
  refine MetFree.of_bodySF (plainFor_of_name pn_4) hisR ?_
  intro p e s m args below meth c s₁ Bd hml0 hP hK
  obtain ⟨rfl, hZ, hh⟩ := hP
  have hx := Bd.exec
  have hby := Bd.bytes
  have hml : c.maxLocals = 1 := hml0
  have hown : s.vm.findClass "java/lang/StringUTF16" = some m.cls := findClass_of_methodNamed Bd.named
  have hnm := (name_of_methodNamed Bd.named Bd.method).1
  have X0 : Stand p l e own_r5 s m #[(.int (3 : Int32))] below meth c s₁ [] 0 0 := Stand.of_body Bd
  have e0 : s₁.heap = h0 := by rw [← hh, Bd.state]; rfl
  have N0 := Fr.nil n0
  refine own_in (castTop (ef_27 m )) ?_
  show oG _ _ _ _ (s₁.setTop (mkF m 0 #[.val (.int (3 : Int32))] []))
  refine oS (fun _ κ => XS.iloadN X0.here hx rfl (hb hby q15_0) rfl κ) ?_
  obtain ⟨vr1, _, ⟨T1, L1, k1, n1⟩, -, X1, ⟨Lc1, hQ1, l1, y1, z1⟩, st1⟩ := Jvm.LawKit.callS X0 hx (y := own_y19) hown (mvT hZ (own_w hw 83 rfl)) (mvT hZ (own_w hw 84 rfl)) (mvT hZ (own_w hw 44 rfl)) (mvT hZ (own_w hw 85 rfl)) (by decide) (backOf (W := 0) (rm23 l Z a0 hw []   h0 n0 Z0 ) hZ (own_w hw 85 rfl) (own_w hw 44 rfl) (by decide) (by decide)) (g := (mkF m 1 #[.val (.int (3 : Int32))] [(.int (3 : Int32))])) rfl (by rw [hml]; rfl) (argsL := [(.int (3 : Int32))]) (rest := []) (lenOf pd_7 rfl) rfl own_2z (hb hby q15_1) (fun _ _ => ⟨rfl, e0, (by decide : 0 + 0 ≤ _), (by decide : 0 + 0 ≤ _)⟩)
  dsimp only [Pt.U, Pt.locs, Pt.cells, Pt.slots] at X1 l1 y1 z1 st1 hQ1
  subst l1 y1 z1
  obtain ⟨rfl, Nq1, eq1⟩ := hQ1
  have N1 := Fr.app N0 Nq1
  refine oS st1 ?_
  show oG _ _ _ _ (T1.setTop (mkF m 4 #[.val (.int (3 : Int32))] [(.int (6 : Int32))]))
  obtain ⟨T2, h2, k2, X2, e2, E2, A2, st2⟩ := newP X1 hx hZ (own_w hw 20 rfl) eq1 (g := (mkF m 4 #[.val (.int (3 : Int32))] [(.int (6 : Int32))])) rfl (hb hby q15_4) rfl (by decide) (cap := 6) (by decide) (by decide) (by decide) (by decide)
  obtain ⟨b2, g2⟩ : ∃ z, z = h0.size := ⟨_, rfl⟩
  rw [← g2] at A2 st2
  refine oS st2 ?_
  have ge3 : n0 ≤ b2 := Nat.le_trans Z0 (Nat.le_of_eq g2.symm)
  have sz4 : h0.size ≤ b2 := Nat.le_trans (Keep.refl h0 []).1 (Nat.le_of_eq g2.symm)
  have K5 : Keep h0 h2 [] := (Keep.refl h0 []).ext E2
  have z6 : n0 ≤ h2.size := Nat.le_trans Z0 E2.1
  have V2 : own_By Z h2 b2 (6 : Int32) own_zero := own_By.new A2 (by decide)
  show oG _ _ _ _ (T2.setTop (mkF m 6 #[.val (.int (3 : Int32))] [(.ref b2)]))
  obtain ⟨fs, hr, hrun, hended, hW, hsame⟩ := X2.leave (v := some (.ref b2)) (fun h => by rw [Bd.returns] at h; cases h)
  refine ⟨_, _, retOut X2 hx Bd.returns rfl (Or.inr (Or.inr (Or.inr (Or.inr ⟨rfl, rfl, rfl⟩)))) (hb hby q15_6) hr, hrun, hended, _, _, rfl, ?_, ⟨_, rfl⟩, hW, hsame.mono (by decide) (by decide)⟩
  show Q27 Z   h0 n0 _ T2.heap _
  rw [e2]
  exact ⟨b2, rfl, N1, K5, sz4, V2⟩
theorem ef_28 (m : MethodId)  : entryFrame m #[(.int (4 : Int32))] 1 = mkF m 0 #[.val (.int (4 : Int32))] [] := by first | (simp [entryFrame, mkF, argsToLocals, Value.category]; done) | rfl
def Q28 (Z : State)  (h0 : Heap) (n0 : Nat) (v : Option Value) (h : Heap) (L : List Loc) : Prop := ∃ r : Addr, v = some (.ref r) ∧ Fr n0 L ∧ Keep h0 h [] ∧ (h0.size ≤ r) ∧ (own_By Z h r (8 : Int32) own_zero)
set_option maxRecDepth 65536 in
set_option maxHeartbeats 40000000 in
theorem rm28 (l : Launch) (Z : State) (a0 : Array Value) (hw : ∀ d ∈ tables_1, d.before a0 Z = true) (ws : List Jvm.Cond)  (h0 : Heap) (n0 : Nat) (Z0 : n0 ≤ h0.size)  :
    MetFree l own_y18 (head1 (Jvm.Cond.code own_y18 jdk_52_method_2_code 1 (some (.array .byte)) :: ws) own_r6) (fun ar_ U => ar_ = #[(.int (4 : Int32))] ∧ Z.Warmed39 U.vm ∧ U.heap = h0) (fun _ _ _ _ _ => True) (fun _ U oo_ U' => ∃ v L, oo_ = .returned v ∧ Q28 Z   h0 n0 v U'.heap L ∧ FrameEnd U oo_ U' L own_r6.cells own_r6.slots) := by
  refine MetFree.of_bodySF (plainFor_of_name pn_4) hisR ?_
  intro p e s m args below meth c s₁ Bd hml0 hP hK
  obtain ⟨rfl, hZ, hh⟩ := hP
  have hx := Bd.exec
  have hby := Bd.bytes
  have hml : c.maxLocals = 1 := hml0
  have hown : s.vm.findClass "java/lang/StringUTF16" = some m.cls := findClass_of_methodNamed Bd.named
  have hnm := (name_of_methodNamed Bd.named Bd.method).1
  have X0 : Stand p l e own_r6 s m #[(.int (4 : Int32))] below meth c s₁ [] 0 0 := Stand.of_body Bd
  have e0 : s₁.heap = h0 := by rw [← hh, Bd.state]; rfl
  have N0 := Fr.nil n0
  refine own_in (castTop (ef_28 m )) ?_
  show oG _ _ _ _ (s₁.setTop (mkF m 0 #[.val (.int (4 : Int32))] []))
  refine oS (fun _ κ => XS.iloadN X0.here hx rfl (hb hby q15_0) rfl κ) ?_
  obtain ⟨vr1, _, ⟨T1, L1, k1, n1⟩, -, X1, ⟨Lc1, hQ1, l1, y1, z1⟩, st1⟩ := Jvm.LawKit.callS X0 hx (y := own_y19) hown (mvT hZ (own_w hw 83 rfl)) (mvT hZ (own_w hw 84 rfl)) (mvT hZ (own_w hw 44 rfl)) (mvT hZ (own_w hw 85 rfl)) (by decide) (backOf (W := 0) (rm24 l Z a0 hw []   h0 n0 Z0 ) hZ (own_w hw 85 rfl) (own_w hw 44 rfl) (by decide) (by decide)) (g := (mkF m 1 #[.val (.int (4 : Int32))] [(.int (4 : Int32))])) rfl (by rw [hml]; rfl) (argsL := [(.int (4 : Int32))]) (rest := []) (lenOf pd_7 rfl) rfl own_2z (hb hby q15_1) (fun _ _ => ⟨rfl, e0, (by decide : 0 + 0 ≤ _), (by decide : 0 + 0 ≤ _)⟩)
  dsimp only [Pt.U, Pt.locs, Pt.cells, Pt.slots] at X1 l1 y1 z1 st1 hQ1
  subst l1 y1 z1
  obtain ⟨rfl, Nq1, eq1⟩ := hQ1
  have N1 := Fr.app N0 Nq1
  refine oS st1 ?_
  show oG _ _ _ _ (T1.setTop (mkF m 4 #[.val (.int (4 : Int32))] [(.int (8 : Int32))]))
  obtain ⟨T2, h2, k2, X2, e2, E2, A2, st2⟩ := newP X1 hx hZ (own_w hw 20 rfl) eq1 (g := (mkF m 4 #[.val (.int (4 : Int32))] [(.int (8 : Int32))])) rfl (hb hby q15_4) rfl (by decide) (cap := 8) (by decide) (by decide) (by decide) (by decide)
  obtain ⟨b2, g2⟩ : ∃ z, z = h0.size := ⟨_, rfl⟩
  rw [← g2] at A2 st2
  refine oS st2 ?_
  have ge3 : n0 ≤ b2 := Nat.le_trans Z0 (Nat.le_of_eq g2.symm)
  have sz4 : h0.size ≤ b2 := Nat.le_trans (Keep.refl h0 []).1 (Nat.le_of_eq g2.symm)
  have K5 : Keep h0 h2 [] := (Keep.refl h0 []).ext E2
  have z6 : n0 ≤ h2.size := Nat.le_trans Z0 E2.1
  have V2 : own_By Z h2 b2 (8 : Int32) own_zero := own_By.new A2 (by decide)
  show oG _ _ _ _ (T2.setTop (mkF m 6 #[.val (.int (4 : Int32))] [(.ref b2)]))
  obtain ⟨fs, hr, hrun, hended, hW, hsame⟩ := X2.leave (v := some (.ref b2)) (fun h => by rw [Bd.returns] at h; cases h)
  refine ⟨_, _, retOut X2 hx Bd.returns rfl (Or.inr (Or.inr (Or.inr (Or.inr ⟨rfl, rfl, rfl⟩)))) (hb hby q15_6) hr, hrun, hended, _, _, rfl, ?_, ⟨_, rfl⟩, hW, hsame.mono (by decide) (by decide)⟩
  show Q28 Z   h0 n0 _ T2.heap _
  rw [e2]
  exact ⟨b2, rfl, N1, K5, sz4, V2⟩
theorem ef_29 (m : MethodId) (a : Addr) : entryFrame m #[(.ref a), (.int (0 : Int32)), (.int (1 : Int32))] 5 = mkF m 0 #[.val (.ref a), .val (.int (0 : Int32)), .val (.int (1 : Int32)), .unset, .unset] [] := by first | (simp [entryFrame, mkF, argsToLocals, Value.category]; done) | rfl
def Q29 (Z : State) (a : Addr) (ka : ClassId) (c0 : Int32) (h0 : Heap) (n0 : Nat) (v : Option Value) (h : Heap) (L : List Loc) : Prop := ∃ r : Addr, v = some (.ref r) ∧ Fr n0 L ∧ Keep h0 h [] ∧ (h0.size ≤ r) ∧ (own_By Z h r (2 : Int32) (own_upd (own_upd own_zero 0 (own_bl c0)) (0 + 1) (own_bh c0)))
set_option maxRecDepth 65536 in
set_option maxHeartbeats 40000000 in
theorem rm29 (l : Launch) (Z : State) (a0 : Array Value) (hw : ∀ d ∈ tables_1, d.before a0 Z = true) (ws : List Jvm.Cond) (a : Addr) (ka : ClassId) (c0 : Int32) (h0 : Heap) (n0 : Nat) (Z0 : n0 ≤ h0.size) (P0 : Arv Z h0 a ka .char (1 : Int32) [(.int c0)] (.int (0 : Int32))) (P1 : Old Z n0 h0) (P2 : Sta Z Z.heap "java/lang/StringUTF16" "$assertionsDisabled" "Z" (.int (1 : Int32))) (P3 : Sta Z Z.heap "java/lang/StringUTF16" "HI_BYTE_SHIFT" "I" (.int (0 : Int32))) (P4 : Sta Z Z.heap "java/lang/StringUTF16" "LO_BYTE_SHIFT" "I" (.int (8 : Int32))) :
    MetFree l own_y21 (head1 (Jvm.Cond.code own_y21 jdk_52_method_14_code 5 (some (.array .byte)) :: ws) own_r10) (fun ar_ U => ar_ = #[(.ref a), (.int (0 : Int32)), (.int (1 : Int32))] ∧ Z.Warmed39 U.vm ∧ U.heap = h0) (fun _ _ _ _ _ => True) (fun _ U oo_ U' => ∃ v L, oo_ = .returned v ∧ Q29 Z a ka c0 h0 n0 v U'.heap L ∧ FrameEnd U oo_ U' L own_r10.cells own_r10.slots) := by
  refine MetFree.of_bodySF (plainFor_of_name pn_4) hisR ?_
  intro p e s m args below meth c s₁ Bd hml0 hP hK
  obtain ⟨rfl, hZ, hh⟩ := hP
  have hx := Bd.exec
  have hby := Bd.bytes
  have hml : c.maxLocals = 5 := hml0
  have hown : s.vm.findClass "java/lang/StringUTF16" = some m.cls := findClass_of_methodNamed Bd.named
  have hnm := (name_of_methodNamed Bd.named Bd.method).1
  have X0 : Stand p l e own_r10 s m #[(.ref a), (.int (0 : Int32)), (.int (1 : Int32))] below meth c s₁ [] 0 0 := Stand.of_body Bd
  have e0 : s₁.heap = h0 := by rw [← hh, Bd.state]; rfl
  have N0 := Fr.nil n0
  refine own_in (castTop (ef_29 m a)) ?_
  show oG _ _ _ _ (s₁.setTop (mkF m 0 #[.val (.ref a), .val (.int (0 : Int32)), .val (.int (1 : Int32)), .unset, .unset] []))
  refine oS (fun _ κ => XS.iloadN X0.here hx rfl (hb hby q11_0) rfl κ) ?_
  obtain ⟨vr1, _, ⟨T1, L1, k1, n1⟩, -, X1, ⟨Lc1, hQ1, l1, y1, z1⟩, st1⟩ := Jvm.LawKit.callS X0 hx (y := own_y18) hown (mvT hZ (own_w hw 80 rfl)) (mvT hZ (own_w hw 81 rfl)) (mvT hZ (own_w hw 44 rfl)) (mvT hZ (own_w hw 82 rfl)) (by decide) (backOf (W := 0) (rm25 l Z a0 hw []   h0 n0 Z0 ) hZ (own_w hw 82 rfl) (own_w hw 44 rfl) (by decide) (by decide)) (g := (mkF m 1 #[.val (.ref a), .val (.int (0 : Int32)), .val (.int (1 : Int32)), .unset, .unset] [(.int (1 : Int32))])) rfl (by rw [hml]; rfl) (argsL := [(.int (1 : Int32))]) (rest := []) (lenOf pd_8 rfl) rfl own_2z (hb hby q11_1) (fun _ _ => ⟨rfl, e0, (by decide : 0 + 1 ≤ _), (by decide : 0 + 2 ≤ _)⟩)
  dsimp only [Pt.U, Pt.locs, Pt.cells, Pt.slots] at X1 l1 y1 z1 st1 hQ1
  subst l1 y1 z1
  obtain ⟨r2, rfl, Nq1, Kq1, p1_0, p1_1⟩ := hQ1
  have N1 := Fr.app N0 Nq1
  have ne3 : a ≠ r2 := Nat.ne_of_lt (Nat.lt_of_lt_of_le P0.lt p1_0)
  have ge4 : n0 ≤ r2 := Nat.le_trans Z0 p1_0
  have sz5 : h0.size ≤ r2 := Nat.le_trans (Keep.refl h0 []).1 p1_0
  have f6 := P0.keep Kq1 nin0
  have f7 := P1.keep Kq1 all0
  have K8 : Keep h0 T1.heap [] := (Keep.refl h0 []).trans Kq1 all0
  have z9 : n0 ≤ T1.heap.size := Nat.le_trans Z0 Kq1.1
  refine oS st1 ?_
  show oG _ _ _ _ (T1.setTop (mkF m 4 #[.val (.ref a), .val (.int (0 : Int32)), .val (.int (1 : Int32)), .unset, .unset] [(.ref r2)]))
  refine oS (fun _ κ => XS.astoreN X1.here hx rfl (hb hby q11_4) rfl rfl (l' := #[.val (.ref a), .val (.int (0 : Int32)), .val (.int (1 : Int32)), .val (.ref r2), .unset]) rfl κ) ?_
  refine oS (fun _ κ => XS.iconst X1.here hx rfl (hb hby q11_5) κ) ?_
  refine oS (fun _ κ => XS.istore X1.here hx rfl (hb hby q11_6) rfl (l' := #[.val (.ref a), .val (.int (0 : Int32)), .val (.int (1 : Int32)), .val (.ref r2), .val (.int (0 : Int32))]) rfl κ) ?_
  refine oS (fun _ κ => XS.iload X1.here hx rfl (hb hby q11_8) rfl κ) ?_
  refine oS (fun _ κ => XS.iloadN X1.here hx rfl (hb hby q11_10) rfl κ) ?_
  refine oS (fun _ κ => XS.icmpNo X1.here hx rfl (hb hby q11_11) rfl (tlt (by decide)).2.1 κ) ?_
  show oG _ _ _ _ (T1.setTop (mkF m 14 #[.val (.ref a), .val (.int (0 : Int32)), .val (.int (1 : Int32)), .val (.ref r2), .val (.int (0 : Int32))] []))
  refine oS (fun _ κ => XS.aloadN X1.here hx rfl (hb hby q11_14) rfl rfl κ) ?_
  refine oS (fun _ κ => XS.iload X1.here hx rfl (hb hby q11_15) rfl κ) ?_
  refine oS (fun _ κ => XS.aloadN X1.here hx rfl (hb hby q11_17) rfl rfl κ) ?_
  refine oS (fun _ κ => XS.iloadN X1.here hx rfl (hb hby q11_18) rfl κ) ?_
  obtain ⟨cl10, Ar10, q10, Sz10, Nz10, Hs10, Gs10⟩ := id (f6)
  have hin10 := inb_of (j := (0 : Int32)) Sz10 ⟨by decide, by decide⟩
  have hat10 := Hs10.at (j := (0 : Int32)) hin10 rfl
  refine oS (fun _ κ => X1.caload hx (j := (0 : Int32)) (v := (.int c0)) Ar10.1 (State.isArrayOf_alike hZ.alike Ar10.2.1) Ar10.2.2 hin10 hat10 (g := (mkF m 19 #[.val (.ref a), .val (.int (0 : Int32)), .val (.int (1 : Int32)), .val (.ref r2), .val (.int (0 : Int32))] [(.int (0 : Int32)), (.ref a), (.int (0 : Int32)), (.ref r2)])) rfl rfl (hb hby q11_19) _ κ) ?_
  show oG _ _ _ _ (T1.setTop (mkF m 20 #[.val (.ref a), .val (.int (0 : Int32)), .val (.int (1 : Int32)), .val (.ref r2), .val (.int (0 : Int32))] [(.int c0), (.int (0 : Int32)), (.ref r2)]))
  obtain ⟨vr11, _, ⟨T11, L11, k11, n11⟩, -, X11, ⟨Lc11, hQ11, l11, y11, z11⟩, st11⟩ := Jvm.LawKit.callS X1 hx (y := own_y20) hown (mvT hZ (own_w hw 87 rfl)) (mvT hZ (own_w hw 88 rfl)) (mvT hZ (own_w hw 44 rfl)) (mvT hZ (own_w hw 89 rfl)) (by decide) (backOf (W := 0) (rm20 l Z a0 hw [] r2 (0 : Int32) c0 (2 : Int32) own_zero 0 T1.heap n0 z9 p1_1 ge4 f7 P2 P3 P4 (by decide) (by decide) (by decide) (by decide)) hZ (own_w hw 89 rfl) (own_w hw 44 rfl) (by decide) (by decide)) (g := (mkF m 20 #[.val (.ref a), .val (.int (0 : Int32)), .val (.int (1 : Int32)), .val (.ref r2), .val (.int (0 : Int32))] [(.int c0), (.int (0 : Int32)), (.ref r2)])) rfl (by rw [hml]; rfl) (argsL := [(.ref r2), (.int (0 : Int32)), (.int c0)]) (rest := []) (lenOf pd_9 rfl) rfl own_2z (hb hby q11_20) (fun _ _ => ⟨rfl, rfl, (by decide : 1 + 0 ≤ _), (by decide : 2 + 0 ≤ _)⟩)
  dsimp only [Pt.U, Pt.locs, Pt.cells, Pt.slots] at X11 l11 y11 z11 st11 hQ11
  subst l11 y11 z11
  obtain ⟨rfl, Nq11, Kq11, p11_0⟩ := hQ11
  have N11 := Fr.app N1 Nq11
  have f12 := f6.keep Kq11 (ninS ne3 nin0)
  have f13 := f7.keep Kq11 (allS ge4 all0)
  have K14 : Keep h0 T11.heap [] := K8.trans Kq11 (allS (Or.inr sz5) all0)
  have z15 : n0 ≤ T11.heap.size := Nat.le_trans z9 Kq11.1
  refine oS st11 ?_
  show oG _ _ _ _ (T11.setTop (mkF m 23 #[.val (.ref a), .val (.int (0 : Int32)), .val (.int (1 : Int32)), .val (.ref r2), .val (.int (0 : Int32))] []))
  refine oS (fun _ κ => XS.iinc X11.here hx rfl (hb hby q11_23) rfl (l' := #[.val (.ref a), .val (.int ((0 : Int32) + (1 : Int32))), .val (.int (1 : Int32)), .val (.ref r2), .val (.int (0 : Int32))]) rfl κ) ?_
  show oG _ _ _ _ (T11.setTop (mkF m 26 #[.val (.ref a), .val (.int ((0 : Int32) + (1 : Int32))), .val (.int (1 : Int32)), .val (.ref r2), .val (.int (0 : Int32))] []))
  rw [show (((0 : Int32) + (1 : Int32)) : Int32) = (1 : Int32) from by decide]
  show oG _ _ _ _ (T11.setTop (mkF m 26 #[.val (.ref a), .val (.int (1 : Int32)), .val (.int (1 : Int32)), .val (.ref r2), .val (.int (0 : Int32))] []))
  refine oS (fun _ κ => XS.iinc X11.here hx rfl (hb hby q11_26) rfl (l' := #[.val (.ref a), .val (.int (1 : Int32)), .val (.int (1 : Int32)), .val (.ref r2), .val (.int ((0 : Int32) + (1 : Int32)))]) rfl κ) ?_
  show oG _ _ _ _ (T11.setTop (mkF m 29 #[.val (.ref a), .val (.int (1 : Int32)), .val (.int (1 : Int32)), .val (.ref r2), .val (.int ((0 : Int32) + (1 : Int32)))] []))
  rw [show (((0 : Int32) + (1 : Int32)) : Int32) = (1 : Int32) from by decide]
  show oG _ _ _ _ (T11.setTop (mkF m 29 #[.val (.ref a), .val (.int (1 : Int32)), .val (.int (1 : Int32)), .val (.ref r2), .val (.int (1 : Int32))] []))
  refine oS (fun _ κ => XS.goto X11.here hx rfl (pc0 := 29) (pc' := 8) rfl (hb hby q11_29) (by decide) (by decide) κ) ?_
  show oG _ _ _ _ (T11.setTop (mkF m 8 #[.val (.ref a), .val (.int (1 : Int32)), .val (.int (1 : Int32)), .val (.ref r2), .val (.int (1 : Int32))] []))
  refine oS (fun _ κ => XS.iload X11.here hx rfl (hb hby q11_8) rfl κ) ?_
  refine oS (fun _ κ => XS.iloadN X11.here hx rfl (hb hby q11_10) rfl κ) ?_
  refine oS (fun _ κ => XS.icmpYes X11.here hx rfl (pc0 := 11) (pc' := 32) rfl (hb hby q11_11) rfl (flt (by decide)).2.1 (by decide) (by decide) κ) ?_
  show oG _ _ _ _ (T11.setTop (mkF m 32 #[.val (.ref a), .val (.int (1 : Int32)), .val (.int (1 : Int32)), .val (.ref r2), .val (.int (1 : Int32))] []))
  refine oS (fun _ κ => XS.aloadN X11.here hx rfl (hb hby q11_32) rfl rfl κ) ?_
  obtain ⟨fs, hr, hrun, hended, hW, hsame⟩ := X11.leave (v := some (.ref r2)) (fun h => by rw [Bd.returns] at h; cases h)
  refine ⟨_, _, retOut X11 hx Bd.returns rfl (Or.inr (Or.inr (Or.inr (Or.inr ⟨rfl, rfl, rfl⟩)))) (hb hby q11_33) hr, hrun, hended, _, _, rfl, ?_, ⟨_, rfl⟩, hW, hsame.mono (by decide) (by decide)⟩
  show Q29 Z a ka c0 h0 n0 _ T11.heap _
  skip
  exact ⟨r2, rfl, N11, K14, sz5, p11_0⟩
theorem ef_30 (m : MethodId) (a : Addr) : entryFrame m #[(.ref a), (.int (0 : Int32)), (.int (2 : Int32))] 5 = mkF m 0 #[.val (.ref a), .val (.int (0 : Int32)), .val (.int (2 : Int32)), .unset, .unset] [] := by first | (simp [entryFrame, mkF, argsToLocals, Value.category]; done) | rfl
def Q30 (Z : State) (a : Addr) (ka : ClassId) (c0 : Int32) (c1 : Int32) (h0 : Heap) (n0 : Nat) (v : Option Value) (h : Heap) (L : List Loc) : Prop := ∃ r : Addr, v = some (.ref r) ∧ Fr n0 L ∧ Keep h0 h [] ∧ (h0.size ≤ r) ∧ (own_By Z h r (4 : Int32) (own_upd (own_upd (own_upd (own_upd own_zero 0 (own_bl c0)) (0 + 1) (own_bh c0)) 2 (own_bl c1)) (2 + 1) (own_bh c1)))
set_option maxRecDepth 65536 in
set_option maxHeartbeats 40000000 in
theorem rm30 (l : Launch) (Z : State) (a0 : Array Value) (hw : ∀ d ∈ tables_1, d.before a0 Z = true) (ws : List Jvm.Cond) (a : Addr) (ka : ClassId) (c0 : Int32) (c1 : Int32) (h0 : Heap) (n0 : Nat) (Z0 : n0 ≤ h0.size) (P0 : Arv Z h0 a ka .char (2 : Int32) [(.int c0), (.int c1)] (.int (0 : Int32))) (P1 : Old Z n0 h0) (P2 : Sta Z Z.heap "java/lang/StringUTF16" "$assertionsDisabled" "Z" (.int (1 : Int32))) (P3 : Sta Z Z.heap "java/lang/StringUTF16" "HI_BYTE_SHIFT" "I" (.int (0 : Int32))) (P4 : Sta Z Z.heap "java/lang/StringUTF16" "LO_BYTE_SHIFT" "I" (.int (8 : Int32))) :
    MetFree l own_y21 (head1 (Jvm.Cond.code own_y21 jdk_52_method_14_code 5 (some (.array .byte)) :: ws) own_r11) (fun ar_ U => ar_ = #[(.ref a), (.int (0 : Int32)), (.int (2 : Int32))] ∧ Z.Warmed39 U.vm ∧ U.heap = h0) (fun _ _ _ _ _ => True) (fun _ U oo_ U' => ∃ v L, oo_ = .returned v ∧ Q30 Z a ka c0 c1 h0 n0 v U'.heap L ∧ FrameEnd U oo_ U' L own_r11.cells own_r11.slots) := by
  refine MetFree.of_bodySF (plainFor_of_name pn_4) hisR ?_
  intro p e s m args below meth c s₁ Bd hml0 hP hK
  obtain ⟨rfl, hZ, hh⟩ := hP
  have hx := Bd.exec
  have hby := Bd.bytes
  have hml : c.maxLocals = 5 := hml0
  have hown : s.vm.findClass "java/lang/StringUTF16" = some m.cls := findClass_of_methodNamed Bd.named
  have hnm := (name_of_methodNamed Bd.named Bd.method).1
  have X0 : Stand p l e own_r11 s m #[(.ref a), (.int (0 : Int32)), (.int (2 : Int32))] below meth c s₁ [] 0 0 := Stand.of_body Bd
  have e0 : s₁.heap = h0 := by rw [← hh, Bd.state]; rfl
  have N0 := Fr.nil n0
  refine own_in (castTop (ef_30 m a)) ?_
  show oG _ _ _ _ (s₁.setTop (mkF m 0 #[.val (.ref a), .val (.int (0 : Int32)), .val (.int (2 : Int32)), .unset, .unset] []))
  refine oS (fun _ κ => XS.iloadN X0.here hx rfl (hb hby q11_0) rfl κ) ?_
  obtain ⟨vr1, _, ⟨T1, L1, k1, n1⟩, -, X1, ⟨Lc1, hQ1, l1, y1, z1⟩, st1⟩ := Jvm.LawKit.callS X0 hx (y := own_y18) hown (mvT hZ (own_w hw 80 rfl)) (mvT hZ (own_w hw 81 rfl)) (mvT hZ (own_w hw 44 rfl)) (mvT hZ (own_w hw 82 rfl)) (by decide) (backOf (W := 0) (rm26 l Z a0 hw []   h0 n0 Z0 ) hZ (own_w hw 82 rfl) (own_w hw 44 rfl) (by decide) (by decide)) (g := (mkF m 1 #[.val (.ref a), .val (.int (0 : Int32)), .val (.int (2 : Int32)), .unset, .unset] [(.int (2 : Int32))])) rfl (by rw [hml]; rfl) (argsL := [(.int (2 : Int32))]) (rest := []) (lenOf pd_8 rfl) rfl own_2z (hb hby q11_1) (fun _ _ => ⟨rfl, e0, (by decide : 0 + 1 ≤ _), (by decide : 0 + 4 ≤ _)⟩)
  dsimp only [Pt.U, Pt.locs, Pt.cells, Pt.slots] at X1 l1 y1 z1 st1 hQ1
  subst l1 y1 z1
  obtain ⟨r2, rfl, Nq1, Kq1, p1_0, p1_1⟩ := hQ1
  have N1 := Fr.app N0 Nq1
  have ne3 : a ≠ r2 := Nat.ne_of_lt (Nat.lt_of_lt_of_le P0.lt p1_0)
  have ge4 : n0 ≤ r2 := Nat.le_trans Z0 p1_0
  have sz5 : h0.size ≤ r2 := Nat.le_trans (Keep.refl h0 []).1 p1_0
  have f6 := P0.keep Kq1 nin0
  have f7 := P1.keep Kq1 all0
  have K8 : Keep h0 T1.heap [] := (Keep.refl h0 []).trans Kq1 all0
  have z9 : n0 ≤ T1.heap.size := Nat.le_trans Z0 Kq1.1
  refine oS st1 ?_
  show oG _ _ _ _ (T1.setTop (mkF m 4 #[.val (.ref a), .val (.int (0 : Int32)), .val (.int (2 : Int32)), .unset, .unset] [(.ref r2)]))
  refine oS (fun _ κ => XS.astoreN X1.here hx rfl (hb hby q11_4) rfl rfl (l' := #[.val (.ref a), .val (.int (0 : Int32)), .val (.int (2 : Int32)), .val (.ref r2), .unset]) rfl κ) ?_
  refine oS (fun _ κ => XS.iconst X1.here hx rfl (hb hby q11_5) κ) ?_
  refine oS (fun _ κ => XS.istore X1.here hx rfl (hb hby q11_6) rfl (l' := #[.val (.ref a), .val (.int (0 : Int32)), .val (.int (2 : Int32)), .val (.ref r2), .val (.int (0 : Int32))]) rfl κ) ?_
  refine oS (fun _ κ => XS.iload X1.here hx rfl (hb hby q11_8) rfl κ) ?_
  refine oS (fun _ κ => XS.iloadN X1.here hx rfl (hb hby q11_10) rfl κ) ?_
  refine oS (fun _ κ => XS.icmpNo X1.here hx rfl (hb hby q11_11) rfl (tlt (by decide)).2.1 κ) ?_
  show oG _ _ _ _ (T1.setTop (mkF m 14 #[.val (.ref a), .val (.int (0 : Int32)), .val (.int (2 : Int32)), .val (.ref r2), .val (.int (0 : Int32))] []))
  refine oS (fun _ κ => XS.aloadN X1.here hx rfl (hb hby q11_14) rfl rfl κ) ?_
  refine oS (fun _ κ => XS.iload X1.here hx rfl (hb hby q11_15) rfl κ) ?_
  refine oS (fun _ κ => XS.aloadN X1.here hx rfl (hb hby q11_17) rfl rfl κ) ?_
  refine oS (fun _ κ => XS.iloadN X1.here hx rfl (hb hby q11_18) rfl κ) ?_
  obtain ⟨cl10, Ar10, q10, Sz10, Nz10, Hs10, Gs10⟩ := id (f6)
  have hin10 := inb_of (j := (0 : Int32)) Sz10 ⟨by decide, by decide⟩
  have hat10 := Hs10.at (j := (0 : Int32)) hin10 rfl
  refine oS (fun _ κ => X1.caload hx (j := (0 : Int32)) (v := (.int c0)) Ar10.1 (State.isArrayOf_alike hZ.alike Ar10.2.1) Ar10.2.2 hin10 hat10 (g := (mkF m 19 #[.val (.ref a), .val (.int (0 : Int32)), .val (.int (2 : Int32)), .val (.ref r2), .val (.int (0 : Int32))] [(.int (0 : Int32)), (.ref a), (.int (0 : Int32)), (.ref r2)])) rfl rfl (hb hby q11_19) _ κ) ?_
  show oG _ _ _ _ (T1.setTop (mkF m 20 #[.val (.ref a), .val (.int (0 : Int32)), .val (.int (2 : Int32)), .val (.ref r2), .val (.int (0 : Int32))] [(.int c0), (.int (0 : Int32)), (.ref r2)]))
  obtain ⟨vr11, _, ⟨T11, L11, k11, n11⟩, -, X11, ⟨Lc11, hQ11, l11, y11, z11⟩, st11⟩ := Jvm.LawKit.callS X1 hx (y := own_y20) hown (mvT hZ (own_w hw 87 rfl)) (mvT hZ (own_w hw 88 rfl)) (mvT hZ (own_w hw 44 rfl)) (mvT hZ (own_w hw 89 rfl)) (by decide) (backOf (W := 0) (rm20 l Z a0 hw [] r2 (0 : Int32) c0 (4 : Int32) own_zero 0 T1.heap n0 z9 p1_1 ge4 f7 P2 P3 P4 (by decide) (by decide) (by decide) (by decide)) hZ (own_w hw 89 rfl) (own_w hw 44 rfl) (by decide) (by decide)) (g := (mkF m 20 #[.val (.ref a), .val (.int (0 : Int32)), .val (.int (2 : Int32)), .val (.ref r2), .val (.int (0 : Int32))] [(.int c0), (.int (0 : Int32)), (.ref r2)])) rfl (by rw [hml]; rfl) (argsL := [(.ref r2), (.int (0 : Int32)), (.int c0)]) (rest := []) (lenOf pd_9 rfl) rfl own_2z (hb hby q11_20) (fun _ _ => ⟨rfl, rfl, (by decide : 1 + 0 ≤ _), (by decide : 4 + 0 ≤ _)⟩)
  dsimp only [Pt.U, Pt.locs, Pt.cells, Pt.slots] at X11 l11 y11 z11 st11 hQ11
  subst l11 y11 z11
  obtain ⟨rfl, Nq11, Kq11, p11_0⟩ := hQ11
  have N11 := Fr.app N1 Nq11
  have f12 := f6.keep Kq11 (ninS ne3 nin0)
  have f13 := f7.keep Kq11 (allS ge4 all0)
  have K14 : Keep h0 T11.heap [] := K8.trans Kq11 (allS (Or.inr sz5) all0)
  have z15 : n0 ≤ T11.heap.size := Nat.le_trans z9 Kq11.1
  refine oS st11 ?_
  show oG _ _ _ _ (T11.setTop (mkF m 23 #[.val (.ref a), .val (.int (0 : Int32)), .val (.int (2 : Int32)), .val (.ref r2), .val (.int (0 : Int32))] []))
  refine oS (fun _ κ => XS.iinc X11.here hx rfl (hb hby q11_23) rfl (l' := #[.val (.ref a), .val (.int ((0 : Int32) + (1 : Int32))), .val (.int (2 : Int32)), .val (.ref r2), .val (.int (0 : Int32))]) rfl κ) ?_
  show oG _ _ _ _ (T11.setTop (mkF m 26 #[.val (.ref a), .val (.int ((0 : Int32) + (1 : Int32))), .val (.int (2 : Int32)), .val (.ref r2), .val (.int (0 : Int32))] []))
  rw [show (((0 : Int32) + (1 : Int32)) : Int32) = (1 : Int32) from by decide]
  show oG _ _ _ _ (T11.setTop (mkF m 26 #[.val (.ref a), .val (.int (1 : Int32)), .val (.int (2 : Int32)), .val (.ref r2), .val (.int (0 : Int32))] []))
  refine oS (fun _ κ => XS.iinc X11.here hx rfl (hb hby q11_26) rfl (l' := #[.val (.ref a), .val (.int (1 : Int32)), .val (.int (2 : Int32)), .val (.ref r2), .val (.int ((0 : Int32) + (1 : Int32)))]) rfl κ) ?_
  show oG _ _ _ _ (T11.setTop (mkF m 29 #[.val (.ref a), .val (.int (1 : Int32)), .val (.int (2 : Int32)), .val (.ref r2), .val (.int ((0 : Int32) + (1 : Int32)))] []))
  rw [show (((0 : Int32) + (1 : Int32)) : Int32) = (1 : Int32) from by decide]
  show oG _ _ _ _ (T11.setTop (mkF m 29 #[.val (.ref a), .val (.int (1 : Int32)), .val (.int (2 : Int32)), .val (.ref r2), .val (.int (1 : Int32))] []))
  refine oS (fun _ κ => XS.goto X11.here hx rfl (pc0 := 29) (pc' := 8) rfl (hb hby q11_29) (by decide) (by decide) κ) ?_
  show oG _ _ _ _ (T11.setTop (mkF m 8 #[.val (.ref a), .val (.int (1 : Int32)), .val (.int (2 : Int32)), .val (.ref r2), .val (.int (1 : Int32))] []))
  refine oS (fun _ κ => XS.iload X11.here hx rfl (hb hby q11_8) rfl κ) ?_
  refine oS (fun _ κ => XS.iloadN X11.here hx rfl (hb hby q11_10) rfl κ) ?_
  refine oS (fun _ κ => XS.icmpNo X11.here hx rfl (hb hby q11_11) rfl (tlt (by decide)).2.1 κ) ?_
  show oG _ _ _ _ (T11.setTop (mkF m 14 #[.val (.ref a), .val (.int (1 : Int32)), .val (.int (2 : Int32)), .val (.ref r2), .val (.int (1 : Int32))] []))
  refine oS (fun _ κ => XS.aloadN X11.here hx rfl (hb hby q11_14) rfl rfl κ) ?_
  refine oS (fun _ κ => XS.iload X11.here hx rfl (hb hby q11_15) rfl κ) ?_
  refine oS (fun _ κ => XS.aloadN X11.here hx rfl (hb hby q11_17) rfl rfl κ) ?_
  refine oS (fun _ κ => XS.iloadN X11.here hx rfl (hb hby q11_18) rfl κ) ?_
  obtain ⟨cl16, Ar16, q16, Sz16, Nz16, Hs16, Gs16⟩ := id (f12)
  have hin16 := inb_of (j := (1 : Int32)) Sz16 ⟨by decide, by decide⟩
  have hat16 := Hs16.at (j := (1 : Int32)) hin16 rfl
  refine oS (fun _ κ => X11.caload hx (j := (1 : Int32)) (v := (.int c1)) Ar16.1 (State.isArrayOf_alike hZ.alike Ar16.2.1) Ar16.2.2 hin16 hat16 (g := (mkF m 19 #[.val (.ref a), .val (.int (1 : Int32)), .val (.int (2 : Int32)), .val (.ref r2), .val (.int (1 : Int32))] [(.int (1 : Int32)), (.ref a), (.int (1 : Int32)), (.ref r2)])) rfl rfl (hb hby q11_19) _ κ) ?_
  show oG _ _ _ _ (T11.setTop (mkF m 20 #[.val (.ref a), .val (.int (1 : Int32)), .val (.int (2 : Int32)), .val (.ref r2), .val (.int (1 : Int32))] [(.int c1), (.int (1 : Int32)), (.ref r2)]))
  obtain ⟨vr17, _, ⟨T17, L17, k17, n17⟩, -, X17, ⟨Lc17, hQ17, l17, y17, z17⟩, st17⟩ := Jvm.LawKit.callS X11 hx (y := own_y20) hown (mvT hZ (own_w hw 87 rfl)) (mvT hZ (own_w hw 88 rfl)) (mvT hZ (own_w hw 44 rfl)) (mvT hZ (own_w hw 89 rfl)) (by decide) (backOf (W := 0) (rm20 l Z a0 hw [] r2 (1 : Int32) c1 (4 : Int32) (own_upd (own_upd own_zero 0 (own_bl c0)) (0 + 1) (own_bh c0)) 2 T11.heap n0 z15 p11_0 ge4 f13 P2 P3 P4 (by decide) (by decide) (by decide) (by decide)) hZ (own_w hw 89 rfl) (own_w hw 44 rfl) (by decide) (by decide)) (g := (mkF m 20 #[.val (.ref a), .val (.int (1 : Int32)), .val (.int (2 : Int32)), .val (.ref r2), .val (.int (1 : Int32))] [(.int c1), (.int (1 : Int32)), (.ref r2)])) rfl (by rw [hml]; rfl) (argsL := [(.ref r2), (.int (1 : Int32)), (.int c1)]) (rest := []) (lenOf pd_9 rfl) rfl own_2z (hb hby q11_20) (fun _ _ => ⟨rfl, rfl, (by decide : 1 + 0 ≤ _), (by decide : 4 + 0 ≤ _)⟩)
  dsimp only [Pt.U, Pt.locs, Pt.cells, Pt.slots] at X17 l17 y17 z17 st17 hQ17
  subst l17 y17 z17
  obtain ⟨rfl, Nq17, Kq17, p17_0⟩ := hQ17
  have N17 := Fr.app N11 Nq17
  have f18 := f12.keep Kq17 (ninS ne3 nin0)
  have f19 := f13.keep Kq17 (allS ge4 all0)
  have K20 : Keep h0 T17.heap [] := K14.trans Kq17 (allS (Or.inr sz5) all0)
  have z21 : n0 ≤ T17.heap.size := Nat.le_trans z15 Kq17.1
  refine oS st17 ?_
  show oG _ _ _ _ (T17.setTop (mkF m 23 #[.val (.ref a), .val (.int (1 : Int32)), .val (.int (2 : Int32)), .val (.ref r2), .val (.int (1 : Int32))] []))
  refine oS (fun _ κ => XS.iinc X17.here hx rfl (hb hby q11_23) rfl (l' := #[.val (.ref a), .val (.int ((1 : Int32) + (1 : Int32))), .val (.int (2 : Int32)), .val (.ref r2), .val (.int (1 : Int32))]) rfl κ) ?_
  show oG _ _ _ _ (T17.setTop (mkF m 26 #[.val (.ref a), .val (.int ((1 : Int32) + (1 : Int32))), .val (.int (2 : Int32)), .val (.ref r2), .val (.int (1 : Int32))] []))
  rw [show (((1 : Int32) + (1 : Int32)) : Int32) = (2 : Int32) from by decide]
  show oG _ _ _ _ (T17.setTop (mkF m 26 #[.val (.ref a), .val (.int (2 : Int32)), .val (.int (2 : Int32)), .val (.ref r2), .val (.int (1 : Int32))] []))
  refine oS (fun _ κ => XS.iinc X17.here hx rfl (hb hby q11_26) rfl (l' := #[.val (.ref a), .val (.int (2 : Int32)), .val (.int (2 : Int32)), .val (.ref r2), .val (.int ((1 : Int32) + (1 : Int32)))]) rfl κ) ?_
  show oG _ _ _ _ (T17.setTop (mkF m 29 #[.val (.ref a), .val (.int (2 : Int32)), .val (.int (2 : Int32)), .val (.ref r2), .val (.int ((1 : Int32) + (1 : Int32)))] []))
  rw [show (((1 : Int32) + (1 : Int32)) : Int32) = (2 : Int32) from by decide]
  show oG _ _ _ _ (T17.setTop (mkF m 29 #[.val (.ref a), .val (.int (2 : Int32)), .val (.int (2 : Int32)), .val (.ref r2), .val (.int (2 : Int32))] []))
  refine oS (fun _ κ => XS.goto X17.here hx rfl (pc0 := 29) (pc' := 8) rfl (hb hby q11_29) (by decide) (by decide) κ) ?_
  show oG _ _ _ _ (T17.setTop (mkF m 8 #[.val (.ref a), .val (.int (2 : Int32)), .val (.int (2 : Int32)), .val (.ref r2), .val (.int (2 : Int32))] []))
  refine oS (fun _ κ => XS.iload X17.here hx rfl (hb hby q11_8) rfl κ) ?_
  refine oS (fun _ κ => XS.iloadN X17.here hx rfl (hb hby q11_10) rfl κ) ?_
  refine oS (fun _ κ => XS.icmpYes X17.here hx rfl (pc0 := 11) (pc' := 32) rfl (hb hby q11_11) rfl (flt (by decide)).2.1 (by decide) (by decide) κ) ?_
  show oG _ _ _ _ (T17.setTop (mkF m 32 #[.val (.ref a), .val (.int (2 : Int32)), .val (.int (2 : Int32)), .val (.ref r2), .val (.int (2 : Int32))] []))
  refine oS (fun _ κ => XS.aloadN X17.here hx rfl (hb hby q11_32) rfl rfl κ) ?_
  obtain ⟨fs, hr, hrun, hended, hW, hsame⟩ := X17.leave (v := some (.ref r2)) (fun h => by rw [Bd.returns] at h; cases h)
  refine ⟨_, _, retOut X17 hx Bd.returns rfl (Or.inr (Or.inr (Or.inr (Or.inr ⟨rfl, rfl, rfl⟩)))) (hb hby q11_33) hr, hrun, hended, _, _, rfl, ?_, ⟨_, rfl⟩, hW, hsame.mono (by decide) (by decide)⟩
  show Q30 Z a ka c0 c1 h0 n0 _ T17.heap _
  skip
  exact ⟨r2, rfl, N17, K20, sz5, p17_0⟩
theorem ef_31 (m : MethodId) (a : Addr) : entryFrame m #[(.ref a), (.int (0 : Int32)), (.int (3 : Int32))] 5 = mkF m 0 #[.val (.ref a), .val (.int (0 : Int32)), .val (.int (3 : Int32)), .unset, .unset] [] := by first | (simp [entryFrame, mkF, argsToLocals, Value.category]; done) | rfl
def Q31 (Z : State) (a : Addr) (ka : ClassId) (c0 : Int32) (c1 : Int32) (c2 : Int32) (h0 : Heap) (n0 : Nat) (v : Option Value) (h : Heap) (L : List Loc) : Prop := ∃ r : Addr, v = some (.ref r) ∧ Fr n0 L ∧ Keep h0 h [] ∧ (h0.size ≤ r) ∧ (own_By Z h r (6 : Int32) (own_upd (own_upd (own_upd (own_upd (own_upd (own_upd own_zero 0 (own_bl c0)) (0 + 1) (own_bh c0)) 2 (own_bl c1)) (2 + 1) (own_bh c1)) 4 (own_bl c2)) (4 + 1) (own_bh c2)))
set_option maxRecDepth 65536 in
set_option maxHeartbeats 40000000 in
theorem rm31 (l : Launch) (Z : State) (a0 : Array Value) (hw : ∀ d ∈ tables_1, d.before a0 Z = true) (ws : List Jvm.Cond) (a : Addr) (ka : ClassId) (c0 : Int32) (c1 : Int32) (c2 : Int32) (h0 : Heap) (n0 : Nat) (Z0 : n0 ≤ h0.size) (P0 : Arv Z h0 a ka .char (3 : Int32) [(.int c0), (.int c1), (.int c2)] (.int (0 : Int32))) (P1 : Old Z n0 h0) (P2 : Sta Z Z.heap "java/lang/StringUTF16" "$assertionsDisabled" "Z" (.int (1 : Int32))) (P3 : Sta Z Z.heap "java/lang/StringUTF16" "HI_BYTE_SHIFT" "I" (.int (0 : Int32))) (P4 : Sta Z Z.heap "java/lang/StringUTF16" "LO_BYTE_SHIFT" "I" (.int (8 : Int32))) :
    MetFree l own_y21 (head1 (Jvm.Cond.code own_y21 jdk_52_method_14_code 5 (some (.array .byte)) :: ws) own_r12) (fun ar_ U => ar_ = #[(.ref a), (.int (0 : Int32)), (.int (3 : Int32))] ∧ Z.Warmed39 U.vm ∧ U.heap = h0) (fun _ _ _ _ _ => True) (fun _ U oo_ U' => ∃ v L, oo_ = .returned v ∧ Q31 Z a ka c0 c1 c2 h0 n0 v U'.heap L ∧ FrameEnd U oo_ U' L own_r12.cells own_r12.slots) := by
  refine MetFree.of_bodySF (plainFor_of_name pn_4) hisR ?_
  intro p e s m args below meth c s₁ Bd hml0 hP hK
  obtain ⟨rfl, hZ, hh⟩ := hP
  have hx := Bd.exec
  have hby := Bd.bytes
  have hml : c.maxLocals = 5 := hml0
  have hown : s.vm.findClass "java/lang/StringUTF16" = some m.cls := findClass_of_methodNamed Bd.named
  have hnm := (name_of_methodNamed Bd.named Bd.method).1
  have X0 : Stand p l e own_r12 s m #[(.ref a), (.int (0 : Int32)), (.int (3 : Int32))] below meth c s₁ [] 0 0 := Stand.of_body Bd
  have e0 : s₁.heap = h0 := by rw [← hh, Bd.state]; rfl
  have N0 := Fr.nil n0
  refine own_in (castTop (ef_31 m a)) ?_
  show oG _ _ _ _ (s₁.setTop (mkF m 0 #[.val (.ref a), .val (.int (0 : Int32)), .val (.int (3 : Int32)), .unset, .unset] []))
  refine oS (fun _ κ => XS.iloadN X0.here hx rfl (hb hby q11_0) rfl κ) ?_
  obtain ⟨vr1, _, ⟨T1, L1, k1, n1⟩, -, X1, ⟨Lc1, hQ1, l1, y1, z1⟩, st1⟩ := Jvm.LawKit.callS X0 hx (y := own_y18) hown (mvT hZ (own_w hw 80 rfl)) (mvT hZ (own_w hw 81 rfl)) (mvT hZ (own_w hw 44 rfl)) (mvT hZ (own_w hw 82 rfl)) (by decide) (backOf (W := 0) (rm27 l Z a0 hw []   h0 n0 Z0 ) hZ (own_w hw 82 rfl) (own_w hw 44 rfl) (by decide) (by decide)) (g := (mkF m 1 #[.val (.ref a), .val (.int (0 : Int32)), .val (.int (3 : Int32)), .unset, .unset] [(.int (3 : Int32))])) rfl (by rw [hml]; rfl) (argsL := [(.int (3 : Int32))]) (rest := []) (lenOf pd_8 rfl) rfl own_2z (hb hby q11_1) (fun _ _ => ⟨rfl, e0, (by decide : 0 + 1 ≤ _), (by decide : 0 + 6 ≤ _)⟩)
  dsimp only [Pt.U, Pt.locs, Pt.cells, Pt.slots] at X1 l1 y1 z1 st1 hQ1
  subst l1 y1 z1
  obtain ⟨r2, rfl, Nq1, Kq1, p1_0, p1_1⟩ := hQ1
  have N1 := Fr.app N0 Nq1
  have ne3 : a ≠ r2 := Nat.ne_of_lt (Nat.lt_of_lt_of_le P0.lt p1_0)
  have ge4 : n0 ≤ r2 := Nat.le_trans Z0 p1_0
  have sz5 : h0.size ≤ r2 := Nat.le_trans (Keep.refl h0 []).1 p1_0
  have f6 := P0.keep Kq1 nin0
  have f7 := P1.keep Kq1 all0
  have K8 : Keep h0 T1.heap [] := (Keep.refl h0 []).trans Kq1 all0
  have z9 : n0 ≤ T1.heap.size := Nat.le_trans Z0 Kq1.1
  refine oS st1 ?_
  show oG _ _ _ _ (T1.setTop (mkF m 4 #[.val (.ref a), .val (.int (0 : Int32)), .val (.int (3 : Int32)), .unset, .unset] [(.ref r2)]))
  refine oS (fun _ κ => XS.astoreN X1.here hx rfl (hb hby q11_4) rfl rfl (l' := #[.val (.ref a), .val (.int (0 : Int32)), .val (.int (3 : Int32)), .val (.ref r2), .unset]) rfl κ) ?_
  refine oS (fun _ κ => XS.iconst X1.here hx rfl (hb hby q11_5) κ) ?_
  refine oS (fun _ κ => XS.istore X1.here hx rfl (hb hby q11_6) rfl (l' := #[.val (.ref a), .val (.int (0 : Int32)), .val (.int (3 : Int32)), .val (.ref r2), .val (.int (0 : Int32))]) rfl κ) ?_
  refine oS (fun _ κ => XS.iload X1.here hx rfl (hb hby q11_8) rfl κ) ?_
  refine oS (fun _ κ => XS.iloadN X1.here hx rfl (hb hby q11_10) rfl κ) ?_
  refine oS (fun _ κ => XS.icmpNo X1.here hx rfl (hb hby q11_11) rfl (tlt (by decide)).2.1 κ) ?_
  show oG _ _ _ _ (T1.setTop (mkF m 14 #[.val (.ref a), .val (.int (0 : Int32)), .val (.int (3 : Int32)), .val (.ref r2), .val (.int (0 : Int32))] []))
  refine oS (fun _ κ => XS.aloadN X1.here hx rfl (hb hby q11_14) rfl rfl κ) ?_
  refine oS (fun _ κ => XS.iload X1.here hx rfl (hb hby q11_15) rfl κ) ?_
  refine oS (fun _ κ => XS.aloadN X1.here hx rfl (hb hby q11_17) rfl rfl κ) ?_
  refine oS (fun _ κ => XS.iloadN X1.here hx rfl (hb hby q11_18) rfl κ) ?_
  obtain ⟨cl10, Ar10, q10, Sz10, Nz10, Hs10, Gs10⟩ := id (f6)
  have hin10 := inb_of (j := (0 : Int32)) Sz10 ⟨by decide, by decide⟩
  have hat10 := Hs10.at (j := (0 : Int32)) hin10 rfl
  refine oS (fun _ κ => X1.caload hx (j := (0 : Int32)) (v := (.int c0)) Ar10.1 (State.isArrayOf_alike hZ.alike Ar10.2.1) Ar10.2.2 hin10 hat10 (g := (mkF m 19 #[.val (.ref a), .val (.int (0 : Int32)), .val (.int (3 : Int32)), .val (.ref r2), .val (.int (0 : Int32))] [(.int (0 : Int32)), (.ref a), (.int (0 : Int32)), (.ref r2)])) rfl rfl (hb hby q11_19) _ κ) ?_
  show oG _ _ _ _ (T1.setTop (mkF m 20 #[.val (.ref a), .val (.int (0 : Int32)), .val (.int (3 : Int32)), .val (.ref r2), .val (.int (0 : Int32))] [(.int c0), (.int (0 : Int32)), (.ref r2)]))
  obtain ⟨vr11, _, ⟨T11, L11, k11, n11⟩, -, X11, ⟨Lc11, hQ11, l11, y11, z11⟩, st11⟩ := Jvm.LawKit.callS X1 hx (y := own_y20) hown (mvT hZ (own_w hw 87 rfl)) (mvT hZ (own_w hw 88 rfl)) (mvT hZ (own_w hw 44 rfl)) (mvT hZ (own_w hw 89 rfl)) (by decide) (backOf (W := 0) (rm20 l Z a0 hw [] r2 (0 : Int32) c0 (6 : Int32) own_zero 0 T1.heap n0 z9 p1_1 ge4 f7 P2 P3 P4 (by decide) (by decide) (by decide) (by decide)) hZ (own_w hw 89 rfl) (own_w hw 44 rfl) (by decide) (by decide)) (g := (mkF m 20 #[.val (.ref a), .val (.int (0 : Int32)), .val (.int (3 : Int32)), .val (.ref r2), .val (.int (0 : Int32))] [(.int c0), (.int (0 : Int32)), (.ref r2)])) rfl (by rw [hml]; rfl) (argsL := [(.ref r2), (.int (0 : Int32)), (.int c0)]) (rest := []) (lenOf pd_9 rfl) rfl own_2z (hb hby q11_20) (fun _ _ => ⟨rfl, rfl, (by decide : 1 + 0 ≤ _), (by decide : 6 + 0 ≤ _)⟩)
  dsimp only [Pt.U, Pt.locs, Pt.cells, Pt.slots] at X11 l11 y11 z11 st11 hQ11
  subst l11 y11 z11
  obtain ⟨rfl, Nq11, Kq11, p11_0⟩ := hQ11
  have N11 := Fr.app N1 Nq11
  have f12 := f6.keep Kq11 (ninS ne3 nin0)
  have f13 := f7.keep Kq11 (allS ge4 all0)
  have K14 : Keep h0 T11.heap [] := K8.trans Kq11 (allS (Or.inr sz5) all0)
  have z15 : n0 ≤ T11.heap.size := Nat.le_trans z9 Kq11.1
  refine oS st11 ?_
  show oG _ _ _ _ (T11.setTop (mkF m 23 #[.val (.ref a), .val (.int (0 : Int32)), .val (.int (3 : Int32)), .val (.ref r2), .val (.int (0 : Int32))] []))
  refine oS (fun _ κ => XS.iinc X11.here hx rfl (hb hby q11_23) rfl (l' := #[.val (.ref a), .val (.int ((0 : Int32) + (1 : Int32))), .val (.int (3 : Int32)), .val (.ref r2), .val (.int (0 : Int32))]) rfl κ) ?_
  show oG _ _ _ _ (T11.setTop (mkF m 26 #[.val (.ref a), .val (.int ((0 : Int32) + (1 : Int32))), .val (.int (3 : Int32)), .val (.ref r2), .val (.int (0 : Int32))] []))
  rw [show (((0 : Int32) + (1 : Int32)) : Int32) = (1 : Int32) from by decide]
  show oG _ _ _ _ (T11.setTop (mkF m 26 #[.val (.ref a), .val (.int (1 : Int32)), .val (.int (3 : Int32)), .val (.ref r2), .val (.int (0 : Int32))] []))
  refine oS (fun _ κ => XS.iinc X11.here hx rfl (hb hby q11_26) rfl (l' := #[.val (.ref a), .val (.int (1 : Int32)), .val (.int (3 : Int32)), .val (.ref r2), .val (.int ((0 : Int32) + (1 : Int32)))]) rfl κ) ?_
  show oG _ _ _ _ (T11.setTop (mkF m 29 #[.val (.ref a), .val (.int (1 : Int32)), .val (.int (3 : Int32)), .val (.ref r2), .val (.int ((0 : Int32) + (1 : Int32)))] []))
  rw [show (((0 : Int32) + (1 : Int32)) : Int32) = (1 : Int32) from by decide]
  show oG _ _ _ _ (T11.setTop (mkF m 29 #[.val (.ref a), .val (.int (1 : Int32)), .val (.int (3 : Int32)), .val (.ref r2), .val (.int (1 : Int32))] []))
  refine oS (fun _ κ => XS.goto X11.here hx rfl (pc0 := 29) (pc' := 8) rfl (hb hby q11_29) (by decide) (by decide) κ) ?_
  show oG _ _ _ _ (T11.setTop (mkF m 8 #[.val (.ref a), .val (.int (1 : Int32)), .val (.int (3 : Int32)), .val (.ref r2), .val (.int (1 : Int32))] []))
  refine oS (fun _ κ => XS.iload X11.here hx rfl (hb hby q11_8) rfl κ) ?_
  refine oS (fun _ κ => XS.iloadN X11.here hx rfl (hb hby q11_10) rfl κ) ?_
  refine oS (fun _ κ => XS.icmpNo X11.here hx rfl (hb hby q11_11) rfl (tlt (by decide)).2.1 κ) ?_
  show oG _ _ _ _ (T11.setTop (mkF m 14 #[.val (.ref a), .val (.int (1 : Int32)), .val (.int (3 : Int32)), .val (.ref r2), .val (.int (1 : Int32))] []))
  refine oS (fun _ κ => XS.aloadN X11.here hx rfl (hb hby q11_14) rfl rfl κ) ?_
  refine oS (fun _ κ => XS.iload X11.here hx rfl (hb hby q11_15) rfl κ) ?_
  refine oS (fun _ κ => XS.aloadN X11.here hx rfl (hb hby q11_17) rfl rfl κ) ?_
  refine oS (fun _ κ => XS.iloadN X11.here hx rfl (hb hby q11_18) rfl κ) ?_
  obtain ⟨cl16, Ar16, q16, Sz16, Nz16, Hs16, Gs16⟩ := id (f12)
  have hin16 := inb_of (j := (1 : Int32)) Sz16 ⟨by decide, by decide⟩
  have hat16 := Hs16.at (j := (1 : Int32)) hin16 rfl
  refine oS (fun _ κ => X11.caload hx (j := (1 : Int32)) (v := (.int c1)) Ar16.1 (State.isArrayOf_alike hZ.alike Ar16.2.1) Ar16.2.2 hin16 hat16 (g := (mkF m 19 #[.val (.ref a), .val (.int (1 : Int32)), .val (.int (3 : Int32)), .val (.ref r2), .val (.int (1 : Int32))] [(.int (1 : Int32)), (.ref a), (.int (1 : Int32)), (.ref r2)])) rfl rfl (hb hby q11_19) _ κ) ?_
  show oG _ _ _ _ (T11.setTop (mkF m 20 #[.val (.ref a), .val (.int (1 : Int32)), .val (.int (3 : Int32)), .val (.ref r2), .val (.int (1 : Int32))] [(.int c1), (.int (1 : Int32)), (.ref r2)]))
  obtain ⟨vr17, _, ⟨T17, L17, k17, n17⟩, -, X17, ⟨Lc17, hQ17, l17, y17, z17⟩, st17⟩ := Jvm.LawKit.callS X11 hx (y := own_y20) hown (mvT hZ (own_w hw 87 rfl)) (mvT hZ (own_w hw 88 rfl)) (mvT hZ (own_w hw 44 rfl)) (mvT hZ (own_w hw 89 rfl)) (by decide) (backOf (W := 0) (rm20 l Z a0 hw [] r2 (1 : Int32) c1 (6 : Int32) (own_upd (own_upd own_zero 0 (own_bl c0)) (0 + 1) (own_bh c0)) 2 T11.heap n0 z15 p11_0 ge4 f13 P2 P3 P4 (by decide) (by decide) (by decide) (by decide)) hZ (own_w hw 89 rfl) (own_w hw 44 rfl) (by decide) (by decide)) (g := (mkF m 20 #[.val (.ref a), .val (.int (1 : Int32)), .val (.int (3 : Int32)), .val (.ref r2), .val (.int (1 : Int32))] [(.int c1), (.int (1 : Int32)), (.ref r2)])) rfl (by rw [hml]; rfl) (argsL := [(.ref r2), (.int (1 : Int32)), (.int c1)]) (rest := []) (lenOf pd_9 rfl) rfl own_2z (hb hby q11_20) (fun _ _ => ⟨rfl, rfl, (by decide : 1 + 0 ≤ _), (by decide : 6 + 0 ≤ _)⟩)
  dsimp only [Pt.U, Pt.locs, Pt.cells, Pt.slots] at X17 l17 y17 z17 st17 hQ17
  subst l17 y17 z17
  obtain ⟨rfl, Nq17, Kq17, p17_0⟩ := hQ17
  have N17 := Fr.app N11 Nq17
  have f18 := f12.keep Kq17 (ninS ne3 nin0)
  have f19 := f13.keep Kq17 (allS ge4 all0)
  have K20 : Keep h0 T17.heap [] := K14.trans Kq17 (allS (Or.inr sz5) all0)
  have z21 : n0 ≤ T17.heap.size := Nat.le_trans z15 Kq17.1
  refine oS st17 ?_
  show oG _ _ _ _ (T17.setTop (mkF m 23 #[.val (.ref a), .val (.int (1 : Int32)), .val (.int (3 : Int32)), .val (.ref r2), .val (.int (1 : Int32))] []))
  refine oS (fun _ κ => XS.iinc X17.here hx rfl (hb hby q11_23) rfl (l' := #[.val (.ref a), .val (.int ((1 : Int32) + (1 : Int32))), .val (.int (3 : Int32)), .val (.ref r2), .val (.int (1 : Int32))]) rfl κ) ?_
  show oG _ _ _ _ (T17.setTop (mkF m 26 #[.val (.ref a), .val (.int ((1 : Int32) + (1 : Int32))), .val (.int (3 : Int32)), .val (.ref r2), .val (.int (1 : Int32))] []))
  rw [show (((1 : Int32) + (1 : Int32)) : Int32) = (2 : Int32) from by decide]
  show oG _ _ _ _ (T17.setTop (mkF m 26 #[.val (.ref a), .val (.int (2 : Int32)), .val (.int (3 : Int32)), .val (.ref r2), .val (.int (1 : Int32))] []))
  refine oS (fun _ κ => XS.iinc X17.here hx rfl (hb hby q11_26) rfl (l' := #[.val (.ref a), .val (.int (2 : Int32)), .val (.int (3 : Int32)), .val (.ref r2), .val (.int ((1 : Int32) + (1 : Int32)))]) rfl κ) ?_
  show oG _ _ _ _ (T17.setTop (mkF m 29 #[.val (.ref a), .val (.int (2 : Int32)), .val (.int (3 : Int32)), .val (.ref r2), .val (.int ((1 : Int32) + (1 : Int32)))] []))
  rw [show (((1 : Int32) + (1 : Int32)) : Int32) = (2 : Int32) from by decide]
  show oG _ _ _ _ (T17.setTop (mkF m 29 #[.val (.ref a), .val (.int (2 : Int32)), .val (.int (3 : Int32)), .val (.ref r2), .val (.int (2 : Int32))] []))
  refine oS (fun _ κ => XS.goto X17.here hx rfl (pc0 := 29) (pc' := 8) rfl (hb hby q11_29) (by decide) (by decide) κ) ?_
  show oG _ _ _ _ (T17.setTop (mkF m 8 #[.val (.ref a), .val (.int (2 : Int32)), .val (.int (3 : Int32)), .val (.ref r2), .val (.int (2 : Int32))] []))
  refine oS (fun _ κ => XS.iload X17.here hx rfl (hb hby q11_8) rfl κ) ?_
  refine oS (fun _ κ => XS.iloadN X17.here hx rfl (hb hby q11_10) rfl κ) ?_
  refine oS (fun _ κ => XS.icmpNo X17.here hx rfl (hb hby q11_11) rfl (tlt (by decide)).2.1 κ) ?_
  show oG _ _ _ _ (T17.setTop (mkF m 14 #[.val (.ref a), .val (.int (2 : Int32)), .val (.int (3 : Int32)), .val (.ref r2), .val (.int (2 : Int32))] []))
  refine oS (fun _ κ => XS.aloadN X17.here hx rfl (hb hby q11_14) rfl rfl κ) ?_
  refine oS (fun _ κ => XS.iload X17.here hx rfl (hb hby q11_15) rfl κ) ?_
  refine oS (fun _ κ => XS.aloadN X17.here hx rfl (hb hby q11_17) rfl rfl κ) ?_
  refine oS (fun _ κ => XS.iloadN X17.here hx rfl (hb hby q11_18) rfl κ) ?_
  obtain ⟨cl22, Ar22, q22, Sz22, Nz22, Hs22, Gs22⟩ := id (f18)
  have hin22 := inb_of (j := (2 : Int32)) Sz22 ⟨by decide, by decide⟩
  have hat22 := Hs22.at (j := (2 : Int32)) hin22 rfl
  refine oS (fun _ κ => X17.caload hx (j := (2 : Int32)) (v := (.int c2)) Ar22.1 (State.isArrayOf_alike hZ.alike Ar22.2.1) Ar22.2.2 hin22 hat22 (g := (mkF m 19 #[.val (.ref a), .val (.int (2 : Int32)), .val (.int (3 : Int32)), .val (.ref r2), .val (.int (2 : Int32))] [(.int (2 : Int32)), (.ref a), (.int (2 : Int32)), (.ref r2)])) rfl rfl (hb hby q11_19) _ κ) ?_
  show oG _ _ _ _ (T17.setTop (mkF m 20 #[.val (.ref a), .val (.int (2 : Int32)), .val (.int (3 : Int32)), .val (.ref r2), .val (.int (2 : Int32))] [(.int c2), (.int (2 : Int32)), (.ref r2)]))
  obtain ⟨vr23, _, ⟨T23, L23, k23, n23⟩, -, X23, ⟨Lc23, hQ23, l23, y23, z23⟩, st23⟩ := Jvm.LawKit.callS X17 hx (y := own_y20) hown (mvT hZ (own_w hw 87 rfl)) (mvT hZ (own_w hw 88 rfl)) (mvT hZ (own_w hw 44 rfl)) (mvT hZ (own_w hw 89 rfl)) (by decide) (backOf (W := 0) (rm20 l Z a0 hw [] r2 (2 : Int32) c2 (6 : Int32) (own_upd (own_upd (own_upd (own_upd own_zero 0 (own_bl c0)) (0 + 1) (own_bh c0)) 2 (own_bl c1)) (2 + 1) (own_bh c1)) 4 T17.heap n0 z21 p17_0 ge4 f19 P2 P3 P4 (by decide) (by decide) (by decide) (by decide)) hZ (own_w hw 89 rfl) (own_w hw 44 rfl) (by decide) (by decide)) (g := (mkF m 20 #[.val (.ref a), .val (.int (2 : Int32)), .val (.int (3 : Int32)), .val (.ref r2), .val (.int (2 : Int32))] [(.int c2), (.int (2 : Int32)), (.ref r2)])) rfl (by rw [hml]; rfl) (argsL := [(.ref r2), (.int (2 : Int32)), (.int c2)]) (rest := []) (lenOf pd_9 rfl) rfl own_2z (hb hby q11_20) (fun _ _ => ⟨rfl, rfl, (by decide : 1 + 0 ≤ _), (by decide : 6 + 0 ≤ _)⟩)
  dsimp only [Pt.U, Pt.locs, Pt.cells, Pt.slots] at X23 l23 y23 z23 st23 hQ23
  subst l23 y23 z23
  obtain ⟨rfl, Nq23, Kq23, p23_0⟩ := hQ23
  have N23 := Fr.app N17 Nq23
  have f24 := f18.keep Kq23 (ninS ne3 nin0)
  have f25 := f19.keep Kq23 (allS ge4 all0)
  have K26 : Keep h0 T23.heap [] := K20.trans Kq23 (allS (Or.inr sz5) all0)
  have z27 : n0 ≤ T23.heap.size := Nat.le_trans z21 Kq23.1
  refine oS st23 ?_
  show oG _ _ _ _ (T23.setTop (mkF m 23 #[.val (.ref a), .val (.int (2 : Int32)), .val (.int (3 : Int32)), .val (.ref r2), .val (.int (2 : Int32))] []))
  refine oS (fun _ κ => XS.iinc X23.here hx rfl (hb hby q11_23) rfl (l' := #[.val (.ref a), .val (.int ((2 : Int32) + (1 : Int32))), .val (.int (3 : Int32)), .val (.ref r2), .val (.int (2 : Int32))]) rfl κ) ?_
  show oG _ _ _ _ (T23.setTop (mkF m 26 #[.val (.ref a), .val (.int ((2 : Int32) + (1 : Int32))), .val (.int (3 : Int32)), .val (.ref r2), .val (.int (2 : Int32))] []))
  rw [show (((2 : Int32) + (1 : Int32)) : Int32) = (3 : Int32) from by decide]
  show oG _ _ _ _ (T23.setTop (mkF m 26 #[.val (.ref a), .val (.int (3 : Int32)), .val (.int (3 : Int32)), .val (.ref r2), .val (.int (2 : Int32))] []))
  refine oS (fun _ κ => XS.iinc X23.here hx rfl (hb hby q11_26) rfl (l' := #[.val (.ref a), .val (.int (3 : Int32)), .val (.int (3 : Int32)), .val (.ref r2), .val (.int ((2 : Int32) + (1 : Int32)))]) rfl κ) ?_
  show oG _ _ _ _ (T23.setTop (mkF m 29 #[.val (.ref a), .val (.int (3 : Int32)), .val (.int (3 : Int32)), .val (.ref r2), .val (.int ((2 : Int32) + (1 : Int32)))] []))
  rw [show (((2 : Int32) + (1 : Int32)) : Int32) = (3 : Int32) from by decide]
  show oG _ _ _ _ (T23.setTop (mkF m 29 #[.val (.ref a), .val (.int (3 : Int32)), .val (.int (3 : Int32)), .val (.ref r2), .val (.int (3 : Int32))] []))
  refine oS (fun _ κ => XS.goto X23.here hx rfl (pc0 := 29) (pc' := 8) rfl (hb hby q11_29) (by decide) (by decide) κ) ?_
  show oG _ _ _ _ (T23.setTop (mkF m 8 #[.val (.ref a), .val (.int (3 : Int32)), .val (.int (3 : Int32)), .val (.ref r2), .val (.int (3 : Int32))] []))
  refine oS (fun _ κ => XS.iload X23.here hx rfl (hb hby q11_8) rfl κ) ?_
  refine oS (fun _ κ => XS.iloadN X23.here hx rfl (hb hby q11_10) rfl κ) ?_
  refine oS (fun _ κ => XS.icmpYes X23.here hx rfl (pc0 := 11) (pc' := 32) rfl (hb hby q11_11) rfl (flt (by decide)).2.1 (by decide) (by decide) κ) ?_
  show oG _ _ _ _ (T23.setTop (mkF m 32 #[.val (.ref a), .val (.int (3 : Int32)), .val (.int (3 : Int32)), .val (.ref r2), .val (.int (3 : Int32))] []))
  refine oS (fun _ κ => XS.aloadN X23.here hx rfl (hb hby q11_32) rfl rfl κ) ?_
  obtain ⟨fs, hr, hrun, hended, hW, hsame⟩ := X23.leave (v := some (.ref r2)) (fun h => by rw [Bd.returns] at h; cases h)
  refine ⟨_, _, retOut X23 hx Bd.returns rfl (Or.inr (Or.inr (Or.inr (Or.inr ⟨rfl, rfl, rfl⟩)))) (hb hby q11_33) hr, hrun, hended, _, _, rfl, ?_, ⟨_, rfl⟩, hW, hsame.mono (by decide) (by decide)⟩
  show Q31 Z a ka c0 c1 c2 h0 n0 _ T23.heap _
  skip
  exact ⟨r2, rfl, N23, K26, sz5, p23_0⟩
theorem ef_32 (m : MethodId) (a : Addr) : entryFrame m #[(.ref a), (.int (0 : Int32)), (.int (4 : Int32))] 5 = mkF m 0 #[.val (.ref a), .val (.int (0 : Int32)), .val (.int (4 : Int32)), .unset, .unset] [] := by first | (simp [entryFrame, mkF, argsToLocals, Value.category]; done) | rfl
def Q32 (Z : State) (a : Addr) (ka : ClassId) (c0 : Int32) (c1 : Int32) (c2 : Int32) (c3 : Int32) (h0 : Heap) (n0 : Nat) (v : Option Value) (h : Heap) (L : List Loc) : Prop := ∃ r : Addr, v = some (.ref r) ∧ Fr n0 L ∧ Keep h0 h [] ∧ (h0.size ≤ r) ∧ (own_By Z h r (8 : Int32) (own_upd (own_upd (own_upd (own_upd (own_upd (own_upd (own_upd (own_upd own_zero 0 (own_bl c0)) (0 + 1) (own_bh c0)) 2 (own_bl c1)) (2 + 1) (own_bh c1)) 4 (own_bl c2)) (4 + 1) (own_bh c2)) 6 (own_bl c3)) (6 + 1) (own_bh c3)))
set_option maxRecDepth 65536 in
set_option maxHeartbeats 40000000 in
theorem rm32 (l : Launch) (Z : State) (a0 : Array Value) (hw : ∀ d ∈ tables_1, d.before a0 Z = true) (ws : List Jvm.Cond) (a : Addr) (ka : ClassId) (c0 : Int32) (c1 : Int32) (c2 : Int32) (c3 : Int32) (h0 : Heap) (n0 : Nat) (Z0 : n0 ≤ h0.size) (P0 : Arv Z h0 a ka .char (4 : Int32) [(.int c0), (.int c1), (.int c2), (.int c3)] (.int (0 : Int32))) (P1 : Old Z n0 h0) (P2 : Sta Z Z.heap "java/lang/StringUTF16" "$assertionsDisabled" "Z" (.int (1 : Int32))) (P3 : Sta Z Z.heap "java/lang/StringUTF16" "HI_BYTE_SHIFT" "I" (.int (0 : Int32))) (P4 : Sta Z Z.heap "java/lang/StringUTF16" "LO_BYTE_SHIFT" "I" (.int (8 : Int32))) :
    MetFree l own_y21 (head1 (Jvm.Cond.code own_y21 jdk_52_method_14_code 5 (some (.array .byte)) :: ws) own_r13) (fun ar_ U => ar_ = #[(.ref a), (.int (0 : Int32)), (.int (4 : Int32))] ∧ Z.Warmed39 U.vm ∧ U.heap = h0) (fun _ _ _ _ _ => True) (fun _ U oo_ U' => ∃ v L, oo_ = .returned v ∧ Q32 Z a ka c0 c1 c2 c3 h0 n0 v U'.heap L ∧ FrameEnd U oo_ U' L own_r13.cells own_r13.slots) := by
  refine MetFree.of_bodySF (plainFor_of_name pn_4) hisR ?_
  intro p e s m args below meth c s₁ Bd hml0 hP hK
  obtain ⟨rfl, hZ, hh⟩ := hP
  have hx := Bd.exec
  have hby := Bd.bytes
  have hml : c.maxLocals = 5 := hml0
  have hown : s.vm.findClass "java/lang/StringUTF16" = some m.cls := findClass_of_methodNamed Bd.named
  have hnm := (name_of_methodNamed Bd.named Bd.method).1
  have X0 : Stand p l e own_r13 s m #[(.ref a), (.int (0 : Int32)), (.int (4 : Int32))] below meth c s₁ [] 0 0 := Stand.of_body Bd
  have e0 : s₁.heap = h0 := by rw [← hh, Bd.state]; rfl
  have N0 := Fr.nil n0
  refine own_in (castTop (ef_32 m a)) ?_
  show oG _ _ _ _ (s₁.setTop (mkF m 0 #[.val (.ref a), .val (.int (0 : Int32)), .val (.int (4 : Int32)), .unset, .unset] []))
  refine oS (fun _ κ => XS.iloadN X0.here hx rfl (hb hby q11_0) rfl κ) ?_
  obtain ⟨vr1, _, ⟨T1, L1, k1, n1⟩, -, X1, ⟨Lc1, hQ1, l1, y1, z1⟩, st1⟩ := Jvm.LawKit.callS X0 hx (y := own_y18) hown (mvT hZ (own_w hw 80 rfl)) (mvT hZ (own_w hw 81 rfl)) (mvT hZ (own_w hw 44 rfl)) (mvT hZ (own_w hw 82 rfl)) (by decide) (backOf (W := 0) (rm28 l Z a0 hw []   h0 n0 Z0 ) hZ (own_w hw 82 rfl) (own_w hw 44 rfl) (by decide) (by decide)) (g := (mkF m 1 #[.val (.ref a), .val (.int (0 : Int32)), .val (.int (4 : Int32)), .unset, .unset] [(.int (4 : Int32))])) rfl (by rw [hml]; rfl) (argsL := [(.int (4 : Int32))]) (rest := []) (lenOf pd_8 rfl) rfl own_2z (hb hby q11_1) (fun _ _ => ⟨rfl, e0, (by decide : 0 + 1 ≤ _), (by decide : 0 + 8 ≤ _)⟩)
  dsimp only [Pt.U, Pt.locs, Pt.cells, Pt.slots] at X1 l1 y1 z1 st1 hQ1
  subst l1 y1 z1
  obtain ⟨r2, rfl, Nq1, Kq1, p1_0, p1_1⟩ := hQ1
  have N1 := Fr.app N0 Nq1
  have ne3 : a ≠ r2 := Nat.ne_of_lt (Nat.lt_of_lt_of_le P0.lt p1_0)
  have ge4 : n0 ≤ r2 := Nat.le_trans Z0 p1_0
  have sz5 : h0.size ≤ r2 := Nat.le_trans (Keep.refl h0 []).1 p1_0
  have f6 := P0.keep Kq1 nin0
  have f7 := P1.keep Kq1 all0
  have K8 : Keep h0 T1.heap [] := (Keep.refl h0 []).trans Kq1 all0
  have z9 : n0 ≤ T1.heap.size := Nat.le_trans Z0 Kq1.1
  refine oS st1 ?_
  show oG _ _ _ _ (T1.setTop (mkF m 4 #[.val (.ref a), .val (.int (0 : Int32)), .val (.int (4 : Int32)), .unset, .unset] [(.ref r2)]))
  refine oS (fun _ κ => XS.astoreN X1.here hx rfl (hb hby q11_4) rfl rfl (l' := #[.val (.ref a), .val (.int (0 : Int32)), .val (.int (4 : Int32)), .val (.ref r2), .unset]) rfl κ) ?_
  refine oS (fun _ κ => XS.iconst X1.here hx rfl (hb hby q11_5) κ) ?_
  refine oS (fun _ κ => XS.istore X1.here hx rfl (hb hby q11_6) rfl (l' := #[.val (.ref a), .val (.int (0 : Int32)), .val (.int (4 : Int32)), .val (.ref r2), .val (.int (0 : Int32))]) rfl κ) ?_
  refine oS (fun _ κ => XS.iload X1.here hx rfl (hb hby q11_8) rfl κ) ?_
  refine oS (fun _ κ => XS.iloadN X1.here hx rfl (hb hby q11_10) rfl κ) ?_
  refine oS (fun _ κ => XS.icmpNo X1.here hx rfl (hb hby q11_11) rfl (tlt (by decide)).2.1 κ) ?_
  show oG _ _ _ _ (T1.setTop (mkF m 14 #[.val (.ref a), .val (.int (0 : Int32)), .val (.int (4 : Int32)), .val (.ref r2), .val (.int (0 : Int32))] []))
  refine oS (fun _ κ => XS.aloadN X1.here hx rfl (hb hby q11_14) rfl rfl κ) ?_
  refine oS (fun _ κ => XS.iload X1.here hx rfl (hb hby q11_15) rfl κ) ?_
  refine oS (fun _ κ => XS.aloadN X1.here hx rfl (hb hby q11_17) rfl rfl κ) ?_
  refine oS (fun _ κ => XS.iloadN X1.here hx rfl (hb hby q11_18) rfl κ) ?_
  obtain ⟨cl10, Ar10, q10, Sz10, Nz10, Hs10, Gs10⟩ := id (f6)
  have hin10 := inb_of (j := (0 : Int32)) Sz10 ⟨by decide, by decide⟩
  have hat10 := Hs10.at (j := (0 : Int32)) hin10 rfl
  refine oS (fun _ κ => X1.caload hx (j := (0 : Int32)) (v := (.int c0)) Ar10.1 (State.isArrayOf_alike hZ.alike Ar10.2.1) Ar10.2.2 hin10 hat10 (g := (mkF m 19 #[.val (.ref a), .val (.int (0 : Int32)), .val (.int (4 : Int32)), .val (.ref r2), .val (.int (0 : Int32))] [(.int (0 : Int32)), (.ref a), (.int (0 : Int32)), (.ref r2)])) rfl rfl (hb hby q11_19) _ κ) ?_
  show oG _ _ _ _ (T1.setTop (mkF m 20 #[.val (.ref a), .val (.int (0 : Int32)), .val (.int (4 : Int32)), .val (.ref r2), .val (.int (0 : Int32))] [(.int c0), (.int (0 : Int32)), (.ref r2)]))
  obtain ⟨vr11, _, ⟨T11, L11, k11, n11⟩, -, X11, ⟨Lc11, hQ11, l11, y11, z11⟩, st11⟩ := Jvm.LawKit.callS X1 hx (y := own_y20) hown (mvT hZ (own_w hw 87 rfl)) (mvT hZ (own_w hw 88 rfl)) (mvT hZ (own_w hw 44 rfl)) (mvT hZ (own_w hw 89 rfl)) (by decide) (backOf (W := 0) (rm20 l Z a0 hw [] r2 (0 : Int32) c0 (8 : Int32) own_zero 0 T1.heap n0 z9 p1_1 ge4 f7 P2 P3 P4 (by decide) (by decide) (by decide) (by decide)) hZ (own_w hw 89 rfl) (own_w hw 44 rfl) (by decide) (by decide)) (g := (mkF m 20 #[.val (.ref a), .val (.int (0 : Int32)), .val (.int (4 : Int32)), .val (.ref r2), .val (.int (0 : Int32))] [(.int c0), (.int (0 : Int32)), (.ref r2)])) rfl (by rw [hml]; rfl) (argsL := [(.ref r2), (.int (0 : Int32)), (.int c0)]) (rest := []) (lenOf pd_9 rfl) rfl own_2z (hb hby q11_20) (fun _ _ => ⟨rfl, rfl, (by decide : 1 + 0 ≤ _), (by decide : 8 + 0 ≤ _)⟩)
  dsimp only [Pt.U, Pt.locs, Pt.cells, Pt.slots] at X11 l11 y11 z11 st11 hQ11
  subst l11 y11 z11
  obtain ⟨rfl, Nq11, Kq11, p11_0⟩ := hQ11
  have N11 := Fr.app N1 Nq11
  have f12 := f6.keep Kq11 (ninS ne3 nin0)
  have f13 := f7.keep Kq11 (allS ge4 all0)
  have K14 : Keep h0 T11.heap [] := K8.trans Kq11 (allS (Or.inr sz5) all0)
  have z15 : n0 ≤ T11.heap.size := Nat.le_trans z9 Kq11.1
  refine oS st11 ?_
  show oG _ _ _ _ (T11.setTop (mkF m 23 #[.val (.ref a), .val (.int (0 : Int32)), .val (.int (4 : Int32)), .val (.ref r2), .val (.int (0 : Int32))] []))
  refine oS (fun _ κ => XS.iinc X11.here hx rfl (hb hby q11_23) rfl (l' := #[.val (.ref a), .val (.int ((0 : Int32) + (1 : Int32))), .val (.int (4 : Int32)), .val (.ref r2), .val (.int (0 : Int32))]) rfl κ) ?_
  show oG _ _ _ _ (T11.setTop (mkF m 26 #[.val (.ref a), .val (.int ((0 : Int32) + (1 : Int32))), .val (.int (4 : Int32)), .val (.ref r2), .val (.int (0 : Int32))] []))
  rw [show (((0 : Int32) + (1 : Int32)) : Int32) = (1 : Int32) from by decide]
  show oG _ _ _ _ (T11.setTop (mkF m 26 #[.val (.ref a), .val (.int (1 : Int32)), .val (.int (4 : Int32)), .val (.ref r2), .val (.int (0 : Int32))] []))
  refine oS (fun _ κ => XS.iinc X11.here hx rfl (hb hby q11_26) rfl (l' := #[.val (.ref a), .val (.int (1 : Int32)), .val (.int (4 : Int32)), .val (.ref r2), .val (.int ((0 : Int32) + (1 : Int32)))]) rfl κ) ?_
  show oG _ _ _ _ (T11.setTop (mkF m 29 #[.val (.ref a), .val (.int (1 : Int32)), .val (.int (4 : Int32)), .val (.ref r2), .val (.int ((0 : Int32) + (1 : Int32)))] []))
  rw [show (((0 : Int32) + (1 : Int32)) : Int32) = (1 : Int32) from by decide]
  show oG _ _ _ _ (T11.setTop (mkF m 29 #[.val (.ref a), .val (.int (1 : Int32)), .val (.int (4 : Int32)), .val (.ref r2), .val (.int (1 : Int32))] []))
  refine oS (fun _ κ => XS.goto X11.here hx rfl (pc0 := 29) (pc' := 8) rfl (hb hby q11_29) (by decide) (by decide) κ) ?_
  show oG _ _ _ _ (T11.setTop (mkF m 8 #[.val (.ref a), .val (.int (1 : Int32)), .val (.int (4 : Int32)), .val (.ref r2), .val (.int (1 : Int32))] []))
  refine oS (fun _ κ => XS.iload X11.here hx rfl (hb hby q11_8) rfl κ) ?_
  refine oS (fun _ κ => XS.iloadN X11.here hx rfl (hb hby q11_10) rfl κ) ?_
  refine oS (fun _ κ => XS.icmpNo X11.here hx rfl (hb hby q11_11) rfl (tlt (by decide)).2.1 κ) ?_
  show oG _ _ _ _ (T11.setTop (mkF m 14 #[.val (.ref a), .val (.int (1 : Int32)), .val (.int (4 : Int32)), .val (.ref r2), .val (.int (1 : Int32))] []))
  refine oS (fun _ κ => XS.aloadN X11.here hx rfl (hb hby q11_14) rfl rfl κ) ?_
  refine oS (fun _ κ => XS.iload X11.here hx rfl (hb hby q11_15) rfl κ) ?_
  refine oS (fun _ κ => XS.aloadN X11.here hx rfl (hb hby q11_17) rfl rfl κ) ?_
  refine oS (fun _ κ => XS.iloadN X11.here hx rfl (hb hby q11_18) rfl κ) ?_
  obtain ⟨cl16, Ar16, q16, Sz16, Nz16, Hs16, Gs16⟩ := id (f12)
  have hin16 := inb_of (j := (1 : Int32)) Sz16 ⟨by decide, by decide⟩
  have hat16 := Hs16.at (j := (1 : Int32)) hin16 rfl
  refine oS (fun _ κ => X11.caload hx (j := (1 : Int32)) (v := (.int c1)) Ar16.1 (State.isArrayOf_alike hZ.alike Ar16.2.1) Ar16.2.2 hin16 hat16 (g := (mkF m 19 #[.val (.ref a), .val (.int (1 : Int32)), .val (.int (4 : Int32)), .val (.ref r2), .val (.int (1 : Int32))] [(.int (1 : Int32)), (.ref a), (.int (1 : Int32)), (.ref r2)])) rfl rfl (hb hby q11_19) _ κ) ?_
  show oG _ _ _ _ (T11.setTop (mkF m 20 #[.val (.ref a), .val (.int (1 : Int32)), .val (.int (4 : Int32)), .val (.ref r2), .val (.int (1 : Int32))] [(.int c1), (.int (1 : Int32)), (.ref r2)]))
  obtain ⟨vr17, _, ⟨T17, L17, k17, n17⟩, -, X17, ⟨Lc17, hQ17, l17, y17, z17⟩, st17⟩ := Jvm.LawKit.callS X11 hx (y := own_y20) hown (mvT hZ (own_w hw 87 rfl)) (mvT hZ (own_w hw 88 rfl)) (mvT hZ (own_w hw 44 rfl)) (mvT hZ (own_w hw 89 rfl)) (by decide) (backOf (W := 0) (rm20 l Z a0 hw [] r2 (1 : Int32) c1 (8 : Int32) (own_upd (own_upd own_zero 0 (own_bl c0)) (0 + 1) (own_bh c0)) 2 T11.heap n0 z15 p11_0 ge4 f13 P2 P3 P4 (by decide) (by decide) (by decide) (by decide)) hZ (own_w hw 89 rfl) (own_w hw 44 rfl) (by decide) (by decide)) (g := (mkF m 20 #[.val (.ref a), .val (.int (1 : Int32)), .val (.int (4 : Int32)), .val (.ref r2), .val (.int (1 : Int32))] [(.int c1), (.int (1 : Int32)), (.ref r2)])) rfl (by rw [hml]; rfl) (argsL := [(.ref r2), (.int (1 : Int32)), (.int c1)]) (rest := []) (lenOf pd_9 rfl) rfl own_2z (hb hby q11_20) (fun _ _ => ⟨rfl, rfl, (by decide : 1 + 0 ≤ _), (by decide : 8 + 0 ≤ _)⟩)
  dsimp only [Pt.U, Pt.locs, Pt.cells, Pt.slots] at X17 l17 y17 z17 st17 hQ17
  subst l17 y17 z17
  obtain ⟨rfl, Nq17, Kq17, p17_0⟩ := hQ17
  have N17 := Fr.app N11 Nq17
  have f18 := f12.keep Kq17 (ninS ne3 nin0)
  have f19 := f13.keep Kq17 (allS ge4 all0)
  have K20 : Keep h0 T17.heap [] := K14.trans Kq17 (allS (Or.inr sz5) all0)
  have z21 : n0 ≤ T17.heap.size := Nat.le_trans z15 Kq17.1
  refine oS st17 ?_
  show oG _ _ _ _ (T17.setTop (mkF m 23 #[.val (.ref a), .val (.int (1 : Int32)), .val (.int (4 : Int32)), .val (.ref r2), .val (.int (1 : Int32))] []))
  refine oS (fun _ κ => XS.iinc X17.here hx rfl (hb hby q11_23) rfl (l' := #[.val (.ref a), .val (.int ((1 : Int32) + (1 : Int32))), .val (.int (4 : Int32)), .val (.ref r2), .val (.int (1 : Int32))]) rfl κ) ?_
  show oG _ _ _ _ (T17.setTop (mkF m 26 #[.val (.ref a), .val (.int ((1 : Int32) + (1 : Int32))), .val (.int (4 : Int32)), .val (.ref r2), .val (.int (1 : Int32))] []))
  rw [show (((1 : Int32) + (1 : Int32)) : Int32) = (2 : Int32) from by decide]
  show oG _ _ _ _ (T17.setTop (mkF m 26 #[.val (.ref a), .val (.int (2 : Int32)), .val (.int (4 : Int32)), .val (.ref r2), .val (.int (1 : Int32))] []))
  refine oS (fun _ κ => XS.iinc X17.here hx rfl (hb hby q11_26) rfl (l' := #[.val (.ref a), .val (.int (2 : Int32)), .val (.int (4 : Int32)), .val (.ref r2), .val (.int ((1 : Int32) + (1 : Int32)))]) rfl κ) ?_
  show oG _ _ _ _ (T17.setTop (mkF m 29 #[.val (.ref a), .val (.int (2 : Int32)), .val (.int (4 : Int32)), .val (.ref r2), .val (.int ((1 : Int32) + (1 : Int32)))] []))
  rw [show (((1 : Int32) + (1 : Int32)) : Int32) = (2 : Int32) from by decide]
  show oG _ _ _ _ (T17.setTop (mkF m 29 #[.val (.ref a), .val (.int (2 : Int32)), .val (.int (4 : Int32)), .val (.ref r2), .val (.int (2 : Int32))] []))
  refine oS (fun _ κ => XS.goto X17.here hx rfl (pc0 := 29) (pc' := 8) rfl (hb hby q11_29) (by decide) (by decide) κ) ?_
  show oG _ _ _ _ (T17.setTop (mkF m 8 #[.val (.ref a), .val (.int (2 : Int32)), .val (.int (4 : Int32)), .val (.ref r2), .val (.int (2 : Int32))] []))
  refine oS (fun _ κ => XS.iload X17.here hx rfl (hb hby q11_8) rfl κ) ?_
  refine oS (fun _ κ => XS.iloadN X17.here hx rfl (hb hby q11_10) rfl κ) ?_
  refine oS (fun _ κ => XS.icmpNo X17.here hx rfl (hb hby q11_11) rfl (tlt (by decide)).2.1 κ) ?_
  show oG _ _ _ _ (T17.setTop (mkF m 14 #[.val (.ref a), .val (.int (2 : Int32)), .val (.int (4 : Int32)), .val (.ref r2), .val (.int (2 : Int32))] []))
  refine oS (fun _ κ => XS.aloadN X17.here hx rfl (hb hby q11_14) rfl rfl κ) ?_
  refine oS (fun _ κ => XS.iload X17.here hx rfl (hb hby q11_15) rfl κ) ?_
  refine oS (fun _ κ => XS.aloadN X17.here hx rfl (hb hby q11_17) rfl rfl κ) ?_
  refine oS (fun _ κ => XS.iloadN X17.here hx rfl (hb hby q11_18) rfl κ) ?_
  obtain ⟨cl22, Ar22, q22, Sz22, Nz22, Hs22, Gs22⟩ := id (f18)
  have hin22 := inb_of (j := (2 : Int32)) Sz22 ⟨by decide, by decide⟩
  have hat22 := Hs22.at (j := (2 : Int32)) hin22 rfl
  refine oS (fun _ κ => X17.caload hx (j := (2 : Int32)) (v := (.int c2)) Ar22.1 (State.isArrayOf_alike hZ.alike Ar22.2.1) Ar22.2.2 hin22 hat22 (g := (mkF m 19 #[.val (.ref a), .val (.int (2 : Int32)), .val (.int (4 : Int32)), .val (.ref r2), .val (.int (2 : Int32))] [(.int (2 : Int32)), (.ref a), (.int (2 : Int32)), (.ref r2)])) rfl rfl (hb hby q11_19) _ κ) ?_
  show oG _ _ _ _ (T17.setTop (mkF m 20 #[.val (.ref a), .val (.int (2 : Int32)), .val (.int (4 : Int32)), .val (.ref r2), .val (.int (2 : Int32))] [(.int c2), (.int (2 : Int32)), (.ref r2)]))
  obtain ⟨vr23, _, ⟨T23, L23, k23, n23⟩, -, X23, ⟨Lc23, hQ23, l23, y23, z23⟩, st23⟩ := Jvm.LawKit.callS X17 hx (y := own_y20) hown (mvT hZ (own_w hw 87 rfl)) (mvT hZ (own_w hw 88 rfl)) (mvT hZ (own_w hw 44 rfl)) (mvT hZ (own_w hw 89 rfl)) (by decide) (backOf (W := 0) (rm20 l Z a0 hw [] r2 (2 : Int32) c2 (8 : Int32) (own_upd (own_upd (own_upd (own_upd own_zero 0 (own_bl c0)) (0 + 1) (own_bh c0)) 2 (own_bl c1)) (2 + 1) (own_bh c1)) 4 T17.heap n0 z21 p17_0 ge4 f19 P2 P3 P4 (by decide) (by decide) (by decide) (by decide)) hZ (own_w hw 89 rfl) (own_w hw 44 rfl) (by decide) (by decide)) (g := (mkF m 20 #[.val (.ref a), .val (.int (2 : Int32)), .val (.int (4 : Int32)), .val (.ref r2), .val (.int (2 : Int32))] [(.int c2), (.int (2 : Int32)), (.ref r2)])) rfl (by rw [hml]; rfl) (argsL := [(.ref r2), (.int (2 : Int32)), (.int c2)]) (rest := []) (lenOf pd_9 rfl) rfl own_2z (hb hby q11_20) (fun _ _ => ⟨rfl, rfl, (by decide : 1 + 0 ≤ _), (by decide : 8 + 0 ≤ _)⟩)
  dsimp only [Pt.U, Pt.locs, Pt.cells, Pt.slots] at X23 l23 y23 z23 st23 hQ23
  subst l23 y23 z23
  obtain ⟨rfl, Nq23, Kq23, p23_0⟩ := hQ23
  have N23 := Fr.app N17 Nq23
  have f24 := f18.keep Kq23 (ninS ne3 nin0)
  have f25 := f19.keep Kq23 (allS ge4 all0)
  have K26 : Keep h0 T23.heap [] := K20.trans Kq23 (allS (Or.inr sz5) all0)
  have z27 : n0 ≤ T23.heap.size := Nat.le_trans z21 Kq23.1
  refine oS st23 ?_
  show oG _ _ _ _ (T23.setTop (mkF m 23 #[.val (.ref a), .val (.int (2 : Int32)), .val (.int (4 : Int32)), .val (.ref r2), .val (.int (2 : Int32))] []))
  refine oS (fun _ κ => XS.iinc X23.here hx rfl (hb hby q11_23) rfl (l' := #[.val (.ref a), .val (.int ((2 : Int32) + (1 : Int32))), .val (.int (4 : Int32)), .val (.ref r2), .val (.int (2 : Int32))]) rfl κ) ?_
  show oG _ _ _ _ (T23.setTop (mkF m 26 #[.val (.ref a), .val (.int ((2 : Int32) + (1 : Int32))), .val (.int (4 : Int32)), .val (.ref r2), .val (.int (2 : Int32))] []))
  rw [show (((2 : Int32) + (1 : Int32)) : Int32) = (3 : Int32) from by decide]
  show oG _ _ _ _ (T23.setTop (mkF m 26 #[.val (.ref a), .val (.int (3 : Int32)), .val (.int (4 : Int32)), .val (.ref r2), .val (.int (2 : Int32))] []))
  refine oS (fun _ κ => XS.iinc X23.here hx rfl (hb hby q11_26) rfl (l' := #[.val (.ref a), .val (.int (3 : Int32)), .val (.int (4 : Int32)), .val (.ref r2), .val (.int ((2 : Int32) + (1 : Int32)))]) rfl κ) ?_
  show oG _ _ _ _ (T23.setTop (mkF m 29 #[.val (.ref a), .val (.int (3 : Int32)), .val (.int (4 : Int32)), .val (.ref r2), .val (.int ((2 : Int32) + (1 : Int32)))] []))
  rw [show (((2 : Int32) + (1 : Int32)) : Int32) = (3 : Int32) from by decide]
  show oG _ _ _ _ (T23.setTop (mkF m 29 #[.val (.ref a), .val (.int (3 : Int32)), .val (.int (4 : Int32)), .val (.ref r2), .val (.int (3 : Int32))] []))
  refine oS (fun _ κ => XS.goto X23.here hx rfl (pc0 := 29) (pc' := 8) rfl (hb hby q11_29) (by decide) (by decide) κ) ?_
  show oG _ _ _ _ (T23.setTop (mkF m 8 #[.val (.ref a), .val (.int (3 : Int32)), .val (.int (4 : Int32)), .val (.ref r2), .val (.int (3 : Int32))] []))
  refine oS (fun _ κ => XS.iload X23.here hx rfl (hb hby q11_8) rfl κ) ?_
  refine oS (fun _ κ => XS.iloadN X23.here hx rfl (hb hby q11_10) rfl κ) ?_
  refine oS (fun _ κ => XS.icmpNo X23.here hx rfl (hb hby q11_11) rfl (tlt (by decide)).2.1 κ) ?_
  show oG _ _ _ _ (T23.setTop (mkF m 14 #[.val (.ref a), .val (.int (3 : Int32)), .val (.int (4 : Int32)), .val (.ref r2), .val (.int (3 : Int32))] []))
  refine oS (fun _ κ => XS.aloadN X23.here hx rfl (hb hby q11_14) rfl rfl κ) ?_
  refine oS (fun _ κ => XS.iload X23.here hx rfl (hb hby q11_15) rfl κ) ?_
  refine oS (fun _ κ => XS.aloadN X23.here hx rfl (hb hby q11_17) rfl rfl κ) ?_
  refine oS (fun _ κ => XS.iloadN X23.here hx rfl (hb hby q11_18) rfl κ) ?_
  obtain ⟨cl28, Ar28, q28, Sz28, Nz28, Hs28, Gs28⟩ := id (f24)
  have hin28 := inb_of (j := (3 : Int32)) Sz28 ⟨by decide, by decide⟩
  have hat28 := Hs28.at (j := (3 : Int32)) hin28 rfl
  refine oS (fun _ κ => X23.caload hx (j := (3 : Int32)) (v := (.int c3)) Ar28.1 (State.isArrayOf_alike hZ.alike Ar28.2.1) Ar28.2.2 hin28 hat28 (g := (mkF m 19 #[.val (.ref a), .val (.int (3 : Int32)), .val (.int (4 : Int32)), .val (.ref r2), .val (.int (3 : Int32))] [(.int (3 : Int32)), (.ref a), (.int (3 : Int32)), (.ref r2)])) rfl rfl (hb hby q11_19) _ κ) ?_
  show oG _ _ _ _ (T23.setTop (mkF m 20 #[.val (.ref a), .val (.int (3 : Int32)), .val (.int (4 : Int32)), .val (.ref r2), .val (.int (3 : Int32))] [(.int c3), (.int (3 : Int32)), (.ref r2)]))
  obtain ⟨vr29, _, ⟨T29, L29, k29, n29⟩, -, X29, ⟨Lc29, hQ29, l29, y29, z29⟩, st29⟩ := Jvm.LawKit.callS X23 hx (y := own_y20) hown (mvT hZ (own_w hw 87 rfl)) (mvT hZ (own_w hw 88 rfl)) (mvT hZ (own_w hw 44 rfl)) (mvT hZ (own_w hw 89 rfl)) (by decide) (backOf (W := 0) (rm20 l Z a0 hw [] r2 (3 : Int32) c3 (8 : Int32) (own_upd (own_upd (own_upd (own_upd (own_upd (own_upd own_zero 0 (own_bl c0)) (0 + 1) (own_bh c0)) 2 (own_bl c1)) (2 + 1) (own_bh c1)) 4 (own_bl c2)) (4 + 1) (own_bh c2)) 6 T23.heap n0 z27 p23_0 ge4 f25 P2 P3 P4 (by decide) (by decide) (by decide) (by decide)) hZ (own_w hw 89 rfl) (own_w hw 44 rfl) (by decide) (by decide)) (g := (mkF m 20 #[.val (.ref a), .val (.int (3 : Int32)), .val (.int (4 : Int32)), .val (.ref r2), .val (.int (3 : Int32))] [(.int c3), (.int (3 : Int32)), (.ref r2)])) rfl (by rw [hml]; rfl) (argsL := [(.ref r2), (.int (3 : Int32)), (.int c3)]) (rest := []) (lenOf pd_9 rfl) rfl own_2z (hb hby q11_20) (fun _ _ => ⟨rfl, rfl, (by decide : 1 + 0 ≤ _), (by decide : 8 + 0 ≤ _)⟩)
  dsimp only [Pt.U, Pt.locs, Pt.cells, Pt.slots] at X29 l29 y29 z29 st29 hQ29
  subst l29 y29 z29
  obtain ⟨rfl, Nq29, Kq29, p29_0⟩ := hQ29
  have N29 := Fr.app N23 Nq29
  have f30 := f24.keep Kq29 (ninS ne3 nin0)
  have f31 := f25.keep Kq29 (allS ge4 all0)
  have K32 : Keep h0 T29.heap [] := K26.trans Kq29 (allS (Or.inr sz5) all0)
  have z33 : n0 ≤ T29.heap.size := Nat.le_trans z27 Kq29.1
  refine oS st29 ?_
  show oG _ _ _ _ (T29.setTop (mkF m 23 #[.val (.ref a), .val (.int (3 : Int32)), .val (.int (4 : Int32)), .val (.ref r2), .val (.int (3 : Int32))] []))
  refine oS (fun _ κ => XS.iinc X29.here hx rfl (hb hby q11_23) rfl (l' := #[.val (.ref a), .val (.int ((3 : Int32) + (1 : Int32))), .val (.int (4 : Int32)), .val (.ref r2), .val (.int (3 : Int32))]) rfl κ) ?_
  show oG _ _ _ _ (T29.setTop (mkF m 26 #[.val (.ref a), .val (.int ((3 : Int32) + (1 : Int32))), .val (.int (4 : Int32)), .val (.ref r2), .val (.int (3 : Int32))] []))
  rw [show (((3 : Int32) + (1 : Int32)) : Int32) = (4 : Int32) from by decide]
  show oG _ _ _ _ (T29.setTop (mkF m 26 #[.val (.ref a), .val (.int (4 : Int32)), .val (.int (4 : Int32)), .val (.ref r2), .val (.int (3 : Int32))] []))
  refine oS (fun _ κ => XS.iinc X29.here hx rfl (hb hby q11_26) rfl (l' := #[.val (.ref a), .val (.int (4 : Int32)), .val (.int (4 : Int32)), .val (.ref r2), .val (.int ((3 : Int32) + (1 : Int32)))]) rfl κ) ?_
  show oG _ _ _ _ (T29.setTop (mkF m 29 #[.val (.ref a), .val (.int (4 : Int32)), .val (.int (4 : Int32)), .val (.ref r2), .val (.int ((3 : Int32) + (1 : Int32)))] []))
  rw [show (((3 : Int32) + (1 : Int32)) : Int32) = (4 : Int32) from by decide]
  show oG _ _ _ _ (T29.setTop (mkF m 29 #[.val (.ref a), .val (.int (4 : Int32)), .val (.int (4 : Int32)), .val (.ref r2), .val (.int (4 : Int32))] []))
  refine oS (fun _ κ => XS.goto X29.here hx rfl (pc0 := 29) (pc' := 8) rfl (hb hby q11_29) (by decide) (by decide) κ) ?_
  show oG _ _ _ _ (T29.setTop (mkF m 8 #[.val (.ref a), .val (.int (4 : Int32)), .val (.int (4 : Int32)), .val (.ref r2), .val (.int (4 : Int32))] []))
  refine oS (fun _ κ => XS.iload X29.here hx rfl (hb hby q11_8) rfl κ) ?_
  refine oS (fun _ κ => XS.iloadN X29.here hx rfl (hb hby q11_10) rfl κ) ?_
  refine oS (fun _ κ => XS.icmpYes X29.here hx rfl (pc0 := 11) (pc' := 32) rfl (hb hby q11_11) rfl (flt (by decide)).2.1 (by decide) (by decide) κ) ?_
  show oG _ _ _ _ (T29.setTop (mkF m 32 #[.val (.ref a), .val (.int (4 : Int32)), .val (.int (4 : Int32)), .val (.ref r2), .val (.int (4 : Int32))] []))
  refine oS (fun _ κ => XS.aloadN X29.here hx rfl (hb hby q11_32) rfl rfl κ) ?_
  obtain ⟨fs, hr, hrun, hended, hW, hsame⟩ := X29.leave (v := some (.ref r2)) (fun h => by rw [Bd.returns] at h; cases h)
  refine ⟨_, _, retOut X29 hx Bd.returns rfl (Or.inr (Or.inr (Or.inr (Or.inr ⟨rfl, rfl, rfl⟩)))) (hb hby q11_33) hr, hrun, hended, _, _, rfl, ?_, ⟨_, rfl⟩, hW, hsame.mono (by decide) (by decide)⟩
  show Q32 Z a ka c0 c1 c2 c3 h0 n0 _ T29.heap _
  skip
  exact ⟨r2, rfl, N29, K32, sz5, p29_0⟩
theorem ef_33 (m : MethodId) (a : Addr) : entryFrame m #[(.ref a), (.int (0 : Int32)), (.int (1 : Int32))] 6 = mkF m 0 #[.val (.ref a), .val (.int (0 : Int32)), .val (.int (1 : Int32)), .unset, .unset, .unset] [] := by first | (simp [entryFrame, mkF, argsToLocals, Value.category]; done) | rfl
def Q33 (Z : State) (a : Addr) (ka : ClassId) (c0 : Int32) (h0 : Heap) (n0 : Nat) (v : Option Value) (h : Heap) (L : List Loc) : Prop := ∃ r : Addr, v = some (.ref r) ∧ Fr n0 L ∧ Keep h0 h [] ∧ (h0.size ≤ r) ∧ (((own_By Z h r (1 : Int32) (own_upd own_zero (0 : Int32).toNatClampNeg (own_lb c0))) ∧ (¬ (255 : Int32) < c0)) ∨ ((own_By Z h r (2 : Int32) (own_upd (own_upd own_zero 0 (own_bl c0)) (0 + 1) (own_bh c0)))))
set_option maxRecDepth 65536 in
set_option maxHeartbeats 40000000 in
theorem rm33 (l : Launch) (Z : State) (a0 : Array Value) (hw : ∀ d ∈ tables_1, d.before a0 Z = true) (ws : List Jvm.Cond) (a : Addr) (ka : ClassId) (c0 : Int32) (h0 : Heap) (n0 : Nat) (Z0 : n0 ≤ h0.size) (P0 : Arv Z h0 a ka .char (1 : Int32) [(.int c0)] (.int (0 : Int32))) (P1 : Old Z n0 h0) (P2 : Sta Z Z.heap "java/lang/StringUTF16" "$assertionsDisabled" "Z" (.int (1 : Int32))) (P3 : Sta Z Z.heap "java/lang/StringUTF16" "HI_BYTE_SHIFT" "I" (.int (0 : Int32))) (P4 : Sta Z Z.heap "java/lang/StringUTF16" "LO_BYTE_SHIFT" "I" (.int (8 : Int32))) (P5 : own_R c0) :
    MetFree l own_y14 (head1 (Jvm.Cond.code own_y14 jdk_52_method_16_code 6 (some (.array .byte)) :: ws) own_r17) (fun ar_ U => ar_ = #[(.ref a), (.int (0 : Int32)), (.int (1 : Int32))] ∧ Z.Warmed39 U.vm ∧ U.heap = h0) (fun _ _ _ _ _ => True) (fun _ U oo_ U' => ∃ v L, oo_ = .returned v ∧ Q33 Z a ka c0 h0 n0 v U'.heap L ∧ FrameEnd U oo_ U' L own_r17.cells own_r17.slots) := by
  refine MetFree.of_bodySF (plainFor_of_name pn_4) hisR ?_
  intro p e s m args below meth c s₁ Bd hml0 hP hK
  obtain ⟨rfl, hZ, hh⟩ := hP
  have hx := Bd.exec
  have hby := Bd.bytes
  have hml : c.maxLocals = 6 := hml0
  have hown : s.vm.findClass "java/lang/StringUTF16" = some m.cls := findClass_of_methodNamed Bd.named
  have hnm := (name_of_methodNamed Bd.named Bd.method).1
  have X0 : Stand p l e own_r17 s m #[(.ref a), (.int (0 : Int32)), (.int (1 : Int32))] below meth c s₁ [] 0 0 := Stand.of_body Bd
  have e0 : s₁.heap = h0 := by rw [← hh, Bd.state]; rfl
  have N0 := Fr.nil n0
  refine own_in (castTop (ef_33 m a)) ?_
  show oG _ _ _ _ (s₁.setTop (mkF m 0 #[.val (.ref a), .val (.int (0 : Int32)), .val (.int (1 : Int32)), .unset, .unset, .unset] []))
  refine oS (fun _ κ => XS.iloadN X0.here hx rfl (hb hby q7_0) rfl κ) ?_
  show oG _ _ _ _ (s₁.setTop (mkF m 1 #[.val (.ref a), .val (.int (0 : Int32)), .val (.int (1 : Int32)), .unset, .unset, .unset] [(.int (1 : Int32))]))
  obtain ⟨T1, h1, k1, X1, e1, E1, A1, st1⟩ := newP X0 hx hZ (own_w hw 20 rfl) e0 (g := (mkF m 1 #[.val (.ref a), .val (.int (0 : Int32)), .val (.int (1 : Int32)), .unset, .unset, .unset] [(.int (1 : Int32))])) rfl (hb hby q7_1) rfl (by decide) (cap := 1) (by decide) (by decide) (by decide) (by decide)
  obtain ⟨b1, g1⟩ : ∃ z, z = h0.size := ⟨_, rfl⟩
  rw [← g1] at A1 st1
  refine oS st1 ?_
  have ne2 : a ≠ b1 := Nat.ne_of_lt (Nat.lt_of_lt_of_le P0.lt (Nat.le_of_eq g1.symm))
  have ge3 : n0 ≤ b1 := Nat.le_trans Z0 (Nat.le_of_eq g1.symm)
  have sz4 : h0.size ≤ b1 := Nat.le_trans (Keep.refl h0 []).1 (Nat.le_of_eq g1.symm)
  have f5 := P0.ext E1
  have f6 := P1.ext E1
  have K7 : Keep h0 h1 [] := (Keep.refl h0 []).ext E1
  have z8 : n0 ≤ h1.size := Nat.le_trans Z0 E1.1
  have V1 : own_By Z h1 b1 (1 : Int32) own_zero := own_By.new A1 (by decide)
  show oG _ _ _ _ (T1.setTop (mkF m 3 #[.val (.ref a), .val (.int (0 : Int32)), .val (.int (1 : Int32)), .unset, .unset, .unset] [(.ref b1)]))
  refine oS (fun _ κ => XS.astoreN X1.here hx rfl (hb hby q7_3) rfl rfl (l' := #[.val (.ref a), .val (.int (0 : Int32)), .val (.int (1 : Int32)), .val (.ref b1), .unset, .unset]) rfl κ) ?_
  refine oS (fun _ κ => XS.aloadN X1.here hx rfl (hb hby q7_4) rfl rfl κ) ?_
  refine oS (fun _ κ => XS.iloadN X1.here hx rfl (hb hby q7_5) rfl κ) ?_
  refine oS (fun _ κ => XS.aloadN X1.here hx rfl (hb hby q7_6) rfl rfl κ) ?_
  refine oS (fun _ κ => XS.iconst X1.here hx rfl (hb hby q7_7) κ) ?_
  refine oS (fun _ κ => XS.iloadN X1.here hx rfl (hb hby q7_8) rfl κ) ?_
  obtain ⟨vr9, _, ⟨T9, L9, k9, n9⟩, -, X9, ⟨Lc9, hQ9, l9, y9, z9⟩, st9⟩ := Jvm.LawKit.callS X1 hx (y := own_y15) hown (mvT hZ (own_w hw 46 rfl)) (mvT hZ (own_w hw 47 rfl)) (mvT hZ (own_w hw 44 rfl)) (mvT hZ (own_w hw 48 rfl)) (by decide) (backOf (W := 0) (rm16 l Z a0 hw [] a b1 ka c0 h1 n0 z8 f5 V1 ge3 ne2) hZ (own_w hw 48 rfl) (own_w hw 44 rfl) (by decide) (by decide)) (g := (mkF m 9 #[.val (.ref a), .val (.int (0 : Int32)), .val (.int (1 : Int32)), .val (.ref b1), .unset, .unset] [(.int (1 : Int32)), (.int (0 : Int32)), (.ref b1), (.int (0 : Int32)), (.ref a)])) rfl (by rw [hml]; rfl) (argsL := [(.ref a), (.int (0 : Int32)), (.ref b1), (.int (0 : Int32)), (.int (1 : Int32))]) (rest := []) (lenOf pd_10 rfl) rfl own_2z (hb hby q7_9) (fun _ _ => ⟨rfl, e1, (by decide : 1 + 0 ≤ _), (by decide : 1 + 0 ≤ _)⟩)
  dsimp only [Pt.U, Pt.locs, Pt.cells, Pt.slots] at X9 l9 y9 z9 st9 hQ9
  subst l9 y9 z9
  obtain ⟨u10, rfl, Nq9, Kq9, pa9⟩ := hQ9
  have N9 := Fr.app N0 Nq9
  have f11 := f5.keep Kq9 (ninS ne2 nin0)
  have f12 := f6.keep Kq9 (allS ge3 all0)
  have K13 : Keep h0 T9.heap [] := K7.trans Kq9 (allS (Or.inr sz4) all0)
  have z14 : n0 ≤ T9.heap.size := Nat.le_trans z8 Kq9.1
  rcases pa9 with ⟨rfl, pa9_0_0, pa9_0_1⟩ | ⟨rfl, pa9_1_0⟩
  · refine oS st9 ?_
    show oG _ _ _ _ (T9.setTop (mkF m 12 #[.val (.ref a), .val (.int (0 : Int32)), .val (.int (1 : Int32)), .val (.ref b1), .unset, .unset] [(.int (1 : Int32))]))
    refine oS (fun _ κ => XS.istore X9.here hx rfl (hb hby q7_12) rfl (l' := #[.val (.ref a), .val (.int (0 : Int32)), .val (.int (1 : Int32)), .val (.ref b1), .val (.int (1 : Int32)), .unset]) rfl κ) ?_
    refine oS (fun _ κ => XS.iload X9.here hx rfl (hb hby q7_14) rfl κ) ?_
    refine oS (fun _ κ => XS.iloadN X9.here hx rfl (hb hby q7_16) rfl κ) ?_
    refine oS (fun _ κ => XS.icmpYes X9.here hx rfl (pc0 := 17) (pc' := 57) rfl (hb hby q7_17) rfl (teq rfl).1 (by decide) (by decide) κ) ?_
    show oG _ _ _ _ (T9.setTop (mkF m 57 #[.val (.ref a), .val (.int (0 : Int32)), .val (.int (1 : Int32)), .val (.ref b1), .val (.int (1 : Int32)), .unset] []))
    refine oS (fun _ κ => XS.aloadN X9.here hx rfl (hb hby q7_57) rfl rfl κ) ?_
    obtain ⟨fs, hr, hrun, hended, hW, hsame⟩ := X9.leave (v := some (.ref b1)) (fun h => by rw [Bd.returns] at h; cases h)
    refine ⟨_, _, retOut X9 hx Bd.returns rfl (Or.inr (Or.inr (Or.inr (Or.inr ⟨rfl, rfl, rfl⟩)))) (hb hby q7_58) hr, hrun, hended, _, _, rfl, ?_, ⟨_, rfl⟩, hW, hsame.mono (by decide) (by decide)⟩
    show Q33 Z a ka c0 h0 n0 _ T9.heap _
    skip
    exact ⟨b1, rfl, N9, K13, sz4, (Or.inl ⟨pa9_0_0, pa9_0_1⟩)⟩
  · refine oS st9 ?_
    show oG _ _ _ _ (T9.setTop (mkF m 12 #[.val (.ref a), .val (.int (0 : Int32)), .val (.int (1 : Int32)), .val (.ref b1), .unset, .unset] [(.int (0 : Int32))]))
    refine oS (fun _ κ => XS.istore X9.here hx rfl (hb hby q7_12) rfl (l' := #[.val (.ref a), .val (.int (0 : Int32)), .val (.int (1 : Int32)), .val (.ref b1), .val (.int (0 : Int32)), .unset]) rfl κ) ?_
    refine oS (fun _ κ => XS.iload X9.here hx rfl (hb hby q7_14) rfl κ) ?_
    refine oS (fun _ κ => XS.iloadN X9.here hx rfl (hb hby q7_16) rfl κ) ?_
    refine oS (fun _ κ => XS.icmpNo X9.here hx rfl (hb hby q7_17) rfl (feq (by decide)).1 κ) ?_
    show oG _ _ _ _ (T9.setTop (mkF m 20 #[.val (.ref a), .val (.int (0 : Int32)), .val (.int (1 : Int32)), .val (.ref b1), .val (.int (0 : Int32)), .unset] []))
    refine oS (fun _ κ => XS.aloadN X9.here hx rfl (hb hby q7_20) rfl rfl κ) ?_
    refine oS (fun _ κ => XS.iloadN X9.here hx rfl (hb hby q7_21) rfl κ) ?_
    refine oS (fun _ κ => XS.iloadN X9.here hx rfl (hb hby q7_22) rfl κ) ?_
    obtain ⟨vr15, _, ⟨T15, L15, k15, n15⟩, -, X15, ⟨Lc15, hQ15, l15, y15, z15⟩, st15⟩ := Jvm.LawKit.callS X9 hx (y := own_y21) hown (mvT hZ (own_w hw 77 rfl)) (mvT hZ (own_w hw 78 rfl)) (mvT hZ (own_w hw 44 rfl)) (mvT hZ (own_w hw 79 rfl)) (by decide) (backOf (W := 0) (rm29 l Z a0 hw [] a ka c0 T9.heap n0 z14 f11 f12 P2 P3 P4) hZ (own_w hw 79 rfl) (own_w hw 44 rfl) (by decide) (by decide)) (g := (mkF m 23 #[.val (.ref a), .val (.int (0 : Int32)), .val (.int (1 : Int32)), .val (.ref b1), .val (.int (0 : Int32)), .unset] [(.int (1 : Int32)), (.int (0 : Int32)), (.ref a)])) rfl (by rw [hml]; rfl) (argsL := [(.ref a), (.int (0 : Int32)), (.int (1 : Int32))]) (rest := []) (lenOf pd_11 rfl) rfl own_2z (hb hby q7_23) (fun _ _ => ⟨rfl, rfl, (by decide : 1 + 1 ≤ _), (by decide : 1 + 2 ≤ _)⟩)
    dsimp only [Pt.U, Pt.locs, Pt.cells, Pt.slots] at X15 l15 y15 z15 st15 hQ15
    subst l15 y15 z15
    obtain ⟨r16, rfl, Nq15, Kq15, p15_0, p15_1⟩ := hQ15
    have N15 := Fr.app N9 Nq15
    have ne17 : a ≠ r16 := Nat.ne_of_lt (Nat.lt_of_lt_of_le f11.lt p15_0)
    have ge18 : n0 ≤ r16 := Nat.le_trans z14 p15_0
    have sz19 : h0.size ≤ r16 := Nat.le_trans K13.1 p15_0
    have f20 := f11.keep Kq15 nin0
    have f21 := f12.keep Kq15 all0
    have K22 : Keep h0 T15.heap [] := K13.trans Kq15 all0
    have z23 : n0 ≤ T15.heap.size := Nat.le_trans z14 Kq15.1
    refine oS st15 ?_
    show oG _ _ _ _ (T15.setTop (mkF m 26 #[.val (.ref a), .val (.int (0 : Int32)), .val (.int (1 : Int32)), .val (.ref b1), .val (.int (0 : Int32)), .unset] [(.ref r16)]))
    refine oS (fun _ κ => XS.astore X15.here hx rfl (hb hby q7_26) rfl rfl (l' := #[.val (.ref a), .val (.int (0 : Int32)), .val (.int (1 : Int32)), .val (.ref b1), .val (.int (0 : Int32)), .val (.ref r16)]) rfl κ) ?_
    refine oS (fun _ κ => XS.aload X15.here hx rfl (hb hby q7_28) rfl rfl κ) ?_
    refine oS (fun _ κ => XS.iload X15.here hx rfl (hb hby q7_30) rfl κ) ?_
    obtain ⟨vr24, _, ⟨T24, L24, k24, n24⟩, -, X24, ⟨Lc24, hQ24, l24, y24, z24⟩, st24⟩ := Jvm.LawKit.callS X15 hx (y := own_y16) hown (mvT hZ (own_w hw 93 rfl)) (mvT hZ (own_w hw 94 rfl)) (mvT hZ (own_w hw 44 rfl)) (mvT hZ (own_w hw 95 rfl)) (by decide) (backOf (W := 0) (rm12 l Z a0 hw [] r16 (0 : Int32) (2 : Int32) (own_upd (own_upd own_zero 0 (own_bl c0)) (0 + 1) (own_bh c0)) T15.heap n0 z23 p15_1 f21 P2 P3 P4 (by decide) (by decide)) hZ (own_w hw 95 rfl) (own_w hw 44 rfl) (by decide) (by decide)) (g := (mkF m 32 #[.val (.ref a), .val (.int (0 : Int32)), .val (.int (1 : Int32)), .val (.ref b1), .val (.int (0 : Int32)), .val (.ref r16)] [(.int (0 : Int32)), (.ref r16)])) rfl (by rw [hml]; rfl) (argsL := [(.ref r16), (.int (0 : Int32))]) (rest := []) (lenOf pd_4 rfl) rfl own_2z (hb hby q7_32) (fun _ _ => ⟨rfl, rfl, (by decide : 2 + 0 ≤ _), (by decide : 3 + 0 ≤ _)⟩)
    dsimp only [Pt.U, Pt.locs, Pt.cells, Pt.slots] at X24 l24 y24 z24 st24 hQ24
    subst l24 y24 z24
    obtain ⟨rfl, Nq24, eq24⟩ := hQ24
    have N24 := Fr.app N15 Nq24
    refine oS st24 ?_
    show oG _ _ _ _ (T24.setTop (mkF m 35 #[.val (.ref a), .val (.int (0 : Int32)), .val (.int (1 : Int32)), .val (.ref b1), .val (.int (0 : Int32)), .val (.ref r16)] [(.int (own_gc ((own_upd (own_upd own_zero 0 (own_bl c0)) (0 + 1) (own_bh c0)) ((0 : Int32) <<< ((1 : Int32) &&& 31)).toNatClampNeg) ((own_upd (own_upd own_zero 0 (own_bl c0)) (0 + 1) (own_bh c0)) (((0 : Int32) <<< ((1 : Int32) &&& 31)) + (1 : Int32)).toNatClampNeg)))]))
    refine oS (fun _ κ => XS.sipush X24.here hx rfl (hb hby q7_35) κ) ?_
    refine oS (fun _ κ => XS.icmpYes X24.here hx rfl (pc0 := 38) (pc' := 54) rfl (hb hby q7_38) rfl (tlt (by rw [show (own_gc ((own_upd (own_upd own_zero 0 (own_bl c0)) (0 + 1) (own_bh c0)) ((0 : Int32) <<< ((1 : Int32) &&& 31)).toNatClampNeg) ((own_upd (own_upd own_zero 0 (own_bl c0)) (0 + 1) (own_bh c0)) (((0 : Int32) <<< ((1 : Int32) &&& 31)) + (1 : Int32)).toNatClampNeg)) = c0 from own_gcE P5]; exact pa9_1_0)).2.2.1 (by decide) (by decide) κ) ?_
    show oG _ _ _ _ (T24.setTop (mkF m 54 #[.val (.ref a), .val (.int (0 : Int32)), .val (.int (1 : Int32)), .val (.ref b1), .val (.int (0 : Int32)), .val (.ref r16)] []))
    refine oS (fun _ κ => XS.aload X24.here hx rfl (hb hby q7_54) rfl rfl κ) ?_
    obtain ⟨fs, hr, hrun, hended, hW, hsame⟩ := X24.leave (v := some (.ref r16)) (fun h => by rw [Bd.returns] at h; cases h)
    refine ⟨_, _, retOut X24 hx Bd.returns rfl (Or.inr (Or.inr (Or.inr (Or.inr ⟨rfl, rfl, rfl⟩)))) (hb hby q7_56) hr, hrun, hended, _, _, rfl, ?_, ⟨_, rfl⟩, hW, hsame.mono (by decide) (by decide)⟩
    show Q33 Z a ka c0 h0 n0 _ T24.heap _
    rw [eq24]
    exact ⟨r16, rfl, N24, K22, sz19, (Or.inr p15_1)⟩
theorem ef_34 (m : MethodId) (a : Addr) : entryFrame m #[(.ref a), (.int (0 : Int32)), (.int (2 : Int32))] 6 = mkF m 0 #[.val (.ref a), .val (.int (0 : Int32)), .val (.int (2 : Int32)), .unset, .unset, .unset] [] := by first | (simp [entryFrame, mkF, argsToLocals, Value.category]; done) | rfl
def Q34 (Z : State) (a : Addr) (ka : ClassId) (c0 : Int32) (c1 : Int32) (h0 : Heap) (n0 : Nat) (v : Option Value) (h : Heap) (L : List Loc) : Prop := ∃ r : Addr, v = some (.ref r) ∧ Fr n0 L ∧ Keep h0 h [] ∧ (h0.size ≤ r) ∧ (((own_By Z h r (2 : Int32) (own_upd (own_upd own_zero (0 : Int32).toNatClampNeg (own_lb c0)) (1 : Int32).toNatClampNeg (own_lb c1))) ∧ (¬ (255 : Int32) < c0) ∧ (¬ (255 : Int32) < c1)) ∨ ((own_By Z h r (4 : Int32) (own_upd (own_upd (own_upd (own_upd own_zero 0 (own_bl c0)) (0 + 1) (own_bh c0)) 2 (own_bl c1)) (2 + 1) (own_bh c1)))))
set_option maxRecDepth 65536 in
set_option maxHeartbeats 40000000 in
theorem rm34 (l : Launch) (Z : State) (a0 : Array Value) (hw : ∀ d ∈ tables_1, d.before a0 Z = true) (ws : List Jvm.Cond) (a : Addr) (ka : ClassId) (c0 : Int32) (c1 : Int32) (h0 : Heap) (n0 : Nat) (Z0 : n0 ≤ h0.size) (P0 : Arv Z h0 a ka .char (2 : Int32) [(.int c0), (.int c1)] (.int (0 : Int32))) (P1 : Old Z n0 h0) (P2 : Sta Z Z.heap "java/lang/StringUTF16" "$assertionsDisabled" "Z" (.int (1 : Int32))) (P3 : Sta Z Z.heap "java/lang/StringUTF16" "HI_BYTE_SHIFT" "I" (.int (0 : Int32))) (P4 : Sta Z Z.heap "java/lang/StringUTF16" "LO_BYTE_SHIFT" "I" (.int (8 : Int32))) (P5 : own_R c0) (P6 : own_R c1) :
    MetFree l own_y14 (head1 (Jvm.Cond.code own_y14 jdk_52_method_16_code 6 (some (.array .byte)) :: ws) own_r18) (fun ar_ U => ar_ = #[(.ref a), (.int (0 : Int32)), (.int (2 : Int32))] ∧ Z.Warmed39 U.vm ∧ U.heap = h0) (fun _ _ _ _ _ => True) (fun _ U oo_ U' => ∃ v L, oo_ = .returned v ∧ Q34 Z a ka c0 c1 h0 n0 v U'.heap L ∧ FrameEnd U oo_ U' L own_r18.cells own_r18.slots) := by
  refine MetFree.of_bodySF (plainFor_of_name pn_4) hisR ?_
  intro p e s m args below meth c s₁ Bd hml0 hP hK
  obtain ⟨rfl, hZ, hh⟩ := hP
  have hx := Bd.exec
  have hby := Bd.bytes
  have hml : c.maxLocals = 6 := hml0
  have hown : s.vm.findClass "java/lang/StringUTF16" = some m.cls := findClass_of_methodNamed Bd.named
  have hnm := (name_of_methodNamed Bd.named Bd.method).1
  have X0 : Stand p l e own_r18 s m #[(.ref a), (.int (0 : Int32)), (.int (2 : Int32))] below meth c s₁ [] 0 0 := Stand.of_body Bd
  have e0 : s₁.heap = h0 := by rw [← hh, Bd.state]; rfl
  have N0 := Fr.nil n0
  refine own_in (castTop (ef_34 m a)) ?_
  show oG _ _ _ _ (s₁.setTop (mkF m 0 #[.val (.ref a), .val (.int (0 : Int32)), .val (.int (2 : Int32)), .unset, .unset, .unset] []))
  refine oS (fun _ κ => XS.iloadN X0.here hx rfl (hb hby q7_0) rfl κ) ?_
  show oG _ _ _ _ (s₁.setTop (mkF m 1 #[.val (.ref a), .val (.int (0 : Int32)), .val (.int (2 : Int32)), .unset, .unset, .unset] [(.int (2 : Int32))]))
  obtain ⟨T1, h1, k1, X1, e1, E1, A1, st1⟩ := newP X0 hx hZ (own_w hw 20 rfl) e0 (g := (mkF m 1 #[.val (.ref a), .val (.int (0 : Int32)), .val (.int (2 : Int32)), .unset, .unset, .unset] [(.int (2 : Int32))])) rfl (hb hby q7_1) rfl (by decide) (cap := 2) (by decide) (by decide) (by decide) (by decide)
  obtain ⟨b1, g1⟩ : ∃ z, z = h0.size := ⟨_, rfl⟩
  rw [← g1] at A1 st1
  refine oS st1 ?_
  have ne2 : a ≠ b1 := Nat.ne_of_lt (Nat.lt_of_lt_of_le P0.lt (Nat.le_of_eq g1.symm))
  have ge3 : n0 ≤ b1 := Nat.le_trans Z0 (Nat.le_of_eq g1.symm)
  have sz4 : h0.size ≤ b1 := Nat.le_trans (Keep.refl h0 []).1 (Nat.le_of_eq g1.symm)
  have f5 := P0.ext E1
  have f6 := P1.ext E1
  have K7 : Keep h0 h1 [] := (Keep.refl h0 []).ext E1
  have z8 : n0 ≤ h1.size := Nat.le_trans Z0 E1.1
  have V1 : own_By Z h1 b1 (2 : Int32) own_zero := own_By.new A1 (by decide)
  show oG _ _ _ _ (T1.setTop (mkF m 3 #[.val (.ref a), .val (.int (0 : Int32)), .val (.int (2 : Int32)), .unset, .unset, .unset] [(.ref b1)]))
  refine oS (fun _ κ => XS.astoreN X1.here hx rfl (hb hby q7_3) rfl rfl (l' := #[.val (.ref a), .val (.int (0 : Int32)), .val (.int (2 : Int32)), .val (.ref b1), .unset, .unset]) rfl κ) ?_
  refine oS (fun _ κ => XS.aloadN X1.here hx rfl (hb hby q7_4) rfl rfl κ) ?_
  refine oS (fun _ κ => XS.iloadN X1.here hx rfl (hb hby q7_5) rfl κ) ?_
  refine oS (fun _ κ => XS.aloadN X1.here hx rfl (hb hby q7_6) rfl rfl κ) ?_
  refine oS (fun _ κ => XS.iconst X1.here hx rfl (hb hby q7_7) κ) ?_
  refine oS (fun _ κ => XS.iloadN X1.here hx rfl (hb hby q7_8) rfl κ) ?_
  obtain ⟨vr9, _, ⟨T9, L9, k9, n9⟩, -, X9, ⟨Lc9, hQ9, l9, y9, z9⟩, st9⟩ := Jvm.LawKit.callS X1 hx (y := own_y15) hown (mvT hZ (own_w hw 46 rfl)) (mvT hZ (own_w hw 47 rfl)) (mvT hZ (own_w hw 44 rfl)) (mvT hZ (own_w hw 48 rfl)) (by decide) (backOf (W := 0) (rm17 l Z a0 hw [] a b1 ka c0 c1 h1 n0 z8 f5 V1 ge3 ne2) hZ (own_w hw 48 rfl) (own_w hw 44 rfl) (by decide) (by decide)) (g := (mkF m 9 #[.val (.ref a), .val (.int (0 : Int32)), .val (.int (2 : Int32)), .val (.ref b1), .unset, .unset] [(.int (2 : Int32)), (.int (0 : Int32)), (.ref b1), (.int (0 : Int32)), (.ref a)])) rfl (by rw [hml]; rfl) (argsL := [(.ref a), (.int (0 : Int32)), (.ref b1), (.int (0 : Int32)), (.int (2 : Int32))]) (rest := []) (lenOf pd_10 rfl) rfl own_2z (hb hby q7_9) (fun _ _ => ⟨rfl, e1, (by decide : 1 + 0 ≤ _), (by decide : 2 + 0 ≤ _)⟩)
  dsimp only [Pt.U, Pt.locs, Pt.cells, Pt.slots] at X9 l9 y9 z9 st9 hQ9
  subst l9 y9 z9
  obtain ⟨u10, rfl, Nq9, Kq9, pa9⟩ := hQ9
  have N9 := Fr.app N0 Nq9
  have f11 := f5.keep Kq9 (ninS ne2 nin0)
  have f12 := f6.keep Kq9 (allS ge3 all0)
  have K13 : Keep h0 T9.heap [] := K7.trans Kq9 (allS (Or.inr sz4) all0)
  have z14 : n0 ≤ T9.heap.size := Nat.le_trans z8 Kq9.1
  rcases pa9 with ⟨rfl, pa9_0_0, pa9_0_1, pa9_0_2⟩ | ⟨rfl, pa9_1_0⟩ | ⟨rfl, pa9_2_0⟩
  · refine oS st9 ?_
    show oG _ _ _ _ (T9.setTop (mkF m 12 #[.val (.ref a), .val (.int (0 : Int32)), .val (.int (2 : Int32)), .val (.ref b1), .unset, .unset] [(.int (2 : Int32))]))
    refine oS (fun _ κ => XS.istore X9.here hx rfl (hb hby q7_12) rfl (l' := #[.val (.ref a), .val (.int (0 : Int32)), .val (.int (2 : Int32)), .val (.ref b1), .val (.int (2 : Int32)), .unset]) rfl κ) ?_
    refine oS (fun _ κ => XS.iload X9.here hx rfl (hb hby q7_14) rfl κ) ?_
    refine oS (fun _ κ => XS.iloadN X9.here hx rfl (hb hby q7_16) rfl κ) ?_
    refine oS (fun _ κ => XS.icmpYes X9.here hx rfl (pc0 := 17) (pc' := 57) rfl (hb hby q7_17) rfl (teq rfl).1 (by decide) (by decide) κ) ?_
    show oG _ _ _ _ (T9.setTop (mkF m 57 #[.val (.ref a), .val (.int (0 : Int32)), .val (.int (2 : Int32)), .val (.ref b1), .val (.int (2 : Int32)), .unset] []))
    refine oS (fun _ κ => XS.aloadN X9.here hx rfl (hb hby q7_57) rfl rfl κ) ?_
    obtain ⟨fs, hr, hrun, hended, hW, hsame⟩ := X9.leave (v := some (.ref b1)) (fun h => by rw [Bd.returns] at h; cases h)
    refine ⟨_, _, retOut X9 hx Bd.returns rfl (Or.inr (Or.inr (Or.inr (Or.inr ⟨rfl, rfl, rfl⟩)))) (hb hby q7_58) hr, hrun, hended, _, _, rfl, ?_, ⟨_, rfl⟩, hW, hsame.mono (by decide) (by decide)⟩
    show Q34 Z a ka c0 c1 h0 n0 _ T9.heap _
    skip
    exact ⟨b1, rfl, N9, K13, sz4, (Or.inl ⟨pa9_0_0, pa9_0_1, pa9_0_2⟩)⟩
  · refine oS st9 ?_
    show oG _ _ _ _ (T9.setTop (mkF m 12 #[.val (.ref a), .val (.int (0 : Int32)), .val (.int (2 : Int32)), .val (.ref b1), .unset, .unset] [(.int (0 : Int32))]))
    refine oS (fun _ κ => XS.istore X9.here hx rfl (hb hby q7_12) rfl (l' := #[.val (.ref a), .val (.int (0 : Int32)), .val (.int (2 : Int32)), .val (.ref b1), .val (.int (0 : Int32)), .unset]) rfl κ) ?_
    refine oS (fun _ κ => XS.iload X9.here hx rfl (hb hby q7_14) rfl κ) ?_
    refine oS (fun _ κ => XS.iloadN X9.here hx rfl (hb hby q7_16) rfl κ) ?_
    refine oS (fun _ κ => XS.icmpNo X9.here hx rfl (hb hby q7_17) rfl (feq (by decide)).1 κ) ?_
    show oG _ _ _ _ (T9.setTop (mkF m 20 #[.val (.ref a), .val (.int (0 : Int32)), .val (.int (2 : Int32)), .val (.ref b1), .val (.int (0 : Int32)), .unset] []))
    refine oS (fun _ κ => XS.aloadN X9.here hx rfl (hb hby q7_20) rfl rfl κ) ?_
    refine oS (fun _ κ => XS.iloadN X9.here hx rfl (hb hby q7_21) rfl κ) ?_
    refine oS (fun _ κ => XS.iloadN X9.here hx rfl (hb hby q7_22) rfl κ) ?_
    obtain ⟨vr15, _, ⟨T15, L15, k15, n15⟩, -, X15, ⟨Lc15, hQ15, l15, y15, z15⟩, st15⟩ := Jvm.LawKit.callS X9 hx (y := own_y21) hown (mvT hZ (own_w hw 77 rfl)) (mvT hZ (own_w hw 78 rfl)) (mvT hZ (own_w hw 44 rfl)) (mvT hZ (own_w hw 79 rfl)) (by decide) (backOf (W := 0) (rm30 l Z a0 hw [] a ka c0 c1 T9.heap n0 z14 f11 f12 P2 P3 P4) hZ (own_w hw 79 rfl) (own_w hw 44 rfl) (by decide) (by decide)) (g := (mkF m 23 #[.val (.ref a), .val (.int (0 : Int32)), .val (.int (2 : Int32)), .val (.ref b1), .val (.int (0 : Int32)), .unset] [(.int (2 : Int32)), (.int (0 : Int32)), (.ref a)])) rfl (by rw [hml]; rfl) (argsL := [(.ref a), (.int (0 : Int32)), (.int (2 : Int32))]) (rest := []) (lenOf pd_11 rfl) rfl own_2z (hb hby q7_23) (fun _ _ => ⟨rfl, rfl, (by decide : 1 + 1 ≤ _), (by decide : 2 + 4 ≤ _)⟩)
    dsimp only [Pt.U, Pt.locs, Pt.cells, Pt.slots] at X15 l15 y15 z15 st15 hQ15
    subst l15 y15 z15
    obtain ⟨r16, rfl, Nq15, Kq15, p15_0, p15_1⟩ := hQ15
    have N15 := Fr.app N9 Nq15
    have ne17 : a ≠ r16 := Nat.ne_of_lt (Nat.lt_of_lt_of_le f11.lt p15_0)
    have ge18 : n0 ≤ r16 := Nat.le_trans z14 p15_0
    have sz19 : h0.size ≤ r16 := Nat.le_trans K13.1 p15_0
    have f20 := f11.keep Kq15 nin0
    have f21 := f12.keep Kq15 all0
    have K22 : Keep h0 T15.heap [] := K13.trans Kq15 all0
    have z23 : n0 ≤ T15.heap.size := Nat.le_trans z14 Kq15.1
    refine oS st15 ?_
    show oG _ _ _ _ (T15.setTop (mkF m 26 #[.val (.ref a), .val (.int (0 : Int32)), .val (.int (2 : Int32)), .val (.ref b1), .val (.int (0 : Int32)), .unset] [(.ref r16)]))
    refine oS (fun _ κ => XS.astore X15.here hx rfl (hb hby q7_26) rfl rfl (l' := #[.val (.ref a), .val (.int (0 : Int32)), .val (.int (2 : Int32)), .val (.ref b1), .val (.int (0 : Int32)), .val (.ref r16)]) rfl κ) ?_
    refine oS (fun _ κ => XS.aload X15.here hx rfl (hb hby q7_28) rfl rfl κ) ?_
    refine oS (fun _ κ => XS.iload X15.here hx rfl (hb hby q7_30) rfl κ) ?_
    obtain ⟨vr24, _, ⟨T24, L24, k24, n24⟩, -, X24, ⟨Lc24, hQ24, l24, y24, z24⟩, st24⟩ := Jvm.LawKit.callS X15 hx (y := own_y16) hown (mvT hZ (own_w hw 93 rfl)) (mvT hZ (own_w hw 94 rfl)) (mvT hZ (own_w hw 44 rfl)) (mvT hZ (own_w hw 95 rfl)) (by decide) (backOf (W := 0) (rm12 l Z a0 hw [] r16 (0 : Int32) (4 : Int32) (own_upd (own_upd (own_upd (own_upd own_zero 0 (own_bl c0)) (0 + 1) (own_bh c0)) 2 (own_bl c1)) (2 + 1) (own_bh c1)) T15.heap n0 z23 p15_1 f21 P2 P3 P4 (by decide) (by decide)) hZ (own_w hw 95 rfl) (own_w hw 44 rfl) (by decide) (by decide)) (g := (mkF m 32 #[.val (.ref a), .val (.int (0 : Int32)), .val (.int (2 : Int32)), .val (.ref b1), .val (.int (0 : Int32)), .val (.ref r16)] [(.int (0 : Int32)), (.ref r16)])) rfl (by rw [hml]; rfl) (argsL := [(.ref r16), (.int (0 : Int32))]) (rest := []) (lenOf pd_4 rfl) rfl own_2z (hb hby q7_32) (fun _ _ => ⟨rfl, rfl, (by decide : 2 + 0 ≤ _), (by decide : 6 + 0 ≤ _)⟩)
    dsimp only [Pt.U, Pt.locs, Pt.cells, Pt.slots] at X24 l24 y24 z24 st24 hQ24
    subst l24 y24 z24
    obtain ⟨rfl, Nq24, eq24⟩ := hQ24
    have N24 := Fr.app N15 Nq24
    refine oS st24 ?_
    show oG _ _ _ _ (T24.setTop (mkF m 35 #[.val (.ref a), .val (.int (0 : Int32)), .val (.int (2 : Int32)), .val (.ref b1), .val (.int (0 : Int32)), .val (.ref r16)] [(.int (own_gc ((own_upd (own_upd (own_upd (own_upd own_zero 0 (own_bl c0)) (0 + 1) (own_bh c0)) 2 (own_bl c1)) (2 + 1) (own_bh c1)) ((0 : Int32) <<< ((1 : Int32) &&& 31)).toNatClampNeg) ((own_upd (own_upd (own_upd (own_upd own_zero 0 (own_bl c0)) (0 + 1) (own_bh c0)) 2 (own_bl c1)) (2 + 1) (own_bh c1)) (((0 : Int32) <<< ((1 : Int32) &&& 31)) + (1 : Int32)).toNatClampNeg)))]))
    refine oS (fun _ κ => XS.sipush X24.here hx rfl (hb hby q7_35) κ) ?_
    refine oS (fun _ κ => XS.icmpYes X24.here hx rfl (pc0 := 38) (pc' := 54) rfl (hb hby q7_38) rfl (tlt (by rw [show (own_gc ((own_upd (own_upd (own_upd (own_upd own_zero 0 (own_bl c0)) (0 + 1) (own_bh c0)) 2 (own_bl c1)) (2 + 1) (own_bh c1)) ((0 : Int32) <<< ((1 : Int32) &&& 31)).toNatClampNeg) ((own_upd (own_upd (own_upd (own_upd own_zero 0 (own_bl c0)) (0 + 1) (own_bh c0)) 2 (own_bl c1)) (2 + 1) (own_bh c1)) (((0 : Int32) <<< ((1 : Int32) &&& 31)) + (1 : Int32)).toNatClampNeg)) = c0 from own_gcE P5]; exact pa9_1_0)).2.2.1 (by decide) (by decide) κ) ?_
    show oG _ _ _ _ (T24.setTop (mkF m 54 #[.val (.ref a), .val (.int (0 : Int32)), .val (.int (2 : Int32)), .val (.ref b1), .val (.int (0 : Int32)), .val (.ref r16)] []))
    refine oS (fun _ κ => XS.aload X24.here hx rfl (hb hby q7_54) rfl rfl κ) ?_
    obtain ⟨fs, hr, hrun, hended, hW, hsame⟩ := X24.leave (v := some (.ref r16)) (fun h => by rw [Bd.returns] at h; cases h)
    refine ⟨_, _, retOut X24 hx Bd.returns rfl (Or.inr (Or.inr (Or.inr (Or.inr ⟨rfl, rfl, rfl⟩)))) (hb hby q7_56) hr, hrun, hended, _, _, rfl, ?_, ⟨_, rfl⟩, hW, hsame.mono (by decide) (by decide)⟩
    show Q34 Z a ka c0 c1 h0 n0 _ T24.heap _
    rw [eq24]
    exact ⟨r16, rfl, N24, K22, sz19, (Or.inr p15_1)⟩
  · refine oS st9 ?_
    show oG _ _ _ _ (T9.setTop (mkF m 12 #[.val (.ref a), .val (.int (0 : Int32)), .val (.int (2 : Int32)), .val (.ref b1), .unset, .unset] [(.int (1 : Int32))]))
    refine oS (fun _ κ => XS.istore X9.here hx rfl (hb hby q7_12) rfl (l' := #[.val (.ref a), .val (.int (0 : Int32)), .val (.int (2 : Int32)), .val (.ref b1), .val (.int (1 : Int32)), .unset]) rfl κ) ?_
    refine oS (fun _ κ => XS.iload X9.here hx rfl (hb hby q7_14) rfl κ) ?_
    refine oS (fun _ κ => XS.iloadN X9.here hx rfl (hb hby q7_16) rfl κ) ?_
    refine oS (fun _ κ => XS.icmpNo X9.here hx rfl (hb hby q7_17) rfl (feq (by decide)).1 κ) ?_
    show oG _ _ _ _ (T9.setTop (mkF m 20 #[.val (.ref a), .val (.int (0 : Int32)), .val (.int (2 : Int32)), .val (.ref b1), .val (.int (1 : Int32)), .unset] []))
    refine oS (fun _ κ => XS.aloadN X9.here hx rfl (hb hby q7_20) rfl rfl κ) ?_
    refine oS (fun _ κ => XS.iloadN X9.here hx rfl (hb hby q7_21) rfl κ) ?_
    refine oS (fun _ κ => XS.iloadN X9.here hx rfl (hb hby q7_22) rfl κ) ?_
    obtain ⟨vr25, _, ⟨T25, L25, k25, n25⟩, -, X25, ⟨Lc25, hQ25, l25, y25, z25⟩, st25⟩ := Jvm.LawKit.callS X9 hx (y := own_y21) hown (mvT hZ (own_w hw 77 rfl)) (mvT hZ (own_w hw 78 rfl)) (mvT hZ (own_w hw 44 rfl)) (mvT hZ (own_w hw 79 rfl)) (by decide) (backOf (W := 0) (rm30 l Z a0 hw [] a ka c0 c1 T9.heap n0 z14 f11 f12 P2 P3 P4) hZ (own_w hw 79 rfl) (own_w hw 44 rfl) (by decide) (by decide)) (g := (mkF m 23 #[.val (.ref a), .val (.int (0 : Int32)), .val (.int (2 : Int32)), .val (.ref b1), .val (.int (1 : Int32)), .unset] [(.int (2 : Int32)), (.int (0 : Int32)), (.ref a)])) rfl (by rw [hml]; rfl) (argsL := [(.ref a), (.int (0 : Int32)), (.int (2 : Int32))]) (rest := []) (lenOf pd_11 rfl) rfl own_2z (hb hby q7_23) (fun _ _ => ⟨rfl, rfl, (by decide : 1 + 1 ≤ _), (by decide : 2 + 4 ≤ _)⟩)
    dsimp only [Pt.U, Pt.locs, Pt.cells, Pt.slots] at X25 l25 y25 z25 st25 hQ25
    subst l25 y25 z25
    obtain ⟨r26, rfl, Nq25, Kq25, p25_0, p25_1⟩ := hQ25
    have N25 := Fr.app N9 Nq25
    have ne27 : a ≠ r26 := Nat.ne_of_lt (Nat.lt_of_lt_of_le f11.lt p25_0)
    have ge28 : n0 ≤ r26 := Nat.le_trans z14 p25_0
    have sz29 : h0.size ≤ r26 := Nat.le_trans K13.1 p25_0
    have f30 := f11.keep Kq25 nin0
    have f31 := f12.keep Kq25 all0
    have K32 : Keep h0 T25.heap [] := K13.trans Kq25 all0
    have z33 : n0 ≤ T25.heap.size := Nat.le_trans z14 Kq25.1
    refine oS st25 ?_
    show oG _ _ _ _ (T25.setTop (mkF m 26 #[.val (.ref a), .val (.int (0 : Int32)), .val (.int (2 : Int32)), .val (.ref b1), .val (.int (1 : Int32)), .unset] [(.ref r26)]))
    refine oS (fun _ κ => XS.astore X25.here hx rfl (hb hby q7_26) rfl rfl (l' := #[.val (.ref a), .val (.int (0 : Int32)), .val (.int (2 : Int32)), .val (.ref b1), .val (.int (1 : Int32)), .val (.ref r26)]) rfl κ) ?_
    refine oS (fun _ κ => XS.aload X25.here hx rfl (hb hby q7_28) rfl rfl κ) ?_
    refine oS (fun _ κ => XS.iload X25.here hx rfl (hb hby q7_30) rfl κ) ?_
    obtain ⟨vr34, _, ⟨T34, L34, k34, n34⟩, -, X34, ⟨Lc34, hQ34, l34, y34, z34⟩, st34⟩ := Jvm.LawKit.callS X25 hx (y := own_y16) hown (mvT hZ (own_w hw 93 rfl)) (mvT hZ (own_w hw 94 rfl)) (mvT hZ (own_w hw 44 rfl)) (mvT hZ (own_w hw 95 rfl)) (by decide) (backOf (W := 0) (rm12 l Z a0 hw [] r26 (1 : Int32) (4 : Int32) (own_upd (own_upd (own_upd (own_upd own_zero 0 (own_bl c0)) (0 + 1) (own_bh c0)) 2 (own_bl c1)) (2 + 1) (own_bh c1)) T25.heap n0 z33 p25_1 f31 P2 P3 P4 (by decide) (by decide)) hZ (own_w hw 95 rfl) (own_w hw 44 rfl) (by decide) (by decide)) (g := (mkF m 32 #[.val (.ref a), .val (.int (0 : Int32)), .val (.int (2 : Int32)), .val (.ref b1), .val (.int (1 : Int32)), .val (.ref r26)] [(.int (1 : Int32)), (.ref r26)])) rfl (by rw [hml]; rfl) (argsL := [(.ref r26), (.int (1 : Int32))]) (rest := []) (lenOf pd_4 rfl) rfl own_2z (hb hby q7_32) (fun _ _ => ⟨rfl, rfl, (by decide : 2 + 0 ≤ _), (by decide : 6 + 0 ≤ _)⟩)
    dsimp only [Pt.U, Pt.locs, Pt.cells, Pt.slots] at X34 l34 y34 z34 st34 hQ34
    subst l34 y34 z34
    obtain ⟨rfl, Nq34, eq34⟩ := hQ34
    have N34 := Fr.app N25 Nq34
    refine oS st34 ?_
    show oG _ _ _ _ (T34.setTop (mkF m 35 #[.val (.ref a), .val (.int (0 : Int32)), .val (.int (2 : Int32)), .val (.ref b1), .val (.int (1 : Int32)), .val (.ref r26)] [(.int (own_gc ((own_upd (own_upd (own_upd (own_upd own_zero 0 (own_bl c0)) (0 + 1) (own_bh c0)) 2 (own_bl c1)) (2 + 1) (own_bh c1)) ((1 : Int32) <<< ((1 : Int32) &&& 31)).toNatClampNeg) ((own_upd (own_upd (own_upd (own_upd own_zero 0 (own_bl c0)) (0 + 1) (own_bh c0)) 2 (own_bl c1)) (2 + 1) (own_bh c1)) (((1 : Int32) <<< ((1 : Int32) &&& 31)) + (1 : Int32)).toNatClampNeg)))]))
    refine oS (fun _ κ => XS.sipush X34.here hx rfl (hb hby q7_35) κ) ?_
    refine oS (fun _ κ => XS.icmpYes X34.here hx rfl (pc0 := 38) (pc' := 54) rfl (hb hby q7_38) rfl (tlt (by rw [show (own_gc ((own_upd (own_upd (own_upd (own_upd own_zero 0 (own_bl c0)) (0 + 1) (own_bh c0)) 2 (own_bl c1)) (2 + 1) (own_bh c1)) ((1 : Int32) <<< ((1 : Int32) &&& 31)).toNatClampNeg) ((own_upd (own_upd (own_upd (own_upd own_zero 0 (own_bl c0)) (0 + 1) (own_bh c0)) 2 (own_bl c1)) (2 + 1) (own_bh c1)) (((1 : Int32) <<< ((1 : Int32) &&& 31)) + (1 : Int32)).toNatClampNeg)) = c1 from own_gcE P6]; exact pa9_2_0)).2.2.1 (by decide) (by decide) κ) ?_
    show oG _ _ _ _ (T34.setTop (mkF m 54 #[.val (.ref a), .val (.int (0 : Int32)), .val (.int (2 : Int32)), .val (.ref b1), .val (.int (1 : Int32)), .val (.ref r26)] []))
    refine oS (fun _ κ => XS.aload X34.here hx rfl (hb hby q7_54) rfl rfl κ) ?_
    obtain ⟨fs, hr, hrun, hended, hW, hsame⟩ := X34.leave (v := some (.ref r26)) (fun h => by rw [Bd.returns] at h; cases h)
    refine ⟨_, _, retOut X34 hx Bd.returns rfl (Or.inr (Or.inr (Or.inr (Or.inr ⟨rfl, rfl, rfl⟩)))) (hb hby q7_56) hr, hrun, hended, _, _, rfl, ?_, ⟨_, rfl⟩, hW, hsame.mono (by decide) (by decide)⟩
    show Q34 Z a ka c0 c1 h0 n0 _ T34.heap _
    rw [eq34]
    exact ⟨r26, rfl, N34, K32, sz29, (Or.inr p25_1)⟩
theorem ef_35 (m : MethodId) (a : Addr) : entryFrame m #[(.ref a), (.int (0 : Int32)), (.int (3 : Int32))] 6 = mkF m 0 #[.val (.ref a), .val (.int (0 : Int32)), .val (.int (3 : Int32)), .unset, .unset, .unset] [] := by first | (simp [entryFrame, mkF, argsToLocals, Value.category]; done) | rfl
def Q35 (Z : State) (a : Addr) (ka : ClassId) (c0 : Int32) (c1 : Int32) (c2 : Int32) (h0 : Heap) (n0 : Nat) (v : Option Value) (h : Heap) (L : List Loc) : Prop := ∃ r : Addr, v = some (.ref r) ∧ Fr n0 L ∧ Keep h0 h [] ∧ (h0.size ≤ r) ∧ (((own_By Z h r (3 : Int32) (own_upd (own_upd (own_upd own_zero (0 : Int32).toNatClampNeg (own_lb c0)) (1 : Int32).toNatClampNeg (own_lb c1)) (2 : Int32).toNatClampNeg (own_lb c2))) ∧ (¬ (255 : Int32) < c0) ∧ (¬ (255 : Int32) < c1) ∧ (¬ (255 : Int32) < c2)) ∨ ((own_By Z h r (6 : Int32) (own_upd (own_upd (own_upd (own_upd (own_upd (own_upd own_zero 0 (own_bl c0)) (0 + 1) (own_bh c0)) 2 (own_bl c1)) (2 + 1) (own_bh c1)) 4 (own_bl c2)) (4 + 1) (own_bh c2)))))
set_option maxRecDepth 65536 in
set_option maxHeartbeats 40000000 in
theorem rm35 (l : Launch) (Z : State) (a0 : Array Value) (hw : ∀ d ∈ tables_1, d.before a0 Z = true) (ws : List Jvm.Cond) (a : Addr) (ka : ClassId) (c0 : Int32) (c1 : Int32) (c2 : Int32) (h0 : Heap) (n0 : Nat) (Z0 : n0 ≤ h0.size) (P0 : Arv Z h0 a ka .char (3 : Int32) [(.int c0), (.int c1), (.int c2)] (.int (0 : Int32))) (P1 : Old Z n0 h0) (P2 : Sta Z Z.heap "java/lang/StringUTF16" "$assertionsDisabled" "Z" (.int (1 : Int32))) (P3 : Sta Z Z.heap "java/lang/StringUTF16" "HI_BYTE_SHIFT" "I" (.int (0 : Int32))) (P4 : Sta Z Z.heap "java/lang/StringUTF16" "LO_BYTE_SHIFT" "I" (.int (8 : Int32))) (P5 : own_R c0) (P6 : own_R c1) (P7 : own_R c2) :
    MetFree l own_y14 (head1 (Jvm.Cond.code own_y14 jdk_52_method_16_code 6 (some (.array .byte)) :: ws) own_r19) (fun ar_ U => ar_ = #[(.ref a), (.int (0 : Int32)), (.int (3 : Int32))] ∧ Z.Warmed39 U.vm ∧ U.heap = h0) (fun _ _ _ _ _ => True) (fun _ U oo_ U' => ∃ v L, oo_ = .returned v ∧ Q35 Z a ka c0 c1 c2 h0 n0 v U'.heap L ∧ FrameEnd U oo_ U' L own_r19.cells own_r19.slots) := by
  refine MetFree.of_bodySF (plainFor_of_name pn_4) hisR ?_
  intro p e s m args below meth c s₁ Bd hml0 hP hK
  obtain ⟨rfl, hZ, hh⟩ := hP
  have hx := Bd.exec
  have hby := Bd.bytes
  have hml : c.maxLocals = 6 := hml0
  have hown : s.vm.findClass "java/lang/StringUTF16" = some m.cls := findClass_of_methodNamed Bd.named
  have hnm := (name_of_methodNamed Bd.named Bd.method).1
  have X0 : Stand p l e own_r19 s m #[(.ref a), (.int (0 : Int32)), (.int (3 : Int32))] below meth c s₁ [] 0 0 := Stand.of_body Bd
  have e0 : s₁.heap = h0 := by rw [← hh, Bd.state]; rfl
  have N0 := Fr.nil n0
  refine own_in (castTop (ef_35 m a)) ?_
  show oG _ _ _ _ (s₁.setTop (mkF m 0 #[.val (.ref a), .val (.int (0 : Int32)), .val (.int (3 : Int32)), .unset, .unset, .unset] []))
  refine oS (fun _ κ => XS.iloadN X0.here hx rfl (hb hby q7_0) rfl κ) ?_
  show oG _ _ _ _ (s₁.setTop (mkF m 1 #[.val (.ref a), .val (.int (0 : Int32)), .val (.int (3 : Int32)), .unset, .unset, .unset] [(.int (3 : Int32))]))
  obtain ⟨T1, h1, k1, X1, e1, E1, A1, st1⟩ := newP X0 hx hZ (own_w hw 20 rfl) e0 (g := (mkF m 1 #[.val (.ref a), .val (.int (0 : Int32)), .val (.int (3 : Int32)), .unset, .unset, .unset] [(.int (3 : Int32))])) rfl (hb hby q7_1) rfl (by decide) (cap := 3) (by decide) (by decide) (by decide) (by decide)
  obtain ⟨b1, g1⟩ : ∃ z, z = h0.size := ⟨_, rfl⟩
  rw [← g1] at A1 st1
  refine oS st1 ?_
  have ne2 : a ≠ b1 := Nat.ne_of_lt (Nat.lt_of_lt_of_le P0.lt (Nat.le_of_eq g1.symm))
  have ge3 : n0 ≤ b1 := Nat.le_trans Z0 (Nat.le_of_eq g1.symm)
  have sz4 : h0.size ≤ b1 := Nat.le_trans (Keep.refl h0 []).1 (Nat.le_of_eq g1.symm)
  have f5 := P0.ext E1
  have f6 := P1.ext E1
  have K7 : Keep h0 h1 [] := (Keep.refl h0 []).ext E1
  have z8 : n0 ≤ h1.size := Nat.le_trans Z0 E1.1
  have V1 : own_By Z h1 b1 (3 : Int32) own_zero := own_By.new A1 (by decide)
  show oG _ _ _ _ (T1.setTop (mkF m 3 #[.val (.ref a), .val (.int (0 : Int32)), .val (.int (3 : Int32)), .unset, .unset, .unset] [(.ref b1)]))
  refine oS (fun _ κ => XS.astoreN X1.here hx rfl (hb hby q7_3) rfl rfl (l' := #[.val (.ref a), .val (.int (0 : Int32)), .val (.int (3 : Int32)), .val (.ref b1), .unset, .unset]) rfl κ) ?_
  refine oS (fun _ κ => XS.aloadN X1.here hx rfl (hb hby q7_4) rfl rfl κ) ?_
  refine oS (fun _ κ => XS.iloadN X1.here hx rfl (hb hby q7_5) rfl κ) ?_
  refine oS (fun _ κ => XS.aloadN X1.here hx rfl (hb hby q7_6) rfl rfl κ) ?_
  refine oS (fun _ κ => XS.iconst X1.here hx rfl (hb hby q7_7) κ) ?_
  refine oS (fun _ κ => XS.iloadN X1.here hx rfl (hb hby q7_8) rfl κ) ?_
  obtain ⟨vr9, _, ⟨T9, L9, k9, n9⟩, -, X9, ⟨Lc9, hQ9, l9, y9, z9⟩, st9⟩ := Jvm.LawKit.callS X1 hx (y := own_y15) hown (mvT hZ (own_w hw 46 rfl)) (mvT hZ (own_w hw 47 rfl)) (mvT hZ (own_w hw 44 rfl)) (mvT hZ (own_w hw 48 rfl)) (by decide) (backOf (W := 0) (rm18 l Z a0 hw [] a b1 ka c0 c1 c2 h1 n0 z8 f5 V1 ge3 ne2) hZ (own_w hw 48 rfl) (own_w hw 44 rfl) (by decide) (by decide)) (g := (mkF m 9 #[.val (.ref a), .val (.int (0 : Int32)), .val (.int (3 : Int32)), .val (.ref b1), .unset, .unset] [(.int (3 : Int32)), (.int (0 : Int32)), (.ref b1), (.int (0 : Int32)), (.ref a)])) rfl (by rw [hml]; rfl) (argsL := [(.ref a), (.int (0 : Int32)), (.ref b1), (.int (0 : Int32)), (.int (3 : Int32))]) (rest := []) (lenOf pd_10 rfl) rfl own_2z (hb hby q7_9) (fun _ _ => ⟨rfl, e1, (by decide : 1 + 0 ≤ _), (by decide : 3 + 0 ≤ _)⟩)
  dsimp only [Pt.U, Pt.locs, Pt.cells, Pt.slots] at X9 l9 y9 z9 st9 hQ9
  subst l9 y9 z9
  obtain ⟨u10, rfl, Nq9, Kq9, pa9⟩ := hQ9
  have N9 := Fr.app N0 Nq9
  have f11 := f5.keep Kq9 (ninS ne2 nin0)
  have f12 := f6.keep Kq9 (allS ge3 all0)
  have K13 : Keep h0 T9.heap [] := K7.trans Kq9 (allS (Or.inr sz4) all0)
  have z14 : n0 ≤ T9.heap.size := Nat.le_trans z8 Kq9.1
  rcases pa9 with ⟨rfl, pa9_0_0, pa9_0_1, pa9_0_2, pa9_0_3⟩ | ⟨rfl, pa9_1_0⟩ | ⟨rfl, pa9_2_0⟩ | ⟨rfl, pa9_3_0⟩
  · refine oS st9 ?_
    show oG _ _ _ _ (T9.setTop (mkF m 12 #[.val (.ref a), .val (.int (0 : Int32)), .val (.int (3 : Int32)), .val (.ref b1), .unset, .unset] [(.int (3 : Int32))]))
    refine oS (fun _ κ => XS.istore X9.here hx rfl (hb hby q7_12) rfl (l' := #[.val (.ref a), .val (.int (0 : Int32)), .val (.int (3 : Int32)), .val (.ref b1), .val (.int (3 : Int32)), .unset]) rfl κ) ?_
    refine oS (fun _ κ => XS.iload X9.here hx rfl (hb hby q7_14) rfl κ) ?_
    refine oS (fun _ κ => XS.iloadN X9.here hx rfl (hb hby q7_16) rfl κ) ?_
    refine oS (fun _ κ => XS.icmpYes X9.here hx rfl (pc0 := 17) (pc' := 57) rfl (hb hby q7_17) rfl (teq rfl).1 (by decide) (by decide) κ) ?_
    show oG _ _ _ _ (T9.setTop (mkF m 57 #[.val (.ref a), .val (.int (0 : Int32)), .val (.int (3 : Int32)), .val (.ref b1), .val (.int (3 : Int32)), .unset] []))
    refine oS (fun _ κ => XS.aloadN X9.here hx rfl (hb hby q7_57) rfl rfl κ) ?_
    obtain ⟨fs, hr, hrun, hended, hW, hsame⟩ := X9.leave (v := some (.ref b1)) (fun h => by rw [Bd.returns] at h; cases h)
    refine ⟨_, _, retOut X9 hx Bd.returns rfl (Or.inr (Or.inr (Or.inr (Or.inr ⟨rfl, rfl, rfl⟩)))) (hb hby q7_58) hr, hrun, hended, _, _, rfl, ?_, ⟨_, rfl⟩, hW, hsame.mono (by decide) (by decide)⟩
    show Q35 Z a ka c0 c1 c2 h0 n0 _ T9.heap _
    skip
    exact ⟨b1, rfl, N9, K13, sz4, (Or.inl ⟨pa9_0_0, pa9_0_1, pa9_0_2, pa9_0_3⟩)⟩
  · refine oS st9 ?_
    show oG _ _ _ _ (T9.setTop (mkF m 12 #[.val (.ref a), .val (.int (0 : Int32)), .val (.int (3 : Int32)), .val (.ref b1), .unset, .unset] [(.int (0 : Int32))]))
    refine oS (fun _ κ => XS.istore X9.here hx rfl (hb hby q7_12) rfl (l' := #[.val (.ref a), .val (.int (0 : Int32)), .val (.int (3 : Int32)), .val (.ref b1), .val (.int (0 : Int32)), .unset]) rfl κ) ?_
    refine oS (fun _ κ => XS.iload X9.here hx rfl (hb hby q7_14) rfl κ) ?_
    refine oS (fun _ κ => XS.iloadN X9.here hx rfl (hb hby q7_16) rfl κ) ?_
    refine oS (fun _ κ => XS.icmpNo X9.here hx rfl (hb hby q7_17) rfl (feq (by decide)).1 κ) ?_
    show oG _ _ _ _ (T9.setTop (mkF m 20 #[.val (.ref a), .val (.int (0 : Int32)), .val (.int (3 : Int32)), .val (.ref b1), .val (.int (0 : Int32)), .unset] []))
    refine oS (fun _ κ => XS.aloadN X9.here hx rfl (hb hby q7_20) rfl rfl κ) ?_
    refine oS (fun _ κ => XS.iloadN X9.here hx rfl (hb hby q7_21) rfl κ) ?_
    refine oS (fun _ κ => XS.iloadN X9.here hx rfl (hb hby q7_22) rfl κ) ?_
    obtain ⟨vr15, _, ⟨T15, L15, k15, n15⟩, -, X15, ⟨Lc15, hQ15, l15, y15, z15⟩, st15⟩ := Jvm.LawKit.callS X9 hx (y := own_y21) hown (mvT hZ (own_w hw 77 rfl)) (mvT hZ (own_w hw 78 rfl)) (mvT hZ (own_w hw 44 rfl)) (mvT hZ (own_w hw 79 rfl)) (by decide) (backOf (W := 0) (rm31 l Z a0 hw [] a ka c0 c1 c2 T9.heap n0 z14 f11 f12 P2 P3 P4) hZ (own_w hw 79 rfl) (own_w hw 44 rfl) (by decide) (by decide)) (g := (mkF m 23 #[.val (.ref a), .val (.int (0 : Int32)), .val (.int (3 : Int32)), .val (.ref b1), .val (.int (0 : Int32)), .unset] [(.int (3 : Int32)), (.int (0 : Int32)), (.ref a)])) rfl (by rw [hml]; rfl) (argsL := [(.ref a), (.int (0 : Int32)), (.int (3 : Int32))]) (rest := []) (lenOf pd_11 rfl) rfl own_2z (hb hby q7_23) (fun _ _ => ⟨rfl, rfl, (by decide : 1 + 1 ≤ _), (by decide : 3 + 6 ≤ _)⟩)
    dsimp only [Pt.U, Pt.locs, Pt.cells, Pt.slots] at X15 l15 y15 z15 st15 hQ15
    subst l15 y15 z15
    obtain ⟨r16, rfl, Nq15, Kq15, p15_0, p15_1⟩ := hQ15
    have N15 := Fr.app N9 Nq15
    have ne17 : a ≠ r16 := Nat.ne_of_lt (Nat.lt_of_lt_of_le f11.lt p15_0)
    have ge18 : n0 ≤ r16 := Nat.le_trans z14 p15_0
    have sz19 : h0.size ≤ r16 := Nat.le_trans K13.1 p15_0
    have f20 := f11.keep Kq15 nin0
    have f21 := f12.keep Kq15 all0
    have K22 : Keep h0 T15.heap [] := K13.trans Kq15 all0
    have z23 : n0 ≤ T15.heap.size := Nat.le_trans z14 Kq15.1
    refine oS st15 ?_
    show oG _ _ _ _ (T15.setTop (mkF m 26 #[.val (.ref a), .val (.int (0 : Int32)), .val (.int (3 : Int32)), .val (.ref b1), .val (.int (0 : Int32)), .unset] [(.ref r16)]))
    refine oS (fun _ κ => XS.astore X15.here hx rfl (hb hby q7_26) rfl rfl (l' := #[.val (.ref a), .val (.int (0 : Int32)), .val (.int (3 : Int32)), .val (.ref b1), .val (.int (0 : Int32)), .val (.ref r16)]) rfl κ) ?_
    refine oS (fun _ κ => XS.aload X15.here hx rfl (hb hby q7_28) rfl rfl κ) ?_
    refine oS (fun _ κ => XS.iload X15.here hx rfl (hb hby q7_30) rfl κ) ?_
    obtain ⟨vr24, _, ⟨T24, L24, k24, n24⟩, -, X24, ⟨Lc24, hQ24, l24, y24, z24⟩, st24⟩ := Jvm.LawKit.callS X15 hx (y := own_y16) hown (mvT hZ (own_w hw 93 rfl)) (mvT hZ (own_w hw 94 rfl)) (mvT hZ (own_w hw 44 rfl)) (mvT hZ (own_w hw 95 rfl)) (by decide) (backOf (W := 0) (rm12 l Z a0 hw [] r16 (0 : Int32) (6 : Int32) (own_upd (own_upd (own_upd (own_upd (own_upd (own_upd own_zero 0 (own_bl c0)) (0 + 1) (own_bh c0)) 2 (own_bl c1)) (2 + 1) (own_bh c1)) 4 (own_bl c2)) (4 + 1) (own_bh c2)) T15.heap n0 z23 p15_1 f21 P2 P3 P4 (by decide) (by decide)) hZ (own_w hw 95 rfl) (own_w hw 44 rfl) (by decide) (by decide)) (g := (mkF m 32 #[.val (.ref a), .val (.int (0 : Int32)), .val (.int (3 : Int32)), .val (.ref b1), .val (.int (0 : Int32)), .val (.ref r16)] [(.int (0 : Int32)), (.ref r16)])) rfl (by rw [hml]; rfl) (argsL := [(.ref r16), (.int (0 : Int32))]) (rest := []) (lenOf pd_4 rfl) rfl own_2z (hb hby q7_32) (fun _ _ => ⟨rfl, rfl, (by decide : 2 + 0 ≤ _), (by decide : 9 + 0 ≤ _)⟩)
    dsimp only [Pt.U, Pt.locs, Pt.cells, Pt.slots] at X24 l24 y24 z24 st24 hQ24
    subst l24 y24 z24
    obtain ⟨rfl, Nq24, eq24⟩ := hQ24
    have N24 := Fr.app N15 Nq24
    refine oS st24 ?_
    show oG _ _ _ _ (T24.setTop (mkF m 35 #[.val (.ref a), .val (.int (0 : Int32)), .val (.int (3 : Int32)), .val (.ref b1), .val (.int (0 : Int32)), .val (.ref r16)] [(.int (own_gc ((own_upd (own_upd (own_upd (own_upd (own_upd (own_upd own_zero 0 (own_bl c0)) (0 + 1) (own_bh c0)) 2 (own_bl c1)) (2 + 1) (own_bh c1)) 4 (own_bl c2)) (4 + 1) (own_bh c2)) ((0 : Int32) <<< ((1 : Int32) &&& 31)).toNatClampNeg) ((own_upd (own_upd (own_upd (own_upd (own_upd (own_upd own_zero 0 (own_bl c0)) (0 + 1) (own_bh c0)) 2 (own_bl c1)) (2 + 1) (own_bh c1)) 4 (own_bl c2)) (4 + 1) (own_bh c2)) (((0 : Int32) <<< ((1 : Int32) &&& 31)) + (1 : Int32)).toNatClampNeg)))]))
    refine oS (fun _ κ => XS.sipush X24.here hx rfl (hb hby q7_35) κ) ?_
    refine oS (fun _ κ => XS.icmpYes X24.here hx rfl (pc0 := 38) (pc' := 54) rfl (hb hby q7_38) rfl (tlt (by rw [show (own_gc ((own_upd (own_upd (own_upd (own_upd (own_upd (own_upd own_zero 0 (own_bl c0)) (0 + 1) (own_bh c0)) 2 (own_bl c1)) (2 + 1) (own_bh c1)) 4 (own_bl c2)) (4 + 1) (own_bh c2)) ((0 : Int32) <<< ((1 : Int32) &&& 31)).toNatClampNeg) ((own_upd (own_upd (own_upd (own_upd (own_upd (own_upd own_zero 0 (own_bl c0)) (0 + 1) (own_bh c0)) 2 (own_bl c1)) (2 + 1) (own_bh c1)) 4 (own_bl c2)) (4 + 1) (own_bh c2)) (((0 : Int32) <<< ((1 : Int32) &&& 31)) + (1 : Int32)).toNatClampNeg)) = c0 from own_gcE P5]; exact pa9_1_0)).2.2.1 (by decide) (by decide) κ) ?_
    show oG _ _ _ _ (T24.setTop (mkF m 54 #[.val (.ref a), .val (.int (0 : Int32)), .val (.int (3 : Int32)), .val (.ref b1), .val (.int (0 : Int32)), .val (.ref r16)] []))
    refine oS (fun _ κ => XS.aload X24.here hx rfl (hb hby q7_54) rfl rfl κ) ?_
    obtain ⟨fs, hr, hrun, hended, hW, hsame⟩ := X24.leave (v := some (.ref r16)) (fun h => by rw [Bd.returns] at h; cases h)
    refine ⟨_, _, retOut X24 hx Bd.returns rfl (Or.inr (Or.inr (Or.inr (Or.inr ⟨rfl, rfl, rfl⟩)))) (hb hby q7_56) hr, hrun, hended, _, _, rfl, ?_, ⟨_, rfl⟩, hW, hsame.mono (by decide) (by decide)⟩
    show Q35 Z a ka c0 c1 c2 h0 n0 _ T24.heap _
    rw [eq24]
    exact ⟨r16, rfl, N24, K22, sz19, (Or.inr p15_1)⟩
  · refine oS st9 ?_
    show oG _ _ _ _ (T9.setTop (mkF m 12 #[.val (.ref a), .val (.int (0 : Int32)), .val (.int (3 : Int32)), .val (.ref b1), .unset, .unset] [(.int (1 : Int32))]))
    refine oS (fun _ κ => XS.istore X9.here hx rfl (hb hby q7_12) rfl (l' := #[.val (.ref a), .val (.int (0 : Int32)), .val (.int (3 : Int32)), .val (.ref b1), .val (.int (1 : Int32)), .unset]) rfl κ) ?_
    refine oS (fun _ κ => XS.iload X9.here hx rfl (hb hby q7_14) rfl κ) ?_
    refine oS (fun _ κ => XS.iloadN X9.here hx rfl (hb hby q7_16) rfl κ) ?_
    refine oS (fun _ κ => XS.icmpNo X9.here hx rfl (hb hby q7_17) rfl (feq (by decide)).1 κ) ?_
    show oG _ _ _ _ (T9.setTop (mkF m 20 #[.val (.ref a), .val (.int (0 : Int32)), .val (.int (3 : Int32)), .val (.ref b1), .val (.int (1 : Int32)), .unset] []))
    refine oS (fun _ κ => XS.aloadN X9.here hx rfl (hb hby q7_20) rfl rfl κ) ?_
    refine oS (fun _ κ => XS.iloadN X9.here hx rfl (hb hby q7_21) rfl κ) ?_
    refine oS (fun _ κ => XS.iloadN X9.here hx rfl (hb hby q7_22) rfl κ) ?_
    obtain ⟨vr25, _, ⟨T25, L25, k25, n25⟩, -, X25, ⟨Lc25, hQ25, l25, y25, z25⟩, st25⟩ := Jvm.LawKit.callS X9 hx (y := own_y21) hown (mvT hZ (own_w hw 77 rfl)) (mvT hZ (own_w hw 78 rfl)) (mvT hZ (own_w hw 44 rfl)) (mvT hZ (own_w hw 79 rfl)) (by decide) (backOf (W := 0) (rm31 l Z a0 hw [] a ka c0 c1 c2 T9.heap n0 z14 f11 f12 P2 P3 P4) hZ (own_w hw 79 rfl) (own_w hw 44 rfl) (by decide) (by decide)) (g := (mkF m 23 #[.val (.ref a), .val (.int (0 : Int32)), .val (.int (3 : Int32)), .val (.ref b1), .val (.int (1 : Int32)), .unset] [(.int (3 : Int32)), (.int (0 : Int32)), (.ref a)])) rfl (by rw [hml]; rfl) (argsL := [(.ref a), (.int (0 : Int32)), (.int (3 : Int32))]) (rest := []) (lenOf pd_11 rfl) rfl own_2z (hb hby q7_23) (fun _ _ => ⟨rfl, rfl, (by decide : 1 + 1 ≤ _), (by decide : 3 + 6 ≤ _)⟩)
    dsimp only [Pt.U, Pt.locs, Pt.cells, Pt.slots] at X25 l25 y25 z25 st25 hQ25
    subst l25 y25 z25
    obtain ⟨r26, rfl, Nq25, Kq25, p25_0, p25_1⟩ := hQ25
    have N25 := Fr.app N9 Nq25
    have ne27 : a ≠ r26 := Nat.ne_of_lt (Nat.lt_of_lt_of_le f11.lt p25_0)
    have ge28 : n0 ≤ r26 := Nat.le_trans z14 p25_0
    have sz29 : h0.size ≤ r26 := Nat.le_trans K13.1 p25_0
    have f30 := f11.keep Kq25 nin0
    have f31 := f12.keep Kq25 all0
    have K32 : Keep h0 T25.heap [] := K13.trans Kq25 all0
    have z33 : n0 ≤ T25.heap.size := Nat.le_trans z14 Kq25.1
    refine oS st25 ?_
    show oG _ _ _ _ (T25.setTop (mkF m 26 #[.val (.ref a), .val (.int (0 : Int32)), .val (.int (3 : Int32)), .val (.ref b1), .val (.int (1 : Int32)), .unset] [(.ref r26)]))
    refine oS (fun _ κ => XS.astore X25.here hx rfl (hb hby q7_26) rfl rfl (l' := #[.val (.ref a), .val (.int (0 : Int32)), .val (.int (3 : Int32)), .val (.ref b1), .val (.int (1 : Int32)), .val (.ref r26)]) rfl κ) ?_
    refine oS (fun _ κ => XS.aload X25.here hx rfl (hb hby q7_28) rfl rfl κ) ?_
    refine oS (fun _ κ => XS.iload X25.here hx rfl (hb hby q7_30) rfl κ) ?_
    obtain ⟨vr34, _, ⟨T34, L34, k34, n34⟩, -, X34, ⟨Lc34, hQ34, l34, y34, z34⟩, st34⟩ := Jvm.LawKit.callS X25 hx (y := own_y16) hown (mvT hZ (own_w hw 93 rfl)) (mvT hZ (own_w hw 94 rfl)) (mvT hZ (own_w hw 44 rfl)) (mvT hZ (own_w hw 95 rfl)) (by decide) (backOf (W := 0) (rm12 l Z a0 hw [] r26 (1 : Int32) (6 : Int32) (own_upd (own_upd (own_upd (own_upd (own_upd (own_upd own_zero 0 (own_bl c0)) (0 + 1) (own_bh c0)) 2 (own_bl c1)) (2 + 1) (own_bh c1)) 4 (own_bl c2)) (4 + 1) (own_bh c2)) T25.heap n0 z33 p25_1 f31 P2 P3 P4 (by decide) (by decide)) hZ (own_w hw 95 rfl) (own_w hw 44 rfl) (by decide) (by decide)) (g := (mkF m 32 #[.val (.ref a), .val (.int (0 : Int32)), .val (.int (3 : Int32)), .val (.ref b1), .val (.int (1 : Int32)), .val (.ref r26)] [(.int (1 : Int32)), (.ref r26)])) rfl (by rw [hml]; rfl) (argsL := [(.ref r26), (.int (1 : Int32))]) (rest := []) (lenOf pd_4 rfl) rfl own_2z (hb hby q7_32) (fun _ _ => ⟨rfl, rfl, (by decide : 2 + 0 ≤ _), (by decide : 9 + 0 ≤ _)⟩)
    dsimp only [Pt.U, Pt.locs, Pt.cells, Pt.slots] at X34 l34 y34 z34 st34 hQ34
    subst l34 y34 z34
    obtain ⟨rfl, Nq34, eq34⟩ := hQ34
    have N34 := Fr.app N25 Nq34
    refine oS st34 ?_
    show oG _ _ _ _ (T34.setTop (mkF m 35 #[.val (.ref a), .val (.int (0 : Int32)), .val (.int (3 : Int32)), .val (.ref b1), .val (.int (1 : Int32)), .val (.ref r26)] [(.int (own_gc ((own_upd (own_upd (own_upd (own_upd (own_upd (own_upd own_zero 0 (own_bl c0)) (0 + 1) (own_bh c0)) 2 (own_bl c1)) (2 + 1) (own_bh c1)) 4 (own_bl c2)) (4 + 1) (own_bh c2)) ((1 : Int32) <<< ((1 : Int32) &&& 31)).toNatClampNeg) ((own_upd (own_upd (own_upd (own_upd (own_upd (own_upd own_zero 0 (own_bl c0)) (0 + 1) (own_bh c0)) 2 (own_bl c1)) (2 + 1) (own_bh c1)) 4 (own_bl c2)) (4 + 1) (own_bh c2)) (((1 : Int32) <<< ((1 : Int32) &&& 31)) + (1 : Int32)).toNatClampNeg)))]))
    refine oS (fun _ κ => XS.sipush X34.here hx rfl (hb hby q7_35) κ) ?_
    refine oS (fun _ κ => XS.icmpYes X34.here hx rfl (pc0 := 38) (pc' := 54) rfl (hb hby q7_38) rfl (tlt (by rw [show (own_gc ((own_upd (own_upd (own_upd (own_upd (own_upd (own_upd own_zero 0 (own_bl c0)) (0 + 1) (own_bh c0)) 2 (own_bl c1)) (2 + 1) (own_bh c1)) 4 (own_bl c2)) (4 + 1) (own_bh c2)) ((1 : Int32) <<< ((1 : Int32) &&& 31)).toNatClampNeg) ((own_upd (own_upd (own_upd (own_upd (own_upd (own_upd own_zero 0 (own_bl c0)) (0 + 1) (own_bh c0)) 2 (own_bl c1)) (2 + 1) (own_bh c1)) 4 (own_bl c2)) (4 + 1) (own_bh c2)) (((1 : Int32) <<< ((1 : Int32) &&& 31)) + (1 : Int32)).toNatClampNeg)) = c1 from own_gcE P6]; exact pa9_2_0)).2.2.1 (by decide) (by decide) κ) ?_
    show oG _ _ _ _ (T34.setTop (mkF m 54 #[.val (.ref a), .val (.int (0 : Int32)), .val (.int (3 : Int32)), .val (.ref b1), .val (.int (1 : Int32)), .val (.ref r26)] []))
    refine oS (fun _ κ => XS.aload X34.here hx rfl (hb hby q7_54) rfl rfl κ) ?_
    obtain ⟨fs, hr, hrun, hended, hW, hsame⟩ := X34.leave (v := some (.ref r26)) (fun h => by rw [Bd.returns] at h; cases h)
    refine ⟨_, _, retOut X34 hx Bd.returns rfl (Or.inr (Or.inr (Or.inr (Or.inr ⟨rfl, rfl, rfl⟩)))) (hb hby q7_56) hr, hrun, hended, _, _, rfl, ?_, ⟨_, rfl⟩, hW, hsame.mono (by decide) (by decide)⟩
    show Q35 Z a ka c0 c1 c2 h0 n0 _ T34.heap _
    rw [eq34]
    exact ⟨r26, rfl, N34, K32, sz29, (Or.inr p25_1)⟩
  · refine oS st9 ?_
    show oG _ _ _ _ (T9.setTop (mkF m 12 #[.val (.ref a), .val (.int (0 : Int32)), .val (.int (3 : Int32)), .val (.ref b1), .unset, .unset] [(.int (2 : Int32))]))
    refine oS (fun _ κ => XS.istore X9.here hx rfl (hb hby q7_12) rfl (l' := #[.val (.ref a), .val (.int (0 : Int32)), .val (.int (3 : Int32)), .val (.ref b1), .val (.int (2 : Int32)), .unset]) rfl κ) ?_
    refine oS (fun _ κ => XS.iload X9.here hx rfl (hb hby q7_14) rfl κ) ?_
    refine oS (fun _ κ => XS.iloadN X9.here hx rfl (hb hby q7_16) rfl κ) ?_
    refine oS (fun _ κ => XS.icmpNo X9.here hx rfl (hb hby q7_17) rfl (feq (by decide)).1 κ) ?_
    show oG _ _ _ _ (T9.setTop (mkF m 20 #[.val (.ref a), .val (.int (0 : Int32)), .val (.int (3 : Int32)), .val (.ref b1), .val (.int (2 : Int32)), .unset] []))
    refine oS (fun _ κ => XS.aloadN X9.here hx rfl (hb hby q7_20) rfl rfl κ) ?_
    refine oS (fun _ κ => XS.iloadN X9.here hx rfl (hb hby q7_21) rfl κ) ?_
    refine oS (fun _ κ => XS.iloadN X9.here hx rfl (hb hby q7_22) rfl κ) ?_
    obtain ⟨vr35, _, ⟨T35, L35, k35, n35⟩, -, X35, ⟨Lc35, hQ35, l35, y35, z35⟩, st35⟩ := Jvm.LawKit.callS X9 hx (y := own_y21) hown (mvT hZ (own_w hw 77 rfl)) (mvT hZ (own_w hw 78 rfl)) (mvT hZ (own_w hw 44 rfl)) (mvT hZ (own_w hw 79 rfl)) (by decide) (backOf (W := 0) (rm31 l Z a0 hw [] a ka c0 c1 c2 T9.heap n0 z14 f11 f12 P2 P3 P4) hZ (own_w hw 79 rfl) (own_w hw 44 rfl) (by decide) (by decide)) (g := (mkF m 23 #[.val (.ref a), .val (.int (0 : Int32)), .val (.int (3 : Int32)), .val (.ref b1), .val (.int (2 : Int32)), .unset] [(.int (3 : Int32)), (.int (0 : Int32)), (.ref a)])) rfl (by rw [hml]; rfl) (argsL := [(.ref a), (.int (0 : Int32)), (.int (3 : Int32))]) (rest := []) (lenOf pd_11 rfl) rfl own_2z (hb hby q7_23) (fun _ _ => ⟨rfl, rfl, (by decide : 1 + 1 ≤ _), (by decide : 3 + 6 ≤ _)⟩)
    dsimp only [Pt.U, Pt.locs, Pt.cells, Pt.slots] at X35 l35 y35 z35 st35 hQ35
    subst l35 y35 z35
    obtain ⟨r36, rfl, Nq35, Kq35, p35_0, p35_1⟩ := hQ35
    have N35 := Fr.app N9 Nq35
    have ne37 : a ≠ r36 := Nat.ne_of_lt (Nat.lt_of_lt_of_le f11.lt p35_0)
    have ge38 : n0 ≤ r36 := Nat.le_trans z14 p35_0
    have sz39 : h0.size ≤ r36 := Nat.le_trans K13.1 p35_0
    have f40 := f11.keep Kq35 nin0
    have f41 := f12.keep Kq35 all0
    have K42 : Keep h0 T35.heap [] := K13.trans Kq35 all0
    have z43 : n0 ≤ T35.heap.size := Nat.le_trans z14 Kq35.1
    refine oS st35 ?_
    show oG _ _ _ _ (T35.setTop (mkF m 26 #[.val (.ref a), .val (.int (0 : Int32)), .val (.int (3 : Int32)), .val (.ref b1), .val (.int (2 : Int32)), .unset] [(.ref r36)]))
    refine oS (fun _ κ => XS.astore X35.here hx rfl (hb hby q7_26) rfl rfl (l' := #[.val (.ref a), .val (.int (0 : Int32)), .val (.int (3 : Int32)), .val (.ref b1), .val (.int (2 : Int32)), .val (.ref r36)]) rfl κ) ?_
    refine oS (fun _ κ => XS.aload X35.here hx rfl (hb hby q7_28) rfl rfl κ) ?_
    refine oS (fun _ κ => XS.iload X35.here hx rfl (hb hby q7_30) rfl κ) ?_
    obtain ⟨vr44, _, ⟨T44, L44, k44, n44⟩, -, X44, ⟨Lc44, hQ44, l44, y44, z44⟩, st44⟩ := Jvm.LawKit.callS X35 hx (y := own_y16) hown (mvT hZ (own_w hw 93 rfl)) (mvT hZ (own_w hw 94 rfl)) (mvT hZ (own_w hw 44 rfl)) (mvT hZ (own_w hw 95 rfl)) (by decide) (backOf (W := 0) (rm12 l Z a0 hw [] r36 (2 : Int32) (6 : Int32) (own_upd (own_upd (own_upd (own_upd (own_upd (own_upd own_zero 0 (own_bl c0)) (0 + 1) (own_bh c0)) 2 (own_bl c1)) (2 + 1) (own_bh c1)) 4 (own_bl c2)) (4 + 1) (own_bh c2)) T35.heap n0 z43 p35_1 f41 P2 P3 P4 (by decide) (by decide)) hZ (own_w hw 95 rfl) (own_w hw 44 rfl) (by decide) (by decide)) (g := (mkF m 32 #[.val (.ref a), .val (.int (0 : Int32)), .val (.int (3 : Int32)), .val (.ref b1), .val (.int (2 : Int32)), .val (.ref r36)] [(.int (2 : Int32)), (.ref r36)])) rfl (by rw [hml]; rfl) (argsL := [(.ref r36), (.int (2 : Int32))]) (rest := []) (lenOf pd_4 rfl) rfl own_2z (hb hby q7_32) (fun _ _ => ⟨rfl, rfl, (by decide : 2 + 0 ≤ _), (by decide : 9 + 0 ≤ _)⟩)
    dsimp only [Pt.U, Pt.locs, Pt.cells, Pt.slots] at X44 l44 y44 z44 st44 hQ44
    subst l44 y44 z44
    obtain ⟨rfl, Nq44, eq44⟩ := hQ44
    have N44 := Fr.app N35 Nq44
    refine oS st44 ?_
    show oG _ _ _ _ (T44.setTop (mkF m 35 #[.val (.ref a), .val (.int (0 : Int32)), .val (.int (3 : Int32)), .val (.ref b1), .val (.int (2 : Int32)), .val (.ref r36)] [(.int (own_gc ((own_upd (own_upd (own_upd (own_upd (own_upd (own_upd own_zero 0 (own_bl c0)) (0 + 1) (own_bh c0)) 2 (own_bl c1)) (2 + 1) (own_bh c1)) 4 (own_bl c2)) (4 + 1) (own_bh c2)) ((2 : Int32) <<< ((1 : Int32) &&& 31)).toNatClampNeg) ((own_upd (own_upd (own_upd (own_upd (own_upd (own_upd own_zero 0 (own_bl c0)) (0 + 1) (own_bh c0)) 2 (own_bl c1)) (2 + 1) (own_bh c1)) 4 (own_bl c2)) (4 + 1) (own_bh c2)) (((2 : Int32) <<< ((1 : Int32) &&& 31)) + (1 : Int32)).toNatClampNeg)))]))
    refine oS (fun _ κ => XS.sipush X44.here hx rfl (hb hby q7_35) κ) ?_
    refine oS (fun _ κ => XS.icmpYes X44.here hx rfl (pc0 := 38) (pc' := 54) rfl (hb hby q7_38) rfl (tlt (by rw [show (own_gc ((own_upd (own_upd (own_upd (own_upd (own_upd (own_upd own_zero 0 (own_bl c0)) (0 + 1) (own_bh c0)) 2 (own_bl c1)) (2 + 1) (own_bh c1)) 4 (own_bl c2)) (4 + 1) (own_bh c2)) ((2 : Int32) <<< ((1 : Int32) &&& 31)).toNatClampNeg) ((own_upd (own_upd (own_upd (own_upd (own_upd (own_upd own_zero 0 (own_bl c0)) (0 + 1) (own_bh c0)) 2 (own_bl c1)) (2 + 1) (own_bh c1)) 4 (own_bl c2)) (4 + 1) (own_bh c2)) (((2 : Int32) <<< ((1 : Int32) &&& 31)) + (1 : Int32)).toNatClampNeg)) = c2 from own_gcE P7]; exact pa9_3_0)).2.2.1 (by decide) (by decide) κ) ?_
    show oG _ _ _ _ (T44.setTop (mkF m 54 #[.val (.ref a), .val (.int (0 : Int32)), .val (.int (3 : Int32)), .val (.ref b1), .val (.int (2 : Int32)), .val (.ref r36)] []))
    refine oS (fun _ κ => XS.aload X44.here hx rfl (hb hby q7_54) rfl rfl κ) ?_
    obtain ⟨fs, hr, hrun, hended, hW, hsame⟩ := X44.leave (v := some (.ref r36)) (fun h => by rw [Bd.returns] at h; cases h)
    refine ⟨_, _, retOut X44 hx Bd.returns rfl (Or.inr (Or.inr (Or.inr (Or.inr ⟨rfl, rfl, rfl⟩)))) (hb hby q7_56) hr, hrun, hended, _, _, rfl, ?_, ⟨_, rfl⟩, hW, hsame.mono (by decide) (by decide)⟩
    show Q35 Z a ka c0 c1 c2 h0 n0 _ T44.heap _
    rw [eq44]
    exact ⟨r36, rfl, N44, K42, sz39, (Or.inr p35_1)⟩
theorem ef_36 (m : MethodId) (a : Addr) : entryFrame m #[(.ref a), (.int (0 : Int32)), (.int (4 : Int32))] 6 = mkF m 0 #[.val (.ref a), .val (.int (0 : Int32)), .val (.int (4 : Int32)), .unset, .unset, .unset] [] := by first | (simp [entryFrame, mkF, argsToLocals, Value.category]; done) | rfl
def Q36 (Z : State) (a : Addr) (ka : ClassId) (c0 : Int32) (c1 : Int32) (c2 : Int32) (c3 : Int32) (h0 : Heap) (n0 : Nat) (v : Option Value) (h : Heap) (L : List Loc) : Prop := ∃ r : Addr, v = some (.ref r) ∧ Fr n0 L ∧ Keep h0 h [] ∧ (h0.size ≤ r) ∧ (((own_By Z h r (4 : Int32) (own_upd (own_upd (own_upd (own_upd own_zero (0 : Int32).toNatClampNeg (own_lb c0)) (1 : Int32).toNatClampNeg (own_lb c1)) (2 : Int32).toNatClampNeg (own_lb c2)) (3 : Int32).toNatClampNeg (own_lb c3))) ∧ (¬ (255 : Int32) < c0) ∧ (¬ (255 : Int32) < c1) ∧ (¬ (255 : Int32) < c2) ∧ (¬ (255 : Int32) < c3)) ∨ ((own_By Z h r (8 : Int32) (own_upd (own_upd (own_upd (own_upd (own_upd (own_upd (own_upd (own_upd own_zero 0 (own_bl c0)) (0 + 1) (own_bh c0)) 2 (own_bl c1)) (2 + 1) (own_bh c1)) 4 (own_bl c2)) (4 + 1) (own_bh c2)) 6 (own_bl c3)) (6 + 1) (own_bh c3)))))
set_option maxRecDepth 65536 in
set_option maxHeartbeats 40000000 in
theorem rm36 (l : Launch) (Z : State) (a0 : Array Value) (hw : ∀ d ∈ tables_1, d.before a0 Z = true) (ws : List Jvm.Cond) (a : Addr) (ka : ClassId) (c0 : Int32) (c1 : Int32) (c2 : Int32) (c3 : Int32) (h0 : Heap) (n0 : Nat) (Z0 : n0 ≤ h0.size) (P0 : Arv Z h0 a ka .char (4 : Int32) [(.int c0), (.int c1), (.int c2), (.int c3)] (.int (0 : Int32))) (P1 : Old Z n0 h0) (P2 : Sta Z Z.heap "java/lang/StringUTF16" "$assertionsDisabled" "Z" (.int (1 : Int32))) (P3 : Sta Z Z.heap "java/lang/StringUTF16" "HI_BYTE_SHIFT" "I" (.int (0 : Int32))) (P4 : Sta Z Z.heap "java/lang/StringUTF16" "LO_BYTE_SHIFT" "I" (.int (8 : Int32))) (P5 : own_R c0) (P6 : own_R c1) (P7 : own_R c2) (P8 : own_R c3) :
    MetFree l own_y14 (head1 (Jvm.Cond.code own_y14 jdk_52_method_16_code 6 (some (.array .byte)) :: ws) own_r16) (fun ar_ U => ar_ = #[(.ref a), (.int (0 : Int32)), (.int (4 : Int32))] ∧ Z.Warmed39 U.vm ∧ U.heap = h0) (fun _ _ _ _ _ => True) (fun _ U oo_ U' => ∃ v L, oo_ = .returned v ∧ Q36 Z a ka c0 c1 c2 c3 h0 n0 v U'.heap L ∧ FrameEnd U oo_ U' L own_r16.cells own_r16.slots) := by
  refine MetFree.of_bodySF (plainFor_of_name pn_4) hisR ?_
  intro p e s m args below meth c s₁ Bd hml0 hP hK
  obtain ⟨rfl, hZ, hh⟩ := hP
  have hx := Bd.exec
  have hby := Bd.bytes
  have hml : c.maxLocals = 6 := hml0
  have hown : s.vm.findClass "java/lang/StringUTF16" = some m.cls := findClass_of_methodNamed Bd.named
  have hnm := (name_of_methodNamed Bd.named Bd.method).1
  have X0 : Stand p l e own_r16 s m #[(.ref a), (.int (0 : Int32)), (.int (4 : Int32))] below meth c s₁ [] 0 0 := Stand.of_body Bd
  have e0 : s₁.heap = h0 := by rw [← hh, Bd.state]; rfl
  have N0 := Fr.nil n0
  refine own_in (castTop (ef_36 m a)) ?_
  show oG _ _ _ _ (s₁.setTop (mkF m 0 #[.val (.ref a), .val (.int (0 : Int32)), .val (.int (4 : Int32)), .unset, .unset, .unset] []))
  refine oS (fun _ κ => XS.iloadN X0.here hx rfl (hb hby q7_0) rfl κ) ?_
  show oG _ _ _ _ (s₁.setTop (mkF m 1 #[.val (.ref a), .val (.int (0 : Int32)), .val (.int (4 : Int32)), .unset, .unset, .unset] [(.int (4 : Int32))]))
  obtain ⟨T1, h1, k1, X1, e1, E1, A1, st1⟩ := newP X0 hx hZ (own_w hw 20 rfl) e0 (g := (mkF m 1 #[.val (.ref a), .val (.int (0 : Int32)), .val (.int (4 : Int32)), .unset, .unset, .unset] [(.int (4 : Int32))])) rfl (hb hby q7_1) rfl (by decide) (cap := 4) (by decide) (by decide) (by decide) (by decide)
  obtain ⟨b1, g1⟩ : ∃ z, z = h0.size := ⟨_, rfl⟩
  rw [← g1] at A1 st1
  refine oS st1 ?_
  have ne2 : a ≠ b1 := Nat.ne_of_lt (Nat.lt_of_lt_of_le P0.lt (Nat.le_of_eq g1.symm))
  have ge3 : n0 ≤ b1 := Nat.le_trans Z0 (Nat.le_of_eq g1.symm)
  have sz4 : h0.size ≤ b1 := Nat.le_trans (Keep.refl h0 []).1 (Nat.le_of_eq g1.symm)
  have f5 := P0.ext E1
  have f6 := P1.ext E1
  have K7 : Keep h0 h1 [] := (Keep.refl h0 []).ext E1
  have z8 : n0 ≤ h1.size := Nat.le_trans Z0 E1.1
  have V1 : own_By Z h1 b1 (4 : Int32) own_zero := own_By.new A1 (by decide)
  show oG _ _ _ _ (T1.setTop (mkF m 3 #[.val (.ref a), .val (.int (0 : Int32)), .val (.int (4 : Int32)), .unset, .unset, .unset] [(.ref b1)]))
  refine oS (fun _ κ => XS.astoreN X1.here hx rfl (hb hby q7_3) rfl rfl (l' := #[.val (.ref a), .val (.int (0 : Int32)), .val (.int (4 : Int32)), .val (.ref b1), .unset, .unset]) rfl κ) ?_
  refine oS (fun _ κ => XS.aloadN X1.here hx rfl (hb hby q7_4) rfl rfl κ) ?_
  refine oS (fun _ κ => XS.iloadN X1.here hx rfl (hb hby q7_5) rfl κ) ?_
  refine oS (fun _ κ => XS.aloadN X1.here hx rfl (hb hby q7_6) rfl rfl κ) ?_
  refine oS (fun _ κ => XS.iconst X1.here hx rfl (hb hby q7_7) κ) ?_
  refine oS (fun _ κ => XS.iloadN X1.here hx rfl (hb hby q7_8) rfl κ) ?_
  obtain ⟨vr9, _, ⟨T9, L9, k9, n9⟩, -, X9, ⟨Lc9, hQ9, l9, y9, z9⟩, st9⟩ := Jvm.LawKit.callS X1 hx (y := own_y15) hown (mvT hZ (own_w hw 46 rfl)) (mvT hZ (own_w hw 47 rfl)) (mvT hZ (own_w hw 44 rfl)) (mvT hZ (own_w hw 48 rfl)) (by decide) (backOf (W := 0) (rm19 l Z a0 hw [] a b1 ka c0 c1 c2 c3 h1 n0 z8 f5 V1 ge3 ne2) hZ (own_w hw 48 rfl) (own_w hw 44 rfl) (by decide) (by decide)) (g := (mkF m 9 #[.val (.ref a), .val (.int (0 : Int32)), .val (.int (4 : Int32)), .val (.ref b1), .unset, .unset] [(.int (4 : Int32)), (.int (0 : Int32)), (.ref b1), (.int (0 : Int32)), (.ref a)])) rfl (by rw [hml]; rfl) (argsL := [(.ref a), (.int (0 : Int32)), (.ref b1), (.int (0 : Int32)), (.int (4 : Int32))]) (rest := []) (lenOf pd_10 rfl) rfl own_2z (hb hby q7_9) (fun _ _ => ⟨rfl, e1, (by decide : 1 + 0 ≤ _), (by decide : 4 + 0 ≤ _)⟩)
  dsimp only [Pt.U, Pt.locs, Pt.cells, Pt.slots] at X9 l9 y9 z9 st9 hQ9
  subst l9 y9 z9
  obtain ⟨u10, rfl, Nq9, Kq9, pa9⟩ := hQ9
  have N9 := Fr.app N0 Nq9
  have f11 := f5.keep Kq9 (ninS ne2 nin0)
  have f12 := f6.keep Kq9 (allS ge3 all0)
  have K13 : Keep h0 T9.heap [] := K7.trans Kq9 (allS (Or.inr sz4) all0)
  have z14 : n0 ≤ T9.heap.size := Nat.le_trans z8 Kq9.1
  rcases pa9 with ⟨rfl, pa9_0_0, pa9_0_1, pa9_0_2, pa9_0_3, pa9_0_4⟩ | ⟨rfl, pa9_1_0⟩ | ⟨rfl, pa9_2_0⟩ | ⟨rfl, pa9_3_0⟩ | ⟨rfl, pa9_4_0⟩
  · refine oS st9 ?_
    show oG _ _ _ _ (T9.setTop (mkF m 12 #[.val (.ref a), .val (.int (0 : Int32)), .val (.int (4 : Int32)), .val (.ref b1), .unset, .unset] [(.int (4 : Int32))]))
    refine oS (fun _ κ => XS.istore X9.here hx rfl (hb hby q7_12) rfl (l' := #[.val (.ref a), .val (.int (0 : Int32)), .val (.int (4 : Int32)), .val (.ref b1), .val (.int (4 : Int32)), .unset]) rfl κ) ?_
    refine oS (fun _ κ => XS.iload X9.here hx rfl (hb hby q7_14) rfl κ) ?_
    refine oS (fun _ κ => XS.iloadN X9.here hx rfl (hb hby q7_16) rfl κ) ?_
    refine oS (fun _ κ => XS.icmpYes X9.here hx rfl (pc0 := 17) (pc' := 57) rfl (hb hby q7_17) rfl (teq rfl).1 (by decide) (by decide) κ) ?_
    show oG _ _ _ _ (T9.setTop (mkF m 57 #[.val (.ref a), .val (.int (0 : Int32)), .val (.int (4 : Int32)), .val (.ref b1), .val (.int (4 : Int32)), .unset] []))
    refine oS (fun _ κ => XS.aloadN X9.here hx rfl (hb hby q7_57) rfl rfl κ) ?_
    obtain ⟨fs, hr, hrun, hended, hW, hsame⟩ := X9.leave (v := some (.ref b1)) (fun h => by rw [Bd.returns] at h; cases h)
    refine ⟨_, _, retOut X9 hx Bd.returns rfl (Or.inr (Or.inr (Or.inr (Or.inr ⟨rfl, rfl, rfl⟩)))) (hb hby q7_58) hr, hrun, hended, _, _, rfl, ?_, ⟨_, rfl⟩, hW, hsame.mono (by decide) (by decide)⟩
    show Q36 Z a ka c0 c1 c2 c3 h0 n0 _ T9.heap _
    skip
    exact ⟨b1, rfl, N9, K13, sz4, (Or.inl ⟨pa9_0_0, pa9_0_1, pa9_0_2, pa9_0_3, pa9_0_4⟩)⟩
  · refine oS st9 ?_
    show oG _ _ _ _ (T9.setTop (mkF m 12 #[.val (.ref a), .val (.int (0 : Int32)), .val (.int (4 : Int32)), .val (.ref b1), .unset, .unset] [(.int (0 : Int32))]))
    refine oS (fun _ κ => XS.istore X9.here hx rfl (hb hby q7_12) rfl (l' := #[.val (.ref a), .val (.int (0 : Int32)), .val (.int (4 : Int32)), .val (.ref b1), .val (.int (0 : Int32)), .unset]) rfl κ) ?_
    refine oS (fun _ κ => XS.iload X9.here hx rfl (hb hby q7_14) rfl κ) ?_
    refine oS (fun _ κ => XS.iloadN X9.here hx rfl (hb hby q7_16) rfl κ) ?_
    refine oS (fun _ κ => XS.icmpNo X9.here hx rfl (hb hby q7_17) rfl (feq (by decide)).1 κ) ?_
    show oG _ _ _ _ (T9.setTop (mkF m 20 #[.val (.ref a), .val (.int (0 : Int32)), .val (.int (4 : Int32)), .val (.ref b1), .val (.int (0 : Int32)), .unset] []))
    refine oS (fun _ κ => XS.aloadN X9.here hx rfl (hb hby q7_20) rfl rfl κ) ?_
    refine oS (fun _ κ => XS.iloadN X9.here hx rfl (hb hby q7_21) rfl κ) ?_
    refine oS (fun _ κ => XS.iloadN X9.here hx rfl (hb hby q7_22) rfl κ) ?_
    obtain ⟨vr15, _, ⟨T15, L15, k15, n15⟩, -, X15, ⟨Lc15, hQ15, l15, y15, z15⟩, st15⟩ := Jvm.LawKit.callS X9 hx (y := own_y21) hown (mvT hZ (own_w hw 77 rfl)) (mvT hZ (own_w hw 78 rfl)) (mvT hZ (own_w hw 44 rfl)) (mvT hZ (own_w hw 79 rfl)) (by decide) (backOf (W := 0) (rm32 l Z a0 hw [] a ka c0 c1 c2 c3 T9.heap n0 z14 f11 f12 P2 P3 P4) hZ (own_w hw 79 rfl) (own_w hw 44 rfl) (by decide) (by decide)) (g := (mkF m 23 #[.val (.ref a), .val (.int (0 : Int32)), .val (.int (4 : Int32)), .val (.ref b1), .val (.int (0 : Int32)), .unset] [(.int (4 : Int32)), (.int (0 : Int32)), (.ref a)])) rfl (by rw [hml]; rfl) (argsL := [(.ref a), (.int (0 : Int32)), (.int (4 : Int32))]) (rest := []) (lenOf pd_11 rfl) rfl own_2z (hb hby q7_23) (fun _ _ => ⟨rfl, rfl, (by decide : 1 + 1 ≤ _), (by decide : 4 + 8 ≤ _)⟩)
    dsimp only [Pt.U, Pt.locs, Pt.cells, Pt.slots] at X15 l15 y15 z15 st15 hQ15
    subst l15 y15 z15
    obtain ⟨r16, rfl, Nq15, Kq15, p15_0, p15_1⟩ := hQ15
    have N15 := Fr.app N9 Nq15
    have ne17 : a ≠ r16 := Nat.ne_of_lt (Nat.lt_of_lt_of_le f11.lt p15_0)
    have ge18 : n0 ≤ r16 := Nat.le_trans z14 p15_0
    have sz19 : h0.size ≤ r16 := Nat.le_trans K13.1 p15_0
    have f20 := f11.keep Kq15 nin0
    have f21 := f12.keep Kq15 all0
    have K22 : Keep h0 T15.heap [] := K13.trans Kq15 all0
    have z23 : n0 ≤ T15.heap.size := Nat.le_trans z14 Kq15.1
    refine oS st15 ?_
    show oG _ _ _ _ (T15.setTop (mkF m 26 #[.val (.ref a), .val (.int (0 : Int32)), .val (.int (4 : Int32)), .val (.ref b1), .val (.int (0 : Int32)), .unset] [(.ref r16)]))
    refine oS (fun _ κ => XS.astore X15.here hx rfl (hb hby q7_26) rfl rfl (l' := #[.val (.ref a), .val (.int (0 : Int32)), .val (.int (4 : Int32)), .val (.ref b1), .val (.int (0 : Int32)), .val (.ref r16)]) rfl κ) ?_
    refine oS (fun _ κ => XS.aload X15.here hx rfl (hb hby q7_28) rfl rfl κ) ?_
    refine oS (fun _ κ => XS.iload X15.here hx rfl (hb hby q7_30) rfl κ) ?_
    obtain ⟨vr24, _, ⟨T24, L24, k24, n24⟩, -, X24, ⟨Lc24, hQ24, l24, y24, z24⟩, st24⟩ := Jvm.LawKit.callS X15 hx (y := own_y16) hown (mvT hZ (own_w hw 93 rfl)) (mvT hZ (own_w hw 94 rfl)) (mvT hZ (own_w hw 44 rfl)) (mvT hZ (own_w hw 95 rfl)) (by decide) (backOf (W := 0) (rm12 l Z a0 hw [] r16 (0 : Int32) (8 : Int32) (own_upd (own_upd (own_upd (own_upd (own_upd (own_upd (own_upd (own_upd own_zero 0 (own_bl c0)) (0 + 1) (own_bh c0)) 2 (own_bl c1)) (2 + 1) (own_bh c1)) 4 (own_bl c2)) (4 + 1) (own_bh c2)) 6 (own_bl c3)) (6 + 1) (own_bh c3)) T15.heap n0 z23 p15_1 f21 P2 P3 P4 (by decide) (by decide)) hZ (own_w hw 95 rfl) (own_w hw 44 rfl) (by decide) (by decide)) (g := (mkF m 32 #[.val (.ref a), .val (.int (0 : Int32)), .val (.int (4 : Int32)), .val (.ref b1), .val (.int (0 : Int32)), .val (.ref r16)] [(.int (0 : Int32)), (.ref r16)])) rfl (by rw [hml]; rfl) (argsL := [(.ref r16), (.int (0 : Int32))]) (rest := []) (lenOf pd_4 rfl) rfl own_2z (hb hby q7_32) (fun _ _ => ⟨rfl, rfl, (by decide : 2 + 0 ≤ _), (by decide : 12 + 0 ≤ _)⟩)
    dsimp only [Pt.U, Pt.locs, Pt.cells, Pt.slots] at X24 l24 y24 z24 st24 hQ24
    subst l24 y24 z24
    obtain ⟨rfl, Nq24, eq24⟩ := hQ24
    have N24 := Fr.app N15 Nq24
    refine oS st24 ?_
    show oG _ _ _ _ (T24.setTop (mkF m 35 #[.val (.ref a), .val (.int (0 : Int32)), .val (.int (4 : Int32)), .val (.ref b1), .val (.int (0 : Int32)), .val (.ref r16)] [(.int (own_gc ((own_upd (own_upd (own_upd (own_upd (own_upd (own_upd (own_upd (own_upd own_zero 0 (own_bl c0)) (0 + 1) (own_bh c0)) 2 (own_bl c1)) (2 + 1) (own_bh c1)) 4 (own_bl c2)) (4 + 1) (own_bh c2)) 6 (own_bl c3)) (6 + 1) (own_bh c3)) ((0 : Int32) <<< ((1 : Int32) &&& 31)).toNatClampNeg) ((own_upd (own_upd (own_upd (own_upd (own_upd (own_upd (own_upd (own_upd own_zero 0 (own_bl c0)) (0 + 1) (own_bh c0)) 2 (own_bl c1)) (2 + 1) (own_bh c1)) 4 (own_bl c2)) (4 + 1) (own_bh c2)) 6 (own_bl c3)) (6 + 1) (own_bh c3)) (((0 : Int32) <<< ((1 : Int32) &&& 31)) + (1 : Int32)).toNatClampNeg)))]))
    refine oS (fun _ κ => XS.sipush X24.here hx rfl (hb hby q7_35) κ) ?_
    refine oS (fun _ κ => XS.icmpYes X24.here hx rfl (pc0 := 38) (pc' := 54) rfl (hb hby q7_38) rfl (tlt (by rw [show (own_gc ((own_upd (own_upd (own_upd (own_upd (own_upd (own_upd (own_upd (own_upd own_zero 0 (own_bl c0)) (0 + 1) (own_bh c0)) 2 (own_bl c1)) (2 + 1) (own_bh c1)) 4 (own_bl c2)) (4 + 1) (own_bh c2)) 6 (own_bl c3)) (6 + 1) (own_bh c3)) ((0 : Int32) <<< ((1 : Int32) &&& 31)).toNatClampNeg) ((own_upd (own_upd (own_upd (own_upd (own_upd (own_upd (own_upd (own_upd own_zero 0 (own_bl c0)) (0 + 1) (own_bh c0)) 2 (own_bl c1)) (2 + 1) (own_bh c1)) 4 (own_bl c2)) (4 + 1) (own_bh c2)) 6 (own_bl c3)) (6 + 1) (own_bh c3)) (((0 : Int32) <<< ((1 : Int32) &&& 31)) + (1 : Int32)).toNatClampNeg)) = c0 from own_gcE P5]; exact pa9_1_0)).2.2.1 (by decide) (by decide) κ) ?_
    show oG _ _ _ _ (T24.setTop (mkF m 54 #[.val (.ref a), .val (.int (0 : Int32)), .val (.int (4 : Int32)), .val (.ref b1), .val (.int (0 : Int32)), .val (.ref r16)] []))
    refine oS (fun _ κ => XS.aload X24.here hx rfl (hb hby q7_54) rfl rfl κ) ?_
    obtain ⟨fs, hr, hrun, hended, hW, hsame⟩ := X24.leave (v := some (.ref r16)) (fun h => by rw [Bd.returns] at h; cases h)
    refine ⟨_, _, retOut X24 hx Bd.returns rfl (Or.inr (Or.inr (Or.inr (Or.inr ⟨rfl, rfl, rfl⟩)))) (hb hby q7_56) hr, hrun, hended, _, _, rfl, ?_, ⟨_, rfl⟩, hW, hsame.mono (by decide) (by decide)⟩
    show Q36 Z a ka c0 c1 c2 c3 h0 n0 _ T24.heap _
    rw [eq24]
    exact ⟨r16, rfl, N24, K22, sz19, (Or.inr p15_1)⟩
  · refine oS st9 ?_
    show oG _ _ _ _ (T9.setTop (mkF m 12 #[.val (.ref a), .val (.int (0 : Int32)), .val (.int (4 : Int32)), .val (.ref b1), .unset, .unset] [(.int (1 : Int32))]))
    refine oS (fun _ κ => XS.istore X9.here hx rfl (hb hby q7_12) rfl (l' := #[.val (.ref a), .val (.int (0 : Int32)), .val (.int (4 : Int32)), .val (.ref b1), .val (.int (1 : Int32)), .unset]) rfl κ) ?_
    refine oS (fun _ κ => XS.iload X9.here hx rfl (hb hby q7_14) rfl κ) ?_
    refine oS (fun _ κ => XS.iloadN X9.here hx rfl (hb hby q7_16) rfl κ) ?_
    refine oS (fun _ κ => XS.icmpNo X9.here hx rfl (hb hby q7_17) rfl (feq (by decide)).1 κ) ?_
    show oG _ _ _ _ (T9.setTop (mkF m 20 #[.val (.ref a), .val (.int (0 : Int32)), .val (.int (4 : Int32)), .val (.ref b1), .val (.int (1 : Int32)), .unset] []))
    refine oS (fun _ κ => XS.aloadN X9.here hx rfl (hb hby q7_20) rfl rfl κ) ?_
    refine oS (fun _ κ => XS.iloadN X9.here hx rfl (hb hby q7_21) rfl κ) ?_
    refine oS (fun _ κ => XS.iloadN X9.here hx rfl (hb hby q7_22) rfl κ) ?_
    obtain ⟨vr25, _, ⟨T25, L25, k25, n25⟩, -, X25, ⟨Lc25, hQ25, l25, y25, z25⟩, st25⟩ := Jvm.LawKit.callS X9 hx (y := own_y21) hown (mvT hZ (own_w hw 77 rfl)) (mvT hZ (own_w hw 78 rfl)) (mvT hZ (own_w hw 44 rfl)) (mvT hZ (own_w hw 79 rfl)) (by decide) (backOf (W := 0) (rm32 l Z a0 hw [] a ka c0 c1 c2 c3 T9.heap n0 z14 f11 f12 P2 P3 P4) hZ (own_w hw 79 rfl) (own_w hw 44 rfl) (by decide) (by decide)) (g := (mkF m 23 #[.val (.ref a), .val (.int (0 : Int32)), .val (.int (4 : Int32)), .val (.ref b1), .val (.int (1 : Int32)), .unset] [(.int (4 : Int32)), (.int (0 : Int32)), (.ref a)])) rfl (by rw [hml]; rfl) (argsL := [(.ref a), (.int (0 : Int32)), (.int (4 : Int32))]) (rest := []) (lenOf pd_11 rfl) rfl own_2z (hb hby q7_23) (fun _ _ => ⟨rfl, rfl, (by decide : 1 + 1 ≤ _), (by decide : 4 + 8 ≤ _)⟩)
    dsimp only [Pt.U, Pt.locs, Pt.cells, Pt.slots] at X25 l25 y25 z25 st25 hQ25
    subst l25 y25 z25
    obtain ⟨r26, rfl, Nq25, Kq25, p25_0, p25_1⟩ := hQ25
    have N25 := Fr.app N9 Nq25
    have ne27 : a ≠ r26 := Nat.ne_of_lt (Nat.lt_of_lt_of_le f11.lt p25_0)
    have ge28 : n0 ≤ r26 := Nat.le_trans z14 p25_0
    have sz29 : h0.size ≤ r26 := Nat.le_trans K13.1 p25_0
    have f30 := f11.keep Kq25 nin0
    have f31 := f12.keep Kq25 all0
    have K32 : Keep h0 T25.heap [] := K13.trans Kq25 all0
    have z33 : n0 ≤ T25.heap.size := Nat.le_trans z14 Kq25.1
    refine oS st25 ?_
    show oG _ _ _ _ (T25.setTop (mkF m 26 #[.val (.ref a), .val (.int (0 : Int32)), .val (.int (4 : Int32)), .val (.ref b1), .val (.int (1 : Int32)), .unset] [(.ref r26)]))
    refine oS (fun _ κ => XS.astore X25.here hx rfl (hb hby q7_26) rfl rfl (l' := #[.val (.ref a), .val (.int (0 : Int32)), .val (.int (4 : Int32)), .val (.ref b1), .val (.int (1 : Int32)), .val (.ref r26)]) rfl κ) ?_
    refine oS (fun _ κ => XS.aload X25.here hx rfl (hb hby q7_28) rfl rfl κ) ?_
    refine oS (fun _ κ => XS.iload X25.here hx rfl (hb hby q7_30) rfl κ) ?_
    obtain ⟨vr34, _, ⟨T34, L34, k34, n34⟩, -, X34, ⟨Lc34, hQ34, l34, y34, z34⟩, st34⟩ := Jvm.LawKit.callS X25 hx (y := own_y16) hown (mvT hZ (own_w hw 93 rfl)) (mvT hZ (own_w hw 94 rfl)) (mvT hZ (own_w hw 44 rfl)) (mvT hZ (own_w hw 95 rfl)) (by decide) (backOf (W := 0) (rm12 l Z a0 hw [] r26 (1 : Int32) (8 : Int32) (own_upd (own_upd (own_upd (own_upd (own_upd (own_upd (own_upd (own_upd own_zero 0 (own_bl c0)) (0 + 1) (own_bh c0)) 2 (own_bl c1)) (2 + 1) (own_bh c1)) 4 (own_bl c2)) (4 + 1) (own_bh c2)) 6 (own_bl c3)) (6 + 1) (own_bh c3)) T25.heap n0 z33 p25_1 f31 P2 P3 P4 (by decide) (by decide)) hZ (own_w hw 95 rfl) (own_w hw 44 rfl) (by decide) (by decide)) (g := (mkF m 32 #[.val (.ref a), .val (.int (0 : Int32)), .val (.int (4 : Int32)), .val (.ref b1), .val (.int (1 : Int32)), .val (.ref r26)] [(.int (1 : Int32)), (.ref r26)])) rfl (by rw [hml]; rfl) (argsL := [(.ref r26), (.int (1 : Int32))]) (rest := []) (lenOf pd_4 rfl) rfl own_2z (hb hby q7_32) (fun _ _ => ⟨rfl, rfl, (by decide : 2 + 0 ≤ _), (by decide : 12 + 0 ≤ _)⟩)
    dsimp only [Pt.U, Pt.locs, Pt.cells, Pt.slots] at X34 l34 y34 z34 st34 hQ34
    subst l34 y34 z34
    obtain ⟨rfl, Nq34, eq34⟩ := hQ34
    have N34 := Fr.app N25 Nq34
    refine oS st34 ?_
    show oG _ _ _ _ (T34.setTop (mkF m 35 #[.val (.ref a), .val (.int (0 : Int32)), .val (.int (4 : Int32)), .val (.ref b1), .val (.int (1 : Int32)), .val (.ref r26)] [(.int (own_gc ((own_upd (own_upd (own_upd (own_upd (own_upd (own_upd (own_upd (own_upd own_zero 0 (own_bl c0)) (0 + 1) (own_bh c0)) 2 (own_bl c1)) (2 + 1) (own_bh c1)) 4 (own_bl c2)) (4 + 1) (own_bh c2)) 6 (own_bl c3)) (6 + 1) (own_bh c3)) ((1 : Int32) <<< ((1 : Int32) &&& 31)).toNatClampNeg) ((own_upd (own_upd (own_upd (own_upd (own_upd (own_upd (own_upd (own_upd own_zero 0 (own_bl c0)) (0 + 1) (own_bh c0)) 2 (own_bl c1)) (2 + 1) (own_bh c1)) 4 (own_bl c2)) (4 + 1) (own_bh c2)) 6 (own_bl c3)) (6 + 1) (own_bh c3)) (((1 : Int32) <<< ((1 : Int32) &&& 31)) + (1 : Int32)).toNatClampNeg)))]))
    refine oS (fun _ κ => XS.sipush X34.here hx rfl (hb hby q7_35) κ) ?_
    refine oS (fun _ κ => XS.icmpYes X34.here hx rfl (pc0 := 38) (pc' := 54) rfl (hb hby q7_38) rfl (tlt (by rw [show (own_gc ((own_upd (own_upd (own_upd (own_upd (own_upd (own_upd (own_upd (own_upd own_zero 0 (own_bl c0)) (0 + 1) (own_bh c0)) 2 (own_bl c1)) (2 + 1) (own_bh c1)) 4 (own_bl c2)) (4 + 1) (own_bh c2)) 6 (own_bl c3)) (6 + 1) (own_bh c3)) ((1 : Int32) <<< ((1 : Int32) &&& 31)).toNatClampNeg) ((own_upd (own_upd (own_upd (own_upd (own_upd (own_upd (own_upd (own_upd own_zero 0 (own_bl c0)) (0 + 1) (own_bh c0)) 2 (own_bl c1)) (2 + 1) (own_bh c1)) 4 (own_bl c2)) (4 + 1) (own_bh c2)) 6 (own_bl c3)) (6 + 1) (own_bh c3)) (((1 : Int32) <<< ((1 : Int32) &&& 31)) + (1 : Int32)).toNatClampNeg)) = c1 from own_gcE P6]; exact pa9_2_0)).2.2.1 (by decide) (by decide) κ) ?_
    show oG _ _ _ _ (T34.setTop (mkF m 54 #[.val (.ref a), .val (.int (0 : Int32)), .val (.int (4 : Int32)), .val (.ref b1), .val (.int (1 : Int32)), .val (.ref r26)] []))
    refine oS (fun _ κ => XS.aload X34.here hx rfl (hb hby q7_54) rfl rfl κ) ?_
    obtain ⟨fs, hr, hrun, hended, hW, hsame⟩ := X34.leave (v := some (.ref r26)) (fun h => by rw [Bd.returns] at h; cases h)
    refine ⟨_, _, retOut X34 hx Bd.returns rfl (Or.inr (Or.inr (Or.inr (Or.inr ⟨rfl, rfl, rfl⟩)))) (hb hby q7_56) hr, hrun, hended, _, _, rfl, ?_, ⟨_, rfl⟩, hW, hsame.mono (by decide) (by decide)⟩
    show Q36 Z a ka c0 c1 c2 c3 h0 n0 _ T34.heap _
    rw [eq34]
    exact ⟨r26, rfl, N34, K32, sz29, (Or.inr p25_1)⟩
  · refine oS st9 ?_
    show oG _ _ _ _ (T9.setTop (mkF m 12 #[.val (.ref a), .val (.int (0 : Int32)), .val (.int (4 : Int32)), .val (.ref b1), .unset, .unset] [(.int (2 : Int32))]))
    refine oS (fun _ κ => XS.istore X9.here hx rfl (hb hby q7_12) rfl (l' := #[.val (.ref a), .val (.int (0 : Int32)), .val (.int (4 : Int32)), .val (.ref b1), .val (.int (2 : Int32)), .unset]) rfl κ) ?_
    refine oS (fun _ κ => XS.iload X9.here hx rfl (hb hby q7_14) rfl κ) ?_
    refine oS (fun _ κ => XS.iloadN X9.here hx rfl (hb hby q7_16) rfl κ) ?_
    refine oS (fun _ κ => XS.icmpNo X9.here hx rfl (hb hby q7_17) rfl (feq (by decide)).1 κ) ?_
    show oG _ _ _ _ (T9.setTop (mkF m 20 #[.val (.ref a), .val (.int (0 : Int32)), .val (.int (4 : Int32)), .val (.ref b1), .val (.int (2 : Int32)), .unset] []))
    refine oS (fun _ κ => XS.aloadN X9.here hx rfl (hb hby q7_20) rfl rfl κ) ?_
    refine oS (fun _ κ => XS.iloadN X9.here hx rfl (hb hby q7_21) rfl κ) ?_
    refine oS (fun _ κ => XS.iloadN X9.here hx rfl (hb hby q7_22) rfl κ) ?_
    obtain ⟨vr35, _, ⟨T35, L35, k35, n35⟩, -, X35, ⟨Lc35, hQ35, l35, y35, z35⟩, st35⟩ := Jvm.LawKit.callS X9 hx (y := own_y21) hown (mvT hZ (own_w hw 77 rfl)) (mvT hZ (own_w hw 78 rfl)) (mvT hZ (own_w hw 44 rfl)) (mvT hZ (own_w hw 79 rfl)) (by decide) (backOf (W := 0) (rm32 l Z a0 hw [] a ka c0 c1 c2 c3 T9.heap n0 z14 f11 f12 P2 P3 P4) hZ (own_w hw 79 rfl) (own_w hw 44 rfl) (by decide) (by decide)) (g := (mkF m 23 #[.val (.ref a), .val (.int (0 : Int32)), .val (.int (4 : Int32)), .val (.ref b1), .val (.int (2 : Int32)), .unset] [(.int (4 : Int32)), (.int (0 : Int32)), (.ref a)])) rfl (by rw [hml]; rfl) (argsL := [(.ref a), (.int (0 : Int32)), (.int (4 : Int32))]) (rest := []) (lenOf pd_11 rfl) rfl own_2z (hb hby q7_23) (fun _ _ => ⟨rfl, rfl, (by decide : 1 + 1 ≤ _), (by decide : 4 + 8 ≤ _)⟩)
    dsimp only [Pt.U, Pt.locs, Pt.cells, Pt.slots] at X35 l35 y35 z35 st35 hQ35
    subst l35 y35 z35
    obtain ⟨r36, rfl, Nq35, Kq35, p35_0, p35_1⟩ := hQ35
    have N35 := Fr.app N9 Nq35
    have ne37 : a ≠ r36 := Nat.ne_of_lt (Nat.lt_of_lt_of_le f11.lt p35_0)
    have ge38 : n0 ≤ r36 := Nat.le_trans z14 p35_0
    have sz39 : h0.size ≤ r36 := Nat.le_trans K13.1 p35_0
    have f40 := f11.keep Kq35 nin0
    have f41 := f12.keep Kq35 all0
    have K42 : Keep h0 T35.heap [] := K13.trans Kq35 all0
    have z43 : n0 ≤ T35.heap.size := Nat.le_trans z14 Kq35.1
    refine oS st35 ?_
    show oG _ _ _ _ (T35.setTop (mkF m 26 #[.val (.ref a), .val (.int (0 : Int32)), .val (.int (4 : Int32)), .val (.ref b1), .val (.int (2 : Int32)), .unset] [(.ref r36)]))
    refine oS (fun _ κ => XS.astore X35.here hx rfl (hb hby q7_26) rfl rfl (l' := #[.val (.ref a), .val (.int (0 : Int32)), .val (.int (4 : Int32)), .val (.ref b1), .val (.int (2 : Int32)), .val (.ref r36)]) rfl κ) ?_
    refine oS (fun _ κ => XS.aload X35.here hx rfl (hb hby q7_28) rfl rfl κ) ?_
    refine oS (fun _ κ => XS.iload X35.here hx rfl (hb hby q7_30) rfl κ) ?_
    obtain ⟨vr44, _, ⟨T44, L44, k44, n44⟩, -, X44, ⟨Lc44, hQ44, l44, y44, z44⟩, st44⟩ := Jvm.LawKit.callS X35 hx (y := own_y16) hown (mvT hZ (own_w hw 93 rfl)) (mvT hZ (own_w hw 94 rfl)) (mvT hZ (own_w hw 44 rfl)) (mvT hZ (own_w hw 95 rfl)) (by decide) (backOf (W := 0) (rm12 l Z a0 hw [] r36 (2 : Int32) (8 : Int32) (own_upd (own_upd (own_upd (own_upd (own_upd (own_upd (own_upd (own_upd own_zero 0 (own_bl c0)) (0 + 1) (own_bh c0)) 2 (own_bl c1)) (2 + 1) (own_bh c1)) 4 (own_bl c2)) (4 + 1) (own_bh c2)) 6 (own_bl c3)) (6 + 1) (own_bh c3)) T35.heap n0 z43 p35_1 f41 P2 P3 P4 (by decide) (by decide)) hZ (own_w hw 95 rfl) (own_w hw 44 rfl) (by decide) (by decide)) (g := (mkF m 32 #[.val (.ref a), .val (.int (0 : Int32)), .val (.int (4 : Int32)), .val (.ref b1), .val (.int (2 : Int32)), .val (.ref r36)] [(.int (2 : Int32)), (.ref r36)])) rfl (by rw [hml]; rfl) (argsL := [(.ref r36), (.int (2 : Int32))]) (rest := []) (lenOf pd_4 rfl) rfl own_2z (hb hby q7_32) (fun _ _ => ⟨rfl, rfl, (by decide : 2 + 0 ≤ _), (by decide : 12 + 0 ≤ _)⟩)
    dsimp only [Pt.U, Pt.locs, Pt.cells, Pt.slots] at X44 l44 y44 z44 st44 hQ44
    subst l44 y44 z44
    obtain ⟨rfl, Nq44, eq44⟩ := hQ44
    have N44 := Fr.app N35 Nq44
    refine oS st44 ?_
    show oG _ _ _ _ (T44.setTop (mkF m 35 #[.val (.ref a), .val (.int (0 : Int32)), .val (.int (4 : Int32)), .val (.ref b1), .val (.int (2 : Int32)), .val (.ref r36)] [(.int (own_gc ((own_upd (own_upd (own_upd (own_upd (own_upd (own_upd (own_upd (own_upd own_zero 0 (own_bl c0)) (0 + 1) (own_bh c0)) 2 (own_bl c1)) (2 + 1) (own_bh c1)) 4 (own_bl c2)) (4 + 1) (own_bh c2)) 6 (own_bl c3)) (6 + 1) (own_bh c3)) ((2 : Int32) <<< ((1 : Int32) &&& 31)).toNatClampNeg) ((own_upd (own_upd (own_upd (own_upd (own_upd (own_upd (own_upd (own_upd own_zero 0 (own_bl c0)) (0 + 1) (own_bh c0)) 2 (own_bl c1)) (2 + 1) (own_bh c1)) 4 (own_bl c2)) (4 + 1) (own_bh c2)) 6 (own_bl c3)) (6 + 1) (own_bh c3)) (((2 : Int32) <<< ((1 : Int32) &&& 31)) + (1 : Int32)).toNatClampNeg)))]))
    refine oS (fun _ κ => XS.sipush X44.here hx rfl (hb hby q7_35) κ) ?_
    refine oS (fun _ κ => XS.icmpYes X44.here hx rfl (pc0 := 38) (pc' := 54) rfl (hb hby q7_38) rfl (tlt (by rw [show (own_gc ((own_upd (own_upd (own_upd (own_upd (own_upd (own_upd (own_upd (own_upd own_zero 0 (own_bl c0)) (0 + 1) (own_bh c0)) 2 (own_bl c1)) (2 + 1) (own_bh c1)) 4 (own_bl c2)) (4 + 1) (own_bh c2)) 6 (own_bl c3)) (6 + 1) (own_bh c3)) ((2 : Int32) <<< ((1 : Int32) &&& 31)).toNatClampNeg) ((own_upd (own_upd (own_upd (own_upd (own_upd (own_upd (own_upd (own_upd own_zero 0 (own_bl c0)) (0 + 1) (own_bh c0)) 2 (own_bl c1)) (2 + 1) (own_bh c1)) 4 (own_bl c2)) (4 + 1) (own_bh c2)) 6 (own_bl c3)) (6 + 1) (own_bh c3)) (((2 : Int32) <<< ((1 : Int32) &&& 31)) + (1 : Int32)).toNatClampNeg)) = c2 from own_gcE P7]; exact pa9_3_0)).2.2.1 (by decide) (by decide) κ) ?_
    show oG _ _ _ _ (T44.setTop (mkF m 54 #[.val (.ref a), .val (.int (0 : Int32)), .val (.int (4 : Int32)), .val (.ref b1), .val (.int (2 : Int32)), .val (.ref r36)] []))
    refine oS (fun _ κ => XS.aload X44.here hx rfl (hb hby q7_54) rfl rfl κ) ?_
    obtain ⟨fs, hr, hrun, hended, hW, hsame⟩ := X44.leave (v := some (.ref r36)) (fun h => by rw [Bd.returns] at h; cases h)
    refine ⟨_, _, retOut X44 hx Bd.returns rfl (Or.inr (Or.inr (Or.inr (Or.inr ⟨rfl, rfl, rfl⟩)))) (hb hby q7_56) hr, hrun, hended, _, _, rfl, ?_, ⟨_, rfl⟩, hW, hsame.mono (by decide) (by decide)⟩
    show Q36 Z a ka c0 c1 c2 c3 h0 n0 _ T44.heap _
    rw [eq44]
    exact ⟨r36, rfl, N44, K42, sz39, (Or.inr p35_1)⟩
  · refine oS st9 ?_
    show oG _ _ _ _ (T9.setTop (mkF m 12 #[.val (.ref a), .val (.int (0 : Int32)), .val (.int (4 : Int32)), .val (.ref b1), .unset, .unset] [(.int (3 : Int32))]))
    refine oS (fun _ κ => XS.istore X9.here hx rfl (hb hby q7_12) rfl (l' := #[.val (.ref a), .val (.int (0 : Int32)), .val (.int (4 : Int32)), .val (.ref b1), .val (.int (3 : Int32)), .unset]) rfl κ) ?_
    refine oS (fun _ κ => XS.iload X9.here hx rfl (hb hby q7_14) rfl κ) ?_
    refine oS (fun _ κ => XS.iloadN X9.here hx rfl (hb hby q7_16) rfl κ) ?_
    refine oS (fun _ κ => XS.icmpNo X9.here hx rfl (hb hby q7_17) rfl (feq (by decide)).1 κ) ?_
    show oG _ _ _ _ (T9.setTop (mkF m 20 #[.val (.ref a), .val (.int (0 : Int32)), .val (.int (4 : Int32)), .val (.ref b1), .val (.int (3 : Int32)), .unset] []))
    refine oS (fun _ κ => XS.aloadN X9.here hx rfl (hb hby q7_20) rfl rfl κ) ?_
    refine oS (fun _ κ => XS.iloadN X9.here hx rfl (hb hby q7_21) rfl κ) ?_
    refine oS (fun _ κ => XS.iloadN X9.here hx rfl (hb hby q7_22) rfl κ) ?_
    obtain ⟨vr45, _, ⟨T45, L45, k45, n45⟩, -, X45, ⟨Lc45, hQ45, l45, y45, z45⟩, st45⟩ := Jvm.LawKit.callS X9 hx (y := own_y21) hown (mvT hZ (own_w hw 77 rfl)) (mvT hZ (own_w hw 78 rfl)) (mvT hZ (own_w hw 44 rfl)) (mvT hZ (own_w hw 79 rfl)) (by decide) (backOf (W := 0) (rm32 l Z a0 hw [] a ka c0 c1 c2 c3 T9.heap n0 z14 f11 f12 P2 P3 P4) hZ (own_w hw 79 rfl) (own_w hw 44 rfl) (by decide) (by decide)) (g := (mkF m 23 #[.val (.ref a), .val (.int (0 : Int32)), .val (.int (4 : Int32)), .val (.ref b1), .val (.int (3 : Int32)), .unset] [(.int (4 : Int32)), (.int (0 : Int32)), (.ref a)])) rfl (by rw [hml]; rfl) (argsL := [(.ref a), (.int (0 : Int32)), (.int (4 : Int32))]) (rest := []) (lenOf pd_11 rfl) rfl own_2z (hb hby q7_23) (fun _ _ => ⟨rfl, rfl, (by decide : 1 + 1 ≤ _), (by decide : 4 + 8 ≤ _)⟩)
    dsimp only [Pt.U, Pt.locs, Pt.cells, Pt.slots] at X45 l45 y45 z45 st45 hQ45
    subst l45 y45 z45
    obtain ⟨r46, rfl, Nq45, Kq45, p45_0, p45_1⟩ := hQ45
    have N45 := Fr.app N9 Nq45
    have ne47 : a ≠ r46 := Nat.ne_of_lt (Nat.lt_of_lt_of_le f11.lt p45_0)
    have ge48 : n0 ≤ r46 := Nat.le_trans z14 p45_0
    have sz49 : h0.size ≤ r46 := Nat.le_trans K13.1 p45_0
    have f50 := f11.keep Kq45 nin0
    have f51 := f12.keep Kq45 all0
    have K52 : Keep h0 T45.heap [] := K13.trans Kq45 all0
    have z53 : n0 ≤ T45.heap.size := Nat.le_trans z14 Kq45.1
    refine oS st45 ?_
    show oG _ _ _ _ (T45.setTop (mkF m 26 #[.val (.ref a), .val (.int (0 : Int32)), .val (.int (4 : Int32)), .val (.ref b1), .val (.int (3 : Int32)), .unset] [(.ref r46)]))
    refine oS (fun _ κ => XS.astore X45.here hx rfl (hb hby q7_26) rfl rfl (l' := #[.val (.ref a), .val (.int (0 : Int32)), .val (.int (4 : Int32)), .val (.ref b1), .val (.int (3 : Int32)), .val (.ref r46)]) rfl κ) ?_
    refine oS (fun _ κ => XS.aload X45.here hx rfl (hb hby q7_28) rfl rfl κ) ?_
    refine oS (fun _ κ => XS.iload X45.here hx rfl (hb hby q7_30) rfl κ) ?_
    obtain ⟨vr54, _, ⟨T54, L54, k54, n54⟩, -, X54, ⟨Lc54, hQ54, l54, y54, z54⟩, st54⟩ := Jvm.LawKit.callS X45 hx (y := own_y16) hown (mvT hZ (own_w hw 93 rfl)) (mvT hZ (own_w hw 94 rfl)) (mvT hZ (own_w hw 44 rfl)) (mvT hZ (own_w hw 95 rfl)) (by decide) (backOf (W := 0) (rm12 l Z a0 hw [] r46 (3 : Int32) (8 : Int32) (own_upd (own_upd (own_upd (own_upd (own_upd (own_upd (own_upd (own_upd own_zero 0 (own_bl c0)) (0 + 1) (own_bh c0)) 2 (own_bl c1)) (2 + 1) (own_bh c1)) 4 (own_bl c2)) (4 + 1) (own_bh c2)) 6 (own_bl c3)) (6 + 1) (own_bh c3)) T45.heap n0 z53 p45_1 f51 P2 P3 P4 (by decide) (by decide)) hZ (own_w hw 95 rfl) (own_w hw 44 rfl) (by decide) (by decide)) (g := (mkF m 32 #[.val (.ref a), .val (.int (0 : Int32)), .val (.int (4 : Int32)), .val (.ref b1), .val (.int (3 : Int32)), .val (.ref r46)] [(.int (3 : Int32)), (.ref r46)])) rfl (by rw [hml]; rfl) (argsL := [(.ref r46), (.int (3 : Int32))]) (rest := []) (lenOf pd_4 rfl) rfl own_2z (hb hby q7_32) (fun _ _ => ⟨rfl, rfl, (by decide : 2 + 0 ≤ _), (by decide : 12 + 0 ≤ _)⟩)
    dsimp only [Pt.U, Pt.locs, Pt.cells, Pt.slots] at X54 l54 y54 z54 st54 hQ54
    subst l54 y54 z54
    obtain ⟨rfl, Nq54, eq54⟩ := hQ54
    have N54 := Fr.app N45 Nq54
    refine oS st54 ?_
    show oG _ _ _ _ (T54.setTop (mkF m 35 #[.val (.ref a), .val (.int (0 : Int32)), .val (.int (4 : Int32)), .val (.ref b1), .val (.int (3 : Int32)), .val (.ref r46)] [(.int (own_gc ((own_upd (own_upd (own_upd (own_upd (own_upd (own_upd (own_upd (own_upd own_zero 0 (own_bl c0)) (0 + 1) (own_bh c0)) 2 (own_bl c1)) (2 + 1) (own_bh c1)) 4 (own_bl c2)) (4 + 1) (own_bh c2)) 6 (own_bl c3)) (6 + 1) (own_bh c3)) ((3 : Int32) <<< ((1 : Int32) &&& 31)).toNatClampNeg) ((own_upd (own_upd (own_upd (own_upd (own_upd (own_upd (own_upd (own_upd own_zero 0 (own_bl c0)) (0 + 1) (own_bh c0)) 2 (own_bl c1)) (2 + 1) (own_bh c1)) 4 (own_bl c2)) (4 + 1) (own_bh c2)) 6 (own_bl c3)) (6 + 1) (own_bh c3)) (((3 : Int32) <<< ((1 : Int32) &&& 31)) + (1 : Int32)).toNatClampNeg)))]))
    refine oS (fun _ κ => XS.sipush X54.here hx rfl (hb hby q7_35) κ) ?_
    refine oS (fun _ κ => XS.icmpYes X54.here hx rfl (pc0 := 38) (pc' := 54) rfl (hb hby q7_38) rfl (tlt (by rw [show (own_gc ((own_upd (own_upd (own_upd (own_upd (own_upd (own_upd (own_upd (own_upd own_zero 0 (own_bl c0)) (0 + 1) (own_bh c0)) 2 (own_bl c1)) (2 + 1) (own_bh c1)) 4 (own_bl c2)) (4 + 1) (own_bh c2)) 6 (own_bl c3)) (6 + 1) (own_bh c3)) ((3 : Int32) <<< ((1 : Int32) &&& 31)).toNatClampNeg) ((own_upd (own_upd (own_upd (own_upd (own_upd (own_upd (own_upd (own_upd own_zero 0 (own_bl c0)) (0 + 1) (own_bh c0)) 2 (own_bl c1)) (2 + 1) (own_bh c1)) 4 (own_bl c2)) (4 + 1) (own_bh c2)) 6 (own_bl c3)) (6 + 1) (own_bh c3)) (((3 : Int32) <<< ((1 : Int32) &&& 31)) + (1 : Int32)).toNatClampNeg)) = c3 from own_gcE P8]; exact pa9_4_0)).2.2.1 (by decide) (by decide) κ) ?_
    show oG _ _ _ _ (T54.setTop (mkF m 54 #[.val (.ref a), .val (.int (0 : Int32)), .val (.int (4 : Int32)), .val (.ref b1), .val (.int (3 : Int32)), .val (.ref r46)] []))
    refine oS (fun _ κ => XS.aload X54.here hx rfl (hb hby q7_54) rfl rfl κ) ?_
    obtain ⟨fs, hr, hrun, hended, hW, hsame⟩ := X54.leave (v := some (.ref r46)) (fun h => by rw [Bd.returns] at h; cases h)
    refine ⟨_, _, retOut X54 hx Bd.returns rfl (Or.inr (Or.inr (Or.inr (Or.inr ⟨rfl, rfl, rfl⟩)))) (hb hby q7_56) hr, hrun, hended, _, _, rfl, ?_, ⟨_, rfl⟩, hW, hsame.mono (by decide) (by decide)⟩
    show Q36 Z a ka c0 c1 c2 c3 h0 n0 _ T54.heap _
    rw [eq54]
    exact ⟨r46, rfl, N54, K52, sz49, (Or.inr p45_1)⟩
theorem ef_37 (m : MethodId) (b : Addr) : entryFrame m #[(.ref b), (.int (1 : Int32))] 2 = mkF m 0 #[.val (.ref b), .val (.int (1 : Int32))] [] := by first | (simp [entryFrame, mkF, argsToLocals, Value.category]; done) | rfl
def Q37 (Z : State) (b : Addr) (f : Nat → Int32) (h0 : Heap) (n0 : Nat) (v : Option Value) (h : Heap) (L : List Loc) : Prop := v = some (.int (0 : Int32)) ∧ Fr n0 L ∧ h = h0
set_option maxRecDepth 65536 in
set_option maxHeartbeats 40000000 in
theorem rm37 (l : Launch) (Z : State) (a0 : Array Value) (hw : ∀ d ∈ tables_1, d.before a0 Z = true) (ws : List Jvm.Cond) (b : Addr) (f : Nat → Int32) (h0 : Heap) (n0 : Nat) (Z0 : n0 ≤ h0.size) (P0 : own_By Z h0 b (1 : Int32) f) :
    MetFree l own_y13 (head1 (Jvm.Cond.code own_y13 jdk_52_method_15_code 2 (some .byte) :: ws) own_r0) (fun ar_ U => ar_ = #[(.ref b), (.int (1 : Int32))] ∧ Z.Warmed39 U.vm ∧ U.heap = h0) (fun _ _ _ _ _ => True) (fun _ U oo_ U' => ∃ v L, oo_ = .returned v ∧ Q37 Z b f h0 n0 v U'.heap L ∧ FrameEnd U oo_ U' L own_r0.cells own_r0.slots) := by
  refine MetFree.of_bodySF (plainFor_of_name pn_4) hisR ?_
  intro p e s m args below meth c s₁ Bd hml0 hP hK
  obtain ⟨rfl, hZ, hh⟩ := hP
  have hx := Bd.exec
  have hby := Bd.bytes
  have hml : c.maxLocals = 2 := hml0
  have hown : s.vm.findClass "java/lang/StringUTF16" = some m.cls := findClass_of_methodNamed Bd.named
  have hnm := (name_of_methodNamed Bd.named Bd.method).1
  have X0 : Stand p l e own_r0 s m #[(.ref b), (.int (1 : Int32))] below meth c s₁ [] 0 0 := Stand.of_body Bd
  have e0 : s₁.heap = h0 := by rw [← hh, Bd.state]; rfl
  have N0 := Fr.nil n0
  refine own_in (castTop (ef_37 m b)) ?_
  show oG _ _ _ _ (s₁.setTop (mkF m 0 #[.val (.ref b), .val (.int (1 : Int32))] []))
  refine oS (fun _ κ => XS.iloadN X0.here hx rfl (hb hby q9_0) rfl κ) ?_
  refine oS (fun _ κ => XS.aloadN X0.here hx rfl (hb hby q9_1) rfl rfl κ) ?_
  obtain ⟨cl1, Ar1, Sz1, Nz1, -⟩ := P0.opened
  refine oS (fun _ κ => X0.arraylength hx (by rw [e0]; exact Ar1.1) (State.isArrayOf_alike hZ.alike Ar1.2.1) (g := (mkF m 2 #[.val (.ref b), .val (.int (1 : Int32))] [(.ref b), (.int (1 : Int32))])) rfl rfl (hb hby q9_2) _ κ) ?_
  rw [len_of Sz1 Nz1]
  show oG _ _ _ _ (s₁.setTop (mkF m 3 #[.val (.ref b), .val (.int (1 : Int32))] [(.int (1 : Int32)), (.int (1 : Int32))]))
  refine oS (fun _ κ => XS.isub X0.here hx rfl (hb hby q9_3) rfl κ) ?_
  show oG _ _ _ _ (s₁.setTop (mkF m 4 #[.val (.ref b), .val (.int (1 : Int32))] [(.int ((1 : Int32) - (1 : Int32)))]))
  rw [show (((1 : Int32) - (1 : Int32)) : Int32) = (0 : Int32) from by decide]
  show oG _ _ _ _ (s₁.setTop (mkF m 4 #[.val (.ref b), .val (.int (1 : Int32))] [(.int (0 : Int32))]))
  refine oS (fun _ κ => XS.bipush X0.here hx rfl (hb hby q9_4) κ) ?_
  refine oS (fun _ κ => XS.iushr X0.here hx rfl (hb hby q9_6) rfl κ) ?_
  show oG _ _ _ _ (s₁.setTop (mkF m 7 #[.val (.ref b), .val (.int (1 : Int32))] [(.int (((0 : Int32).toUInt32 >>> ((31 : Int32) &&& 31).toUInt32).toInt32))]))
  rw [show ((((0 : Int32).toUInt32 >>> ((31 : Int32) &&& 31).toUInt32).toInt32) : Int32) = (0 : Int32) from by decide]
  show oG _ _ _ _ (s₁.setTop (mkF m 7 #[.val (.ref b), .val (.int (1 : Int32))] [(.int (0 : Int32))]))
  refine oS (fun _ κ => XS.i2b X0.here hx rfl (hb hby q9_7) rfl κ) ?_
  show oG _ _ _ _ (s₁.setTop (mkF m 8 #[.val (.ref b), .val (.int (1 : Int32))] [(.int ((0 : Int32).toInt8.toInt32))]))
  rw [show (((0 : Int32).toInt8.toInt32) : Int32) = (0 : Int32) from by decide]
  show oG _ _ _ _ (s₁.setTop (mkF m 8 #[.val (.ref b), .val (.int (1 : Int32))] [(.int (0 : Int32))]))
  obtain ⟨fs, hr, hrun, hended, hW, hsame⟩ := X0.leave (v := some (.int (0 : Int32))) (fun h => by rw [Bd.returns] at h; cases h)
  refine ⟨_, _, retN X0 hx (t := .byte) Bd.returns (by simp) (hb hby q9_8) hr, hrun, hended, _, _, rfl, ?_, ⟨_, rfl⟩, hW, hsame.mono (by decide) (by decide)⟩
  show Q37 Z b f h0 n0 _ s₁.heap _
  rw [e0]
  exact ⟨rfl, N0, rfl⟩
theorem ef_38 (m : MethodId) (b : Addr) : entryFrame m #[(.ref b), (.int (1 : Int32))] 2 = mkF m 0 #[.val (.ref b), .val (.int (1 : Int32))] [] := by first | (simp [entryFrame, mkF, argsToLocals, Value.category]; done) | rfl
def Q38 (Z : State) (b : Addr) (f : Nat → Int32) (h0 : Heap) (n0 : Nat) (v : Option Value) (h : Heap) (L : List Loc) : Prop := v = some (.int (1 : Int32)) ∧ Fr n0 L ∧ h = h0
set_option maxRecDepth 65536 in
set_option maxHeartbeats 40000000 in
theorem rm38 (l : Launch) (Z : State) (a0 : Array Value) (hw : ∀ d ∈ tables_1, d.before a0 Z = true) (ws : List Jvm.Cond) (b : Addr) (f : Nat → Int32) (h0 : Heap) (n0 : Nat) (Z0 : n0 ≤ h0.size) (P0 : own_By Z h0 b (2 : Int32) f) :
    MetFree l own_y13 (head1 (Jvm.Cond.code own_y13 jdk_52_method_15_code 2 (some .byte) :: ws) own_r0) (fun ar_ U => ar_ = #[(.ref b), (.int (1 : Int32))] ∧ Z.Warmed39 U.vm ∧ U.heap = h0) (fun _ _ _ _ _ => True) (fun _ U oo_ U' => ∃ v L, oo_ = .returned v ∧ Q38 Z b f h0 n0 v U'.heap L ∧ FrameEnd U oo_ U' L own_r0.cells own_r0.slots) := by
  refine MetFree.of_bodySF (plainFor_of_name pn_4) hisR ?_
  intro p e s m args below meth c s₁ Bd hml0 hP hK
  obtain ⟨rfl, hZ, hh⟩ := hP
  have hx := Bd.exec
  have hby := Bd.bytes
  have hml : c.maxLocals = 2 := hml0
  have hown : s.vm.findClass "java/lang/StringUTF16" = some m.cls := findClass_of_methodNamed Bd.named
  have hnm := (name_of_methodNamed Bd.named Bd.method).1
  have X0 : Stand p l e own_r0 s m #[(.ref b), (.int (1 : Int32))] below meth c s₁ [] 0 0 := Stand.of_body Bd
  have e0 : s₁.heap = h0 := by rw [← hh, Bd.state]; rfl
  have N0 := Fr.nil n0
  refine own_in (castTop (ef_38 m b)) ?_
  show oG _ _ _ _ (s₁.setTop (mkF m 0 #[.val (.ref b), .val (.int (1 : Int32))] []))
  refine oS (fun _ κ => XS.iloadN X0.here hx rfl (hb hby q9_0) rfl κ) ?_
  refine oS (fun _ κ => XS.aloadN X0.here hx rfl (hb hby q9_1) rfl rfl κ) ?_
  obtain ⟨cl1, Ar1, Sz1, Nz1, -⟩ := P0.opened
  refine oS (fun _ κ => X0.arraylength hx (by rw [e0]; exact Ar1.1) (State.isArrayOf_alike hZ.alike Ar1.2.1) (g := (mkF m 2 #[.val (.ref b), .val (.int (1 : Int32))] [(.ref b), (.int (1 : Int32))])) rfl rfl (hb hby q9_2) _ κ) ?_
  rw [len_of Sz1 Nz1]
  show oG _ _ _ _ (s₁.setTop (mkF m 3 #[.val (.ref b), .val (.int (1 : Int32))] [(.int (2 : Int32)), (.int (1 : Int32))]))
  refine oS (fun _ κ => XS.isub X0.here hx rfl (hb hby q9_3) rfl κ) ?_
  show oG _ _ _ _ (s₁.setTop (mkF m 4 #[.val (.ref b), .val (.int (1 : Int32))] [(.int ((1 : Int32) - (2 : Int32)))]))
  rw [show (((1 : Int32) - (2 : Int32)) : Int32) = (-1 : Int32) from by decide]
  show oG _ _ _ _ (s₁.setTop (mkF m 4 #[.val (.ref b), .val (.int (1 : Int32))] [(.int (-1 : Int32))]))
  refine oS (fun _ κ => XS.bipush X0.here hx rfl (hb hby q9_4) κ) ?_
  refine oS (fun _ κ => XS.iushr X0.here hx rfl (hb hby q9_6) rfl κ) ?_
  show oG _ _ _ _ (s₁.setTop (mkF m 7 #[.val (.ref b), .val (.int (1 : Int32))] [(.int (((-1 : Int32).toUInt32 >>> ((31 : Int32) &&& 31).toUInt32).toInt32))]))
  rw [show ((((-1 : Int32).toUInt32 >>> ((31 : Int32) &&& 31).toUInt32).toInt32) : Int32) = (1 : Int32) from by decide]
  show oG _ _ _ _ (s₁.setTop (mkF m 7 #[.val (.ref b), .val (.int (1 : Int32))] [(.int (1 : Int32))]))
  refine oS (fun _ κ => XS.i2b X0.here hx rfl (hb hby q9_7) rfl κ) ?_
  show oG _ _ _ _ (s₁.setTop (mkF m 8 #[.val (.ref b), .val (.int (1 : Int32))] [(.int ((1 : Int32).toInt8.toInt32))]))
  rw [show (((1 : Int32).toInt8.toInt32) : Int32) = (1 : Int32) from by decide]
  show oG _ _ _ _ (s₁.setTop (mkF m 8 #[.val (.ref b), .val (.int (1 : Int32))] [(.int (1 : Int32))]))
  obtain ⟨fs, hr, hrun, hended, hW, hsame⟩ := X0.leave (v := some (.int (1 : Int32))) (fun h => by rw [Bd.returns] at h; cases h)
  refine ⟨_, _, retN X0 hx (t := .byte) Bd.returns (by simp) (hb hby q9_8) hr, hrun, hended, _, _, rfl, ?_, ⟨_, rfl⟩, hW, hsame.mono (by decide) (by decide)⟩
  show Q38 Z b f h0 n0 _ s₁.heap _
  rw [e0]
  exact ⟨rfl, N0, rfl⟩
theorem ef_39 (m : MethodId) (b : Addr) : entryFrame m #[(.ref b), (.int (2 : Int32))] 2 = mkF m 0 #[.val (.ref b), .val (.int (2 : Int32))] [] := by first | (simp [entryFrame, mkF, argsToLocals, Value.category]; done) | rfl
def Q39 (Z : State) (b : Addr) (f : Nat → Int32) (h0 : Heap) (n0 : Nat) (v : Option Value) (h : Heap) (L : List Loc) : Prop := v = some (.int (0 : Int32)) ∧ Fr n0 L ∧ h = h0
set_option maxRecDepth 65536 in
set_option maxHeartbeats 40000000 in
theorem rm39 (l : Launch) (Z : State) (a0 : Array Value) (hw : ∀ d ∈ tables_1, d.before a0 Z = true) (ws : List Jvm.Cond) (b : Addr) (f : Nat → Int32) (h0 : Heap) (n0 : Nat) (Z0 : n0 ≤ h0.size) (P0 : own_By Z h0 b (2 : Int32) f) :
    MetFree l own_y13 (head1 (Jvm.Cond.code own_y13 jdk_52_method_15_code 2 (some .byte) :: ws) own_r0) (fun ar_ U => ar_ = #[(.ref b), (.int (2 : Int32))] ∧ Z.Warmed39 U.vm ∧ U.heap = h0) (fun _ _ _ _ _ => True) (fun _ U oo_ U' => ∃ v L, oo_ = .returned v ∧ Q39 Z b f h0 n0 v U'.heap L ∧ FrameEnd U oo_ U' L own_r0.cells own_r0.slots) := by
  refine MetFree.of_bodySF (plainFor_of_name pn_4) hisR ?_
  intro p e s m args below meth c s₁ Bd hml0 hP hK
  obtain ⟨rfl, hZ, hh⟩ := hP
  have hx := Bd.exec
  have hby := Bd.bytes
  have hml : c.maxLocals = 2 := hml0
  have hown : s.vm.findClass "java/lang/StringUTF16" = some m.cls := findClass_of_methodNamed Bd.named
  have hnm := (name_of_methodNamed Bd.named Bd.method).1
  have X0 : Stand p l e own_r0 s m #[(.ref b), (.int (2 : Int32))] below meth c s₁ [] 0 0 := Stand.of_body Bd
  have e0 : s₁.heap = h0 := by rw [← hh, Bd.state]; rfl
  have N0 := Fr.nil n0
  refine own_in (castTop (ef_39 m b)) ?_
  show oG _ _ _ _ (s₁.setTop (mkF m 0 #[.val (.ref b), .val (.int (2 : Int32))] []))
  refine oS (fun _ κ => XS.iloadN X0.here hx rfl (hb hby q9_0) rfl κ) ?_
  refine oS (fun _ κ => XS.aloadN X0.here hx rfl (hb hby q9_1) rfl rfl κ) ?_
  obtain ⟨cl1, Ar1, Sz1, Nz1, -⟩ := P0.opened
  refine oS (fun _ κ => X0.arraylength hx (by rw [e0]; exact Ar1.1) (State.isArrayOf_alike hZ.alike Ar1.2.1) (g := (mkF m 2 #[.val (.ref b), .val (.int (2 : Int32))] [(.ref b), (.int (2 : Int32))])) rfl rfl (hb hby q9_2) _ κ) ?_
  rw [len_of Sz1 Nz1]
  show oG _ _ _ _ (s₁.setTop (mkF m 3 #[.val (.ref b), .val (.int (2 : Int32))] [(.int (2 : Int32)), (.int (2 : Int32))]))
  refine oS (fun _ κ => XS.isub X0.here hx rfl (hb hby q9_3) rfl κ) ?_
  show oG _ _ _ _ (s₁.setTop (mkF m 4 #[.val (.ref b), .val (.int (2 : Int32))] [(.int ((2 : Int32) - (2 : Int32)))]))
  rw [show (((2 : Int32) - (2 : Int32)) : Int32) = (0 : Int32) from by decide]
  show oG _ _ _ _ (s₁.setTop (mkF m 4 #[.val (.ref b), .val (.int (2 : Int32))] [(.int (0 : Int32))]))
  refine oS (fun _ κ => XS.bipush X0.here hx rfl (hb hby q9_4) κ) ?_
  refine oS (fun _ κ => XS.iushr X0.here hx rfl (hb hby q9_6) rfl κ) ?_
  show oG _ _ _ _ (s₁.setTop (mkF m 7 #[.val (.ref b), .val (.int (2 : Int32))] [(.int (((0 : Int32).toUInt32 >>> ((31 : Int32) &&& 31).toUInt32).toInt32))]))
  rw [show ((((0 : Int32).toUInt32 >>> ((31 : Int32) &&& 31).toUInt32).toInt32) : Int32) = (0 : Int32) from by decide]
  show oG _ _ _ _ (s₁.setTop (mkF m 7 #[.val (.ref b), .val (.int (2 : Int32))] [(.int (0 : Int32))]))
  refine oS (fun _ κ => XS.i2b X0.here hx rfl (hb hby q9_7) rfl κ) ?_
  show oG _ _ _ _ (s₁.setTop (mkF m 8 #[.val (.ref b), .val (.int (2 : Int32))] [(.int ((0 : Int32).toInt8.toInt32))]))
  rw [show (((0 : Int32).toInt8.toInt32) : Int32) = (0 : Int32) from by decide]
  show oG _ _ _ _ (s₁.setTop (mkF m 8 #[.val (.ref b), .val (.int (2 : Int32))] [(.int (0 : Int32))]))
  obtain ⟨fs, hr, hrun, hended, hW, hsame⟩ := X0.leave (v := some (.int (0 : Int32))) (fun h => by rw [Bd.returns] at h; cases h)
  refine ⟨_, _, retN X0 hx (t := .byte) Bd.returns (by simp) (hb hby q9_8) hr, hrun, hended, _, _, rfl, ?_, ⟨_, rfl⟩, hW, hsame.mono (by decide) (by decide)⟩
  show Q39 Z b f h0 n0 _ s₁.heap _
  rw [e0]
  exact ⟨rfl, N0, rfl⟩
theorem ef_40 (m : MethodId) (b : Addr) : entryFrame m #[(.ref b), (.int (2 : Int32))] 2 = mkF m 0 #[.val (.ref b), .val (.int (2 : Int32))] [] := by first | (simp [entryFrame, mkF, argsToLocals, Value.category]; done) | rfl
def Q40 (Z : State) (b : Addr) (f : Nat → Int32) (h0 : Heap) (n0 : Nat) (v : Option Value) (h : Heap) (L : List Loc) : Prop := v = some (.int (1 : Int32)) ∧ Fr n0 L ∧ h = h0
set_option maxRecDepth 65536 in
set_option maxHeartbeats 40000000 in
theorem rm40 (l : Launch) (Z : State) (a0 : Array Value) (hw : ∀ d ∈ tables_1, d.before a0 Z = true) (ws : List Jvm.Cond) (b : Addr) (f : Nat → Int32) (h0 : Heap) (n0 : Nat) (Z0 : n0 ≤ h0.size) (P0 : own_By Z h0 b (4 : Int32) f) :
    MetFree l own_y13 (head1 (Jvm.Cond.code own_y13 jdk_52_method_15_code 2 (some .byte) :: ws) own_r0) (fun ar_ U => ar_ = #[(.ref b), (.int (2 : Int32))] ∧ Z.Warmed39 U.vm ∧ U.heap = h0) (fun _ _ _ _ _ => True) (fun _ U oo_ U' => ∃ v L, oo_ = .returned v ∧ Q40 Z b f h0 n0 v U'.heap L ∧ FrameEnd U oo_ U' L own_r0.cells own_r0.slots) := by
  refine MetFree.of_bodySF (plainFor_of_name pn_4) hisR ?_
  intro p e s m args below meth c s₁ Bd hml0 hP hK
  obtain ⟨rfl, hZ, hh⟩ := hP
  have hx := Bd.exec
  have hby := Bd.bytes
  have hml : c.maxLocals = 2 := hml0
  have hown : s.vm.findClass "java/lang/StringUTF16" = some m.cls := findClass_of_methodNamed Bd.named
  have hnm := (name_of_methodNamed Bd.named Bd.method).1
  have X0 : Stand p l e own_r0 s m #[(.ref b), (.int (2 : Int32))] below meth c s₁ [] 0 0 := Stand.of_body Bd
  have e0 : s₁.heap = h0 := by rw [← hh, Bd.state]; rfl
  have N0 := Fr.nil n0
  refine own_in (castTop (ef_40 m b)) ?_
  show oG _ _ _ _ (s₁.setTop (mkF m 0 #[.val (.ref b), .val (.int (2 : Int32))] []))
  refine oS (fun _ κ => XS.iloadN X0.here hx rfl (hb hby q9_0) rfl κ) ?_
  refine oS (fun _ κ => XS.aloadN X0.here hx rfl (hb hby q9_1) rfl rfl κ) ?_
  obtain ⟨cl1, Ar1, Sz1, Nz1, -⟩ := P0.opened
  refine oS (fun _ κ => X0.arraylength hx (by rw [e0]; exact Ar1.1) (State.isArrayOf_alike hZ.alike Ar1.2.1) (g := (mkF m 2 #[.val (.ref b), .val (.int (2 : Int32))] [(.ref b), (.int (2 : Int32))])) rfl rfl (hb hby q9_2) _ κ) ?_
  rw [len_of Sz1 Nz1]
  show oG _ _ _ _ (s₁.setTop (mkF m 3 #[.val (.ref b), .val (.int (2 : Int32))] [(.int (4 : Int32)), (.int (2 : Int32))]))
  refine oS (fun _ κ => XS.isub X0.here hx rfl (hb hby q9_3) rfl κ) ?_
  show oG _ _ _ _ (s₁.setTop (mkF m 4 #[.val (.ref b), .val (.int (2 : Int32))] [(.int ((2 : Int32) - (4 : Int32)))]))
  rw [show (((2 : Int32) - (4 : Int32)) : Int32) = (-2 : Int32) from by decide]
  show oG _ _ _ _ (s₁.setTop (mkF m 4 #[.val (.ref b), .val (.int (2 : Int32))] [(.int (-2 : Int32))]))
  refine oS (fun _ κ => XS.bipush X0.here hx rfl (hb hby q9_4) κ) ?_
  refine oS (fun _ κ => XS.iushr X0.here hx rfl (hb hby q9_6) rfl κ) ?_
  show oG _ _ _ _ (s₁.setTop (mkF m 7 #[.val (.ref b), .val (.int (2 : Int32))] [(.int (((-2 : Int32).toUInt32 >>> ((31 : Int32) &&& 31).toUInt32).toInt32))]))
  rw [show ((((-2 : Int32).toUInt32 >>> ((31 : Int32) &&& 31).toUInt32).toInt32) : Int32) = (1 : Int32) from by decide]
  show oG _ _ _ _ (s₁.setTop (mkF m 7 #[.val (.ref b), .val (.int (2 : Int32))] [(.int (1 : Int32))]))
  refine oS (fun _ κ => XS.i2b X0.here hx rfl (hb hby q9_7) rfl κ) ?_
  show oG _ _ _ _ (s₁.setTop (mkF m 8 #[.val (.ref b), .val (.int (2 : Int32))] [(.int ((1 : Int32).toInt8.toInt32))]))
  rw [show (((1 : Int32).toInt8.toInt32) : Int32) = (1 : Int32) from by decide]
  show oG _ _ _ _ (s₁.setTop (mkF m 8 #[.val (.ref b), .val (.int (2 : Int32))] [(.int (1 : Int32))]))
  obtain ⟨fs, hr, hrun, hended, hW, hsame⟩ := X0.leave (v := some (.int (1 : Int32))) (fun h => by rw [Bd.returns] at h; cases h)
  refine ⟨_, _, retN X0 hx (t := .byte) Bd.returns (by simp) (hb hby q9_8) hr, hrun, hended, _, _, rfl, ?_, ⟨_, rfl⟩, hW, hsame.mono (by decide) (by decide)⟩
  show Q40 Z b f h0 n0 _ s₁.heap _
  rw [e0]
  exact ⟨rfl, N0, rfl⟩
theorem ef_41 (m : MethodId) (b : Addr) : entryFrame m #[(.ref b), (.int (3 : Int32))] 2 = mkF m 0 #[.val (.ref b), .val (.int (3 : Int32))] [] := by first | (simp [entryFrame, mkF, argsToLocals, Value.category]; done) | rfl
def Q41 (Z : State) (b : Addr) (f : Nat → Int32) (h0 : Heap) (n0 : Nat) (v : Option Value) (h : Heap) (L : List Loc) : Prop := v = some (.int (0 : Int32)) ∧ Fr n0 L ∧ h = h0
set_option maxRecDepth 65536 in
set_option maxHeartbeats 40000000 in
theorem rm41 (l : Launch) (Z : State) (a0 : Array Value) (hw : ∀ d ∈ tables_1, d.before a0 Z = true) (ws : List Jvm.Cond) (b : Addr) (f : Nat → Int32) (h0 : Heap) (n0 : Nat) (Z0 : n0 ≤ h0.size) (P0 : own_By Z h0 b (3 : Int32) f) :
    MetFree l own_y13 (head1 (Jvm.Cond.code own_y13 jdk_52_method_15_code 2 (some .byte) :: ws) own_r0) (fun ar_ U => ar_ = #[(.ref b), (.int (3 : Int32))] ∧ Z.Warmed39 U.vm ∧ U.heap = h0) (fun _ _ _ _ _ => True) (fun _ U oo_ U' => ∃ v L, oo_ = .returned v ∧ Q41 Z b f h0 n0 v U'.heap L ∧ FrameEnd U oo_ U' L own_r0.cells own_r0.slots) := by
  refine MetFree.of_bodySF (plainFor_of_name pn_4) hisR ?_
  intro p e s m args below meth c s₁ Bd hml0 hP hK
  obtain ⟨rfl, hZ, hh⟩ := hP
  have hx := Bd.exec
  have hby := Bd.bytes
  have hml : c.maxLocals = 2 := hml0
  have hown : s.vm.findClass "java/lang/StringUTF16" = some m.cls := findClass_of_methodNamed Bd.named
  have hnm := (name_of_methodNamed Bd.named Bd.method).1
  have X0 : Stand p l e own_r0 s m #[(.ref b), (.int (3 : Int32))] below meth c s₁ [] 0 0 := Stand.of_body Bd
  have e0 : s₁.heap = h0 := by rw [← hh, Bd.state]; rfl
  have N0 := Fr.nil n0
  refine own_in (castTop (ef_41 m b)) ?_
  show oG _ _ _ _ (s₁.setTop (mkF m 0 #[.val (.ref b), .val (.int (3 : Int32))] []))
  refine oS (fun _ κ => XS.iloadN X0.here hx rfl (hb hby q9_0) rfl κ) ?_
  refine oS (fun _ κ => XS.aloadN X0.here hx rfl (hb hby q9_1) rfl rfl κ) ?_
  obtain ⟨cl1, Ar1, Sz1, Nz1, -⟩ := P0.opened
  refine oS (fun _ κ => X0.arraylength hx (by rw [e0]; exact Ar1.1) (State.isArrayOf_alike hZ.alike Ar1.2.1) (g := (mkF m 2 #[.val (.ref b), .val (.int (3 : Int32))] [(.ref b), (.int (3 : Int32))])) rfl rfl (hb hby q9_2) _ κ) ?_
  rw [len_of Sz1 Nz1]
  show oG _ _ _ _ (s₁.setTop (mkF m 3 #[.val (.ref b), .val (.int (3 : Int32))] [(.int (3 : Int32)), (.int (3 : Int32))]))
  refine oS (fun _ κ => XS.isub X0.here hx rfl (hb hby q9_3) rfl κ) ?_
  show oG _ _ _ _ (s₁.setTop (mkF m 4 #[.val (.ref b), .val (.int (3 : Int32))] [(.int ((3 : Int32) - (3 : Int32)))]))
  rw [show (((3 : Int32) - (3 : Int32)) : Int32) = (0 : Int32) from by decide]
  show oG _ _ _ _ (s₁.setTop (mkF m 4 #[.val (.ref b), .val (.int (3 : Int32))] [(.int (0 : Int32))]))
  refine oS (fun _ κ => XS.bipush X0.here hx rfl (hb hby q9_4) κ) ?_
  refine oS (fun _ κ => XS.iushr X0.here hx rfl (hb hby q9_6) rfl κ) ?_
  show oG _ _ _ _ (s₁.setTop (mkF m 7 #[.val (.ref b), .val (.int (3 : Int32))] [(.int (((0 : Int32).toUInt32 >>> ((31 : Int32) &&& 31).toUInt32).toInt32))]))
  rw [show ((((0 : Int32).toUInt32 >>> ((31 : Int32) &&& 31).toUInt32).toInt32) : Int32) = (0 : Int32) from by decide]
  show oG _ _ _ _ (s₁.setTop (mkF m 7 #[.val (.ref b), .val (.int (3 : Int32))] [(.int (0 : Int32))]))
  refine oS (fun _ κ => XS.i2b X0.here hx rfl (hb hby q9_7) rfl κ) ?_
  show oG _ _ _ _ (s₁.setTop (mkF m 8 #[.val (.ref b), .val (.int (3 : Int32))] [(.int ((0 : Int32).toInt8.toInt32))]))
  rw [show (((0 : Int32).toInt8.toInt32) : Int32) = (0 : Int32) from by decide]
  show oG _ _ _ _ (s₁.setTop (mkF m 8 #[.val (.ref b), .val (.int (3 : Int32))] [(.int (0 : Int32))]))
  obtain ⟨fs, hr, hrun, hended, hW, hsame⟩ := X0.leave (v := some (.int (0 : Int32))) (fun h => by rw [Bd.returns] at h; cases h)
  refine ⟨_, _, retN X0 hx (t := .byte) Bd.returns (by simp) (hb hby q9_8) hr, hrun, hended, _, _, rfl, ?_, ⟨_, rfl⟩, hW, hsame.mono (by decide) (by decide)⟩
  show Q41 Z b f h0 n0 _ s₁.heap _
  rw [e0]
  exact ⟨rfl, N0, rfl⟩
theorem ef_42 (m : MethodId) (b : Addr) : entryFrame m #[(.ref b), (.int (3 : Int32))] 2 = mkF m 0 #[.val (.ref b), .val (.int (3 : Int32))] [] := by first | (simp [entryFrame, mkF, argsToLocals, Value.category]; done) | rfl
def Q42 (Z : State) (b : Addr) (f : Nat → Int32) (h0 : Heap) (n0 : Nat) (v : Option Value) (h : Heap) (L : List Loc) : Prop := v = some (.int (1 : Int32)) ∧ Fr n0 L ∧ h = h0
set_option maxRecDepth 65536 in
set_option maxHeartbeats 40000000 in
theorem rm42 (l : Launch) (Z : State) (a0 : Array Value) (hw : ∀ d ∈ tables_1, d.before a0 Z = true) (ws : List Jvm.Cond) (b : Addr) (f : Nat → Int32) (h0 : Heap) (n0 : Nat) (Z0 : n0 ≤ h0.size) (P0 : own_By Z h0 b (6 : Int32) f) :
    MetFree l own_y13 (head1 (Jvm.Cond.code own_y13 jdk_52_method_15_code 2 (some .byte) :: ws) own_r0) (fun ar_ U => ar_ = #[(.ref b), (.int (3 : Int32))] ∧ Z.Warmed39 U.vm ∧ U.heap = h0) (fun _ _ _ _ _ => True) (fun _ U oo_ U' => ∃ v L, oo_ = .returned v ∧ Q42 Z b f h0 n0 v U'.heap L ∧ FrameEnd U oo_ U' L own_r0.cells own_r0.slots) := by
  refine MetFree.of_bodySF (plainFor_of_name pn_4) hisR ?_
  intro p e s m args below meth c s₁ Bd hml0 hP hK
  obtain ⟨rfl, hZ, hh⟩ := hP
  have hx := Bd.exec
  have hby := Bd.bytes
  have hml : c.maxLocals = 2 := hml0
  have hown : s.vm.findClass "java/lang/StringUTF16" = some m.cls := findClass_of_methodNamed Bd.named
  have hnm := (name_of_methodNamed Bd.named Bd.method).1
  have X0 : Stand p l e own_r0 s m #[(.ref b), (.int (3 : Int32))] below meth c s₁ [] 0 0 := Stand.of_body Bd
  have e0 : s₁.heap = h0 := by rw [← hh, Bd.state]; rfl
  have N0 := Fr.nil n0
  refine own_in (castTop (ef_42 m b)) ?_
  show oG _ _ _ _ (s₁.setTop (mkF m 0 #[.val (.ref b), .val (.int (3 : Int32))] []))
  refine oS (fun _ κ => XS.iloadN X0.here hx rfl (hb hby q9_0) rfl κ) ?_
  refine oS (fun _ κ => XS.aloadN X0.here hx rfl (hb hby q9_1) rfl rfl κ) ?_
  obtain ⟨cl1, Ar1, Sz1, Nz1, -⟩ := P0.opened
  refine oS (fun _ κ => X0.arraylength hx (by rw [e0]; exact Ar1.1) (State.isArrayOf_alike hZ.alike Ar1.2.1) (g := (mkF m 2 #[.val (.ref b), .val (.int (3 : Int32))] [(.ref b), (.int (3 : Int32))])) rfl rfl (hb hby q9_2) _ κ) ?_
  rw [len_of Sz1 Nz1]
  show oG _ _ _ _ (s₁.setTop (mkF m 3 #[.val (.ref b), .val (.int (3 : Int32))] [(.int (6 : Int32)), (.int (3 : Int32))]))
  refine oS (fun _ κ => XS.isub X0.here hx rfl (hb hby q9_3) rfl κ) ?_
  show oG _ _ _ _ (s₁.setTop (mkF m 4 #[.val (.ref b), .val (.int (3 : Int32))] [(.int ((3 : Int32) - (6 : Int32)))]))
  rw [show (((3 : Int32) - (6 : Int32)) : Int32) = (-3 : Int32) from by decide]
  show oG _ _ _ _ (s₁.setTop (mkF m 4 #[.val (.ref b), .val (.int (3 : Int32))] [(.int (-3 : Int32))]))
  refine oS (fun _ κ => XS.bipush X0.here hx rfl (hb hby q9_4) κ) ?_
  refine oS (fun _ κ => XS.iushr X0.here hx rfl (hb hby q9_6) rfl κ) ?_
  show oG _ _ _ _ (s₁.setTop (mkF m 7 #[.val (.ref b), .val (.int (3 : Int32))] [(.int (((-3 : Int32).toUInt32 >>> ((31 : Int32) &&& 31).toUInt32).toInt32))]))
  rw [show ((((-3 : Int32).toUInt32 >>> ((31 : Int32) &&& 31).toUInt32).toInt32) : Int32) = (1 : Int32) from by decide]
  show oG _ _ _ _ (s₁.setTop (mkF m 7 #[.val (.ref b), .val (.int (3 : Int32))] [(.int (1 : Int32))]))
  refine oS (fun _ κ => XS.i2b X0.here hx rfl (hb hby q9_7) rfl κ) ?_
  show oG _ _ _ _ (s₁.setTop (mkF m 8 #[.val (.ref b), .val (.int (3 : Int32))] [(.int ((1 : Int32).toInt8.toInt32))]))
  rw [show (((1 : Int32).toInt8.toInt32) : Int32) = (1 : Int32) from by decide]
  show oG _ _ _ _ (s₁.setTop (mkF m 8 #[.val (.ref b), .val (.int (3 : Int32))] [(.int (1 : Int32))]))
  obtain ⟨fs, hr, hrun, hended, hW, hsame⟩ := X0.leave (v := some (.int (1 : Int32))) (fun h => by rw [Bd.returns] at h; cases h)
  refine ⟨_, _, retN X0 hx (t := .byte) Bd.returns (by simp) (hb hby q9_8) hr, hrun, hended, _, _, rfl, ?_, ⟨_, rfl⟩, hW, hsame.mono (by decide) (by decide)⟩
  show Q42 Z b f h0 n0 _ s₁.heap _
  rw [e0]
  exact ⟨rfl, N0, rfl⟩
theorem ef_43 (m : MethodId) (b : Addr) : entryFrame m #[(.ref b), (.int (4 : Int32))] 2 = mkF m 0 #[.val (.ref b), .val (.int (4 : Int32))] [] := by first | (simp [entryFrame, mkF, argsToLocals, Value.category]; done) | rfl
def Q43 (Z : State) (b : Addr) (f : Nat → Int32) (h0 : Heap) (n0 : Nat) (v : Option Value) (h : Heap) (L : List Loc) : Prop := v = some (.int (0 : Int32)) ∧ Fr n0 L ∧ h = h0
set_option maxRecDepth 65536 in
set_option maxHeartbeats 40000000 in
theorem rm43 (l : Launch) (Z : State) (a0 : Array Value) (hw : ∀ d ∈ tables_1, d.before a0 Z = true) (ws : List Jvm.Cond) (b : Addr) (f : Nat → Int32) (h0 : Heap) (n0 : Nat) (Z0 : n0 ≤ h0.size) (P0 : own_By Z h0 b (4 : Int32) f) :
    MetFree l own_y13 (head1 (Jvm.Cond.code own_y13 jdk_52_method_15_code 2 (some .byte) :: ws) own_r0) (fun ar_ U => ar_ = #[(.ref b), (.int (4 : Int32))] ∧ Z.Warmed39 U.vm ∧ U.heap = h0) (fun _ _ _ _ _ => True) (fun _ U oo_ U' => ∃ v L, oo_ = .returned v ∧ Q43 Z b f h0 n0 v U'.heap L ∧ FrameEnd U oo_ U' L own_r0.cells own_r0.slots) := by
  refine MetFree.of_bodySF (plainFor_of_name pn_4) hisR ?_
  intro p e s m args below meth c s₁ Bd hml0 hP hK
  obtain ⟨rfl, hZ, hh⟩ := hP
  have hx := Bd.exec
  have hby := Bd.bytes
  have hml : c.maxLocals = 2 := hml0
  have hown : s.vm.findClass "java/lang/StringUTF16" = some m.cls := findClass_of_methodNamed Bd.named
  have hnm := (name_of_methodNamed Bd.named Bd.method).1
  have X0 : Stand p l e own_r0 s m #[(.ref b), (.int (4 : Int32))] below meth c s₁ [] 0 0 := Stand.of_body Bd
  have e0 : s₁.heap = h0 := by rw [← hh, Bd.state]; rfl
  have N0 := Fr.nil n0
  refine own_in (castTop (ef_43 m b)) ?_
  show oG _ _ _ _ (s₁.setTop (mkF m 0 #[.val (.ref b), .val (.int (4 : Int32))] []))
  refine oS (fun _ κ => XS.iloadN X0.here hx rfl (hb hby q9_0) rfl κ) ?_
  refine oS (fun _ κ => XS.aloadN X0.here hx rfl (hb hby q9_1) rfl rfl κ) ?_
  obtain ⟨cl1, Ar1, Sz1, Nz1, -⟩ := P0.opened
  refine oS (fun _ κ => X0.arraylength hx (by rw [e0]; exact Ar1.1) (State.isArrayOf_alike hZ.alike Ar1.2.1) (g := (mkF m 2 #[.val (.ref b), .val (.int (4 : Int32))] [(.ref b), (.int (4 : Int32))])) rfl rfl (hb hby q9_2) _ κ) ?_
  rw [len_of Sz1 Nz1]
  show oG _ _ _ _ (s₁.setTop (mkF m 3 #[.val (.ref b), .val (.int (4 : Int32))] [(.int (4 : Int32)), (.int (4 : Int32))]))
  refine oS (fun _ κ => XS.isub X0.here hx rfl (hb hby q9_3) rfl κ) ?_
  show oG _ _ _ _ (s₁.setTop (mkF m 4 #[.val (.ref b), .val (.int (4 : Int32))] [(.int ((4 : Int32) - (4 : Int32)))]))
  rw [show (((4 : Int32) - (4 : Int32)) : Int32) = (0 : Int32) from by decide]
  show oG _ _ _ _ (s₁.setTop (mkF m 4 #[.val (.ref b), .val (.int (4 : Int32))] [(.int (0 : Int32))]))
  refine oS (fun _ κ => XS.bipush X0.here hx rfl (hb hby q9_4) κ) ?_
  refine oS (fun _ κ => XS.iushr X0.here hx rfl (hb hby q9_6) rfl κ) ?_
  show oG _ _ _ _ (s₁.setTop (mkF m 7 #[.val (.ref b), .val (.int (4 : Int32))] [(.int (((0 : Int32).toUInt32 >>> ((31 : Int32) &&& 31).toUInt32).toInt32))]))
  rw [show ((((0 : Int32).toUInt32 >>> ((31 : Int32) &&& 31).toUInt32).toInt32) : Int32) = (0 : Int32) from by decide]
  show oG _ _ _ _ (s₁.setTop (mkF m 7 #[.val (.ref b), .val (.int (4 : Int32))] [(.int (0 : Int32))]))
  refine oS (fun _ κ => XS.i2b X0.here hx rfl (hb hby q9_7) rfl κ) ?_
  show oG _ _ _ _ (s₁.setTop (mkF m 8 #[.val (.ref b), .val (.int (4 : Int32))] [(.int ((0 : Int32).toInt8.toInt32))]))
  rw [show (((0 : Int32).toInt8.toInt32) : Int32) = (0 : Int32) from by decide]
  show oG _ _ _ _ (s₁.setTop (mkF m 8 #[.val (.ref b), .val (.int (4 : Int32))] [(.int (0 : Int32))]))
  obtain ⟨fs, hr, hrun, hended, hW, hsame⟩ := X0.leave (v := some (.int (0 : Int32))) (fun h => by rw [Bd.returns] at h; cases h)
  refine ⟨_, _, retN X0 hx (t := .byte) Bd.returns (by simp) (hb hby q9_8) hr, hrun, hended, _, _, rfl, ?_, ⟨_, rfl⟩, hW, hsame.mono (by decide) (by decide)⟩
  show Q43 Z b f h0 n0 _ s₁.heap _
  rw [e0]
  exact ⟨rfl, N0, rfl⟩
theorem ef_44 (m : MethodId) (b : Addr) : entryFrame m #[(.ref b), (.int (4 : Int32))] 2 = mkF m 0 #[.val (.ref b), .val (.int (4 : Int32))] [] := by first | (simp [entryFrame, mkF, argsToLocals, Value.category]; done) | rfl
def Q44 (Z : State) (b : Addr) (f : Nat → Int32) (h0 : Heap) (n0 : Nat) (v : Option Value) (h : Heap) (L : List Loc) : Prop := v = some (.int (1 : Int32)) ∧ Fr n0 L ∧ h = h0
set_option maxRecDepth 65536 in
set_option maxHeartbeats 40000000 in
theorem rm44 (l : Launch) (Z : State) (a0 : Array Value) (hw : ∀ d ∈ tables_1, d.before a0 Z = true) (ws : List Jvm.Cond) (b : Addr) (f : Nat → Int32) (h0 : Heap) (n0 : Nat) (Z0 : n0 ≤ h0.size) (P0 : own_By Z h0 b (8 : Int32) f) :
    MetFree l own_y13 (head1 (Jvm.Cond.code own_y13 jdk_52_method_15_code 2 (some .byte) :: ws) own_r0) (fun ar_ U => ar_ = #[(.ref b), (.int (4 : Int32))] ∧ Z.Warmed39 U.vm ∧ U.heap = h0) (fun _ _ _ _ _ => True) (fun _ U oo_ U' => ∃ v L, oo_ = .returned v ∧ Q44 Z b f h0 n0 v U'.heap L ∧ FrameEnd U oo_ U' L own_r0.cells own_r0.slots) := by
  refine MetFree.of_bodySF (plainFor_of_name pn_4) hisR ?_
  intro p e s m args below meth c s₁ Bd hml0 hP hK
  obtain ⟨rfl, hZ, hh⟩ := hP
  have hx := Bd.exec
  have hby := Bd.bytes
  have hml : c.maxLocals = 2 := hml0
  have hown : s.vm.findClass "java/lang/StringUTF16" = some m.cls := findClass_of_methodNamed Bd.named
  have hnm := (name_of_methodNamed Bd.named Bd.method).1
  have X0 : Stand p l e own_r0 s m #[(.ref b), (.int (4 : Int32))] below meth c s₁ [] 0 0 := Stand.of_body Bd
  have e0 : s₁.heap = h0 := by rw [← hh, Bd.state]; rfl
  have N0 := Fr.nil n0
  refine own_in (castTop (ef_44 m b)) ?_
  show oG _ _ _ _ (s₁.setTop (mkF m 0 #[.val (.ref b), .val (.int (4 : Int32))] []))
  refine oS (fun _ κ => XS.iloadN X0.here hx rfl (hb hby q9_0) rfl κ) ?_
  refine oS (fun _ κ => XS.aloadN X0.here hx rfl (hb hby q9_1) rfl rfl κ) ?_
  obtain ⟨cl1, Ar1, Sz1, Nz1, -⟩ := P0.opened
  refine oS (fun _ κ => X0.arraylength hx (by rw [e0]; exact Ar1.1) (State.isArrayOf_alike hZ.alike Ar1.2.1) (g := (mkF m 2 #[.val (.ref b), .val (.int (4 : Int32))] [(.ref b), (.int (4 : Int32))])) rfl rfl (hb hby q9_2) _ κ) ?_
  rw [len_of Sz1 Nz1]
  show oG _ _ _ _ (s₁.setTop (mkF m 3 #[.val (.ref b), .val (.int (4 : Int32))] [(.int (8 : Int32)), (.int (4 : Int32))]))
  refine oS (fun _ κ => XS.isub X0.here hx rfl (hb hby q9_3) rfl κ) ?_
  show oG _ _ _ _ (s₁.setTop (mkF m 4 #[.val (.ref b), .val (.int (4 : Int32))] [(.int ((4 : Int32) - (8 : Int32)))]))
  rw [show (((4 : Int32) - (8 : Int32)) : Int32) = (-4 : Int32) from by decide]
  show oG _ _ _ _ (s₁.setTop (mkF m 4 #[.val (.ref b), .val (.int (4 : Int32))] [(.int (-4 : Int32))]))
  refine oS (fun _ κ => XS.bipush X0.here hx rfl (hb hby q9_4) κ) ?_
  refine oS (fun _ κ => XS.iushr X0.here hx rfl (hb hby q9_6) rfl κ) ?_
  show oG _ _ _ _ (s₁.setTop (mkF m 7 #[.val (.ref b), .val (.int (4 : Int32))] [(.int (((-4 : Int32).toUInt32 >>> ((31 : Int32) &&& 31).toUInt32).toInt32))]))
  rw [show ((((-4 : Int32).toUInt32 >>> ((31 : Int32) &&& 31).toUInt32).toInt32) : Int32) = (1 : Int32) from by decide]
  show oG _ _ _ _ (s₁.setTop (mkF m 7 #[.val (.ref b), .val (.int (4 : Int32))] [(.int (1 : Int32))]))
  refine oS (fun _ κ => XS.i2b X0.here hx rfl (hb hby q9_7) rfl κ) ?_
  show oG _ _ _ _ (s₁.setTop (mkF m 8 #[.val (.ref b), .val (.int (4 : Int32))] [(.int ((1 : Int32).toInt8.toInt32))]))
  rw [show (((1 : Int32).toInt8.toInt32) : Int32) = (1 : Int32) from by decide]
  show oG _ _ _ _ (s₁.setTop (mkF m 8 #[.val (.ref b), .val (.int (4 : Int32))] [(.int (1 : Int32))]))
  obtain ⟨fs, hr, hrun, hended, hW, hsame⟩ := X0.leave (v := some (.int (1 : Int32))) (fun h => by rw [Bd.returns] at h; cases h)
  refine ⟨_, _, retN X0 hx (t := .byte) Bd.returns (by simp) (hb hby q9_8) hr, hrun, hended, _, _, rfl, ?_, ⟨_, rfl⟩, hW, hsame.mono (by decide) (by decide)⟩
  show Q44 Z b f h0 n0 _ s₁.heap _
  rw [e0]
  exact ⟨rfl, N0, rfl⟩
theorem ef_45 (m : MethodId) (a : Addr) (ca : Addr) : entryFrame m #[(.ref a), (.ref ca), (.int (0 : Int32)), (.int (1 : Int32)), .null] 6 = mkF m 0 #[.val (.ref a), .val (.ref ca), .val (.int (0 : Int32)), .val (.int (1 : Int32)), .val .null, .unset] [] := by first | (simp [entryFrame, mkF, argsToLocals, Value.category]; done) | rfl
def Q45 (Z : State) (a : Addr) (ca : Addr) (ka : ClassId) (c0 : Int32) (cs : Int32) (h0 : Heap) (n0 : Nat) (v : Option Value) (h : Heap) (L : List Loc) : Prop := v = none ∧ Fr n0 L ∧ Keep h0 h [a] ∧ (own_S Z h a (1 : Int32) (own_gl [c0]))
set_option maxRecDepth 65536 in
set_option maxHeartbeats 40000000 in
theorem rm45 (l : Launch) (Z : State) (a0 : Array Value) (hw : ∀ d ∈ tables_1, d.before a0 Z = true) (ws : List Jvm.Cond) (a : Addr) (ca : Addr) (ka : ClassId) (c0 : Int32) (cs : Int32) (h0 : Heap) (n0 : Nat) (Z0 : n0 ≤ h0.size) (P0 : Exa Z h0 a "java/lang/String") (P1 : Fld Z h0 a "java/lang/String" "value" "[B" .null) (P2 : Fld Z h0 a "java/lang/String" "coder" "B" (.int (0 : Int32))) (P3 : n0 ≤ a) (P4 : Arv Z h0 ca ka .char (1 : Int32) [(.int c0)] (.int (0 : Int32))) (P5 : Old Z n0 h0) (P6 : Sta Z Z.heap "java/lang/String" "COMPACT_STRINGS" "Z" (.int cs)) (P7 : ¬ cs = (0 : Int32)) (P8 : Sta Z Z.heap "java/lang/StringUTF16" "$assertionsDisabled" "Z" (.int (1 : Int32))) (P9 : Sta Z Z.heap "java/lang/StringUTF16" "HI_BYTE_SHIFT" "I" (.int (0 : Int32))) (P10 : Sta Z Z.heap "java/lang/StringUTF16" "LO_BYTE_SHIFT" "I" (.int (8 : Int32))) (P11 : own_R c0) (P12 : ca ≠ a) :
    MetFree l own_y4 (head1 (Jvm.Cond.code own_y4 jdk_42_method_149_code 6 none :: ws) own_r22) (fun ar_ U => ar_ = #[(.ref a), (.ref ca), (.int (0 : Int32)), (.int (1 : Int32)), .null] ∧ Z.Warmed39 U.vm ∧ U.heap = h0) (fun _ _ _ _ _ => True) (fun _ U oo_ U' => ∃ v L, oo_ = .returned v ∧ Q45 Z a ca ka c0 cs h0 n0 v U'.heap L ∧ FrameEnd U oo_ U' L own_r22.cells own_r22.slots) := by
  refine MetFree.of_bodySF (plainFor_of_name pn_2) hisR ?_
  intro p e s m args below meth c s₁ Bd hml0 hP hK
  obtain ⟨rfl, hZ, hh⟩ := hP
  have hx := Bd.exec
  have hby := Bd.bytes
  have hml : c.maxLocals = 6 := hml0
  have hown : s.vm.findClass "java/lang/String" = some m.cls := findClass_of_methodNamed Bd.named
  have hnm := (name_of_methodNamed Bd.named Bd.method).1
  have X0 : Stand p l e own_r22 s m #[(.ref a), (.ref ca), (.int (0 : Int32)), (.int (1 : Int32)), .null] below meth c s₁ [] 0 0 := Stand.of_body Bd
  have e0 : s₁.heap = h0 := by rw [← hh, Bd.state]; rfl
  have N0 := Fr.nil n0
  refine own_in (castTop (ef_45 m a ca)) ?_
  show oG _ _ _ _ (s₁.setTop (mkF m 0 #[.val (.ref a), .val (.ref ca), .val (.int (0 : Int32)), .val (.int (1 : Int32)), .val .null, .unset] []))
  refine oS (fun _ κ => XS.aloadN X0.here hx rfl (hb hby q2_0) rfl rfl κ) ?_
  obtain ⟨T1, X1, e1, st1⟩ := initO X0 hx hZ hown (own_w hw 16 rfl) (own_w hw 17 rfl) (own_w hw 18 rfl) e0 (g := (mkF m 1 #[.val (.ref a), .val (.ref ca), .val (.int (0 : Int32)), .val (.int (1 : Int32)), .val .null, .unset] [(.ref a)])) rfl (by rw [hml]; rfl) rfl (hb hby q2_1) (by decide) (W := 0) own_2z (by decide)
  refine oS st1 ?_
  show oG _ _ _ _ (T1.setTop (mkF m 4 #[.val (.ref a), .val (.ref ca), .val (.int (0 : Int32)), .val (.int (1 : Int32)), .val .null, .unset] []))
  refine oS (fun _ κ => XS.iloadN X1.here hx rfl (hb hby q2_4) rfl κ) ?_
  refine oS (fun _ κ => XS.ifYes X1.here hx rfl (pc0 := 5) (pc' := 27) rfl (hb hby q2_5) rfl ((if0 _ _).trans (feq (by decide)).2) (by decide) (by decide) κ) ?_
  show oG _ _ _ _ (T1.setTop (mkF m 27 #[.val (.ref a), .val (.ref ca), .val (.int (0 : Int32)), .val (.int (1 : Int32)), .val .null, .unset] []))
  obtain ⟨T2, X2, e2, st2⟩ := getS2 X1 hx hZ hown (host := "") (Or.inl (own_w hw 41 rfl)) Via.refl e1 (P6.ext P5.2) (g := (mkF m 27 #[.val (.ref a), .val (.ref ca), .val (.int (0 : Int32)), .val (.int (1 : Int32)), .val .null, .unset] [])) rfl (hb hby q2_27)
  refine oS st2 ?_
  show oG _ _ _ _ (T2.setTop (mkF m 30 #[.val (.ref a), .val (.ref ca), .val (.int (0 : Int32)), .val (.int (1 : Int32)), .val .null, .unset] [(.int cs)]))
  refine oS (fun _ κ => XS.ifNo X2.here hx rfl (hb hby q2_30) rfl ((if0 _ _).trans (feq P7).1) κ) ?_
  show oG _ _ _ _ (T2.setTop (mkF m 33 #[.val (.ref a), .val (.ref ca), .val (.int (0 : Int32)), .val (.int (1 : Int32)), .val .null, .unset] []))
  refine oS (fun _ κ => XS.aloadN X2.here hx rfl (hb hby q2_33) rfl rfl κ) ?_
  refine oS (fun _ κ => XS.iloadN X2.here hx rfl (hb hby q2_34) rfl κ) ?_
  refine oS (fun _ κ => XS.iloadN X2.here hx rfl (hb hby q2_35) rfl κ) ?_
  obtain ⟨vr3, _, ⟨T3, L3, k3, n3⟩, -, X3, ⟨Lc3, hQ3, l3, y3, z3⟩, st3⟩ := Jvm.LawKit.callS X2 hx (y := own_y14) hown (mvT hZ (own_w hw 42 rfl)) (mvT hZ (own_w hw 43 rfl)) (mvT hZ (own_w hw 44 rfl)) (mvT hZ (own_w hw 45 rfl)) (by decide) (backOf (W := 0) (rm33 l Z a0 hw [] ca ka c0 h0 n0 Z0 P4 P5 P8 P9 P10 P11) hZ (own_w hw 45 rfl) (own_w hw 44 rfl) (by decide) (by decide)) (g := (mkF m 36 #[.val (.ref a), .val (.ref ca), .val (.int (0 : Int32)), .val (.int (1 : Int32)), .val .null, .unset] [(.int (1 : Int32)), (.int (0 : Int32)), (.ref ca)])) rfl (by rw [hml]; rfl) (argsL := [(.ref ca), (.int (0 : Int32)), (.int (1 : Int32))]) (rest := []) (lenOf pd_11 rfl) rfl own_2z (hb hby q2_36) (fun _ _ => ⟨rfl, e2, (by decide : 0 + 2 ≤ _), (by decide : 0 + 3 ≤ _)⟩)
  dsimp only [Pt.U, Pt.locs, Pt.cells, Pt.slots] at X3 l3 y3 z3 st3 hQ3
  subst l3 y3 z3
  obtain ⟨r4, rfl, Nq3, Kq3, p3_0, pa3⟩ := hQ3
  have N3 := Fr.app N0 Nq3
  have ne5 : a ≠ r4 := Nat.ne_of_lt (Nat.lt_of_lt_of_le P0.lt p3_0)
  have ne6 : ca ≠ r4 := Nat.ne_of_lt (Nat.lt_of_lt_of_le P4.lt p3_0)
  have ge7 : n0 ≤ r4 := Nat.le_trans Z0 p3_0
  have sz8 : h0.size ≤ r4 := Nat.le_trans (Keep.refl h0 [a]).1 p3_0
  have f9 := P0.keep Kq3
  have f10 := P1.keep Kq3 nin0
  have f11 := P2.keep Kq3 nin0
  have f12 := P4.keep Kq3 nin0
  have f13 := P5.keep Kq3 all0
  have K14 : Keep h0 T3.heap [a] := (Keep.refl h0 [a]).trans Kq3 all0
  have z15 : n0 ≤ T3.heap.size := Nat.le_trans Z0 Kq3.1
  rcases pa3 with ⟨pa3_0_0, pa3_0_1⟩ | pa3_1_0
  · refine oS st3 ?_
    show oG _ _ _ _ (T3.setTop (mkF m 39 #[.val (.ref a), .val (.ref ca), .val (.int (0 : Int32)), .val (.int (1 : Int32)), .val .null, .unset] [(.ref r4)]))
    refine oS (fun _ κ => XS.astore X3.here hx rfl (hb hby q2_39) rfl rfl (l' := #[.val (.ref a), .val (.ref ca), .val (.int (0 : Int32)), .val (.int (1 : Int32)), .val .null, .val (.ref r4)]) rfl κ) ?_
    refine oS (fun _ κ => XS.aloadN X3.here hx rfl (hb hby q2_41) rfl rfl κ) ?_
    refine oS (fun _ κ => XS.aload X3.here hx rfl (hb hby q2_42) rfl rfl κ) ?_
    refine oS (fun _ κ => XS.iloadN X3.here hx rfl (hb hby q2_44) rfl κ) ?_
    obtain ⟨vr16, _, ⟨T16, L16, k16, n16⟩, -, X16, ⟨Lc16, hQ16, l16, y16, z16⟩, st16⟩ := Jvm.LawKit.callS X3 hx (y := own_y13) hown (mvT hZ (own_w hw 49 rfl)) (mvT hZ (own_w hw 50 rfl)) (mvT hZ (own_w hw 44 rfl)) (mvT hZ (own_w hw 51 rfl)) (by decide) (backOf (W := 1) (rm37 l Z a0 hw [] r4 (own_upd own_zero (0 : Int32).toNatClampNeg (own_lb c0)) T3.heap n0 z15 pa3_0_0) hZ (own_w hw 51 rfl) (own_w hw 44 rfl) (by decide) (by decide)) (g := (mkF m 45 #[.val (.ref a), .val (.ref ca), .val (.int (0 : Int32)), .val (.int (1 : Int32)), .val .null, .val (.ref r4)] [(.int (1 : Int32)), (.ref r4), (.ref a)])) rfl (by rw [hml]; rfl) (argsL := [(.ref r4), (.int (1 : Int32))]) (rest := [(.ref a)]) (lenOf pd_12 rfl) rfl own_2z (hb hby q2_45) (fun _ _ => ⟨rfl, rfl, (by decide : 2 + 0 ≤ _), (by decide : 3 + 0 ≤ _)⟩)
    dsimp only [Pt.U, Pt.locs, Pt.cells, Pt.slots] at X16 l16 y16 z16 st16 hQ16
    subst l16 y16 z16
    obtain ⟨rfl, Nq16, eq16⟩ := hQ16
    have N16 := Fr.app N3 Nq16
    refine oS st16 ?_
    show oG _ _ _ _ (T16.setTop (mkF m 48 #[.val (.ref a), .val (.ref ca), .val (.int (0 : Int32)), .val (.int (1 : Int32)), .val .null, .val (.ref r4)] [(.int (0 : Int32)), (.ref a)]))
    obtain ⟨T17, h17, X17, e17, W17, st17⟩ := putFN X16 hx hZ hown (own_w hw 26 rfl) Via.refl eq16 f11 f9 (Or.inr ⟨(own_w hw 22 rfl), rfl, hnm⟩) (own_w hw 6 rfl) (ty := .byte) (v := (.int (0 : Int32))) (v' := (.int (0 : Int32))) (by decide) rfl (by decide) (g := (mkF m 48 #[.val (.ref a), .val (.ref ca), .val (.int (0 : Int32)), .val (.int (1 : Int32)), .val .null, .val (.ref r4)] [(.int (0 : Int32)), (.ref a)])) rfl rfl (hb hby q2_48)
    refine oS st17 ?_
    have N17 := Fr.snoc X17 N16 P3
    have Fw17 := f11.same W17
    have f18 := f9.wr W17
    have f19 := f10.other W17 (Or.inr (slot_ne (Or.inr (own_w hw 21 rfl)) (Or.inr (own_w hw 22 rfl)) (by decide) (t := (.array .byte)) (t' := .byte) (by decide) (by decide)))
    have f20 := f12.other W17 P12
    have f21 := f13.wr W17 P3
    have f22 := pa3_0_0.other W17 (Ne.symm ne5)
    have K23 : Keep h0 h17 [a] := K14.wr W17 (Or.inl (List.mem_of_getElem? (i := 0) rfl))
    have z24 : n0 ≤ h17.size := Nat.le_trans z15 (Keep.of_wr W17).1
    show oG _ _ _ _ (T17.setTop (mkF m 51 #[.val (.ref a), .val (.ref ca), .val (.int (0 : Int32)), .val (.int (1 : Int32)), .val .null, .val (.ref r4)] []))
    refine oS (fun _ κ => XS.aloadN X17.here hx rfl (hb hby q2_51) rfl rfl κ) ?_
    refine oS (fun _ κ => XS.aload X17.here hx rfl (hb hby q2_52) rfl rfl κ) ?_
    obtain ⟨T25, h25, X25, e25, W25, st25⟩ := putF X17 hx hZ hown (host := "") (Or.inl (own_w hw 25 rfl)) Via.refl e17 f19 f18 (Or.inr ⟨(own_w hw 21 rfl), rfl, hnm⟩) (own_w hw 6 rfl) (ty := (.array .byte)) (by decide) rfl rfl (g := (mkF m 54 #[.val (.ref a), .val (.ref ca), .val (.int (0 : Int32)), .val (.int (1 : Int32)), .val .null, .val (.ref r4)] [(.ref r4), (.ref a)])) rfl rfl (hb hby q2_54)
    refine oS st25 ?_
    have N25 := Fr.snoc X25 N17 P3
    have Fw25 := f19.same W25
    have f26 := f18.wr W25
    have f27 := f20.other W25 P12
    have f28 := f21.wr W25 P3
    have f29 := f22.other W25 (Ne.symm ne5)
    have f30 := Fw17.other W25 (Or.inr (slot_ne (Or.inr (own_w hw 22 rfl)) (Or.inr (own_w hw 21 rfl)) (by decide) (t := .byte) (t' := (.array .byte)) (by decide) (by decide)))
    have K31 : Keep h0 h25 [a] := K23.wr W25 (Or.inl (List.mem_of_getElem? (i := 0) rfl))
    have z32 : n0 ≤ h25.size := Nat.le_trans z24 (Keep.of_wr W25).1
    show oG _ _ _ _ (T25.setTop (mkF m 57 #[.val (.ref a), .val (.ref ca), .val (.int (0 : Int32)), .val (.int (1 : Int32)), .val .null, .val (.ref r4)] []))
    obtain ⟨fs, hr, hrun, hended, hW, hsame⟩ := X25.leave (v := none) (fun _ => rfl)
    refine ⟨_, _, X25.returnOut hx Bd.returns (hb hby q2_57) hr, hrun, hended, _, _, rfl, ?_, ⟨_, rfl⟩, hW, hsame.mono (by decide) (by decide)⟩
    show Q45 Z a ca ka c0 cs h0 n0 _ T25.heap _
    rw [e25]
    exact ⟨rfl, N25, K31, Or.inl ⟨_, _, f26, Fw25, f30, f29, own_latP1 c0 P11 pa3_0_1⟩⟩
  · refine oS st3 ?_
    show oG _ _ _ _ (T3.setTop (mkF m 39 #[.val (.ref a), .val (.ref ca), .val (.int (0 : Int32)), .val (.int (1 : Int32)), .val .null, .unset] [(.ref r4)]))
    refine oS (fun _ κ => XS.astore X3.here hx rfl (hb hby q2_39) rfl rfl (l' := #[.val (.ref a), .val (.ref ca), .val (.int (0 : Int32)), .val (.int (1 : Int32)), .val .null, .val (.ref r4)]) rfl κ) ?_
    refine oS (fun _ κ => XS.aloadN X3.here hx rfl (hb hby q2_41) rfl rfl κ) ?_
    refine oS (fun _ κ => XS.aload X3.here hx rfl (hb hby q2_42) rfl rfl κ) ?_
    refine oS (fun _ κ => XS.iloadN X3.here hx rfl (hb hby q2_44) rfl κ) ?_
    obtain ⟨vr33, _, ⟨T33, L33, k33, n33⟩, -, X33, ⟨Lc33, hQ33, l33, y33, z33⟩, st33⟩ := Jvm.LawKit.callS X3 hx (y := own_y13) hown (mvT hZ (own_w hw 49 rfl)) (mvT hZ (own_w hw 50 rfl)) (mvT hZ (own_w hw 44 rfl)) (mvT hZ (own_w hw 51 rfl)) (by decide) (backOf (W := 1) (rm38 l Z a0 hw [] r4 (own_upd (own_upd own_zero 0 (own_bl c0)) (0 + 1) (own_bh c0)) T3.heap n0 z15 pa3_1_0) hZ (own_w hw 51 rfl) (own_w hw 44 rfl) (by decide) (by decide)) (g := (mkF m 45 #[.val (.ref a), .val (.ref ca), .val (.int (0 : Int32)), .val (.int (1 : Int32)), .val .null, .val (.ref r4)] [(.int (1 : Int32)), (.ref r4), (.ref a)])) rfl (by rw [hml]; rfl) (argsL := [(.ref r4), (.int (1 : Int32))]) (rest := [(.ref a)]) (lenOf pd_12 rfl) rfl own_2z (hb hby q2_45) (fun _ _ => ⟨rfl, rfl, (by decide : 2 + 0 ≤ _), (by decide : 3 + 0 ≤ _)⟩)
    dsimp only [Pt.U, Pt.locs, Pt.cells, Pt.slots] at X33 l33 y33 z33 st33 hQ33
    subst l33 y33 z33
    obtain ⟨rfl, Nq33, eq33⟩ := hQ33
    have N33 := Fr.app N3 Nq33
    refine oS st33 ?_
    show oG _ _ _ _ (T33.setTop (mkF m 48 #[.val (.ref a), .val (.ref ca), .val (.int (0 : Int32)), .val (.int (1 : Int32)), .val .null, .val (.ref r4)] [(.int (1 : Int32)), (.ref a)]))
    obtain ⟨T34, h34, X34, e34, W34, st34⟩ := putFN X33 hx hZ hown (own_w hw 26 rfl) Via.refl eq33 f11 f9 (Or.inr ⟨(own_w hw 22 rfl), rfl, hnm⟩) (own_w hw 6 rfl) (ty := .byte) (v := (.int (1 : Int32))) (v' := (.int (1 : Int32))) (by decide) rfl (by decide) (g := (mkF m 48 #[.val (.ref a), .val (.ref ca), .val (.int (0 : Int32)), .val (.int (1 : Int32)), .val .null, .val (.ref r4)] [(.int (1 : Int32)), (.ref a)])) rfl rfl (hb hby q2_48)
    refine oS st34 ?_
    have N34 := Fr.snoc X34 N33 P3
    have Fw34 := f11.same W34
    have f35 := f9.wr W34
    have f36 := f10.other W34 (Or.inr (slot_ne (Or.inr (own_w hw 21 rfl)) (Or.inr (own_w hw 22 rfl)) (by decide) (t := (.array .byte)) (t' := .byte) (by decide) (by decide)))
    have f37 := f12.other W34 P12
    have f38 := f13.wr W34 P3
    have f39 := pa3_1_0.other W34 (Ne.symm ne5)
    have K40 : Keep h0 h34 [a] := K14.wr W34 (Or.inl (List.mem_of_getElem? (i := 0) rfl))
    have z41 : n0 ≤ h34.size := Nat.le_trans z15 (Keep.of_wr W34).1
    show oG _ _ _ _ (T34.setTop (mkF m 51 #[.val (.ref a), .val (.ref ca), .val (.int (0 : Int32)), .val (.int (1 : Int32)), .val .null, .val (.ref r4)] []))
    refine oS (fun _ κ => XS.aloadN X34.here hx rfl (hb hby q2_51) rfl rfl κ) ?_
    refine oS (fun _ κ => XS.aload X34.here hx rfl (hb hby q2_52) rfl rfl κ) ?_
    obtain ⟨T42, h42, X42, e42, W42, st42⟩ := putF X34 hx hZ hown (host := "") (Or.inl (own_w hw 25 rfl)) Via.refl e34 f36 f35 (Or.inr ⟨(own_w hw 21 rfl), rfl, hnm⟩) (own_w hw 6 rfl) (ty := (.array .byte)) (by decide) rfl rfl (g := (mkF m 54 #[.val (.ref a), .val (.ref ca), .val (.int (0 : Int32)), .val (.int (1 : Int32)), .val .null, .val (.ref r4)] [(.ref r4), (.ref a)])) rfl rfl (hb hby q2_54)
    refine oS st42 ?_
    have N42 := Fr.snoc X42 N34 P3
    have Fw42 := f36.same W42
    have f43 := f35.wr W42
    have f44 := f37.other W42 P12
    have f45 := f38.wr W42 P3
    have f46 := f39.other W42 (Ne.symm ne5)
    have f47 := Fw34.other W42 (Or.inr (slot_ne (Or.inr (own_w hw 22 rfl)) (Or.inr (own_w hw 21 rfl)) (by decide) (t := .byte) (t' := (.array .byte)) (by decide) (by decide)))
    have K48 : Keep h0 h42 [a] := K40.wr W42 (Or.inl (List.mem_of_getElem? (i := 0) rfl))
    have z49 : n0 ≤ h42.size := Nat.le_trans z41 (Keep.of_wr W42).1
    show oG _ _ _ _ (T42.setTop (mkF m 57 #[.val (.ref a), .val (.ref ca), .val (.int (0 : Int32)), .val (.int (1 : Int32)), .val .null, .val (.ref r4)] []))
    obtain ⟨fs, hr, hrun, hended, hW, hsame⟩ := X42.leave (v := none) (fun _ => rfl)
    refine ⟨_, _, X42.returnOut hx Bd.returns (hb hby q2_57) hr, hrun, hended, _, _, rfl, ?_, ⟨_, rfl⟩, hW, hsame.mono (by decide) (by decide)⟩
    show Q45 Z a ca ka c0 cs h0 n0 _ T42.heap _
    rw [e42]
    exact ⟨rfl, N42, K48, Or.inr ⟨_, _, _, f43, Fw42, f47, f46, by decide, own_utfP1 c0 P11⟩⟩
theorem ef_46 (m : MethodId) (a : Addr) (ca : Addr) : entryFrame m #[(.ref a), (.ref ca), (.int (0 : Int32)), (.int (2 : Int32)), .null] 6 = mkF m 0 #[.val (.ref a), .val (.ref ca), .val (.int (0 : Int32)), .val (.int (2 : Int32)), .val .null, .unset] [] := by first | (simp [entryFrame, mkF, argsToLocals, Value.category]; done) | rfl
def Q46 (Z : State) (a : Addr) (ca : Addr) (ka : ClassId) (c0 : Int32) (c1 : Int32) (cs : Int32) (h0 : Heap) (n0 : Nat) (v : Option Value) (h : Heap) (L : List Loc) : Prop := v = none ∧ Fr n0 L ∧ Keep h0 h [a] ∧ (own_S Z h a (2 : Int32) (own_gl [c0, c1]))
set_option maxRecDepth 65536 in
set_option maxHeartbeats 40000000 in
theorem rm46 (l : Launch) (Z : State) (a0 : Array Value) (hw : ∀ d ∈ tables_1, d.before a0 Z = true) (ws : List Jvm.Cond) (a : Addr) (ca : Addr) (ka : ClassId) (c0 : Int32) (c1 : Int32) (cs : Int32) (h0 : Heap) (n0 : Nat) (Z0 : n0 ≤ h0.size) (P0 : Exa Z h0 a "java/lang/String") (P1 : Fld Z h0 a "java/lang/String" "value" "[B" .null) (P2 : Fld Z h0 a "java/lang/String" "coder" "B" (.int (0 : Int32))) (P3 : n0 ≤ a) (P4 : Arv Z h0 ca ka .char (2 : Int32) [(.int c0), (.int c1)] (.int (0 : Int32))) (P5 : Old Z n0 h0) (P6 : Sta Z Z.heap "java/lang/String" "COMPACT_STRINGS" "Z" (.int cs)) (P7 : ¬ cs = (0 : Int32)) (P8 : Sta Z Z.heap "java/lang/StringUTF16" "$assertionsDisabled" "Z" (.int (1 : Int32))) (P9 : Sta Z Z.heap "java/lang/StringUTF16" "HI_BYTE_SHIFT" "I" (.int (0 : Int32))) (P10 : Sta Z Z.heap "java/lang/StringUTF16" "LO_BYTE_SHIFT" "I" (.int (8 : Int32))) (P11 : own_R c0) (P12 : own_R c1) (P13 : ca ≠ a) :
    MetFree l own_y4 (head1 (Jvm.Cond.code own_y4 jdk_42_method_149_code 6 none :: ws) own_r23) (fun ar_ U => ar_ = #[(.ref a), (.ref ca), (.int (0 : Int32)), (.int (2 : Int32)), .null] ∧ Z.Warmed39 U.vm ∧ U.heap = h0) (fun _ _ _ _ _ => True) (fun _ U oo_ U' => ∃ v L, oo_ = .returned v ∧ Q46 Z a ca ka c0 c1 cs h0 n0 v U'.heap L ∧ FrameEnd U oo_ U' L own_r23.cells own_r23.slots) := by
  refine MetFree.of_bodySF (plainFor_of_name pn_2) hisR ?_
  intro p e s m args below meth c s₁ Bd hml0 hP hK
  obtain ⟨rfl, hZ, hh⟩ := hP
  have hx := Bd.exec
  have hby := Bd.bytes
  have hml : c.maxLocals = 6 := hml0
  have hown : s.vm.findClass "java/lang/String" = some m.cls := findClass_of_methodNamed Bd.named
  have hnm := (name_of_methodNamed Bd.named Bd.method).1
  have X0 : Stand p l e own_r23 s m #[(.ref a), (.ref ca), (.int (0 : Int32)), (.int (2 : Int32)), .null] below meth c s₁ [] 0 0 := Stand.of_body Bd
  have e0 : s₁.heap = h0 := by rw [← hh, Bd.state]; rfl
  have N0 := Fr.nil n0
  refine own_in (castTop (ef_46 m a ca)) ?_
  show oG _ _ _ _ (s₁.setTop (mkF m 0 #[.val (.ref a), .val (.ref ca), .val (.int (0 : Int32)), .val (.int (2 : Int32)), .val .null, .unset] []))
  refine oS (fun _ κ => XS.aloadN X0.here hx rfl (hb hby q2_0) rfl rfl κ) ?_
  obtain ⟨T1, X1, e1, st1⟩ := initO X0 hx hZ hown (own_w hw 16 rfl) (own_w hw 17 rfl) (own_w hw 18 rfl) e0 (g := (mkF m 1 #[.val (.ref a), .val (.ref ca), .val (.int (0 : Int32)), .val (.int (2 : Int32)), .val .null, .unset] [(.ref a)])) rfl (by rw [hml]; rfl) rfl (hb hby q2_1) (by decide) (W := 0) own_2z (by decide)
  refine oS st1 ?_
  show oG _ _ _ _ (T1.setTop (mkF m 4 #[.val (.ref a), .val (.ref ca), .val (.int (0 : Int32)), .val (.int (2 : Int32)), .val .null, .unset] []))
  refine oS (fun _ κ => XS.iloadN X1.here hx rfl (hb hby q2_4) rfl κ) ?_
  refine oS (fun _ κ => XS.ifYes X1.here hx rfl (pc0 := 5) (pc' := 27) rfl (hb hby q2_5) rfl ((if0 _ _).trans (feq (by decide)).2) (by decide) (by decide) κ) ?_
  show oG _ _ _ _ (T1.setTop (mkF m 27 #[.val (.ref a), .val (.ref ca), .val (.int (0 : Int32)), .val (.int (2 : Int32)), .val .null, .unset] []))
  obtain ⟨T2, X2, e2, st2⟩ := getS2 X1 hx hZ hown (host := "") (Or.inl (own_w hw 41 rfl)) Via.refl e1 (P6.ext P5.2) (g := (mkF m 27 #[.val (.ref a), .val (.ref ca), .val (.int (0 : Int32)), .val (.int (2 : Int32)), .val .null, .unset] [])) rfl (hb hby q2_27)
  refine oS st2 ?_
  show oG _ _ _ _ (T2.setTop (mkF m 30 #[.val (.ref a), .val (.ref ca), .val (.int (0 : Int32)), .val (.int (2 : Int32)), .val .null, .unset] [(.int cs)]))
  refine oS (fun _ κ => XS.ifNo X2.here hx rfl (hb hby q2_30) rfl ((if0 _ _).trans (feq P7).1) κ) ?_
  show oG _ _ _ _ (T2.setTop (mkF m 33 #[.val (.ref a), .val (.ref ca), .val (.int (0 : Int32)), .val (.int (2 : Int32)), .val .null, .unset] []))
  refine oS (fun _ κ => XS.aloadN X2.here hx rfl (hb hby q2_33) rfl rfl κ) ?_
  refine oS (fun _ κ => XS.iloadN X2.here hx rfl (hb hby q2_34) rfl κ) ?_
  refine oS (fun _ κ => XS.iloadN X2.here hx rfl (hb hby q2_35) rfl κ) ?_
  obtain ⟨vr3, _, ⟨T3, L3, k3, n3⟩, -, X3, ⟨Lc3, hQ3, l3, y3, z3⟩, st3⟩ := Jvm.LawKit.callS X2 hx (y := own_y14) hown (mvT hZ (own_w hw 42 rfl)) (mvT hZ (own_w hw 43 rfl)) (mvT hZ (own_w hw 44 rfl)) (mvT hZ (own_w hw 45 rfl)) (by decide) (backOf (W := 0) (rm34 l Z a0 hw [] ca ka c0 c1 h0 n0 Z0 P4 P5 P8 P9 P10 P11 P12) hZ (own_w hw 45 rfl) (own_w hw 44 rfl) (by decide) (by decide)) (g := (mkF m 36 #[.val (.ref a), .val (.ref ca), .val (.int (0 : Int32)), .val (.int (2 : Int32)), .val .null, .unset] [(.int (2 : Int32)), (.int (0 : Int32)), (.ref ca)])) rfl (by rw [hml]; rfl) (argsL := [(.ref ca), (.int (0 : Int32)), (.int (2 : Int32))]) (rest := []) (lenOf pd_11 rfl) rfl own_2z (hb hby q2_36) (fun _ _ => ⟨rfl, e2, (by decide : 0 + 2 ≤ _), (by decide : 0 + 6 ≤ _)⟩)
  dsimp only [Pt.U, Pt.locs, Pt.cells, Pt.slots] at X3 l3 y3 z3 st3 hQ3
  subst l3 y3 z3
  obtain ⟨r4, rfl, Nq3, Kq3, p3_0, pa3⟩ := hQ3
  have N3 := Fr.app N0 Nq3
  have ne5 : a ≠ r4 := Nat.ne_of_lt (Nat.lt_of_lt_of_le P0.lt p3_0)
  have ne6 : ca ≠ r4 := Nat.ne_of_lt (Nat.lt_of_lt_of_le P4.lt p3_0)
  have ge7 : n0 ≤ r4 := Nat.le_trans Z0 p3_0
  have sz8 : h0.size ≤ r4 := Nat.le_trans (Keep.refl h0 [a]).1 p3_0
  have f9 := P0.keep Kq3
  have f10 := P1.keep Kq3 nin0
  have f11 := P2.keep Kq3 nin0
  have f12 := P4.keep Kq3 nin0
  have f13 := P5.keep Kq3 all0
  have K14 : Keep h0 T3.heap [a] := (Keep.refl h0 [a]).trans Kq3 all0
  have z15 : n0 ≤ T3.heap.size := Nat.le_trans Z0 Kq3.1
  rcases pa3 with ⟨pa3_0_0, pa3_0_1, pa3_0_2⟩ | pa3_1_0
  · refine oS st3 ?_
    show oG _ _ _ _ (T3.setTop (mkF m 39 #[.val (.ref a), .val (.ref ca), .val (.int (0 : Int32)), .val (.int (2 : Int32)), .val .null, .unset] [(.ref r4)]))
    refine oS (fun _ κ => XS.astore X3.here hx rfl (hb hby q2_39) rfl rfl (l' := #[.val (.ref a), .val (.ref ca), .val (.int (0 : Int32)), .val (.int (2 : Int32)), .val .null, .val (.ref r4)]) rfl κ) ?_
    refine oS (fun _ κ => XS.aloadN X3.here hx rfl (hb hby q2_41) rfl rfl κ) ?_
    refine oS (fun _ κ => XS.aload X3.here hx rfl (hb hby q2_42) rfl rfl κ) ?_
    refine oS (fun _ κ => XS.iloadN X3.here hx rfl (hb hby q2_44) rfl κ) ?_
    obtain ⟨vr16, _, ⟨T16, L16, k16, n16⟩, -, X16, ⟨Lc16, hQ16, l16, y16, z16⟩, st16⟩ := Jvm.LawKit.callS X3 hx (y := own_y13) hown (mvT hZ (own_w hw 49 rfl)) (mvT hZ (own_w hw 50 rfl)) (mvT hZ (own_w hw 44 rfl)) (mvT hZ (own_w hw 51 rfl)) (by decide) (backOf (W := 1) (rm39 l Z a0 hw [] r4 (own_upd (own_upd own_zero (0 : Int32).toNatClampNeg (own_lb c0)) (1 : Int32).toNatClampNeg (own_lb c1)) T3.heap n0 z15 pa3_0_0) hZ (own_w hw 51 rfl) (own_w hw 44 rfl) (by decide) (by decide)) (g := (mkF m 45 #[.val (.ref a), .val (.ref ca), .val (.int (0 : Int32)), .val (.int (2 : Int32)), .val .null, .val (.ref r4)] [(.int (2 : Int32)), (.ref r4), (.ref a)])) rfl (by rw [hml]; rfl) (argsL := [(.ref r4), (.int (2 : Int32))]) (rest := [(.ref a)]) (lenOf pd_12 rfl) rfl own_2z (hb hby q2_45) (fun _ _ => ⟨rfl, rfl, (by decide : 2 + 0 ≤ _), (by decide : 6 + 0 ≤ _)⟩)
    dsimp only [Pt.U, Pt.locs, Pt.cells, Pt.slots] at X16 l16 y16 z16 st16 hQ16
    subst l16 y16 z16
    obtain ⟨rfl, Nq16, eq16⟩ := hQ16
    have N16 := Fr.app N3 Nq16
    refine oS st16 ?_
    show oG _ _ _ _ (T16.setTop (mkF m 48 #[.val (.ref a), .val (.ref ca), .val (.int (0 : Int32)), .val (.int (2 : Int32)), .val .null, .val (.ref r4)] [(.int (0 : Int32)), (.ref a)]))
    obtain ⟨T17, h17, X17, e17, W17, st17⟩ := putFN X16 hx hZ hown (own_w hw 26 rfl) Via.refl eq16 f11 f9 (Or.inr ⟨(own_w hw 22 rfl), rfl, hnm⟩) (own_w hw 6 rfl) (ty := .byte) (v := (.int (0 : Int32))) (v' := (.int (0 : Int32))) (by decide) rfl (by decide) (g := (mkF m 48 #[.val (.ref a), .val (.ref ca), .val (.int (0 : Int32)), .val (.int (2 : Int32)), .val .null, .val (.ref r4)] [(.int (0 : Int32)), (.ref a)])) rfl rfl (hb hby q2_48)
    refine oS st17 ?_
    have N17 := Fr.snoc X17 N16 P3
    have Fw17 := f11.same W17
    have f18 := f9.wr W17
    have f19 := f10.other W17 (Or.inr (slot_ne (Or.inr (own_w hw 21 rfl)) (Or.inr (own_w hw 22 rfl)) (by decide) (t := (.array .byte)) (t' := .byte) (by decide) (by decide)))
    have f20 := f12.other W17 P13
    have f21 := f13.wr W17 P3
    have f22 := pa3_0_0.other W17 (Ne.symm ne5)
    have K23 : Keep h0 h17 [a] := K14.wr W17 (Or.inl (List.mem_of_getElem? (i := 0) rfl))
    have z24 : n0 ≤ h17.size := Nat.le_trans z15 (Keep.of_wr W17).1
    show oG _ _ _ _ (T17.setTop (mkF m 51 #[.val (.ref a), .val (.ref ca), .val (.int (0 : Int32)), .val (.int (2 : Int32)), .val .null, .val (.ref r4)] []))
    refine oS (fun _ κ => XS.aloadN X17.here hx rfl (hb hby q2_51) rfl rfl κ) ?_
    refine oS (fun _ κ => XS.aload X17.here hx rfl (hb hby q2_52) rfl rfl κ) ?_
    obtain ⟨T25, h25, X25, e25, W25, st25⟩ := putF X17 hx hZ hown (host := "") (Or.inl (own_w hw 25 rfl)) Via.refl e17 f19 f18 (Or.inr ⟨(own_w hw 21 rfl), rfl, hnm⟩) (own_w hw 6 rfl) (ty := (.array .byte)) (by decide) rfl rfl (g := (mkF m 54 #[.val (.ref a), .val (.ref ca), .val (.int (0 : Int32)), .val (.int (2 : Int32)), .val .null, .val (.ref r4)] [(.ref r4), (.ref a)])) rfl rfl (hb hby q2_54)
    refine oS st25 ?_
    have N25 := Fr.snoc X25 N17 P3
    have Fw25 := f19.same W25
    have f26 := f18.wr W25
    have f27 := f20.other W25 P13
    have f28 := f21.wr W25 P3
    have f29 := f22.other W25 (Ne.symm ne5)
    have f30 := Fw17.other W25 (Or.inr (slot_ne (Or.inr (own_w hw 22 rfl)) (Or.inr (own_w hw 21 rfl)) (by decide) (t := .byte) (t' := (.array .byte)) (by decide) (by decide)))
    have K31 : Keep h0 h25 [a] := K23.wr W25 (Or.inl (List.mem_of_getElem? (i := 0) rfl))
    have z32 : n0 ≤ h25.size := Nat.le_trans z24 (Keep.of_wr W25).1
    show oG _ _ _ _ (T25.setTop (mkF m 57 #[.val (.ref a), .val (.ref ca), .val (.int (0 : Int32)), .val (.int (2 : Int32)), .val .null, .val (.ref r4)] []))
    obtain ⟨fs, hr, hrun, hended, hW, hsame⟩ := X25.leave (v := none) (fun _ => rfl)
    refine ⟨_, _, X25.returnOut hx Bd.returns (hb hby q2_57) hr, hrun, hended, _, _, rfl, ?_, ⟨_, rfl⟩, hW, hsame.mono (by decide) (by decide)⟩
    show Q46 Z a ca ka c0 c1 cs h0 n0 _ T25.heap _
    rw [e25]
    exact ⟨rfl, N25, K31, Or.inl ⟨_, _, f26, Fw25, f30, f29, own_latP2 c0 c1 P11 P12 pa3_0_1 pa3_0_2⟩⟩
  · refine oS st3 ?_
    show oG _ _ _ _ (T3.setTop (mkF m 39 #[.val (.ref a), .val (.ref ca), .val (.int (0 : Int32)), .val (.int (2 : Int32)), .val .null, .unset] [(.ref r4)]))
    refine oS (fun _ κ => XS.astore X3.here hx rfl (hb hby q2_39) rfl rfl (l' := #[.val (.ref a), .val (.ref ca), .val (.int (0 : Int32)), .val (.int (2 : Int32)), .val .null, .val (.ref r4)]) rfl κ) ?_
    refine oS (fun _ κ => XS.aloadN X3.here hx rfl (hb hby q2_41) rfl rfl κ) ?_
    refine oS (fun _ κ => XS.aload X3.here hx rfl (hb hby q2_42) rfl rfl κ) ?_
    refine oS (fun _ κ => XS.iloadN X3.here hx rfl (hb hby q2_44) rfl κ) ?_
    obtain ⟨vr33, _, ⟨T33, L33, k33, n33⟩, -, X33, ⟨Lc33, hQ33, l33, y33, z33⟩, st33⟩ := Jvm.LawKit.callS X3 hx (y := own_y13) hown (mvT hZ (own_w hw 49 rfl)) (mvT hZ (own_w hw 50 rfl)) (mvT hZ (own_w hw 44 rfl)) (mvT hZ (own_w hw 51 rfl)) (by decide) (backOf (W := 1) (rm40 l Z a0 hw [] r4 (own_upd (own_upd (own_upd (own_upd own_zero 0 (own_bl c0)) (0 + 1) (own_bh c0)) 2 (own_bl c1)) (2 + 1) (own_bh c1)) T3.heap n0 z15 pa3_1_0) hZ (own_w hw 51 rfl) (own_w hw 44 rfl) (by decide) (by decide)) (g := (mkF m 45 #[.val (.ref a), .val (.ref ca), .val (.int (0 : Int32)), .val (.int (2 : Int32)), .val .null, .val (.ref r4)] [(.int (2 : Int32)), (.ref r4), (.ref a)])) rfl (by rw [hml]; rfl) (argsL := [(.ref r4), (.int (2 : Int32))]) (rest := [(.ref a)]) (lenOf pd_12 rfl) rfl own_2z (hb hby q2_45) (fun _ _ => ⟨rfl, rfl, (by decide : 2 + 0 ≤ _), (by decide : 6 + 0 ≤ _)⟩)
    dsimp only [Pt.U, Pt.locs, Pt.cells, Pt.slots] at X33 l33 y33 z33 st33 hQ33
    subst l33 y33 z33
    obtain ⟨rfl, Nq33, eq33⟩ := hQ33
    have N33 := Fr.app N3 Nq33
    refine oS st33 ?_
    show oG _ _ _ _ (T33.setTop (mkF m 48 #[.val (.ref a), .val (.ref ca), .val (.int (0 : Int32)), .val (.int (2 : Int32)), .val .null, .val (.ref r4)] [(.int (1 : Int32)), (.ref a)]))
    obtain ⟨T34, h34, X34, e34, W34, st34⟩ := putFN X33 hx hZ hown (own_w hw 26 rfl) Via.refl eq33 f11 f9 (Or.inr ⟨(own_w hw 22 rfl), rfl, hnm⟩) (own_w hw 6 rfl) (ty := .byte) (v := (.int (1 : Int32))) (v' := (.int (1 : Int32))) (by decide) rfl (by decide) (g := (mkF m 48 #[.val (.ref a), .val (.ref ca), .val (.int (0 : Int32)), .val (.int (2 : Int32)), .val .null, .val (.ref r4)] [(.int (1 : Int32)), (.ref a)])) rfl rfl (hb hby q2_48)
    refine oS st34 ?_
    have N34 := Fr.snoc X34 N33 P3
    have Fw34 := f11.same W34
    have f35 := f9.wr W34
    have f36 := f10.other W34 (Or.inr (slot_ne (Or.inr (own_w hw 21 rfl)) (Or.inr (own_w hw 22 rfl)) (by decide) (t := (.array .byte)) (t' := .byte) (by decide) (by decide)))
    have f37 := f12.other W34 P13
    have f38 := f13.wr W34 P3
    have f39 := pa3_1_0.other W34 (Ne.symm ne5)
    have K40 : Keep h0 h34 [a] := K14.wr W34 (Or.inl (List.mem_of_getElem? (i := 0) rfl))
    have z41 : n0 ≤ h34.size := Nat.le_trans z15 (Keep.of_wr W34).1
    show oG _ _ _ _ (T34.setTop (mkF m 51 #[.val (.ref a), .val (.ref ca), .val (.int (0 : Int32)), .val (.int (2 : Int32)), .val .null, .val (.ref r4)] []))
    refine oS (fun _ κ => XS.aloadN X34.here hx rfl (hb hby q2_51) rfl rfl κ) ?_
    refine oS (fun _ κ => XS.aload X34.here hx rfl (hb hby q2_52) rfl rfl κ) ?_
    obtain ⟨T42, h42, X42, e42, W42, st42⟩ := putF X34 hx hZ hown (host := "") (Or.inl (own_w hw 25 rfl)) Via.refl e34 f36 f35 (Or.inr ⟨(own_w hw 21 rfl), rfl, hnm⟩) (own_w hw 6 rfl) (ty := (.array .byte)) (by decide) rfl rfl (g := (mkF m 54 #[.val (.ref a), .val (.ref ca), .val (.int (0 : Int32)), .val (.int (2 : Int32)), .val .null, .val (.ref r4)] [(.ref r4), (.ref a)])) rfl rfl (hb hby q2_54)
    refine oS st42 ?_
    have N42 := Fr.snoc X42 N34 P3
    have Fw42 := f36.same W42
    have f43 := f35.wr W42
    have f44 := f37.other W42 P13
    have f45 := f38.wr W42 P3
    have f46 := f39.other W42 (Ne.symm ne5)
    have f47 := Fw34.other W42 (Or.inr (slot_ne (Or.inr (own_w hw 22 rfl)) (Or.inr (own_w hw 21 rfl)) (by decide) (t := .byte) (t' := (.array .byte)) (by decide) (by decide)))
    have K48 : Keep h0 h42 [a] := K40.wr W42 (Or.inl (List.mem_of_getElem? (i := 0) rfl))
    have z49 : n0 ≤ h42.size := Nat.le_trans z41 (Keep.of_wr W42).1
    show oG _ _ _ _ (T42.setTop (mkF m 57 #[.val (.ref a), .val (.ref ca), .val (.int (0 : Int32)), .val (.int (2 : Int32)), .val .null, .val (.ref r4)] []))
    obtain ⟨fs, hr, hrun, hended, hW, hsame⟩ := X42.leave (v := none) (fun _ => rfl)
    refine ⟨_, _, X42.returnOut hx Bd.returns (hb hby q2_57) hr, hrun, hended, _, _, rfl, ?_, ⟨_, rfl⟩, hW, hsame.mono (by decide) (by decide)⟩
    show Q46 Z a ca ka c0 c1 cs h0 n0 _ T42.heap _
    rw [e42]
    exact ⟨rfl, N42, K48, Or.inr ⟨_, _, _, f43, Fw42, f47, f46, by decide, own_utfP2 c0 c1 P11 P12⟩⟩
theorem ef_47 (m : MethodId) (a : Addr) (ca : Addr) : entryFrame m #[(.ref a), (.ref ca), (.int (0 : Int32)), (.int (3 : Int32)), .null] 6 = mkF m 0 #[.val (.ref a), .val (.ref ca), .val (.int (0 : Int32)), .val (.int (3 : Int32)), .val .null, .unset] [] := by first | (simp [entryFrame, mkF, argsToLocals, Value.category]; done) | rfl
def Q47 (Z : State) (a : Addr) (ca : Addr) (ka : ClassId) (c0 : Int32) (c1 : Int32) (c2 : Int32) (cs : Int32) (h0 : Heap) (n0 : Nat) (v : Option Value) (h : Heap) (L : List Loc) : Prop := v = none ∧ Fr n0 L ∧ Keep h0 h [a] ∧ (own_S Z h a (3 : Int32) (own_gl [c0, c1, c2]))
set_option maxRecDepth 65536 in
set_option maxHeartbeats 40000000 in
theorem rm47 (l : Launch) (Z : State) (a0 : Array Value) (hw : ∀ d ∈ tables_1, d.before a0 Z = true) (ws : List Jvm.Cond) (a : Addr) (ca : Addr) (ka : ClassId) (c0 : Int32) (c1 : Int32) (c2 : Int32) (cs : Int32) (h0 : Heap) (n0 : Nat) (Z0 : n0 ≤ h0.size) (P0 : Exa Z h0 a "java/lang/String") (P1 : Fld Z h0 a "java/lang/String" "value" "[B" .null) (P2 : Fld Z h0 a "java/lang/String" "coder" "B" (.int (0 : Int32))) (P3 : n0 ≤ a) (P4 : Arv Z h0 ca ka .char (3 : Int32) [(.int c0), (.int c1), (.int c2)] (.int (0 : Int32))) (P5 : Old Z n0 h0) (P6 : Sta Z Z.heap "java/lang/String" "COMPACT_STRINGS" "Z" (.int cs)) (P7 : ¬ cs = (0 : Int32)) (P8 : Sta Z Z.heap "java/lang/StringUTF16" "$assertionsDisabled" "Z" (.int (1 : Int32))) (P9 : Sta Z Z.heap "java/lang/StringUTF16" "HI_BYTE_SHIFT" "I" (.int (0 : Int32))) (P10 : Sta Z Z.heap "java/lang/StringUTF16" "LO_BYTE_SHIFT" "I" (.int (8 : Int32))) (P11 : own_R c0) (P12 : own_R c1) (P13 : own_R c2) (P14 : ca ≠ a) :
    MetFree l own_y4 (head1 (Jvm.Cond.code own_y4 jdk_42_method_149_code 6 none :: ws) own_r24) (fun ar_ U => ar_ = #[(.ref a), (.ref ca), (.int (0 : Int32)), (.int (3 : Int32)), .null] ∧ Z.Warmed39 U.vm ∧ U.heap = h0) (fun _ _ _ _ _ => True) (fun _ U oo_ U' => ∃ v L, oo_ = .returned v ∧ Q47 Z a ca ka c0 c1 c2 cs h0 n0 v U'.heap L ∧ FrameEnd U oo_ U' L own_r24.cells own_r24.slots) := by
  refine MetFree.of_bodySF (plainFor_of_name pn_2) hisR ?_
  intro p e s m args below meth c s₁ Bd hml0 hP hK
  obtain ⟨rfl, hZ, hh⟩ := hP
  have hx := Bd.exec
  have hby := Bd.bytes
  have hml : c.maxLocals = 6 := hml0
  have hown : s.vm.findClass "java/lang/String" = some m.cls := findClass_of_methodNamed Bd.named
  have hnm := (name_of_methodNamed Bd.named Bd.method).1
  have X0 : Stand p l e own_r24 s m #[(.ref a), (.ref ca), (.int (0 : Int32)), (.int (3 : Int32)), .null] below meth c s₁ [] 0 0 := Stand.of_body Bd
  have e0 : s₁.heap = h0 := by rw [← hh, Bd.state]; rfl
  have N0 := Fr.nil n0
  refine own_in (castTop (ef_47 m a ca)) ?_
  show oG _ _ _ _ (s₁.setTop (mkF m 0 #[.val (.ref a), .val (.ref ca), .val (.int (0 : Int32)), .val (.int (3 : Int32)), .val .null, .unset] []))
  refine oS (fun _ κ => XS.aloadN X0.here hx rfl (hb hby q2_0) rfl rfl κ) ?_
  obtain ⟨T1, X1, e1, st1⟩ := initO X0 hx hZ hown (own_w hw 16 rfl) (own_w hw 17 rfl) (own_w hw 18 rfl) e0 (g := (mkF m 1 #[.val (.ref a), .val (.ref ca), .val (.int (0 : Int32)), .val (.int (3 : Int32)), .val .null, .unset] [(.ref a)])) rfl (by rw [hml]; rfl) rfl (hb hby q2_1) (by decide) (W := 0) own_2z (by decide)
  refine oS st1 ?_
  show oG _ _ _ _ (T1.setTop (mkF m 4 #[.val (.ref a), .val (.ref ca), .val (.int (0 : Int32)), .val (.int (3 : Int32)), .val .null, .unset] []))
  refine oS (fun _ κ => XS.iloadN X1.here hx rfl (hb hby q2_4) rfl κ) ?_
  refine oS (fun _ κ => XS.ifYes X1.here hx rfl (pc0 := 5) (pc' := 27) rfl (hb hby q2_5) rfl ((if0 _ _).trans (feq (by decide)).2) (by decide) (by decide) κ) ?_
  show oG _ _ _ _ (T1.setTop (mkF m 27 #[.val (.ref a), .val (.ref ca), .val (.int (0 : Int32)), .val (.int (3 : Int32)), .val .null, .unset] []))
  obtain ⟨T2, X2, e2, st2⟩ := getS2 X1 hx hZ hown (host := "") (Or.inl (own_w hw 41 rfl)) Via.refl e1 (P6.ext P5.2) (g := (mkF m 27 #[.val (.ref a), .val (.ref ca), .val (.int (0 : Int32)), .val (.int (3 : Int32)), .val .null, .unset] [])) rfl (hb hby q2_27)
  refine oS st2 ?_
  show oG _ _ _ _ (T2.setTop (mkF m 30 #[.val (.ref a), .val (.ref ca), .val (.int (0 : Int32)), .val (.int (3 : Int32)), .val .null, .unset] [(.int cs)]))
  refine oS (fun _ κ => XS.ifNo X2.here hx rfl (hb hby q2_30) rfl ((if0 _ _).trans (feq P7).1) κ) ?_
  show oG _ _ _ _ (T2.setTop (mkF m 33 #[.val (.ref a), .val (.ref ca), .val (.int (0 : Int32)), .val (.int (3 : Int32)), .val .null, .unset] []))
  refine oS (fun _ κ => XS.aloadN X2.here hx rfl (hb hby q2_33) rfl rfl κ) ?_
  refine oS (fun _ κ => XS.iloadN X2.here hx rfl (hb hby q2_34) rfl κ) ?_
  refine oS (fun _ κ => XS.iloadN X2.here hx rfl (hb hby q2_35) rfl κ) ?_
  obtain ⟨vr3, _, ⟨T3, L3, k3, n3⟩, -, X3, ⟨Lc3, hQ3, l3, y3, z3⟩, st3⟩ := Jvm.LawKit.callS X2 hx (y := own_y14) hown (mvT hZ (own_w hw 42 rfl)) (mvT hZ (own_w hw 43 rfl)) (mvT hZ (own_w hw 44 rfl)) (mvT hZ (own_w hw 45 rfl)) (by decide) (backOf (W := 0) (rm35 l Z a0 hw [] ca ka c0 c1 c2 h0 n0 Z0 P4 P5 P8 P9 P10 P11 P12 P13) hZ (own_w hw 45 rfl) (own_w hw 44 rfl) (by decide) (by decide)) (g := (mkF m 36 #[.val (.ref a), .val (.ref ca), .val (.int (0 : Int32)), .val (.int (3 : Int32)), .val .null, .unset] [(.int (3 : Int32)), (.int (0 : Int32)), (.ref ca)])) rfl (by rw [hml]; rfl) (argsL := [(.ref ca), (.int (0 : Int32)), (.int (3 : Int32))]) (rest := []) (lenOf pd_11 rfl) rfl own_2z (hb hby q2_36) (fun _ _ => ⟨rfl, e2, (by decide : 0 + 2 ≤ _), (by decide : 0 + 9 ≤ _)⟩)
  dsimp only [Pt.U, Pt.locs, Pt.cells, Pt.slots] at X3 l3 y3 z3 st3 hQ3
  subst l3 y3 z3
  obtain ⟨r4, rfl, Nq3, Kq3, p3_0, pa3⟩ := hQ3
  have N3 := Fr.app N0 Nq3
  have ne5 : a ≠ r4 := Nat.ne_of_lt (Nat.lt_of_lt_of_le P0.lt p3_0)
  have ne6 : ca ≠ r4 := Nat.ne_of_lt (Nat.lt_of_lt_of_le P4.lt p3_0)
  have ge7 : n0 ≤ r4 := Nat.le_trans Z0 p3_0
  have sz8 : h0.size ≤ r4 := Nat.le_trans (Keep.refl h0 [a]).1 p3_0
  have f9 := P0.keep Kq3
  have f10 := P1.keep Kq3 nin0
  have f11 := P2.keep Kq3 nin0
  have f12 := P4.keep Kq3 nin0
  have f13 := P5.keep Kq3 all0
  have K14 : Keep h0 T3.heap [a] := (Keep.refl h0 [a]).trans Kq3 all0
  have z15 : n0 ≤ T3.heap.size := Nat.le_trans Z0 Kq3.1
  rcases pa3 with ⟨pa3_0_0, pa3_0_1, pa3_0_2, pa3_0_3⟩ | pa3_1_0
  · refine oS st3 ?_
    show oG _ _ _ _ (T3.setTop (mkF m 39 #[.val (.ref a), .val (.ref ca), .val (.int (0 : Int32)), .val (.int (3 : Int32)), .val .null, .unset] [(.ref r4)]))
    refine oS (fun _ κ => XS.astore X3.here hx rfl (hb hby q2_39) rfl rfl (l' := #[.val (.ref a), .val (.ref ca), .val (.int (0 : Int32)), .val (.int (3 : Int32)), .val .null, .val (.ref r4)]) rfl κ) ?_
    refine oS (fun _ κ => XS.aloadN X3.here hx rfl (hb hby q2_41) rfl rfl κ) ?_
    refine oS (fun _ κ => XS.aload X3.here hx rfl (hb hby q2_42) rfl rfl κ) ?_
    refine oS (fun _ κ => XS.iloadN X3.here hx rfl (hb hby q2_44) rfl κ) ?_
    obtain ⟨vr16, _, ⟨T16, L16, k16, n16⟩, -, X16, ⟨Lc16, hQ16, l16, y16, z16⟩, st16⟩ := Jvm.LawKit.callS X3 hx (y := own_y13) hown (mvT hZ (own_w hw 49 rfl)) (mvT hZ (own_w hw 50 rfl)) (mvT hZ (own_w hw 44 rfl)) (mvT hZ (own_w hw 51 rfl)) (by decide) (backOf (W := 1) (rm41 l Z a0 hw [] r4 (own_upd (own_upd (own_upd own_zero (0 : Int32).toNatClampNeg (own_lb c0)) (1 : Int32).toNatClampNeg (own_lb c1)) (2 : Int32).toNatClampNeg (own_lb c2)) T3.heap n0 z15 pa3_0_0) hZ (own_w hw 51 rfl) (own_w hw 44 rfl) (by decide) (by decide)) (g := (mkF m 45 #[.val (.ref a), .val (.ref ca), .val (.int (0 : Int32)), .val (.int (3 : Int32)), .val .null, .val (.ref r4)] [(.int (3 : Int32)), (.ref r4), (.ref a)])) rfl (by rw [hml]; rfl) (argsL := [(.ref r4), (.int (3 : Int32))]) (rest := [(.ref a)]) (lenOf pd_12 rfl) rfl own_2z (hb hby q2_45) (fun _ _ => ⟨rfl, rfl, (by decide : 2 + 0 ≤ _), (by decide : 9 + 0 ≤ _)⟩)
    dsimp only [Pt.U, Pt.locs, Pt.cells, Pt.slots] at X16 l16 y16 z16 st16 hQ16
    subst l16 y16 z16
    obtain ⟨rfl, Nq16, eq16⟩ := hQ16
    have N16 := Fr.app N3 Nq16
    refine oS st16 ?_
    show oG _ _ _ _ (T16.setTop (mkF m 48 #[.val (.ref a), .val (.ref ca), .val (.int (0 : Int32)), .val (.int (3 : Int32)), .val .null, .val (.ref r4)] [(.int (0 : Int32)), (.ref a)]))
    obtain ⟨T17, h17, X17, e17, W17, st17⟩ := putFN X16 hx hZ hown (own_w hw 26 rfl) Via.refl eq16 f11 f9 (Or.inr ⟨(own_w hw 22 rfl), rfl, hnm⟩) (own_w hw 6 rfl) (ty := .byte) (v := (.int (0 : Int32))) (v' := (.int (0 : Int32))) (by decide) rfl (by decide) (g := (mkF m 48 #[.val (.ref a), .val (.ref ca), .val (.int (0 : Int32)), .val (.int (3 : Int32)), .val .null, .val (.ref r4)] [(.int (0 : Int32)), (.ref a)])) rfl rfl (hb hby q2_48)
    refine oS st17 ?_
    have N17 := Fr.snoc X17 N16 P3
    have Fw17 := f11.same W17
    have f18 := f9.wr W17
    have f19 := f10.other W17 (Or.inr (slot_ne (Or.inr (own_w hw 21 rfl)) (Or.inr (own_w hw 22 rfl)) (by decide) (t := (.array .byte)) (t' := .byte) (by decide) (by decide)))
    have f20 := f12.other W17 P14
    have f21 := f13.wr W17 P3
    have f22 := pa3_0_0.other W17 (Ne.symm ne5)
    have K23 : Keep h0 h17 [a] := K14.wr W17 (Or.inl (List.mem_of_getElem? (i := 0) rfl))
    have z24 : n0 ≤ h17.size := Nat.le_trans z15 (Keep.of_wr W17).1
    show oG _ _ _ _ (T17.setTop (mkF m 51 #[.val (.ref a), .val (.ref ca), .val (.int (0 : Int32)), .val (.int (3 : Int32)), .val .null, .val (.ref r4)] []))
    refine oS (fun _ κ => XS.aloadN X17.here hx rfl (hb hby q2_51) rfl rfl κ) ?_
    refine oS (fun _ κ => XS.aload X17.here hx rfl (hb hby q2_52) rfl rfl κ) ?_
    obtain ⟨T25, h25, X25, e25, W25, st25⟩ := putF X17 hx hZ hown (host := "") (Or.inl (own_w hw 25 rfl)) Via.refl e17 f19 f18 (Or.inr ⟨(own_w hw 21 rfl), rfl, hnm⟩) (own_w hw 6 rfl) (ty := (.array .byte)) (by decide) rfl rfl (g := (mkF m 54 #[.val (.ref a), .val (.ref ca), .val (.int (0 : Int32)), .val (.int (3 : Int32)), .val .null, .val (.ref r4)] [(.ref r4), (.ref a)])) rfl rfl (hb hby q2_54)
    refine oS st25 ?_
    have N25 := Fr.snoc X25 N17 P3
    have Fw25 := f19.same W25
    have f26 := f18.wr W25
    have f27 := f20.other W25 P14
    have f28 := f21.wr W25 P3
    have f29 := f22.other W25 (Ne.symm ne5)
    have f30 := Fw17.other W25 (Or.inr (slot_ne (Or.inr (own_w hw 22 rfl)) (Or.inr (own_w hw 21 rfl)) (by decide) (t := .byte) (t' := (.array .byte)) (by decide) (by decide)))
    have K31 : Keep h0 h25 [a] := K23.wr W25 (Or.inl (List.mem_of_getElem? (i := 0) rfl))
    have z32 : n0 ≤ h25.size := Nat.le_trans z24 (Keep.of_wr W25).1
    show oG _ _ _ _ (T25.setTop (mkF m 57 #[.val (.ref a), .val (.ref ca), .val (.int (0 : Int32)), .val (.int (3 : Int32)), .val .null, .val (.ref r4)] []))
    obtain ⟨fs, hr, hrun, hended, hW, hsame⟩ := X25.leave (v := none) (fun _ => rfl)
    refine ⟨_, _, X25.returnOut hx Bd.returns (hb hby q2_57) hr, hrun, hended, _, _, rfl, ?_, ⟨_, rfl⟩, hW, hsame.mono (by decide) (by decide)⟩
    show Q47 Z a ca ka c0 c1 c2 cs h0 n0 _ T25.heap _
    rw [e25]
    exact ⟨rfl, N25, K31, Or.inl ⟨_, _, f26, Fw25, f30, f29, own_latP3 c0 c1 c2 P11 P12 P13 pa3_0_1 pa3_0_2 pa3_0_3⟩⟩
  · refine oS st3 ?_
    show oG _ _ _ _ (T3.setTop (mkF m 39 #[.val (.ref a), .val (.ref ca), .val (.int (0 : Int32)), .val (.int (3 : Int32)), .val .null, .unset] [(.ref r4)]))
    refine oS (fun _ κ => XS.astore X3.here hx rfl (hb hby q2_39) rfl rfl (l' := #[.val (.ref a), .val (.ref ca), .val (.int (0 : Int32)), .val (.int (3 : Int32)), .val .null, .val (.ref r4)]) rfl κ) ?_
    refine oS (fun _ κ => XS.aloadN X3.here hx rfl (hb hby q2_41) rfl rfl κ) ?_
    refine oS (fun _ κ => XS.aload X3.here hx rfl (hb hby q2_42) rfl rfl κ) ?_
    refine oS (fun _ κ => XS.iloadN X3.here hx rfl (hb hby q2_44) rfl κ) ?_
    obtain ⟨vr33, _, ⟨T33, L33, k33, n33⟩, -, X33, ⟨Lc33, hQ33, l33, y33, z33⟩, st33⟩ := Jvm.LawKit.callS X3 hx (y := own_y13) hown (mvT hZ (own_w hw 49 rfl)) (mvT hZ (own_w hw 50 rfl)) (mvT hZ (own_w hw 44 rfl)) (mvT hZ (own_w hw 51 rfl)) (by decide) (backOf (W := 1) (rm42 l Z a0 hw [] r4 (own_upd (own_upd (own_upd (own_upd (own_upd (own_upd own_zero 0 (own_bl c0)) (0 + 1) (own_bh c0)) 2 (own_bl c1)) (2 + 1) (own_bh c1)) 4 (own_bl c2)) (4 + 1) (own_bh c2)) T3.heap n0 z15 pa3_1_0) hZ (own_w hw 51 rfl) (own_w hw 44 rfl) (by decide) (by decide)) (g := (mkF m 45 #[.val (.ref a), .val (.ref ca), .val (.int (0 : Int32)), .val (.int (3 : Int32)), .val .null, .val (.ref r4)] [(.int (3 : Int32)), (.ref r4), (.ref a)])) rfl (by rw [hml]; rfl) (argsL := [(.ref r4), (.int (3 : Int32))]) (rest := [(.ref a)]) (lenOf pd_12 rfl) rfl own_2z (hb hby q2_45) (fun _ _ => ⟨rfl, rfl, (by decide : 2 + 0 ≤ _), (by decide : 9 + 0 ≤ _)⟩)
    dsimp only [Pt.U, Pt.locs, Pt.cells, Pt.slots] at X33 l33 y33 z33 st33 hQ33
    subst l33 y33 z33
    obtain ⟨rfl, Nq33, eq33⟩ := hQ33
    have N33 := Fr.app N3 Nq33
    refine oS st33 ?_
    show oG _ _ _ _ (T33.setTop (mkF m 48 #[.val (.ref a), .val (.ref ca), .val (.int (0 : Int32)), .val (.int (3 : Int32)), .val .null, .val (.ref r4)] [(.int (1 : Int32)), (.ref a)]))
    obtain ⟨T34, h34, X34, e34, W34, st34⟩ := putFN X33 hx hZ hown (own_w hw 26 rfl) Via.refl eq33 f11 f9 (Or.inr ⟨(own_w hw 22 rfl), rfl, hnm⟩) (own_w hw 6 rfl) (ty := .byte) (v := (.int (1 : Int32))) (v' := (.int (1 : Int32))) (by decide) rfl (by decide) (g := (mkF m 48 #[.val (.ref a), .val (.ref ca), .val (.int (0 : Int32)), .val (.int (3 : Int32)), .val .null, .val (.ref r4)] [(.int (1 : Int32)), (.ref a)])) rfl rfl (hb hby q2_48)
    refine oS st34 ?_
    have N34 := Fr.snoc X34 N33 P3
    have Fw34 := f11.same W34
    have f35 := f9.wr W34
    have f36 := f10.other W34 (Or.inr (slot_ne (Or.inr (own_w hw 21 rfl)) (Or.inr (own_w hw 22 rfl)) (by decide) (t := (.array .byte)) (t' := .byte) (by decide) (by decide)))
    have f37 := f12.other W34 P14
    have f38 := f13.wr W34 P3
    have f39 := pa3_1_0.other W34 (Ne.symm ne5)
    have K40 : Keep h0 h34 [a] := K14.wr W34 (Or.inl (List.mem_of_getElem? (i := 0) rfl))
    have z41 : n0 ≤ h34.size := Nat.le_trans z15 (Keep.of_wr W34).1
    show oG _ _ _ _ (T34.setTop (mkF m 51 #[.val (.ref a), .val (.ref ca), .val (.int (0 : Int32)), .val (.int (3 : Int32)), .val .null, .val (.ref r4)] []))
    refine oS (fun _ κ => XS.aloadN X34.here hx rfl (hb hby q2_51) rfl rfl κ) ?_
    refine oS (fun _ κ => XS.aload X34.here hx rfl (hb hby q2_52) rfl rfl κ) ?_
    obtain ⟨T42, h42, X42, e42, W42, st42⟩ := putF X34 hx hZ hown (host := "") (Or.inl (own_w hw 25 rfl)) Via.refl e34 f36 f35 (Or.inr ⟨(own_w hw 21 rfl), rfl, hnm⟩) (own_w hw 6 rfl) (ty := (.array .byte)) (by decide) rfl rfl (g := (mkF m 54 #[.val (.ref a), .val (.ref ca), .val (.int (0 : Int32)), .val (.int (3 : Int32)), .val .null, .val (.ref r4)] [(.ref r4), (.ref a)])) rfl rfl (hb hby q2_54)
    refine oS st42 ?_
    have N42 := Fr.snoc X42 N34 P3
    have Fw42 := f36.same W42
    have f43 := f35.wr W42
    have f44 := f37.other W42 P14
    have f45 := f38.wr W42 P3
    have f46 := f39.other W42 (Ne.symm ne5)
    have f47 := Fw34.other W42 (Or.inr (slot_ne (Or.inr (own_w hw 22 rfl)) (Or.inr (own_w hw 21 rfl)) (by decide) (t := .byte) (t' := (.array .byte)) (by decide) (by decide)))
    have K48 : Keep h0 h42 [a] := K40.wr W42 (Or.inl (List.mem_of_getElem? (i := 0) rfl))
    have z49 : n0 ≤ h42.size := Nat.le_trans z41 (Keep.of_wr W42).1
    show oG _ _ _ _ (T42.setTop (mkF m 57 #[.val (.ref a), .val (.ref ca), .val (.int (0 : Int32)), .val (.int (3 : Int32)), .val .null, .val (.ref r4)] []))
    obtain ⟨fs, hr, hrun, hended, hW, hsame⟩ := X42.leave (v := none) (fun _ => rfl)
    refine ⟨_, _, X42.returnOut hx Bd.returns (hb hby q2_57) hr, hrun, hended, _, _, rfl, ?_, ⟨_, rfl⟩, hW, hsame.mono (by decide) (by decide)⟩
    show Q47 Z a ca ka c0 c1 c2 cs h0 n0 _ T42.heap _
    rw [e42]
    exact ⟨rfl, N42, K48, Or.inr ⟨_, _, _, f43, Fw42, f47, f46, by decide, own_utfP3 c0 c1 c2 P11 P12 P13⟩⟩
theorem ef_48 (m : MethodId) (a : Addr) (ca : Addr) : entryFrame m #[(.ref a), (.ref ca), (.int (0 : Int32)), (.int (4 : Int32)), .null] 6 = mkF m 0 #[.val (.ref a), .val (.ref ca), .val (.int (0 : Int32)), .val (.int (4 : Int32)), .val .null, .unset] [] := by first | (simp [entryFrame, mkF, argsToLocals, Value.category]; done) | rfl
def Q48 (Z : State) (a : Addr) (ca : Addr) (ka : ClassId) (c0 : Int32) (c1 : Int32) (c2 : Int32) (c3 : Int32) (cs : Int32) (h0 : Heap) (n0 : Nat) (v : Option Value) (h : Heap) (L : List Loc) : Prop := v = none ∧ Fr n0 L ∧ Keep h0 h [a] ∧ (own_S Z h a (4 : Int32) (own_gl [c0, c1, c2, c3]))
set_option maxRecDepth 65536 in
set_option maxHeartbeats 40000000 in
theorem rm48 (l : Launch) (Z : State) (a0 : Array Value) (hw : ∀ d ∈ tables_1, d.before a0 Z = true) (ws : List Jvm.Cond) (a : Addr) (ca : Addr) (ka : ClassId) (c0 : Int32) (c1 : Int32) (c2 : Int32) (c3 : Int32) (cs : Int32) (h0 : Heap) (n0 : Nat) (Z0 : n0 ≤ h0.size) (P0 : Exa Z h0 a "java/lang/String") (P1 : Fld Z h0 a "java/lang/String" "value" "[B" .null) (P2 : Fld Z h0 a "java/lang/String" "coder" "B" (.int (0 : Int32))) (P3 : n0 ≤ a) (P4 : Arv Z h0 ca ka .char (4 : Int32) [(.int c0), (.int c1), (.int c2), (.int c3)] (.int (0 : Int32))) (P5 : Old Z n0 h0) (P6 : Sta Z Z.heap "java/lang/String" "COMPACT_STRINGS" "Z" (.int cs)) (P7 : ¬ cs = (0 : Int32)) (P8 : Sta Z Z.heap "java/lang/StringUTF16" "$assertionsDisabled" "Z" (.int (1 : Int32))) (P9 : Sta Z Z.heap "java/lang/StringUTF16" "HI_BYTE_SHIFT" "I" (.int (0 : Int32))) (P10 : Sta Z Z.heap "java/lang/StringUTF16" "LO_BYTE_SHIFT" "I" (.int (8 : Int32))) (P11 : own_R c0) (P12 : own_R c1) (P13 : own_R c2) (P14 : own_R c3) (P15 : ca ≠ a) :
    MetFree l own_y4 (head1 (Jvm.Cond.code own_y4 jdk_42_method_149_code 6 none :: ws) own_r21) (fun ar_ U => ar_ = #[(.ref a), (.ref ca), (.int (0 : Int32)), (.int (4 : Int32)), .null] ∧ Z.Warmed39 U.vm ∧ U.heap = h0) (fun _ _ _ _ _ => True) (fun _ U oo_ U' => ∃ v L, oo_ = .returned v ∧ Q48 Z a ca ka c0 c1 c2 c3 cs h0 n0 v U'.heap L ∧ FrameEnd U oo_ U' L own_r21.cells own_r21.slots) := by
  refine MetFree.of_bodySF (plainFor_of_name pn_2) hisR ?_
  intro p e s m args below meth c s₁ Bd hml0 hP hK
  obtain ⟨rfl, hZ, hh⟩ := hP
  have hx := Bd.exec
  have hby := Bd.bytes
  have hml : c.maxLocals = 6 := hml0
  have hown : s.vm.findClass "java/lang/String" = some m.cls := findClass_of_methodNamed Bd.named
  have hnm := (name_of_methodNamed Bd.named Bd.method).1
  have X0 : Stand p l e own_r21 s m #[(.ref a), (.ref ca), (.int (0 : Int32)), (.int (4 : Int32)), .null] below meth c s₁ [] 0 0 := Stand.of_body Bd
  have e0 : s₁.heap = h0 := by rw [← hh, Bd.state]; rfl
  have N0 := Fr.nil n0
  refine own_in (castTop (ef_48 m a ca)) ?_
  show oG _ _ _ _ (s₁.setTop (mkF m 0 #[.val (.ref a), .val (.ref ca), .val (.int (0 : Int32)), .val (.int (4 : Int32)), .val .null, .unset] []))
  refine oS (fun _ κ => XS.aloadN X0.here hx rfl (hb hby q2_0) rfl rfl κ) ?_
  obtain ⟨T1, X1, e1, st1⟩ := initO X0 hx hZ hown (own_w hw 16 rfl) (own_w hw 17 rfl) (own_w hw 18 rfl) e0 (g := (mkF m 1 #[.val (.ref a), .val (.ref ca), .val (.int (0 : Int32)), .val (.int (4 : Int32)), .val .null, .unset] [(.ref a)])) rfl (by rw [hml]; rfl) rfl (hb hby q2_1) (by decide) (W := 0) own_2z (by decide)
  refine oS st1 ?_
  show oG _ _ _ _ (T1.setTop (mkF m 4 #[.val (.ref a), .val (.ref ca), .val (.int (0 : Int32)), .val (.int (4 : Int32)), .val .null, .unset] []))
  refine oS (fun _ κ => XS.iloadN X1.here hx rfl (hb hby q2_4) rfl κ) ?_
  refine oS (fun _ κ => XS.ifYes X1.here hx rfl (pc0 := 5) (pc' := 27) rfl (hb hby q2_5) rfl ((if0 _ _).trans (feq (by decide)).2) (by decide) (by decide) κ) ?_
  show oG _ _ _ _ (T1.setTop (mkF m 27 #[.val (.ref a), .val (.ref ca), .val (.int (0 : Int32)), .val (.int (4 : Int32)), .val .null, .unset] []))
  obtain ⟨T2, X2, e2, st2⟩ := getS2 X1 hx hZ hown (host := "") (Or.inl (own_w hw 41 rfl)) Via.refl e1 (P6.ext P5.2) (g := (mkF m 27 #[.val (.ref a), .val (.ref ca), .val (.int (0 : Int32)), .val (.int (4 : Int32)), .val .null, .unset] [])) rfl (hb hby q2_27)
  refine oS st2 ?_
  show oG _ _ _ _ (T2.setTop (mkF m 30 #[.val (.ref a), .val (.ref ca), .val (.int (0 : Int32)), .val (.int (4 : Int32)), .val .null, .unset] [(.int cs)]))
  refine oS (fun _ κ => XS.ifNo X2.here hx rfl (hb hby q2_30) rfl ((if0 _ _).trans (feq P7).1) κ) ?_
  show oG _ _ _ _ (T2.setTop (mkF m 33 #[.val (.ref a), .val (.ref ca), .val (.int (0 : Int32)), .val (.int (4 : Int32)), .val .null, .unset] []))
  refine oS (fun _ κ => XS.aloadN X2.here hx rfl (hb hby q2_33) rfl rfl κ) ?_
  refine oS (fun _ κ => XS.iloadN X2.here hx rfl (hb hby q2_34) rfl κ) ?_
  refine oS (fun _ κ => XS.iloadN X2.here hx rfl (hb hby q2_35) rfl κ) ?_
  obtain ⟨vr3, _, ⟨T3, L3, k3, n3⟩, -, X3, ⟨Lc3, hQ3, l3, y3, z3⟩, st3⟩ := Jvm.LawKit.callS X2 hx (y := own_y14) hown (mvT hZ (own_w hw 42 rfl)) (mvT hZ (own_w hw 43 rfl)) (mvT hZ (own_w hw 44 rfl)) (mvT hZ (own_w hw 45 rfl)) (by decide) (backOf (W := 0) (rm36 l Z a0 hw [] ca ka c0 c1 c2 c3 h0 n0 Z0 P4 P5 P8 P9 P10 P11 P12 P13 P14) hZ (own_w hw 45 rfl) (own_w hw 44 rfl) (by decide) (by decide)) (g := (mkF m 36 #[.val (.ref a), .val (.ref ca), .val (.int (0 : Int32)), .val (.int (4 : Int32)), .val .null, .unset] [(.int (4 : Int32)), (.int (0 : Int32)), (.ref ca)])) rfl (by rw [hml]; rfl) (argsL := [(.ref ca), (.int (0 : Int32)), (.int (4 : Int32))]) (rest := []) (lenOf pd_11 rfl) rfl own_2z (hb hby q2_36) (fun _ _ => ⟨rfl, e2, (by decide : 0 + 2 ≤ _), (by decide : 0 + 12 ≤ _)⟩)
  dsimp only [Pt.U, Pt.locs, Pt.cells, Pt.slots] at X3 l3 y3 z3 st3 hQ3
  subst l3 y3 z3
  obtain ⟨r4, rfl, Nq3, Kq3, p3_0, pa3⟩ := hQ3
  have N3 := Fr.app N0 Nq3
  have ne5 : a ≠ r4 := Nat.ne_of_lt (Nat.lt_of_lt_of_le P0.lt p3_0)
  have ne6 : ca ≠ r4 := Nat.ne_of_lt (Nat.lt_of_lt_of_le P4.lt p3_0)
  have ge7 : n0 ≤ r4 := Nat.le_trans Z0 p3_0
  have sz8 : h0.size ≤ r4 := Nat.le_trans (Keep.refl h0 [a]).1 p3_0
  have f9 := P0.keep Kq3
  have f10 := P1.keep Kq3 nin0
  have f11 := P2.keep Kq3 nin0
  have f12 := P4.keep Kq3 nin0
  have f13 := P5.keep Kq3 all0
  have K14 : Keep h0 T3.heap [a] := (Keep.refl h0 [a]).trans Kq3 all0
  have z15 : n0 ≤ T3.heap.size := Nat.le_trans Z0 Kq3.1
  rcases pa3 with ⟨pa3_0_0, pa3_0_1, pa3_0_2, pa3_0_3, pa3_0_4⟩ | pa3_1_0
  · refine oS st3 ?_
    show oG _ _ _ _ (T3.setTop (mkF m 39 #[.val (.ref a), .val (.ref ca), .val (.int (0 : Int32)), .val (.int (4 : Int32)), .val .null, .unset] [(.ref r4)]))
    refine oS (fun _ κ => XS.astore X3.here hx rfl (hb hby q2_39) rfl rfl (l' := #[.val (.ref a), .val (.ref ca), .val (.int (0 : Int32)), .val (.int (4 : Int32)), .val .null, .val (.ref r4)]) rfl κ) ?_
    refine oS (fun _ κ => XS.aloadN X3.here hx rfl (hb hby q2_41) rfl rfl κ) ?_
    refine oS (fun _ κ => XS.aload X3.here hx rfl (hb hby q2_42) rfl rfl κ) ?_
    refine oS (fun _ κ => XS.iloadN X3.here hx rfl (hb hby q2_44) rfl κ) ?_
    obtain ⟨vr16, _, ⟨T16, L16, k16, n16⟩, -, X16, ⟨Lc16, hQ16, l16, y16, z16⟩, st16⟩ := Jvm.LawKit.callS X3 hx (y := own_y13) hown (mvT hZ (own_w hw 49 rfl)) (mvT hZ (own_w hw 50 rfl)) (mvT hZ (own_w hw 44 rfl)) (mvT hZ (own_w hw 51 rfl)) (by decide) (backOf (W := 1) (rm43 l Z a0 hw [] r4 (own_upd (own_upd (own_upd (own_upd own_zero (0 : Int32).toNatClampNeg (own_lb c0)) (1 : Int32).toNatClampNeg (own_lb c1)) (2 : Int32).toNatClampNeg (own_lb c2)) (3 : Int32).toNatClampNeg (own_lb c3)) T3.heap n0 z15 pa3_0_0) hZ (own_w hw 51 rfl) (own_w hw 44 rfl) (by decide) (by decide)) (g := (mkF m 45 #[.val (.ref a), .val (.ref ca), .val (.int (0 : Int32)), .val (.int (4 : Int32)), .val .null, .val (.ref r4)] [(.int (4 : Int32)), (.ref r4), (.ref a)])) rfl (by rw [hml]; rfl) (argsL := [(.ref r4), (.int (4 : Int32))]) (rest := [(.ref a)]) (lenOf pd_12 rfl) rfl own_2z (hb hby q2_45) (fun _ _ => ⟨rfl, rfl, (by decide : 2 + 0 ≤ _), (by decide : 12 + 0 ≤ _)⟩)
    dsimp only [Pt.U, Pt.locs, Pt.cells, Pt.slots] at X16 l16 y16 z16 st16 hQ16
    subst l16 y16 z16
    obtain ⟨rfl, Nq16, eq16⟩ := hQ16
    have N16 := Fr.app N3 Nq16
    refine oS st16 ?_
    show oG _ _ _ _ (T16.setTop (mkF m 48 #[.val (.ref a), .val (.ref ca), .val (.int (0 : Int32)), .val (.int (4 : Int32)), .val .null, .val (.ref r4)] [(.int (0 : Int32)), (.ref a)]))
    obtain ⟨T17, h17, X17, e17, W17, st17⟩ := putFN X16 hx hZ hown (own_w hw 26 rfl) Via.refl eq16 f11 f9 (Or.inr ⟨(own_w hw 22 rfl), rfl, hnm⟩) (own_w hw 6 rfl) (ty := .byte) (v := (.int (0 : Int32))) (v' := (.int (0 : Int32))) (by decide) rfl (by decide) (g := (mkF m 48 #[.val (.ref a), .val (.ref ca), .val (.int (0 : Int32)), .val (.int (4 : Int32)), .val .null, .val (.ref r4)] [(.int (0 : Int32)), (.ref a)])) rfl rfl (hb hby q2_48)
    refine oS st17 ?_
    have N17 := Fr.snoc X17 N16 P3
    have Fw17 := f11.same W17
    have f18 := f9.wr W17
    have f19 := f10.other W17 (Or.inr (slot_ne (Or.inr (own_w hw 21 rfl)) (Or.inr (own_w hw 22 rfl)) (by decide) (t := (.array .byte)) (t' := .byte) (by decide) (by decide)))
    have f20 := f12.other W17 P15
    have f21 := f13.wr W17 P3
    have f22 := pa3_0_0.other W17 (Ne.symm ne5)
    have K23 : Keep h0 h17 [a] := K14.wr W17 (Or.inl (List.mem_of_getElem? (i := 0) rfl))
    have z24 : n0 ≤ h17.size := Nat.le_trans z15 (Keep.of_wr W17).1
    show oG _ _ _ _ (T17.setTop (mkF m 51 #[.val (.ref a), .val (.ref ca), .val (.int (0 : Int32)), .val (.int (4 : Int32)), .val .null, .val (.ref r4)] []))
    refine oS (fun _ κ => XS.aloadN X17.here hx rfl (hb hby q2_51) rfl rfl κ) ?_
    refine oS (fun _ κ => XS.aload X17.here hx rfl (hb hby q2_52) rfl rfl κ) ?_
    obtain ⟨T25, h25, X25, e25, W25, st25⟩ := putF X17 hx hZ hown (host := "") (Or.inl (own_w hw 25 rfl)) Via.refl e17 f19 f18 (Or.inr ⟨(own_w hw 21 rfl), rfl, hnm⟩) (own_w hw 6 rfl) (ty := (.array .byte)) (by decide) rfl rfl (g := (mkF m 54 #[.val (.ref a), .val (.ref ca), .val (.int (0 : Int32)), .val (.int (4 : Int32)), .val .null, .val (.ref r4)] [(.ref r4), (.ref a)])) rfl rfl (hb hby q2_54)
    refine oS st25 ?_
    have N25 := Fr.snoc X25 N17 P3
    have Fw25 := f19.same W25
    have f26 := f18.wr W25
    have f27 := f20.other W25 P15
    have f28 := f21.wr W25 P3
    have f29 := f22.other W25 (Ne.symm ne5)
    have f30 := Fw17.other W25 (Or.inr (slot_ne (Or.inr (own_w hw 22 rfl)) (Or.inr (own_w hw 21 rfl)) (by decide) (t := .byte) (t' := (.array .byte)) (by decide) (by decide)))
    have K31 : Keep h0 h25 [a] := K23.wr W25 (Or.inl (List.mem_of_getElem? (i := 0) rfl))
    have z32 : n0 ≤ h25.size := Nat.le_trans z24 (Keep.of_wr W25).1
    show oG _ _ _ _ (T25.setTop (mkF m 57 #[.val (.ref a), .val (.ref ca), .val (.int (0 : Int32)), .val (.int (4 : Int32)), .val .null, .val (.ref r4)] []))
    obtain ⟨fs, hr, hrun, hended, hW, hsame⟩ := X25.leave (v := none) (fun _ => rfl)
    refine ⟨_, _, X25.returnOut hx Bd.returns (hb hby q2_57) hr, hrun, hended, _, _, rfl, ?_, ⟨_, rfl⟩, hW, hsame.mono (by decide) (by decide)⟩
    show Q48 Z a ca ka c0 c1 c2 c3 cs h0 n0 _ T25.heap _
    rw [e25]
    exact ⟨rfl, N25, K31, Or.inl ⟨_, _, f26, Fw25, f30, f29, own_latP4 c0 c1 c2 c3 P11 P12 P13 P14 pa3_0_1 pa3_0_2 pa3_0_3 pa3_0_4⟩⟩
  · refine oS st3 ?_
    show oG _ _ _ _ (T3.setTop (mkF m 39 #[.val (.ref a), .val (.ref ca), .val (.int (0 : Int32)), .val (.int (4 : Int32)), .val .null, .unset] [(.ref r4)]))
    refine oS (fun _ κ => XS.astore X3.here hx rfl (hb hby q2_39) rfl rfl (l' := #[.val (.ref a), .val (.ref ca), .val (.int (0 : Int32)), .val (.int (4 : Int32)), .val .null, .val (.ref r4)]) rfl κ) ?_
    refine oS (fun _ κ => XS.aloadN X3.here hx rfl (hb hby q2_41) rfl rfl κ) ?_
    refine oS (fun _ κ => XS.aload X3.here hx rfl (hb hby q2_42) rfl rfl κ) ?_
    refine oS (fun _ κ => XS.iloadN X3.here hx rfl (hb hby q2_44) rfl κ) ?_
    obtain ⟨vr33, _, ⟨T33, L33, k33, n33⟩, -, X33, ⟨Lc33, hQ33, l33, y33, z33⟩, st33⟩ := Jvm.LawKit.callS X3 hx (y := own_y13) hown (mvT hZ (own_w hw 49 rfl)) (mvT hZ (own_w hw 50 rfl)) (mvT hZ (own_w hw 44 rfl)) (mvT hZ (own_w hw 51 rfl)) (by decide) (backOf (W := 1) (rm44 l Z a0 hw [] r4 (own_upd (own_upd (own_upd (own_upd (own_upd (own_upd (own_upd (own_upd own_zero 0 (own_bl c0)) (0 + 1) (own_bh c0)) 2 (own_bl c1)) (2 + 1) (own_bh c1)) 4 (own_bl c2)) (4 + 1) (own_bh c2)) 6 (own_bl c3)) (6 + 1) (own_bh c3)) T3.heap n0 z15 pa3_1_0) hZ (own_w hw 51 rfl) (own_w hw 44 rfl) (by decide) (by decide)) (g := (mkF m 45 #[.val (.ref a), .val (.ref ca), .val (.int (0 : Int32)), .val (.int (4 : Int32)), .val .null, .val (.ref r4)] [(.int (4 : Int32)), (.ref r4), (.ref a)])) rfl (by rw [hml]; rfl) (argsL := [(.ref r4), (.int (4 : Int32))]) (rest := [(.ref a)]) (lenOf pd_12 rfl) rfl own_2z (hb hby q2_45) (fun _ _ => ⟨rfl, rfl, (by decide : 2 + 0 ≤ _), (by decide : 12 + 0 ≤ _)⟩)
    dsimp only [Pt.U, Pt.locs, Pt.cells, Pt.slots] at X33 l33 y33 z33 st33 hQ33
    subst l33 y33 z33
    obtain ⟨rfl, Nq33, eq33⟩ := hQ33
    have N33 := Fr.app N3 Nq33
    refine oS st33 ?_
    show oG _ _ _ _ (T33.setTop (mkF m 48 #[.val (.ref a), .val (.ref ca), .val (.int (0 : Int32)), .val (.int (4 : Int32)), .val .null, .val (.ref r4)] [(.int (1 : Int32)), (.ref a)]))
    obtain ⟨T34, h34, X34, e34, W34, st34⟩ := putFN X33 hx hZ hown (own_w hw 26 rfl) Via.refl eq33 f11 f9 (Or.inr ⟨(own_w hw 22 rfl), rfl, hnm⟩) (own_w hw 6 rfl) (ty := .byte) (v := (.int (1 : Int32))) (v' := (.int (1 : Int32))) (by decide) rfl (by decide) (g := (mkF m 48 #[.val (.ref a), .val (.ref ca), .val (.int (0 : Int32)), .val (.int (4 : Int32)), .val .null, .val (.ref r4)] [(.int (1 : Int32)), (.ref a)])) rfl rfl (hb hby q2_48)
    refine oS st34 ?_
    have N34 := Fr.snoc X34 N33 P3
    have Fw34 := f11.same W34
    have f35 := f9.wr W34
    have f36 := f10.other W34 (Or.inr (slot_ne (Or.inr (own_w hw 21 rfl)) (Or.inr (own_w hw 22 rfl)) (by decide) (t := (.array .byte)) (t' := .byte) (by decide) (by decide)))
    have f37 := f12.other W34 P15
    have f38 := f13.wr W34 P3
    have f39 := pa3_1_0.other W34 (Ne.symm ne5)
    have K40 : Keep h0 h34 [a] := K14.wr W34 (Or.inl (List.mem_of_getElem? (i := 0) rfl))
    have z41 : n0 ≤ h34.size := Nat.le_trans z15 (Keep.of_wr W34).1
    show oG _ _ _ _ (T34.setTop (mkF m 51 #[.val (.ref a), .val (.ref ca), .val (.int (0 : Int32)), .val (.int (4 : Int32)), .val .null, .val (.ref r4)] []))
    refine oS (fun _ κ => XS.aloadN X34.here hx rfl (hb hby q2_51) rfl rfl κ) ?_
    refine oS (fun _ κ => XS.aload X34.here hx rfl (hb hby q2_52) rfl rfl κ) ?_
    obtain ⟨T42, h42, X42, e42, W42, st42⟩ := putF X34 hx hZ hown (host := "") (Or.inl (own_w hw 25 rfl)) Via.refl e34 f36 f35 (Or.inr ⟨(own_w hw 21 rfl), rfl, hnm⟩) (own_w hw 6 rfl) (ty := (.array .byte)) (by decide) rfl rfl (g := (mkF m 54 #[.val (.ref a), .val (.ref ca), .val (.int (0 : Int32)), .val (.int (4 : Int32)), .val .null, .val (.ref r4)] [(.ref r4), (.ref a)])) rfl rfl (hb hby q2_54)
    refine oS st42 ?_
    have N42 := Fr.snoc X42 N34 P3
    have Fw42 := f36.same W42
    have f43 := f35.wr W42
    have f44 := f37.other W42 P15
    have f45 := f38.wr W42 P3
    have f46 := f39.other W42 (Ne.symm ne5)
    have f47 := Fw34.other W42 (Or.inr (slot_ne (Or.inr (own_w hw 22 rfl)) (Or.inr (own_w hw 21 rfl)) (by decide) (t := .byte) (t' := (.array .byte)) (by decide) (by decide)))
    have K48 : Keep h0 h42 [a] := K40.wr W42 (Or.inl (List.mem_of_getElem? (i := 0) rfl))
    have z49 : n0 ≤ h42.size := Nat.le_trans z41 (Keep.of_wr W42).1
    show oG _ _ _ _ (T42.setTop (mkF m 57 #[.val (.ref a), .val (.ref ca), .val (.int (0 : Int32)), .val (.int (4 : Int32)), .val .null, .val (.ref r4)] []))
    obtain ⟨fs, hr, hrun, hended, hW, hsame⟩ := X42.leave (v := none) (fun _ => rfl)
    refine ⟨_, _, X42.returnOut hx Bd.returns (hb hby q2_57) hr, hrun, hended, _, _, rfl, ?_, ⟨_, rfl⟩, hW, hsame.mono (by decide) (by decide)⟩
    show Q48 Z a ca ka c0 c1 c2 c3 cs h0 n0 _ T42.heap _
    rw [e42]
    exact ⟨rfl, N42, K48, Or.inr ⟨_, _, _, f43, Fw42, f47, f46, by decide, own_utfP4 c0 c1 c2 c3 P11 P12 P13 P14⟩⟩
theorem ef_49 (m : MethodId) (a : Addr) (ca : Addr) : entryFrame m #[(.ref a), (.ref ca)] 2 = mkF m 0 #[.val (.ref a), .val (.ref ca)] [] := by first | (simp [entryFrame, mkF, argsToLocals, Value.category]; done) | rfl
def Q49 (Z : State) (a : Addr) (ca : Addr) (ka : ClassId) (c0 : Int32) (cs : Int32) (h0 : Heap) (n0 : Nat) (v : Option Value) (h : Heap) (L : List Loc) : Prop := v = none ∧ Fr n0 L ∧ Keep h0 h [a] ∧ (own_S Z h a (1 : Int32) (own_gl [c0]))
set_option maxRecDepth 65536 in
set_option maxHeartbeats 40000000 in
theorem rm49 (l : Launch) (Z : State) (a0 : Array Value) (hw : ∀ d ∈ tables_1, d.before a0 Z = true) (ws : List Jvm.Cond) (a : Addr) (ca : Addr) (ka : ClassId) (c0 : Int32) (cs : Int32) (h0 : Heap) (n0 : Nat) (Z0 : n0 ≤ h0.size) (P0 : Exa Z h0 a "java/lang/String") (P1 : Fld Z h0 a "java/lang/String" "value" "[B" .null) (P2 : Fld Z h0 a "java/lang/String" "coder" "B" (.int (0 : Int32))) (P3 : n0 ≤ a) (P4 : Arv Z h0 ca ka .char (1 : Int32) [(.int c0)] (.int (0 : Int32))) (P5 : Old Z n0 h0) (P6 : Sta Z Z.heap "java/lang/String" "COMPACT_STRINGS" "Z" (.int cs)) (P7 : ¬ cs = (0 : Int32)) (P8 : Sta Z Z.heap "java/lang/StringUTF16" "$assertionsDisabled" "Z" (.int (1 : Int32))) (P9 : Sta Z Z.heap "java/lang/StringUTF16" "HI_BYTE_SHIFT" "I" (.int (0 : Int32))) (P10 : Sta Z Z.heap "java/lang/StringUTF16" "LO_BYTE_SHIFT" "I" (.int (8 : Int32))) (P11 : own_R c0) (P12 : ca ≠ a) :
    MetFree l own_y3 (head1 (Jvm.Cond.code own_y3 jdk_42_method_3_code 2 none :: ws) own_r27) (fun ar_ U => ar_ = #[(.ref a), (.ref ca)] ∧ Z.Warmed39 U.vm ∧ U.heap = h0) (fun _ _ _ _ _ => True) (fun _ U oo_ U' => ∃ v L, oo_ = .returned v ∧ Q49 Z a ca ka c0 cs h0 n0 v U'.heap L ∧ FrameEnd U oo_ U' L own_r27.cells own_r27.slots) := by
  refine MetFree.of_bodySF (plainFor_of_name pn_2) hisR ?_
  intro p e s m args below meth c s₁ Bd hml0 hP hK
  obtain ⟨rfl, hZ, hh⟩ := hP
  have hx := Bd.exec
  have hby := Bd.bytes
  have hml : c.maxLocals = 2 := hml0
  have hown : s.vm.findClass "java/lang/String" = some m.cls := findClass_of_methodNamed Bd.named
  have hnm := (name_of_methodNamed Bd.named Bd.method).1
  have X0 : Stand p l e own_r27 s m #[(.ref a), (.ref ca)] below meth c s₁ [] 0 0 := Stand.of_body Bd
  have e0 : s₁.heap = h0 := by rw [← hh, Bd.state]; rfl
  have N0 := Fr.nil n0
  refine own_in (castTop (ef_49 m a ca)) ?_
  show oG _ _ _ _ (s₁.setTop (mkF m 0 #[.val (.ref a), .val (.ref ca)] []))
  refine oS (fun _ κ => XS.aloadN X0.here hx rfl (hb hby q14_0) rfl rfl κ) ?_
  refine oS (fun _ κ => XS.aloadN X0.here hx rfl (hb hby q14_1) rfl rfl κ) ?_
  refine oS (fun _ κ => XS.iconst X0.here hx rfl (hb hby q14_2) κ) ?_
  refine oS (fun _ κ => XS.aloadN X0.here hx rfl (hb hby q14_3) rfl rfl κ) ?_
  obtain ⟨cl1, Ar1, -, Sz1, Nz1, -, -⟩ := id (P4)
  refine oS (fun _ κ => X0.arraylength hx (by rw [e0]; exact Ar1.1) (State.isArrayOf_alike hZ.alike Ar1.2.1) (g := (mkF m 4 #[.val (.ref a), .val (.ref ca)] [(.ref ca), (.int (0 : Int32)), (.ref ca), (.ref a)])) rfl rfl (hb hby q14_4) _ κ) ?_
  rw [len_of Sz1 Nz1]
  show oG _ _ _ _ (s₁.setTop (mkF m 5 #[.val (.ref a), .val (.ref ca)] [(.int (1 : Int32)), (.int (0 : Int32)), (.ref ca), (.ref a)]))
  refine oS (fun _ κ => XS.aconstNull X0.here hx rfl (hb hby q14_5) κ) ?_
  obtain ⟨vr2, _, ⟨T2, L2, k2, n2⟩, -, X2, ⟨Lc2, hQ2, l2, y2, z2⟩, st2⟩ := X0.specialBack hx (y := own_y4) rfl hown (mvT hZ (own_w hw 12 rfl)) (mvT hZ (own_w hw 13 rfl)) (mvT hZ (own_w hw 15 rfl)) (by decide) (backOf (W := 0) (rm45 l Z a0 hw [] a ca ka c0 cs h0 n0 Z0 P0 P1 P2 P3 P4 P5 P6 P7 P8 P9 P10 P11 P12) hZ (own_w hw 15 rfl) (own_w hw 7 rfl) (by decide) (by decide)) (g := (mkF m 6 #[.val (.ref a), .val (.ref ca)] [.null, (.int (1 : Int32)), (.int (0 : Int32)), (.ref ca), (.ref a)])) rfl (by rw [hml]; rfl) (Steps.refl _) (a := a) (argsL := [(.ref ca), (.int (0 : Int32)), (.int (1 : Int32)), .null]) (rest := []) (lenOf pd_13 rfl) rfl own_2z (hb hby q14_6) (fun _ _ => ⟨rfl, e0, (by decide : 0 + 2 ≤ _), (by decide : 0 + 3 ≤ _)⟩)
  dsimp only [Pt.U, Pt.locs, Pt.cells, Pt.slots] at X2 l2 y2 z2 st2 hQ2
  subst l2 y2 z2
  obtain ⟨rfl, Nq2, Kq2, p2_0⟩ := hQ2
  have N2 := Fr.app N0 Nq2
  have f3 := P0.keep Kq2
  have f4 := P4.keep Kq2 (ninS P12 nin0)
  have f5 := P5.keep Kq2 (allS P3 all0)
  have K6 : Keep h0 T2.heap [a] := (Keep.refl h0 [a]).trans Kq2 (allS (Or.inl (List.mem_of_getElem? (i := 0) rfl)) all0)
  have z7 : n0 ≤ T2.heap.size := Nat.le_trans Z0 Kq2.1
  refine oS (fun _ κ => st2.trans κ) ?_
  show oG _ _ _ _ (T2.setTop (mkF m 9 #[.val (.ref a), .val (.ref ca)] []))
  obtain ⟨fs, hr, hrun, hended, hW, hsame⟩ := X2.leave (v := none) (fun _ => rfl)
  refine ⟨_, _, X2.returnOut hx Bd.returns (hb hby q14_9) hr, hrun, hended, _, _, rfl, ?_, ⟨_, rfl⟩, hW, hsame.mono (by decide) (by decide)⟩
  show Q49 Z a ca ka c0 cs h0 n0 _ T2.heap _
  skip
  exact ⟨rfl, N2, K6, p2_0⟩
theorem ef_50 (m : MethodId) (a : Addr) (ca : Addr) : entryFrame m #[(.ref a), (.ref ca)] 2 = mkF m 0 #[.val (.ref a), .val (.ref ca)] [] := by first | (simp [entryFrame, mkF, argsToLocals, Value.category]; done) | rfl
def Q50 (Z : State) (a : Addr) (ca : Addr) (ka : ClassId) (c0 : Int32) (c1 : Int32) (cs : Int32) (h0 : Heap) (n0 : Nat) (v : Option Value) (h : Heap) (L : List Loc) : Prop := v = none ∧ Fr n0 L ∧ Keep h0 h [a] ∧ (own_S Z h a (2 : Int32) (own_gl [c0, c1]))
set_option maxRecDepth 65536 in
set_option maxHeartbeats 40000000 in
theorem rm50 (l : Launch) (Z : State) (a0 : Array Value) (hw : ∀ d ∈ tables_1, d.before a0 Z = true) (ws : List Jvm.Cond) (a : Addr) (ca : Addr) (ka : ClassId) (c0 : Int32) (c1 : Int32) (cs : Int32) (h0 : Heap) (n0 : Nat) (Z0 : n0 ≤ h0.size) (P0 : Exa Z h0 a "java/lang/String") (P1 : Fld Z h0 a "java/lang/String" "value" "[B" .null) (P2 : Fld Z h0 a "java/lang/String" "coder" "B" (.int (0 : Int32))) (P3 : n0 ≤ a) (P4 : Arv Z h0 ca ka .char (2 : Int32) [(.int c0), (.int c1)] (.int (0 : Int32))) (P5 : Old Z n0 h0) (P6 : Sta Z Z.heap "java/lang/String" "COMPACT_STRINGS" "Z" (.int cs)) (P7 : ¬ cs = (0 : Int32)) (P8 : Sta Z Z.heap "java/lang/StringUTF16" "$assertionsDisabled" "Z" (.int (1 : Int32))) (P9 : Sta Z Z.heap "java/lang/StringUTF16" "HI_BYTE_SHIFT" "I" (.int (0 : Int32))) (P10 : Sta Z Z.heap "java/lang/StringUTF16" "LO_BYTE_SHIFT" "I" (.int (8 : Int32))) (P11 : own_R c0) (P12 : own_R c1) (P13 : ca ≠ a) :
    MetFree l own_y3 (head1 (Jvm.Cond.code own_y3 jdk_42_method_3_code 2 none :: ws) own_r28) (fun ar_ U => ar_ = #[(.ref a), (.ref ca)] ∧ Z.Warmed39 U.vm ∧ U.heap = h0) (fun _ _ _ _ _ => True) (fun _ U oo_ U' => ∃ v L, oo_ = .returned v ∧ Q50 Z a ca ka c0 c1 cs h0 n0 v U'.heap L ∧ FrameEnd U oo_ U' L own_r28.cells own_r28.slots) := by
  refine MetFree.of_bodySF (plainFor_of_name pn_2) hisR ?_
  intro p e s m args below meth c s₁ Bd hml0 hP hK
  obtain ⟨rfl, hZ, hh⟩ := hP
  have hx := Bd.exec
  have hby := Bd.bytes
  have hml : c.maxLocals = 2 := hml0
  have hown : s.vm.findClass "java/lang/String" = some m.cls := findClass_of_methodNamed Bd.named
  have hnm := (name_of_methodNamed Bd.named Bd.method).1
  have X0 : Stand p l e own_r28 s m #[(.ref a), (.ref ca)] below meth c s₁ [] 0 0 := Stand.of_body Bd
  have e0 : s₁.heap = h0 := by rw [← hh, Bd.state]; rfl
  have N0 := Fr.nil n0
  refine own_in (castTop (ef_50 m a ca)) ?_
  show oG _ _ _ _ (s₁.setTop (mkF m 0 #[.val (.ref a), .val (.ref ca)] []))
  refine oS (fun _ κ => XS.aloadN X0.here hx rfl (hb hby q14_0) rfl rfl κ) ?_
  refine oS (fun _ κ => XS.aloadN X0.here hx rfl (hb hby q14_1) rfl rfl κ) ?_
  refine oS (fun _ κ => XS.iconst X0.here hx rfl (hb hby q14_2) κ) ?_
  refine oS (fun _ κ => XS.aloadN X0.here hx rfl (hb hby q14_3) rfl rfl κ) ?_
  obtain ⟨cl1, Ar1, -, Sz1, Nz1, -, -⟩ := id (P4)
  refine oS (fun _ κ => X0.arraylength hx (by rw [e0]; exact Ar1.1) (State.isArrayOf_alike hZ.alike Ar1.2.1) (g := (mkF m 4 #[.val (.ref a), .val (.ref ca)] [(.ref ca), (.int (0 : Int32)), (.ref ca), (.ref a)])) rfl rfl (hb hby q14_4) _ κ) ?_
  rw [len_of Sz1 Nz1]
  show oG _ _ _ _ (s₁.setTop (mkF m 5 #[.val (.ref a), .val (.ref ca)] [(.int (2 : Int32)), (.int (0 : Int32)), (.ref ca), (.ref a)]))
  refine oS (fun _ κ => XS.aconstNull X0.here hx rfl (hb hby q14_5) κ) ?_
  obtain ⟨vr2, _, ⟨T2, L2, k2, n2⟩, -, X2, ⟨Lc2, hQ2, l2, y2, z2⟩, st2⟩ := X0.specialBack hx (y := own_y4) rfl hown (mvT hZ (own_w hw 12 rfl)) (mvT hZ (own_w hw 13 rfl)) (mvT hZ (own_w hw 15 rfl)) (by decide) (backOf (W := 0) (rm46 l Z a0 hw [] a ca ka c0 c1 cs h0 n0 Z0 P0 P1 P2 P3 P4 P5 P6 P7 P8 P9 P10 P11 P12 P13) hZ (own_w hw 15 rfl) (own_w hw 7 rfl) (by decide) (by decide)) (g := (mkF m 6 #[.val (.ref a), .val (.ref ca)] [.null, (.int (2 : Int32)), (.int (0 : Int32)), (.ref ca), (.ref a)])) rfl (by rw [hml]; rfl) (Steps.refl _) (a := a) (argsL := [(.ref ca), (.int (0 : Int32)), (.int (2 : Int32)), .null]) (rest := []) (lenOf pd_13 rfl) rfl own_2z (hb hby q14_6) (fun _ _ => ⟨rfl, e0, (by decide : 0 + 2 ≤ _), (by decide : 0 + 6 ≤ _)⟩)
  dsimp only [Pt.U, Pt.locs, Pt.cells, Pt.slots] at X2 l2 y2 z2 st2 hQ2
  subst l2 y2 z2
  obtain ⟨rfl, Nq2, Kq2, p2_0⟩ := hQ2
  have N2 := Fr.app N0 Nq2
  have f3 := P0.keep Kq2
  have f4 := P4.keep Kq2 (ninS P13 nin0)
  have f5 := P5.keep Kq2 (allS P3 all0)
  have K6 : Keep h0 T2.heap [a] := (Keep.refl h0 [a]).trans Kq2 (allS (Or.inl (List.mem_of_getElem? (i := 0) rfl)) all0)
  have z7 : n0 ≤ T2.heap.size := Nat.le_trans Z0 Kq2.1
  refine oS (fun _ κ => st2.trans κ) ?_
  show oG _ _ _ _ (T2.setTop (mkF m 9 #[.val (.ref a), .val (.ref ca)] []))
  obtain ⟨fs, hr, hrun, hended, hW, hsame⟩ := X2.leave (v := none) (fun _ => rfl)
  refine ⟨_, _, X2.returnOut hx Bd.returns (hb hby q14_9) hr, hrun, hended, _, _, rfl, ?_, ⟨_, rfl⟩, hW, hsame.mono (by decide) (by decide)⟩
  show Q50 Z a ca ka c0 c1 cs h0 n0 _ T2.heap _
  skip
  exact ⟨rfl, N2, K6, p2_0⟩
theorem ef_51 (m : MethodId) (a : Addr) (ca : Addr) : entryFrame m #[(.ref a), (.ref ca)] 2 = mkF m 0 #[.val (.ref a), .val (.ref ca)] [] := by first | (simp [entryFrame, mkF, argsToLocals, Value.category]; done) | rfl
def Q51 (Z : State) (a : Addr) (ca : Addr) (ka : ClassId) (c0 : Int32) (c1 : Int32) (c2 : Int32) (cs : Int32) (h0 : Heap) (n0 : Nat) (v : Option Value) (h : Heap) (L : List Loc) : Prop := v = none ∧ Fr n0 L ∧ Keep h0 h [a] ∧ (own_S Z h a (3 : Int32) (own_gl [c0, c1, c2]))
set_option maxRecDepth 65536 in
set_option maxHeartbeats 40000000 in
theorem rm51 (l : Launch) (Z : State) (a0 : Array Value) (hw : ∀ d ∈ tables_1, d.before a0 Z = true) (ws : List Jvm.Cond) (a : Addr) (ca : Addr) (ka : ClassId) (c0 : Int32) (c1 : Int32) (c2 : Int32) (cs : Int32) (h0 : Heap) (n0 : Nat) (Z0 : n0 ≤ h0.size) (P0 : Exa Z h0 a "java/lang/String") (P1 : Fld Z h0 a "java/lang/String" "value" "[B" .null) (P2 : Fld Z h0 a "java/lang/String" "coder" "B" (.int (0 : Int32))) (P3 : n0 ≤ a) (P4 : Arv Z h0 ca ka .char (3 : Int32) [(.int c0), (.int c1), (.int c2)] (.int (0 : Int32))) (P5 : Old Z n0 h0) (P6 : Sta Z Z.heap "java/lang/String" "COMPACT_STRINGS" "Z" (.int cs)) (P7 : ¬ cs = (0 : Int32)) (P8 : Sta Z Z.heap "java/lang/StringUTF16" "$assertionsDisabled" "Z" (.int (1 : Int32))) (P9 : Sta Z Z.heap "java/lang/StringUTF16" "HI_BYTE_SHIFT" "I" (.int (0 : Int32))) (P10 : Sta Z Z.heap "java/lang/StringUTF16" "LO_BYTE_SHIFT" "I" (.int (8 : Int32))) (P11 : own_R c0) (P12 : own_R c1) (P13 : own_R c2) (P14 : ca ≠ a) :
    MetFree l own_y3 (head1 (Jvm.Cond.code own_y3 jdk_42_method_3_code 2 none :: ws) own_r29) (fun ar_ U => ar_ = #[(.ref a), (.ref ca)] ∧ Z.Warmed39 U.vm ∧ U.heap = h0) (fun _ _ _ _ _ => True) (fun _ U oo_ U' => ∃ v L, oo_ = .returned v ∧ Q51 Z a ca ka c0 c1 c2 cs h0 n0 v U'.heap L ∧ FrameEnd U oo_ U' L own_r29.cells own_r29.slots) := by
  refine MetFree.of_bodySF (plainFor_of_name pn_2) hisR ?_
  intro p e s m args below meth c s₁ Bd hml0 hP hK
  obtain ⟨rfl, hZ, hh⟩ := hP
  have hx := Bd.exec
  have hby := Bd.bytes
  have hml : c.maxLocals = 2 := hml0
  have hown : s.vm.findClass "java/lang/String" = some m.cls := findClass_of_methodNamed Bd.named
  have hnm := (name_of_methodNamed Bd.named Bd.method).1
  have X0 : Stand p l e own_r29 s m #[(.ref a), (.ref ca)] below meth c s₁ [] 0 0 := Stand.of_body Bd
  have e0 : s₁.heap = h0 := by rw [← hh, Bd.state]; rfl
  have N0 := Fr.nil n0
  refine own_in (castTop (ef_51 m a ca)) ?_
  show oG _ _ _ _ (s₁.setTop (mkF m 0 #[.val (.ref a), .val (.ref ca)] []))
  refine oS (fun _ κ => XS.aloadN X0.here hx rfl (hb hby q14_0) rfl rfl κ) ?_
  refine oS (fun _ κ => XS.aloadN X0.here hx rfl (hb hby q14_1) rfl rfl κ) ?_
  refine oS (fun _ κ => XS.iconst X0.here hx rfl (hb hby q14_2) κ) ?_
  refine oS (fun _ κ => XS.aloadN X0.here hx rfl (hb hby q14_3) rfl rfl κ) ?_
  obtain ⟨cl1, Ar1, -, Sz1, Nz1, -, -⟩ := id (P4)
  refine oS (fun _ κ => X0.arraylength hx (by rw [e0]; exact Ar1.1) (State.isArrayOf_alike hZ.alike Ar1.2.1) (g := (mkF m 4 #[.val (.ref a), .val (.ref ca)] [(.ref ca), (.int (0 : Int32)), (.ref ca), (.ref a)])) rfl rfl (hb hby q14_4) _ κ) ?_
  rw [len_of Sz1 Nz1]
  show oG _ _ _ _ (s₁.setTop (mkF m 5 #[.val (.ref a), .val (.ref ca)] [(.int (3 : Int32)), (.int (0 : Int32)), (.ref ca), (.ref a)]))
  refine oS (fun _ κ => XS.aconstNull X0.here hx rfl (hb hby q14_5) κ) ?_
  obtain ⟨vr2, _, ⟨T2, L2, k2, n2⟩, -, X2, ⟨Lc2, hQ2, l2, y2, z2⟩, st2⟩ := X0.specialBack hx (y := own_y4) rfl hown (mvT hZ (own_w hw 12 rfl)) (mvT hZ (own_w hw 13 rfl)) (mvT hZ (own_w hw 15 rfl)) (by decide) (backOf (W := 0) (rm47 l Z a0 hw [] a ca ka c0 c1 c2 cs h0 n0 Z0 P0 P1 P2 P3 P4 P5 P6 P7 P8 P9 P10 P11 P12 P13 P14) hZ (own_w hw 15 rfl) (own_w hw 7 rfl) (by decide) (by decide)) (g := (mkF m 6 #[.val (.ref a), .val (.ref ca)] [.null, (.int (3 : Int32)), (.int (0 : Int32)), (.ref ca), (.ref a)])) rfl (by rw [hml]; rfl) (Steps.refl _) (a := a) (argsL := [(.ref ca), (.int (0 : Int32)), (.int (3 : Int32)), .null]) (rest := []) (lenOf pd_13 rfl) rfl own_2z (hb hby q14_6) (fun _ _ => ⟨rfl, e0, (by decide : 0 + 2 ≤ _), (by decide : 0 + 9 ≤ _)⟩)
  dsimp only [Pt.U, Pt.locs, Pt.cells, Pt.slots] at X2 l2 y2 z2 st2 hQ2
  subst l2 y2 z2
  obtain ⟨rfl, Nq2, Kq2, p2_0⟩ := hQ2
  have N2 := Fr.app N0 Nq2
  have f3 := P0.keep Kq2
  have f4 := P4.keep Kq2 (ninS P14 nin0)
  have f5 := P5.keep Kq2 (allS P3 all0)
  have K6 : Keep h0 T2.heap [a] := (Keep.refl h0 [a]).trans Kq2 (allS (Or.inl (List.mem_of_getElem? (i := 0) rfl)) all0)
  have z7 : n0 ≤ T2.heap.size := Nat.le_trans Z0 Kq2.1
  refine oS (fun _ κ => st2.trans κ) ?_
  show oG _ _ _ _ (T2.setTop (mkF m 9 #[.val (.ref a), .val (.ref ca)] []))
  obtain ⟨fs, hr, hrun, hended, hW, hsame⟩ := X2.leave (v := none) (fun _ => rfl)
  refine ⟨_, _, X2.returnOut hx Bd.returns (hb hby q14_9) hr, hrun, hended, _, _, rfl, ?_, ⟨_, rfl⟩, hW, hsame.mono (by decide) (by decide)⟩
  show Q51 Z a ca ka c0 c1 c2 cs h0 n0 _ T2.heap _
  skip
  exact ⟨rfl, N2, K6, p2_0⟩
theorem ef_52 (m : MethodId) (a : Addr) (ca : Addr) : entryFrame m #[(.ref a), (.ref ca)] 2 = mkF m 0 #[.val (.ref a), .val (.ref ca)] [] := by first | (simp [entryFrame, mkF, argsToLocals, Value.category]; done) | rfl
def Q52 (Z : State) (a : Addr) (ca : Addr) (ka : ClassId) (c0 : Int32) (c1 : Int32) (c2 : Int32) (c3 : Int32) (cs : Int32) (h0 : Heap) (n0 : Nat) (v : Option Value) (h : Heap) (L : List Loc) : Prop := v = none ∧ Fr n0 L ∧ Keep h0 h [a] ∧ (own_S Z h a (4 : Int32) (own_gl [c0, c1, c2, c3]))
set_option maxRecDepth 65536 in
set_option maxHeartbeats 40000000 in
theorem rm52 (l : Launch) (Z : State) (a0 : Array Value) (hw : ∀ d ∈ tables_1, d.before a0 Z = true) (ws : List Jvm.Cond) (a : Addr) (ca : Addr) (ka : ClassId) (c0 : Int32) (c1 : Int32) (c2 : Int32) (c3 : Int32) (cs : Int32) (h0 : Heap) (n0 : Nat) (Z0 : n0 ≤ h0.size) (P0 : Exa Z h0 a "java/lang/String") (P1 : Fld Z h0 a "java/lang/String" "value" "[B" .null) (P2 : Fld Z h0 a "java/lang/String" "coder" "B" (.int (0 : Int32))) (P3 : n0 ≤ a) (P4 : Arv Z h0 ca ka .char (4 : Int32) [(.int c0), (.int c1), (.int c2), (.int c3)] (.int (0 : Int32))) (P5 : Old Z n0 h0) (P6 : Sta Z Z.heap "java/lang/String" "COMPACT_STRINGS" "Z" (.int cs)) (P7 : ¬ cs = (0 : Int32)) (P8 : Sta Z Z.heap "java/lang/StringUTF16" "$assertionsDisabled" "Z" (.int (1 : Int32))) (P9 : Sta Z Z.heap "java/lang/StringUTF16" "HI_BYTE_SHIFT" "I" (.int (0 : Int32))) (P10 : Sta Z Z.heap "java/lang/StringUTF16" "LO_BYTE_SHIFT" "I" (.int (8 : Int32))) (P11 : own_R c0) (P12 : own_R c1) (P13 : own_R c2) (P14 : own_R c3) (P15 : ca ≠ a) :
    MetFree l own_y3 (head1 (Jvm.Cond.code own_y3 jdk_42_method_3_code 2 none :: ws) own_r26) (fun ar_ U => ar_ = #[(.ref a), (.ref ca)] ∧ Z.Warmed39 U.vm ∧ U.heap = h0) (fun _ _ _ _ _ => True) (fun _ U oo_ U' => ∃ v L, oo_ = .returned v ∧ Q52 Z a ca ka c0 c1 c2 c3 cs h0 n0 v U'.heap L ∧ FrameEnd U oo_ U' L own_r26.cells own_r26.slots) := by
  refine MetFree.of_bodySF (plainFor_of_name pn_2) hisR ?_
  intro p e s m args below meth c s₁ Bd hml0 hP hK
  obtain ⟨rfl, hZ, hh⟩ := hP
  have hx := Bd.exec
  have hby := Bd.bytes
  have hml : c.maxLocals = 2 := hml0
  have hown : s.vm.findClass "java/lang/String" = some m.cls := findClass_of_methodNamed Bd.named
  have hnm := (name_of_methodNamed Bd.named Bd.method).1
  have X0 : Stand p l e own_r26 s m #[(.ref a), (.ref ca)] below meth c s₁ [] 0 0 := Stand.of_body Bd
  have e0 : s₁.heap = h0 := by rw [← hh, Bd.state]; rfl
  have N0 := Fr.nil n0
  refine own_in (castTop (ef_52 m a ca)) ?_
  show oG _ _ _ _ (s₁.setTop (mkF m 0 #[.val (.ref a), .val (.ref ca)] []))
  refine oS (fun _ κ => XS.aloadN X0.here hx rfl (hb hby q14_0) rfl rfl κ) ?_
  refine oS (fun _ κ => XS.aloadN X0.here hx rfl (hb hby q14_1) rfl rfl κ) ?_
  refine oS (fun _ κ => XS.iconst X0.here hx rfl (hb hby q14_2) κ) ?_
  refine oS (fun _ κ => XS.aloadN X0.here hx rfl (hb hby q14_3) rfl rfl κ) ?_
  obtain ⟨cl1, Ar1, -, Sz1, Nz1, -, -⟩ := id (P4)
  refine oS (fun _ κ => X0.arraylength hx (by rw [e0]; exact Ar1.1) (State.isArrayOf_alike hZ.alike Ar1.2.1) (g := (mkF m 4 #[.val (.ref a), .val (.ref ca)] [(.ref ca), (.int (0 : Int32)), (.ref ca), (.ref a)])) rfl rfl (hb hby q14_4) _ κ) ?_
  rw [len_of Sz1 Nz1]
  show oG _ _ _ _ (s₁.setTop (mkF m 5 #[.val (.ref a), .val (.ref ca)] [(.int (4 : Int32)), (.int (0 : Int32)), (.ref ca), (.ref a)]))
  refine oS (fun _ κ => XS.aconstNull X0.here hx rfl (hb hby q14_5) κ) ?_
  obtain ⟨vr2, _, ⟨T2, L2, k2, n2⟩, -, X2, ⟨Lc2, hQ2, l2, y2, z2⟩, st2⟩ := X0.specialBack hx (y := own_y4) rfl hown (mvT hZ (own_w hw 12 rfl)) (mvT hZ (own_w hw 13 rfl)) (mvT hZ (own_w hw 15 rfl)) (by decide) (backOf (W := 0) (rm48 l Z a0 hw [] a ca ka c0 c1 c2 c3 cs h0 n0 Z0 P0 P1 P2 P3 P4 P5 P6 P7 P8 P9 P10 P11 P12 P13 P14 P15) hZ (own_w hw 15 rfl) (own_w hw 7 rfl) (by decide) (by decide)) (g := (mkF m 6 #[.val (.ref a), .val (.ref ca)] [.null, (.int (4 : Int32)), (.int (0 : Int32)), (.ref ca), (.ref a)])) rfl (by rw [hml]; rfl) (Steps.refl _) (a := a) (argsL := [(.ref ca), (.int (0 : Int32)), (.int (4 : Int32)), .null]) (rest := []) (lenOf pd_13 rfl) rfl own_2z (hb hby q14_6) (fun _ _ => ⟨rfl, e0, (by decide : 0 + 2 ≤ _), (by decide : 0 + 12 ≤ _)⟩)
  dsimp only [Pt.U, Pt.locs, Pt.cells, Pt.slots] at X2 l2 y2 z2 st2 hQ2
  subst l2 y2 z2
  obtain ⟨rfl, Nq2, Kq2, p2_0⟩ := hQ2
  have N2 := Fr.app N0 Nq2
  have f3 := P0.keep Kq2
  have f4 := P4.keep Kq2 (ninS P15 nin0)
  have f5 := P5.keep Kq2 (allS P3 all0)
  have K6 : Keep h0 T2.heap [a] := (Keep.refl h0 [a]).trans Kq2 (allS (Or.inl (List.mem_of_getElem? (i := 0) rfl)) all0)
  have z7 : n0 ≤ T2.heap.size := Nat.le_trans Z0 Kq2.1
  refine oS (fun _ κ => st2.trans κ) ?_
  show oG _ _ _ _ (T2.setTop (mkF m 9 #[.val (.ref a), .val (.ref ca)] []))
  obtain ⟨fs, hr, hrun, hended, hW, hsame⟩ := X2.leave (v := none) (fun _ => rfl)
  refine ⟨_, _, X2.returnOut hx Bd.returns (hb hby q14_9) hr, hrun, hended, _, _, rfl, ?_, ⟨_, rfl⟩, hW, hsame.mono (by decide) (by decide)⟩
  show Q52 Z a ca ka c0 c1 c2 c3 cs h0 n0 _ T2.heap _
  skip
  exact ⟨rfl, N2, K6, p2_0⟩
theorem ef_53 (m : MethodId) (a : Addr) : entryFrame m #[(.ref a)] 3 = mkF m 0 #[.val (.ref a), .unset, .unset] [] := by first | (simp [entryFrame, mkF, argsToLocals, Value.category]; done) | rfl
def Q53 (Z : State) (a : Addr) (g : Nat → Int32) (cs : Int32) (fv : Value) (h0 : Heap) (n0 : Nat) (v : Option Value) (h : Heap) (L : List Loc) : Prop := v = some (.int (1 : Int32)) ∧ Fr n0 L ∧ h = h0
set_option maxRecDepth 65536 in
set_option maxHeartbeats 40000000 in
theorem rm53 (l : Launch) (Z : State) (a0 : Array Value) (hw : ∀ d ∈ tables_1, d.before a0 Z = true) (ws : List Jvm.Cond) (a : Addr) (g : Nat → Int32) (cs : Int32) (fv : Value) (h0 : Heap) (n0 : Nat) (Z0 : n0 ≤ h0.size) (P0 : own_S Z h0 a (0 : Int32) g) (P1 : Exa Z h0 a "java/lang/String") (P2 : Old Z n0 h0) (P3 : Sta Z Z.heap "java/lang/String" "COMPACT_STRINGS" "Z" (.int cs)) (P4 : ¬ cs = (0 : Int32)) (P5 : Sta Z Z.heap "jdk/internal/util/Preconditions" "SIOOBE_FORMATTER" "Ljava/util/function/BiFunction;" fv) (P6 : fv.isRef = true) (P7 : Sta Z Z.heap "java/lang/StringUTF16" "$assertionsDisabled" "Z" (.int (1 : Int32))) (P8 : Sta Z Z.heap "java/lang/StringUTF16" "HI_BYTE_SHIFT" "I" (.int (0 : Int32))) (P9 : Sta Z Z.heap "java/lang/StringUTF16" "LO_BYTE_SHIFT" "I" (.int (8 : Int32))) :
    MetFree l own_y0 (head1 (Jvm.Cond.code own_y0 prog_58_method_4_code 3 (some .boolean) :: ws) own_r8) (fun ar_ U => ar_ = #[(.ref a)] ∧ Z.Warmed39 U.vm ∧ U.heap = h0) (fun _ _ _ _ _ => True) (fun _ U oo_ U' => ∃ v L, oo_ = .returned v ∧ Q53 Z a g cs fv h0 n0 v U'.heap L ∧ FrameEnd U oo_ U' L own_r8.cells own_r8.slots) := by
  refine MetFree.of_bodySF (plainFor_of_name pn_5) hisR ?_
  intro p e s m args below meth c s₁ Bd hml0 hP hK
  obtain ⟨rfl, hZ, hh⟩ := hP
  have hx := Bd.exec
  have hby := Bd.bytes
  have hml : c.maxLocals = 3 := hml0
  have hown : s.vm.findClass "com/example/everrow/everrow/csv/CsvWriter" = some m.cls := findClass_of_methodNamed Bd.named
  have hnm := (name_of_methodNamed Bd.named Bd.method).1
  have X0 : Stand p l e own_r8 s m #[(.ref a)] below meth c s₁ [] 0 0 := Stand.of_body Bd
  have e0 : s₁.heap = h0 := by rw [← hh, Bd.state]; rfl
  have N0 := Fr.nil n0
  refine own_in (castTop (ef_53 m a)) ?_
  show oG _ _ _ _ (s₁.setTop (mkF m 0 #[.val (.ref a), .unset, .unset] []))
  refine oS (fun _ κ => XS.iconst X0.here hx rfl (hb hby q13_0) κ) ?_
  refine oS (fun _ κ => XS.istoreN X0.here hx rfl (hb hby q13_1) rfl (l' := #[.val (.ref a), .val (.int (0 : Int32)), .unset]) rfl κ) ?_
  refine oS (fun _ κ => XS.iloadN X0.here hx rfl (hb hby q13_2) rfl κ) ?_
  refine oS (fun _ κ => XS.aloadN X0.here hx rfl (hb hby q13_3) rfl rfl κ) ?_
  obtain ⟨cq1, kq1, q1a, q1b, q1c⟩ := isOf hZ e0 P1
  obtain ⟨vr1, _, ⟨T1, L1, k1, n1⟩, -, X1, ⟨Lc1, hQ1, l1, y1, z1⟩, st1⟩ := X0.virtualBack hx (y := own_y9) (z := own_y9) hown (mvT hZ (own_w hw 31 rfl)) (mvT hZ (own_w hw 32 rfl)) (notFace_of_selects (args := #[]) (mvT hZ (own_w hw 34 rfl))) (mvT hZ (own_w hw 34 rfl)) (mvT hZ (own_w hw 33 rfl)) (by decide) (backOf (W := 1) (rm14 l Z a0 hw [] a (0 : Int32) g cs h0 n0 Z0 P0 P2 P3 P4) hZ (own_w hw 35 rfl) (own_w hw 7 rfl) (by decide) (by decide)) q1a q1c (g := (mkF m 4 #[.val (.ref a), .val (.int (0 : Int32)), .unset] [(.ref a), (.int (0 : Int32))])) rfl (by rw [hml]; rfl) (Steps.refl _) (argsL := []) (rest := [(.int (0 : Int32))]) (lenOf pd_14 rfl) rfl own_2z (hb hby q13_4) (fun _ _ => ⟨rfl, e0, (by decide : 0 + 0 ≤ _), (by decide : 0 + 0 ≤ _)⟩)
  dsimp only [Pt.U, Pt.locs, Pt.cells, Pt.slots] at X1 l1 y1 z1 st1 hQ1
  subst l1 y1 z1
  obtain ⟨rfl, Nq1, eq1⟩ := hQ1
  have N1 := Fr.app N0 Nq1
  refine oS (fun _ κ => st1.trans κ) ?_
  show oG _ _ _ _ (T1.setTop (mkF m 7 #[.val (.ref a), .val (.int (0 : Int32)), .unset] [(.int (0 : Int32)), (.int (0 : Int32))]))
  refine oS (fun _ κ => XS.icmpYes X1.here hx rfl (pc0 := 7) (pc' := 42) rfl (hb hby q13_7) rfl (flt (by decide)).2.1 (by decide) (by decide) κ) ?_
  show oG _ _ _ _ (T1.setTop (mkF m 42 #[.val (.ref a), .val (.int (0 : Int32)), .unset] []))
  refine oS (fun _ κ => XS.iconst X1.here hx rfl (hb hby q13_42) κ) ?_
  obtain ⟨fs, hr, hrun, hended, hW, hsame⟩ := X1.leave (v := some (.int (1 : Int32))) (fun h => by rw [Bd.returns] at h; cases h)
  refine ⟨_, _, retN X1 hx (t := .boolean) Bd.returns (by simp) (hb hby q13_43) hr, hrun, hended, _, _, rfl, ?_, ⟨_, rfl⟩, hW, hsame.mono (by decide) (by decide)⟩
  show Q53 Z a g cs fv h0 n0 _ T1.heap _
  rw [eq1]
  exact ⟨rfl, N1, rfl⟩
theorem ef_54 (m : MethodId) (a : Addr) : entryFrame m #[(.ref a)] 3 = mkF m 0 #[.val (.ref a), .unset, .unset] [] := by first | (simp [entryFrame, mkF, argsToLocals, Value.category]; done) | rfl
def Q54 (Z : State) (a : Addr) (g : Nat → Int32) (v0 : Int32) (cs : Int32) (fv : Value) (h0 : Heap) (n0 : Nat) (v : Option Value) (h : Heap) (L : List Loc) : Prop := v = some (.int (if (own_brk v0) = (0 : Int32) then (1 : Int32) else (0 : Int32))) ∧ Fr n0 L ∧ h = h0
set_option maxRecDepth 65536 in
set_option maxHeartbeats 40000000 in
theorem rm54 (l : Launch) (Z : State) (a0 : Array Value) (hw : ∀ d ∈ tables_1, d.before a0 Z = true) (ws : List Jvm.Cond) (a : Addr) (g : Nat → Int32) (v0 : Int32) (cs : Int32) (fv : Value) (h0 : Heap) (n0 : Nat) (Z0 : n0 ≤ h0.size) (P0 : own_S Z h0 a (1 : Int32) g) (P1 : Exa Z h0 a "java/lang/String") (P2 : Old Z n0 h0) (P3 : Sta Z Z.heap "java/lang/String" "COMPACT_STRINGS" "Z" (.int cs)) (P4 : ¬ cs = (0 : Int32)) (P5 : Sta Z Z.heap "jdk/internal/util/Preconditions" "SIOOBE_FORMATTER" "Ljava/util/function/BiFunction;" fv) (P6 : fv.isRef = true) (P7 : Sta Z Z.heap "java/lang/StringUTF16" "$assertionsDisabled" "Z" (.int (1 : Int32))) (P8 : Sta Z Z.heap "java/lang/StringUTF16" "HI_BYTE_SHIFT" "I" (.int (0 : Int32))) (P9 : Sta Z Z.heap "java/lang/StringUTF16" "LO_BYTE_SHIFT" "I" (.int (8 : Int32))) (P10 : g (0 : Int32).toNatClampNeg = v0) :
    MetFree l own_y0 (head1 (Jvm.Cond.code own_y0 prog_58_method_4_code 3 (some .boolean) :: ws) own_r25) (fun ar_ U => ar_ = #[(.ref a)] ∧ Z.Warmed39 U.vm ∧ U.heap = h0) (fun _ _ _ _ _ => True) (fun _ U oo_ U' => ∃ v L, oo_ = .returned v ∧ Q54 Z a g v0 cs fv h0 n0 v U'.heap L ∧ FrameEnd U oo_ U' L own_r25.cells own_r25.slots) := by
  refine MetFree.of_bodySF (plainFor_of_name pn_5) hisR ?_
  intro p e s m args below meth c s₁ Bd hml0 hP hK
  obtain ⟨rfl, hZ, hh⟩ := hP
  have hx := Bd.exec
  have hby := Bd.bytes
  have hml : c.maxLocals = 3 := hml0
  have hown : s.vm.findClass "com/example/everrow/everrow/csv/CsvWriter" = some m.cls := findClass_of_methodNamed Bd.named
  have hnm := (name_of_methodNamed Bd.named Bd.method).1
  have X0 : Stand p l e own_r25 s m #[(.ref a)] below meth c s₁ [] 0 0 := Stand.of_body Bd
  have e0 : s₁.heap = h0 := by rw [← hh, Bd.state]; rfl
  have N0 := Fr.nil n0
  refine own_in (castTop (ef_54 m a)) ?_
  show oG _ _ _ _ (s₁.setTop (mkF m 0 #[.val (.ref a), .unset, .unset] []))
  refine oS (fun _ κ => XS.iconst X0.here hx rfl (hb hby q13_0) κ) ?_
  refine oS (fun _ κ => XS.istoreN X0.here hx rfl (hb hby q13_1) rfl (l' := #[.val (.ref a), .val (.int (0 : Int32)), .unset]) rfl κ) ?_
  refine oS (fun _ κ => XS.iloadN X0.here hx rfl (hb hby q13_2) rfl κ) ?_
  refine oS (fun _ κ => XS.aloadN X0.here hx rfl (hb hby q13_3) rfl rfl κ) ?_
  obtain ⟨cq1, kq1, q1a, q1b, q1c⟩ := isOf hZ e0 P1
  obtain ⟨vr1, _, ⟨T1, L1, k1, n1⟩, -, X1, ⟨Lc1, hQ1, l1, y1, z1⟩, st1⟩ := X0.virtualBack hx (y := own_y9) (z := own_y9) hown (mvT hZ (own_w hw 31 rfl)) (mvT hZ (own_w hw 32 rfl)) (notFace_of_selects (args := #[]) (mvT hZ (own_w hw 34 rfl))) (mvT hZ (own_w hw 34 rfl)) (mvT hZ (own_w hw 33 rfl)) (by decide) (backOf (W := 1) (rm14 l Z a0 hw [] a (1 : Int32) g cs h0 n0 Z0 P0 P2 P3 P4) hZ (own_w hw 35 rfl) (own_w hw 7 rfl) (by decide) (by decide)) q1a q1c (g := (mkF m 4 #[.val (.ref a), .val (.int (0 : Int32)), .unset] [(.ref a), (.int (0 : Int32))])) rfl (by rw [hml]; rfl) (Steps.refl _) (argsL := []) (rest := [(.int (0 : Int32))]) (lenOf pd_14 rfl) rfl own_2z (hb hby q13_4) (fun _ _ => ⟨rfl, e0, (by decide : 0 + 0 ≤ _), (by decide : 0 + 0 ≤ _)⟩)
  dsimp only [Pt.U, Pt.locs, Pt.cells, Pt.slots] at X1 l1 y1 z1 st1 hQ1
  subst l1 y1 z1
  obtain ⟨rfl, Nq1, eq1⟩ := hQ1
  have N1 := Fr.app N0 Nq1
  refine oS (fun _ κ => st1.trans κ) ?_
  show oG _ _ _ _ (T1.setTop (mkF m 7 #[.val (.ref a), .val (.int (0 : Int32)), .unset] [(.int (1 : Int32)), (.int (0 : Int32))]))
  refine oS (fun _ κ => XS.icmpNo X1.here hx rfl (hb hby q13_7) rfl (tlt (by decide)).2.1 κ) ?_
  show oG _ _ _ _ (T1.setTop (mkF m 10 #[.val (.ref a), .val (.int (0 : Int32)), .unset] []))
  refine oS (fun _ κ => XS.aloadN X1.here hx rfl (hb hby q13_10) rfl rfl κ) ?_
  refine oS (fun _ κ => XS.iloadN X1.here hx rfl (hb hby q13_11) rfl κ) ?_
  obtain ⟨cq2, kq2, q2a, q2b, q2c⟩ := isOf hZ eq1 P1
  obtain ⟨vr2, _, ⟨T2, L2, k2, n2⟩, -, X2, ⟨Lc2, hQ2, l2, y2, z2⟩, st2⟩ := X1.virtualBack hx (y := own_y5) (z := own_y5) hown (mvT hZ (own_w hw 55 rfl)) (mvT hZ (own_w hw 56 rfl)) (notFace_of_selects (args := #[]) (mvT hZ (own_w hw 58 rfl))) (mvT hZ (own_w hw 58 rfl)) (mvT hZ (own_w hw 57 rfl)) (by decide) (backOf (W := 0) (rm15 l Z a0 hw [] a (0 : Int32) (1 : Int32) g v0 cs fv h0 n0 Z0 P0 P2 P3 P4 P5 P6 P7 P8 P9 (by decide) (by decide) P10) hZ (own_w hw 59 rfl) (own_w hw 7 rfl) (by decide) (by decide)) q2a q2c (g := (mkF m 12 #[.val (.ref a), .val (.int (0 : Int32)), .unset] [(.int (0 : Int32)), (.ref a)])) rfl (by rw [hml]; rfl) (Steps.refl _) (argsL := [(.int (0 : Int32))]) (rest := []) (lenOf pd_15 rfl) rfl own_2z (hb hby q13_12) (fun _ _ => ⟨rfl, eq1, (by decide : 0 + 0 ≤ _), (by decide : 0 + 0 ≤ _)⟩)
  dsimp only [Pt.U, Pt.locs, Pt.cells, Pt.slots] at X2 l2 y2 z2 st2 hQ2
  subst l2 y2 z2
  obtain ⟨rfl, Nq2, eq2⟩ := hQ2
  have N2 := Fr.app N1 Nq2
  refine oS (fun _ κ => st2.trans κ) ?_
  show oG _ _ _ _ (T2.setTop (mkF m 15 #[.val (.ref a), .val (.int (0 : Int32)), .unset] [(.int v0)]))
  refine oS (fun _ κ => XS.istoreN X2.here hx rfl (hb hby q13_15) rfl (l' := #[.val (.ref a), .val (.int (0 : Int32)), .val (.int v0)]) rfl κ) ?_
  refine oS (fun _ κ => XS.iloadN X2.here hx rfl (hb hby q13_16) rfl κ) ?_
  refine oS (fun _ κ => XS.bipush X2.here hx rfl (hb hby q13_17) κ) ?_
  by_cases hc3 : v0 = (9 : Int32)
  · refine oS (fun _ κ => XS.icmpYes X2.here hx rfl (pc0 := 19) (pc' := 34) rfl (hb hby q13_19) rfl (teq hc3).1 (by decide) (by decide) κ) ?_
    show oG _ _ _ _ (T2.setTop (mkF m 34 #[.val (.ref a), .val (.int (0 : Int32)), .val (.int v0)] []))
    refine oS (fun _ κ => XS.iconst X2.here hx rfl (hb hby q13_34) κ) ?_
    obtain ⟨fs, hr, hrun, hended, hW, hsame⟩ := X2.leave (v := some (.int (0 : Int32))) (fun h => by rw [Bd.returns] at h; cases h)
    refine ⟨_, _, retN X2 hx (t := .boolean) Bd.returns (by simp) (hb hby q13_35) hr, hrun, hended, _, _, rfl, ?_, ⟨_, rfl⟩, hW, hsame.mono (by decide) (by decide)⟩
    show Q54 Z a g v0 cs fv h0 n0 _ T2.heap _
    rw [eq2]
    exact ⟨(by rw [if_neg (own_brkY hc3 (by decide))]), N2, rfl⟩
  · refine oS (fun _ κ => XS.icmpNo X2.here hx rfl (hb hby q13_19) rfl (feq hc3).1 κ) ?_
    show oG _ _ _ _ (T2.setTop (mkF m 22 #[.val (.ref a), .val (.int (0 : Int32)), .val (.int v0)] []))
    refine oS (fun _ κ => XS.iloadN X2.here hx rfl (hb hby q13_22) rfl κ) ?_
    refine oS (fun _ κ => XS.bipush X2.here hx rfl (hb hby q13_23) κ) ?_
    by_cases hc4 : v0 = (13 : Int32)
    · refine oS (fun _ κ => XS.icmpYes X2.here hx rfl (pc0 := 25) (pc' := 34) rfl (hb hby q13_25) rfl (teq hc4).1 (by decide) (by decide) κ) ?_
      show oG _ _ _ _ (T2.setTop (mkF m 34 #[.val (.ref a), .val (.int (0 : Int32)), .val (.int v0)] []))
      refine oS (fun _ κ => XS.iconst X2.here hx rfl (hb hby q13_34) κ) ?_
      obtain ⟨fs, hr, hrun, hended, hW, hsame⟩ := X2.leave (v := some (.int (0 : Int32))) (fun h => by rw [Bd.returns] at h; cases h)
      refine ⟨_, _, retN X2 hx (t := .boolean) Bd.returns (by simp) (hb hby q13_35) hr, hrun, hended, _, _, rfl, ?_, ⟨_, rfl⟩, hW, hsame.mono (by decide) (by decide)⟩
      show Q54 Z a g v0 cs fv h0 n0 _ T2.heap _
      rw [eq2]
      exact ⟨(by rw [if_neg (own_brkY hc4 (by decide))]), N2, rfl⟩
    · refine oS (fun _ κ => XS.icmpNo X2.here hx rfl (hb hby q13_25) rfl (feq hc4).1 κ) ?_
      show oG _ _ _ _ (T2.setTop (mkF m 28 #[.val (.ref a), .val (.int (0 : Int32)), .val (.int v0)] []))
      refine oS (fun _ κ => XS.iloadN X2.here hx rfl (hb hby q13_28) rfl κ) ?_
      refine oS (fun _ κ => XS.bipush X2.here hx rfl (hb hby q13_29) κ) ?_
      by_cases hc5 : v0 = (10 : Int32)
      · refine oS (fun _ κ => XS.icmpNo X2.here hx rfl (hb hby q13_31) rfl (teq hc5).2 κ) ?_
        show oG _ _ _ _ (T2.setTop (mkF m 34 #[.val (.ref a), .val (.int (0 : Int32)), .val (.int v0)] []))
        refine oS (fun _ κ => XS.iconst X2.here hx rfl (hb hby q13_34) κ) ?_
        obtain ⟨fs, hr, hrun, hended, hW, hsame⟩ := X2.leave (v := some (.int (0 : Int32))) (fun h => by rw [Bd.returns] at h; cases h)
        refine ⟨_, _, retN X2 hx (t := .boolean) Bd.returns (by simp) (hb hby q13_35) hr, hrun, hended, _, _, rfl, ?_, ⟨_, rfl⟩, hW, hsame.mono (by decide) (by decide)⟩
        show Q54 Z a g v0 cs fv h0 n0 _ T2.heap _
        rw [eq2]
        exact ⟨(by rw [if_neg (own_brkY hc5 (by decide))]), N2, rfl⟩
      · refine oS (fun _ κ => XS.icmpYes X2.here hx rfl (pc0 := 31) (pc' := 36) rfl (hb hby q13_31) rfl (feq hc5).2 (by decide) (by decide) κ) ?_
        show oG _ _ _ _ (T2.setTop (mkF m 36 #[.val (.ref a), .val (.int (0 : Int32)), .val (.int v0)] []))
        refine oS (fun _ κ => XS.iinc X2.here hx rfl (hb hby q13_36) rfl (l' := #[.val (.ref a), .val (.int ((0 : Int32) + (1 : Int32))), .val (.int v0)]) rfl κ) ?_
        show oG _ _ _ _ (T2.setTop (mkF m 39 #[.val (.ref a), .val (.int ((0 : Int32) + (1 : Int32))), .val (.int v0)] []))
        rw [show (((0 : Int32) + (1 : Int32)) : Int32) = (1 : Int32) from by decide]
        show oG _ _ _ _ (T2.setTop (mkF m 39 #[.val (.ref a), .val (.int (1 : Int32)), .val (.int v0)] []))
        refine oS (fun _ κ => XS.goto X2.here hx rfl (pc0 := 39) (pc' := 2) rfl (hb hby q13_39) (by decide) (by decide) κ) ?_
        show oG _ _ _ _ (T2.setTop (mkF m 2 #[.val (.ref a), .val (.int (1 : Int32)), .val (.int v0)] []))
        refine oS (fun _ κ => XS.iloadN X2.here hx rfl (hb hby q13_2) rfl κ) ?_
        refine oS (fun _ κ => XS.aloadN X2.here hx rfl (hb hby q13_3) rfl rfl κ) ?_
        obtain ⟨cq6, kq6, q6a, q6b, q6c⟩ := isOf hZ eq2 P1
        obtain ⟨vr6, _, ⟨T6, L6, k6, n6⟩, -, X6, ⟨Lc6, hQ6, l6, y6, z6⟩, st6⟩ := X2.virtualBack hx (y := own_y9) (z := own_y9) hown (mvT hZ (own_w hw 31 rfl)) (mvT hZ (own_w hw 32 rfl)) (notFace_of_selects (args := #[]) (mvT hZ (own_w hw 34 rfl))) (mvT hZ (own_w hw 34 rfl)) (mvT hZ (own_w hw 33 rfl)) (by decide) (backOf (W := 1) (rm14 l Z a0 hw [] a (1 : Int32) g cs h0 n0 Z0 P0 P2 P3 P4) hZ (own_w hw 35 rfl) (own_w hw 7 rfl) (by decide) (by decide)) q6a q6c (g := (mkF m 4 #[.val (.ref a), .val (.int (1 : Int32)), .val (.int v0)] [(.ref a), (.int (1 : Int32))])) rfl (by rw [hml]; rfl) (Steps.refl _) (argsL := []) (rest := [(.int (1 : Int32))]) (lenOf pd_14 rfl) rfl own_2z (hb hby q13_4) (fun _ _ => ⟨rfl, eq2, (by decide : 0 + 0 ≤ _), (by decide : 0 + 0 ≤ _)⟩)
        dsimp only [Pt.U, Pt.locs, Pt.cells, Pt.slots] at X6 l6 y6 z6 st6 hQ6
        subst l6 y6 z6
        obtain ⟨rfl, Nq6, eq6⟩ := hQ6
        have N6 := Fr.app N2 Nq6
        refine oS (fun _ κ => st6.trans κ) ?_
        show oG _ _ _ _ (T6.setTop (mkF m 7 #[.val (.ref a), .val (.int (1 : Int32)), .val (.int v0)] [(.int (1 : Int32)), (.int (1 : Int32))]))
        refine oS (fun _ κ => XS.icmpYes X6.here hx rfl (pc0 := 7) (pc' := 42) rfl (hb hby q13_7) rfl (flt (by decide)).2.1 (by decide) (by decide) κ) ?_
        show oG _ _ _ _ (T6.setTop (mkF m 42 #[.val (.ref a), .val (.int (1 : Int32)), .val (.int v0)] []))
        refine oS (fun _ κ => XS.iconst X6.here hx rfl (hb hby q13_42) κ) ?_
        obtain ⟨fs, hr, hrun, hended, hW, hsame⟩ := X6.leave (v := some (.int (1 : Int32))) (fun h => by rw [Bd.returns] at h; cases h)
        refine ⟨_, _, retN X6 hx (t := .boolean) Bd.returns (by simp) (hb hby q13_43) hr, hrun, hended, _, _, rfl, ?_, ⟨_, rfl⟩, hW, hsame.mono (by decide) (by decide)⟩
        show Q54 Z a g v0 cs fv h0 n0 _ T6.heap _
        rw [eq6]
        exact ⟨(by rw [if_pos (own_brkN hc3 hc4 hc5)]), N6, rfl⟩
theorem ef_55 (m : MethodId) (a : Addr) : entryFrame m #[(.ref a)] 3 = mkF m 0 #[.val (.ref a), .unset, .unset] [] := by first | (simp [entryFrame, mkF, argsToLocals, Value.category]; done) | rfl
def Q55 (Z : State) (a : Addr) (g : Nat → Int32) (v0 : Int32) (v1 : Int32) (cs : Int32) (fv : Value) (h0 : Heap) (n0 : Nat) (v : Option Value) (h : Heap) (L : List Loc) : Prop := v = some (.int (if (own_brk v0) = (0 : Int32) then (if (own_brk v1) = (0 : Int32) then (1 : Int32) else (0 : Int32)) else (0 : Int32))) ∧ Fr n0 L ∧ h = h0
set_option maxRecDepth 65536 in
set_option maxHeartbeats 40000000 in
theorem rm55 (l : Launch) (Z : State) (a0 : Array Value) (hw : ∀ d ∈ tables_1, d.before a0 Z = true) (ws : List Jvm.Cond) (a : Addr) (g : Nat → Int32) (v0 : Int32) (v1 : Int32) (cs : Int32) (fv : Value) (h0 : Heap) (n0 : Nat) (Z0 : n0 ≤ h0.size) (P0 : own_S Z h0 a (2 : Int32) g) (P1 : Exa Z h0 a "java/lang/String") (P2 : Old Z n0 h0) (P3 : Sta Z Z.heap "java/lang/String" "COMPACT_STRINGS" "Z" (.int cs)) (P4 : ¬ cs = (0 : Int32)) (P5 : Sta Z Z.heap "jdk/internal/util/Preconditions" "SIOOBE_FORMATTER" "Ljava/util/function/BiFunction;" fv) (P6 : fv.isRef = true) (P7 : Sta Z Z.heap "java/lang/StringUTF16" "$assertionsDisabled" "Z" (.int (1 : Int32))) (P8 : Sta Z Z.heap "java/lang/StringUTF16" "HI_BYTE_SHIFT" "I" (.int (0 : Int32))) (P9 : Sta Z Z.heap "java/lang/StringUTF16" "LO_BYTE_SHIFT" "I" (.int (8 : Int32))) (P10 : g (0 : Int32).toNatClampNeg = v0) (P11 : g (1 : Int32).toNatClampNeg = v1) :
    MetFree l own_y0 (head1 (Jvm.Cond.code own_y0 prog_58_method_4_code 3 (some .boolean) :: ws) own_r25) (fun ar_ U => ar_ = #[(.ref a)] ∧ Z.Warmed39 U.vm ∧ U.heap = h0) (fun _ _ _ _ _ => True) (fun _ U oo_ U' => ∃ v L, oo_ = .returned v ∧ Q55 Z a g v0 v1 cs fv h0 n0 v U'.heap L ∧ FrameEnd U oo_ U' L own_r25.cells own_r25.slots) := by
  refine MetFree.of_bodySF (plainFor_of_name pn_5) hisR ?_
  intro p e s m args below meth c s₁ Bd hml0 hP hK
  obtain ⟨rfl, hZ, hh⟩ := hP
  have hx := Bd.exec
  have hby := Bd.bytes
  have hml : c.maxLocals = 3 := hml0
  have hown : s.vm.findClass "com/example/everrow/everrow/csv/CsvWriter" = some m.cls := findClass_of_methodNamed Bd.named
  have hnm := (name_of_methodNamed Bd.named Bd.method).1
  have X0 : Stand p l e own_r25 s m #[(.ref a)] below meth c s₁ [] 0 0 := Stand.of_body Bd
  have e0 : s₁.heap = h0 := by rw [← hh, Bd.state]; rfl
  have N0 := Fr.nil n0
  refine own_in (castTop (ef_55 m a)) ?_
  show oG _ _ _ _ (s₁.setTop (mkF m 0 #[.val (.ref a), .unset, .unset] []))
  refine oS (fun _ κ => XS.iconst X0.here hx rfl (hb hby q13_0) κ) ?_
  refine oS (fun _ κ => XS.istoreN X0.here hx rfl (hb hby q13_1) rfl (l' := #[.val (.ref a), .val (.int (0 : Int32)), .unset]) rfl κ) ?_
  refine oS (fun _ κ => XS.iloadN X0.here hx rfl (hb hby q13_2) rfl κ) ?_
  refine oS (fun _ κ => XS.aloadN X0.here hx rfl (hb hby q13_3) rfl rfl κ) ?_
  obtain ⟨cq1, kq1, q1a, q1b, q1c⟩ := isOf hZ e0 P1
  obtain ⟨vr1, _, ⟨T1, L1, k1, n1⟩, -, X1, ⟨Lc1, hQ1, l1, y1, z1⟩, st1⟩ := X0.virtualBack hx (y := own_y9) (z := own_y9) hown (mvT hZ (own_w hw 31 rfl)) (mvT hZ (own_w hw 32 rfl)) (notFace_of_selects (args := #[]) (mvT hZ (own_w hw 34 rfl))) (mvT hZ (own_w hw 34 rfl)) (mvT hZ (own_w hw 33 rfl)) (by decide) (backOf (W := 1) (rm14 l Z a0 hw [] a (2 : Int32) g cs h0 n0 Z0 P0 P2 P3 P4) hZ (own_w hw 35 rfl) (own_w hw 7 rfl) (by decide) (by decide)) q1a q1c (g := (mkF m 4 #[.val (.ref a), .val (.int (0 : Int32)), .unset] [(.ref a), (.int (0 : Int32))])) rfl (by rw [hml]; rfl) (Steps.refl _) (argsL := []) (rest := [(.int (0 : Int32))]) (lenOf pd_14 rfl) rfl own_2z (hb hby q13_4) (fun _ _ => ⟨rfl, e0, (by decide : 0 + 0 ≤ _), (by decide : 0 + 0 ≤ _)⟩)
  dsimp only [Pt.U, Pt.locs, Pt.cells, Pt.slots] at X1 l1 y1 z1 st1 hQ1
  subst l1 y1 z1
  obtain ⟨rfl, Nq1, eq1⟩ := hQ1
  have N1 := Fr.app N0 Nq1
  refine oS (fun _ κ => st1.trans κ) ?_
  show oG _ _ _ _ (T1.setTop (mkF m 7 #[.val (.ref a), .val (.int (0 : Int32)), .unset] [(.int (2 : Int32)), (.int (0 : Int32))]))
  refine oS (fun _ κ => XS.icmpNo X1.here hx rfl (hb hby q13_7) rfl (tlt (by decide)).2.1 κ) ?_
  show oG _ _ _ _ (T1.setTop (mkF m 10 #[.val (.ref a), .val (.int (0 : Int32)), .unset] []))
  refine oS (fun _ κ => XS.aloadN X1.here hx rfl (hb hby q13_10) rfl rfl κ) ?_
  refine oS (fun _ κ => XS.iloadN X1.here hx rfl (hb hby q13_11) rfl κ) ?_
  obtain ⟨cq2, kq2, q2a, q2b, q2c⟩ := isOf hZ eq1 P1
  obtain ⟨vr2, _, ⟨T2, L2, k2, n2⟩, -, X2, ⟨Lc2, hQ2, l2, y2, z2⟩, st2⟩ := X1.virtualBack hx (y := own_y5) (z := own_y5) hown (mvT hZ (own_w hw 55 rfl)) (mvT hZ (own_w hw 56 rfl)) (notFace_of_selects (args := #[]) (mvT hZ (own_w hw 58 rfl))) (mvT hZ (own_w hw 58 rfl)) (mvT hZ (own_w hw 57 rfl)) (by decide) (backOf (W := 0) (rm15 l Z a0 hw [] a (0 : Int32) (2 : Int32) g v0 cs fv h0 n0 Z0 P0 P2 P3 P4 P5 P6 P7 P8 P9 (by decide) (by decide) P10) hZ (own_w hw 59 rfl) (own_w hw 7 rfl) (by decide) (by decide)) q2a q2c (g := (mkF m 12 #[.val (.ref a), .val (.int (0 : Int32)), .unset] [(.int (0 : Int32)), (.ref a)])) rfl (by rw [hml]; rfl) (Steps.refl _) (argsL := [(.int (0 : Int32))]) (rest := []) (lenOf pd_15 rfl) rfl own_2z (hb hby q13_12) (fun _ _ => ⟨rfl, eq1, (by decide : 0 + 0 ≤ _), (by decide : 0 + 0 ≤ _)⟩)
  dsimp only [Pt.U, Pt.locs, Pt.cells, Pt.slots] at X2 l2 y2 z2 st2 hQ2
  subst l2 y2 z2
  obtain ⟨rfl, Nq2, eq2⟩ := hQ2
  have N2 := Fr.app N1 Nq2
  refine oS (fun _ κ => st2.trans κ) ?_
  show oG _ _ _ _ (T2.setTop (mkF m 15 #[.val (.ref a), .val (.int (0 : Int32)), .unset] [(.int v0)]))
  refine oS (fun _ κ => XS.istoreN X2.here hx rfl (hb hby q13_15) rfl (l' := #[.val (.ref a), .val (.int (0 : Int32)), .val (.int v0)]) rfl κ) ?_
  refine oS (fun _ κ => XS.iloadN X2.here hx rfl (hb hby q13_16) rfl κ) ?_
  refine oS (fun _ κ => XS.bipush X2.here hx rfl (hb hby q13_17) κ) ?_
  by_cases hc3 : v0 = (9 : Int32)
  · refine oS (fun _ κ => XS.icmpYes X2.here hx rfl (pc0 := 19) (pc' := 34) rfl (hb hby q13_19) rfl (teq hc3).1 (by decide) (by decide) κ) ?_
    show oG _ _ _ _ (T2.setTop (mkF m 34 #[.val (.ref a), .val (.int (0 : Int32)), .val (.int v0)] []))
    refine oS (fun _ κ => XS.iconst X2.here hx rfl (hb hby q13_34) κ) ?_
    obtain ⟨fs, hr, hrun, hended, hW, hsame⟩ := X2.leave (v := some (.int (0 : Int32))) (fun h => by rw [Bd.returns] at h; cases h)
    refine ⟨_, _, retN X2 hx (t := .boolean) Bd.returns (by simp) (hb hby q13_35) hr, hrun, hended, _, _, rfl, ?_, ⟨_, rfl⟩, hW, hsame.mono (by decide) (by decide)⟩
    show Q55 Z a g v0 v1 cs fv h0 n0 _ T2.heap _
    rw [eq2]
    exact ⟨(by rw [if_neg (own_brkY hc3 (by decide))]), N2, rfl⟩
  · refine oS (fun _ κ => XS.icmpNo X2.here hx rfl (hb hby q13_19) rfl (feq hc3).1 κ) ?_
    show oG _ _ _ _ (T2.setTop (mkF m 22 #[.val (.ref a), .val (.int (0 : Int32)), .val (.int v0)] []))
    refine oS (fun _ κ => XS.iloadN X2.here hx rfl (hb hby q13_22) rfl κ) ?_
    refine oS (fun _ κ => XS.bipush X2.here hx rfl (hb hby q13_23) κ) ?_
    by_cases hc4 : v0 = (13 : Int32)
    · refine oS (fun _ κ => XS.icmpYes X2.here hx rfl (pc0 := 25) (pc' := 34) rfl (hb hby q13_25) rfl (teq hc4).1 (by decide) (by decide) κ) ?_
      show oG _ _ _ _ (T2.setTop (mkF m 34 #[.val (.ref a), .val (.int (0 : Int32)), .val (.int v0)] []))
      refine oS (fun _ κ => XS.iconst X2.here hx rfl (hb hby q13_34) κ) ?_
      obtain ⟨fs, hr, hrun, hended, hW, hsame⟩ := X2.leave (v := some (.int (0 : Int32))) (fun h => by rw [Bd.returns] at h; cases h)
      refine ⟨_, _, retN X2 hx (t := .boolean) Bd.returns (by simp) (hb hby q13_35) hr, hrun, hended, _, _, rfl, ?_, ⟨_, rfl⟩, hW, hsame.mono (by decide) (by decide)⟩
      show Q55 Z a g v0 v1 cs fv h0 n0 _ T2.heap _
      rw [eq2]
      exact ⟨(by rw [if_neg (own_brkY hc4 (by decide))]), N2, rfl⟩
    · refine oS (fun _ κ => XS.icmpNo X2.here hx rfl (hb hby q13_25) rfl (feq hc4).1 κ) ?_
      show oG _ _ _ _ (T2.setTop (mkF m 28 #[.val (.ref a), .val (.int (0 : Int32)), .val (.int v0)] []))
      refine oS (fun _ κ => XS.iloadN X2.here hx rfl (hb hby q13_28) rfl κ) ?_
      refine oS (fun _ κ => XS.bipush X2.here hx rfl (hb hby q13_29) κ) ?_
      by_cases hc5 : v0 = (10 : Int32)
      · refine oS (fun _ κ => XS.icmpNo X2.here hx rfl (hb hby q13_31) rfl (teq hc5).2 κ) ?_
        show oG _ _ _ _ (T2.setTop (mkF m 34 #[.val (.ref a), .val (.int (0 : Int32)), .val (.int v0)] []))
        refine oS (fun _ κ => XS.iconst X2.here hx rfl (hb hby q13_34) κ) ?_
        obtain ⟨fs, hr, hrun, hended, hW, hsame⟩ := X2.leave (v := some (.int (0 : Int32))) (fun h => by rw [Bd.returns] at h; cases h)
        refine ⟨_, _, retN X2 hx (t := .boolean) Bd.returns (by simp) (hb hby q13_35) hr, hrun, hended, _, _, rfl, ?_, ⟨_, rfl⟩, hW, hsame.mono (by decide) (by decide)⟩
        show Q55 Z a g v0 v1 cs fv h0 n0 _ T2.heap _
        rw [eq2]
        exact ⟨(by rw [if_neg (own_brkY hc5 (by decide))]), N2, rfl⟩
      · refine oS (fun _ κ => XS.icmpYes X2.here hx rfl (pc0 := 31) (pc' := 36) rfl (hb hby q13_31) rfl (feq hc5).2 (by decide) (by decide) κ) ?_
        show oG _ _ _ _ (T2.setTop (mkF m 36 #[.val (.ref a), .val (.int (0 : Int32)), .val (.int v0)] []))
        refine oS (fun _ κ => XS.iinc X2.here hx rfl (hb hby q13_36) rfl (l' := #[.val (.ref a), .val (.int ((0 : Int32) + (1 : Int32))), .val (.int v0)]) rfl κ) ?_
        show oG _ _ _ _ (T2.setTop (mkF m 39 #[.val (.ref a), .val (.int ((0 : Int32) + (1 : Int32))), .val (.int v0)] []))
        rw [show (((0 : Int32) + (1 : Int32)) : Int32) = (1 : Int32) from by decide]
        show oG _ _ _ _ (T2.setTop (mkF m 39 #[.val (.ref a), .val (.int (1 : Int32)), .val (.int v0)] []))
        refine oS (fun _ κ => XS.goto X2.here hx rfl (pc0 := 39) (pc' := 2) rfl (hb hby q13_39) (by decide) (by decide) κ) ?_
        show oG _ _ _ _ (T2.setTop (mkF m 2 #[.val (.ref a), .val (.int (1 : Int32)), .val (.int v0)] []))
        refine oS (fun _ κ => XS.iloadN X2.here hx rfl (hb hby q13_2) rfl κ) ?_
        refine oS (fun _ κ => XS.aloadN X2.here hx rfl (hb hby q13_3) rfl rfl κ) ?_
        obtain ⟨cq6, kq6, q6a, q6b, q6c⟩ := isOf hZ eq2 P1
        obtain ⟨vr6, _, ⟨T6, L6, k6, n6⟩, -, X6, ⟨Lc6, hQ6, l6, y6, z6⟩, st6⟩ := X2.virtualBack hx (y := own_y9) (z := own_y9) hown (mvT hZ (own_w hw 31 rfl)) (mvT hZ (own_w hw 32 rfl)) (notFace_of_selects (args := #[]) (mvT hZ (own_w hw 34 rfl))) (mvT hZ (own_w hw 34 rfl)) (mvT hZ (own_w hw 33 rfl)) (by decide) (backOf (W := 1) (rm14 l Z a0 hw [] a (2 : Int32) g cs h0 n0 Z0 P0 P2 P3 P4) hZ (own_w hw 35 rfl) (own_w hw 7 rfl) (by decide) (by decide)) q6a q6c (g := (mkF m 4 #[.val (.ref a), .val (.int (1 : Int32)), .val (.int v0)] [(.ref a), (.int (1 : Int32))])) rfl (by rw [hml]; rfl) (Steps.refl _) (argsL := []) (rest := [(.int (1 : Int32))]) (lenOf pd_14 rfl) rfl own_2z (hb hby q13_4) (fun _ _ => ⟨rfl, eq2, (by decide : 0 + 0 ≤ _), (by decide : 0 + 0 ≤ _)⟩)
        dsimp only [Pt.U, Pt.locs, Pt.cells, Pt.slots] at X6 l6 y6 z6 st6 hQ6
        subst l6 y6 z6
        obtain ⟨rfl, Nq6, eq6⟩ := hQ6
        have N6 := Fr.app N2 Nq6
        refine oS (fun _ κ => st6.trans κ) ?_
        show oG _ _ _ _ (T6.setTop (mkF m 7 #[.val (.ref a), .val (.int (1 : Int32)), .val (.int v0)] [(.int (2 : Int32)), (.int (1 : Int32))]))
        refine oS (fun _ κ => XS.icmpNo X6.here hx rfl (hb hby q13_7) rfl (tlt (by decide)).2.1 κ) ?_
        show oG _ _ _ _ (T6.setTop (mkF m 10 #[.val (.ref a), .val (.int (1 : Int32)), .val (.int v0)] []))
        refine oS (fun _ κ => XS.aloadN X6.here hx rfl (hb hby q13_10) rfl rfl κ) ?_
        refine oS (fun _ κ => XS.iloadN X6.here hx rfl (hb hby q13_11) rfl κ) ?_
        obtain ⟨cq7, kq7, q7a, q7b, q7c⟩ := isOf hZ eq6 P1
        obtain ⟨vr7, _, ⟨T7, L7, k7, n7⟩, -, X7, ⟨Lc7, hQ7, l7, y7, z7⟩, st7⟩ := X6.virtualBack hx (y := own_y5) (z := own_y5) hown (mvT hZ (own_w hw 55 rfl)) (mvT hZ (own_w hw 56 rfl)) (notFace_of_selects (args := #[]) (mvT hZ (own_w hw 58 rfl))) (mvT hZ (own_w hw 58 rfl)) (mvT hZ (own_w hw 57 rfl)) (by decide) (backOf (W := 0) (rm15 l Z a0 hw [] a (1 : Int32) (2 : Int32) g v1 cs fv h0 n0 Z0 P0 P2 P3 P4 P5 P6 P7 P8 P9 (by decide) (by decide) P11) hZ (own_w hw 59 rfl) (own_w hw 7 rfl) (by decide) (by decide)) q7a q7c (g := (mkF m 12 #[.val (.ref a), .val (.int (1 : Int32)), .val (.int v0)] [(.int (1 : Int32)), (.ref a)])) rfl (by rw [hml]; rfl) (Steps.refl _) (argsL := [(.int (1 : Int32))]) (rest := []) (lenOf pd_15 rfl) rfl own_2z (hb hby q13_12) (fun _ _ => ⟨rfl, eq6, (by decide : 0 + 0 ≤ _), (by decide : 0 + 0 ≤ _)⟩)
        dsimp only [Pt.U, Pt.locs, Pt.cells, Pt.slots] at X7 l7 y7 z7 st7 hQ7
        subst l7 y7 z7
        obtain ⟨rfl, Nq7, eq7⟩ := hQ7
        have N7 := Fr.app N6 Nq7
        refine oS (fun _ κ => st7.trans κ) ?_
        show oG _ _ _ _ (T7.setTop (mkF m 15 #[.val (.ref a), .val (.int (1 : Int32)), .val (.int v0)] [(.int v1)]))
        refine oS (fun _ κ => XS.istoreN X7.here hx rfl (hb hby q13_15) rfl (l' := #[.val (.ref a), .val (.int (1 : Int32)), .val (.int v1)]) rfl κ) ?_
        refine oS (fun _ κ => XS.iloadN X7.here hx rfl (hb hby q13_16) rfl κ) ?_
        refine oS (fun _ κ => XS.bipush X7.here hx rfl (hb hby q13_17) κ) ?_
        by_cases hc8 : v1 = (9 : Int32)
        · refine oS (fun _ κ => XS.icmpYes X7.here hx rfl (pc0 := 19) (pc' := 34) rfl (hb hby q13_19) rfl (teq hc8).1 (by decide) (by decide) κ) ?_
          show oG _ _ _ _ (T7.setTop (mkF m 34 #[.val (.ref a), .val (.int (1 : Int32)), .val (.int v1)] []))
          refine oS (fun _ κ => XS.iconst X7.here hx rfl (hb hby q13_34) κ) ?_
          obtain ⟨fs, hr, hrun, hended, hW, hsame⟩ := X7.leave (v := some (.int (0 : Int32))) (fun h => by rw [Bd.returns] at h; cases h)
          refine ⟨_, _, retN X7 hx (t := .boolean) Bd.returns (by simp) (hb hby q13_35) hr, hrun, hended, _, _, rfl, ?_, ⟨_, rfl⟩, hW, hsame.mono (by decide) (by decide)⟩
          show Q55 Z a g v0 v1 cs fv h0 n0 _ T7.heap _
          rw [eq7]
          exact ⟨(by rw [if_pos (own_brkN hc3 hc4 hc5), if_neg (own_brkY hc8 (by decide))]), N7, rfl⟩
        · refine oS (fun _ κ => XS.icmpNo X7.here hx rfl (hb hby q13_19) rfl (feq hc8).1 κ) ?_
          show oG _ _ _ _ (T7.setTop (mkF m 22 #[.val (.ref a), .val (.int (1 : Int32)), .val (.int v1)] []))
          refine oS (fun _ κ => XS.iloadN X7.here hx rfl (hb hby q13_22) rfl κ) ?_
          refine oS (fun _ κ => XS.bipush X7.here hx rfl (hb hby q13_23) κ) ?_
          by_cases hc9 : v1 = (13 : Int32)
          · refine oS (fun _ κ => XS.icmpYes X7.here hx rfl (pc0 := 25) (pc' := 34) rfl (hb hby q13_25) rfl (teq hc9).1 (by decide) (by decide) κ) ?_
            show oG _ _ _ _ (T7.setTop (mkF m 34 #[.val (.ref a), .val (.int (1 : Int32)), .val (.int v1)] []))
            refine oS (fun _ κ => XS.iconst X7.here hx rfl (hb hby q13_34) κ) ?_
            obtain ⟨fs, hr, hrun, hended, hW, hsame⟩ := X7.leave (v := some (.int (0 : Int32))) (fun h => by rw [Bd.returns] at h; cases h)
            refine ⟨_, _, retN X7 hx (t := .boolean) Bd.returns (by simp) (hb hby q13_35) hr, hrun, hended, _, _, rfl, ?_, ⟨_, rfl⟩, hW, hsame.mono (by decide) (by decide)⟩
            show Q55 Z a g v0 v1 cs fv h0 n0 _ T7.heap _
            rw [eq7]
            exact ⟨(by rw [if_pos (own_brkN hc3 hc4 hc5), if_neg (own_brkY hc9 (by decide))]), N7, rfl⟩
          · refine oS (fun _ κ => XS.icmpNo X7.here hx rfl (hb hby q13_25) rfl (feq hc9).1 κ) ?_
            show oG _ _ _ _ (T7.setTop (mkF m 28 #[.val (.ref a), .val (.int (1 : Int32)), .val (.int v1)] []))
            refine oS (fun _ κ => XS.iloadN X7.here hx rfl (hb hby q13_28) rfl κ) ?_
            refine oS (fun _ κ => XS.bipush X7.here hx rfl (hb hby q13_29) κ) ?_
            by_cases hc10 : v1 = (10 : Int32)
            · refine oS (fun _ κ => XS.icmpNo X7.here hx rfl (hb hby q13_31) rfl (teq hc10).2 κ) ?_
              show oG _ _ _ _ (T7.setTop (mkF m 34 #[.val (.ref a), .val (.int (1 : Int32)), .val (.int v1)] []))
              refine oS (fun _ κ => XS.iconst X7.here hx rfl (hb hby q13_34) κ) ?_
              obtain ⟨fs, hr, hrun, hended, hW, hsame⟩ := X7.leave (v := some (.int (0 : Int32))) (fun h => by rw [Bd.returns] at h; cases h)
              refine ⟨_, _, retN X7 hx (t := .boolean) Bd.returns (by simp) (hb hby q13_35) hr, hrun, hended, _, _, rfl, ?_, ⟨_, rfl⟩, hW, hsame.mono (by decide) (by decide)⟩
              show Q55 Z a g v0 v1 cs fv h0 n0 _ T7.heap _
              rw [eq7]
              exact ⟨(by rw [if_pos (own_brkN hc3 hc4 hc5), if_neg (own_brkY hc10 (by decide))]), N7, rfl⟩
            · refine oS (fun _ κ => XS.icmpYes X7.here hx rfl (pc0 := 31) (pc' := 36) rfl (hb hby q13_31) rfl (feq hc10).2 (by decide) (by decide) κ) ?_
              show oG _ _ _ _ (T7.setTop (mkF m 36 #[.val (.ref a), .val (.int (1 : Int32)), .val (.int v1)] []))
              refine oS (fun _ κ => XS.iinc X7.here hx rfl (hb hby q13_36) rfl (l' := #[.val (.ref a), .val (.int ((1 : Int32) + (1 : Int32))), .val (.int v1)]) rfl κ) ?_
              show oG _ _ _ _ (T7.setTop (mkF m 39 #[.val (.ref a), .val (.int ((1 : Int32) + (1 : Int32))), .val (.int v1)] []))
              rw [show (((1 : Int32) + (1 : Int32)) : Int32) = (2 : Int32) from by decide]
              show oG _ _ _ _ (T7.setTop (mkF m 39 #[.val (.ref a), .val (.int (2 : Int32)), .val (.int v1)] []))
              refine oS (fun _ κ => XS.goto X7.here hx rfl (pc0 := 39) (pc' := 2) rfl (hb hby q13_39) (by decide) (by decide) κ) ?_
              show oG _ _ _ _ (T7.setTop (mkF m 2 #[.val (.ref a), .val (.int (2 : Int32)), .val (.int v1)] []))
              refine oS (fun _ κ => XS.iloadN X7.here hx rfl (hb hby q13_2) rfl κ) ?_
              refine oS (fun _ κ => XS.aloadN X7.here hx rfl (hb hby q13_3) rfl rfl κ) ?_
              obtain ⟨cq11, kq11, q11a, q11b, q11c⟩ := isOf hZ eq7 P1
              obtain ⟨vr11, _, ⟨T11, L11, k11, n11⟩, -, X11, ⟨Lc11, hQ11, l11, y11, z11⟩, st11⟩ := X7.virtualBack hx (y := own_y9) (z := own_y9) hown (mvT hZ (own_w hw 31 rfl)) (mvT hZ (own_w hw 32 rfl)) (notFace_of_selects (args := #[]) (mvT hZ (own_w hw 34 rfl))) (mvT hZ (own_w hw 34 rfl)) (mvT hZ (own_w hw 33 rfl)) (by decide) (backOf (W := 1) (rm14 l Z a0 hw [] a (2 : Int32) g cs h0 n0 Z0 P0 P2 P3 P4) hZ (own_w hw 35 rfl) (own_w hw 7 rfl) (by decide) (by decide)) q11a q11c (g := (mkF m 4 #[.val (.ref a), .val (.int (2 : Int32)), .val (.int v1)] [(.ref a), (.int (2 : Int32))])) rfl (by rw [hml]; rfl) (Steps.refl _) (argsL := []) (rest := [(.int (2 : Int32))]) (lenOf pd_14 rfl) rfl own_2z (hb hby q13_4) (fun _ _ => ⟨rfl, eq7, (by decide : 0 + 0 ≤ _), (by decide : 0 + 0 ≤ _)⟩)
              dsimp only [Pt.U, Pt.locs, Pt.cells, Pt.slots] at X11 l11 y11 z11 st11 hQ11
              subst l11 y11 z11
              obtain ⟨rfl, Nq11, eq11⟩ := hQ11
              have N11 := Fr.app N7 Nq11
              refine oS (fun _ κ => st11.trans κ) ?_
              show oG _ _ _ _ (T11.setTop (mkF m 7 #[.val (.ref a), .val (.int (2 : Int32)), .val (.int v1)] [(.int (2 : Int32)), (.int (2 : Int32))]))
              refine oS (fun _ κ => XS.icmpYes X11.here hx rfl (pc0 := 7) (pc' := 42) rfl (hb hby q13_7) rfl (flt (by decide)).2.1 (by decide) (by decide) κ) ?_
              show oG _ _ _ _ (T11.setTop (mkF m 42 #[.val (.ref a), .val (.int (2 : Int32)), .val (.int v1)] []))
              refine oS (fun _ κ => XS.iconst X11.here hx rfl (hb hby q13_42) κ) ?_
              obtain ⟨fs, hr, hrun, hended, hW, hsame⟩ := X11.leave (v := some (.int (1 : Int32))) (fun h => by rw [Bd.returns] at h; cases h)
              refine ⟨_, _, retN X11 hx (t := .boolean) Bd.returns (by simp) (hb hby q13_43) hr, hrun, hended, _, _, rfl, ?_, ⟨_, rfl⟩, hW, hsame.mono (by decide) (by decide)⟩
              show Q55 Z a g v0 v1 cs fv h0 n0 _ T11.heap _
              rw [eq11]
              exact ⟨(by rw [if_pos (own_brkN hc3 hc4 hc5), if_pos (own_brkN hc8 hc9 hc10)]), N11, rfl⟩
theorem ef_56 (m : MethodId) (a : Addr) : entryFrame m #[(.ref a)] 3 = mkF m 0 #[.val (.ref a), .unset, .unset] [] := by first | (simp [entryFrame, mkF, argsToLocals, Value.category]; done) | rfl
def Q56 (Z : State) (a : Addr) (g : Nat → Int32) (v0 : Int32) (v1 : Int32) (v2 : Int32) (cs : Int32) (fv : Value) (h0 : Heap) (n0 : Nat) (v : Option Value) (h : Heap) (L : List Loc) : Prop := v = some (.int (if (own_brk v0) = (0 : Int32) then (if (own_brk v1) = (0 : Int32) then (if (own_brk v2) = (0 : Int32) then (1 : Int32) else (0 : Int32)) else (0 : Int32)) else (0 : Int32))) ∧ Fr n0 L ∧ h = h0
set_option maxRecDepth 65536 in
set_option maxHeartbeats 40000000 in
theorem rm56 (l : Launch) (Z : State) (a0 : Array Value) (hw : ∀ d ∈ tables_1, d.before a0 Z = true) (ws : List Jvm.Cond) (a : Addr) (g : Nat → Int32) (v0 : Int32) (v1 : Int32) (v2 : Int32) (cs : Int32) (fv : Value) (h0 : Heap) (n0 : Nat) (Z0 : n0 ≤ h0.size) (P0 : own_S Z h0 a (3 : Int32) g) (P1 : Exa Z h0 a "java/lang/String") (P2 : Old Z n0 h0) (P3 : Sta Z Z.heap "java/lang/String" "COMPACT_STRINGS" "Z" (.int cs)) (P4 : ¬ cs = (0 : Int32)) (P5 : Sta Z Z.heap "jdk/internal/util/Preconditions" "SIOOBE_FORMATTER" "Ljava/util/function/BiFunction;" fv) (P6 : fv.isRef = true) (P7 : Sta Z Z.heap "java/lang/StringUTF16" "$assertionsDisabled" "Z" (.int (1 : Int32))) (P8 : Sta Z Z.heap "java/lang/StringUTF16" "HI_BYTE_SHIFT" "I" (.int (0 : Int32))) (P9 : Sta Z Z.heap "java/lang/StringUTF16" "LO_BYTE_SHIFT" "I" (.int (8 : Int32))) (P10 : g (0 : Int32).toNatClampNeg = v0) (P11 : g (1 : Int32).toNatClampNeg = v1) (P12 : g (2 : Int32).toNatClampNeg = v2) :
    MetFree l own_y0 (head1 (Jvm.Cond.code own_y0 prog_58_method_4_code 3 (some .boolean) :: ws) own_r25) (fun ar_ U => ar_ = #[(.ref a)] ∧ Z.Warmed39 U.vm ∧ U.heap = h0) (fun _ _ _ _ _ => True) (fun _ U oo_ U' => ∃ v L, oo_ = .returned v ∧ Q56 Z a g v0 v1 v2 cs fv h0 n0 v U'.heap L ∧ FrameEnd U oo_ U' L own_r25.cells own_r25.slots) := by
  refine MetFree.of_bodySF (plainFor_of_name pn_5) hisR ?_
  intro p e s m args below meth c s₁ Bd hml0 hP hK
  obtain ⟨rfl, hZ, hh⟩ := hP
  have hx := Bd.exec
  have hby := Bd.bytes
  have hml : c.maxLocals = 3 := hml0
  have hown : s.vm.findClass "com/example/everrow/everrow/csv/CsvWriter" = some m.cls := findClass_of_methodNamed Bd.named
  have hnm := (name_of_methodNamed Bd.named Bd.method).1
  have X0 : Stand p l e own_r25 s m #[(.ref a)] below meth c s₁ [] 0 0 := Stand.of_body Bd
  have e0 : s₁.heap = h0 := by rw [← hh, Bd.state]; rfl
  have N0 := Fr.nil n0
  refine own_in (castTop (ef_56 m a)) ?_
  show oG _ _ _ _ (s₁.setTop (mkF m 0 #[.val (.ref a), .unset, .unset] []))
  refine oS (fun _ κ => XS.iconst X0.here hx rfl (hb hby q13_0) κ) ?_
  refine oS (fun _ κ => XS.istoreN X0.here hx rfl (hb hby q13_1) rfl (l' := #[.val (.ref a), .val (.int (0 : Int32)), .unset]) rfl κ) ?_
  refine oS (fun _ κ => XS.iloadN X0.here hx rfl (hb hby q13_2) rfl κ) ?_
  refine oS (fun _ κ => XS.aloadN X0.here hx rfl (hb hby q13_3) rfl rfl κ) ?_
  obtain ⟨cq1, kq1, q1a, q1b, q1c⟩ := isOf hZ e0 P1
  obtain ⟨vr1, _, ⟨T1, L1, k1, n1⟩, -, X1, ⟨Lc1, hQ1, l1, y1, z1⟩, st1⟩ := X0.virtualBack hx (y := own_y9) (z := own_y9) hown (mvT hZ (own_w hw 31 rfl)) (mvT hZ (own_w hw 32 rfl)) (notFace_of_selects (args := #[]) (mvT hZ (own_w hw 34 rfl))) (mvT hZ (own_w hw 34 rfl)) (mvT hZ (own_w hw 33 rfl)) (by decide) (backOf (W := 1) (rm14 l Z a0 hw [] a (3 : Int32) g cs h0 n0 Z0 P0 P2 P3 P4) hZ (own_w hw 35 rfl) (own_w hw 7 rfl) (by decide) (by decide)) q1a q1c (g := (mkF m 4 #[.val (.ref a), .val (.int (0 : Int32)), .unset] [(.ref a), (.int (0 : Int32))])) rfl (by rw [hml]; rfl) (Steps.refl _) (argsL := []) (rest := [(.int (0 : Int32))]) (lenOf pd_14 rfl) rfl own_2z (hb hby q13_4) (fun _ _ => ⟨rfl, e0, (by decide : 0 + 0 ≤ _), (by decide : 0 + 0 ≤ _)⟩)
  dsimp only [Pt.U, Pt.locs, Pt.cells, Pt.slots] at X1 l1 y1 z1 st1 hQ1
  subst l1 y1 z1
  obtain ⟨rfl, Nq1, eq1⟩ := hQ1
  have N1 := Fr.app N0 Nq1
  refine oS (fun _ κ => st1.trans κ) ?_
  show oG _ _ _ _ (T1.setTop (mkF m 7 #[.val (.ref a), .val (.int (0 : Int32)), .unset] [(.int (3 : Int32)), (.int (0 : Int32))]))
  refine oS (fun _ κ => XS.icmpNo X1.here hx rfl (hb hby q13_7) rfl (tlt (by decide)).2.1 κ) ?_
  show oG _ _ _ _ (T1.setTop (mkF m 10 #[.val (.ref a), .val (.int (0 : Int32)), .unset] []))
  refine oS (fun _ κ => XS.aloadN X1.here hx rfl (hb hby q13_10) rfl rfl κ) ?_
  refine oS (fun _ κ => XS.iloadN X1.here hx rfl (hb hby q13_11) rfl κ) ?_
  obtain ⟨cq2, kq2, q2a, q2b, q2c⟩ := isOf hZ eq1 P1
  obtain ⟨vr2, _, ⟨T2, L2, k2, n2⟩, -, X2, ⟨Lc2, hQ2, l2, y2, z2⟩, st2⟩ := X1.virtualBack hx (y := own_y5) (z := own_y5) hown (mvT hZ (own_w hw 55 rfl)) (mvT hZ (own_w hw 56 rfl)) (notFace_of_selects (args := #[]) (mvT hZ (own_w hw 58 rfl))) (mvT hZ (own_w hw 58 rfl)) (mvT hZ (own_w hw 57 rfl)) (by decide) (backOf (W := 0) (rm15 l Z a0 hw [] a (0 : Int32) (3 : Int32) g v0 cs fv h0 n0 Z0 P0 P2 P3 P4 P5 P6 P7 P8 P9 (by decide) (by decide) P10) hZ (own_w hw 59 rfl) (own_w hw 7 rfl) (by decide) (by decide)) q2a q2c (g := (mkF m 12 #[.val (.ref a), .val (.int (0 : Int32)), .unset] [(.int (0 : Int32)), (.ref a)])) rfl (by rw [hml]; rfl) (Steps.refl _) (argsL := [(.int (0 : Int32))]) (rest := []) (lenOf pd_15 rfl) rfl own_2z (hb hby q13_12) (fun _ _ => ⟨rfl, eq1, (by decide : 0 + 0 ≤ _), (by decide : 0 + 0 ≤ _)⟩)
  dsimp only [Pt.U, Pt.locs, Pt.cells, Pt.slots] at X2 l2 y2 z2 st2 hQ2
  subst l2 y2 z2
  obtain ⟨rfl, Nq2, eq2⟩ := hQ2
  have N2 := Fr.app N1 Nq2
  refine oS (fun _ κ => st2.trans κ) ?_
  show oG _ _ _ _ (T2.setTop (mkF m 15 #[.val (.ref a), .val (.int (0 : Int32)), .unset] [(.int v0)]))
  refine oS (fun _ κ => XS.istoreN X2.here hx rfl (hb hby q13_15) rfl (l' := #[.val (.ref a), .val (.int (0 : Int32)), .val (.int v0)]) rfl κ) ?_
  refine oS (fun _ κ => XS.iloadN X2.here hx rfl (hb hby q13_16) rfl κ) ?_
  refine oS (fun _ κ => XS.bipush X2.here hx rfl (hb hby q13_17) κ) ?_
  by_cases hc3 : v0 = (9 : Int32)
  · refine oS (fun _ κ => XS.icmpYes X2.here hx rfl (pc0 := 19) (pc' := 34) rfl (hb hby q13_19) rfl (teq hc3).1 (by decide) (by decide) κ) ?_
    show oG _ _ _ _ (T2.setTop (mkF m 34 #[.val (.ref a), .val (.int (0 : Int32)), .val (.int v0)] []))
    refine oS (fun _ κ => XS.iconst X2.here hx rfl (hb hby q13_34) κ) ?_
    obtain ⟨fs, hr, hrun, hended, hW, hsame⟩ := X2.leave (v := some (.int (0 : Int32))) (fun h => by rw [Bd.returns] at h; cases h)
    refine ⟨_, _, retN X2 hx (t := .boolean) Bd.returns (by simp) (hb hby q13_35) hr, hrun, hended, _, _, rfl, ?_, ⟨_, rfl⟩, hW, hsame.mono (by decide) (by decide)⟩
    show Q56 Z a g v0 v1 v2 cs fv h0 n0 _ T2.heap _
    rw [eq2]
    exact ⟨(by rw [if_neg (own_brkY hc3 (by decide))]), N2, rfl⟩
  · refine oS (fun _ κ => XS.icmpNo X2.here hx rfl (hb hby q13_19) rfl (feq hc3).1 κ) ?_
    show oG _ _ _ _ (T2.setTop (mkF m 22 #[.val (.ref a), .val (.int (0 : Int32)), .val (.int v0)] []))
    refine oS (fun _ κ => XS.iloadN X2.here hx rfl (hb hby q13_22) rfl κ) ?_
    refine oS (fun _ κ => XS.bipush X2.here hx rfl (hb hby q13_23) κ) ?_
    by_cases hc4 : v0 = (13 : Int32)
    · refine oS (fun _ κ => XS.icmpYes X2.here hx rfl (pc0 := 25) (pc' := 34) rfl (hb hby q13_25) rfl (teq hc4).1 (by decide) (by decide) κ) ?_
      show oG _ _ _ _ (T2.setTop (mkF m 34 #[.val (.ref a), .val (.int (0 : Int32)), .val (.int v0)] []))
      refine oS (fun _ κ => XS.iconst X2.here hx rfl (hb hby q13_34) κ) ?_
      obtain ⟨fs, hr, hrun, hended, hW, hsame⟩ := X2.leave (v := some (.int (0 : Int32))) (fun h => by rw [Bd.returns] at h; cases h)
      refine ⟨_, _, retN X2 hx (t := .boolean) Bd.returns (by simp) (hb hby q13_35) hr, hrun, hended, _, _, rfl, ?_, ⟨_, rfl⟩, hW, hsame.mono (by decide) (by decide)⟩
      show Q56 Z a g v0 v1 v2 cs fv h0 n0 _ T2.heap _
      rw [eq2]
      exact ⟨(by rw [if_neg (own_brkY hc4 (by decide))]), N2, rfl⟩
    · refine oS (fun _ κ => XS.icmpNo X2.here hx rfl (hb hby q13_25) rfl (feq hc4).1 κ) ?_
      show oG _ _ _ _ (T2.setTop (mkF m 28 #[.val (.ref a), .val (.int (0 : Int32)), .val (.int v0)] []))
      refine oS (fun _ κ => XS.iloadN X2.here hx rfl (hb hby q13_28) rfl κ) ?_
      refine oS (fun _ κ => XS.bipush X2.here hx rfl (hb hby q13_29) κ) ?_
      by_cases hc5 : v0 = (10 : Int32)
      · refine oS (fun _ κ => XS.icmpNo X2.here hx rfl (hb hby q13_31) rfl (teq hc5).2 κ) ?_
        show oG _ _ _ _ (T2.setTop (mkF m 34 #[.val (.ref a), .val (.int (0 : Int32)), .val (.int v0)] []))
        refine oS (fun _ κ => XS.iconst X2.here hx rfl (hb hby q13_34) κ) ?_
        obtain ⟨fs, hr, hrun, hended, hW, hsame⟩ := X2.leave (v := some (.int (0 : Int32))) (fun h => by rw [Bd.returns] at h; cases h)
        refine ⟨_, _, retN X2 hx (t := .boolean) Bd.returns (by simp) (hb hby q13_35) hr, hrun, hended, _, _, rfl, ?_, ⟨_, rfl⟩, hW, hsame.mono (by decide) (by decide)⟩
        show Q56 Z a g v0 v1 v2 cs fv h0 n0 _ T2.heap _
        rw [eq2]
        exact ⟨(by rw [if_neg (own_brkY hc5 (by decide))]), N2, rfl⟩
      · refine oS (fun _ κ => XS.icmpYes X2.here hx rfl (pc0 := 31) (pc' := 36) rfl (hb hby q13_31) rfl (feq hc5).2 (by decide) (by decide) κ) ?_
        show oG _ _ _ _ (T2.setTop (mkF m 36 #[.val (.ref a), .val (.int (0 : Int32)), .val (.int v0)] []))
        refine oS (fun _ κ => XS.iinc X2.here hx rfl (hb hby q13_36) rfl (l' := #[.val (.ref a), .val (.int ((0 : Int32) + (1 : Int32))), .val (.int v0)]) rfl κ) ?_
        show oG _ _ _ _ (T2.setTop (mkF m 39 #[.val (.ref a), .val (.int ((0 : Int32) + (1 : Int32))), .val (.int v0)] []))
        rw [show (((0 : Int32) + (1 : Int32)) : Int32) = (1 : Int32) from by decide]
        show oG _ _ _ _ (T2.setTop (mkF m 39 #[.val (.ref a), .val (.int (1 : Int32)), .val (.int v0)] []))
        refine oS (fun _ κ => XS.goto X2.here hx rfl (pc0 := 39) (pc' := 2) rfl (hb hby q13_39) (by decide) (by decide) κ) ?_
        show oG _ _ _ _ (T2.setTop (mkF m 2 #[.val (.ref a), .val (.int (1 : Int32)), .val (.int v0)] []))
        refine oS (fun _ κ => XS.iloadN X2.here hx rfl (hb hby q13_2) rfl κ) ?_
        refine oS (fun _ κ => XS.aloadN X2.here hx rfl (hb hby q13_3) rfl rfl κ) ?_
        obtain ⟨cq6, kq6, q6a, q6b, q6c⟩ := isOf hZ eq2 P1
        obtain ⟨vr6, _, ⟨T6, L6, k6, n6⟩, -, X6, ⟨Lc6, hQ6, l6, y6, z6⟩, st6⟩ := X2.virtualBack hx (y := own_y9) (z := own_y9) hown (mvT hZ (own_w hw 31 rfl)) (mvT hZ (own_w hw 32 rfl)) (notFace_of_selects (args := #[]) (mvT hZ (own_w hw 34 rfl))) (mvT hZ (own_w hw 34 rfl)) (mvT hZ (own_w hw 33 rfl)) (by decide) (backOf (W := 1) (rm14 l Z a0 hw [] a (3 : Int32) g cs h0 n0 Z0 P0 P2 P3 P4) hZ (own_w hw 35 rfl) (own_w hw 7 rfl) (by decide) (by decide)) q6a q6c (g := (mkF m 4 #[.val (.ref a), .val (.int (1 : Int32)), .val (.int v0)] [(.ref a), (.int (1 : Int32))])) rfl (by rw [hml]; rfl) (Steps.refl _) (argsL := []) (rest := [(.int (1 : Int32))]) (lenOf pd_14 rfl) rfl own_2z (hb hby q13_4) (fun _ _ => ⟨rfl, eq2, (by decide : 0 + 0 ≤ _), (by decide : 0 + 0 ≤ _)⟩)
        dsimp only [Pt.U, Pt.locs, Pt.cells, Pt.slots] at X6 l6 y6 z6 st6 hQ6
        subst l6 y6 z6
        obtain ⟨rfl, Nq6, eq6⟩ := hQ6
        have N6 := Fr.app N2 Nq6
        refine oS (fun _ κ => st6.trans κ) ?_
        show oG _ _ _ _ (T6.setTop (mkF m 7 #[.val (.ref a), .val (.int (1 : Int32)), .val (.int v0)] [(.int (3 : Int32)), (.int (1 : Int32))]))
        refine oS (fun _ κ => XS.icmpNo X6.here hx rfl (hb hby q13_7) rfl (tlt (by decide)).2.1 κ) ?_
        show oG _ _ _ _ (T6.setTop (mkF m 10 #[.val (.ref a), .val (.int (1 : Int32)), .val (.int v0)] []))
        refine oS (fun _ κ => XS.aloadN X6.here hx rfl (hb hby q13_10) rfl rfl κ) ?_
        refine oS (fun _ κ => XS.iloadN X6.here hx rfl (hb hby q13_11) rfl κ) ?_
        obtain ⟨cq7, kq7, q7a, q7b, q7c⟩ := isOf hZ eq6 P1
        obtain ⟨vr7, _, ⟨T7, L7, k7, n7⟩, -, X7, ⟨Lc7, hQ7, l7, y7, z7⟩, st7⟩ := X6.virtualBack hx (y := own_y5) (z := own_y5) hown (mvT hZ (own_w hw 55 rfl)) (mvT hZ (own_w hw 56 rfl)) (notFace_of_selects (args := #[]) (mvT hZ (own_w hw 58 rfl))) (mvT hZ (own_w hw 58 rfl)) (mvT hZ (own_w hw 57 rfl)) (by decide) (backOf (W := 0) (rm15 l Z a0 hw [] a (1 : Int32) (3 : Int32) g v1 cs fv h0 n0 Z0 P0 P2 P3 P4 P5 P6 P7 P8 P9 (by decide) (by decide) P11) hZ (own_w hw 59 rfl) (own_w hw 7 rfl) (by decide) (by decide)) q7a q7c (g := (mkF m 12 #[.val (.ref a), .val (.int (1 : Int32)), .val (.int v0)] [(.int (1 : Int32)), (.ref a)])) rfl (by rw [hml]; rfl) (Steps.refl _) (argsL := [(.int (1 : Int32))]) (rest := []) (lenOf pd_15 rfl) rfl own_2z (hb hby q13_12) (fun _ _ => ⟨rfl, eq6, (by decide : 0 + 0 ≤ _), (by decide : 0 + 0 ≤ _)⟩)
        dsimp only [Pt.U, Pt.locs, Pt.cells, Pt.slots] at X7 l7 y7 z7 st7 hQ7
        subst l7 y7 z7
        obtain ⟨rfl, Nq7, eq7⟩ := hQ7
        have N7 := Fr.app N6 Nq7
        refine oS (fun _ κ => st7.trans κ) ?_
        show oG _ _ _ _ (T7.setTop (mkF m 15 #[.val (.ref a), .val (.int (1 : Int32)), .val (.int v0)] [(.int v1)]))
        refine oS (fun _ κ => XS.istoreN X7.here hx rfl (hb hby q13_15) rfl (l' := #[.val (.ref a), .val (.int (1 : Int32)), .val (.int v1)]) rfl κ) ?_
        refine oS (fun _ κ => XS.iloadN X7.here hx rfl (hb hby q13_16) rfl κ) ?_
        refine oS (fun _ κ => XS.bipush X7.here hx rfl (hb hby q13_17) κ) ?_
        by_cases hc8 : v1 = (9 : Int32)
        · refine oS (fun _ κ => XS.icmpYes X7.here hx rfl (pc0 := 19) (pc' := 34) rfl (hb hby q13_19) rfl (teq hc8).1 (by decide) (by decide) κ) ?_
          show oG _ _ _ _ (T7.setTop (mkF m 34 #[.val (.ref a), .val (.int (1 : Int32)), .val (.int v1)] []))
          refine oS (fun _ κ => XS.iconst X7.here hx rfl (hb hby q13_34) κ) ?_
          obtain ⟨fs, hr, hrun, hended, hW, hsame⟩ := X7.leave (v := some (.int (0 : Int32))) (fun h => by rw [Bd.returns] at h; cases h)
          refine ⟨_, _, retN X7 hx (t := .boolean) Bd.returns (by simp) (hb hby q13_35) hr, hrun, hended, _, _, rfl, ?_, ⟨_, rfl⟩, hW, hsame.mono (by decide) (by decide)⟩
          show Q56 Z a g v0 v1 v2 cs fv h0 n0 _ T7.heap _
          rw [eq7]
          exact ⟨(by rw [if_pos (own_brkN hc3 hc4 hc5), if_neg (own_brkY hc8 (by decide))]), N7, rfl⟩
        · refine oS (fun _ κ => XS.icmpNo X7.here hx rfl (hb hby q13_19) rfl (feq hc8).1 κ) ?_
          show oG _ _ _ _ (T7.setTop (mkF m 22 #[.val (.ref a), .val (.int (1 : Int32)), .val (.int v1)] []))
          refine oS (fun _ κ => XS.iloadN X7.here hx rfl (hb hby q13_22) rfl κ) ?_
          refine oS (fun _ κ => XS.bipush X7.here hx rfl (hb hby q13_23) κ) ?_
          by_cases hc9 : v1 = (13 : Int32)
          · refine oS (fun _ κ => XS.icmpYes X7.here hx rfl (pc0 := 25) (pc' := 34) rfl (hb hby q13_25) rfl (teq hc9).1 (by decide) (by decide) κ) ?_
            show oG _ _ _ _ (T7.setTop (mkF m 34 #[.val (.ref a), .val (.int (1 : Int32)), .val (.int v1)] []))
            refine oS (fun _ κ => XS.iconst X7.here hx rfl (hb hby q13_34) κ) ?_
            obtain ⟨fs, hr, hrun, hended, hW, hsame⟩ := X7.leave (v := some (.int (0 : Int32))) (fun h => by rw [Bd.returns] at h; cases h)
            refine ⟨_, _, retN X7 hx (t := .boolean) Bd.returns (by simp) (hb hby q13_35) hr, hrun, hended, _, _, rfl, ?_, ⟨_, rfl⟩, hW, hsame.mono (by decide) (by decide)⟩
            show Q56 Z a g v0 v1 v2 cs fv h0 n0 _ T7.heap _
            rw [eq7]
            exact ⟨(by rw [if_pos (own_brkN hc3 hc4 hc5), if_neg (own_brkY hc9 (by decide))]), N7, rfl⟩
          · refine oS (fun _ κ => XS.icmpNo X7.here hx rfl (hb hby q13_25) rfl (feq hc9).1 κ) ?_
            show oG _ _ _ _ (T7.setTop (mkF m 28 #[.val (.ref a), .val (.int (1 : Int32)), .val (.int v1)] []))
            refine oS (fun _ κ => XS.iloadN X7.here hx rfl (hb hby q13_28) rfl κ) ?_
            refine oS (fun _ κ => XS.bipush X7.here hx rfl (hb hby q13_29) κ) ?_
            by_cases hc10 : v1 = (10 : Int32)
            · refine oS (fun _ κ => XS.icmpNo X7.here hx rfl (hb hby q13_31) rfl (teq hc10).2 κ) ?_
              show oG _ _ _ _ (T7.setTop (mkF m 34 #[.val (.ref a), .val (.int (1 : Int32)), .val (.int v1)] []))
              refine oS (fun _ κ => XS.iconst X7.here hx rfl (hb hby q13_34) κ) ?_
              obtain ⟨fs, hr, hrun, hended, hW, hsame⟩ := X7.leave (v := some (.int (0 : Int32))) (fun h => by rw [Bd.returns] at h; cases h)
              refine ⟨_, _, retN X7 hx (t := .boolean) Bd.returns (by simp) (hb hby q13_35) hr, hrun, hended, _, _, rfl, ?_, ⟨_, rfl⟩, hW, hsame.mono (by decide) (by decide)⟩
              show Q56 Z a g v0 v1 v2 cs fv h0 n0 _ T7.heap _
              rw [eq7]
              exact ⟨(by rw [if_pos (own_brkN hc3 hc4 hc5), if_neg (own_brkY hc10 (by decide))]), N7, rfl⟩
            · refine oS (fun _ κ => XS.icmpYes X7.here hx rfl (pc0 := 31) (pc' := 36) rfl (hb hby q13_31) rfl (feq hc10).2 (by decide) (by decide) κ) ?_
              show oG _ _ _ _ (T7.setTop (mkF m 36 #[.val (.ref a), .val (.int (1 : Int32)), .val (.int v1)] []))
              refine oS (fun _ κ => XS.iinc X7.here hx rfl (hb hby q13_36) rfl (l' := #[.val (.ref a), .val (.int ((1 : Int32) + (1 : Int32))), .val (.int v1)]) rfl κ) ?_
              show oG _ _ _ _ (T7.setTop (mkF m 39 #[.val (.ref a), .val (.int ((1 : Int32) + (1 : Int32))), .val (.int v1)] []))
              rw [show (((1 : Int32) + (1 : Int32)) : Int32) = (2 : Int32) from by decide]
              show oG _ _ _ _ (T7.setTop (mkF m 39 #[.val (.ref a), .val (.int (2 : Int32)), .val (.int v1)] []))
              refine oS (fun _ κ => XS.goto X7.here hx rfl (pc0 := 39) (pc' := 2) rfl (hb hby q13_39) (by decide) (by decide) κ) ?_
              show oG _ _ _ _ (T7.setTop (mkF m 2 #[.val (.ref a), .val (.int (2 : Int32)), .val (.int v1)] []))
              refine oS (fun _ κ => XS.iloadN X7.here hx rfl (hb hby q13_2) rfl κ) ?_
              refine oS (fun _ κ => XS.aloadN X7.here hx rfl (hb hby q13_3) rfl rfl κ) ?_
              obtain ⟨cq11, kq11, q11a, q11b, q11c⟩ := isOf hZ eq7 P1
              obtain ⟨vr11, _, ⟨T11, L11, k11, n11⟩, -, X11, ⟨Lc11, hQ11, l11, y11, z11⟩, st11⟩ := X7.virtualBack hx (y := own_y9) (z := own_y9) hown (mvT hZ (own_w hw 31 rfl)) (mvT hZ (own_w hw 32 rfl)) (notFace_of_selects (args := #[]) (mvT hZ (own_w hw 34 rfl))) (mvT hZ (own_w hw 34 rfl)) (mvT hZ (own_w hw 33 rfl)) (by decide) (backOf (W := 1) (rm14 l Z a0 hw [] a (3 : Int32) g cs h0 n0 Z0 P0 P2 P3 P4) hZ (own_w hw 35 rfl) (own_w hw 7 rfl) (by decide) (by decide)) q11a q11c (g := (mkF m 4 #[.val (.ref a), .val (.int (2 : Int32)), .val (.int v1)] [(.ref a), (.int (2 : Int32))])) rfl (by rw [hml]; rfl) (Steps.refl _) (argsL := []) (rest := [(.int (2 : Int32))]) (lenOf pd_14 rfl) rfl own_2z (hb hby q13_4) (fun _ _ => ⟨rfl, eq7, (by decide : 0 + 0 ≤ _), (by decide : 0 + 0 ≤ _)⟩)
              dsimp only [Pt.U, Pt.locs, Pt.cells, Pt.slots] at X11 l11 y11 z11 st11 hQ11
              subst l11 y11 z11
              obtain ⟨rfl, Nq11, eq11⟩ := hQ11
              have N11 := Fr.app N7 Nq11
              refine oS (fun _ κ => st11.trans κ) ?_
              show oG _ _ _ _ (T11.setTop (mkF m 7 #[.val (.ref a), .val (.int (2 : Int32)), .val (.int v1)] [(.int (3 : Int32)), (.int (2 : Int32))]))
              refine oS (fun _ κ => XS.icmpNo X11.here hx rfl (hb hby q13_7) rfl (tlt (by decide)).2.1 κ) ?_
              show oG _ _ _ _ (T11.setTop (mkF m 10 #[.val (.ref a), .val (.int (2 : Int32)), .val (.int v1)] []))
              refine oS (fun _ κ => XS.aloadN X11.here hx rfl (hb hby q13_10) rfl rfl κ) ?_
              refine oS (fun _ κ => XS.iloadN X11.here hx rfl (hb hby q13_11) rfl κ) ?_
              obtain ⟨cq12, kq12, q12a, q12b, q12c⟩ := isOf hZ eq11 P1
              obtain ⟨vr12, _, ⟨T12, L12, k12, n12⟩, -, X12, ⟨Lc12, hQ12, l12, y12, z12⟩, st12⟩ := X11.virtualBack hx (y := own_y5) (z := own_y5) hown (mvT hZ (own_w hw 55 rfl)) (mvT hZ (own_w hw 56 rfl)) (notFace_of_selects (args := #[]) (mvT hZ (own_w hw 58 rfl))) (mvT hZ (own_w hw 58 rfl)) (mvT hZ (own_w hw 57 rfl)) (by decide) (backOf (W := 0) (rm15 l Z a0 hw [] a (2 : Int32) (3 : Int32) g v2 cs fv h0 n0 Z0 P0 P2 P3 P4 P5 P6 P7 P8 P9 (by decide) (by decide) P12) hZ (own_w hw 59 rfl) (own_w hw 7 rfl) (by decide) (by decide)) q12a q12c (g := (mkF m 12 #[.val (.ref a), .val (.int (2 : Int32)), .val (.int v1)] [(.int (2 : Int32)), (.ref a)])) rfl (by rw [hml]; rfl) (Steps.refl _) (argsL := [(.int (2 : Int32))]) (rest := []) (lenOf pd_15 rfl) rfl own_2z (hb hby q13_12) (fun _ _ => ⟨rfl, eq11, (by decide : 0 + 0 ≤ _), (by decide : 0 + 0 ≤ _)⟩)
              dsimp only [Pt.U, Pt.locs, Pt.cells, Pt.slots] at X12 l12 y12 z12 st12 hQ12
              subst l12 y12 z12
              obtain ⟨rfl, Nq12, eq12⟩ := hQ12
              have N12 := Fr.app N11 Nq12
              refine oS (fun _ κ => st12.trans κ) ?_
              show oG _ _ _ _ (T12.setTop (mkF m 15 #[.val (.ref a), .val (.int (2 : Int32)), .val (.int v1)] [(.int v2)]))
              refine oS (fun _ κ => XS.istoreN X12.here hx rfl (hb hby q13_15) rfl (l' := #[.val (.ref a), .val (.int (2 : Int32)), .val (.int v2)]) rfl κ) ?_
              refine oS (fun _ κ => XS.iloadN X12.here hx rfl (hb hby q13_16) rfl κ) ?_
              refine oS (fun _ κ => XS.bipush X12.here hx rfl (hb hby q13_17) κ) ?_
              by_cases hc13 : v2 = (9 : Int32)
              · refine oS (fun _ κ => XS.icmpYes X12.here hx rfl (pc0 := 19) (pc' := 34) rfl (hb hby q13_19) rfl (teq hc13).1 (by decide) (by decide) κ) ?_
                show oG _ _ _ _ (T12.setTop (mkF m 34 #[.val (.ref a), .val (.int (2 : Int32)), .val (.int v2)] []))
                refine oS (fun _ κ => XS.iconst X12.here hx rfl (hb hby q13_34) κ) ?_
                obtain ⟨fs, hr, hrun, hended, hW, hsame⟩ := X12.leave (v := some (.int (0 : Int32))) (fun h => by rw [Bd.returns] at h; cases h)
                refine ⟨_, _, retN X12 hx (t := .boolean) Bd.returns (by simp) (hb hby q13_35) hr, hrun, hended, _, _, rfl, ?_, ⟨_, rfl⟩, hW, hsame.mono (by decide) (by decide)⟩
                show Q56 Z a g v0 v1 v2 cs fv h0 n0 _ T12.heap _
                rw [eq12]
                exact ⟨(by rw [if_pos (own_brkN hc3 hc4 hc5), if_pos (own_brkN hc8 hc9 hc10), if_neg (own_brkY hc13 (by decide))]), N12, rfl⟩
              · refine oS (fun _ κ => XS.icmpNo X12.here hx rfl (hb hby q13_19) rfl (feq hc13).1 κ) ?_
                show oG _ _ _ _ (T12.setTop (mkF m 22 #[.val (.ref a), .val (.int (2 : Int32)), .val (.int v2)] []))
                refine oS (fun _ κ => XS.iloadN X12.here hx rfl (hb hby q13_22) rfl κ) ?_
                refine oS (fun _ κ => XS.bipush X12.here hx rfl (hb hby q13_23) κ) ?_
                by_cases hc14 : v2 = (13 : Int32)
                · refine oS (fun _ κ => XS.icmpYes X12.here hx rfl (pc0 := 25) (pc' := 34) rfl (hb hby q13_25) rfl (teq hc14).1 (by decide) (by decide) κ) ?_
                  show oG _ _ _ _ (T12.setTop (mkF m 34 #[.val (.ref a), .val (.int (2 : Int32)), .val (.int v2)] []))
                  refine oS (fun _ κ => XS.iconst X12.here hx rfl (hb hby q13_34) κ) ?_
                  obtain ⟨fs, hr, hrun, hended, hW, hsame⟩ := X12.leave (v := some (.int (0 : Int32))) (fun h => by rw [Bd.returns] at h; cases h)
                  refine ⟨_, _, retN X12 hx (t := .boolean) Bd.returns (by simp) (hb hby q13_35) hr, hrun, hended, _, _, rfl, ?_, ⟨_, rfl⟩, hW, hsame.mono (by decide) (by decide)⟩
                  show Q56 Z a g v0 v1 v2 cs fv h0 n0 _ T12.heap _
                  rw [eq12]
                  exact ⟨(by rw [if_pos (own_brkN hc3 hc4 hc5), if_pos (own_brkN hc8 hc9 hc10), if_neg (own_brkY hc14 (by decide))]), N12, rfl⟩
                · refine oS (fun _ κ => XS.icmpNo X12.here hx rfl (hb hby q13_25) rfl (feq hc14).1 κ) ?_
                  show oG _ _ _ _ (T12.setTop (mkF m 28 #[.val (.ref a), .val (.int (2 : Int32)), .val (.int v2)] []))
                  refine oS (fun _ κ => XS.iloadN X12.here hx rfl (hb hby q13_28) rfl κ) ?_
                  refine oS (fun _ κ => XS.bipush X12.here hx rfl (hb hby q13_29) κ) ?_
                  by_cases hc15 : v2 = (10 : Int32)
                  · refine oS (fun _ κ => XS.icmpNo X12.here hx rfl (hb hby q13_31) rfl (teq hc15).2 κ) ?_
                    show oG _ _ _ _ (T12.setTop (mkF m 34 #[.val (.ref a), .val (.int (2 : Int32)), .val (.int v2)] []))
                    refine oS (fun _ κ => XS.iconst X12.here hx rfl (hb hby q13_34) κ) ?_
                    obtain ⟨fs, hr, hrun, hended, hW, hsame⟩ := X12.leave (v := some (.int (0 : Int32))) (fun h => by rw [Bd.returns] at h; cases h)
                    refine ⟨_, _, retN X12 hx (t := .boolean) Bd.returns (by simp) (hb hby q13_35) hr, hrun, hended, _, _, rfl, ?_, ⟨_, rfl⟩, hW, hsame.mono (by decide) (by decide)⟩
                    show Q56 Z a g v0 v1 v2 cs fv h0 n0 _ T12.heap _
                    rw [eq12]
                    exact ⟨(by rw [if_pos (own_brkN hc3 hc4 hc5), if_pos (own_brkN hc8 hc9 hc10), if_neg (own_brkY hc15 (by decide))]), N12, rfl⟩
                  · refine oS (fun _ κ => XS.icmpYes X12.here hx rfl (pc0 := 31) (pc' := 36) rfl (hb hby q13_31) rfl (feq hc15).2 (by decide) (by decide) κ) ?_
                    show oG _ _ _ _ (T12.setTop (mkF m 36 #[.val (.ref a), .val (.int (2 : Int32)), .val (.int v2)] []))
                    refine oS (fun _ κ => XS.iinc X12.here hx rfl (hb hby q13_36) rfl (l' := #[.val (.ref a), .val (.int ((2 : Int32) + (1 : Int32))), .val (.int v2)]) rfl κ) ?_
                    show oG _ _ _ _ (T12.setTop (mkF m 39 #[.val (.ref a), .val (.int ((2 : Int32) + (1 : Int32))), .val (.int v2)] []))
                    rw [show (((2 : Int32) + (1 : Int32)) : Int32) = (3 : Int32) from by decide]
                    show oG _ _ _ _ (T12.setTop (mkF m 39 #[.val (.ref a), .val (.int (3 : Int32)), .val (.int v2)] []))
                    refine oS (fun _ κ => XS.goto X12.here hx rfl (pc0 := 39) (pc' := 2) rfl (hb hby q13_39) (by decide) (by decide) κ) ?_
                    show oG _ _ _ _ (T12.setTop (mkF m 2 #[.val (.ref a), .val (.int (3 : Int32)), .val (.int v2)] []))
                    refine oS (fun _ κ => XS.iloadN X12.here hx rfl (hb hby q13_2) rfl κ) ?_
                    refine oS (fun _ κ => XS.aloadN X12.here hx rfl (hb hby q13_3) rfl rfl κ) ?_
                    obtain ⟨cq16, kq16, q16a, q16b, q16c⟩ := isOf hZ eq12 P1
                    obtain ⟨vr16, _, ⟨T16, L16, k16, n16⟩, -, X16, ⟨Lc16, hQ16, l16, y16, z16⟩, st16⟩ := X12.virtualBack hx (y := own_y9) (z := own_y9) hown (mvT hZ (own_w hw 31 rfl)) (mvT hZ (own_w hw 32 rfl)) (notFace_of_selects (args := #[]) (mvT hZ (own_w hw 34 rfl))) (mvT hZ (own_w hw 34 rfl)) (mvT hZ (own_w hw 33 rfl)) (by decide) (backOf (W := 1) (rm14 l Z a0 hw [] a (3 : Int32) g cs h0 n0 Z0 P0 P2 P3 P4) hZ (own_w hw 35 rfl) (own_w hw 7 rfl) (by decide) (by decide)) q16a q16c (g := (mkF m 4 #[.val (.ref a), .val (.int (3 : Int32)), .val (.int v2)] [(.ref a), (.int (3 : Int32))])) rfl (by rw [hml]; rfl) (Steps.refl _) (argsL := []) (rest := [(.int (3 : Int32))]) (lenOf pd_14 rfl) rfl own_2z (hb hby q13_4) (fun _ _ => ⟨rfl, eq12, (by decide : 0 + 0 ≤ _), (by decide : 0 + 0 ≤ _)⟩)
                    dsimp only [Pt.U, Pt.locs, Pt.cells, Pt.slots] at X16 l16 y16 z16 st16 hQ16
                    subst l16 y16 z16
                    obtain ⟨rfl, Nq16, eq16⟩ := hQ16
                    have N16 := Fr.app N12 Nq16
                    refine oS (fun _ κ => st16.trans κ) ?_
                    show oG _ _ _ _ (T16.setTop (mkF m 7 #[.val (.ref a), .val (.int (3 : Int32)), .val (.int v2)] [(.int (3 : Int32)), (.int (3 : Int32))]))
                    refine oS (fun _ κ => XS.icmpYes X16.here hx rfl (pc0 := 7) (pc' := 42) rfl (hb hby q13_7) rfl (flt (by decide)).2.1 (by decide) (by decide) κ) ?_
                    show oG _ _ _ _ (T16.setTop (mkF m 42 #[.val (.ref a), .val (.int (3 : Int32)), .val (.int v2)] []))
                    refine oS (fun _ κ => XS.iconst X16.here hx rfl (hb hby q13_42) κ) ?_
                    obtain ⟨fs, hr, hrun, hended, hW, hsame⟩ := X16.leave (v := some (.int (1 : Int32))) (fun h => by rw [Bd.returns] at h; cases h)
                    refine ⟨_, _, retN X16 hx (t := .boolean) Bd.returns (by simp) (hb hby q13_43) hr, hrun, hended, _, _, rfl, ?_, ⟨_, rfl⟩, hW, hsame.mono (by decide) (by decide)⟩
                    show Q56 Z a g v0 v1 v2 cs fv h0 n0 _ T16.heap _
                    rw [eq16]
                    exact ⟨(by rw [if_pos (own_brkN hc3 hc4 hc5), if_pos (own_brkN hc8 hc9 hc10), if_pos (own_brkN hc13 hc14 hc15)]), N16, rfl⟩
theorem ef_57 (m : MethodId) (a : Addr) : entryFrame m #[(.ref a)] 3 = mkF m 0 #[.val (.ref a), .unset, .unset] [] := by first | (simp [entryFrame, mkF, argsToLocals, Value.category]; done) | rfl
def Q57 (Z : State) (a : Addr) (g : Nat → Int32) (v0 : Int32) (v1 : Int32) (v2 : Int32) (v3 : Int32) (cs : Int32) (fv : Value) (h0 : Heap) (n0 : Nat) (v : Option Value) (h : Heap) (L : List Loc) : Prop := v = some (.int (if (own_brk v0) = (0 : Int32) then (if (own_brk v1) = (0 : Int32) then (if (own_brk v2) = (0 : Int32) then (if (own_brk v3) = (0 : Int32) then (1 : Int32) else (0 : Int32)) else (0 : Int32)) else (0 : Int32)) else (0 : Int32))) ∧ Fr n0 L ∧ h = h0
set_option maxRecDepth 65536 in
set_option maxHeartbeats 40000000 in
theorem rm57 (l : Launch) (Z : State) (a0 : Array Value) (hw : ∀ d ∈ tables_1, d.before a0 Z = true) (ws : List Jvm.Cond) (a : Addr) (g : Nat → Int32) (v0 : Int32) (v1 : Int32) (v2 : Int32) (v3 : Int32) (cs : Int32) (fv : Value) (h0 : Heap) (n0 : Nat) (Z0 : n0 ≤ h0.size) (P0 : own_S Z h0 a (4 : Int32) g) (P1 : Exa Z h0 a "java/lang/String") (P2 : Old Z n0 h0) (P3 : Sta Z Z.heap "java/lang/String" "COMPACT_STRINGS" "Z" (.int cs)) (P4 : ¬ cs = (0 : Int32)) (P5 : Sta Z Z.heap "jdk/internal/util/Preconditions" "SIOOBE_FORMATTER" "Ljava/util/function/BiFunction;" fv) (P6 : fv.isRef = true) (P7 : Sta Z Z.heap "java/lang/StringUTF16" "$assertionsDisabled" "Z" (.int (1 : Int32))) (P8 : Sta Z Z.heap "java/lang/StringUTF16" "HI_BYTE_SHIFT" "I" (.int (0 : Int32))) (P9 : Sta Z Z.heap "java/lang/StringUTF16" "LO_BYTE_SHIFT" "I" (.int (8 : Int32))) (P10 : g (0 : Int32).toNatClampNeg = v0) (P11 : g (1 : Int32).toNatClampNeg = v1) (P12 : g (2 : Int32).toNatClampNeg = v2) (P13 : g (3 : Int32).toNatClampNeg = v3) :
    MetFree l own_y0 (head1 (Jvm.Cond.code own_y0 prog_58_method_4_code 3 (some .boolean) :: ws) own_r25) (fun ar_ U => ar_ = #[(.ref a)] ∧ Z.Warmed39 U.vm ∧ U.heap = h0) (fun _ _ _ _ _ => True) (fun _ U oo_ U' => ∃ v L, oo_ = .returned v ∧ Q57 Z a g v0 v1 v2 v3 cs fv h0 n0 v U'.heap L ∧ FrameEnd U oo_ U' L own_r25.cells own_r25.slots) := by
  refine MetFree.of_bodySF (plainFor_of_name pn_5) hisR ?_
  intro p e s m args below meth c s₁ Bd hml0 hP hK
  obtain ⟨rfl, hZ, hh⟩ := hP
  have hx := Bd.exec
  have hby := Bd.bytes
  have hml : c.maxLocals = 3 := hml0
  have hown : s.vm.findClass "com/example/everrow/everrow/csv/CsvWriter" = some m.cls := findClass_of_methodNamed Bd.named
  have hnm := (name_of_methodNamed Bd.named Bd.method).1
  have X0 : Stand p l e own_r25 s m #[(.ref a)] below meth c s₁ [] 0 0 := Stand.of_body Bd
  have e0 : s₁.heap = h0 := by rw [← hh, Bd.state]; rfl
  have N0 := Fr.nil n0
  refine own_in (castTop (ef_57 m a)) ?_
  show oG _ _ _ _ (s₁.setTop (mkF m 0 #[.val (.ref a), .unset, .unset] []))
  refine oS (fun _ κ => XS.iconst X0.here hx rfl (hb hby q13_0) κ) ?_
  refine oS (fun _ κ => XS.istoreN X0.here hx rfl (hb hby q13_1) rfl (l' := #[.val (.ref a), .val (.int (0 : Int32)), .unset]) rfl κ) ?_
  refine oS (fun _ κ => XS.iloadN X0.here hx rfl (hb hby q13_2) rfl κ) ?_
  refine oS (fun _ κ => XS.aloadN X0.here hx rfl (hb hby q13_3) rfl rfl κ) ?_
  obtain ⟨cq1, kq1, q1a, q1b, q1c⟩ := isOf hZ e0 P1
  obtain ⟨vr1, _, ⟨T1, L1, k1, n1⟩, -, X1, ⟨Lc1, hQ1, l1, y1, z1⟩, st1⟩ := X0.virtualBack hx (y := own_y9) (z := own_y9) hown (mvT hZ (own_w hw 31 rfl)) (mvT hZ (own_w hw 32 rfl)) (notFace_of_selects (args := #[]) (mvT hZ (own_w hw 34 rfl))) (mvT hZ (own_w hw 34 rfl)) (mvT hZ (own_w hw 33 rfl)) (by decide) (backOf (W := 1) (rm14 l Z a0 hw [] a (4 : Int32) g cs h0 n0 Z0 P0 P2 P3 P4) hZ (own_w hw 35 rfl) (own_w hw 7 rfl) (by decide) (by decide)) q1a q1c (g := (mkF m 4 #[.val (.ref a), .val (.int (0 : Int32)), .unset] [(.ref a), (.int (0 : Int32))])) rfl (by rw [hml]; rfl) (Steps.refl _) (argsL := []) (rest := [(.int (0 : Int32))]) (lenOf pd_14 rfl) rfl own_2z (hb hby q13_4) (fun _ _ => ⟨rfl, e0, (by decide : 0 + 0 ≤ _), (by decide : 0 + 0 ≤ _)⟩)
  dsimp only [Pt.U, Pt.locs, Pt.cells, Pt.slots] at X1 l1 y1 z1 st1 hQ1
  subst l1 y1 z1
  obtain ⟨rfl, Nq1, eq1⟩ := hQ1
  have N1 := Fr.app N0 Nq1
  refine oS (fun _ κ => st1.trans κ) ?_
  show oG _ _ _ _ (T1.setTop (mkF m 7 #[.val (.ref a), .val (.int (0 : Int32)), .unset] [(.int (4 : Int32)), (.int (0 : Int32))]))
  refine oS (fun _ κ => XS.icmpNo X1.here hx rfl (hb hby q13_7) rfl (tlt (by decide)).2.1 κ) ?_
  show oG _ _ _ _ (T1.setTop (mkF m 10 #[.val (.ref a), .val (.int (0 : Int32)), .unset] []))
  refine oS (fun _ κ => XS.aloadN X1.here hx rfl (hb hby q13_10) rfl rfl κ) ?_
  refine oS (fun _ κ => XS.iloadN X1.here hx rfl (hb hby q13_11) rfl κ) ?_
  obtain ⟨cq2, kq2, q2a, q2b, q2c⟩ := isOf hZ eq1 P1
  obtain ⟨vr2, _, ⟨T2, L2, k2, n2⟩, -, X2, ⟨Lc2, hQ2, l2, y2, z2⟩, st2⟩ := X1.virtualBack hx (y := own_y5) (z := own_y5) hown (mvT hZ (own_w hw 55 rfl)) (mvT hZ (own_w hw 56 rfl)) (notFace_of_selects (args := #[]) (mvT hZ (own_w hw 58 rfl))) (mvT hZ (own_w hw 58 rfl)) (mvT hZ (own_w hw 57 rfl)) (by decide) (backOf (W := 0) (rm15 l Z a0 hw [] a (0 : Int32) (4 : Int32) g v0 cs fv h0 n0 Z0 P0 P2 P3 P4 P5 P6 P7 P8 P9 (by decide) (by decide) P10) hZ (own_w hw 59 rfl) (own_w hw 7 rfl) (by decide) (by decide)) q2a q2c (g := (mkF m 12 #[.val (.ref a), .val (.int (0 : Int32)), .unset] [(.int (0 : Int32)), (.ref a)])) rfl (by rw [hml]; rfl) (Steps.refl _) (argsL := [(.int (0 : Int32))]) (rest := []) (lenOf pd_15 rfl) rfl own_2z (hb hby q13_12) (fun _ _ => ⟨rfl, eq1, (by decide : 0 + 0 ≤ _), (by decide : 0 + 0 ≤ _)⟩)
  dsimp only [Pt.U, Pt.locs, Pt.cells, Pt.slots] at X2 l2 y2 z2 st2 hQ2
  subst l2 y2 z2
  obtain ⟨rfl, Nq2, eq2⟩ := hQ2
  have N2 := Fr.app N1 Nq2
  refine oS (fun _ κ => st2.trans κ) ?_
  show oG _ _ _ _ (T2.setTop (mkF m 15 #[.val (.ref a), .val (.int (0 : Int32)), .unset] [(.int v0)]))
  refine oS (fun _ κ => XS.istoreN X2.here hx rfl (hb hby q13_15) rfl (l' := #[.val (.ref a), .val (.int (0 : Int32)), .val (.int v0)]) rfl κ) ?_
  refine oS (fun _ κ => XS.iloadN X2.here hx rfl (hb hby q13_16) rfl κ) ?_
  refine oS (fun _ κ => XS.bipush X2.here hx rfl (hb hby q13_17) κ) ?_
  by_cases hc3 : v0 = (9 : Int32)
  · refine oS (fun _ κ => XS.icmpYes X2.here hx rfl (pc0 := 19) (pc' := 34) rfl (hb hby q13_19) rfl (teq hc3).1 (by decide) (by decide) κ) ?_
    show oG _ _ _ _ (T2.setTop (mkF m 34 #[.val (.ref a), .val (.int (0 : Int32)), .val (.int v0)] []))
    refine oS (fun _ κ => XS.iconst X2.here hx rfl (hb hby q13_34) κ) ?_
    obtain ⟨fs, hr, hrun, hended, hW, hsame⟩ := X2.leave (v := some (.int (0 : Int32))) (fun h => by rw [Bd.returns] at h; cases h)
    refine ⟨_, _, retN X2 hx (t := .boolean) Bd.returns (by simp) (hb hby q13_35) hr, hrun, hended, _, _, rfl, ?_, ⟨_, rfl⟩, hW, hsame.mono (by decide) (by decide)⟩
    show Q57 Z a g v0 v1 v2 v3 cs fv h0 n0 _ T2.heap _
    rw [eq2]
    exact ⟨(by rw [if_neg (own_brkY hc3 (by decide))]), N2, rfl⟩
  · refine oS (fun _ κ => XS.icmpNo X2.here hx rfl (hb hby q13_19) rfl (feq hc3).1 κ) ?_
    show oG _ _ _ _ (T2.setTop (mkF m 22 #[.val (.ref a), .val (.int (0 : Int32)), .val (.int v0)] []))
    refine oS (fun _ κ => XS.iloadN X2.here hx rfl (hb hby q13_22) rfl κ) ?_
    refine oS (fun _ κ => XS.bipush X2.here hx rfl (hb hby q13_23) κ) ?_
    by_cases hc4 : v0 = (13 : Int32)
    · refine oS (fun _ κ => XS.icmpYes X2.here hx rfl (pc0 := 25) (pc' := 34) rfl (hb hby q13_25) rfl (teq hc4).1 (by decide) (by decide) κ) ?_
      show oG _ _ _ _ (T2.setTop (mkF m 34 #[.val (.ref a), .val (.int (0 : Int32)), .val (.int v0)] []))
      refine oS (fun _ κ => XS.iconst X2.here hx rfl (hb hby q13_34) κ) ?_
      obtain ⟨fs, hr, hrun, hended, hW, hsame⟩ := X2.leave (v := some (.int (0 : Int32))) (fun h => by rw [Bd.returns] at h; cases h)
      refine ⟨_, _, retN X2 hx (t := .boolean) Bd.returns (by simp) (hb hby q13_35) hr, hrun, hended, _, _, rfl, ?_, ⟨_, rfl⟩, hW, hsame.mono (by decide) (by decide)⟩
      show Q57 Z a g v0 v1 v2 v3 cs fv h0 n0 _ T2.heap _
      rw [eq2]
      exact ⟨(by rw [if_neg (own_brkY hc4 (by decide))]), N2, rfl⟩
    · refine oS (fun _ κ => XS.icmpNo X2.here hx rfl (hb hby q13_25) rfl (feq hc4).1 κ) ?_
      show oG _ _ _ _ (T2.setTop (mkF m 28 #[.val (.ref a), .val (.int (0 : Int32)), .val (.int v0)] []))
      refine oS (fun _ κ => XS.iloadN X2.here hx rfl (hb hby q13_28) rfl κ) ?_
      refine oS (fun _ κ => XS.bipush X2.here hx rfl (hb hby q13_29) κ) ?_
      by_cases hc5 : v0 = (10 : Int32)
      · refine oS (fun _ κ => XS.icmpNo X2.here hx rfl (hb hby q13_31) rfl (teq hc5).2 κ) ?_
        show oG _ _ _ _ (T2.setTop (mkF m 34 #[.val (.ref a), .val (.int (0 : Int32)), .val (.int v0)] []))
        refine oS (fun _ κ => XS.iconst X2.here hx rfl (hb hby q13_34) κ) ?_
        obtain ⟨fs, hr, hrun, hended, hW, hsame⟩ := X2.leave (v := some (.int (0 : Int32))) (fun h => by rw [Bd.returns] at h; cases h)
        refine ⟨_, _, retN X2 hx (t := .boolean) Bd.returns (by simp) (hb hby q13_35) hr, hrun, hended, _, _, rfl, ?_, ⟨_, rfl⟩, hW, hsame.mono (by decide) (by decide)⟩
        show Q57 Z a g v0 v1 v2 v3 cs fv h0 n0 _ T2.heap _
        rw [eq2]
        exact ⟨(by rw [if_neg (own_brkY hc5 (by decide))]), N2, rfl⟩
      · refine oS (fun _ κ => XS.icmpYes X2.here hx rfl (pc0 := 31) (pc' := 36) rfl (hb hby q13_31) rfl (feq hc5).2 (by decide) (by decide) κ) ?_
        show oG _ _ _ _ (T2.setTop (mkF m 36 #[.val (.ref a), .val (.int (0 : Int32)), .val (.int v0)] []))
        refine oS (fun _ κ => XS.iinc X2.here hx rfl (hb hby q13_36) rfl (l' := #[.val (.ref a), .val (.int ((0 : Int32) + (1 : Int32))), .val (.int v0)]) rfl κ) ?_
        show oG _ _ _ _ (T2.setTop (mkF m 39 #[.val (.ref a), .val (.int ((0 : Int32) + (1 : Int32))), .val (.int v0)] []))
        rw [show (((0 : Int32) + (1 : Int32)) : Int32) = (1 : Int32) from by decide]
        show oG _ _ _ _ (T2.setTop (mkF m 39 #[.val (.ref a), .val (.int (1 : Int32)), .val (.int v0)] []))
        refine oS (fun _ κ => XS.goto X2.here hx rfl (pc0 := 39) (pc' := 2) rfl (hb hby q13_39) (by decide) (by decide) κ) ?_
        show oG _ _ _ _ (T2.setTop (mkF m 2 #[.val (.ref a), .val (.int (1 : Int32)), .val (.int v0)] []))
        refine oS (fun _ κ => XS.iloadN X2.here hx rfl (hb hby q13_2) rfl κ) ?_
        refine oS (fun _ κ => XS.aloadN X2.here hx rfl (hb hby q13_3) rfl rfl κ) ?_
        obtain ⟨cq6, kq6, q6a, q6b, q6c⟩ := isOf hZ eq2 P1
        obtain ⟨vr6, _, ⟨T6, L6, k6, n6⟩, -, X6, ⟨Lc6, hQ6, l6, y6, z6⟩, st6⟩ := X2.virtualBack hx (y := own_y9) (z := own_y9) hown (mvT hZ (own_w hw 31 rfl)) (mvT hZ (own_w hw 32 rfl)) (notFace_of_selects (args := #[]) (mvT hZ (own_w hw 34 rfl))) (mvT hZ (own_w hw 34 rfl)) (mvT hZ (own_w hw 33 rfl)) (by decide) (backOf (W := 1) (rm14 l Z a0 hw [] a (4 : Int32) g cs h0 n0 Z0 P0 P2 P3 P4) hZ (own_w hw 35 rfl) (own_w hw 7 rfl) (by decide) (by decide)) q6a q6c (g := (mkF m 4 #[.val (.ref a), .val (.int (1 : Int32)), .val (.int v0)] [(.ref a), (.int (1 : Int32))])) rfl (by rw [hml]; rfl) (Steps.refl _) (argsL := []) (rest := [(.int (1 : Int32))]) (lenOf pd_14 rfl) rfl own_2z (hb hby q13_4) (fun _ _ => ⟨rfl, eq2, (by decide : 0 + 0 ≤ _), (by decide : 0 + 0 ≤ _)⟩)
        dsimp only [Pt.U, Pt.locs, Pt.cells, Pt.slots] at X6 l6 y6 z6 st6 hQ6
        subst l6 y6 z6
        obtain ⟨rfl, Nq6, eq6⟩ := hQ6
        have N6 := Fr.app N2 Nq6
        refine oS (fun _ κ => st6.trans κ) ?_
        show oG _ _ _ _ (T6.setTop (mkF m 7 #[.val (.ref a), .val (.int (1 : Int32)), .val (.int v0)] [(.int (4 : Int32)), (.int (1 : Int32))]))
        refine oS (fun _ κ => XS.icmpNo X6.here hx rfl (hb hby q13_7) rfl (tlt (by decide)).2.1 κ) ?_
        show oG _ _ _ _ (T6.setTop (mkF m 10 #[.val (.ref a), .val (.int (1 : Int32)), .val (.int v0)] []))
        refine oS (fun _ κ => XS.aloadN X6.here hx rfl (hb hby q13_10) rfl rfl κ) ?_
        refine oS (fun _ κ => XS.iloadN X6.here hx rfl (hb hby q13_11) rfl κ) ?_
        obtain ⟨cq7, kq7, q7a, q7b, q7c⟩ := isOf hZ eq6 P1
        obtain ⟨vr7, _, ⟨T7, L7, k7, n7⟩, -, X7, ⟨Lc7, hQ7, l7, y7, z7⟩, st7⟩ := X6.virtualBack hx (y := own_y5) (z := own_y5) hown (mvT hZ (own_w hw 55 rfl)) (mvT hZ (own_w hw 56 rfl)) (notFace_of_selects (args := #[]) (mvT hZ (own_w hw 58 rfl))) (mvT hZ (own_w hw 58 rfl)) (mvT hZ (own_w hw 57 rfl)) (by decide) (backOf (W := 0) (rm15 l Z a0 hw [] a (1 : Int32) (4 : Int32) g v1 cs fv h0 n0 Z0 P0 P2 P3 P4 P5 P6 P7 P8 P9 (by decide) (by decide) P11) hZ (own_w hw 59 rfl) (own_w hw 7 rfl) (by decide) (by decide)) q7a q7c (g := (mkF m 12 #[.val (.ref a), .val (.int (1 : Int32)), .val (.int v0)] [(.int (1 : Int32)), (.ref a)])) rfl (by rw [hml]; rfl) (Steps.refl _) (argsL := [(.int (1 : Int32))]) (rest := []) (lenOf pd_15 rfl) rfl own_2z (hb hby q13_12) (fun _ _ => ⟨rfl, eq6, (by decide : 0 + 0 ≤ _), (by decide : 0 + 0 ≤ _)⟩)
        dsimp only [Pt.U, Pt.locs, Pt.cells, Pt.slots] at X7 l7 y7 z7 st7 hQ7
        subst l7 y7 z7
        obtain ⟨rfl, Nq7, eq7⟩ := hQ7
        have N7 := Fr.app N6 Nq7
        refine oS (fun _ κ => st7.trans κ) ?_
        show oG _ _ _ _ (T7.setTop (mkF m 15 #[.val (.ref a), .val (.int (1 : Int32)), .val (.int v0)] [(.int v1)]))
        refine oS (fun _ κ => XS.istoreN X7.here hx rfl (hb hby q13_15) rfl (l' := #[.val (.ref a), .val (.int (1 : Int32)), .val (.int v1)]) rfl κ) ?_
        refine oS (fun _ κ => XS.iloadN X7.here hx rfl (hb hby q13_16) rfl κ) ?_
        refine oS (fun _ κ => XS.bipush X7.here hx rfl (hb hby q13_17) κ) ?_
        by_cases hc8 : v1 = (9 : Int32)
        · refine oS (fun _ κ => XS.icmpYes X7.here hx rfl (pc0 := 19) (pc' := 34) rfl (hb hby q13_19) rfl (teq hc8).1 (by decide) (by decide) κ) ?_
          show oG _ _ _ _ (T7.setTop (mkF m 34 #[.val (.ref a), .val (.int (1 : Int32)), .val (.int v1)] []))
          refine oS (fun _ κ => XS.iconst X7.here hx rfl (hb hby q13_34) κ) ?_
          obtain ⟨fs, hr, hrun, hended, hW, hsame⟩ := X7.leave (v := some (.int (0 : Int32))) (fun h => by rw [Bd.returns] at h; cases h)
          refine ⟨_, _, retN X7 hx (t := .boolean) Bd.returns (by simp) (hb hby q13_35) hr, hrun, hended, _, _, rfl, ?_, ⟨_, rfl⟩, hW, hsame.mono (by decide) (by decide)⟩
          show Q57 Z a g v0 v1 v2 v3 cs fv h0 n0 _ T7.heap _
          rw [eq7]
          exact ⟨(by rw [if_pos (own_brkN hc3 hc4 hc5), if_neg (own_brkY hc8 (by decide))]), N7, rfl⟩
        · refine oS (fun _ κ => XS.icmpNo X7.here hx rfl (hb hby q13_19) rfl (feq hc8).1 κ) ?_
          show oG _ _ _ _ (T7.setTop (mkF m 22 #[.val (.ref a), .val (.int (1 : Int32)), .val (.int v1)] []))
          refine oS (fun _ κ => XS.iloadN X7.here hx rfl (hb hby q13_22) rfl κ) ?_
          refine oS (fun _ κ => XS.bipush X7.here hx rfl (hb hby q13_23) κ) ?_
          by_cases hc9 : v1 = (13 : Int32)
          · refine oS (fun _ κ => XS.icmpYes X7.here hx rfl (pc0 := 25) (pc' := 34) rfl (hb hby q13_25) rfl (teq hc9).1 (by decide) (by decide) κ) ?_
            show oG _ _ _ _ (T7.setTop (mkF m 34 #[.val (.ref a), .val (.int (1 : Int32)), .val (.int v1)] []))
            refine oS (fun _ κ => XS.iconst X7.here hx rfl (hb hby q13_34) κ) ?_
            obtain ⟨fs, hr, hrun, hended, hW, hsame⟩ := X7.leave (v := some (.int (0 : Int32))) (fun h => by rw [Bd.returns] at h; cases h)
            refine ⟨_, _, retN X7 hx (t := .boolean) Bd.returns (by simp) (hb hby q13_35) hr, hrun, hended, _, _, rfl, ?_, ⟨_, rfl⟩, hW, hsame.mono (by decide) (by decide)⟩
            show Q57 Z a g v0 v1 v2 v3 cs fv h0 n0 _ T7.heap _
            rw [eq7]
            exact ⟨(by rw [if_pos (own_brkN hc3 hc4 hc5), if_neg (own_brkY hc9 (by decide))]), N7, rfl⟩
          · refine oS (fun _ κ => XS.icmpNo X7.here hx rfl (hb hby q13_25) rfl (feq hc9).1 κ) ?_
            show oG _ _ _ _ (T7.setTop (mkF m 28 #[.val (.ref a), .val (.int (1 : Int32)), .val (.int v1)] []))
            refine oS (fun _ κ => XS.iloadN X7.here hx rfl (hb hby q13_28) rfl κ) ?_
            refine oS (fun _ κ => XS.bipush X7.here hx rfl (hb hby q13_29) κ) ?_
            by_cases hc10 : v1 = (10 : Int32)
            · refine oS (fun _ κ => XS.icmpNo X7.here hx rfl (hb hby q13_31) rfl (teq hc10).2 κ) ?_
              show oG _ _ _ _ (T7.setTop (mkF m 34 #[.val (.ref a), .val (.int (1 : Int32)), .val (.int v1)] []))
              refine oS (fun _ κ => XS.iconst X7.here hx rfl (hb hby q13_34) κ) ?_
              obtain ⟨fs, hr, hrun, hended, hW, hsame⟩ := X7.leave (v := some (.int (0 : Int32))) (fun h => by rw [Bd.returns] at h; cases h)
              refine ⟨_, _, retN X7 hx (t := .boolean) Bd.returns (by simp) (hb hby q13_35) hr, hrun, hended, _, _, rfl, ?_, ⟨_, rfl⟩, hW, hsame.mono (by decide) (by decide)⟩
              show Q57 Z a g v0 v1 v2 v3 cs fv h0 n0 _ T7.heap _
              rw [eq7]
              exact ⟨(by rw [if_pos (own_brkN hc3 hc4 hc5), if_neg (own_brkY hc10 (by decide))]), N7, rfl⟩
            · refine oS (fun _ κ => XS.icmpYes X7.here hx rfl (pc0 := 31) (pc' := 36) rfl (hb hby q13_31) rfl (feq hc10).2 (by decide) (by decide) κ) ?_
              show oG _ _ _ _ (T7.setTop (mkF m 36 #[.val (.ref a), .val (.int (1 : Int32)), .val (.int v1)] []))
              refine oS (fun _ κ => XS.iinc X7.here hx rfl (hb hby q13_36) rfl (l' := #[.val (.ref a), .val (.int ((1 : Int32) + (1 : Int32))), .val (.int v1)]) rfl κ) ?_
              show oG _ _ _ _ (T7.setTop (mkF m 39 #[.val (.ref a), .val (.int ((1 : Int32) + (1 : Int32))), .val (.int v1)] []))
              rw [show (((1 : Int32) + (1 : Int32)) : Int32) = (2 : Int32) from by decide]
              show oG _ _ _ _ (T7.setTop (mkF m 39 #[.val (.ref a), .val (.int (2 : Int32)), .val (.int v1)] []))
              refine oS (fun _ κ => XS.goto X7.here hx rfl (pc0 := 39) (pc' := 2) rfl (hb hby q13_39) (by decide) (by decide) κ) ?_
              show oG _ _ _ _ (T7.setTop (mkF m 2 #[.val (.ref a), .val (.int (2 : Int32)), .val (.int v1)] []))
              refine oS (fun _ κ => XS.iloadN X7.here hx rfl (hb hby q13_2) rfl κ) ?_
              refine oS (fun _ κ => XS.aloadN X7.here hx rfl (hb hby q13_3) rfl rfl κ) ?_
              obtain ⟨cq11, kq11, q11a, q11b, q11c⟩ := isOf hZ eq7 P1
              obtain ⟨vr11, _, ⟨T11, L11, k11, n11⟩, -, X11, ⟨Lc11, hQ11, l11, y11, z11⟩, st11⟩ := X7.virtualBack hx (y := own_y9) (z := own_y9) hown (mvT hZ (own_w hw 31 rfl)) (mvT hZ (own_w hw 32 rfl)) (notFace_of_selects (args := #[]) (mvT hZ (own_w hw 34 rfl))) (mvT hZ (own_w hw 34 rfl)) (mvT hZ (own_w hw 33 rfl)) (by decide) (backOf (W := 1) (rm14 l Z a0 hw [] a (4 : Int32) g cs h0 n0 Z0 P0 P2 P3 P4) hZ (own_w hw 35 rfl) (own_w hw 7 rfl) (by decide) (by decide)) q11a q11c (g := (mkF m 4 #[.val (.ref a), .val (.int (2 : Int32)), .val (.int v1)] [(.ref a), (.int (2 : Int32))])) rfl (by rw [hml]; rfl) (Steps.refl _) (argsL := []) (rest := [(.int (2 : Int32))]) (lenOf pd_14 rfl) rfl own_2z (hb hby q13_4) (fun _ _ => ⟨rfl, eq7, (by decide : 0 + 0 ≤ _), (by decide : 0 + 0 ≤ _)⟩)
              dsimp only [Pt.U, Pt.locs, Pt.cells, Pt.slots] at X11 l11 y11 z11 st11 hQ11
              subst l11 y11 z11
              obtain ⟨rfl, Nq11, eq11⟩ := hQ11
              have N11 := Fr.app N7 Nq11
              refine oS (fun _ κ => st11.trans κ) ?_
              show oG _ _ _ _ (T11.setTop (mkF m 7 #[.val (.ref a), .val (.int (2 : Int32)), .val (.int v1)] [(.int (4 : Int32)), (.int (2 : Int32))]))
              refine oS (fun _ κ => XS.icmpNo X11.here hx rfl (hb hby q13_7) rfl (tlt (by decide)).2.1 κ) ?_
              show oG _ _ _ _ (T11.setTop (mkF m 10 #[.val (.ref a), .val (.int (2 : Int32)), .val (.int v1)] []))
              refine oS (fun _ κ => XS.aloadN X11.here hx rfl (hb hby q13_10) rfl rfl κ) ?_
              refine oS (fun _ κ => XS.iloadN X11.here hx rfl (hb hby q13_11) rfl κ) ?_
              obtain ⟨cq12, kq12, q12a, q12b, q12c⟩ := isOf hZ eq11 P1
              obtain ⟨vr12, _, ⟨T12, L12, k12, n12⟩, -, X12, ⟨Lc12, hQ12, l12, y12, z12⟩, st12⟩ := X11.virtualBack hx (y := own_y5) (z := own_y5) hown (mvT hZ (own_w hw 55 rfl)) (mvT hZ (own_w hw 56 rfl)) (notFace_of_selects (args := #[]) (mvT hZ (own_w hw 58 rfl))) (mvT hZ (own_w hw 58 rfl)) (mvT hZ (own_w hw 57 rfl)) (by decide) (backOf (W := 0) (rm15 l Z a0 hw [] a (2 : Int32) (4 : Int32) g v2 cs fv h0 n0 Z0 P0 P2 P3 P4 P5 P6 P7 P8 P9 (by decide) (by decide) P12) hZ (own_w hw 59 rfl) (own_w hw 7 rfl) (by decide) (by decide)) q12a q12c (g := (mkF m 12 #[.val (.ref a), .val (.int (2 : Int32)), .val (.int v1)] [(.int (2 : Int32)), (.ref a)])) rfl (by rw [hml]; rfl) (Steps.refl _) (argsL := [(.int (2 : Int32))]) (rest := []) (lenOf pd_15 rfl) rfl own_2z (hb hby q13_12) (fun _ _ => ⟨rfl, eq11, (by decide : 0 + 0 ≤ _), (by decide : 0 + 0 ≤ _)⟩)
              dsimp only [Pt.U, Pt.locs, Pt.cells, Pt.slots] at X12 l12 y12 z12 st12 hQ12
              subst l12 y12 z12
              obtain ⟨rfl, Nq12, eq12⟩ := hQ12
              have N12 := Fr.app N11 Nq12
              refine oS (fun _ κ => st12.trans κ) ?_
              show oG _ _ _ _ (T12.setTop (mkF m 15 #[.val (.ref a), .val (.int (2 : Int32)), .val (.int v1)] [(.int v2)]))
              refine oS (fun _ κ => XS.istoreN X12.here hx rfl (hb hby q13_15) rfl (l' := #[.val (.ref a), .val (.int (2 : Int32)), .val (.int v2)]) rfl κ) ?_
              refine oS (fun _ κ => XS.iloadN X12.here hx rfl (hb hby q13_16) rfl κ) ?_
              refine oS (fun _ κ => XS.bipush X12.here hx rfl (hb hby q13_17) κ) ?_
              by_cases hc13 : v2 = (9 : Int32)
              · refine oS (fun _ κ => XS.icmpYes X12.here hx rfl (pc0 := 19) (pc' := 34) rfl (hb hby q13_19) rfl (teq hc13).1 (by decide) (by decide) κ) ?_
                show oG _ _ _ _ (T12.setTop (mkF m 34 #[.val (.ref a), .val (.int (2 : Int32)), .val (.int v2)] []))
                refine oS (fun _ κ => XS.iconst X12.here hx rfl (hb hby q13_34) κ) ?_
                obtain ⟨fs, hr, hrun, hended, hW, hsame⟩ := X12.leave (v := some (.int (0 : Int32))) (fun h => by rw [Bd.returns] at h; cases h)
                refine ⟨_, _, retN X12 hx (t := .boolean) Bd.returns (by simp) (hb hby q13_35) hr, hrun, hended, _, _, rfl, ?_, ⟨_, rfl⟩, hW, hsame.mono (by decide) (by decide)⟩
                show Q57 Z a g v0 v1 v2 v3 cs fv h0 n0 _ T12.heap _
                rw [eq12]
                exact ⟨(by rw [if_pos (own_brkN hc3 hc4 hc5), if_pos (own_brkN hc8 hc9 hc10), if_neg (own_brkY hc13 (by decide))]), N12, rfl⟩
              · refine oS (fun _ κ => XS.icmpNo X12.here hx rfl (hb hby q13_19) rfl (feq hc13).1 κ) ?_
                show oG _ _ _ _ (T12.setTop (mkF m 22 #[.val (.ref a), .val (.int (2 : Int32)), .val (.int v2)] []))
                refine oS (fun _ κ => XS.iloadN X12.here hx rfl (hb hby q13_22) rfl κ) ?_
                refine oS (fun _ κ => XS.bipush X12.here hx rfl (hb hby q13_23) κ) ?_
                by_cases hc14 : v2 = (13 : Int32)
                · refine oS (fun _ κ => XS.icmpYes X12.here hx rfl (pc0 := 25) (pc' := 34) rfl (hb hby q13_25) rfl (teq hc14).1 (by decide) (by decide) κ) ?_
                  show oG _ _ _ _ (T12.setTop (mkF m 34 #[.val (.ref a), .val (.int (2 : Int32)), .val (.int v2)] []))
                  refine oS (fun _ κ => XS.iconst X12.here hx rfl (hb hby q13_34) κ) ?_
                  obtain ⟨fs, hr, hrun, hended, hW, hsame⟩ := X12.leave (v := some (.int (0 : Int32))) (fun h => by rw [Bd.returns] at h; cases h)
                  refine ⟨_, _, retN X12 hx (t := .boolean) Bd.returns (by simp) (hb hby q13_35) hr, hrun, hended, _, _, rfl, ?_, ⟨_, rfl⟩, hW, hsame.mono (by decide) (by decide)⟩
                  show Q57 Z a g v0 v1 v2 v3 cs fv h0 n0 _ T12.heap _
                  rw [eq12]
                  exact ⟨(by rw [if_pos (own_brkN hc3 hc4 hc5), if_pos (own_brkN hc8 hc9 hc10), if_neg (own_brkY hc14 (by decide))]), N12, rfl⟩
                · refine oS (fun _ κ => XS.icmpNo X12.here hx rfl (hb hby q13_25) rfl (feq hc14).1 κ) ?_
                  show oG _ _ _ _ (T12.setTop (mkF m 28 #[.val (.ref a), .val (.int (2 : Int32)), .val (.int v2)] []))
                  refine oS (fun _ κ => XS.iloadN X12.here hx rfl (hb hby q13_28) rfl κ) ?_
                  refine oS (fun _ κ => XS.bipush X12.here hx rfl (hb hby q13_29) κ) ?_
                  by_cases hc15 : v2 = (10 : Int32)
                  · refine oS (fun _ κ => XS.icmpNo X12.here hx rfl (hb hby q13_31) rfl (teq hc15).2 κ) ?_
                    show oG _ _ _ _ (T12.setTop (mkF m 34 #[.val (.ref a), .val (.int (2 : Int32)), .val (.int v2)] []))
                    refine oS (fun _ κ => XS.iconst X12.here hx rfl (hb hby q13_34) κ) ?_
                    obtain ⟨fs, hr, hrun, hended, hW, hsame⟩ := X12.leave (v := some (.int (0 : Int32))) (fun h => by rw [Bd.returns] at h; cases h)
                    refine ⟨_, _, retN X12 hx (t := .boolean) Bd.returns (by simp) (hb hby q13_35) hr, hrun, hended, _, _, rfl, ?_, ⟨_, rfl⟩, hW, hsame.mono (by decide) (by decide)⟩
                    show Q57 Z a g v0 v1 v2 v3 cs fv h0 n0 _ T12.heap _
                    rw [eq12]
                    exact ⟨(by rw [if_pos (own_brkN hc3 hc4 hc5), if_pos (own_brkN hc8 hc9 hc10), if_neg (own_brkY hc15 (by decide))]), N12, rfl⟩
                  · refine oS (fun _ κ => XS.icmpYes X12.here hx rfl (pc0 := 31) (pc' := 36) rfl (hb hby q13_31) rfl (feq hc15).2 (by decide) (by decide) κ) ?_
                    show oG _ _ _ _ (T12.setTop (mkF m 36 #[.val (.ref a), .val (.int (2 : Int32)), .val (.int v2)] []))
                    refine oS (fun _ κ => XS.iinc X12.here hx rfl (hb hby q13_36) rfl (l' := #[.val (.ref a), .val (.int ((2 : Int32) + (1 : Int32))), .val (.int v2)]) rfl κ) ?_
                    show oG _ _ _ _ (T12.setTop (mkF m 39 #[.val (.ref a), .val (.int ((2 : Int32) + (1 : Int32))), .val (.int v2)] []))
                    rw [show (((2 : Int32) + (1 : Int32)) : Int32) = (3 : Int32) from by decide]
                    show oG _ _ _ _ (T12.setTop (mkF m 39 #[.val (.ref a), .val (.int (3 : Int32)), .val (.int v2)] []))
                    refine oS (fun _ κ => XS.goto X12.here hx rfl (pc0 := 39) (pc' := 2) rfl (hb hby q13_39) (by decide) (by decide) κ) ?_
                    show oG _ _ _ _ (T12.setTop (mkF m 2 #[.val (.ref a), .val (.int (3 : Int32)), .val (.int v2)] []))
                    refine oS (fun _ κ => XS.iloadN X12.here hx rfl (hb hby q13_2) rfl κ) ?_
                    refine oS (fun _ κ => XS.aloadN X12.here hx rfl (hb hby q13_3) rfl rfl κ) ?_
                    obtain ⟨cq16, kq16, q16a, q16b, q16c⟩ := isOf hZ eq12 P1
                    obtain ⟨vr16, _, ⟨T16, L16, k16, n16⟩, -, X16, ⟨Lc16, hQ16, l16, y16, z16⟩, st16⟩ := X12.virtualBack hx (y := own_y9) (z := own_y9) hown (mvT hZ (own_w hw 31 rfl)) (mvT hZ (own_w hw 32 rfl)) (notFace_of_selects (args := #[]) (mvT hZ (own_w hw 34 rfl))) (mvT hZ (own_w hw 34 rfl)) (mvT hZ (own_w hw 33 rfl)) (by decide) (backOf (W := 1) (rm14 l Z a0 hw [] a (4 : Int32) g cs h0 n0 Z0 P0 P2 P3 P4) hZ (own_w hw 35 rfl) (own_w hw 7 rfl) (by decide) (by decide)) q16a q16c (g := (mkF m 4 #[.val (.ref a), .val (.int (3 : Int32)), .val (.int v2)] [(.ref a), (.int (3 : Int32))])) rfl (by rw [hml]; rfl) (Steps.refl _) (argsL := []) (rest := [(.int (3 : Int32))]) (lenOf pd_14 rfl) rfl own_2z (hb hby q13_4) (fun _ _ => ⟨rfl, eq12, (by decide : 0 + 0 ≤ _), (by decide : 0 + 0 ≤ _)⟩)
                    dsimp only [Pt.U, Pt.locs, Pt.cells, Pt.slots] at X16 l16 y16 z16 st16 hQ16
                    subst l16 y16 z16
                    obtain ⟨rfl, Nq16, eq16⟩ := hQ16
                    have N16 := Fr.app N12 Nq16
                    refine oS (fun _ κ => st16.trans κ) ?_
                    show oG _ _ _ _ (T16.setTop (mkF m 7 #[.val (.ref a), .val (.int (3 : Int32)), .val (.int v2)] [(.int (4 : Int32)), (.int (3 : Int32))]))
                    refine oS (fun _ κ => XS.icmpNo X16.here hx rfl (hb hby q13_7) rfl (tlt (by decide)).2.1 κ) ?_
                    show oG _ _ _ _ (T16.setTop (mkF m 10 #[.val (.ref a), .val (.int (3 : Int32)), .val (.int v2)] []))
                    refine oS (fun _ κ => XS.aloadN X16.here hx rfl (hb hby q13_10) rfl rfl κ) ?_
                    refine oS (fun _ κ => XS.iloadN X16.here hx rfl (hb hby q13_11) rfl κ) ?_
                    obtain ⟨cq17, kq17, q17a, q17b, q17c⟩ := isOf hZ eq16 P1
                    obtain ⟨vr17, _, ⟨T17, L17, k17, n17⟩, -, X17, ⟨Lc17, hQ17, l17, y17, z17⟩, st17⟩ := X16.virtualBack hx (y := own_y5) (z := own_y5) hown (mvT hZ (own_w hw 55 rfl)) (mvT hZ (own_w hw 56 rfl)) (notFace_of_selects (args := #[]) (mvT hZ (own_w hw 58 rfl))) (mvT hZ (own_w hw 58 rfl)) (mvT hZ (own_w hw 57 rfl)) (by decide) (backOf (W := 0) (rm15 l Z a0 hw [] a (3 : Int32) (4 : Int32) g v3 cs fv h0 n0 Z0 P0 P2 P3 P4 P5 P6 P7 P8 P9 (by decide) (by decide) P13) hZ (own_w hw 59 rfl) (own_w hw 7 rfl) (by decide) (by decide)) q17a q17c (g := (mkF m 12 #[.val (.ref a), .val (.int (3 : Int32)), .val (.int v2)] [(.int (3 : Int32)), (.ref a)])) rfl (by rw [hml]; rfl) (Steps.refl _) (argsL := [(.int (3 : Int32))]) (rest := []) (lenOf pd_15 rfl) rfl own_2z (hb hby q13_12) (fun _ _ => ⟨rfl, eq16, (by decide : 0 + 0 ≤ _), (by decide : 0 + 0 ≤ _)⟩)
                    dsimp only [Pt.U, Pt.locs, Pt.cells, Pt.slots] at X17 l17 y17 z17 st17 hQ17
                    subst l17 y17 z17
                    obtain ⟨rfl, Nq17, eq17⟩ := hQ17
                    have N17 := Fr.app N16 Nq17
                    refine oS (fun _ κ => st17.trans κ) ?_
                    show oG _ _ _ _ (T17.setTop (mkF m 15 #[.val (.ref a), .val (.int (3 : Int32)), .val (.int v2)] [(.int v3)]))
                    refine oS (fun _ κ => XS.istoreN X17.here hx rfl (hb hby q13_15) rfl (l' := #[.val (.ref a), .val (.int (3 : Int32)), .val (.int v3)]) rfl κ) ?_
                    refine oS (fun _ κ => XS.iloadN X17.here hx rfl (hb hby q13_16) rfl κ) ?_
                    refine oS (fun _ κ => XS.bipush X17.here hx rfl (hb hby q13_17) κ) ?_
                    by_cases hc18 : v3 = (9 : Int32)
                    · refine oS (fun _ κ => XS.icmpYes X17.here hx rfl (pc0 := 19) (pc' := 34) rfl (hb hby q13_19) rfl (teq hc18).1 (by decide) (by decide) κ) ?_
                      show oG _ _ _ _ (T17.setTop (mkF m 34 #[.val (.ref a), .val (.int (3 : Int32)), .val (.int v3)] []))
                      refine oS (fun _ κ => XS.iconst X17.here hx rfl (hb hby q13_34) κ) ?_
                      obtain ⟨fs, hr, hrun, hended, hW, hsame⟩ := X17.leave (v := some (.int (0 : Int32))) (fun h => by rw [Bd.returns] at h; cases h)
                      refine ⟨_, _, retN X17 hx (t := .boolean) Bd.returns (by simp) (hb hby q13_35) hr, hrun, hended, _, _, rfl, ?_, ⟨_, rfl⟩, hW, hsame.mono (by decide) (by decide)⟩
                      show Q57 Z a g v0 v1 v2 v3 cs fv h0 n0 _ T17.heap _
                      rw [eq17]
                      exact ⟨(by rw [if_pos (own_brkN hc3 hc4 hc5), if_pos (own_brkN hc8 hc9 hc10), if_pos (own_brkN hc13 hc14 hc15), if_neg (own_brkY hc18 (by decide))]), N17, rfl⟩
                    · refine oS (fun _ κ => XS.icmpNo X17.here hx rfl (hb hby q13_19) rfl (feq hc18).1 κ) ?_
                      show oG _ _ _ _ (T17.setTop (mkF m 22 #[.val (.ref a), .val (.int (3 : Int32)), .val (.int v3)] []))
                      refine oS (fun _ κ => XS.iloadN X17.here hx rfl (hb hby q13_22) rfl κ) ?_
                      refine oS (fun _ κ => XS.bipush X17.here hx rfl (hb hby q13_23) κ) ?_
                      by_cases hc19 : v3 = (13 : Int32)
                      · refine oS (fun _ κ => XS.icmpYes X17.here hx rfl (pc0 := 25) (pc' := 34) rfl (hb hby q13_25) rfl (teq hc19).1 (by decide) (by decide) κ) ?_
                        show oG _ _ _ _ (T17.setTop (mkF m 34 #[.val (.ref a), .val (.int (3 : Int32)), .val (.int v3)] []))
                        refine oS (fun _ κ => XS.iconst X17.here hx rfl (hb hby q13_34) κ) ?_
                        obtain ⟨fs, hr, hrun, hended, hW, hsame⟩ := X17.leave (v := some (.int (0 : Int32))) (fun h => by rw [Bd.returns] at h; cases h)
                        refine ⟨_, _, retN X17 hx (t := .boolean) Bd.returns (by simp) (hb hby q13_35) hr, hrun, hended, _, _, rfl, ?_, ⟨_, rfl⟩, hW, hsame.mono (by decide) (by decide)⟩
                        show Q57 Z a g v0 v1 v2 v3 cs fv h0 n0 _ T17.heap _
                        rw [eq17]
                        exact ⟨(by rw [if_pos (own_brkN hc3 hc4 hc5), if_pos (own_brkN hc8 hc9 hc10), if_pos (own_brkN hc13 hc14 hc15), if_neg (own_brkY hc19 (by decide))]), N17, rfl⟩
                      · refine oS (fun _ κ => XS.icmpNo X17.here hx rfl (hb hby q13_25) rfl (feq hc19).1 κ) ?_
                        show oG _ _ _ _ (T17.setTop (mkF m 28 #[.val (.ref a), .val (.int (3 : Int32)), .val (.int v3)] []))
                        refine oS (fun _ κ => XS.iloadN X17.here hx rfl (hb hby q13_28) rfl κ) ?_
                        refine oS (fun _ κ => XS.bipush X17.here hx rfl (hb hby q13_29) κ) ?_
                        by_cases hc20 : v3 = (10 : Int32)
                        · refine oS (fun _ κ => XS.icmpNo X17.here hx rfl (hb hby q13_31) rfl (teq hc20).2 κ) ?_
                          show oG _ _ _ _ (T17.setTop (mkF m 34 #[.val (.ref a), .val (.int (3 : Int32)), .val (.int v3)] []))
                          refine oS (fun _ κ => XS.iconst X17.here hx rfl (hb hby q13_34) κ) ?_
                          obtain ⟨fs, hr, hrun, hended, hW, hsame⟩ := X17.leave (v := some (.int (0 : Int32))) (fun h => by rw [Bd.returns] at h; cases h)
                          refine ⟨_, _, retN X17 hx (t := .boolean) Bd.returns (by simp) (hb hby q13_35) hr, hrun, hended, _, _, rfl, ?_, ⟨_, rfl⟩, hW, hsame.mono (by decide) (by decide)⟩
                          show Q57 Z a g v0 v1 v2 v3 cs fv h0 n0 _ T17.heap _
                          rw [eq17]
                          exact ⟨(by rw [if_pos (own_brkN hc3 hc4 hc5), if_pos (own_brkN hc8 hc9 hc10), if_pos (own_brkN hc13 hc14 hc15), if_neg (own_brkY hc20 (by decide))]), N17, rfl⟩
                        · refine oS (fun _ κ => XS.icmpYes X17.here hx rfl (pc0 := 31) (pc' := 36) rfl (hb hby q13_31) rfl (feq hc20).2 (by decide) (by decide) κ) ?_
                          show oG _ _ _ _ (T17.setTop (mkF m 36 #[.val (.ref a), .val (.int (3 : Int32)), .val (.int v3)] []))
                          refine oS (fun _ κ => XS.iinc X17.here hx rfl (hb hby q13_36) rfl (l' := #[.val (.ref a), .val (.int ((3 : Int32) + (1 : Int32))), .val (.int v3)]) rfl κ) ?_
                          show oG _ _ _ _ (T17.setTop (mkF m 39 #[.val (.ref a), .val (.int ((3 : Int32) + (1 : Int32))), .val (.int v3)] []))
                          rw [show (((3 : Int32) + (1 : Int32)) : Int32) = (4 : Int32) from by decide]
                          show oG _ _ _ _ (T17.setTop (mkF m 39 #[.val (.ref a), .val (.int (4 : Int32)), .val (.int v3)] []))
                          refine oS (fun _ κ => XS.goto X17.here hx rfl (pc0 := 39) (pc' := 2) rfl (hb hby q13_39) (by decide) (by decide) κ) ?_
                          show oG _ _ _ _ (T17.setTop (mkF m 2 #[.val (.ref a), .val (.int (4 : Int32)), .val (.int v3)] []))
                          refine oS (fun _ κ => XS.iloadN X17.here hx rfl (hb hby q13_2) rfl κ) ?_
                          refine oS (fun _ κ => XS.aloadN X17.here hx rfl (hb hby q13_3) rfl rfl κ) ?_
                          obtain ⟨cq21, kq21, q21a, q21b, q21c⟩ := isOf hZ eq17 P1
                          obtain ⟨vr21, _, ⟨T21, L21, k21, n21⟩, -, X21, ⟨Lc21, hQ21, l21, y21, z21⟩, st21⟩ := X17.virtualBack hx (y := own_y9) (z := own_y9) hown (mvT hZ (own_w hw 31 rfl)) (mvT hZ (own_w hw 32 rfl)) (notFace_of_selects (args := #[]) (mvT hZ (own_w hw 34 rfl))) (mvT hZ (own_w hw 34 rfl)) (mvT hZ (own_w hw 33 rfl)) (by decide) (backOf (W := 1) (rm14 l Z a0 hw [] a (4 : Int32) g cs h0 n0 Z0 P0 P2 P3 P4) hZ (own_w hw 35 rfl) (own_w hw 7 rfl) (by decide) (by decide)) q21a q21c (g := (mkF m 4 #[.val (.ref a), .val (.int (4 : Int32)), .val (.int v3)] [(.ref a), (.int (4 : Int32))])) rfl (by rw [hml]; rfl) (Steps.refl _) (argsL := []) (rest := [(.int (4 : Int32))]) (lenOf pd_14 rfl) rfl own_2z (hb hby q13_4) (fun _ _ => ⟨rfl, eq17, (by decide : 0 + 0 ≤ _), (by decide : 0 + 0 ≤ _)⟩)
                          dsimp only [Pt.U, Pt.locs, Pt.cells, Pt.slots] at X21 l21 y21 z21 st21 hQ21
                          subst l21 y21 z21
                          obtain ⟨rfl, Nq21, eq21⟩ := hQ21
                          have N21 := Fr.app N17 Nq21
                          refine oS (fun _ κ => st21.trans κ) ?_
                          show oG _ _ _ _ (T21.setTop (mkF m 7 #[.val (.ref a), .val (.int (4 : Int32)), .val (.int v3)] [(.int (4 : Int32)), (.int (4 : Int32))]))
                          refine oS (fun _ κ => XS.icmpYes X21.here hx rfl (pc0 := 7) (pc' := 42) rfl (hb hby q13_7) rfl (flt (by decide)).2.1 (by decide) (by decide) κ) ?_
                          show oG _ _ _ _ (T21.setTop (mkF m 42 #[.val (.ref a), .val (.int (4 : Int32)), .val (.int v3)] []))
                          refine oS (fun _ κ => XS.iconst X21.here hx rfl (hb hby q13_42) κ) ?_
                          obtain ⟨fs, hr, hrun, hended, hW, hsame⟩ := X21.leave (v := some (.int (1 : Int32))) (fun h => by rw [Bd.returns] at h; cases h)
                          refine ⟨_, _, retN X21 hx (t := .boolean) Bd.returns (by simp) (hb hby q13_43) hr, hrun, hended, _, _, rfl, ?_, ⟨_, rfl⟩, hW, hsame.mono (by decide) (by decide)⟩
                          show Q57 Z a g v0 v1 v2 v3 cs fv h0 n0 _ T21.heap _
                          rw [eq21]
                          exact ⟨(by rw [if_pos (own_brkN hc3 hc4 hc5), if_pos (own_brkN hc8 hc9 hc10), if_pos (own_brkN hc13 hc14 hc15), if_pos (own_brkN hc18 hc19 hc20)]), N21, rfl⟩
theorem ef_58 (m : MethodId) (a : Addr) (ca : Addr) : entryFrame m #[(.ref a), (.ref ca), (.int (0 : Int32)), (.int (0 : Int32)), .null] 6 = mkF m 0 #[.val (.ref a), .val (.ref ca), .val (.int (0 : Int32)), .val (.int (0 : Int32)), .val .null, .unset] [] := by first | (simp [entryFrame, mkF, argsToLocals, Value.category]; done) | rfl
def Q58 (Z : State) (a : Addr) (ca : Addr) (h0 : Heap) (n0 : Nat) (v : Option Value) (h : Heap) (L : List Loc) : Prop := v = none ∧ Fr n0 L ∧ Keep h0 h [a] ∧ (own_S Z h a (0 : Int32) (own_gl []))
set_option maxRecDepth 65536 in
set_option maxHeartbeats 40000000 in
theorem rm58 (l : Launch) (Z : State) (a0 : Array Value) (hw : ∀ d ∈ tables_1, d.before a0 Z = true) (ws : List Jvm.Cond) (a : Addr) (ca : Addr) (h0 : Heap) (n0 : Nat) (Z0 : n0 ≤ h0.size) (P0 : Exa Z h0 a "java/lang/String") (P1 : Fld Z h0 a "java/lang/String" "value" "[B" .null) (P2 : Fld Z h0 a "java/lang/String" "coder" "B" (.int (0 : Int32))) (P3 : n0 ≤ a) :
    MetFree l own_y4 (head1 (Jvm.Cond.code own_y4 jdk_42_method_149_code 6 none :: ws) own_r7) (fun ar_ U => ar_ = #[(.ref a), (.ref ca), (.int (0 : Int32)), (.int (0 : Int32)), .null] ∧ Z.Warmed39 U.vm ∧ U.heap = h0 ∧ CHv Z consts_1 U.vm h0 ∧ Safe Z consts_1 U.vm h0 a) (fun _ _ _ _ _ => True) (fun _ U oo_ U' => ∃ v L, oo_ = .returned v ∧ Q58 Z a ca  h0 n0 v U'.heap L ∧ ReturnedEndW U oo_ U' L own_r7.cells own_r7.slots) := by
  refine MetFree.of_bodySF (plainFor_of_name pn_2) hisR ?_
  intro p e s m args below meth c s₁ Bd hml0 hP hK
  obtain ⟨rfl, hZ, hh, hCH⟩ := hP
  have hx := Bd.exec
  have hby := Bd.bytes
  have hml : c.maxLocals = 6 := hml0
  have hown : s.vm.findClass "java/lang/String" = some m.cls := findClass_of_methodNamed Bd.named
  have hnm := (name_of_methodNamed Bd.named Bd.method).1
  have X0 : Stand p l e own_r7 s m #[(.ref a), (.ref ca), (.int (0 : Int32)), (.int (0 : Int32)), .null] below meth c s₁ [] 0 0 := Stand.of_body Bd
  have e0 : s₁.heap = h0 := by rw [← hh, Bd.state]; rfl
  have N0 := Fr.nil n0
  refine own_in (castTop (ef_58 m a ca)) ?_
  show oG _ _ _ _ (s₁.setTop (mkF m 0 #[.val (.ref a), .val (.ref ca), .val (.int (0 : Int32)), .val (.int (0 : Int32)), .val .null, .unset] []))
  refine oS (fun _ κ => XS.aloadN X0.here hx rfl (hb hby q2_0) rfl rfl κ) ?_
  obtain ⟨T1, X1, e1, st1⟩ := initO X0 hx hZ hown (own_w hw 16 rfl) (own_w hw 17 rfl) (own_w hw 18 rfl) e0 (g := (mkF m 1 #[.val (.ref a), .val (.ref ca), .val (.int (0 : Int32)), .val (.int (0 : Int32)), .val .null, .unset] [(.ref a)])) rfl (by rw [hml]; rfl) rfl (hb hby q2_1) (by decide) (W := 0) own_2z (by decide)
  refine oS st1 ?_
  show oG _ _ _ _ (T1.setTop (mkF m 4 #[.val (.ref a), .val (.ref ca), .val (.int (0 : Int32)), .val (.int (0 : Int32)), .val .null, .unset] []))
  refine oS (fun _ κ => XS.iloadN X1.here hx rfl (hb hby q2_4) rfl κ) ?_
  refine oS (fun _ κ => XS.ifNo X1.here hx rfl (hb hby q2_5) rfl ((if0 _ _).trans (teq rfl).2) κ) ?_
  show oG _ _ _ _ (T1.setTop (mkF m 8 #[.val (.ref a), .val (.ref ca), .val (.int (0 : Int32)), .val (.int (0 : Int32)), .val .null, .unset] []))
  refine oS (fun _ κ => XS.aloadN X1.here hx rfl (hb hby q2_8) rfl rfl κ) ?_
  show oG _ _ _ _ (T1.setTop (mkF m 9 #[.val (.ref a), .val (.ref ca), .val (.int (0 : Int32)), .val (.int (0 : Int32)), .val .null, .unset] [(.ref a)]))
  have X1 : Stand p l e own_r7 (s.setVm s.vm) m #[(.ref a), (.ref ca), (.int (0 : Int32)), (.int (0 : Int32)), .null] below meth c T1 [] 0 0 := X1
  have hS0 : s.Since s.vm h0.size := (State.WarmedH.refl s).since _
  obtain ⟨a2, T2, h2, k2, d2, kb2, X2, e2, E2, hS2, hk2, hZ, hown, Ex2, Fc2, Fv2, Av2, -, -, CH2, -, ne2, st2⟩ := ldcCH X1 hx hZ hown (own_w hw 19 rfl) (own_sA hw) e1 hS0 (Nat.le_refl h0.size) (own_EW hw) (List.mem_of_getElem? (i := 0) rfl) hCH.1 (vs := []) (z := (0 : Int32)) ⟨by decide, by decide⟩ (by decide) (by decide) (g := (mkF m 9 #[.val (.ref a), .val (.ref ca), .val (.int (0 : Int32)), .val (.int (0 : Int32)), .val .null, .unset] [(.ref a)])) rfl (hb hby q2_9) (n := 0) (by decide) (by decide) (by decide) (by decide)
  refine oS st2 ?_
  have sf2 := CH2.safe P0.lt hCH.2
  obtain ⟨na2, nd2⟩ := ne2 _ sf2
  have f3 := P0.ext E2
  have f4 := P1.ext E2
  have f5 := P2.ext E2
  have K6 : Keep h0 h2 [a] := (Keep.refl h0 [a]).ext E2
  have z7 : n0 ≤ h2.size := Nat.le_trans Z0 E2.1
  show oG _ _ _ _ (T2.setTop (mkF m 11 #[.val (.ref a), .val (.ref ca), .val (.int (0 : Int32)), .val (.int (0 : Int32)), .val .null, .unset] [(.ref a2), (.ref a)]))
  obtain ⟨T8, X8, e8, st8⟩ := getF X2 hx hZ hown (host := "") (Or.inl (own_w hw 25 rfl)) Via.refl e2 Fv2 (g := (mkF m 11 #[.val (.ref a), .val (.ref ca), .val (.int (0 : Int32)), .val (.int (0 : Int32)), .val .null, .unset] [(.ref a2), (.ref a)])) rfl rfl (hb hby q2_11)
  refine oS st8 ?_
  show oG _ _ _ _ (T8.setTop (mkF m 14 #[.val (.ref a), .val (.ref ca), .val (.int (0 : Int32)), .val (.int (0 : Int32)), .val .null, .unset] [(.ref d2), (.ref a)]))
  obtain ⟨T9, h9, X9, e9, W9, st9⟩ := putF X8 hx hZ hown (host := "") (Or.inl (own_w hw 25 rfl)) Via.refl e8 f4 f3 (Or.inr ⟨(own_w hw 21 rfl), rfl, hnm⟩) (own_w hw 6 rfl) (ty := (.array .byte)) (by decide) rfl rfl (g := (mkF m 14 #[.val (.ref a), .val (.ref ca), .val (.int (0 : Int32)), .val (.int (0 : Int32)), .val .null, .unset] [(.ref d2), (.ref a)])) rfl rfl (hb hby q2_14)
  refine oS st9 ?_
  have N9 := Fr.snoc X9 N0 P3
  have Fw9 := f4.same W9
  have f10 := f3.wr W9
  have f11 := f5.other W9 (Or.inr (slot_ne (Or.inr (own_w hw 22 rfl)) (Or.inr (own_w hw 21 rfl)) (by decide) (t := .byte) (t' := (.array .byte)) (by decide) (by decide)))
  have f12 := CHv.wr W9 sf2 CH2.1
  have f13 := Safe.wr W9 sf2 CH2.1 sf2
  have f14 := Ex2.wr W9
  have f15 := Fc2.other W9 (Or.inl (Ne.symm na2))
  have f16 := Fv2.other W9 (Or.inl (Ne.symm na2))
  have f17 := Av2.other W9 (Ne.symm nd2)
  have K18 : Keep h0 h9 [a] := K6.wr W9 (Or.inl (List.mem_of_getElem? (i := 0) rfl))
  have z19 : n0 ≤ h9.size := Nat.le_trans z7 (Keep.of_wr W9).1
  show oG _ _ _ _ (T9.setTop (mkF m 17 #[.val (.ref a), .val (.ref ca), .val (.int (0 : Int32)), .val (.int (0 : Int32)), .val .null, .unset] []))
  refine oS (fun _ κ => XS.aloadN X9.here hx rfl (hb hby q2_17) rfl rfl κ) ?_
  show oG _ _ _ _ (T9.setTop (mkF m 18 #[.val (.ref a), .val (.ref ca), .val (.int (0 : Int32)), .val (.int (0 : Int32)), .val .null, .unset] [(.ref a)]))
  obtain ⟨a20, T20, h20, k20, d20, kb20, X20, e20, E20, hS20, hk20, hZ, hown, Ex20, Fc20, Fv20, Av20, -, -, CH20, -, ne20, st20⟩ := ldcCH X9 hx hZ hown (own_w hw 19 rfl) (own_sA hw) e9 hS2 (Nat.le_trans hk2 (Keep.of_wr W9).1) (own_EW hw) (List.mem_of_getElem? (i := 0) rfl) f12 (vs := []) (z := (0 : Int32)) ⟨by decide, by decide⟩ (by decide) (by decide) (g := (mkF m 18 #[.val (.ref a), .val (.ref ca), .val (.int (0 : Int32)), .val (.int (0 : Int32)), .val .null, .unset] [(.ref a)])) rfl (hb hby q2_18) (n := 0) (by decide) (by decide) (by decide) (by decide)
  refine oS st20 ?_
  have sf20 := CH20.safe f10.lt f13
  obtain ⟨na20, nd20⟩ := ne20 _ sf20
  have f21 := f10.ext E20
  have f22 := f11.ext E20
  have f23 := f14.ext E20
  have f24 := f15.ext E20
  have f25 := f16.ext E20
  have f26 := f17.ext E20
  have f27 := Fw9.ext E20
  have K28 : Keep h0 h20 [a] := K18.ext E20
  have z29 : n0 ≤ h20.size := Nat.le_trans z19 E20.1
  show oG _ _ _ _ (T20.setTop (mkF m 20 #[.val (.ref a), .val (.ref ca), .val (.int (0 : Int32)), .val (.int (0 : Int32)), .val .null, .unset] [(.ref a20), (.ref a)]))
  obtain ⟨T30, X30, e30, st30⟩ := getF X20 hx hZ hown (host := "") (Or.inl (own_w hw 26 rfl)) Via.refl e20 Fc20 (g := (mkF m 20 #[.val (.ref a), .val (.ref ca), .val (.int (0 : Int32)), .val (.int (0 : Int32)), .val .null, .unset] [(.ref a20), (.ref a)])) rfl rfl (hb hby q2_20)
  refine oS st30 ?_
  show oG _ _ _ _ (T30.setTop (mkF m 23 #[.val (.ref a), .val (.ref ca), .val (.int (0 : Int32)), .val (.int (0 : Int32)), .val .null, .unset] [(.int (0 : Int32)), (.ref a)]))
  obtain ⟨T31, h31, X31, e31, W31, st31⟩ := putFN X30 hx hZ hown (own_w hw 26 rfl) Via.refl e30 f22 f21 (Or.inr ⟨(own_w hw 22 rfl), rfl, hnm⟩) (own_w hw 6 rfl) (ty := .byte) (v := (.int (0 : Int32))) (v' := (.int (0 : Int32))) (by decide) rfl (by decide) (g := (mkF m 23 #[.val (.ref a), .val (.ref ca), .val (.int (0 : Int32)), .val (.int (0 : Int32)), .val .null, .unset] [(.int (0 : Int32)), (.ref a)])) rfl rfl (hb hby q2_23)
  refine oS st31 ?_
  have N31 := Fr.snoc X31 N9 P3
  have Fw31 := f22.same W31
  have f32 := f21.wr W31
  have f33 := f23.wr W31
  have f34 := f24.other W31 (Or.inl (Ne.symm na2))
  have f35 := f25.other W31 (Or.inl (Ne.symm na2))
  have f36 := f26.other W31 (Ne.symm nd2)
  have f37 := f27.other W31 (Or.inr (slot_ne (Or.inr (own_w hw 21 rfl)) (Or.inr (own_w hw 22 rfl)) (by decide) (t := (.array .byte)) (t' := .byte) (by decide) (by decide)))
  have f38 := CHv.wr W31 sf20 CH20.1
  have f39 := Safe.wr W31 sf20 CH20.1 sf20
  have f40 := Ex20.wr W31
  have f41 := Fc20.other W31 (Or.inl (Ne.symm na20))
  have f42 := Fv20.other W31 (Or.inl (Ne.symm na20))
  have f43 := Av20.other W31 (Ne.symm nd20)
  have K44 : Keep h0 h31 [a] := K28.wr W31 (Or.inl (List.mem_of_getElem? (i := 0) rfl))
  have z45 : n0 ≤ h31.size := Nat.le_trans z29 (Keep.of_wr W31).1
  show oG _ _ _ _ (T31.setTop (mkF m 26 #[.val (.ref a), .val (.ref ca), .val (.int (0 : Int32)), .val (.int (0 : Int32)), .val .null, .unset] []))
  obtain ⟨fs, hr, hrun, hended, hEW⟩ := X31.leaveW hS20 (by rw [e31]; exact (Nat.le_trans hk20 (Keep.of_wr W31).1)) (v := none) (fun _ => rfl)
  refine ⟨_, _, X31.returnOut hx Bd.returns (hb hby q2_26) hr, hrun, hended, _, _, rfl, ?_, hEW.1, hEW.2.1, hEW.2.2.1, hEW.2.2.2.mono (by decide) (by decide)⟩
  show Q58 Z a ca  h0 n0 _ T31.heap _
  rw [e31]
  exact ⟨rfl, N31, K44, Or.inl ⟨_, own_zero, f32, f37, Fw31, own_By.mk f36 (fun i hi => absurd hi (by simp)), fun i hi => absurd hi (by simp)⟩⟩
theorem ef_59 (m : MethodId) (a : Addr) (ca : Addr) : entryFrame m #[(.ref a), (.ref ca)] 2 = mkF m 0 #[.val (.ref a), .val (.ref ca)] [] := by first | (simp [entryFrame, mkF, argsToLocals, Value.category]; done) | rfl
def Q59 (Z : State) (a : Addr) (ca : Addr) (ka : ClassId) (h0 : Heap) (n0 : Nat) (v : Option Value) (h : Heap) (L : List Loc) : Prop := v = none ∧ Fr n0 L ∧ Keep h0 h [a] ∧ (own_S Z h a (0 : Int32) (own_gl []))
set_option maxRecDepth 65536 in
set_option maxHeartbeats 40000000 in
theorem rm59 (l : Launch) (Z : State) (a0 : Array Value) (hw : ∀ d ∈ tables_1, d.before a0 Z = true) (ws : List Jvm.Cond) (a : Addr) (ca : Addr) (ka : ClassId) (h0 : Heap) (n0 : Nat) (Z0 : n0 ≤ h0.size) (P0 : Exa Z h0 a "java/lang/String") (P1 : Fld Z h0 a "java/lang/String" "value" "[B" .null) (P2 : Fld Z h0 a "java/lang/String" "coder" "B" (.int (0 : Int32))) (P3 : n0 ≤ a) (P4 : Arv Z h0 ca ka .char (0 : Int32) [] (.int (0 : Int32))) :
    MetFree l own_y3 (head1 (Jvm.Cond.code own_y3 jdk_42_method_3_code 2 none :: ws) own_r14) (fun ar_ U => ar_ = #[(.ref a), (.ref ca)] ∧ Z.Warmed39 U.vm ∧ U.heap = h0 ∧ CHv Z consts_1 U.vm h0 ∧ Safe Z consts_1 U.vm h0 a) (fun _ _ _ _ _ => True) (fun _ U oo_ U' => ∃ v L, oo_ = .returned v ∧ Q59 Z a ca ka h0 n0 v U'.heap L ∧ ReturnedEndW U oo_ U' L own_r14.cells own_r14.slots) := by
  refine MetFree.of_bodySF (plainFor_of_name pn_2) hisR ?_
  intro p e s m args below meth c s₁ Bd hml0 hP hK
  obtain ⟨rfl, hZ, hh, hCH⟩ := hP
  have hx := Bd.exec
  have hby := Bd.bytes
  have hml : c.maxLocals = 2 := hml0
  have hown : s.vm.findClass "java/lang/String" = some m.cls := findClass_of_methodNamed Bd.named
  have hnm := (name_of_methodNamed Bd.named Bd.method).1
  have X0 : Stand p l e own_r14 s m #[(.ref a), (.ref ca)] below meth c s₁ [] 0 0 := Stand.of_body Bd
  have e0 : s₁.heap = h0 := by rw [← hh, Bd.state]; rfl
  have N0 := Fr.nil n0
  refine own_in (castTop (ef_59 m a ca)) ?_
  show oG _ _ _ _ (s₁.setTop (mkF m 0 #[.val (.ref a), .val (.ref ca)] []))
  refine oS (fun _ κ => XS.aloadN X0.here hx rfl (hb hby q14_0) rfl rfl κ) ?_
  refine oS (fun _ κ => XS.aloadN X0.here hx rfl (hb hby q14_1) rfl rfl κ) ?_
  refine oS (fun _ κ => XS.iconst X0.here hx rfl (hb hby q14_2) κ) ?_
  refine oS (fun _ κ => XS.aloadN X0.here hx rfl (hb hby q14_3) rfl rfl κ) ?_
  obtain ⟨cl1, Ar1, -, Sz1, Nz1, -, -⟩ := id (P4)
  refine oS (fun _ κ => X0.arraylength hx (by rw [e0]; exact Ar1.1) (State.isArrayOf_alike hZ.alike Ar1.2.1) (g := (mkF m 4 #[.val (.ref a), .val (.ref ca)] [(.ref ca), (.int (0 : Int32)), (.ref ca), (.ref a)])) rfl rfl (hb hby q14_4) _ κ) ?_
  rw [len_of Sz1 Nz1]
  show oG _ _ _ _ (s₁.setTop (mkF m 5 #[.val (.ref a), .val (.ref ca)] [(.int (0 : Int32)), (.int (0 : Int32)), (.ref ca), (.ref a)]))
  refine oS (fun _ κ => XS.aconstNull X0.here hx rfl (hb hby q14_5) κ) ?_
  have X0 : Stand p l e own_r14 (s.setVm s.vm) m #[(.ref a), (.ref ca)] below meth c s₁ _ _ _ := X0
  obtain ⟨vr2, _, ⟨T2, L2, k2, n2⟩, -, X2, hS2, hgr2, ⟨Lc2, hQ2, l2, y2, z2⟩, st2⟩ := X0.specialBackS hx (y := own_y4) rfl hown (mvT hZ (own_w hw 12 rfl)) (mvT hZ (own_w hw 13 rfl)) (mvT hZ (own_w hw 15 rfl)) (by decide) (own_backC (W := 0) (rm58 l Z a0 hw [] a ca  h0 n0 Z0 P0 P1 P2 P3) hZ (own_w hw 15 rfl) (own_w hw 7 rfl) (by decide) (by decide) (own_EW hw) hCH.1 P0.lt hCH.2) (g := (mkF m 6 #[.val (.ref a), .val (.ref ca)] [.null, (.int (0 : Int32)), (.int (0 : Int32)), (.ref ca), (.ref a)])) rfl (by rw [hml]; rfl) (Steps.refl _) (a := a) (argsL := [(.ref ca), (.int (0 : Int32)), (.int (0 : Int32)), .null]) (rest := []) (lenOf pd_13 rfl) rfl own_2z (hb hby q14_6) (fun _ _ => ⟨rfl, e0, (by decide : 0 + 4 ≤ _), (by decide : 0 + 8 ≤ _)⟩)
  dsimp only [Pt.U, Pt.locs, Pt.cells, Pt.slots] at hS2 hgr2
  have hS2 : s.Since T2.vm T2.heap.size := hS2
  have X2 : Stand p l e own_r14 (s.setVm T2.vm) m #[(.ref a), (.ref ca)] below meth c T2 _ _ _ := X2
  have hZ : Z.Warmed39 (s.setVm T2.vm).vm := State.Warmed39.trans (t := s) hZ hS2.1
  have hown : (s.setVm T2.vm).vm.findClass "java/lang/String" = some m.cls := by show T2.vm.findClass _ = _; rw [hS2.1.alike.findClass]; exact hown
  dsimp only [Pt.U, Pt.locs, Pt.cells, Pt.slots] at X2 l2 y2 z2 st2 hQ2
  subst l2 y2 z2
  obtain ⟨rfl, Nq2, Kq2, p2_0⟩ := hQ2
  have N2 := Fr.app N0 Nq2
  have f3 := P0.keep Kq2
  have K4 : Keep h0 T2.heap [a] := (Keep.refl h0 [a]).trans Kq2 (allS (Or.inl (List.mem_of_getElem? (i := 0) rfl)) all0)
  have z5 : n0 ≤ T2.heap.size := Nat.le_trans Z0 Kq2.1
  refine oS (fun _ κ => st2.trans κ) ?_
  show oG _ _ _ _ (T2.setTop (mkF m 9 #[.val (.ref a), .val (.ref ca)] []))
  obtain ⟨fs, hr, hrun, hended, hEW⟩ := X2.leaveW hS2 (Nat.le_refl _) (v := none) (fun _ => rfl)
  refine ⟨_, _, X2.returnOut hx Bd.returns (hb hby q14_9) hr, hrun, hended, _, _, rfl, ?_, hEW.1, hEW.2.1, hEW.2.2.1, hEW.2.2.2.mono (by decide) (by decide)⟩
  show Q59 Z a ca ka h0 n0 _ T2.heap _
  skip
  exact ⟨rfl, N2, K4, p2_0⟩
theorem ef_0 (m : MethodId) (p0 : Int32) (p1 : Int32) (p2 : Int32) (p3 : Int32) (p4 : Int32) : entryFrame m #[(.int p0), (.int p1), (.int p2), (.int p3), (.int p4)] maxLocals = mkF m 0 #[.val (.int p0), .val (.int p1), .val (.int p2), .val (.int p3), .val (.int p4), .unset, .unset, .unset, .unset, .unset, .unset, .unset] [] := by first | (simp [entryFrame, mkF, argsToLocals, Value.category, maxLocals]; done) | rfl
def Q0 (Z : State) (p0 : Int32) (p1 : Int32) (p2 : Int32) (p3 : Int32) (p4 : Int32) (fv : Value) (cs : Int32) (h0 : Heap) (n0 : Nat) (v : Option Value) (h : Heap) (L : List Loc) : Prop := v = some (.int (1 : Int32)) ∧ Fr n0 L
set_option maxRecDepth 65536 in
set_option maxHeartbeats 40000000 in
theorem rm0 (l : Launch) (Z : State) (a0 : Array Value) (hw : ∀ d ∈ tables_1, d.before a0 Z = true) (ws : List Jvm.Cond) (p0 : Int32) (p1 : Int32) (p2 : Int32) (p3 : Int32) (p4 : Int32) (fv : Value) (cs : Int32) (h0 : Heap) (n0 : Nat) (Z0 : n0 ≤ h0.size) (P0 : Old Z n0 h0) (P1 : Sta Z Z.heap "jdk/internal/util/Preconditions" "SIOOBE_FORMATTER" "Ljava/util/function/BiFunction;" fv) (P2 : fv.isRef = true) (P3 : Sta Z Z.heap "java/lang/String" "COMPACT_STRINGS" "Z" (.int cs)) (P4 : ¬ cs = (0 : Int32)) (P5 : Sta Z Z.heap "java/lang/StringUTF16" "$assertionsDisabled" "Z" (.int (1 : Int32))) (P6 : Sta Z Z.heap "java/lang/StringUTF16" "HI_BYTE_SHIFT" "I" (.int (0 : Int32))) (P7 : Sta Z Z.heap "java/lang/StringUTF16" "LO_BYTE_SHIFT" "I" (.int (8 : Int32))) :
    MetFree l x (head1 (Jvm.Cond.code x code maxLocals ret :: ws) room_1) (fun ar_ U => ar_ = #[(.int p0), (.int p1), (.int p2), (.int p3), (.int p4)] ∧ Z.Warmed39 U.vm ∧ U.heap = h0 ∧ CHv Z consts_1 U.vm h0) (fun _ _ _ _ _ => True) (fun _ U oo_ U' => ∃ v L, oo_ = .returned v ∧ Q0 Z p0 p1 p2 p3 p4 fv cs h0 n0 v U'.heap L ∧ ReturnedEndW U oo_ U' L room_1.cells room_1.slots) := by
  refine MetFree.of_bodySF (plainFor_of_name pn_0) hisR ?_
  intro p e s m args below meth c s₁ Bd hml0 hP hK
  obtain ⟨rfl, hZ, hh, hCH⟩ := hP
  have hx := Bd.exec
  have hby := Bd.bytes
  have hml : c.maxLocals = 12 := hml0
  have hown : s.vm.findClass "com/example/everrow/everrow/csv/CsvWriterFitsTabSeparatedPinLaw" = some m.cls := findClass_of_methodNamed Bd.named
  have hnm := (name_of_methodNamed Bd.named Bd.method).1
  have X0 : Stand p l e room_1 s m #[(.int p0), (.int p1), (.int p2), (.int p3), (.int p4)] below meth c s₁ [] 0 0 := Stand.of_body Bd
  have e0 : s₁.heap = h0 := by rw [← hh, Bd.state]; rfl
  have N0 := Fr.nil n0
  refine own_in (castTop (ef_0 m p0 p1 p2 p3 p4)) ?_
  show oG _ _ _ _ (s₁.setTop (mkF m 0 #[.val (.int p0), .val (.int p1), .val (.int p2), .val (.int p3), .val (.int p4), .unset, .unset, .unset, .unset, .unset, .unset, .unset] []))
  refine oS (fun _ κ => XS.iloadN X0.here hx rfl (hb hby at_0) rfl κ) ?_
  refine oS (fun _ κ => X0.ldcInt hx hown (mvT hZ (own_w hw 0 rfl)) (g := (mkF m 1 #[.val (.int p0), .val (.int p1), .val (.int p2), .val (.int p3), .val (.int p4), .unset, .unset, .unset, .unset, .unset, .unset, .unset] [(.int p0)])) rfl (hb hby at_1) _ κ) ?_
  show oG _ _ _ _ (s₁.setTop (mkF m 3 #[.val (.int p0), .val (.int p1), .val (.int p2), .val (.int p3), .val (.int p4), .unset, .unset, .unset, .unset, .unset, .unset, .unset] [(.int (2147483647 : Int32)), (.int p0)]))
  refine oS (fun _ κ => XS.iand X0.here hx rfl (hb hby at_3) rfl κ) ?_
  show oG _ _ _ _ (s₁.setTop (mkF m 4 #[.val (.int p0), .val (.int p1), .val (.int p2), .val (.int p3), .val (.int p4), .unset, .unset, .unset, .unset, .unset, .unset, .unset] [(.int (p0 &&& (2147483647 : Int32)))]))
  refine oS (fun _ κ => XS.iconst X0.here hx rfl (hb hby at_4) κ) ?_
  refine oS (fun _ κ => iremM X0 hx rfl (hb hby at_5) rfl (by decide) κ) ?_
  show oG _ _ _ _ (s₁.setTop (mkF m 6 #[.val (.int p0), .val (.int p1), .val (.int p2), .val (.int p3), .val (.int p4), .unset, .unset, .unset, .unset, .unset, .unset, .unset] [(.int ((p0 &&& (2147483647 : Int32)) % (5 : Int32)))]))
  refine oS (fun _ κ => XS.istore X0.here hx rfl (hb hby at_6) rfl (l' := #[.val (.int p0), .val (.int p1), .val (.int p2), .val (.int p3), .val (.int p4), .val (.int ((p0 &&& (2147483647 : Int32)) % (5 : Int32))), .unset, .unset, .unset, .unset, .unset, .unset]) rfl κ) ?_
  refine oS (fun _ κ => XS.iloadN X0.here hx rfl (hb hby at_8) rfl κ) ?_
  obtain ⟨vr1, _, ⟨T1, L1, k1, n1⟩, -, X1, ⟨Lc1, hQ1, l1, y1, z1⟩, st1⟩ := Jvm.LawKit.callS X0 hx (y := own_y2) hown (mvT hZ (own_w hw 1 rfl)) (mvT hZ (own_w hw 2 rfl)) (mvT hZ (own_w hw 3 rfl)) (mvT hZ (own_w hw 4 rfl)) (by decide) (backOf (W := 0) (rm1 l Z a0 hw [] p1  h0 n0 Z0 ) hZ (own_w hw 4 rfl) (own_w hw 3 rfl) (by decide) (by decide)) (g := (mkF m 9 #[.val (.int p0), .val (.int p1), .val (.int p2), .val (.int p3), .val (.int p4), .val (.int ((p0 &&& (2147483647 : Int32)) % (5 : Int32))), .unset, .unset, .unset, .unset, .unset, .unset] [(.int p1)])) rfl (by rw [hml]; rfl) (argsL := [(.int p1)]) (rest := []) (lenOf pd_15 rfl) rfl own_2z (hb hby at_9) (fun _ _ => ⟨rfl, e0, (by decide : 0 + 0 ≤ _), (by decide : 0 + 0 ≤ _)⟩)
  dsimp only [Pt.U, Pt.locs, Pt.cells, Pt.slots] at X1 l1 y1 z1 st1 hQ1
  subst l1 y1 z1
  obtain ⟨rfl, Nq1, eq1⟩ := hQ1
  have N1 := Fr.app N0 Nq1
  refine oS st1 ?_
  show oG _ _ _ _ (T1.setTop (mkF m 12 #[.val (.int p0), .val (.int p1), .val (.int p2), .val (.int p3), .val (.int p4), .val (.int ((p0 &&& (2147483647 : Int32)) % (5 : Int32))), .unset, .unset, .unset, .unset, .unset, .unset] [(.int (own_draw p1))]))
  refine oS (fun _ κ => XS.istore X1.here hx rfl (hb hby at_12) rfl (l' := #[.val (.int p0), .val (.int p1), .val (.int p2), .val (.int p3), .val (.int p4), .val (.int ((p0 &&& (2147483647 : Int32)) % (5 : Int32))), .val (.int (own_draw p1)), .unset, .unset, .unset, .unset, .unset]) rfl κ) ?_
  refine oS (fun _ κ => XS.iloadN X1.here hx rfl (hb hby at_14) rfl κ) ?_
  obtain ⟨vr2, _, ⟨T2, L2, k2, n2⟩, -, X2, ⟨Lc2, hQ2, l2, y2, z2⟩, st2⟩ := Jvm.LawKit.callS X1 hx (y := own_y2) hown (mvT hZ (own_w hw 1 rfl)) (mvT hZ (own_w hw 2 rfl)) (mvT hZ (own_w hw 3 rfl)) (mvT hZ (own_w hw 4 rfl)) (by decide) (backOf (W := 0) (rm1 l Z a0 hw [] p2  h0 n0 Z0 ) hZ (own_w hw 4 rfl) (own_w hw 3 rfl) (by decide) (by decide)) (g := (mkF m 15 #[.val (.int p0), .val (.int p1), .val (.int p2), .val (.int p3), .val (.int p4), .val (.int ((p0 &&& (2147483647 : Int32)) % (5 : Int32))), .val (.int (own_draw p1)), .unset, .unset, .unset, .unset, .unset] [(.int p2)])) rfl (by rw [hml]; rfl) (argsL := [(.int p2)]) (rest := []) (lenOf pd_15 rfl) rfl own_2z (hb hby at_15) (fun _ _ => ⟨rfl, eq1, (by decide : 0 + 0 ≤ _), (by decide : 0 + 0 ≤ _)⟩)
  dsimp only [Pt.U, Pt.locs, Pt.cells, Pt.slots] at X2 l2 y2 z2 st2 hQ2
  subst l2 y2 z2
  obtain ⟨rfl, Nq2, eq2⟩ := hQ2
  have N2 := Fr.app N1 Nq2
  refine oS st2 ?_
  show oG _ _ _ _ (T2.setTop (mkF m 18 #[.val (.int p0), .val (.int p1), .val (.int p2), .val (.int p3), .val (.int p4), .val (.int ((p0 &&& (2147483647 : Int32)) % (5 : Int32))), .val (.int (own_draw p1)), .unset, .unset, .unset, .unset, .unset] [(.int (own_draw p2))]))
  refine oS (fun _ κ => XS.istore X2.here hx rfl (hb hby at_18) rfl (l' := #[.val (.int p0), .val (.int p1), .val (.int p2), .val (.int p3), .val (.int p4), .val (.int ((p0 &&& (2147483647 : Int32)) % (5 : Int32))), .val (.int (own_draw p1)), .val (.int (own_draw p2)), .unset, .unset, .unset, .unset]) rfl κ) ?_
  refine oS (fun _ κ => XS.iloadN X2.here hx rfl (hb hby at_20) rfl κ) ?_
  obtain ⟨vr3, _, ⟨T3, L3, k3, n3⟩, -, X3, ⟨Lc3, hQ3, l3, y3, z3⟩, st3⟩ := Jvm.LawKit.callS X2 hx (y := own_y2) hown (mvT hZ (own_w hw 1 rfl)) (mvT hZ (own_w hw 2 rfl)) (mvT hZ (own_w hw 3 rfl)) (mvT hZ (own_w hw 4 rfl)) (by decide) (backOf (W := 0) (rm1 l Z a0 hw [] p3  h0 n0 Z0 ) hZ (own_w hw 4 rfl) (own_w hw 3 rfl) (by decide) (by decide)) (g := (mkF m 21 #[.val (.int p0), .val (.int p1), .val (.int p2), .val (.int p3), .val (.int p4), .val (.int ((p0 &&& (2147483647 : Int32)) % (5 : Int32))), .val (.int (own_draw p1)), .val (.int (own_draw p2)), .unset, .unset, .unset, .unset] [(.int p3)])) rfl (by rw [hml]; rfl) (argsL := [(.int p3)]) (rest := []) (lenOf pd_15 rfl) rfl own_2z (hb hby at_21) (fun _ _ => ⟨rfl, eq2, (by decide : 0 + 0 ≤ _), (by decide : 0 + 0 ≤ _)⟩)
  dsimp only [Pt.U, Pt.locs, Pt.cells, Pt.slots] at X3 l3 y3 z3 st3 hQ3
  subst l3 y3 z3
  obtain ⟨rfl, Nq3, eq3⟩ := hQ3
  have N3 := Fr.app N2 Nq3
  refine oS st3 ?_
  show oG _ _ _ _ (T3.setTop (mkF m 24 #[.val (.int p0), .val (.int p1), .val (.int p2), .val (.int p3), .val (.int p4), .val (.int ((p0 &&& (2147483647 : Int32)) % (5 : Int32))), .val (.int (own_draw p1)), .val (.int (own_draw p2)), .unset, .unset, .unset, .unset] [(.int (own_draw p3))]))
  refine oS (fun _ κ => XS.istore X3.here hx rfl (hb hby at_24) rfl (l' := #[.val (.int p0), .val (.int p1), .val (.int p2), .val (.int p3), .val (.int p4), .val (.int ((p0 &&& (2147483647 : Int32)) % (5 : Int32))), .val (.int (own_draw p1)), .val (.int (own_draw p2)), .val (.int (own_draw p3)), .unset, .unset, .unset]) rfl κ) ?_
  refine oS (fun _ κ => XS.iload X3.here hx rfl (hb hby at_26) rfl κ) ?_
  obtain ⟨vr4, _, ⟨T4, L4, k4, n4⟩, -, X4, ⟨Lc4, hQ4, l4, y4, z4⟩, st4⟩ := Jvm.LawKit.callS X3 hx (y := own_y2) hown (mvT hZ (own_w hw 1 rfl)) (mvT hZ (own_w hw 2 rfl)) (mvT hZ (own_w hw 3 rfl)) (mvT hZ (own_w hw 4 rfl)) (by decide) (backOf (W := 0) (rm1 l Z a0 hw [] p4  h0 n0 Z0 ) hZ (own_w hw 4 rfl) (own_w hw 3 rfl) (by decide) (by decide)) (g := (mkF m 28 #[.val (.int p0), .val (.int p1), .val (.int p2), .val (.int p3), .val (.int p4), .val (.int ((p0 &&& (2147483647 : Int32)) % (5 : Int32))), .val (.int (own_draw p1)), .val (.int (own_draw p2)), .val (.int (own_draw p3)), .unset, .unset, .unset] [(.int p4)])) rfl (by rw [hml]; rfl) (argsL := [(.int p4)]) (rest := []) (lenOf pd_15 rfl) rfl own_2z (hb hby at_28) (fun _ _ => ⟨rfl, eq3, (by decide : 0 + 0 ≤ _), (by decide : 0 + 0 ≤ _)⟩)
  dsimp only [Pt.U, Pt.locs, Pt.cells, Pt.slots] at X4 l4 y4 z4 st4 hQ4
  subst l4 y4 z4
  obtain ⟨rfl, Nq4, eq4⟩ := hQ4
  have N4 := Fr.app N3 Nq4
  refine oS st4 ?_
  show oG _ _ _ _ (T4.setTop (mkF m 31 #[.val (.int p0), .val (.int p1), .val (.int p2), .val (.int p3), .val (.int p4), .val (.int ((p0 &&& (2147483647 : Int32)) % (5 : Int32))), .val (.int (own_draw p1)), .val (.int (own_draw p2)), .val (.int (own_draw p3)), .unset, .unset, .unset] [(.int (own_draw p4))]))
  refine oS (fun _ κ => XS.istore X4.here hx rfl (hb hby at_31) rfl (l' := #[.val (.int p0), .val (.int p1), .val (.int p2), .val (.int p3), .val (.int p4), .val (.int ((p0 &&& (2147483647 : Int32)) % (5 : Int32))), .val (.int (own_draw p1)), .val (.int (own_draw p2)), .val (.int (own_draw p3)), .val (.int (own_draw p4)), .unset, .unset]) rfl κ) ?_
  show oG _ _ _ _ (T4.setTop (mkF m 33 #[.val (.int p0), .val (.int p1), .val (.int p2), .val (.int p3), .val (.int p4), .val (.int ((p0 &&& (2147483647 : Int32)) % (5 : Int32))), .val (.int (own_draw p1)), .val (.int (own_draw p2)), .val (.int (own_draw p3)), .val (.int (own_draw p4)), .unset, .unset] []))
  have hz := own_mod5 p0
  generalize ((p0 &&& (2147483647 : Int32)) % (5 : Int32)) = z at *
  have r1 := own_drawR p1
  generalize own_draw p1 = x1 at *
  have r2 := own_drawR p2
  generalize own_draw p2 = x2 at *
  have r3 := own_drawR p3
  generalize own_draw p3 = x3 at *
  have r4 := own_drawR p4
  generalize own_draw p4 = x4 at *
  show oG _ _ _ _ (T4.setTop (mkF m 33 #[.val (.int p0), .val (.int p1), .val (.int p2), .val (.int p3), .val (.int p4), .val (.int z), .val (.int x1), .val (.int x2), .val (.int x3), .val (.int x4), .unset, .unset] []))
  refine oS (fun _ κ => XS.iload X4.here hx rfl (hb hby at_33) rfl κ) ?_
  by_cases hc5 : z = (0 : Int32)
  · refine oS (fun _ κ => XS.ifNo X4.here hx rfl (hb hby at_35) rfl ((if0 _ _).trans (teq hc5).2) κ) ?_
    show oG _ _ _ _ (T4.setTop (mkF m 38 #[.val (.int p0), .val (.int p1), .val (.int p2), .val (.int p3), .val (.int p4), .val (.int z), .val (.int x1), .val (.int x2), .val (.int x3), .val (.int x4), .unset, .unset] []))
    obtain ⟨T6, h6, X6, e6, E6, A6, D6, U6, st6⟩ := newO X4 hx hZ hown (own_w hw 5 rfl) (own_w hw 6 rfl) (own_w hw 7 rfl) eq4 (g := (mkF m 38 #[.val (.int p0), .val (.int p1), .val (.int p2), .val (.int p3), .val (.int p4), .val (.int z), .val (.int x1), .val (.int x2), .val (.int x3), .val (.int x4), .unset, .unset] [])) rfl (hb hby at_38) (by decide) (by decide)
    obtain ⟨b6, g6⟩ : ∃ z, z = h0.size := ⟨_, rfl⟩
    rw [← g6] at A6 D6 U6 st6
    refine oS st6 ?_
    have ge7 : n0 ≤ b6 := Nat.le_trans Z0 (Nat.le_of_eq g6.symm)
    have f8 := P0.ext E6
    have f9 := hCH.ext E6
    have z10 : n0 ≤ h6.size := Nat.le_trans Z0 E6.1
    have sf6 := Safe.ext E6 hCH (Safe.new (Nat.le_of_eq g6.symm))
    have F6_value : Fld Z h6 b6 "java/lang/String" "value" "[B" .null := D6 (Or.inr (own_w hw 21 rfl)) (ty := (.array .byte)) (by decide)
    have F6_coder : Fld Z h6 b6 "java/lang/String" "coder" "B" (.int (0 : Int32)) := D6 (Or.inr (own_w hw 22 rfl)) (ty := .byte) (by decide)
    show oG _ _ _ _ (T6.setTop (mkF m 41 #[.val (.int p0), .val (.int p1), .val (.int p2), .val (.int p3), .val (.int p4), .val (.int z), .val (.int x1), .val (.int x2), .val (.int x3), .val (.int x4), .unset, .unset] [(.ref b6)]))
    refine oS (fun _ κ => XS.dup X6.here hx rfl (hb hby at_41) rfl rfl κ) ?_
    refine oS (fun _ κ => XS.iconst X6.here hx rfl (hb hby at_42) κ) ?_
    show oG _ _ _ _ (T6.setTop (mkF m 43 #[.val (.int p0), .val (.int p1), .val (.int p2), .val (.int p3), .val (.int p4), .val (.int z), .val (.int x1), .val (.int x2), .val (.int x3), .val (.int x4), .unset, .unset] [(.int (0 : Int32)), (.ref b6), (.ref b6)]))
    obtain ⟨T11, h11, k11, X11, e11, E11, A11, st11⟩ := newP X6 hx hZ (own_w hw 8 rfl) e6 (g := (mkF m 43 #[.val (.int p0), .val (.int p1), .val (.int p2), .val (.int p3), .val (.int p4), .val (.int z), .val (.int x1), .val (.int x2), .val (.int x3), .val (.int x4), .unset, .unset] [(.int (0 : Int32)), (.ref b6), (.ref b6)])) rfl (hb hby at_43) rfl (by decide) (cap := 0) (by decide) (by decide) (by decide) (by decide)
    obtain ⟨b11, g11⟩ : ∃ z, z = h6.size := ⟨_, rfl⟩
    rw [← g11] at A11 st11
    refine oS st11 ?_
    have ne12 : b6 ≠ b11 := Nat.ne_of_lt (Nat.lt_of_lt_of_le A6.lt (Nat.le_of_eq g11.symm))
    have ge13 : n0 ≤ b11 := Nat.le_trans z10 (Nat.le_of_eq g11.symm)
    have f14 := f8.ext E11
    have f15 := f9.ext E11
    have f16 := A6.ext E11
    have f17 := Safe.ext E11 f9 sf6
    have f18 := F6_value.ext E11
    have f19 := F6_coder.ext E11
    have z20 : n0 ≤ h11.size := Nat.le_trans z10 E11.1
    have V11 : Arv Z h11 b11 k11 .char (0 : Int32) [] (.int (0 : Int32)) := Arv.new A11 (by decide)
    show oG _ _ _ _ (T11.setTop (mkF m 45 #[.val (.int p0), .val (.int p1), .val (.int p2), .val (.int p3), .val (.int p4), .val (.int z), .val (.int x1), .val (.int x2), .val (.int x3), .val (.int x4), .unset, .unset] [(.ref b11), (.ref b6), (.ref b6)]))
    have X11 : Stand p l e room_1 (s.setVm s.vm) m #[(.int p0), (.int p1), (.int p2), (.int p3), (.int p4)] below meth c T11 _ _ _ := X11
    obtain ⟨vr21, _, ⟨T21, L21, k21, n21⟩, -, X21, hS21, hgr21, ⟨Lc21, hQ21, l21, y21, z21⟩, st21⟩ := X11.specialBackS hx (y := own_y3) rfl hown (mvT hZ (own_w hw 9 rfl)) (mvT hZ (own_w hw 10 rfl)) (mvT hZ (own_w hw 11 rfl)) (by decide) (own_backC (W := 1) (rm59 l Z a0 hw [] b6 b11 k11 h11 n0 z20 f16 f18 f19 ge7 V11) hZ (own_w hw 11 rfl) (own_w hw 7 rfl) (by decide) (by decide) (own_EW hw) f15 f16.lt f17) (g := (mkF m 45 #[.val (.int p0), .val (.int p1), .val (.int p2), .val (.int p3), .val (.int p4), .val (.int z), .val (.int x1), .val (.int x2), .val (.int x3), .val (.int x4), .unset, .unset] [(.ref b11), (.ref b6), (.ref b6)])) rfl (by rw [hml]; rfl) (Steps.refl _) (a := b6) (argsL := [(.ref b11)]) (rest := [(.ref b6)]) (lenOf pd_16 rfl) rfl own_2z (hb hby at_45) (fun _ _ => ⟨rfl, e11, (by decide : 2 + 4 ≤ _), (by decide : 4 + 8 ≤ _)⟩)
    dsimp only [Pt.U, Pt.locs, Pt.cells, Pt.slots] at hS21 hgr21
    have hS21 : s.Since T21.vm T21.heap.size := hS21
    have X21 : Stand p l e room_1 (s.setVm T21.vm) m #[(.int p0), (.int p1), (.int p2), (.int p3), (.int p4)] below meth c T21 _ _ _ := X21
    have hZ : Z.Warmed39 (s.setVm T21.vm).vm := State.Warmed39.trans (t := s) hZ hS21.1
    have hown : (s.setVm T21.vm).vm.findClass "com/example/everrow/everrow/csv/CsvWriterFitsTabSeparatedPinLaw" = some m.cls := by show T21.vm.findClass _ = _; rw [hS21.1.alike.findClass]; exact hown
    dsimp only [Pt.U, Pt.locs, Pt.cells, Pt.slots] at X21 l21 y21 z21 st21 hQ21
    subst l21 y21 z21
    obtain ⟨rfl, Nq21, Kq21, p21_0⟩ := hQ21
    have N21 := Fr.app N4 Nq21
    have f22 := f14.keep Kq21 (allS ge7 all0)
    have f23 := f16.keep Kq21
    have f24 := V11.keep Kq21 (ninS (Ne.symm ne12) nin0)
    have z25 : n0 ≤ T21.heap.size := Nat.le_trans z20 Kq21.1
    refine oS (fun _ κ => st21.trans κ) ?_
    show oG _ _ _ _ (T21.setTop (mkF m 48 #[.val (.int p0), .val (.int p1), .val (.int p2), .val (.int p3), .val (.int p4), .val (.int z), .val (.int x1), .val (.int x2), .val (.int x3), .val (.int x4), .unset, .unset] [(.ref b6)]))
    refine oS (fun _ κ => XS.astore X21.here hx rfl (hb hby at_48) rfl rfl (l' := #[.val (.int p0), .val (.int p1), .val (.int p2), .val (.int p3), .val (.int p4), .val (.int z), .val (.int x1), .val (.int x2), .val (.int x3), .val (.int x4), .val (.ref b6), .unset]) rfl κ) ?_
    refine oS (fun _ κ => XS.goto X21.here hx rfl (pc0 := 50) (pc' := 178) rfl (hb hby at_50) (by decide) (by decide) κ) ?_
    show oG _ _ _ _ (T21.setTop (mkF m 178 #[.val (.int p0), .val (.int p1), .val (.int p2), .val (.int p3), .val (.int p4), .val (.int z), .val (.int x1), .val (.int x2), .val (.int x3), .val (.int x4), .val (.ref b6), .unset] []))
    refine oS (fun _ κ => XS.iload X21.here hx rfl (hb hby at_178) rfl κ) ?_
    refine oS (fun _ κ => XS.iconst X21.here hx rfl (hb hby at_180) κ) ?_
    refine oS (fun _ κ => XS.icmpYes X21.here hx rfl (pc0 := 181) (pc' := 192) rfl (hb hby at_181) rfl (tlt (by rw [hc5]; decide)).1 (by decide) (by decide) κ) ?_
    show oG _ _ _ _ (T21.setTop (mkF m 192 #[.val (.int p0), .val (.int p1), .val (.int p2), .val (.int p3), .val (.int p4), .val (.int z), .val (.int x1), .val (.int x2), .val (.int x3), .val (.int x4), .val (.ref b6), .unset] []))
    refine oS (fun _ κ => XS.iload X21.here hx rfl (hb hby at_192) rfl κ) ?_
    refine oS (fun _ κ => XS.iconst X21.here hx rfl (hb hby at_194) κ) ?_
    refine oS (fun _ κ => XS.icmpYes X21.here hx rfl (pc0 := 195) (pc' := 206) rfl (hb hby at_195) rfl (tlt (by rw [hc5]; decide)).1 (by decide) (by decide) κ) ?_
    show oG _ _ _ _ (T21.setTop (mkF m 206 #[.val (.int p0), .val (.int p1), .val (.int p2), .val (.int p3), .val (.int p4), .val (.int z), .val (.int x1), .val (.int x2), .val (.int x3), .val (.int x4), .val (.ref b6), .unset] []))
    refine oS (fun _ κ => XS.iload X21.here hx rfl (hb hby at_206) rfl κ) ?_
    refine oS (fun _ κ => XS.iconst X21.here hx rfl (hb hby at_208) κ) ?_
    refine oS (fun _ κ => XS.icmpYes X21.here hx rfl (pc0 := 209) (pc' := 220) rfl (hb hby at_209) rfl (tlt (by rw [hc5]; decide)).1 (by decide) (by decide) κ) ?_
    show oG _ _ _ _ (T21.setTop (mkF m 220 #[.val (.int p0), .val (.int p1), .val (.int p2), .val (.int p3), .val (.int p4), .val (.int z), .val (.int x1), .val (.int x2), .val (.int x3), .val (.int x4), .val (.ref b6), .unset] []))
    refine oS (fun _ κ => XS.iload X21.here hx rfl (hb hby at_220) rfl κ) ?_
    refine oS (fun _ κ => XS.iconst X21.here hx rfl (hb hby at_222) κ) ?_
    refine oS (fun _ κ => XS.icmpYes X21.here hx rfl (pc0 := 223) (pc' := 234) rfl (hb hby at_223) rfl (tlt (by rw [hc5]; decide)).1 (by decide) (by decide) κ) ?_
    show oG _ _ _ _ (T21.setTop (mkF m 234 #[.val (.int p0), .val (.int p1), .val (.int p2), .val (.int p3), .val (.int p4), .val (.int z), .val (.int x1), .val (.int x2), .val (.int x3), .val (.int x4), .val (.ref b6), .unset] []))
    refine oS (fun _ κ => XS.iconst X21.here hx rfl (hb hby at_234) κ) ?_
    refine oS (fun _ κ => XS.goto X21.here hx rfl (pc0 := 235) (pc' := 239) rfl (hb hby at_235) (by decide) (by decide) κ) ?_
    show oG _ _ _ _ (T21.setTop (mkF m 239 #[.val (.int p0), .val (.int p1), .val (.int p2), .val (.int p3), .val (.int p4), .val (.int z), .val (.int x1), .val (.int x2), .val (.int x3), .val (.int x4), .val (.ref b6), .unset] [(.int (1 : Int32))]))
    refine oS (fun _ κ => XS.istore X21.here hx rfl (hb hby at_239) rfl (l' := #[.val (.int p0), .val (.int p1), .val (.int p2), .val (.int p3), .val (.int p4), .val (.int z), .val (.int x1), .val (.int x2), .val (.int x3), .val (.int x4), .val (.ref b6), .val (.int (1 : Int32))]) rfl κ) ?_
    refine oS (fun _ κ => XS.aload X21.here hx rfl (hb hby at_241) rfl rfl κ) ?_
    obtain ⟨vr26, _, ⟨T26, L26, k26, n26⟩, -, X26, ⟨Lc26, hQ26, l26, y26, z26⟩, st26⟩ := Jvm.LawKit.callS X21 hx (y := own_y0) hown (mvT hZ (own_w hw 27 rfl)) (mvT hZ (own_w hw 28 rfl)) (mvT hZ (own_w hw 29 rfl)) (mvT hZ (own_w hw 30 rfl)) (by decide) (backOf (W := 0) (rm53 l Z a0 hw [] b6 (own_gl []) cs fv T21.heap n0 z25 p21_0 f23 f22 P3 P4 P1 P2 P5 P6 P7) hZ (own_w hw 30 rfl) (own_w hw 29 rfl) (by decide) (by decide)) (g := (mkF m 243 #[.val (.int p0), .val (.int p1), .val (.int p2), .val (.int p3), .val (.int p4), .val (.int z), .val (.int x1), .val (.int x2), .val (.int x3), .val (.int x4), .val (.ref b6), .val (.int (1 : Int32))] [(.ref b6)])) rfl (by rw [hml]; rfl) (argsL := [(.ref b6)]) (rest := []) (lenOf pd_17 rfl) rfl own_2z (hb hby at_243) (fun _ _ => ⟨rfl, rfl, (by decide : 6 + 0 ≤ _), (by decide : 12 + 0 ≤ _)⟩)
    dsimp only [Pt.U, Pt.locs, Pt.cells, Pt.slots] at X26 l26 y26 z26 st26 hQ26
    subst l26 y26 z26
    obtain ⟨rfl, Nq26, eq26⟩ := hQ26
    have N26 := Fr.app N21 Nq26
    refine oS st26 ?_
    show oG _ _ _ _ (T26.setTop (mkF m 246 #[.val (.int p0), .val (.int p1), .val (.int p2), .val (.int p3), .val (.int p4), .val (.int z), .val (.int x1), .val (.int x2), .val (.int x3), .val (.int x4), .val (.ref b6), .val (.int (1 : Int32))] [(.int (1 : Int32))]))
    refine oS (fun _ κ => XS.iload X26.here hx rfl (hb hby at_246) rfl κ) ?_
    refine oS (fun _ κ => XS.icmpNo X26.here hx rfl (hb hby at_248) rfl (teq rfl).2 κ) ?_
    show oG _ _ _ _ (T26.setTop (mkF m 251 #[.val (.int p0), .val (.int p1), .val (.int p2), .val (.int p3), .val (.int p4), .val (.int z), .val (.int x1), .val (.int x2), .val (.int x3), .val (.int x4), .val (.ref b6), .val (.int (1 : Int32))] []))
    refine oS (fun _ κ => XS.iconst X26.here hx rfl (hb hby at_251) κ) ?_
    refine oS (fun _ κ => XS.goto X26.here hx rfl (pc0 := 252) (pc' := 256) rfl (hb hby at_252) (by decide) (by decide) κ) ?_
    show oG _ _ _ _ (T26.setTop (mkF m 256 #[.val (.int p0), .val (.int p1), .val (.int p2), .val (.int p3), .val (.int p4), .val (.int z), .val (.int x1), .val (.int x2), .val (.int x3), .val (.int x4), .val (.ref b6), .val (.int (1 : Int32))] [(.int (1 : Int32))]))
    obtain ⟨fs, hr, hrun, hended, hEW⟩ := X26.leaveW hS21 (by rw [eq26]; exact (Nat.le_refl _)) (v := some (.int (1 : Int32))) (fun h => by rw [Bd.returns] at h; cases h)
    refine ⟨_, _, retN X26 hx (t := .boolean) Bd.returns (by simp) (hb hby at_256) hr, hrun, hended, _, _, rfl, ?_, hEW.1, hEW.2.1, hEW.2.2.1, hEW.2.2.2.mono (by decide) (by decide)⟩
    show Q0 Z p0 p1 p2 p3 p4 fv cs h0 n0 _ T26.heap _
    exact ⟨rfl, N26⟩
  · refine oS (fun _ κ => XS.ifYes X4.here hx rfl (pc0 := 35) (pc' := 53) rfl (hb hby at_35) rfl ((if0 _ _).trans (feq hc5).2) (by decide) (by decide) κ) ?_
    show oG _ _ _ _ (T4.setTop (mkF m 53 #[.val (.int p0), .val (.int p1), .val (.int p2), .val (.int p3), .val (.int p4), .val (.int z), .val (.int x1), .val (.int x2), .val (.int x3), .val (.int x4), .unset, .unset] []))
    refine oS (fun _ κ => XS.iload X4.here hx rfl (hb hby at_53) rfl κ) ?_
    refine oS (fun _ κ => XS.iconst X4.here hx rfl (hb hby at_55) κ) ?_
    by_cases hc27 : z = (1 : Int32)
    · refine oS (fun _ κ => XS.icmpNo X4.here hx rfl (hb hby at_56) rfl (teq hc27).2 κ) ?_
      show oG _ _ _ _ (T4.setTop (mkF m 59 #[.val (.int p0), .val (.int p1), .val (.int p2), .val (.int p3), .val (.int p4), .val (.int z), .val (.int x1), .val (.int x2), .val (.int x3), .val (.int x4), .unset, .unset] []))
      obtain ⟨T28, h28, X28, e28, E28, A28, D28, U28, st28⟩ := newO X4 hx hZ hown (own_w hw 5 rfl) (own_w hw 6 rfl) (own_w hw 7 rfl) eq4 (g := (mkF m 59 #[.val (.int p0), .val (.int p1), .val (.int p2), .val (.int p3), .val (.int p4), .val (.int z), .val (.int x1), .val (.int x2), .val (.int x3), .val (.int x4), .unset, .unset] [])) rfl (hb hby at_59) (by decide) (by decide)
      obtain ⟨b28, g28⟩ : ∃ z, z = h0.size := ⟨_, rfl⟩
      rw [← g28] at A28 D28 U28 st28
      refine oS st28 ?_
      have ge29 : n0 ≤ b28 := Nat.le_trans Z0 (Nat.le_of_eq g28.symm)
      have f30 := P0.ext E28
      have f31 := hCH.ext E28
      have z32 : n0 ≤ h28.size := Nat.le_trans Z0 E28.1
      have sf28 := Safe.ext E28 hCH (Safe.new (Nat.le_of_eq g28.symm))
      have F28_value : Fld Z h28 b28 "java/lang/String" "value" "[B" .null := D28 (Or.inr (own_w hw 21 rfl)) (ty := (.array .byte)) (by decide)
      have F28_coder : Fld Z h28 b28 "java/lang/String" "coder" "B" (.int (0 : Int32)) := D28 (Or.inr (own_w hw 22 rfl)) (ty := .byte) (by decide)
      show oG _ _ _ _ (T28.setTop (mkF m 62 #[.val (.int p0), .val (.int p1), .val (.int p2), .val (.int p3), .val (.int p4), .val (.int z), .val (.int x1), .val (.int x2), .val (.int x3), .val (.int x4), .unset, .unset] [(.ref b28)]))
      refine oS (fun _ κ => XS.dup X28.here hx rfl (hb hby at_62) rfl rfl κ) ?_
      refine oS (fun _ κ => XS.iconst X28.here hx rfl (hb hby at_63) κ) ?_
      show oG _ _ _ _ (T28.setTop (mkF m 64 #[.val (.int p0), .val (.int p1), .val (.int p2), .val (.int p3), .val (.int p4), .val (.int z), .val (.int x1), .val (.int x2), .val (.int x3), .val (.int x4), .unset, .unset] [(.int (1 : Int32)), (.ref b28), (.ref b28)]))
      obtain ⟨T33, h33, k33, X33, e33, E33, A33, st33⟩ := newP X28 hx hZ (own_w hw 8 rfl) e28 (g := (mkF m 64 #[.val (.int p0), .val (.int p1), .val (.int p2), .val (.int p3), .val (.int p4), .val (.int z), .val (.int x1), .val (.int x2), .val (.int x3), .val (.int x4), .unset, .unset] [(.int (1 : Int32)), (.ref b28), (.ref b28)])) rfl (hb hby at_64) rfl (by decide) (cap := 1) (by decide) (by decide) (by decide) (by decide)
      obtain ⟨b33, g33⟩ : ∃ z, z = h28.size := ⟨_, rfl⟩
      rw [← g33] at A33 st33
      refine oS st33 ?_
      have ne34 : b28 ≠ b33 := Nat.ne_of_lt (Nat.lt_of_lt_of_le A28.lt (Nat.le_of_eq g33.symm))
      have ge35 : n0 ≤ b33 := Nat.le_trans z32 (Nat.le_of_eq g33.symm)
      have f36 := f30.ext E33
      have f37 := f31.ext E33
      have f38 := A28.ext E33
      have f39 := Safe.ext E33 f31 sf28
      have f40 := F28_value.ext E33
      have f41 := F28_coder.ext E33
      have z42 : n0 ≤ h33.size := Nat.le_trans z32 E33.1
      have V33 : Arv Z h33 b33 k33 .char (1 : Int32) [(.int (0 : Int32))] (.int (0 : Int32)) := (Arv.new A33 (by decide)).pad (pad_rep [] (.int (0 : Int32)) 1)
      show oG _ _ _ _ (T33.setTop (mkF m 66 #[.val (.int p0), .val (.int p1), .val (.int p2), .val (.int p3), .val (.int p4), .val (.int z), .val (.int x1), .val (.int x2), .val (.int x3), .val (.int x4), .unset, .unset] [(.ref b33), (.ref b28), (.ref b28)]))
      refine oS (fun _ κ => XS.dup X33.here hx rfl (hb hby at_66) rfl rfl κ) ?_
      refine oS (fun _ κ => XS.iconst X33.here hx rfl (hb hby at_67) κ) ?_
      refine oS (fun _ κ => XS.iload X33.here hx rfl (hb hby at_68) rfl κ) ?_
      obtain ⟨cl43, Ar43, q43, Sz43, Nz43, Hs43, Gs43⟩ := id (V33)
      have hin43 := inb_of (j := (0 : Int32)) Sz43 ⟨by decide, by decide⟩
      obtain ⟨T43, h43, X43, e43, W43, st43⟩ := stC X33 hx hZ e33 Ar43 (j := (0 : Int32)) hin43 (g := (mkF m 70 #[.val (.int p0), .val (.int p1), .val (.int p2), .val (.int p3), .val (.int p4), .val (.int z), .val (.int x1), .val (.int x2), .val (.int x3), .val (.int x4), .unset, .unset] [(.int x1), (.int (0 : Int32)), (.ref b33), (.ref b33), (.ref b28), (.ref b28)])) rfl rfl (hb hby at_70)
      refine oS st43 ?_
      have N43 := Fr.snoc X43 N4 ge35
      have V43 : Arv Z h43 b33 k33 .char (1 : Int32) [(.int (nar .char x1))] (.int (0 : Int32)) := Arv.set Ar43 q43 Sz43 Nz43 Hs43 Gs43 (fits_nar_char _) W43 0 rfl (Nat.le_of_ble_eq_true rfl)
      have Vn43 : Arv Z h43 b33 k33 .char (1 : Int32) [(.int x1)] (.int (0 : Int32)) := by have q := V43; rw [own_narI r1] at q; exact q
      have f44 := f36.wr W43 ge35
      have f45 := f38.wr W43
      have f46 := f40.other W43 (Or.inl ne34)
      have f47 := f41.other W43 (Or.inl ne34)
      have z48 : n0 ≤ h43.size := Nat.le_trans z42 (Keep.of_wr W43).1
      show oG _ _ _ _ (T43.setTop (mkF m 71 #[.val (.int p0), .val (.int p1), .val (.int p2), .val (.int p3), .val (.int p4), .val (.int z), .val (.int x1), .val (.int x2), .val (.int x3), .val (.int x4), .unset, .unset] [(.ref b33), (.ref b28), (.ref b28)]))
      obtain ⟨vr49, _, ⟨T49, L49, k49, n49⟩, -, X49, ⟨Lc49, hQ49, l49, y49, z49⟩, st49⟩ := X43.specialBack hx (y := own_y3) rfl hown (mvT hZ (own_w hw 9 rfl)) (mvT hZ (own_w hw 10 rfl)) (mvT hZ (own_w hw 11 rfl)) (by decide) (backOf (W := 1) (rm49 l Z a0 hw [] b28 b33 k33 x1 cs h43 n0 z48 f45 f46 f47 ge29 Vn43 f44 P3 P4 P5 P6 P7 r1 (Ne.symm ne34)) hZ (own_w hw 11 rfl) (own_w hw 7 rfl) (by decide) (by decide)) (g := (mkF m 71 #[.val (.int p0), .val (.int p1), .val (.int p2), .val (.int p3), .val (.int p4), .val (.int z), .val (.int x1), .val (.int x2), .val (.int x3), .val (.int x4), .unset, .unset] [(.ref b33), (.ref b28), (.ref b28)])) rfl (by rw [hml]; rfl) (Steps.refl _) (a := b28) (argsL := [(.ref b33)]) (rest := [(.ref b28)]) (lenOf pd_16 rfl) rfl own_2z (hb hby at_71) (fun _ _ => ⟨rfl, e43, (by decide : 2 + 2 ≤ _), (by decide : 5 + 3 ≤ _)⟩)
      dsimp only [Pt.U, Pt.locs, Pt.cells, Pt.slots] at X49 l49 y49 z49 st49 hQ49
      subst l49 y49 z49
      obtain ⟨rfl, Nq49, Kq49, p49_0⟩ := hQ49
      have N49 := Fr.app N43 Nq49
      have f50 := f44.keep Kq49 (allS ge29 all0)
      have f51 := f45.keep Kq49
      have f52 := Vn43.keep Kq49 (ninS (Ne.symm ne34) nin0)
      have z53 : n0 ≤ T49.heap.size := Nat.le_trans z48 Kq49.1
      refine oS (fun _ κ => st49.trans κ) ?_
      show oG _ _ _ _ (T49.setTop (mkF m 74 #[.val (.int p0), .val (.int p1), .val (.int p2), .val (.int p3), .val (.int p4), .val (.int z), .val (.int x1), .val (.int x2), .val (.int x3), .val (.int x4), .unset, .unset] [(.ref b28)]))
      refine oS (fun _ κ => XS.astore X49.here hx rfl (hb hby at_74) rfl rfl (l' := #[.val (.int p0), .val (.int p1), .val (.int p2), .val (.int p3), .val (.int p4), .val (.int z), .val (.int x1), .val (.int x2), .val (.int x3), .val (.int x4), .val (.ref b28), .unset]) rfl κ) ?_
      refine oS (fun _ κ => XS.goto X49.here hx rfl (pc0 := 76) (pc' := 178) rfl (hb hby at_76) (by decide) (by decide) κ) ?_
      show oG _ _ _ _ (T49.setTop (mkF m 178 #[.val (.int p0), .val (.int p1), .val (.int p2), .val (.int p3), .val (.int p4), .val (.int z), .val (.int x1), .val (.int x2), .val (.int x3), .val (.int x4), .val (.ref b28), .unset] []))
      refine oS (fun _ κ => XS.iload X49.here hx rfl (hb hby at_178) rfl κ) ?_
      refine oS (fun _ κ => XS.iconst X49.here hx rfl (hb hby at_180) κ) ?_
      refine oS (fun _ κ => XS.icmpNo X49.here hx rfl (hb hby at_181) rfl (flt (by rw [hc27]; decide)).1 κ) ?_
      show oG _ _ _ _ (T49.setTop (mkF m 184 #[.val (.int p0), .val (.int p1), .val (.int p2), .val (.int p3), .val (.int p4), .val (.int z), .val (.int x1), .val (.int x2), .val (.int x3), .val (.int x4), .val (.ref b28), .unset] []))
      refine oS (fun _ κ => XS.iload X49.here hx rfl (hb hby at_184) rfl κ) ?_
      obtain ⟨vr54, _, ⟨T54, L54, k54, n54⟩, -, X54, ⟨Lc54, hQ54, l54, y54, z54⟩, st54⟩ := Jvm.LawKit.callS X49 hx (y := own_y1) hown (mvT hZ (own_w hw 52 rfl)) (mvT hZ (own_w hw 53 rfl)) (mvT hZ (own_w hw 3 rfl)) (mvT hZ (own_w hw 54 rfl)) (by decide) (backOf (W := 0) (rm2 l Z a0 hw [] x1  T49.heap n0 z53 ) hZ (own_w hw 54 rfl) (own_w hw 3 rfl) (by decide) (by decide)) (g := (mkF m 186 #[.val (.int p0), .val (.int p1), .val (.int p2), .val (.int p3), .val (.int p4), .val (.int z), .val (.int x1), .val (.int x2), .val (.int x3), .val (.int x4), .val (.ref b28), .unset] [(.int x1)])) rfl (by rw [hml]; rfl) (argsL := [(.int x1)]) (rest := []) (lenOf pd_18 rfl) rfl own_2z (hb hby at_186) (fun _ _ => ⟨rfl, rfl, (by decide : 4 + 0 ≤ _), (by decide : 8 + 0 ≤ _)⟩)
      dsimp only [Pt.U, Pt.locs, Pt.cells, Pt.slots] at X54 l54 y54 z54 st54 hQ54
      subst l54 y54 z54
      obtain ⟨rfl, Nq54, eq54⟩ := hQ54
      have N54 := Fr.app N49 Nq54
      refine oS st54 ?_
      show oG _ _ _ _ (T54.setTop (mkF m 189 #[.val (.int p0), .val (.int p1), .val (.int p2), .val (.int p3), .val (.int p4), .val (.int z), .val (.int x1), .val (.int x2), .val (.int x3), .val (.int x4), .val (.ref b28), .unset] [(.int (own_brk x1))]))
      by_cases hc55 : (own_brk x1) = (0 : Int32)
      · refine oS (fun _ κ => XS.ifNo X54.here hx rfl (hb hby at_189) rfl ((if0 _ _).trans (teq hc55).2) κ) ?_
        show oG _ _ _ _ (T54.setTop (mkF m 192 #[.val (.int p0), .val (.int p1), .val (.int p2), .val (.int p3), .val (.int p4), .val (.int z), .val (.int x1), .val (.int x2), .val (.int x3), .val (.int x4), .val (.ref b28), .unset] []))
        refine oS (fun _ κ => XS.iload X54.here hx rfl (hb hby at_192) rfl κ) ?_
        refine oS (fun _ κ => XS.iconst X54.here hx rfl (hb hby at_194) κ) ?_
        refine oS (fun _ κ => XS.icmpYes X54.here hx rfl (pc0 := 195) (pc' := 206) rfl (hb hby at_195) rfl (tlt (by rw [hc27]; decide)).1 (by decide) (by decide) κ) ?_
        show oG _ _ _ _ (T54.setTop (mkF m 206 #[.val (.int p0), .val (.int p1), .val (.int p2), .val (.int p3), .val (.int p4), .val (.int z), .val (.int x1), .val (.int x2), .val (.int x3), .val (.int x4), .val (.ref b28), .unset] []))
        refine oS (fun _ κ => XS.iload X54.here hx rfl (hb hby at_206) rfl κ) ?_
        refine oS (fun _ κ => XS.iconst X54.here hx rfl (hb hby at_208) κ) ?_
        refine oS (fun _ κ => XS.icmpYes X54.here hx rfl (pc0 := 209) (pc' := 220) rfl (hb hby at_209) rfl (tlt (by rw [hc27]; decide)).1 (by decide) (by decide) κ) ?_
        show oG _ _ _ _ (T54.setTop (mkF m 220 #[.val (.int p0), .val (.int p1), .val (.int p2), .val (.int p3), .val (.int p4), .val (.int z), .val (.int x1), .val (.int x2), .val (.int x3), .val (.int x4), .val (.ref b28), .unset] []))
        refine oS (fun _ κ => XS.iload X54.here hx rfl (hb hby at_220) rfl κ) ?_
        refine oS (fun _ κ => XS.iconst X54.here hx rfl (hb hby at_222) κ) ?_
        refine oS (fun _ κ => XS.icmpYes X54.here hx rfl (pc0 := 223) (pc' := 234) rfl (hb hby at_223) rfl (tlt (by rw [hc27]; decide)).1 (by decide) (by decide) κ) ?_
        show oG _ _ _ _ (T54.setTop (mkF m 234 #[.val (.int p0), .val (.int p1), .val (.int p2), .val (.int p3), .val (.int p4), .val (.int z), .val (.int x1), .val (.int x2), .val (.int x3), .val (.int x4), .val (.ref b28), .unset] []))
        refine oS (fun _ κ => XS.iconst X54.here hx rfl (hb hby at_234) κ) ?_
        refine oS (fun _ κ => XS.goto X54.here hx rfl (pc0 := 235) (pc' := 239) rfl (hb hby at_235) (by decide) (by decide) κ) ?_
        show oG _ _ _ _ (T54.setTop (mkF m 239 #[.val (.int p0), .val (.int p1), .val (.int p2), .val (.int p3), .val (.int p4), .val (.int z), .val (.int x1), .val (.int x2), .val (.int x3), .val (.int x4), .val (.ref b28), .unset] [(.int (1 : Int32))]))
        refine oS (fun _ κ => XS.istore X54.here hx rfl (hb hby at_239) rfl (l' := #[.val (.int p0), .val (.int p1), .val (.int p2), .val (.int p3), .val (.int p4), .val (.int z), .val (.int x1), .val (.int x2), .val (.int x3), .val (.int x4), .val (.ref b28), .val (.int (1 : Int32))]) rfl κ) ?_
        refine oS (fun _ κ => XS.aload X54.here hx rfl (hb hby at_241) rfl rfl κ) ?_
        obtain ⟨vr56, _, ⟨T56, L56, k56, n56⟩, -, X56, ⟨Lc56, hQ56, l56, y56, z56⟩, st56⟩ := Jvm.LawKit.callS X54 hx (y := own_y0) hown (mvT hZ (own_w hw 27 rfl)) (mvT hZ (own_w hw 28 rfl)) (mvT hZ (own_w hw 29 rfl)) (mvT hZ (own_w hw 30 rfl)) (by decide) (backOf (W := 0) (rm54 l Z a0 hw [] b28 (own_gl [x1]) x1 cs fv T49.heap n0 z53 p49_0 f51 f50 P3 P4 P1 P2 P5 P6 P7 rfl) hZ (own_w hw 30 rfl) (own_w hw 29 rfl) (by decide) (by decide)) (g := (mkF m 243 #[.val (.int p0), .val (.int p1), .val (.int p2), .val (.int p3), .val (.int p4), .val (.int z), .val (.int x1), .val (.int x2), .val (.int x3), .val (.int x4), .val (.ref b28), .val (.int (1 : Int32))] [(.ref b28)])) rfl (by rw [hml]; rfl) (argsL := [(.ref b28)]) (rest := []) (lenOf pd_17 rfl) rfl own_2z (hb hby at_243) (fun _ _ => ⟨rfl, eq54, (by decide : 4 + 0 ≤ _), (by decide : 8 + 0 ≤ _)⟩)
        dsimp only [Pt.U, Pt.locs, Pt.cells, Pt.slots] at X56 l56 y56 z56 st56 hQ56
        subst l56 y56 z56
        obtain ⟨hv56, Nq56, eq56⟩ := hQ56
        have N56 := Fr.app N54 Nq56
        rw [if_pos hc55] at hv56
        subst hv56
        refine oS st56 ?_
        show oG _ _ _ _ (T56.setTop (mkF m 246 #[.val (.int p0), .val (.int p1), .val (.int p2), .val (.int p3), .val (.int p4), .val (.int z), .val (.int x1), .val (.int x2), .val (.int x3), .val (.int x4), .val (.ref b28), .val (.int (1 : Int32))] [(.int (1 : Int32))]))
        refine oS (fun _ κ => XS.iload X56.here hx rfl (hb hby at_246) rfl κ) ?_
        refine oS (fun _ κ => XS.icmpNo X56.here hx rfl (hb hby at_248) rfl (teq rfl).2 κ) ?_
        show oG _ _ _ _ (T56.setTop (mkF m 251 #[.val (.int p0), .val (.int p1), .val (.int p2), .val (.int p3), .val (.int p4), .val (.int z), .val (.int x1), .val (.int x2), .val (.int x3), .val (.int x4), .val (.ref b28), .val (.int (1 : Int32))] []))
        refine oS (fun _ κ => XS.iconst X56.here hx rfl (hb hby at_251) κ) ?_
        refine oS (fun _ κ => XS.goto X56.here hx rfl (pc0 := 252) (pc' := 256) rfl (hb hby at_252) (by decide) (by decide) κ) ?_
        show oG _ _ _ _ (T56.setTop (mkF m 256 #[.val (.int p0), .val (.int p1), .val (.int p2), .val (.int p3), .val (.int p4), .val (.int z), .val (.int x1), .val (.int x2), .val (.int x3), .val (.int x4), .val (.ref b28), .val (.int (1 : Int32))] [(.int (1 : Int32))]))
        obtain ⟨fs, hr, hrun, hended, hW, hsame⟩ := X56.leave (v := some (.int (1 : Int32))) (fun h => by rw [Bd.returns] at h; cases h)
        have hEW := ReturnedEndW.of_narrow (o := .returned (some (.int (1 : Int32)))) ⟨_, rfl⟩ hW hsame
        refine ⟨_, _, retN X56 hx (t := .boolean) Bd.returns (by simp) (hb hby at_256) hr, hrun, hended, _, _, rfl, ?_, hEW.1, hEW.2.1, hEW.2.2.1, hEW.2.2.2.mono (by decide) (by decide)⟩
        show Q0 Z p0 p1 p2 p3 p4 fv cs h0 n0 _ T56.heap _
        exact ⟨rfl, N56⟩
      · refine oS (fun _ κ => XS.ifYes X54.here hx rfl (pc0 := 189) (pc' := 238) rfl (hb hby at_189) rfl ((if0 _ _).trans (feq hc55).2) (by decide) (by decide) κ) ?_
        show oG _ _ _ _ (T54.setTop (mkF m 238 #[.val (.int p0), .val (.int p1), .val (.int p2), .val (.int p3), .val (.int p4), .val (.int z), .val (.int x1), .val (.int x2), .val (.int x3), .val (.int x4), .val (.ref b28), .unset] []))
        refine oS (fun _ κ => XS.iconst X54.here hx rfl (hb hby at_238) κ) ?_
        refine oS (fun _ κ => XS.istore X54.here hx rfl (hb hby at_239) rfl (l' := #[.val (.int p0), .val (.int p1), .val (.int p2), .val (.int p3), .val (.int p4), .val (.int z), .val (.int x1), .val (.int x2), .val (.int x3), .val (.int x4), .val (.ref b28), .val (.int (0 : Int32))]) rfl κ) ?_
        refine oS (fun _ κ => XS.aload X54.here hx rfl (hb hby at_241) rfl rfl κ) ?_
        obtain ⟨vr57, _, ⟨T57, L57, k57, n57⟩, -, X57, ⟨Lc57, hQ57, l57, y57, z57⟩, st57⟩ := Jvm.LawKit.callS X54 hx (y := own_y0) hown (mvT hZ (own_w hw 27 rfl)) (mvT hZ (own_w hw 28 rfl)) (mvT hZ (own_w hw 29 rfl)) (mvT hZ (own_w hw 30 rfl)) (by decide) (backOf (W := 0) (rm54 l Z a0 hw [] b28 (own_gl [x1]) x1 cs fv T49.heap n0 z53 p49_0 f51 f50 P3 P4 P1 P2 P5 P6 P7 rfl) hZ (own_w hw 30 rfl) (own_w hw 29 rfl) (by decide) (by decide)) (g := (mkF m 243 #[.val (.int p0), .val (.int p1), .val (.int p2), .val (.int p3), .val (.int p4), .val (.int z), .val (.int x1), .val (.int x2), .val (.int x3), .val (.int x4), .val (.ref b28), .val (.int (0 : Int32))] [(.ref b28)])) rfl (by rw [hml]; rfl) (argsL := [(.ref b28)]) (rest := []) (lenOf pd_17 rfl) rfl own_2z (hb hby at_243) (fun _ _ => ⟨rfl, eq54, (by decide : 4 + 0 ≤ _), (by decide : 8 + 0 ≤ _)⟩)
        dsimp only [Pt.U, Pt.locs, Pt.cells, Pt.slots] at X57 l57 y57 z57 st57 hQ57
        subst l57 y57 z57
        obtain ⟨hv57, Nq57, eq57⟩ := hQ57
        have N57 := Fr.app N54 Nq57
        rw [if_neg hc55] at hv57
        subst hv57
        refine oS st57 ?_
        show oG _ _ _ _ (T57.setTop (mkF m 246 #[.val (.int p0), .val (.int p1), .val (.int p2), .val (.int p3), .val (.int p4), .val (.int z), .val (.int x1), .val (.int x2), .val (.int x3), .val (.int x4), .val (.ref b28), .val (.int (0 : Int32))] [(.int (0 : Int32))]))
        refine oS (fun _ κ => XS.iload X57.here hx rfl (hb hby at_246) rfl κ) ?_
        refine oS (fun _ κ => XS.icmpNo X57.here hx rfl (hb hby at_248) rfl (teq rfl).2 κ) ?_
        show oG _ _ _ _ (T57.setTop (mkF m 251 #[.val (.int p0), .val (.int p1), .val (.int p2), .val (.int p3), .val (.int p4), .val (.int z), .val (.int x1), .val (.int x2), .val (.int x3), .val (.int x4), .val (.ref b28), .val (.int (0 : Int32))] []))
        refine oS (fun _ κ => XS.iconst X57.here hx rfl (hb hby at_251) κ) ?_
        refine oS (fun _ κ => XS.goto X57.here hx rfl (pc0 := 252) (pc' := 256) rfl (hb hby at_252) (by decide) (by decide) κ) ?_
        show oG _ _ _ _ (T57.setTop (mkF m 256 #[.val (.int p0), .val (.int p1), .val (.int p2), .val (.int p3), .val (.int p4), .val (.int z), .val (.int x1), .val (.int x2), .val (.int x3), .val (.int x4), .val (.ref b28), .val (.int (0 : Int32))] [(.int (1 : Int32))]))
        obtain ⟨fs, hr, hrun, hended, hW, hsame⟩ := X57.leave (v := some (.int (1 : Int32))) (fun h => by rw [Bd.returns] at h; cases h)
        have hEW := ReturnedEndW.of_narrow (o := .returned (some (.int (1 : Int32)))) ⟨_, rfl⟩ hW hsame
        refine ⟨_, _, retN X57 hx (t := .boolean) Bd.returns (by simp) (hb hby at_256) hr, hrun, hended, _, _, rfl, ?_, hEW.1, hEW.2.1, hEW.2.2.1, hEW.2.2.2.mono (by decide) (by decide)⟩
        show Q0 Z p0 p1 p2 p3 p4 fv cs h0 n0 _ T57.heap _
        exact ⟨rfl, N57⟩
    · refine oS (fun _ κ => XS.icmpYes X4.here hx rfl (pc0 := 56) (pc' := 79) rfl (hb hby at_56) rfl (feq hc27).2 (by decide) (by decide) κ) ?_
      show oG _ _ _ _ (T4.setTop (mkF m 79 #[.val (.int p0), .val (.int p1), .val (.int p2), .val (.int p3), .val (.int p4), .val (.int z), .val (.int x1), .val (.int x2), .val (.int x3), .val (.int x4), .unset, .unset] []))
      refine oS (fun _ κ => XS.iload X4.here hx rfl (hb hby at_79) rfl κ) ?_
      refine oS (fun _ κ => XS.iconst X4.here hx rfl (hb hby at_81) κ) ?_
      by_cases hc58 : z = (2 : Int32)
      · refine oS (fun _ κ => XS.icmpNo X4.here hx rfl (hb hby at_82) rfl (teq hc58).2 κ) ?_
        show oG _ _ _ _ (T4.setTop (mkF m 85 #[.val (.int p0), .val (.int p1), .val (.int p2), .val (.int p3), .val (.int p4), .val (.int z), .val (.int x1), .val (.int x2), .val (.int x3), .val (.int x4), .unset, .unset] []))
        obtain ⟨T59, h59, X59, e59, E59, A59, D59, U59, st59⟩ := newO X4 hx hZ hown (own_w hw 5 rfl) (own_w hw 6 rfl) (own_w hw 7 rfl) eq4 (g := (mkF m 85 #[.val (.int p0), .val (.int p1), .val (.int p2), .val (.int p3), .val (.int p4), .val (.int z), .val (.int x1), .val (.int x2), .val (.int x3), .val (.int x4), .unset, .unset] [])) rfl (hb hby at_85) (by decide) (by decide)
        obtain ⟨b59, g59⟩ : ∃ z, z = h0.size := ⟨_, rfl⟩
        rw [← g59] at A59 D59 U59 st59
        refine oS st59 ?_
        have ge60 : n0 ≤ b59 := Nat.le_trans Z0 (Nat.le_of_eq g59.symm)
        have f61 := P0.ext E59
        have f62 := hCH.ext E59
        have z63 : n0 ≤ h59.size := Nat.le_trans Z0 E59.1
        have sf59 := Safe.ext E59 hCH (Safe.new (Nat.le_of_eq g59.symm))
        have F59_value : Fld Z h59 b59 "java/lang/String" "value" "[B" .null := D59 (Or.inr (own_w hw 21 rfl)) (ty := (.array .byte)) (by decide)
        have F59_coder : Fld Z h59 b59 "java/lang/String" "coder" "B" (.int (0 : Int32)) := D59 (Or.inr (own_w hw 22 rfl)) (ty := .byte) (by decide)
        show oG _ _ _ _ (T59.setTop (mkF m 88 #[.val (.int p0), .val (.int p1), .val (.int p2), .val (.int p3), .val (.int p4), .val (.int z), .val (.int x1), .val (.int x2), .val (.int x3), .val (.int x4), .unset, .unset] [(.ref b59)]))
        refine oS (fun _ κ => XS.dup X59.here hx rfl (hb hby at_88) rfl rfl κ) ?_
        refine oS (fun _ κ => XS.iconst X59.here hx rfl (hb hby at_89) κ) ?_
        show oG _ _ _ _ (T59.setTop (mkF m 90 #[.val (.int p0), .val (.int p1), .val (.int p2), .val (.int p3), .val (.int p4), .val (.int z), .val (.int x1), .val (.int x2), .val (.int x3), .val (.int x4), .unset, .unset] [(.int (2 : Int32)), (.ref b59), (.ref b59)]))
        obtain ⟨T64, h64, k64, X64, e64, E64, A64, st64⟩ := newP X59 hx hZ (own_w hw 8 rfl) e59 (g := (mkF m 90 #[.val (.int p0), .val (.int p1), .val (.int p2), .val (.int p3), .val (.int p4), .val (.int z), .val (.int x1), .val (.int x2), .val (.int x3), .val (.int x4), .unset, .unset] [(.int (2 : Int32)), (.ref b59), (.ref b59)])) rfl (hb hby at_90) rfl (by decide) (cap := 2) (by decide) (by decide) (by decide) (by decide)
        obtain ⟨b64, g64⟩ : ∃ z, z = h59.size := ⟨_, rfl⟩
        rw [← g64] at A64 st64
        refine oS st64 ?_
        have ne65 : b59 ≠ b64 := Nat.ne_of_lt (Nat.lt_of_lt_of_le A59.lt (Nat.le_of_eq g64.symm))
        have ge66 : n0 ≤ b64 := Nat.le_trans z63 (Nat.le_of_eq g64.symm)
        have f67 := f61.ext E64
        have f68 := f62.ext E64
        have f69 := A59.ext E64
        have f70 := Safe.ext E64 f62 sf59
        have f71 := F59_value.ext E64
        have f72 := F59_coder.ext E64
        have z73 : n0 ≤ h64.size := Nat.le_trans z63 E64.1
        have V64 : Arv Z h64 b64 k64 .char (2 : Int32) [(.int (0 : Int32)), (.int (0 : Int32))] (.int (0 : Int32)) := (Arv.new A64 (by decide)).pad (pad_rep [] (.int (0 : Int32)) 2)
        show oG _ _ _ _ (T64.setTop (mkF m 92 #[.val (.int p0), .val (.int p1), .val (.int p2), .val (.int p3), .val (.int p4), .val (.int z), .val (.int x1), .val (.int x2), .val (.int x3), .val (.int x4), .unset, .unset] [(.ref b64), (.ref b59), (.ref b59)]))
        refine oS (fun _ κ => XS.dup X64.here hx rfl (hb hby at_92) rfl rfl κ) ?_
        refine oS (fun _ κ => XS.iconst X64.here hx rfl (hb hby at_93) κ) ?_
        refine oS (fun _ κ => XS.iload X64.here hx rfl (hb hby at_94) rfl κ) ?_
        obtain ⟨cl74, Ar74, q74, Sz74, Nz74, Hs74, Gs74⟩ := id (V64)
        have hin74 := inb_of (j := (0 : Int32)) Sz74 ⟨by decide, by decide⟩
        obtain ⟨T74, h74, X74, e74, W74, st74⟩ := stC X64 hx hZ e64 Ar74 (j := (0 : Int32)) hin74 (g := (mkF m 96 #[.val (.int p0), .val (.int p1), .val (.int p2), .val (.int p3), .val (.int p4), .val (.int z), .val (.int x1), .val (.int x2), .val (.int x3), .val (.int x4), .unset, .unset] [(.int x1), (.int (0 : Int32)), (.ref b64), (.ref b64), (.ref b59), (.ref b59)])) rfl rfl (hb hby at_96)
        refine oS st74 ?_
        have N74 := Fr.snoc X74 N4 ge66
        have V74 : Arv Z h74 b64 k64 .char (2 : Int32) [(.int (nar .char x1)), (.int (0 : Int32))] (.int (0 : Int32)) := Arv.set Ar74 q74 Sz74 Nz74 Hs74 Gs74 (fits_nar_char _) W74 0 rfl (Nat.le_of_ble_eq_true rfl)
        have Vn74 : Arv Z h74 b64 k64 .char (2 : Int32) [(.int x1), (.int (0 : Int32))] (.int (0 : Int32)) := by have q := V74; rw [own_narI r1] at q; exact q
        have f75 := f67.wr W74 ge66
        have f76 := f69.wr W74
        have f77 := f71.other W74 (Or.inl ne65)
        have f78 := f72.other W74 (Or.inl ne65)
        have z79 : n0 ≤ h74.size := Nat.le_trans z73 (Keep.of_wr W74).1
        show oG _ _ _ _ (T74.setTop (mkF m 97 #[.val (.int p0), .val (.int p1), .val (.int p2), .val (.int p3), .val (.int p4), .val (.int z), .val (.int x1), .val (.int x2), .val (.int x3), .val (.int x4), .unset, .unset] [(.ref b64), (.ref b59), (.ref b59)]))
        refine oS (fun _ κ => XS.dup X74.here hx rfl (hb hby at_97) rfl rfl κ) ?_
        refine oS (fun _ κ => XS.iconst X74.here hx rfl (hb hby at_98) κ) ?_
        refine oS (fun _ κ => XS.iload X74.here hx rfl (hb hby at_99) rfl κ) ?_
        obtain ⟨cl80, Ar80, q80, Sz80, Nz80, Hs80, Gs80⟩ := id (Vn74)
        have hin80 := inb_of (j := (1 : Int32)) Sz80 ⟨by decide, by decide⟩
        obtain ⟨T80, h80, X80, e80, W80, st80⟩ := stC X74 hx hZ e74 Ar80 (j := (1 : Int32)) hin80 (g := (mkF m 101 #[.val (.int p0), .val (.int p1), .val (.int p2), .val (.int p3), .val (.int p4), .val (.int z), .val (.int x1), .val (.int x2), .val (.int x3), .val (.int x4), .unset, .unset] [(.int x2), (.int (1 : Int32)), (.ref b64), (.ref b64), (.ref b59), (.ref b59)])) rfl rfl (hb hby at_101)
        refine oS st80 ?_
        have N80 := Fr.snoc X80 N74 ge66
        have V80 : Arv Z h80 b64 k64 .char (2 : Int32) [(.int x1), (.int (nar .char x2))] (.int (0 : Int32)) := Arv.set Ar80 q80 Sz80 Nz80 Hs80 Gs80 (fits_nar_char _) W80 1 rfl (Nat.le_of_ble_eq_true rfl)
        have Vn80 : Arv Z h80 b64 k64 .char (2 : Int32) [(.int x1), (.int x2)] (.int (0 : Int32)) := by have q := V80; rw [own_narI r2] at q; exact q
        have f81 := f75.wr W80 ge66
        have f82 := f76.wr W80
        have f83 := f77.other W80 (Or.inl ne65)
        have f84 := f78.other W80 (Or.inl ne65)
        have z85 : n0 ≤ h80.size := Nat.le_trans z79 (Keep.of_wr W80).1
        show oG _ _ _ _ (T80.setTop (mkF m 102 #[.val (.int p0), .val (.int p1), .val (.int p2), .val (.int p3), .val (.int p4), .val (.int z), .val (.int x1), .val (.int x2), .val (.int x3), .val (.int x4), .unset, .unset] [(.ref b64), (.ref b59), (.ref b59)]))
        obtain ⟨vr86, _, ⟨T86, L86, k86, n86⟩, -, X86, ⟨Lc86, hQ86, l86, y86, z86⟩, st86⟩ := X80.specialBack hx (y := own_y3) rfl hown (mvT hZ (own_w hw 9 rfl)) (mvT hZ (own_w hw 10 rfl)) (mvT hZ (own_w hw 11 rfl)) (by decide) (backOf (W := 1) (rm50 l Z a0 hw [] b59 b64 k64 x1 x2 cs h80 n0 z85 f82 f83 f84 ge60 Vn80 f81 P3 P4 P5 P6 P7 r1 r2 (Ne.symm ne65)) hZ (own_w hw 11 rfl) (own_w hw 7 rfl) (by decide) (by decide)) (g := (mkF m 102 #[.val (.int p0), .val (.int p1), .val (.int p2), .val (.int p3), .val (.int p4), .val (.int z), .val (.int x1), .val (.int x2), .val (.int x3), .val (.int x4), .unset, .unset] [(.ref b64), (.ref b59), (.ref b59)])) rfl (by rw [hml]; rfl) (Steps.refl _) (a := b59) (argsL := [(.ref b64)]) (rest := [(.ref b59)]) (lenOf pd_16 rfl) rfl own_2z (hb hby at_102) (fun _ _ => ⟨rfl, e80, (by decide : 2 + 2 ≤ _), (by decide : 6 + 6 ≤ _)⟩)
        dsimp only [Pt.U, Pt.locs, Pt.cells, Pt.slots] at X86 l86 y86 z86 st86 hQ86
        subst l86 y86 z86
        obtain ⟨rfl, Nq86, Kq86, p86_0⟩ := hQ86
        have N86 := Fr.app N80 Nq86
        have f87 := f81.keep Kq86 (allS ge60 all0)
        have f88 := f82.keep Kq86
        have f89 := Vn80.keep Kq86 (ninS (Ne.symm ne65) nin0)
        have z90 : n0 ≤ T86.heap.size := Nat.le_trans z85 Kq86.1
        refine oS (fun _ κ => st86.trans κ) ?_
        show oG _ _ _ _ (T86.setTop (mkF m 105 #[.val (.int p0), .val (.int p1), .val (.int p2), .val (.int p3), .val (.int p4), .val (.int z), .val (.int x1), .val (.int x2), .val (.int x3), .val (.int x4), .unset, .unset] [(.ref b59)]))
        refine oS (fun _ κ => XS.astore X86.here hx rfl (hb hby at_105) rfl rfl (l' := #[.val (.int p0), .val (.int p1), .val (.int p2), .val (.int p3), .val (.int p4), .val (.int z), .val (.int x1), .val (.int x2), .val (.int x3), .val (.int x4), .val (.ref b59), .unset]) rfl κ) ?_
        refine oS (fun _ κ => XS.goto X86.here hx rfl (pc0 := 107) (pc' := 178) rfl (hb hby at_107) (by decide) (by decide) κ) ?_
        show oG _ _ _ _ (T86.setTop (mkF m 178 #[.val (.int p0), .val (.int p1), .val (.int p2), .val (.int p3), .val (.int p4), .val (.int z), .val (.int x1), .val (.int x2), .val (.int x3), .val (.int x4), .val (.ref b59), .unset] []))
        refine oS (fun _ κ => XS.iload X86.here hx rfl (hb hby at_178) rfl κ) ?_
        refine oS (fun _ κ => XS.iconst X86.here hx rfl (hb hby at_180) κ) ?_
        refine oS (fun _ κ => XS.icmpNo X86.here hx rfl (hb hby at_181) rfl (flt (by rw [hc58]; decide)).1 κ) ?_
        show oG _ _ _ _ (T86.setTop (mkF m 184 #[.val (.int p0), .val (.int p1), .val (.int p2), .val (.int p3), .val (.int p4), .val (.int z), .val (.int x1), .val (.int x2), .val (.int x3), .val (.int x4), .val (.ref b59), .unset] []))
        refine oS (fun _ κ => XS.iload X86.here hx rfl (hb hby at_184) rfl κ) ?_
        obtain ⟨vr91, _, ⟨T91, L91, k91, n91⟩, -, X91, ⟨Lc91, hQ91, l91, y91, z91⟩, st91⟩ := Jvm.LawKit.callS X86 hx (y := own_y1) hown (mvT hZ (own_w hw 52 rfl)) (mvT hZ (own_w hw 53 rfl)) (mvT hZ (own_w hw 3 rfl)) (mvT hZ (own_w hw 54 rfl)) (by decide) (backOf (W := 0) (rm2 l Z a0 hw [] x1  T86.heap n0 z90 ) hZ (own_w hw 54 rfl) (own_w hw 3 rfl) (by decide) (by decide)) (g := (mkF m 186 #[.val (.int p0), .val (.int p1), .val (.int p2), .val (.int p3), .val (.int p4), .val (.int z), .val (.int x1), .val (.int x2), .val (.int x3), .val (.int x4), .val (.ref b59), .unset] [(.int x1)])) rfl (by rw [hml]; rfl) (argsL := [(.int x1)]) (rest := []) (lenOf pd_18 rfl) rfl own_2z (hb hby at_186) (fun _ _ => ⟨rfl, rfl, (by decide : 4 + 0 ≤ _), (by decide : 12 + 0 ≤ _)⟩)
        dsimp only [Pt.U, Pt.locs, Pt.cells, Pt.slots] at X91 l91 y91 z91 st91 hQ91
        subst l91 y91 z91
        obtain ⟨rfl, Nq91, eq91⟩ := hQ91
        have N91 := Fr.app N86 Nq91
        refine oS st91 ?_
        show oG _ _ _ _ (T91.setTop (mkF m 189 #[.val (.int p0), .val (.int p1), .val (.int p2), .val (.int p3), .val (.int p4), .val (.int z), .val (.int x1), .val (.int x2), .val (.int x3), .val (.int x4), .val (.ref b59), .unset] [(.int (own_brk x1))]))
        by_cases hc92 : (own_brk x1) = (0 : Int32)
        · refine oS (fun _ κ => XS.ifNo X91.here hx rfl (hb hby at_189) rfl ((if0 _ _).trans (teq hc92).2) κ) ?_
          show oG _ _ _ _ (T91.setTop (mkF m 192 #[.val (.int p0), .val (.int p1), .val (.int p2), .val (.int p3), .val (.int p4), .val (.int z), .val (.int x1), .val (.int x2), .val (.int x3), .val (.int x4), .val (.ref b59), .unset] []))
          refine oS (fun _ κ => XS.iload X91.here hx rfl (hb hby at_192) rfl κ) ?_
          refine oS (fun _ κ => XS.iconst X91.here hx rfl (hb hby at_194) κ) ?_
          refine oS (fun _ κ => XS.icmpNo X91.here hx rfl (hb hby at_195) rfl (flt (by rw [hc58]; decide)).1 κ) ?_
          show oG _ _ _ _ (T91.setTop (mkF m 198 #[.val (.int p0), .val (.int p1), .val (.int p2), .val (.int p3), .val (.int p4), .val (.int z), .val (.int x1), .val (.int x2), .val (.int x3), .val (.int x4), .val (.ref b59), .unset] []))
          refine oS (fun _ κ => XS.iload X91.here hx rfl (hb hby at_198) rfl κ) ?_
          obtain ⟨vr93, _, ⟨T93, L93, k93, n93⟩, -, X93, ⟨Lc93, hQ93, l93, y93, z93⟩, st93⟩ := Jvm.LawKit.callS X91 hx (y := own_y1) hown (mvT hZ (own_w hw 52 rfl)) (mvT hZ (own_w hw 53 rfl)) (mvT hZ (own_w hw 3 rfl)) (mvT hZ (own_w hw 54 rfl)) (by decide) (backOf (W := 0) (rm2 l Z a0 hw [] x2  T86.heap n0 z90 ) hZ (own_w hw 54 rfl) (own_w hw 3 rfl) (by decide) (by decide)) (g := (mkF m 200 #[.val (.int p0), .val (.int p1), .val (.int p2), .val (.int p3), .val (.int p4), .val (.int z), .val (.int x1), .val (.int x2), .val (.int x3), .val (.int x4), .val (.ref b59), .unset] [(.int x2)])) rfl (by rw [hml]; rfl) (argsL := [(.int x2)]) (rest := []) (lenOf pd_18 rfl) rfl own_2z (hb hby at_200) (fun _ _ => ⟨rfl, eq91, (by decide : 4 + 0 ≤ _), (by decide : 12 + 0 ≤ _)⟩)
          dsimp only [Pt.U, Pt.locs, Pt.cells, Pt.slots] at X93 l93 y93 z93 st93 hQ93
          subst l93 y93 z93
          obtain ⟨rfl, Nq93, eq93⟩ := hQ93
          have N93 := Fr.app N91 Nq93
          refine oS st93 ?_
          show oG _ _ _ _ (T93.setTop (mkF m 203 #[.val (.int p0), .val (.int p1), .val (.int p2), .val (.int p3), .val (.int p4), .val (.int z), .val (.int x1), .val (.int x2), .val (.int x3), .val (.int x4), .val (.ref b59), .unset] [(.int (own_brk x2))]))
          by_cases hc94 : (own_brk x2) = (0 : Int32)
          · refine oS (fun _ κ => XS.ifNo X93.here hx rfl (hb hby at_203) rfl ((if0 _ _).trans (teq hc94).2) κ) ?_
            show oG _ _ _ _ (T93.setTop (mkF m 206 #[.val (.int p0), .val (.int p1), .val (.int p2), .val (.int p3), .val (.int p4), .val (.int z), .val (.int x1), .val (.int x2), .val (.int x3), .val (.int x4), .val (.ref b59), .unset] []))
            refine oS (fun _ κ => XS.iload X93.here hx rfl (hb hby at_206) rfl κ) ?_
            refine oS (fun _ κ => XS.iconst X93.here hx rfl (hb hby at_208) κ) ?_
            refine oS (fun _ κ => XS.icmpYes X93.here hx rfl (pc0 := 209) (pc' := 220) rfl (hb hby at_209) rfl (tlt (by rw [hc58]; decide)).1 (by decide) (by decide) κ) ?_
            show oG _ _ _ _ (T93.setTop (mkF m 220 #[.val (.int p0), .val (.int p1), .val (.int p2), .val (.int p3), .val (.int p4), .val (.int z), .val (.int x1), .val (.int x2), .val (.int x3), .val (.int x4), .val (.ref b59), .unset] []))
            refine oS (fun _ κ => XS.iload X93.here hx rfl (hb hby at_220) rfl κ) ?_
            refine oS (fun _ κ => XS.iconst X93.here hx rfl (hb hby at_222) κ) ?_
            refine oS (fun _ κ => XS.icmpYes X93.here hx rfl (pc0 := 223) (pc' := 234) rfl (hb hby at_223) rfl (tlt (by rw [hc58]; decide)).1 (by decide) (by decide) κ) ?_
            show oG _ _ _ _ (T93.setTop (mkF m 234 #[.val (.int p0), .val (.int p1), .val (.int p2), .val (.int p3), .val (.int p4), .val (.int z), .val (.int x1), .val (.int x2), .val (.int x3), .val (.int x4), .val (.ref b59), .unset] []))
            refine oS (fun _ κ => XS.iconst X93.here hx rfl (hb hby at_234) κ) ?_
            refine oS (fun _ κ => XS.goto X93.here hx rfl (pc0 := 235) (pc' := 239) rfl (hb hby at_235) (by decide) (by decide) κ) ?_
            show oG _ _ _ _ (T93.setTop (mkF m 239 #[.val (.int p0), .val (.int p1), .val (.int p2), .val (.int p3), .val (.int p4), .val (.int z), .val (.int x1), .val (.int x2), .val (.int x3), .val (.int x4), .val (.ref b59), .unset] [(.int (1 : Int32))]))
            refine oS (fun _ κ => XS.istore X93.here hx rfl (hb hby at_239) rfl (l' := #[.val (.int p0), .val (.int p1), .val (.int p2), .val (.int p3), .val (.int p4), .val (.int z), .val (.int x1), .val (.int x2), .val (.int x3), .val (.int x4), .val (.ref b59), .val (.int (1 : Int32))]) rfl κ) ?_
            refine oS (fun _ κ => XS.aload X93.here hx rfl (hb hby at_241) rfl rfl κ) ?_
            obtain ⟨vr95, _, ⟨T95, L95, k95, n95⟩, -, X95, ⟨Lc95, hQ95, l95, y95, z95⟩, st95⟩ := Jvm.LawKit.callS X93 hx (y := own_y0) hown (mvT hZ (own_w hw 27 rfl)) (mvT hZ (own_w hw 28 rfl)) (mvT hZ (own_w hw 29 rfl)) (mvT hZ (own_w hw 30 rfl)) (by decide) (backOf (W := 0) (rm55 l Z a0 hw [] b59 (own_gl [x1, x2]) x1 x2 cs fv T86.heap n0 z90 p86_0 f88 f87 P3 P4 P1 P2 P5 P6 P7 rfl rfl) hZ (own_w hw 30 rfl) (own_w hw 29 rfl) (by decide) (by decide)) (g := (mkF m 243 #[.val (.int p0), .val (.int p1), .val (.int p2), .val (.int p3), .val (.int p4), .val (.int z), .val (.int x1), .val (.int x2), .val (.int x3), .val (.int x4), .val (.ref b59), .val (.int (1 : Int32))] [(.ref b59)])) rfl (by rw [hml]; rfl) (argsL := [(.ref b59)]) (rest := []) (lenOf pd_17 rfl) rfl own_2z (hb hby at_243) (fun _ _ => ⟨rfl, eq93, (by decide : 4 + 0 ≤ _), (by decide : 12 + 0 ≤ _)⟩)
            dsimp only [Pt.U, Pt.locs, Pt.cells, Pt.slots] at X95 l95 y95 z95 st95 hQ95
            subst l95 y95 z95
            obtain ⟨hv95, Nq95, eq95⟩ := hQ95
            have N95 := Fr.app N93 Nq95
            rw [if_pos hc92] at hv95
            rw [if_pos hc94] at hv95
            subst hv95
            refine oS st95 ?_
            show oG _ _ _ _ (T95.setTop (mkF m 246 #[.val (.int p0), .val (.int p1), .val (.int p2), .val (.int p3), .val (.int p4), .val (.int z), .val (.int x1), .val (.int x2), .val (.int x3), .val (.int x4), .val (.ref b59), .val (.int (1 : Int32))] [(.int (1 : Int32))]))
            refine oS (fun _ κ => XS.iload X95.here hx rfl (hb hby at_246) rfl κ) ?_
            refine oS (fun _ κ => XS.icmpNo X95.here hx rfl (hb hby at_248) rfl (teq rfl).2 κ) ?_
            show oG _ _ _ _ (T95.setTop (mkF m 251 #[.val (.int p0), .val (.int p1), .val (.int p2), .val (.int p3), .val (.int p4), .val (.int z), .val (.int x1), .val (.int x2), .val (.int x3), .val (.int x4), .val (.ref b59), .val (.int (1 : Int32))] []))
            refine oS (fun _ κ => XS.iconst X95.here hx rfl (hb hby at_251) κ) ?_
            refine oS (fun _ κ => XS.goto X95.here hx rfl (pc0 := 252) (pc' := 256) rfl (hb hby at_252) (by decide) (by decide) κ) ?_
            show oG _ _ _ _ (T95.setTop (mkF m 256 #[.val (.int p0), .val (.int p1), .val (.int p2), .val (.int p3), .val (.int p4), .val (.int z), .val (.int x1), .val (.int x2), .val (.int x3), .val (.int x4), .val (.ref b59), .val (.int (1 : Int32))] [(.int (1 : Int32))]))
            obtain ⟨fs, hr, hrun, hended, hW, hsame⟩ := X95.leave (v := some (.int (1 : Int32))) (fun h => by rw [Bd.returns] at h; cases h)
            have hEW := ReturnedEndW.of_narrow (o := .returned (some (.int (1 : Int32)))) ⟨_, rfl⟩ hW hsame
            refine ⟨_, _, retN X95 hx (t := .boolean) Bd.returns (by simp) (hb hby at_256) hr, hrun, hended, _, _, rfl, ?_, hEW.1, hEW.2.1, hEW.2.2.1, hEW.2.2.2.mono (by decide) (by decide)⟩
            show Q0 Z p0 p1 p2 p3 p4 fv cs h0 n0 _ T95.heap _
            exact ⟨rfl, N95⟩
          · refine oS (fun _ κ => XS.ifYes X93.here hx rfl (pc0 := 203) (pc' := 238) rfl (hb hby at_203) rfl ((if0 _ _).trans (feq hc94).2) (by decide) (by decide) κ) ?_
            show oG _ _ _ _ (T93.setTop (mkF m 238 #[.val (.int p0), .val (.int p1), .val (.int p2), .val (.int p3), .val (.int p4), .val (.int z), .val (.int x1), .val (.int x2), .val (.int x3), .val (.int x4), .val (.ref b59), .unset] []))
            refine oS (fun _ κ => XS.iconst X93.here hx rfl (hb hby at_238) κ) ?_
            refine oS (fun _ κ => XS.istore X93.here hx rfl (hb hby at_239) rfl (l' := #[.val (.int p0), .val (.int p1), .val (.int p2), .val (.int p3), .val (.int p4), .val (.int z), .val (.int x1), .val (.int x2), .val (.int x3), .val (.int x4), .val (.ref b59), .val (.int (0 : Int32))]) rfl κ) ?_
            refine oS (fun _ κ => XS.aload X93.here hx rfl (hb hby at_241) rfl rfl κ) ?_
            obtain ⟨vr96, _, ⟨T96, L96, k96, n96⟩, -, X96, ⟨Lc96, hQ96, l96, y96, z96⟩, st96⟩ := Jvm.LawKit.callS X93 hx (y := own_y0) hown (mvT hZ (own_w hw 27 rfl)) (mvT hZ (own_w hw 28 rfl)) (mvT hZ (own_w hw 29 rfl)) (mvT hZ (own_w hw 30 rfl)) (by decide) (backOf (W := 0) (rm55 l Z a0 hw [] b59 (own_gl [x1, x2]) x1 x2 cs fv T86.heap n0 z90 p86_0 f88 f87 P3 P4 P1 P2 P5 P6 P7 rfl rfl) hZ (own_w hw 30 rfl) (own_w hw 29 rfl) (by decide) (by decide)) (g := (mkF m 243 #[.val (.int p0), .val (.int p1), .val (.int p2), .val (.int p3), .val (.int p4), .val (.int z), .val (.int x1), .val (.int x2), .val (.int x3), .val (.int x4), .val (.ref b59), .val (.int (0 : Int32))] [(.ref b59)])) rfl (by rw [hml]; rfl) (argsL := [(.ref b59)]) (rest := []) (lenOf pd_17 rfl) rfl own_2z (hb hby at_243) (fun _ _ => ⟨rfl, eq93, (by decide : 4 + 0 ≤ _), (by decide : 12 + 0 ≤ _)⟩)
            dsimp only [Pt.U, Pt.locs, Pt.cells, Pt.slots] at X96 l96 y96 z96 st96 hQ96
            subst l96 y96 z96
            obtain ⟨hv96, Nq96, eq96⟩ := hQ96
            have N96 := Fr.app N93 Nq96
            rw [if_pos hc92] at hv96
            rw [if_neg hc94] at hv96
            subst hv96
            refine oS st96 ?_
            show oG _ _ _ _ (T96.setTop (mkF m 246 #[.val (.int p0), .val (.int p1), .val (.int p2), .val (.int p3), .val (.int p4), .val (.int z), .val (.int x1), .val (.int x2), .val (.int x3), .val (.int x4), .val (.ref b59), .val (.int (0 : Int32))] [(.int (0 : Int32))]))
            refine oS (fun _ κ => XS.iload X96.here hx rfl (hb hby at_246) rfl κ) ?_
            refine oS (fun _ κ => XS.icmpNo X96.here hx rfl (hb hby at_248) rfl (teq rfl).2 κ) ?_
            show oG _ _ _ _ (T96.setTop (mkF m 251 #[.val (.int p0), .val (.int p1), .val (.int p2), .val (.int p3), .val (.int p4), .val (.int z), .val (.int x1), .val (.int x2), .val (.int x3), .val (.int x4), .val (.ref b59), .val (.int (0 : Int32))] []))
            refine oS (fun _ κ => XS.iconst X96.here hx rfl (hb hby at_251) κ) ?_
            refine oS (fun _ κ => XS.goto X96.here hx rfl (pc0 := 252) (pc' := 256) rfl (hb hby at_252) (by decide) (by decide) κ) ?_
            show oG _ _ _ _ (T96.setTop (mkF m 256 #[.val (.int p0), .val (.int p1), .val (.int p2), .val (.int p3), .val (.int p4), .val (.int z), .val (.int x1), .val (.int x2), .val (.int x3), .val (.int x4), .val (.ref b59), .val (.int (0 : Int32))] [(.int (1 : Int32))]))
            obtain ⟨fs, hr, hrun, hended, hW, hsame⟩ := X96.leave (v := some (.int (1 : Int32))) (fun h => by rw [Bd.returns] at h; cases h)
            have hEW := ReturnedEndW.of_narrow (o := .returned (some (.int (1 : Int32)))) ⟨_, rfl⟩ hW hsame
            refine ⟨_, _, retN X96 hx (t := .boolean) Bd.returns (by simp) (hb hby at_256) hr, hrun, hended, _, _, rfl, ?_, hEW.1, hEW.2.1, hEW.2.2.1, hEW.2.2.2.mono (by decide) (by decide)⟩
            show Q0 Z p0 p1 p2 p3 p4 fv cs h0 n0 _ T96.heap _
            exact ⟨rfl, N96⟩
        · refine oS (fun _ κ => XS.ifYes X91.here hx rfl (pc0 := 189) (pc' := 238) rfl (hb hby at_189) rfl ((if0 _ _).trans (feq hc92).2) (by decide) (by decide) κ) ?_
          show oG _ _ _ _ (T91.setTop (mkF m 238 #[.val (.int p0), .val (.int p1), .val (.int p2), .val (.int p3), .val (.int p4), .val (.int z), .val (.int x1), .val (.int x2), .val (.int x3), .val (.int x4), .val (.ref b59), .unset] []))
          refine oS (fun _ κ => XS.iconst X91.here hx rfl (hb hby at_238) κ) ?_
          refine oS (fun _ κ => XS.istore X91.here hx rfl (hb hby at_239) rfl (l' := #[.val (.int p0), .val (.int p1), .val (.int p2), .val (.int p3), .val (.int p4), .val (.int z), .val (.int x1), .val (.int x2), .val (.int x3), .val (.int x4), .val (.ref b59), .val (.int (0 : Int32))]) rfl κ) ?_
          refine oS (fun _ κ => XS.aload X91.here hx rfl (hb hby at_241) rfl rfl κ) ?_
          obtain ⟨vr97, _, ⟨T97, L97, k97, n97⟩, -, X97, ⟨Lc97, hQ97, l97, y97, z97⟩, st97⟩ := Jvm.LawKit.callS X91 hx (y := own_y0) hown (mvT hZ (own_w hw 27 rfl)) (mvT hZ (own_w hw 28 rfl)) (mvT hZ (own_w hw 29 rfl)) (mvT hZ (own_w hw 30 rfl)) (by decide) (backOf (W := 0) (rm55 l Z a0 hw [] b59 (own_gl [x1, x2]) x1 x2 cs fv T86.heap n0 z90 p86_0 f88 f87 P3 P4 P1 P2 P5 P6 P7 rfl rfl) hZ (own_w hw 30 rfl) (own_w hw 29 rfl) (by decide) (by decide)) (g := (mkF m 243 #[.val (.int p0), .val (.int p1), .val (.int p2), .val (.int p3), .val (.int p4), .val (.int z), .val (.int x1), .val (.int x2), .val (.int x3), .val (.int x4), .val (.ref b59), .val (.int (0 : Int32))] [(.ref b59)])) rfl (by rw [hml]; rfl) (argsL := [(.ref b59)]) (rest := []) (lenOf pd_17 rfl) rfl own_2z (hb hby at_243) (fun _ _ => ⟨rfl, eq91, (by decide : 4 + 0 ≤ _), (by decide : 12 + 0 ≤ _)⟩)
          dsimp only [Pt.U, Pt.locs, Pt.cells, Pt.slots] at X97 l97 y97 z97 st97 hQ97
          subst l97 y97 z97
          obtain ⟨hv97, Nq97, eq97⟩ := hQ97
          have N97 := Fr.app N91 Nq97
          rw [if_neg hc92] at hv97
          subst hv97
          refine oS st97 ?_
          show oG _ _ _ _ (T97.setTop (mkF m 246 #[.val (.int p0), .val (.int p1), .val (.int p2), .val (.int p3), .val (.int p4), .val (.int z), .val (.int x1), .val (.int x2), .val (.int x3), .val (.int x4), .val (.ref b59), .val (.int (0 : Int32))] [(.int (0 : Int32))]))
          refine oS (fun _ κ => XS.iload X97.here hx rfl (hb hby at_246) rfl κ) ?_
          refine oS (fun _ κ => XS.icmpNo X97.here hx rfl (hb hby at_248) rfl (teq rfl).2 κ) ?_
          show oG _ _ _ _ (T97.setTop (mkF m 251 #[.val (.int p0), .val (.int p1), .val (.int p2), .val (.int p3), .val (.int p4), .val (.int z), .val (.int x1), .val (.int x2), .val (.int x3), .val (.int x4), .val (.ref b59), .val (.int (0 : Int32))] []))
          refine oS (fun _ κ => XS.iconst X97.here hx rfl (hb hby at_251) κ) ?_
          refine oS (fun _ κ => XS.goto X97.here hx rfl (pc0 := 252) (pc' := 256) rfl (hb hby at_252) (by decide) (by decide) κ) ?_
          show oG _ _ _ _ (T97.setTop (mkF m 256 #[.val (.int p0), .val (.int p1), .val (.int p2), .val (.int p3), .val (.int p4), .val (.int z), .val (.int x1), .val (.int x2), .val (.int x3), .val (.int x4), .val (.ref b59), .val (.int (0 : Int32))] [(.int (1 : Int32))]))
          obtain ⟨fs, hr, hrun, hended, hW, hsame⟩ := X97.leave (v := some (.int (1 : Int32))) (fun h => by rw [Bd.returns] at h; cases h)
          have hEW := ReturnedEndW.of_narrow (o := .returned (some (.int (1 : Int32)))) ⟨_, rfl⟩ hW hsame
          refine ⟨_, _, retN X97 hx (t := .boolean) Bd.returns (by simp) (hb hby at_256) hr, hrun, hended, _, _, rfl, ?_, hEW.1, hEW.2.1, hEW.2.2.1, hEW.2.2.2.mono (by decide) (by decide)⟩
          show Q0 Z p0 p1 p2 p3 p4 fv cs h0 n0 _ T97.heap _
          exact ⟨rfl, N97⟩
      · refine oS (fun _ κ => XS.icmpYes X4.here hx rfl (pc0 := 82) (pc' := 110) rfl (hb hby at_82) rfl (feq hc58).2 (by decide) (by decide) κ) ?_
        show oG _ _ _ _ (T4.setTop (mkF m 110 #[.val (.int p0), .val (.int p1), .val (.int p2), .val (.int p3), .val (.int p4), .val (.int z), .val (.int x1), .val (.int x2), .val (.int x3), .val (.int x4), .unset, .unset] []))
        refine oS (fun _ κ => XS.iload X4.here hx rfl (hb hby at_110) rfl κ) ?_
        refine oS (fun _ κ => XS.iconst X4.here hx rfl (hb hby at_112) κ) ?_
        by_cases hc98 : z = (3 : Int32)
        · refine oS (fun _ κ => XS.icmpNo X4.here hx rfl (hb hby at_113) rfl (teq hc98).2 κ) ?_
          show oG _ _ _ _ (T4.setTop (mkF m 116 #[.val (.int p0), .val (.int p1), .val (.int p2), .val (.int p3), .val (.int p4), .val (.int z), .val (.int x1), .val (.int x2), .val (.int x3), .val (.int x4), .unset, .unset] []))
          obtain ⟨T99, h99, X99, e99, E99, A99, D99, U99, st99⟩ := newO X4 hx hZ hown (own_w hw 5 rfl) (own_w hw 6 rfl) (own_w hw 7 rfl) eq4 (g := (mkF m 116 #[.val (.int p0), .val (.int p1), .val (.int p2), .val (.int p3), .val (.int p4), .val (.int z), .val (.int x1), .val (.int x2), .val (.int x3), .val (.int x4), .unset, .unset] [])) rfl (hb hby at_116) (by decide) (by decide)
          obtain ⟨b99, g99⟩ : ∃ z, z = h0.size := ⟨_, rfl⟩
          rw [← g99] at A99 D99 U99 st99
          refine oS st99 ?_
          have ge100 : n0 ≤ b99 := Nat.le_trans Z0 (Nat.le_of_eq g99.symm)
          have f101 := P0.ext E99
          have f102 := hCH.ext E99
          have z103 : n0 ≤ h99.size := Nat.le_trans Z0 E99.1
          have sf99 := Safe.ext E99 hCH (Safe.new (Nat.le_of_eq g99.symm))
          have F99_value : Fld Z h99 b99 "java/lang/String" "value" "[B" .null := D99 (Or.inr (own_w hw 21 rfl)) (ty := (.array .byte)) (by decide)
          have F99_coder : Fld Z h99 b99 "java/lang/String" "coder" "B" (.int (0 : Int32)) := D99 (Or.inr (own_w hw 22 rfl)) (ty := .byte) (by decide)
          show oG _ _ _ _ (T99.setTop (mkF m 119 #[.val (.int p0), .val (.int p1), .val (.int p2), .val (.int p3), .val (.int p4), .val (.int z), .val (.int x1), .val (.int x2), .val (.int x3), .val (.int x4), .unset, .unset] [(.ref b99)]))
          refine oS (fun _ κ => XS.dup X99.here hx rfl (hb hby at_119) rfl rfl κ) ?_
          refine oS (fun _ κ => XS.iconst X99.here hx rfl (hb hby at_120) κ) ?_
          show oG _ _ _ _ (T99.setTop (mkF m 121 #[.val (.int p0), .val (.int p1), .val (.int p2), .val (.int p3), .val (.int p4), .val (.int z), .val (.int x1), .val (.int x2), .val (.int x3), .val (.int x4), .unset, .unset] [(.int (3 : Int32)), (.ref b99), (.ref b99)]))
          obtain ⟨T104, h104, k104, X104, e104, E104, A104, st104⟩ := newP X99 hx hZ (own_w hw 8 rfl) e99 (g := (mkF m 121 #[.val (.int p0), .val (.int p1), .val (.int p2), .val (.int p3), .val (.int p4), .val (.int z), .val (.int x1), .val (.int x2), .val (.int x3), .val (.int x4), .unset, .unset] [(.int (3 : Int32)), (.ref b99), (.ref b99)])) rfl (hb hby at_121) rfl (by decide) (cap := 3) (by decide) (by decide) (by decide) (by decide)
          obtain ⟨b104, g104⟩ : ∃ z, z = h99.size := ⟨_, rfl⟩
          rw [← g104] at A104 st104
          refine oS st104 ?_
          have ne105 : b99 ≠ b104 := Nat.ne_of_lt (Nat.lt_of_lt_of_le A99.lt (Nat.le_of_eq g104.symm))
          have ge106 : n0 ≤ b104 := Nat.le_trans z103 (Nat.le_of_eq g104.symm)
          have f107 := f101.ext E104
          have f108 := f102.ext E104
          have f109 := A99.ext E104
          have f110 := Safe.ext E104 f102 sf99
          have f111 := F99_value.ext E104
          have f112 := F99_coder.ext E104
          have z113 : n0 ≤ h104.size := Nat.le_trans z103 E104.1
          have V104 : Arv Z h104 b104 k104 .char (3 : Int32) [(.int (0 : Int32)), (.int (0 : Int32)), (.int (0 : Int32))] (.int (0 : Int32)) := (Arv.new A104 (by decide)).pad (pad_rep [] (.int (0 : Int32)) 3)
          show oG _ _ _ _ (T104.setTop (mkF m 123 #[.val (.int p0), .val (.int p1), .val (.int p2), .val (.int p3), .val (.int p4), .val (.int z), .val (.int x1), .val (.int x2), .val (.int x3), .val (.int x4), .unset, .unset] [(.ref b104), (.ref b99), (.ref b99)]))
          refine oS (fun _ κ => XS.dup X104.here hx rfl (hb hby at_123) rfl rfl κ) ?_
          refine oS (fun _ κ => XS.iconst X104.here hx rfl (hb hby at_124) κ) ?_
          refine oS (fun _ κ => XS.iload X104.here hx rfl (hb hby at_125) rfl κ) ?_
          obtain ⟨cl114, Ar114, q114, Sz114, Nz114, Hs114, Gs114⟩ := id (V104)
          have hin114 := inb_of (j := (0 : Int32)) Sz114 ⟨by decide, by decide⟩
          obtain ⟨T114, h114, X114, e114, W114, st114⟩ := stC X104 hx hZ e104 Ar114 (j := (0 : Int32)) hin114 (g := (mkF m 127 #[.val (.int p0), .val (.int p1), .val (.int p2), .val (.int p3), .val (.int p4), .val (.int z), .val (.int x1), .val (.int x2), .val (.int x3), .val (.int x4), .unset, .unset] [(.int x1), (.int (0 : Int32)), (.ref b104), (.ref b104), (.ref b99), (.ref b99)])) rfl rfl (hb hby at_127)
          refine oS st114 ?_
          have N114 := Fr.snoc X114 N4 ge106
          have V114 : Arv Z h114 b104 k104 .char (3 : Int32) [(.int (nar .char x1)), (.int (0 : Int32)), (.int (0 : Int32))] (.int (0 : Int32)) := Arv.set Ar114 q114 Sz114 Nz114 Hs114 Gs114 (fits_nar_char _) W114 0 rfl (Nat.le_of_ble_eq_true rfl)
          have Vn114 : Arv Z h114 b104 k104 .char (3 : Int32) [(.int x1), (.int (0 : Int32)), (.int (0 : Int32))] (.int (0 : Int32)) := by have q := V114; rw [own_narI r1] at q; exact q
          have f115 := f107.wr W114 ge106
          have f116 := f109.wr W114
          have f117 := f111.other W114 (Or.inl ne105)
          have f118 := f112.other W114 (Or.inl ne105)
          have z119 : n0 ≤ h114.size := Nat.le_trans z113 (Keep.of_wr W114).1
          show oG _ _ _ _ (T114.setTop (mkF m 128 #[.val (.int p0), .val (.int p1), .val (.int p2), .val (.int p3), .val (.int p4), .val (.int z), .val (.int x1), .val (.int x2), .val (.int x3), .val (.int x4), .unset, .unset] [(.ref b104), (.ref b99), (.ref b99)]))
          refine oS (fun _ κ => XS.dup X114.here hx rfl (hb hby at_128) rfl rfl κ) ?_
          refine oS (fun _ κ => XS.iconst X114.here hx rfl (hb hby at_129) κ) ?_
          refine oS (fun _ κ => XS.iload X114.here hx rfl (hb hby at_130) rfl κ) ?_
          obtain ⟨cl120, Ar120, q120, Sz120, Nz120, Hs120, Gs120⟩ := id (Vn114)
          have hin120 := inb_of (j := (1 : Int32)) Sz120 ⟨by decide, by decide⟩
          obtain ⟨T120, h120, X120, e120, W120, st120⟩ := stC X114 hx hZ e114 Ar120 (j := (1 : Int32)) hin120 (g := (mkF m 132 #[.val (.int p0), .val (.int p1), .val (.int p2), .val (.int p3), .val (.int p4), .val (.int z), .val (.int x1), .val (.int x2), .val (.int x3), .val (.int x4), .unset, .unset] [(.int x2), (.int (1 : Int32)), (.ref b104), (.ref b104), (.ref b99), (.ref b99)])) rfl rfl (hb hby at_132)
          refine oS st120 ?_
          have N120 := Fr.snoc X120 N114 ge106
          have V120 : Arv Z h120 b104 k104 .char (3 : Int32) [(.int x1), (.int (nar .char x2)), (.int (0 : Int32))] (.int (0 : Int32)) := Arv.set Ar120 q120 Sz120 Nz120 Hs120 Gs120 (fits_nar_char _) W120 1 rfl (Nat.le_of_ble_eq_true rfl)
          have Vn120 : Arv Z h120 b104 k104 .char (3 : Int32) [(.int x1), (.int x2), (.int (0 : Int32))] (.int (0 : Int32)) := by have q := V120; rw [own_narI r2] at q; exact q
          have f121 := f115.wr W120 ge106
          have f122 := f116.wr W120
          have f123 := f117.other W120 (Or.inl ne105)
          have f124 := f118.other W120 (Or.inl ne105)
          have z125 : n0 ≤ h120.size := Nat.le_trans z119 (Keep.of_wr W120).1
          show oG _ _ _ _ (T120.setTop (mkF m 133 #[.val (.int p0), .val (.int p1), .val (.int p2), .val (.int p3), .val (.int p4), .val (.int z), .val (.int x1), .val (.int x2), .val (.int x3), .val (.int x4), .unset, .unset] [(.ref b104), (.ref b99), (.ref b99)]))
          refine oS (fun _ κ => XS.dup X120.here hx rfl (hb hby at_133) rfl rfl κ) ?_
          refine oS (fun _ κ => XS.iconst X120.here hx rfl (hb hby at_134) κ) ?_
          refine oS (fun _ κ => XS.iload X120.here hx rfl (hb hby at_135) rfl κ) ?_
          obtain ⟨cl126, Ar126, q126, Sz126, Nz126, Hs126, Gs126⟩ := id (Vn120)
          have hin126 := inb_of (j := (2 : Int32)) Sz126 ⟨by decide, by decide⟩
          obtain ⟨T126, h126, X126, e126, W126, st126⟩ := stC X120 hx hZ e120 Ar126 (j := (2 : Int32)) hin126 (g := (mkF m 137 #[.val (.int p0), .val (.int p1), .val (.int p2), .val (.int p3), .val (.int p4), .val (.int z), .val (.int x1), .val (.int x2), .val (.int x3), .val (.int x4), .unset, .unset] [(.int x3), (.int (2 : Int32)), (.ref b104), (.ref b104), (.ref b99), (.ref b99)])) rfl rfl (hb hby at_137)
          refine oS st126 ?_
          have N126 := Fr.snoc X126 N120 ge106
          have V126 : Arv Z h126 b104 k104 .char (3 : Int32) [(.int x1), (.int x2), (.int (nar .char x3))] (.int (0 : Int32)) := Arv.set Ar126 q126 Sz126 Nz126 Hs126 Gs126 (fits_nar_char _) W126 2 rfl (Nat.le_of_ble_eq_true rfl)
          have Vn126 : Arv Z h126 b104 k104 .char (3 : Int32) [(.int x1), (.int x2), (.int x3)] (.int (0 : Int32)) := by have q := V126; rw [own_narI r3] at q; exact q
          have f127 := f121.wr W126 ge106
          have f128 := f122.wr W126
          have f129 := f123.other W126 (Or.inl ne105)
          have f130 := f124.other W126 (Or.inl ne105)
          have z131 : n0 ≤ h126.size := Nat.le_trans z125 (Keep.of_wr W126).1
          show oG _ _ _ _ (T126.setTop (mkF m 138 #[.val (.int p0), .val (.int p1), .val (.int p2), .val (.int p3), .val (.int p4), .val (.int z), .val (.int x1), .val (.int x2), .val (.int x3), .val (.int x4), .unset, .unset] [(.ref b104), (.ref b99), (.ref b99)]))
          obtain ⟨vr132, _, ⟨T132, L132, k132, n132⟩, -, X132, ⟨Lc132, hQ132, l132, y132, z132⟩, st132⟩ := X126.specialBack hx (y := own_y3) rfl hown (mvT hZ (own_w hw 9 rfl)) (mvT hZ (own_w hw 10 rfl)) (mvT hZ (own_w hw 11 rfl)) (by decide) (backOf (W := 1) (rm51 l Z a0 hw [] b99 b104 k104 x1 x2 x3 cs h126 n0 z131 f128 f129 f130 ge100 Vn126 f127 P3 P4 P5 P6 P7 r1 r2 r3 (Ne.symm ne105)) hZ (own_w hw 11 rfl) (own_w hw 7 rfl) (by decide) (by decide)) (g := (mkF m 138 #[.val (.int p0), .val (.int p1), .val (.int p2), .val (.int p3), .val (.int p4), .val (.int z), .val (.int x1), .val (.int x2), .val (.int x3), .val (.int x4), .unset, .unset] [(.ref b104), (.ref b99), (.ref b99)])) rfl (by rw [hml]; rfl) (Steps.refl _) (a := b99) (argsL := [(.ref b104)]) (rest := [(.ref b99)]) (lenOf pd_16 rfl) rfl own_2z (hb hby at_138) (fun _ _ => ⟨rfl, e126, (by decide : 2 + 2 ≤ _), (by decide : 7 + 9 ≤ _)⟩)
          dsimp only [Pt.U, Pt.locs, Pt.cells, Pt.slots] at X132 l132 y132 z132 st132 hQ132
          subst l132 y132 z132
          obtain ⟨rfl, Nq132, Kq132, p132_0⟩ := hQ132
          have N132 := Fr.app N126 Nq132
          have f133 := f127.keep Kq132 (allS ge100 all0)
          have f134 := f128.keep Kq132
          have f135 := Vn126.keep Kq132 (ninS (Ne.symm ne105) nin0)
          have z136 : n0 ≤ T132.heap.size := Nat.le_trans z131 Kq132.1
          refine oS (fun _ κ => st132.trans κ) ?_
          show oG _ _ _ _ (T132.setTop (mkF m 141 #[.val (.int p0), .val (.int p1), .val (.int p2), .val (.int p3), .val (.int p4), .val (.int z), .val (.int x1), .val (.int x2), .val (.int x3), .val (.int x4), .unset, .unset] [(.ref b99)]))
          refine oS (fun _ κ => XS.astore X132.here hx rfl (hb hby at_141) rfl rfl (l' := #[.val (.int p0), .val (.int p1), .val (.int p2), .val (.int p3), .val (.int p4), .val (.int z), .val (.int x1), .val (.int x2), .val (.int x3), .val (.int x4), .val (.ref b99), .unset]) rfl κ) ?_
          refine oS (fun _ κ => XS.goto X132.here hx rfl (pc0 := 143) (pc' := 178) rfl (hb hby at_143) (by decide) (by decide) κ) ?_
          show oG _ _ _ _ (T132.setTop (mkF m 178 #[.val (.int p0), .val (.int p1), .val (.int p2), .val (.int p3), .val (.int p4), .val (.int z), .val (.int x1), .val (.int x2), .val (.int x3), .val (.int x4), .val (.ref b99), .unset] []))
          refine oS (fun _ κ => XS.iload X132.here hx rfl (hb hby at_178) rfl κ) ?_
          refine oS (fun _ κ => XS.iconst X132.here hx rfl (hb hby at_180) κ) ?_
          refine oS (fun _ κ => XS.icmpNo X132.here hx rfl (hb hby at_181) rfl (flt (by rw [hc98]; decide)).1 κ) ?_
          show oG _ _ _ _ (T132.setTop (mkF m 184 #[.val (.int p0), .val (.int p1), .val (.int p2), .val (.int p3), .val (.int p4), .val (.int z), .val (.int x1), .val (.int x2), .val (.int x3), .val (.int x4), .val (.ref b99), .unset] []))
          refine oS (fun _ κ => XS.iload X132.here hx rfl (hb hby at_184) rfl κ) ?_
          obtain ⟨vr137, _, ⟨T137, L137, k137, n137⟩, -, X137, ⟨Lc137, hQ137, l137, y137, z137⟩, st137⟩ := Jvm.LawKit.callS X132 hx (y := own_y1) hown (mvT hZ (own_w hw 52 rfl)) (mvT hZ (own_w hw 53 rfl)) (mvT hZ (own_w hw 3 rfl)) (mvT hZ (own_w hw 54 rfl)) (by decide) (backOf (W := 0) (rm2 l Z a0 hw [] x1  T132.heap n0 z136 ) hZ (own_w hw 54 rfl) (own_w hw 3 rfl) (by decide) (by decide)) (g := (mkF m 186 #[.val (.int p0), .val (.int p1), .val (.int p2), .val (.int p3), .val (.int p4), .val (.int z), .val (.int x1), .val (.int x2), .val (.int x3), .val (.int x4), .val (.ref b99), .unset] [(.int x1)])) rfl (by rw [hml]; rfl) (argsL := [(.int x1)]) (rest := []) (lenOf pd_18 rfl) rfl own_2z (hb hby at_186) (fun _ _ => ⟨rfl, rfl, (by decide : 4 + 0 ≤ _), (by decide : 16 + 0 ≤ _)⟩)
          dsimp only [Pt.U, Pt.locs, Pt.cells, Pt.slots] at X137 l137 y137 z137 st137 hQ137
          subst l137 y137 z137
          obtain ⟨rfl, Nq137, eq137⟩ := hQ137
          have N137 := Fr.app N132 Nq137
          refine oS st137 ?_
          show oG _ _ _ _ (T137.setTop (mkF m 189 #[.val (.int p0), .val (.int p1), .val (.int p2), .val (.int p3), .val (.int p4), .val (.int z), .val (.int x1), .val (.int x2), .val (.int x3), .val (.int x4), .val (.ref b99), .unset] [(.int (own_brk x1))]))
          by_cases hc138 : (own_brk x1) = (0 : Int32)
          · refine oS (fun _ κ => XS.ifNo X137.here hx rfl (hb hby at_189) rfl ((if0 _ _).trans (teq hc138).2) κ) ?_
            show oG _ _ _ _ (T137.setTop (mkF m 192 #[.val (.int p0), .val (.int p1), .val (.int p2), .val (.int p3), .val (.int p4), .val (.int z), .val (.int x1), .val (.int x2), .val (.int x3), .val (.int x4), .val (.ref b99), .unset] []))
            refine oS (fun _ κ => XS.iload X137.here hx rfl (hb hby at_192) rfl κ) ?_
            refine oS (fun _ κ => XS.iconst X137.here hx rfl (hb hby at_194) κ) ?_
            refine oS (fun _ κ => XS.icmpNo X137.here hx rfl (hb hby at_195) rfl (flt (by rw [hc98]; decide)).1 κ) ?_
            show oG _ _ _ _ (T137.setTop (mkF m 198 #[.val (.int p0), .val (.int p1), .val (.int p2), .val (.int p3), .val (.int p4), .val (.int z), .val (.int x1), .val (.int x2), .val (.int x3), .val (.int x4), .val (.ref b99), .unset] []))
            refine oS (fun _ κ => XS.iload X137.here hx rfl (hb hby at_198) rfl κ) ?_
            obtain ⟨vr139, _, ⟨T139, L139, k139, n139⟩, -, X139, ⟨Lc139, hQ139, l139, y139, z139⟩, st139⟩ := Jvm.LawKit.callS X137 hx (y := own_y1) hown (mvT hZ (own_w hw 52 rfl)) (mvT hZ (own_w hw 53 rfl)) (mvT hZ (own_w hw 3 rfl)) (mvT hZ (own_w hw 54 rfl)) (by decide) (backOf (W := 0) (rm2 l Z a0 hw [] x2  T132.heap n0 z136 ) hZ (own_w hw 54 rfl) (own_w hw 3 rfl) (by decide) (by decide)) (g := (mkF m 200 #[.val (.int p0), .val (.int p1), .val (.int p2), .val (.int p3), .val (.int p4), .val (.int z), .val (.int x1), .val (.int x2), .val (.int x3), .val (.int x4), .val (.ref b99), .unset] [(.int x2)])) rfl (by rw [hml]; rfl) (argsL := [(.int x2)]) (rest := []) (lenOf pd_18 rfl) rfl own_2z (hb hby at_200) (fun _ _ => ⟨rfl, eq137, (by decide : 4 + 0 ≤ _), (by decide : 16 + 0 ≤ _)⟩)
            dsimp only [Pt.U, Pt.locs, Pt.cells, Pt.slots] at X139 l139 y139 z139 st139 hQ139
            subst l139 y139 z139
            obtain ⟨rfl, Nq139, eq139⟩ := hQ139
            have N139 := Fr.app N137 Nq139
            refine oS st139 ?_
            show oG _ _ _ _ (T139.setTop (mkF m 203 #[.val (.int p0), .val (.int p1), .val (.int p2), .val (.int p3), .val (.int p4), .val (.int z), .val (.int x1), .val (.int x2), .val (.int x3), .val (.int x4), .val (.ref b99), .unset] [(.int (own_brk x2))]))
            by_cases hc140 : (own_brk x2) = (0 : Int32)
            · refine oS (fun _ κ => XS.ifNo X139.here hx rfl (hb hby at_203) rfl ((if0 _ _).trans (teq hc140).2) κ) ?_
              show oG _ _ _ _ (T139.setTop (mkF m 206 #[.val (.int p0), .val (.int p1), .val (.int p2), .val (.int p3), .val (.int p4), .val (.int z), .val (.int x1), .val (.int x2), .val (.int x3), .val (.int x4), .val (.ref b99), .unset] []))
              refine oS (fun _ κ => XS.iload X139.here hx rfl (hb hby at_206) rfl κ) ?_
              refine oS (fun _ κ => XS.iconst X139.here hx rfl (hb hby at_208) κ) ?_
              refine oS (fun _ κ => XS.icmpNo X139.here hx rfl (hb hby at_209) rfl (flt (by rw [hc98]; decide)).1 κ) ?_
              show oG _ _ _ _ (T139.setTop (mkF m 212 #[.val (.int p0), .val (.int p1), .val (.int p2), .val (.int p3), .val (.int p4), .val (.int z), .val (.int x1), .val (.int x2), .val (.int x3), .val (.int x4), .val (.ref b99), .unset] []))
              refine oS (fun _ κ => XS.iload X139.here hx rfl (hb hby at_212) rfl κ) ?_
              obtain ⟨vr141, _, ⟨T141, L141, k141, n141⟩, -, X141, ⟨Lc141, hQ141, l141, y141, z141⟩, st141⟩ := Jvm.LawKit.callS X139 hx (y := own_y1) hown (mvT hZ (own_w hw 52 rfl)) (mvT hZ (own_w hw 53 rfl)) (mvT hZ (own_w hw 3 rfl)) (mvT hZ (own_w hw 54 rfl)) (by decide) (backOf (W := 0) (rm2 l Z a0 hw [] x3  T132.heap n0 z136 ) hZ (own_w hw 54 rfl) (own_w hw 3 rfl) (by decide) (by decide)) (g := (mkF m 214 #[.val (.int p0), .val (.int p1), .val (.int p2), .val (.int p3), .val (.int p4), .val (.int z), .val (.int x1), .val (.int x2), .val (.int x3), .val (.int x4), .val (.ref b99), .unset] [(.int x3)])) rfl (by rw [hml]; rfl) (argsL := [(.int x3)]) (rest := []) (lenOf pd_18 rfl) rfl own_2z (hb hby at_214) (fun _ _ => ⟨rfl, eq139, (by decide : 4 + 0 ≤ _), (by decide : 16 + 0 ≤ _)⟩)
              dsimp only [Pt.U, Pt.locs, Pt.cells, Pt.slots] at X141 l141 y141 z141 st141 hQ141
              subst l141 y141 z141
              obtain ⟨rfl, Nq141, eq141⟩ := hQ141
              have N141 := Fr.app N139 Nq141
              refine oS st141 ?_
              show oG _ _ _ _ (T141.setTop (mkF m 217 #[.val (.int p0), .val (.int p1), .val (.int p2), .val (.int p3), .val (.int p4), .val (.int z), .val (.int x1), .val (.int x2), .val (.int x3), .val (.int x4), .val (.ref b99), .unset] [(.int (own_brk x3))]))
              by_cases hc142 : (own_brk x3) = (0 : Int32)
              · refine oS (fun _ κ => XS.ifNo X141.here hx rfl (hb hby at_217) rfl ((if0 _ _).trans (teq hc142).2) κ) ?_
                show oG _ _ _ _ (T141.setTop (mkF m 220 #[.val (.int p0), .val (.int p1), .val (.int p2), .val (.int p3), .val (.int p4), .val (.int z), .val (.int x1), .val (.int x2), .val (.int x3), .val (.int x4), .val (.ref b99), .unset] []))
                refine oS (fun _ κ => XS.iload X141.here hx rfl (hb hby at_220) rfl κ) ?_
                refine oS (fun _ κ => XS.iconst X141.here hx rfl (hb hby at_222) κ) ?_
                refine oS (fun _ κ => XS.icmpYes X141.here hx rfl (pc0 := 223) (pc' := 234) rfl (hb hby at_223) rfl (tlt (by rw [hc98]; decide)).1 (by decide) (by decide) κ) ?_
                show oG _ _ _ _ (T141.setTop (mkF m 234 #[.val (.int p0), .val (.int p1), .val (.int p2), .val (.int p3), .val (.int p4), .val (.int z), .val (.int x1), .val (.int x2), .val (.int x3), .val (.int x4), .val (.ref b99), .unset] []))
                refine oS (fun _ κ => XS.iconst X141.here hx rfl (hb hby at_234) κ) ?_
                refine oS (fun _ κ => XS.goto X141.here hx rfl (pc0 := 235) (pc' := 239) rfl (hb hby at_235) (by decide) (by decide) κ) ?_
                show oG _ _ _ _ (T141.setTop (mkF m 239 #[.val (.int p0), .val (.int p1), .val (.int p2), .val (.int p3), .val (.int p4), .val (.int z), .val (.int x1), .val (.int x2), .val (.int x3), .val (.int x4), .val (.ref b99), .unset] [(.int (1 : Int32))]))
                refine oS (fun _ κ => XS.istore X141.here hx rfl (hb hby at_239) rfl (l' := #[.val (.int p0), .val (.int p1), .val (.int p2), .val (.int p3), .val (.int p4), .val (.int z), .val (.int x1), .val (.int x2), .val (.int x3), .val (.int x4), .val (.ref b99), .val (.int (1 : Int32))]) rfl κ) ?_
                refine oS (fun _ κ => XS.aload X141.here hx rfl (hb hby at_241) rfl rfl κ) ?_
                obtain ⟨vr143, _, ⟨T143, L143, k143, n143⟩, -, X143, ⟨Lc143, hQ143, l143, y143, z143⟩, st143⟩ := Jvm.LawKit.callS X141 hx (y := own_y0) hown (mvT hZ (own_w hw 27 rfl)) (mvT hZ (own_w hw 28 rfl)) (mvT hZ (own_w hw 29 rfl)) (mvT hZ (own_w hw 30 rfl)) (by decide) (backOf (W := 0) (rm56 l Z a0 hw [] b99 (own_gl [x1, x2, x3]) x1 x2 x3 cs fv T132.heap n0 z136 p132_0 f134 f133 P3 P4 P1 P2 P5 P6 P7 rfl rfl rfl) hZ (own_w hw 30 rfl) (own_w hw 29 rfl) (by decide) (by decide)) (g := (mkF m 243 #[.val (.int p0), .val (.int p1), .val (.int p2), .val (.int p3), .val (.int p4), .val (.int z), .val (.int x1), .val (.int x2), .val (.int x3), .val (.int x4), .val (.ref b99), .val (.int (1 : Int32))] [(.ref b99)])) rfl (by rw [hml]; rfl) (argsL := [(.ref b99)]) (rest := []) (lenOf pd_17 rfl) rfl own_2z (hb hby at_243) (fun _ _ => ⟨rfl, eq141, (by decide : 4 + 0 ≤ _), (by decide : 16 + 0 ≤ _)⟩)
                dsimp only [Pt.U, Pt.locs, Pt.cells, Pt.slots] at X143 l143 y143 z143 st143 hQ143
                subst l143 y143 z143
                obtain ⟨hv143, Nq143, eq143⟩ := hQ143
                have N143 := Fr.app N141 Nq143
                rw [if_pos hc138] at hv143
                rw [if_pos hc140] at hv143
                rw [if_pos hc142] at hv143
                subst hv143
                refine oS st143 ?_
                show oG _ _ _ _ (T143.setTop (mkF m 246 #[.val (.int p0), .val (.int p1), .val (.int p2), .val (.int p3), .val (.int p4), .val (.int z), .val (.int x1), .val (.int x2), .val (.int x3), .val (.int x4), .val (.ref b99), .val (.int (1 : Int32))] [(.int (1 : Int32))]))
                refine oS (fun _ κ => XS.iload X143.here hx rfl (hb hby at_246) rfl κ) ?_
                refine oS (fun _ κ => XS.icmpNo X143.here hx rfl (hb hby at_248) rfl (teq rfl).2 κ) ?_
                show oG _ _ _ _ (T143.setTop (mkF m 251 #[.val (.int p0), .val (.int p1), .val (.int p2), .val (.int p3), .val (.int p4), .val (.int z), .val (.int x1), .val (.int x2), .val (.int x3), .val (.int x4), .val (.ref b99), .val (.int (1 : Int32))] []))
                refine oS (fun _ κ => XS.iconst X143.here hx rfl (hb hby at_251) κ) ?_
                refine oS (fun _ κ => XS.goto X143.here hx rfl (pc0 := 252) (pc' := 256) rfl (hb hby at_252) (by decide) (by decide) κ) ?_
                show oG _ _ _ _ (T143.setTop (mkF m 256 #[.val (.int p0), .val (.int p1), .val (.int p2), .val (.int p3), .val (.int p4), .val (.int z), .val (.int x1), .val (.int x2), .val (.int x3), .val (.int x4), .val (.ref b99), .val (.int (1 : Int32))] [(.int (1 : Int32))]))
                obtain ⟨fs, hr, hrun, hended, hW, hsame⟩ := X143.leave (v := some (.int (1 : Int32))) (fun h => by rw [Bd.returns] at h; cases h)
                have hEW := ReturnedEndW.of_narrow (o := .returned (some (.int (1 : Int32)))) ⟨_, rfl⟩ hW hsame
                refine ⟨_, _, retN X143 hx (t := .boolean) Bd.returns (by simp) (hb hby at_256) hr, hrun, hended, _, _, rfl, ?_, hEW.1, hEW.2.1, hEW.2.2.1, hEW.2.2.2.mono (by decide) (by decide)⟩
                show Q0 Z p0 p1 p2 p3 p4 fv cs h0 n0 _ T143.heap _
                exact ⟨rfl, N143⟩
              · refine oS (fun _ κ => XS.ifYes X141.here hx rfl (pc0 := 217) (pc' := 238) rfl (hb hby at_217) rfl ((if0 _ _).trans (feq hc142).2) (by decide) (by decide) κ) ?_
                show oG _ _ _ _ (T141.setTop (mkF m 238 #[.val (.int p0), .val (.int p1), .val (.int p2), .val (.int p3), .val (.int p4), .val (.int z), .val (.int x1), .val (.int x2), .val (.int x3), .val (.int x4), .val (.ref b99), .unset] []))
                refine oS (fun _ κ => XS.iconst X141.here hx rfl (hb hby at_238) κ) ?_
                refine oS (fun _ κ => XS.istore X141.here hx rfl (hb hby at_239) rfl (l' := #[.val (.int p0), .val (.int p1), .val (.int p2), .val (.int p3), .val (.int p4), .val (.int z), .val (.int x1), .val (.int x2), .val (.int x3), .val (.int x4), .val (.ref b99), .val (.int (0 : Int32))]) rfl κ) ?_
                refine oS (fun _ κ => XS.aload X141.here hx rfl (hb hby at_241) rfl rfl κ) ?_
                obtain ⟨vr144, _, ⟨T144, L144, k144, n144⟩, -, X144, ⟨Lc144, hQ144, l144, y144, z144⟩, st144⟩ := Jvm.LawKit.callS X141 hx (y := own_y0) hown (mvT hZ (own_w hw 27 rfl)) (mvT hZ (own_w hw 28 rfl)) (mvT hZ (own_w hw 29 rfl)) (mvT hZ (own_w hw 30 rfl)) (by decide) (backOf (W := 0) (rm56 l Z a0 hw [] b99 (own_gl [x1, x2, x3]) x1 x2 x3 cs fv T132.heap n0 z136 p132_0 f134 f133 P3 P4 P1 P2 P5 P6 P7 rfl rfl rfl) hZ (own_w hw 30 rfl) (own_w hw 29 rfl) (by decide) (by decide)) (g := (mkF m 243 #[.val (.int p0), .val (.int p1), .val (.int p2), .val (.int p3), .val (.int p4), .val (.int z), .val (.int x1), .val (.int x2), .val (.int x3), .val (.int x4), .val (.ref b99), .val (.int (0 : Int32))] [(.ref b99)])) rfl (by rw [hml]; rfl) (argsL := [(.ref b99)]) (rest := []) (lenOf pd_17 rfl) rfl own_2z (hb hby at_243) (fun _ _ => ⟨rfl, eq141, (by decide : 4 + 0 ≤ _), (by decide : 16 + 0 ≤ _)⟩)
                dsimp only [Pt.U, Pt.locs, Pt.cells, Pt.slots] at X144 l144 y144 z144 st144 hQ144
                subst l144 y144 z144
                obtain ⟨hv144, Nq144, eq144⟩ := hQ144
                have N144 := Fr.app N141 Nq144
                rw [if_pos hc138] at hv144
                rw [if_pos hc140] at hv144
                rw [if_neg hc142] at hv144
                subst hv144
                refine oS st144 ?_
                show oG _ _ _ _ (T144.setTop (mkF m 246 #[.val (.int p0), .val (.int p1), .val (.int p2), .val (.int p3), .val (.int p4), .val (.int z), .val (.int x1), .val (.int x2), .val (.int x3), .val (.int x4), .val (.ref b99), .val (.int (0 : Int32))] [(.int (0 : Int32))]))
                refine oS (fun _ κ => XS.iload X144.here hx rfl (hb hby at_246) rfl κ) ?_
                refine oS (fun _ κ => XS.icmpNo X144.here hx rfl (hb hby at_248) rfl (teq rfl).2 κ) ?_
                show oG _ _ _ _ (T144.setTop (mkF m 251 #[.val (.int p0), .val (.int p1), .val (.int p2), .val (.int p3), .val (.int p4), .val (.int z), .val (.int x1), .val (.int x2), .val (.int x3), .val (.int x4), .val (.ref b99), .val (.int (0 : Int32))] []))
                refine oS (fun _ κ => XS.iconst X144.here hx rfl (hb hby at_251) κ) ?_
                refine oS (fun _ κ => XS.goto X144.here hx rfl (pc0 := 252) (pc' := 256) rfl (hb hby at_252) (by decide) (by decide) κ) ?_
                show oG _ _ _ _ (T144.setTop (mkF m 256 #[.val (.int p0), .val (.int p1), .val (.int p2), .val (.int p3), .val (.int p4), .val (.int z), .val (.int x1), .val (.int x2), .val (.int x3), .val (.int x4), .val (.ref b99), .val (.int (0 : Int32))] [(.int (1 : Int32))]))
                obtain ⟨fs, hr, hrun, hended, hW, hsame⟩ := X144.leave (v := some (.int (1 : Int32))) (fun h => by rw [Bd.returns] at h; cases h)
                have hEW := ReturnedEndW.of_narrow (o := .returned (some (.int (1 : Int32)))) ⟨_, rfl⟩ hW hsame
                refine ⟨_, _, retN X144 hx (t := .boolean) Bd.returns (by simp) (hb hby at_256) hr, hrun, hended, _, _, rfl, ?_, hEW.1, hEW.2.1, hEW.2.2.1, hEW.2.2.2.mono (by decide) (by decide)⟩
                show Q0 Z p0 p1 p2 p3 p4 fv cs h0 n0 _ T144.heap _
                exact ⟨rfl, N144⟩
            · refine oS (fun _ κ => XS.ifYes X139.here hx rfl (pc0 := 203) (pc' := 238) rfl (hb hby at_203) rfl ((if0 _ _).trans (feq hc140).2) (by decide) (by decide) κ) ?_
              show oG _ _ _ _ (T139.setTop (mkF m 238 #[.val (.int p0), .val (.int p1), .val (.int p2), .val (.int p3), .val (.int p4), .val (.int z), .val (.int x1), .val (.int x2), .val (.int x3), .val (.int x4), .val (.ref b99), .unset] []))
              refine oS (fun _ κ => XS.iconst X139.here hx rfl (hb hby at_238) κ) ?_
              refine oS (fun _ κ => XS.istore X139.here hx rfl (hb hby at_239) rfl (l' := #[.val (.int p0), .val (.int p1), .val (.int p2), .val (.int p3), .val (.int p4), .val (.int z), .val (.int x1), .val (.int x2), .val (.int x3), .val (.int x4), .val (.ref b99), .val (.int (0 : Int32))]) rfl κ) ?_
              refine oS (fun _ κ => XS.aload X139.here hx rfl (hb hby at_241) rfl rfl κ) ?_
              obtain ⟨vr145, _, ⟨T145, L145, k145, n145⟩, -, X145, ⟨Lc145, hQ145, l145, y145, z145⟩, st145⟩ := Jvm.LawKit.callS X139 hx (y := own_y0) hown (mvT hZ (own_w hw 27 rfl)) (mvT hZ (own_w hw 28 rfl)) (mvT hZ (own_w hw 29 rfl)) (mvT hZ (own_w hw 30 rfl)) (by decide) (backOf (W := 0) (rm56 l Z a0 hw [] b99 (own_gl [x1, x2, x3]) x1 x2 x3 cs fv T132.heap n0 z136 p132_0 f134 f133 P3 P4 P1 P2 P5 P6 P7 rfl rfl rfl) hZ (own_w hw 30 rfl) (own_w hw 29 rfl) (by decide) (by decide)) (g := (mkF m 243 #[.val (.int p0), .val (.int p1), .val (.int p2), .val (.int p3), .val (.int p4), .val (.int z), .val (.int x1), .val (.int x2), .val (.int x3), .val (.int x4), .val (.ref b99), .val (.int (0 : Int32))] [(.ref b99)])) rfl (by rw [hml]; rfl) (argsL := [(.ref b99)]) (rest := []) (lenOf pd_17 rfl) rfl own_2z (hb hby at_243) (fun _ _ => ⟨rfl, eq139, (by decide : 4 + 0 ≤ _), (by decide : 16 + 0 ≤ _)⟩)
              dsimp only [Pt.U, Pt.locs, Pt.cells, Pt.slots] at X145 l145 y145 z145 st145 hQ145
              subst l145 y145 z145
              obtain ⟨hv145, Nq145, eq145⟩ := hQ145
              have N145 := Fr.app N139 Nq145
              rw [if_pos hc138] at hv145
              rw [if_neg hc140] at hv145
              subst hv145
              refine oS st145 ?_
              show oG _ _ _ _ (T145.setTop (mkF m 246 #[.val (.int p0), .val (.int p1), .val (.int p2), .val (.int p3), .val (.int p4), .val (.int z), .val (.int x1), .val (.int x2), .val (.int x3), .val (.int x4), .val (.ref b99), .val (.int (0 : Int32))] [(.int (0 : Int32))]))
              refine oS (fun _ κ => XS.iload X145.here hx rfl (hb hby at_246) rfl κ) ?_
              refine oS (fun _ κ => XS.icmpNo X145.here hx rfl (hb hby at_248) rfl (teq rfl).2 κ) ?_
              show oG _ _ _ _ (T145.setTop (mkF m 251 #[.val (.int p0), .val (.int p1), .val (.int p2), .val (.int p3), .val (.int p4), .val (.int z), .val (.int x1), .val (.int x2), .val (.int x3), .val (.int x4), .val (.ref b99), .val (.int (0 : Int32))] []))
              refine oS (fun _ κ => XS.iconst X145.here hx rfl (hb hby at_251) κ) ?_
              refine oS (fun _ κ => XS.goto X145.here hx rfl (pc0 := 252) (pc' := 256) rfl (hb hby at_252) (by decide) (by decide) κ) ?_
              show oG _ _ _ _ (T145.setTop (mkF m 256 #[.val (.int p0), .val (.int p1), .val (.int p2), .val (.int p3), .val (.int p4), .val (.int z), .val (.int x1), .val (.int x2), .val (.int x3), .val (.int x4), .val (.ref b99), .val (.int (0 : Int32))] [(.int (1 : Int32))]))
              obtain ⟨fs, hr, hrun, hended, hW, hsame⟩ := X145.leave (v := some (.int (1 : Int32))) (fun h => by rw [Bd.returns] at h; cases h)
              have hEW := ReturnedEndW.of_narrow (o := .returned (some (.int (1 : Int32)))) ⟨_, rfl⟩ hW hsame
              refine ⟨_, _, retN X145 hx (t := .boolean) Bd.returns (by simp) (hb hby at_256) hr, hrun, hended, _, _, rfl, ?_, hEW.1, hEW.2.1, hEW.2.2.1, hEW.2.2.2.mono (by decide) (by decide)⟩
              show Q0 Z p0 p1 p2 p3 p4 fv cs h0 n0 _ T145.heap _
              exact ⟨rfl, N145⟩
          · refine oS (fun _ κ => XS.ifYes X137.here hx rfl (pc0 := 189) (pc' := 238) rfl (hb hby at_189) rfl ((if0 _ _).trans (feq hc138).2) (by decide) (by decide) κ) ?_
            show oG _ _ _ _ (T137.setTop (mkF m 238 #[.val (.int p0), .val (.int p1), .val (.int p2), .val (.int p3), .val (.int p4), .val (.int z), .val (.int x1), .val (.int x2), .val (.int x3), .val (.int x4), .val (.ref b99), .unset] []))
            refine oS (fun _ κ => XS.iconst X137.here hx rfl (hb hby at_238) κ) ?_
            refine oS (fun _ κ => XS.istore X137.here hx rfl (hb hby at_239) rfl (l' := #[.val (.int p0), .val (.int p1), .val (.int p2), .val (.int p3), .val (.int p4), .val (.int z), .val (.int x1), .val (.int x2), .val (.int x3), .val (.int x4), .val (.ref b99), .val (.int (0 : Int32))]) rfl κ) ?_
            refine oS (fun _ κ => XS.aload X137.here hx rfl (hb hby at_241) rfl rfl κ) ?_
            obtain ⟨vr146, _, ⟨T146, L146, k146, n146⟩, -, X146, ⟨Lc146, hQ146, l146, y146, z146⟩, st146⟩ := Jvm.LawKit.callS X137 hx (y := own_y0) hown (mvT hZ (own_w hw 27 rfl)) (mvT hZ (own_w hw 28 rfl)) (mvT hZ (own_w hw 29 rfl)) (mvT hZ (own_w hw 30 rfl)) (by decide) (backOf (W := 0) (rm56 l Z a0 hw [] b99 (own_gl [x1, x2, x3]) x1 x2 x3 cs fv T132.heap n0 z136 p132_0 f134 f133 P3 P4 P1 P2 P5 P6 P7 rfl rfl rfl) hZ (own_w hw 30 rfl) (own_w hw 29 rfl) (by decide) (by decide)) (g := (mkF m 243 #[.val (.int p0), .val (.int p1), .val (.int p2), .val (.int p3), .val (.int p4), .val (.int z), .val (.int x1), .val (.int x2), .val (.int x3), .val (.int x4), .val (.ref b99), .val (.int (0 : Int32))] [(.ref b99)])) rfl (by rw [hml]; rfl) (argsL := [(.ref b99)]) (rest := []) (lenOf pd_17 rfl) rfl own_2z (hb hby at_243) (fun _ _ => ⟨rfl, eq137, (by decide : 4 + 0 ≤ _), (by decide : 16 + 0 ≤ _)⟩)
            dsimp only [Pt.U, Pt.locs, Pt.cells, Pt.slots] at X146 l146 y146 z146 st146 hQ146
            subst l146 y146 z146
            obtain ⟨hv146, Nq146, eq146⟩ := hQ146
            have N146 := Fr.app N137 Nq146
            rw [if_neg hc138] at hv146
            subst hv146
            refine oS st146 ?_
            show oG _ _ _ _ (T146.setTop (mkF m 246 #[.val (.int p0), .val (.int p1), .val (.int p2), .val (.int p3), .val (.int p4), .val (.int z), .val (.int x1), .val (.int x2), .val (.int x3), .val (.int x4), .val (.ref b99), .val (.int (0 : Int32))] [(.int (0 : Int32))]))
            refine oS (fun _ κ => XS.iload X146.here hx rfl (hb hby at_246) rfl κ) ?_
            refine oS (fun _ κ => XS.icmpNo X146.here hx rfl (hb hby at_248) rfl (teq rfl).2 κ) ?_
            show oG _ _ _ _ (T146.setTop (mkF m 251 #[.val (.int p0), .val (.int p1), .val (.int p2), .val (.int p3), .val (.int p4), .val (.int z), .val (.int x1), .val (.int x2), .val (.int x3), .val (.int x4), .val (.ref b99), .val (.int (0 : Int32))] []))
            refine oS (fun _ κ => XS.iconst X146.here hx rfl (hb hby at_251) κ) ?_
            refine oS (fun _ κ => XS.goto X146.here hx rfl (pc0 := 252) (pc' := 256) rfl (hb hby at_252) (by decide) (by decide) κ) ?_
            show oG _ _ _ _ (T146.setTop (mkF m 256 #[.val (.int p0), .val (.int p1), .val (.int p2), .val (.int p3), .val (.int p4), .val (.int z), .val (.int x1), .val (.int x2), .val (.int x3), .val (.int x4), .val (.ref b99), .val (.int (0 : Int32))] [(.int (1 : Int32))]))
            obtain ⟨fs, hr, hrun, hended, hW, hsame⟩ := X146.leave (v := some (.int (1 : Int32))) (fun h => by rw [Bd.returns] at h; cases h)
            have hEW := ReturnedEndW.of_narrow (o := .returned (some (.int (1 : Int32)))) ⟨_, rfl⟩ hW hsame
            refine ⟨_, _, retN X146 hx (t := .boolean) Bd.returns (by simp) (hb hby at_256) hr, hrun, hended, _, _, rfl, ?_, hEW.1, hEW.2.1, hEW.2.2.1, hEW.2.2.2.mono (by decide) (by decide)⟩
            show Q0 Z p0 p1 p2 p3 p4 fv cs h0 n0 _ T146.heap _
            exact ⟨rfl, N146⟩
        · refine oS (fun _ κ => XS.icmpYes X4.here hx rfl (pc0 := 113) (pc' := 146) rfl (hb hby at_113) rfl (feq hc98).2 (by decide) (by decide) κ) ?_
          show oG _ _ _ _ (T4.setTop (mkF m 146 #[.val (.int p0), .val (.int p1), .val (.int p2), .val (.int p3), .val (.int p4), .val (.int z), .val (.int x1), .val (.int x2), .val (.int x3), .val (.int x4), .unset, .unset] []))
          have hz4 := own_len4 hz hc5 hc27 hc58 hc98
          obtain ⟨T147, h147, X147, e147, E147, A147, D147, U147, st147⟩ := newO X4 hx hZ hown (own_w hw 5 rfl) (own_w hw 6 rfl) (own_w hw 7 rfl) eq4 (g := (mkF m 146 #[.val (.int p0), .val (.int p1), .val (.int p2), .val (.int p3), .val (.int p4), .val (.int z), .val (.int x1), .val (.int x2), .val (.int x3), .val (.int x4), .unset, .unset] [])) rfl (hb hby at_146) (by decide) (by decide)
          obtain ⟨b147, g147⟩ : ∃ z, z = h0.size := ⟨_, rfl⟩
          rw [← g147] at A147 D147 U147 st147
          refine oS st147 ?_
          have ge148 : n0 ≤ b147 := Nat.le_trans Z0 (Nat.le_of_eq g147.symm)
          have f149 := P0.ext E147
          have f150 := hCH.ext E147
          have z151 : n0 ≤ h147.size := Nat.le_trans Z0 E147.1
          have sf147 := Safe.ext E147 hCH (Safe.new (Nat.le_of_eq g147.symm))
          have F147_value : Fld Z h147 b147 "java/lang/String" "value" "[B" .null := D147 (Or.inr (own_w hw 21 rfl)) (ty := (.array .byte)) (by decide)
          have F147_coder : Fld Z h147 b147 "java/lang/String" "coder" "B" (.int (0 : Int32)) := D147 (Or.inr (own_w hw 22 rfl)) (ty := .byte) (by decide)
          show oG _ _ _ _ (T147.setTop (mkF m 149 #[.val (.int p0), .val (.int p1), .val (.int p2), .val (.int p3), .val (.int p4), .val (.int z), .val (.int x1), .val (.int x2), .val (.int x3), .val (.int x4), .unset, .unset] [(.ref b147)]))
          refine oS (fun _ κ => XS.dup X147.here hx rfl (hb hby at_149) rfl rfl κ) ?_
          refine oS (fun _ κ => XS.iconst X147.here hx rfl (hb hby at_150) κ) ?_
          show oG _ _ _ _ (T147.setTop (mkF m 151 #[.val (.int p0), .val (.int p1), .val (.int p2), .val (.int p3), .val (.int p4), .val (.int z), .val (.int x1), .val (.int x2), .val (.int x3), .val (.int x4), .unset, .unset] [(.int (4 : Int32)), (.ref b147), (.ref b147)]))
          obtain ⟨T152, h152, k152, X152, e152, E152, A152, st152⟩ := newP X147 hx hZ (own_w hw 8 rfl) e147 (g := (mkF m 151 #[.val (.int p0), .val (.int p1), .val (.int p2), .val (.int p3), .val (.int p4), .val (.int z), .val (.int x1), .val (.int x2), .val (.int x3), .val (.int x4), .unset, .unset] [(.int (4 : Int32)), (.ref b147), (.ref b147)])) rfl (hb hby at_151) rfl (by decide) (cap := 4) (by decide) (by decide) (by decide) (by decide)
          obtain ⟨b152, g152⟩ : ∃ z, z = h147.size := ⟨_, rfl⟩
          rw [← g152] at A152 st152
          refine oS st152 ?_
          have ne153 : b147 ≠ b152 := Nat.ne_of_lt (Nat.lt_of_lt_of_le A147.lt (Nat.le_of_eq g152.symm))
          have ge154 : n0 ≤ b152 := Nat.le_trans z151 (Nat.le_of_eq g152.symm)
          have f155 := f149.ext E152
          have f156 := f150.ext E152
          have f157 := A147.ext E152
          have f158 := Safe.ext E152 f150 sf147
          have f159 := F147_value.ext E152
          have f160 := F147_coder.ext E152
          have z161 : n0 ≤ h152.size := Nat.le_trans z151 E152.1
          have V152 : Arv Z h152 b152 k152 .char (4 : Int32) [(.int (0 : Int32)), (.int (0 : Int32)), (.int (0 : Int32)), (.int (0 : Int32))] (.int (0 : Int32)) := (Arv.new A152 (by decide)).pad (pad_rep [] (.int (0 : Int32)) 4)
          show oG _ _ _ _ (T152.setTop (mkF m 153 #[.val (.int p0), .val (.int p1), .val (.int p2), .val (.int p3), .val (.int p4), .val (.int z), .val (.int x1), .val (.int x2), .val (.int x3), .val (.int x4), .unset, .unset] [(.ref b152), (.ref b147), (.ref b147)]))
          refine oS (fun _ κ => XS.dup X152.here hx rfl (hb hby at_153) rfl rfl κ) ?_
          refine oS (fun _ κ => XS.iconst X152.here hx rfl (hb hby at_154) κ) ?_
          refine oS (fun _ κ => XS.iload X152.here hx rfl (hb hby at_155) rfl κ) ?_
          obtain ⟨cl162, Ar162, q162, Sz162, Nz162, Hs162, Gs162⟩ := id (V152)
          have hin162 := inb_of (j := (0 : Int32)) Sz162 ⟨by decide, by decide⟩
          obtain ⟨T162, h162, X162, e162, W162, st162⟩ := stC X152 hx hZ e152 Ar162 (j := (0 : Int32)) hin162 (g := (mkF m 157 #[.val (.int p0), .val (.int p1), .val (.int p2), .val (.int p3), .val (.int p4), .val (.int z), .val (.int x1), .val (.int x2), .val (.int x3), .val (.int x4), .unset, .unset] [(.int x1), (.int (0 : Int32)), (.ref b152), (.ref b152), (.ref b147), (.ref b147)])) rfl rfl (hb hby at_157)
          refine oS st162 ?_
          have N162 := Fr.snoc X162 N4 ge154
          have V162 : Arv Z h162 b152 k152 .char (4 : Int32) [(.int (nar .char x1)), (.int (0 : Int32)), (.int (0 : Int32)), (.int (0 : Int32))] (.int (0 : Int32)) := Arv.set Ar162 q162 Sz162 Nz162 Hs162 Gs162 (fits_nar_char _) W162 0 rfl (Nat.le_of_ble_eq_true rfl)
          have Vn162 : Arv Z h162 b152 k152 .char (4 : Int32) [(.int x1), (.int (0 : Int32)), (.int (0 : Int32)), (.int (0 : Int32))] (.int (0 : Int32)) := by have q := V162; rw [own_narI r1] at q; exact q
          have f163 := f155.wr W162 ge154
          have f164 := f157.wr W162
          have f165 := f159.other W162 (Or.inl ne153)
          have f166 := f160.other W162 (Or.inl ne153)
          have z167 : n0 ≤ h162.size := Nat.le_trans z161 (Keep.of_wr W162).1
          show oG _ _ _ _ (T162.setTop (mkF m 158 #[.val (.int p0), .val (.int p1), .val (.int p2), .val (.int p3), .val (.int p4), .val (.int z), .val (.int x1), .val (.int x2), .val (.int x3), .val (.int x4), .unset, .unset] [(.ref b152), (.ref b147), (.ref b147)]))
          refine oS (fun _ κ => XS.dup X162.here hx rfl (hb hby at_158) rfl rfl κ) ?_
          refine oS (fun _ κ => XS.iconst X162.here hx rfl (hb hby at_159) κ) ?_
          refine oS (fun _ κ => XS.iload X162.here hx rfl (hb hby at_160) rfl κ) ?_
          obtain ⟨cl168, Ar168, q168, Sz168, Nz168, Hs168, Gs168⟩ := id (Vn162)
          have hin168 := inb_of (j := (1 : Int32)) Sz168 ⟨by decide, by decide⟩
          obtain ⟨T168, h168, X168, e168, W168, st168⟩ := stC X162 hx hZ e162 Ar168 (j := (1 : Int32)) hin168 (g := (mkF m 162 #[.val (.int p0), .val (.int p1), .val (.int p2), .val (.int p3), .val (.int p4), .val (.int z), .val (.int x1), .val (.int x2), .val (.int x3), .val (.int x4), .unset, .unset] [(.int x2), (.int (1 : Int32)), (.ref b152), (.ref b152), (.ref b147), (.ref b147)])) rfl rfl (hb hby at_162)
          refine oS st168 ?_
          have N168 := Fr.snoc X168 N162 ge154
          have V168 : Arv Z h168 b152 k152 .char (4 : Int32) [(.int x1), (.int (nar .char x2)), (.int (0 : Int32)), (.int (0 : Int32))] (.int (0 : Int32)) := Arv.set Ar168 q168 Sz168 Nz168 Hs168 Gs168 (fits_nar_char _) W168 1 rfl (Nat.le_of_ble_eq_true rfl)
          have Vn168 : Arv Z h168 b152 k152 .char (4 : Int32) [(.int x1), (.int x2), (.int (0 : Int32)), (.int (0 : Int32))] (.int (0 : Int32)) := by have q := V168; rw [own_narI r2] at q; exact q
          have f169 := f163.wr W168 ge154
          have f170 := f164.wr W168
          have f171 := f165.other W168 (Or.inl ne153)
          have f172 := f166.other W168 (Or.inl ne153)
          have z173 : n0 ≤ h168.size := Nat.le_trans z167 (Keep.of_wr W168).1
          show oG _ _ _ _ (T168.setTop (mkF m 163 #[.val (.int p0), .val (.int p1), .val (.int p2), .val (.int p3), .val (.int p4), .val (.int z), .val (.int x1), .val (.int x2), .val (.int x3), .val (.int x4), .unset, .unset] [(.ref b152), (.ref b147), (.ref b147)]))
          refine oS (fun _ κ => XS.dup X168.here hx rfl (hb hby at_163) rfl rfl κ) ?_
          refine oS (fun _ κ => XS.iconst X168.here hx rfl (hb hby at_164) κ) ?_
          refine oS (fun _ κ => XS.iload X168.here hx rfl (hb hby at_165) rfl κ) ?_
          obtain ⟨cl174, Ar174, q174, Sz174, Nz174, Hs174, Gs174⟩ := id (Vn168)
          have hin174 := inb_of (j := (2 : Int32)) Sz174 ⟨by decide, by decide⟩
          obtain ⟨T174, h174, X174, e174, W174, st174⟩ := stC X168 hx hZ e168 Ar174 (j := (2 : Int32)) hin174 (g := (mkF m 167 #[.val (.int p0), .val (.int p1), .val (.int p2), .val (.int p3), .val (.int p4), .val (.int z), .val (.int x1), .val (.int x2), .val (.int x3), .val (.int x4), .unset, .unset] [(.int x3), (.int (2 : Int32)), (.ref b152), (.ref b152), (.ref b147), (.ref b147)])) rfl rfl (hb hby at_167)
          refine oS st174 ?_
          have N174 := Fr.snoc X174 N168 ge154
          have V174 : Arv Z h174 b152 k152 .char (4 : Int32) [(.int x1), (.int x2), (.int (nar .char x3)), (.int (0 : Int32))] (.int (0 : Int32)) := Arv.set Ar174 q174 Sz174 Nz174 Hs174 Gs174 (fits_nar_char _) W174 2 rfl (Nat.le_of_ble_eq_true rfl)
          have Vn174 : Arv Z h174 b152 k152 .char (4 : Int32) [(.int x1), (.int x2), (.int x3), (.int (0 : Int32))] (.int (0 : Int32)) := by have q := V174; rw [own_narI r3] at q; exact q
          have f175 := f169.wr W174 ge154
          have f176 := f170.wr W174
          have f177 := f171.other W174 (Or.inl ne153)
          have f178 := f172.other W174 (Or.inl ne153)
          have z179 : n0 ≤ h174.size := Nat.le_trans z173 (Keep.of_wr W174).1
          show oG _ _ _ _ (T174.setTop (mkF m 168 #[.val (.int p0), .val (.int p1), .val (.int p2), .val (.int p3), .val (.int p4), .val (.int z), .val (.int x1), .val (.int x2), .val (.int x3), .val (.int x4), .unset, .unset] [(.ref b152), (.ref b147), (.ref b147)]))
          refine oS (fun _ κ => XS.dup X174.here hx rfl (hb hby at_168) rfl rfl κ) ?_
          refine oS (fun _ κ => XS.iconst X174.here hx rfl (hb hby at_169) κ) ?_
          refine oS (fun _ κ => XS.iload X174.here hx rfl (hb hby at_170) rfl κ) ?_
          obtain ⟨cl180, Ar180, q180, Sz180, Nz180, Hs180, Gs180⟩ := id (Vn174)
          have hin180 := inb_of (j := (3 : Int32)) Sz180 ⟨by decide, by decide⟩
          obtain ⟨T180, h180, X180, e180, W180, st180⟩ := stC X174 hx hZ e174 Ar180 (j := (3 : Int32)) hin180 (g := (mkF m 172 #[.val (.int p0), .val (.int p1), .val (.int p2), .val (.int p3), .val (.int p4), .val (.int z), .val (.int x1), .val (.int x2), .val (.int x3), .val (.int x4), .unset, .unset] [(.int x4), (.int (3 : Int32)), (.ref b152), (.ref b152), (.ref b147), (.ref b147)])) rfl rfl (hb hby at_172)
          refine oS st180 ?_
          have N180 := Fr.snoc X180 N174 ge154
          have V180 : Arv Z h180 b152 k152 .char (4 : Int32) [(.int x1), (.int x2), (.int x3), (.int (nar .char x4))] (.int (0 : Int32)) := Arv.set Ar180 q180 Sz180 Nz180 Hs180 Gs180 (fits_nar_char _) W180 3 rfl (Nat.le_of_ble_eq_true rfl)
          have Vn180 : Arv Z h180 b152 k152 .char (4 : Int32) [(.int x1), (.int x2), (.int x3), (.int x4)] (.int (0 : Int32)) := by have q := V180; rw [own_narI r4] at q; exact q
          have f181 := f175.wr W180 ge154
          have f182 := f176.wr W180
          have f183 := f177.other W180 (Or.inl ne153)
          have f184 := f178.other W180 (Or.inl ne153)
          have z185 : n0 ≤ h180.size := Nat.le_trans z179 (Keep.of_wr W180).1
          show oG _ _ _ _ (T180.setTop (mkF m 173 #[.val (.int p0), .val (.int p1), .val (.int p2), .val (.int p3), .val (.int p4), .val (.int z), .val (.int x1), .val (.int x2), .val (.int x3), .val (.int x4), .unset, .unset] [(.ref b152), (.ref b147), (.ref b147)]))
          obtain ⟨vr186, _, ⟨T186, L186, k186, n186⟩, -, X186, ⟨Lc186, hQ186, l186, y186, z186⟩, st186⟩ := X180.specialBack hx (y := own_y3) rfl hown (mvT hZ (own_w hw 9 rfl)) (mvT hZ (own_w hw 10 rfl)) (mvT hZ (own_w hw 11 rfl)) (by decide) (backOf (W := 1) (rm52 l Z a0 hw [] b147 b152 k152 x1 x2 x3 x4 cs h180 n0 z185 f182 f183 f184 ge148 Vn180 f181 P3 P4 P5 P6 P7 r1 r2 r3 r4 (Ne.symm ne153)) hZ (own_w hw 11 rfl) (own_w hw 7 rfl) (by decide) (by decide)) (g := (mkF m 173 #[.val (.int p0), .val (.int p1), .val (.int p2), .val (.int p3), .val (.int p4), .val (.int z), .val (.int x1), .val (.int x2), .val (.int x3), .val (.int x4), .unset, .unset] [(.ref b152), (.ref b147), (.ref b147)])) rfl (by rw [hml]; rfl) (Steps.refl _) (a := b147) (argsL := [(.ref b152)]) (rest := [(.ref b147)]) (lenOf pd_16 rfl) rfl own_2z (hb hby at_173) (fun _ _ => ⟨rfl, e180, (by decide : 2 + 2 ≤ _), (by decide : 8 + 12 ≤ _)⟩)
          dsimp only [Pt.U, Pt.locs, Pt.cells, Pt.slots] at X186 l186 y186 z186 st186 hQ186
          subst l186 y186 z186
          obtain ⟨rfl, Nq186, Kq186, p186_0⟩ := hQ186
          have N186 := Fr.app N180 Nq186
          have f187 := f181.keep Kq186 (allS ge148 all0)
          have f188 := f182.keep Kq186
          have f189 := Vn180.keep Kq186 (ninS (Ne.symm ne153) nin0)
          have z190 : n0 ≤ T186.heap.size := Nat.le_trans z185 Kq186.1
          refine oS (fun _ κ => st186.trans κ) ?_
          show oG _ _ _ _ (T186.setTop (mkF m 176 #[.val (.int p0), .val (.int p1), .val (.int p2), .val (.int p3), .val (.int p4), .val (.int z), .val (.int x1), .val (.int x2), .val (.int x3), .val (.int x4), .unset, .unset] [(.ref b147)]))
          refine oS (fun _ κ => XS.astore X186.here hx rfl (hb hby at_176) rfl rfl (l' := #[.val (.int p0), .val (.int p1), .val (.int p2), .val (.int p3), .val (.int p4), .val (.int z), .val (.int x1), .val (.int x2), .val (.int x3), .val (.int x4), .val (.ref b147), .unset]) rfl κ) ?_
          refine oS (fun _ κ => XS.iload X186.here hx rfl (hb hby at_178) rfl κ) ?_
          refine oS (fun _ κ => XS.iconst X186.here hx rfl (hb hby at_180) κ) ?_
          refine oS (fun _ κ => XS.icmpNo X186.here hx rfl (hb hby at_181) rfl (flt (by rw [hz4]; decide)).1 κ) ?_
          show oG _ _ _ _ (T186.setTop (mkF m 184 #[.val (.int p0), .val (.int p1), .val (.int p2), .val (.int p3), .val (.int p4), .val (.int z), .val (.int x1), .val (.int x2), .val (.int x3), .val (.int x4), .val (.ref b147), .unset] []))
          refine oS (fun _ κ => XS.iload X186.here hx rfl (hb hby at_184) rfl κ) ?_
          obtain ⟨vr191, _, ⟨T191, L191, k191, n191⟩, -, X191, ⟨Lc191, hQ191, l191, y191, z191⟩, st191⟩ := Jvm.LawKit.callS X186 hx (y := own_y1) hown (mvT hZ (own_w hw 52 rfl)) (mvT hZ (own_w hw 53 rfl)) (mvT hZ (own_w hw 3 rfl)) (mvT hZ (own_w hw 54 rfl)) (by decide) (backOf (W := 0) (rm2 l Z a0 hw [] x1  T186.heap n0 z190 ) hZ (own_w hw 54 rfl) (own_w hw 3 rfl) (by decide) (by decide)) (g := (mkF m 186 #[.val (.int p0), .val (.int p1), .val (.int p2), .val (.int p3), .val (.int p4), .val (.int z), .val (.int x1), .val (.int x2), .val (.int x3), .val (.int x4), .val (.ref b147), .unset] [(.int x1)])) rfl (by rw [hml]; rfl) (argsL := [(.int x1)]) (rest := []) (lenOf pd_18 rfl) rfl own_2z (hb hby at_186) (fun _ _ => ⟨rfl, rfl, (by decide : 4 + 0 ≤ _), (by decide : 20 + 0 ≤ _)⟩)
          dsimp only [Pt.U, Pt.locs, Pt.cells, Pt.slots] at X191 l191 y191 z191 st191 hQ191
          subst l191 y191 z191
          obtain ⟨rfl, Nq191, eq191⟩ := hQ191
          have N191 := Fr.app N186 Nq191
          refine oS st191 ?_
          show oG _ _ _ _ (T191.setTop (mkF m 189 #[.val (.int p0), .val (.int p1), .val (.int p2), .val (.int p3), .val (.int p4), .val (.int z), .val (.int x1), .val (.int x2), .val (.int x3), .val (.int x4), .val (.ref b147), .unset] [(.int (own_brk x1))]))
          by_cases hc192 : (own_brk x1) = (0 : Int32)
          · refine oS (fun _ κ => XS.ifNo X191.here hx rfl (hb hby at_189) rfl ((if0 _ _).trans (teq hc192).2) κ) ?_
            show oG _ _ _ _ (T191.setTop (mkF m 192 #[.val (.int p0), .val (.int p1), .val (.int p2), .val (.int p3), .val (.int p4), .val (.int z), .val (.int x1), .val (.int x2), .val (.int x3), .val (.int x4), .val (.ref b147), .unset] []))
            refine oS (fun _ κ => XS.iload X191.here hx rfl (hb hby at_192) rfl κ) ?_
            refine oS (fun _ κ => XS.iconst X191.here hx rfl (hb hby at_194) κ) ?_
            refine oS (fun _ κ => XS.icmpNo X191.here hx rfl (hb hby at_195) rfl (flt (by rw [hz4]; decide)).1 κ) ?_
            show oG _ _ _ _ (T191.setTop (mkF m 198 #[.val (.int p0), .val (.int p1), .val (.int p2), .val (.int p3), .val (.int p4), .val (.int z), .val (.int x1), .val (.int x2), .val (.int x3), .val (.int x4), .val (.ref b147), .unset] []))
            refine oS (fun _ κ => XS.iload X191.here hx rfl (hb hby at_198) rfl κ) ?_
            obtain ⟨vr193, _, ⟨T193, L193, k193, n193⟩, -, X193, ⟨Lc193, hQ193, l193, y193, z193⟩, st193⟩ := Jvm.LawKit.callS X191 hx (y := own_y1) hown (mvT hZ (own_w hw 52 rfl)) (mvT hZ (own_w hw 53 rfl)) (mvT hZ (own_w hw 3 rfl)) (mvT hZ (own_w hw 54 rfl)) (by decide) (backOf (W := 0) (rm2 l Z a0 hw [] x2  T186.heap n0 z190 ) hZ (own_w hw 54 rfl) (own_w hw 3 rfl) (by decide) (by decide)) (g := (mkF m 200 #[.val (.int p0), .val (.int p1), .val (.int p2), .val (.int p3), .val (.int p4), .val (.int z), .val (.int x1), .val (.int x2), .val (.int x3), .val (.int x4), .val (.ref b147), .unset] [(.int x2)])) rfl (by rw [hml]; rfl) (argsL := [(.int x2)]) (rest := []) (lenOf pd_18 rfl) rfl own_2z (hb hby at_200) (fun _ _ => ⟨rfl, eq191, (by decide : 4 + 0 ≤ _), (by decide : 20 + 0 ≤ _)⟩)
            dsimp only [Pt.U, Pt.locs, Pt.cells, Pt.slots] at X193 l193 y193 z193 st193 hQ193
            subst l193 y193 z193
            obtain ⟨rfl, Nq193, eq193⟩ := hQ193
            have N193 := Fr.app N191 Nq193
            refine oS st193 ?_
            show oG _ _ _ _ (T193.setTop (mkF m 203 #[.val (.int p0), .val (.int p1), .val (.int p2), .val (.int p3), .val (.int p4), .val (.int z), .val (.int x1), .val (.int x2), .val (.int x3), .val (.int x4), .val (.ref b147), .unset] [(.int (own_brk x2))]))
            by_cases hc194 : (own_brk x2) = (0 : Int32)
            · refine oS (fun _ κ => XS.ifNo X193.here hx rfl (hb hby at_203) rfl ((if0 _ _).trans (teq hc194).2) κ) ?_
              show oG _ _ _ _ (T193.setTop (mkF m 206 #[.val (.int p0), .val (.int p1), .val (.int p2), .val (.int p3), .val (.int p4), .val (.int z), .val (.int x1), .val (.int x2), .val (.int x3), .val (.int x4), .val (.ref b147), .unset] []))
              refine oS (fun _ κ => XS.iload X193.here hx rfl (hb hby at_206) rfl κ) ?_
              refine oS (fun _ κ => XS.iconst X193.here hx rfl (hb hby at_208) κ) ?_
              refine oS (fun _ κ => XS.icmpNo X193.here hx rfl (hb hby at_209) rfl (flt (by rw [hz4]; decide)).1 κ) ?_
              show oG _ _ _ _ (T193.setTop (mkF m 212 #[.val (.int p0), .val (.int p1), .val (.int p2), .val (.int p3), .val (.int p4), .val (.int z), .val (.int x1), .val (.int x2), .val (.int x3), .val (.int x4), .val (.ref b147), .unset] []))
              refine oS (fun _ κ => XS.iload X193.here hx rfl (hb hby at_212) rfl κ) ?_
              obtain ⟨vr195, _, ⟨T195, L195, k195, n195⟩, -, X195, ⟨Lc195, hQ195, l195, y195, z195⟩, st195⟩ := Jvm.LawKit.callS X193 hx (y := own_y1) hown (mvT hZ (own_w hw 52 rfl)) (mvT hZ (own_w hw 53 rfl)) (mvT hZ (own_w hw 3 rfl)) (mvT hZ (own_w hw 54 rfl)) (by decide) (backOf (W := 0) (rm2 l Z a0 hw [] x3  T186.heap n0 z190 ) hZ (own_w hw 54 rfl) (own_w hw 3 rfl) (by decide) (by decide)) (g := (mkF m 214 #[.val (.int p0), .val (.int p1), .val (.int p2), .val (.int p3), .val (.int p4), .val (.int z), .val (.int x1), .val (.int x2), .val (.int x3), .val (.int x4), .val (.ref b147), .unset] [(.int x3)])) rfl (by rw [hml]; rfl) (argsL := [(.int x3)]) (rest := []) (lenOf pd_18 rfl) rfl own_2z (hb hby at_214) (fun _ _ => ⟨rfl, eq193, (by decide : 4 + 0 ≤ _), (by decide : 20 + 0 ≤ _)⟩)
              dsimp only [Pt.U, Pt.locs, Pt.cells, Pt.slots] at X195 l195 y195 z195 st195 hQ195
              subst l195 y195 z195
              obtain ⟨rfl, Nq195, eq195⟩ := hQ195
              have N195 := Fr.app N193 Nq195
              refine oS st195 ?_
              show oG _ _ _ _ (T195.setTop (mkF m 217 #[.val (.int p0), .val (.int p1), .val (.int p2), .val (.int p3), .val (.int p4), .val (.int z), .val (.int x1), .val (.int x2), .val (.int x3), .val (.int x4), .val (.ref b147), .unset] [(.int (own_brk x3))]))
              by_cases hc196 : (own_brk x3) = (0 : Int32)
              · refine oS (fun _ κ => XS.ifNo X195.here hx rfl (hb hby at_217) rfl ((if0 _ _).trans (teq hc196).2) κ) ?_
                show oG _ _ _ _ (T195.setTop (mkF m 220 #[.val (.int p0), .val (.int p1), .val (.int p2), .val (.int p3), .val (.int p4), .val (.int z), .val (.int x1), .val (.int x2), .val (.int x3), .val (.int x4), .val (.ref b147), .unset] []))
                refine oS (fun _ κ => XS.iload X195.here hx rfl (hb hby at_220) rfl κ) ?_
                refine oS (fun _ κ => XS.iconst X195.here hx rfl (hb hby at_222) κ) ?_
                refine oS (fun _ κ => XS.icmpNo X195.here hx rfl (hb hby at_223) rfl (flt (by rw [hz4]; decide)).1 κ) ?_
                show oG _ _ _ _ (T195.setTop (mkF m 226 #[.val (.int p0), .val (.int p1), .val (.int p2), .val (.int p3), .val (.int p4), .val (.int z), .val (.int x1), .val (.int x2), .val (.int x3), .val (.int x4), .val (.ref b147), .unset] []))
                refine oS (fun _ κ => XS.iload X195.here hx rfl (hb hby at_226) rfl κ) ?_
                obtain ⟨vr197, _, ⟨T197, L197, k197, n197⟩, -, X197, ⟨Lc197, hQ197, l197, y197, z197⟩, st197⟩ := Jvm.LawKit.callS X195 hx (y := own_y1) hown (mvT hZ (own_w hw 52 rfl)) (mvT hZ (own_w hw 53 rfl)) (mvT hZ (own_w hw 3 rfl)) (mvT hZ (own_w hw 54 rfl)) (by decide) (backOf (W := 0) (rm2 l Z a0 hw [] x4  T186.heap n0 z190 ) hZ (own_w hw 54 rfl) (own_w hw 3 rfl) (by decide) (by decide)) (g := (mkF m 228 #[.val (.int p0), .val (.int p1), .val (.int p2), .val (.int p3), .val (.int p4), .val (.int z), .val (.int x1), .val (.int x2), .val (.int x3), .val (.int x4), .val (.ref b147), .unset] [(.int x4)])) rfl (by rw [hml]; rfl) (argsL := [(.int x4)]) (rest := []) (lenOf pd_18 rfl) rfl own_2z (hb hby at_228) (fun _ _ => ⟨rfl, eq195, (by decide : 4 + 0 ≤ _), (by decide : 20 + 0 ≤ _)⟩)
                dsimp only [Pt.U, Pt.locs, Pt.cells, Pt.slots] at X197 l197 y197 z197 st197 hQ197
                subst l197 y197 z197
                obtain ⟨rfl, Nq197, eq197⟩ := hQ197
                have N197 := Fr.app N195 Nq197
                refine oS st197 ?_
                show oG _ _ _ _ (T197.setTop (mkF m 231 #[.val (.int p0), .val (.int p1), .val (.int p2), .val (.int p3), .val (.int p4), .val (.int z), .val (.int x1), .val (.int x2), .val (.int x3), .val (.int x4), .val (.ref b147), .unset] [(.int (own_brk x4))]))
                by_cases hc198 : (own_brk x4) = (0 : Int32)
                · refine oS (fun _ κ => XS.ifNo X197.here hx rfl (hb hby at_231) rfl ((if0 _ _).trans (teq hc198).2) κ) ?_
                  show oG _ _ _ _ (T197.setTop (mkF m 234 #[.val (.int p0), .val (.int p1), .val (.int p2), .val (.int p3), .val (.int p4), .val (.int z), .val (.int x1), .val (.int x2), .val (.int x3), .val (.int x4), .val (.ref b147), .unset] []))
                  refine oS (fun _ κ => XS.iconst X197.here hx rfl (hb hby at_234) κ) ?_
                  refine oS (fun _ κ => XS.goto X197.here hx rfl (pc0 := 235) (pc' := 239) rfl (hb hby at_235) (by decide) (by decide) κ) ?_
                  show oG _ _ _ _ (T197.setTop (mkF m 239 #[.val (.int p0), .val (.int p1), .val (.int p2), .val (.int p3), .val (.int p4), .val (.int z), .val (.int x1), .val (.int x2), .val (.int x3), .val (.int x4), .val (.ref b147), .unset] [(.int (1 : Int32))]))
                  refine oS (fun _ κ => XS.istore X197.here hx rfl (hb hby at_239) rfl (l' := #[.val (.int p0), .val (.int p1), .val (.int p2), .val (.int p3), .val (.int p4), .val (.int z), .val (.int x1), .val (.int x2), .val (.int x3), .val (.int x4), .val (.ref b147), .val (.int (1 : Int32))]) rfl κ) ?_
                  refine oS (fun _ κ => XS.aload X197.here hx rfl (hb hby at_241) rfl rfl κ) ?_
                  obtain ⟨vr199, _, ⟨T199, L199, k199, n199⟩, -, X199, ⟨Lc199, hQ199, l199, y199, z199⟩, st199⟩ := Jvm.LawKit.callS X197 hx (y := own_y0) hown (mvT hZ (own_w hw 27 rfl)) (mvT hZ (own_w hw 28 rfl)) (mvT hZ (own_w hw 29 rfl)) (mvT hZ (own_w hw 30 rfl)) (by decide) (backOf (W := 0) (rm57 l Z a0 hw [] b147 (own_gl [x1, x2, x3, x4]) x1 x2 x3 x4 cs fv T186.heap n0 z190 p186_0 f188 f187 P3 P4 P1 P2 P5 P6 P7 rfl rfl rfl rfl) hZ (own_w hw 30 rfl) (own_w hw 29 rfl) (by decide) (by decide)) (g := (mkF m 243 #[.val (.int p0), .val (.int p1), .val (.int p2), .val (.int p3), .val (.int p4), .val (.int z), .val (.int x1), .val (.int x2), .val (.int x3), .val (.int x4), .val (.ref b147), .val (.int (1 : Int32))] [(.ref b147)])) rfl (by rw [hml]; rfl) (argsL := [(.ref b147)]) (rest := []) (lenOf pd_17 rfl) rfl own_2z (hb hby at_243) (fun _ _ => ⟨rfl, eq197, (by decide : 4 + 0 ≤ _), (by decide : 20 + 0 ≤ _)⟩)
                  dsimp only [Pt.U, Pt.locs, Pt.cells, Pt.slots] at X199 l199 y199 z199 st199 hQ199
                  subst l199 y199 z199
                  obtain ⟨hv199, Nq199, eq199⟩ := hQ199
                  have N199 := Fr.app N197 Nq199
                  rw [if_pos hc192] at hv199
                  rw [if_pos hc194] at hv199
                  rw [if_pos hc196] at hv199
                  rw [if_pos hc198] at hv199
                  subst hv199
                  refine oS st199 ?_
                  show oG _ _ _ _ (T199.setTop (mkF m 246 #[.val (.int p0), .val (.int p1), .val (.int p2), .val (.int p3), .val (.int p4), .val (.int z), .val (.int x1), .val (.int x2), .val (.int x3), .val (.int x4), .val (.ref b147), .val (.int (1 : Int32))] [(.int (1 : Int32))]))
                  refine oS (fun _ κ => XS.iload X199.here hx rfl (hb hby at_246) rfl κ) ?_
                  refine oS (fun _ κ => XS.icmpNo X199.here hx rfl (hb hby at_248) rfl (teq rfl).2 κ) ?_
                  show oG _ _ _ _ (T199.setTop (mkF m 251 #[.val (.int p0), .val (.int p1), .val (.int p2), .val (.int p3), .val (.int p4), .val (.int z), .val (.int x1), .val (.int x2), .val (.int x3), .val (.int x4), .val (.ref b147), .val (.int (1 : Int32))] []))
                  refine oS (fun _ κ => XS.iconst X199.here hx rfl (hb hby at_251) κ) ?_
                  refine oS (fun _ κ => XS.goto X199.here hx rfl (pc0 := 252) (pc' := 256) rfl (hb hby at_252) (by decide) (by decide) κ) ?_
                  show oG _ _ _ _ (T199.setTop (mkF m 256 #[.val (.int p0), .val (.int p1), .val (.int p2), .val (.int p3), .val (.int p4), .val (.int z), .val (.int x1), .val (.int x2), .val (.int x3), .val (.int x4), .val (.ref b147), .val (.int (1 : Int32))] [(.int (1 : Int32))]))
                  obtain ⟨fs, hr, hrun, hended, hW, hsame⟩ := X199.leave (v := some (.int (1 : Int32))) (fun h => by rw [Bd.returns] at h; cases h)
                  have hEW := ReturnedEndW.of_narrow (o := .returned (some (.int (1 : Int32)))) ⟨_, rfl⟩ hW hsame
                  refine ⟨_, _, retN X199 hx (t := .boolean) Bd.returns (by simp) (hb hby at_256) hr, hrun, hended, _, _, rfl, ?_, hEW.1, hEW.2.1, hEW.2.2.1, hEW.2.2.2.mono (by decide) (by decide)⟩
                  show Q0 Z p0 p1 p2 p3 p4 fv cs h0 n0 _ T199.heap _
                  exact ⟨rfl, N199⟩
                · refine oS (fun _ κ => XS.ifYes X197.here hx rfl (pc0 := 231) (pc' := 238) rfl (hb hby at_231) rfl ((if0 _ _).trans (feq hc198).2) (by decide) (by decide) κ) ?_
                  show oG _ _ _ _ (T197.setTop (mkF m 238 #[.val (.int p0), .val (.int p1), .val (.int p2), .val (.int p3), .val (.int p4), .val (.int z), .val (.int x1), .val (.int x2), .val (.int x3), .val (.int x4), .val (.ref b147), .unset] []))
                  refine oS (fun _ κ => XS.iconst X197.here hx rfl (hb hby at_238) κ) ?_
                  refine oS (fun _ κ => XS.istore X197.here hx rfl (hb hby at_239) rfl (l' := #[.val (.int p0), .val (.int p1), .val (.int p2), .val (.int p3), .val (.int p4), .val (.int z), .val (.int x1), .val (.int x2), .val (.int x3), .val (.int x4), .val (.ref b147), .val (.int (0 : Int32))]) rfl κ) ?_
                  refine oS (fun _ κ => XS.aload X197.here hx rfl (hb hby at_241) rfl rfl κ) ?_
                  obtain ⟨vr200, _, ⟨T200, L200, k200, n200⟩, -, X200, ⟨Lc200, hQ200, l200, y200, z200⟩, st200⟩ := Jvm.LawKit.callS X197 hx (y := own_y0) hown (mvT hZ (own_w hw 27 rfl)) (mvT hZ (own_w hw 28 rfl)) (mvT hZ (own_w hw 29 rfl)) (mvT hZ (own_w hw 30 rfl)) (by decide) (backOf (W := 0) (rm57 l Z a0 hw [] b147 (own_gl [x1, x2, x3, x4]) x1 x2 x3 x4 cs fv T186.heap n0 z190 p186_0 f188 f187 P3 P4 P1 P2 P5 P6 P7 rfl rfl rfl rfl) hZ (own_w hw 30 rfl) (own_w hw 29 rfl) (by decide) (by decide)) (g := (mkF m 243 #[.val (.int p0), .val (.int p1), .val (.int p2), .val (.int p3), .val (.int p4), .val (.int z), .val (.int x1), .val (.int x2), .val (.int x3), .val (.int x4), .val (.ref b147), .val (.int (0 : Int32))] [(.ref b147)])) rfl (by rw [hml]; rfl) (argsL := [(.ref b147)]) (rest := []) (lenOf pd_17 rfl) rfl own_2z (hb hby at_243) (fun _ _ => ⟨rfl, eq197, (by decide : 4 + 0 ≤ _), (by decide : 20 + 0 ≤ _)⟩)
                  dsimp only [Pt.U, Pt.locs, Pt.cells, Pt.slots] at X200 l200 y200 z200 st200 hQ200
                  subst l200 y200 z200
                  obtain ⟨hv200, Nq200, eq200⟩ := hQ200
                  have N200 := Fr.app N197 Nq200
                  rw [if_pos hc192] at hv200
                  rw [if_pos hc194] at hv200
                  rw [if_pos hc196] at hv200
                  rw [if_neg hc198] at hv200
                  subst hv200
                  refine oS st200 ?_
                  show oG _ _ _ _ (T200.setTop (mkF m 246 #[.val (.int p0), .val (.int p1), .val (.int p2), .val (.int p3), .val (.int p4), .val (.int z), .val (.int x1), .val (.int x2), .val (.int x3), .val (.int x4), .val (.ref b147), .val (.int (0 : Int32))] [(.int (0 : Int32))]))
                  refine oS (fun _ κ => XS.iload X200.here hx rfl (hb hby at_246) rfl κ) ?_
                  refine oS (fun _ κ => XS.icmpNo X200.here hx rfl (hb hby at_248) rfl (teq rfl).2 κ) ?_
                  show oG _ _ _ _ (T200.setTop (mkF m 251 #[.val (.int p0), .val (.int p1), .val (.int p2), .val (.int p3), .val (.int p4), .val (.int z), .val (.int x1), .val (.int x2), .val (.int x3), .val (.int x4), .val (.ref b147), .val (.int (0 : Int32))] []))
                  refine oS (fun _ κ => XS.iconst X200.here hx rfl (hb hby at_251) κ) ?_
                  refine oS (fun _ κ => XS.goto X200.here hx rfl (pc0 := 252) (pc' := 256) rfl (hb hby at_252) (by decide) (by decide) κ) ?_
                  show oG _ _ _ _ (T200.setTop (mkF m 256 #[.val (.int p0), .val (.int p1), .val (.int p2), .val (.int p3), .val (.int p4), .val (.int z), .val (.int x1), .val (.int x2), .val (.int x3), .val (.int x4), .val (.ref b147), .val (.int (0 : Int32))] [(.int (1 : Int32))]))
                  obtain ⟨fs, hr, hrun, hended, hW, hsame⟩ := X200.leave (v := some (.int (1 : Int32))) (fun h => by rw [Bd.returns] at h; cases h)
                  have hEW := ReturnedEndW.of_narrow (o := .returned (some (.int (1 : Int32)))) ⟨_, rfl⟩ hW hsame
                  refine ⟨_, _, retN X200 hx (t := .boolean) Bd.returns (by simp) (hb hby at_256) hr, hrun, hended, _, _, rfl, ?_, hEW.1, hEW.2.1, hEW.2.2.1, hEW.2.2.2.mono (by decide) (by decide)⟩
                  show Q0 Z p0 p1 p2 p3 p4 fv cs h0 n0 _ T200.heap _
                  exact ⟨rfl, N200⟩
              · refine oS (fun _ κ => XS.ifYes X195.here hx rfl (pc0 := 217) (pc' := 238) rfl (hb hby at_217) rfl ((if0 _ _).trans (feq hc196).2) (by decide) (by decide) κ) ?_
                show oG _ _ _ _ (T195.setTop (mkF m 238 #[.val (.int p0), .val (.int p1), .val (.int p2), .val (.int p3), .val (.int p4), .val (.int z), .val (.int x1), .val (.int x2), .val (.int x3), .val (.int x4), .val (.ref b147), .unset] []))
                refine oS (fun _ κ => XS.iconst X195.here hx rfl (hb hby at_238) κ) ?_
                refine oS (fun _ κ => XS.istore X195.here hx rfl (hb hby at_239) rfl (l' := #[.val (.int p0), .val (.int p1), .val (.int p2), .val (.int p3), .val (.int p4), .val (.int z), .val (.int x1), .val (.int x2), .val (.int x3), .val (.int x4), .val (.ref b147), .val (.int (0 : Int32))]) rfl κ) ?_
                refine oS (fun _ κ => XS.aload X195.here hx rfl (hb hby at_241) rfl rfl κ) ?_
                obtain ⟨vr201, _, ⟨T201, L201, k201, n201⟩, -, X201, ⟨Lc201, hQ201, l201, y201, z201⟩, st201⟩ := Jvm.LawKit.callS X195 hx (y := own_y0) hown (mvT hZ (own_w hw 27 rfl)) (mvT hZ (own_w hw 28 rfl)) (mvT hZ (own_w hw 29 rfl)) (mvT hZ (own_w hw 30 rfl)) (by decide) (backOf (W := 0) (rm57 l Z a0 hw [] b147 (own_gl [x1, x2, x3, x4]) x1 x2 x3 x4 cs fv T186.heap n0 z190 p186_0 f188 f187 P3 P4 P1 P2 P5 P6 P7 rfl rfl rfl rfl) hZ (own_w hw 30 rfl) (own_w hw 29 rfl) (by decide) (by decide)) (g := (mkF m 243 #[.val (.int p0), .val (.int p1), .val (.int p2), .val (.int p3), .val (.int p4), .val (.int z), .val (.int x1), .val (.int x2), .val (.int x3), .val (.int x4), .val (.ref b147), .val (.int (0 : Int32))] [(.ref b147)])) rfl (by rw [hml]; rfl) (argsL := [(.ref b147)]) (rest := []) (lenOf pd_17 rfl) rfl own_2z (hb hby at_243) (fun _ _ => ⟨rfl, eq195, (by decide : 4 + 0 ≤ _), (by decide : 20 + 0 ≤ _)⟩)
                dsimp only [Pt.U, Pt.locs, Pt.cells, Pt.slots] at X201 l201 y201 z201 st201 hQ201
                subst l201 y201 z201
                obtain ⟨hv201, Nq201, eq201⟩ := hQ201
                have N201 := Fr.app N195 Nq201
                rw [if_pos hc192] at hv201
                rw [if_pos hc194] at hv201
                rw [if_neg hc196] at hv201
                subst hv201
                refine oS st201 ?_
                show oG _ _ _ _ (T201.setTop (mkF m 246 #[.val (.int p0), .val (.int p1), .val (.int p2), .val (.int p3), .val (.int p4), .val (.int z), .val (.int x1), .val (.int x2), .val (.int x3), .val (.int x4), .val (.ref b147), .val (.int (0 : Int32))] [(.int (0 : Int32))]))
                refine oS (fun _ κ => XS.iload X201.here hx rfl (hb hby at_246) rfl κ) ?_
                refine oS (fun _ κ => XS.icmpNo X201.here hx rfl (hb hby at_248) rfl (teq rfl).2 κ) ?_
                show oG _ _ _ _ (T201.setTop (mkF m 251 #[.val (.int p0), .val (.int p1), .val (.int p2), .val (.int p3), .val (.int p4), .val (.int z), .val (.int x1), .val (.int x2), .val (.int x3), .val (.int x4), .val (.ref b147), .val (.int (0 : Int32))] []))
                refine oS (fun _ κ => XS.iconst X201.here hx rfl (hb hby at_251) κ) ?_
                refine oS (fun _ κ => XS.goto X201.here hx rfl (pc0 := 252) (pc' := 256) rfl (hb hby at_252) (by decide) (by decide) κ) ?_
                show oG _ _ _ _ (T201.setTop (mkF m 256 #[.val (.int p0), .val (.int p1), .val (.int p2), .val (.int p3), .val (.int p4), .val (.int z), .val (.int x1), .val (.int x2), .val (.int x3), .val (.int x4), .val (.ref b147), .val (.int (0 : Int32))] [(.int (1 : Int32))]))
                obtain ⟨fs, hr, hrun, hended, hW, hsame⟩ := X201.leave (v := some (.int (1 : Int32))) (fun h => by rw [Bd.returns] at h; cases h)
                have hEW := ReturnedEndW.of_narrow (o := .returned (some (.int (1 : Int32)))) ⟨_, rfl⟩ hW hsame
                refine ⟨_, _, retN X201 hx (t := .boolean) Bd.returns (by simp) (hb hby at_256) hr, hrun, hended, _, _, rfl, ?_, hEW.1, hEW.2.1, hEW.2.2.1, hEW.2.2.2.mono (by decide) (by decide)⟩
                show Q0 Z p0 p1 p2 p3 p4 fv cs h0 n0 _ T201.heap _
                exact ⟨rfl, N201⟩
            · refine oS (fun _ κ => XS.ifYes X193.here hx rfl (pc0 := 203) (pc' := 238) rfl (hb hby at_203) rfl ((if0 _ _).trans (feq hc194).2) (by decide) (by decide) κ) ?_
              show oG _ _ _ _ (T193.setTop (mkF m 238 #[.val (.int p0), .val (.int p1), .val (.int p2), .val (.int p3), .val (.int p4), .val (.int z), .val (.int x1), .val (.int x2), .val (.int x3), .val (.int x4), .val (.ref b147), .unset] []))
              refine oS (fun _ κ => XS.iconst X193.here hx rfl (hb hby at_238) κ) ?_
              refine oS (fun _ κ => XS.istore X193.here hx rfl (hb hby at_239) rfl (l' := #[.val (.int p0), .val (.int p1), .val (.int p2), .val (.int p3), .val (.int p4), .val (.int z), .val (.int x1), .val (.int x2), .val (.int x3), .val (.int x4), .val (.ref b147), .val (.int (0 : Int32))]) rfl κ) ?_
              refine oS (fun _ κ => XS.aload X193.here hx rfl (hb hby at_241) rfl rfl κ) ?_
              obtain ⟨vr202, _, ⟨T202, L202, k202, n202⟩, -, X202, ⟨Lc202, hQ202, l202, y202, z202⟩, st202⟩ := Jvm.LawKit.callS X193 hx (y := own_y0) hown (mvT hZ (own_w hw 27 rfl)) (mvT hZ (own_w hw 28 rfl)) (mvT hZ (own_w hw 29 rfl)) (mvT hZ (own_w hw 30 rfl)) (by decide) (backOf (W := 0) (rm57 l Z a0 hw [] b147 (own_gl [x1, x2, x3, x4]) x1 x2 x3 x4 cs fv T186.heap n0 z190 p186_0 f188 f187 P3 P4 P1 P2 P5 P6 P7 rfl rfl rfl rfl) hZ (own_w hw 30 rfl) (own_w hw 29 rfl) (by decide) (by decide)) (g := (mkF m 243 #[.val (.int p0), .val (.int p1), .val (.int p2), .val (.int p3), .val (.int p4), .val (.int z), .val (.int x1), .val (.int x2), .val (.int x3), .val (.int x4), .val (.ref b147), .val (.int (0 : Int32))] [(.ref b147)])) rfl (by rw [hml]; rfl) (argsL := [(.ref b147)]) (rest := []) (lenOf pd_17 rfl) rfl own_2z (hb hby at_243) (fun _ _ => ⟨rfl, eq193, (by decide : 4 + 0 ≤ _), (by decide : 20 + 0 ≤ _)⟩)
              dsimp only [Pt.U, Pt.locs, Pt.cells, Pt.slots] at X202 l202 y202 z202 st202 hQ202
              subst l202 y202 z202
              obtain ⟨hv202, Nq202, eq202⟩ := hQ202
              have N202 := Fr.app N193 Nq202
              rw [if_pos hc192] at hv202
              rw [if_neg hc194] at hv202
              subst hv202
              refine oS st202 ?_
              show oG _ _ _ _ (T202.setTop (mkF m 246 #[.val (.int p0), .val (.int p1), .val (.int p2), .val (.int p3), .val (.int p4), .val (.int z), .val (.int x1), .val (.int x2), .val (.int x3), .val (.int x4), .val (.ref b147), .val (.int (0 : Int32))] [(.int (0 : Int32))]))
              refine oS (fun _ κ => XS.iload X202.here hx rfl (hb hby at_246) rfl κ) ?_
              refine oS (fun _ κ => XS.icmpNo X202.here hx rfl (hb hby at_248) rfl (teq rfl).2 κ) ?_
              show oG _ _ _ _ (T202.setTop (mkF m 251 #[.val (.int p0), .val (.int p1), .val (.int p2), .val (.int p3), .val (.int p4), .val (.int z), .val (.int x1), .val (.int x2), .val (.int x3), .val (.int x4), .val (.ref b147), .val (.int (0 : Int32))] []))
              refine oS (fun _ κ => XS.iconst X202.here hx rfl (hb hby at_251) κ) ?_
              refine oS (fun _ κ => XS.goto X202.here hx rfl (pc0 := 252) (pc' := 256) rfl (hb hby at_252) (by decide) (by decide) κ) ?_
              show oG _ _ _ _ (T202.setTop (mkF m 256 #[.val (.int p0), .val (.int p1), .val (.int p2), .val (.int p3), .val (.int p4), .val (.int z), .val (.int x1), .val (.int x2), .val (.int x3), .val (.int x4), .val (.ref b147), .val (.int (0 : Int32))] [(.int (1 : Int32))]))
              obtain ⟨fs, hr, hrun, hended, hW, hsame⟩ := X202.leave (v := some (.int (1 : Int32))) (fun h => by rw [Bd.returns] at h; cases h)
              have hEW := ReturnedEndW.of_narrow (o := .returned (some (.int (1 : Int32)))) ⟨_, rfl⟩ hW hsame
              refine ⟨_, _, retN X202 hx (t := .boolean) Bd.returns (by simp) (hb hby at_256) hr, hrun, hended, _, _, rfl, ?_, hEW.1, hEW.2.1, hEW.2.2.1, hEW.2.2.2.mono (by decide) (by decide)⟩
              show Q0 Z p0 p1 p2 p3 p4 fv cs h0 n0 _ T202.heap _
              exact ⟨rfl, N202⟩
          · refine oS (fun _ κ => XS.ifYes X191.here hx rfl (pc0 := 189) (pc' := 238) rfl (hb hby at_189) rfl ((if0 _ _).trans (feq hc192).2) (by decide) (by decide) κ) ?_
            show oG _ _ _ _ (T191.setTop (mkF m 238 #[.val (.int p0), .val (.int p1), .val (.int p2), .val (.int p3), .val (.int p4), .val (.int z), .val (.int x1), .val (.int x2), .val (.int x3), .val (.int x4), .val (.ref b147), .unset] []))
            refine oS (fun _ κ => XS.iconst X191.here hx rfl (hb hby at_238) κ) ?_
            refine oS (fun _ κ => XS.istore X191.here hx rfl (hb hby at_239) rfl (l' := #[.val (.int p0), .val (.int p1), .val (.int p2), .val (.int p3), .val (.int p4), .val (.int z), .val (.int x1), .val (.int x2), .val (.int x3), .val (.int x4), .val (.ref b147), .val (.int (0 : Int32))]) rfl κ) ?_
            refine oS (fun _ κ => XS.aload X191.here hx rfl (hb hby at_241) rfl rfl κ) ?_
            obtain ⟨vr203, _, ⟨T203, L203, k203, n203⟩, -, X203, ⟨Lc203, hQ203, l203, y203, z203⟩, st203⟩ := Jvm.LawKit.callS X191 hx (y := own_y0) hown (mvT hZ (own_w hw 27 rfl)) (mvT hZ (own_w hw 28 rfl)) (mvT hZ (own_w hw 29 rfl)) (mvT hZ (own_w hw 30 rfl)) (by decide) (backOf (W := 0) (rm57 l Z a0 hw [] b147 (own_gl [x1, x2, x3, x4]) x1 x2 x3 x4 cs fv T186.heap n0 z190 p186_0 f188 f187 P3 P4 P1 P2 P5 P6 P7 rfl rfl rfl rfl) hZ (own_w hw 30 rfl) (own_w hw 29 rfl) (by decide) (by decide)) (g := (mkF m 243 #[.val (.int p0), .val (.int p1), .val (.int p2), .val (.int p3), .val (.int p4), .val (.int z), .val (.int x1), .val (.int x2), .val (.int x3), .val (.int x4), .val (.ref b147), .val (.int (0 : Int32))] [(.ref b147)])) rfl (by rw [hml]; rfl) (argsL := [(.ref b147)]) (rest := []) (lenOf pd_17 rfl) rfl own_2z (hb hby at_243) (fun _ _ => ⟨rfl, eq191, (by decide : 4 + 0 ≤ _), (by decide : 20 + 0 ≤ _)⟩)
            dsimp only [Pt.U, Pt.locs, Pt.cells, Pt.slots] at X203 l203 y203 z203 st203 hQ203
            subst l203 y203 z203
            obtain ⟨hv203, Nq203, eq203⟩ := hQ203
            have N203 := Fr.app N191 Nq203
            rw [if_neg hc192] at hv203
            subst hv203
            refine oS st203 ?_
            show oG _ _ _ _ (T203.setTop (mkF m 246 #[.val (.int p0), .val (.int p1), .val (.int p2), .val (.int p3), .val (.int p4), .val (.int z), .val (.int x1), .val (.int x2), .val (.int x3), .val (.int x4), .val (.ref b147), .val (.int (0 : Int32))] [(.int (0 : Int32))]))
            refine oS (fun _ κ => XS.iload X203.here hx rfl (hb hby at_246) rfl κ) ?_
            refine oS (fun _ κ => XS.icmpNo X203.here hx rfl (hb hby at_248) rfl (teq rfl).2 κ) ?_
            show oG _ _ _ _ (T203.setTop (mkF m 251 #[.val (.int p0), .val (.int p1), .val (.int p2), .val (.int p3), .val (.int p4), .val (.int z), .val (.int x1), .val (.int x2), .val (.int x3), .val (.int x4), .val (.ref b147), .val (.int (0 : Int32))] []))
            refine oS (fun _ κ => XS.iconst X203.here hx rfl (hb hby at_251) κ) ?_
            refine oS (fun _ κ => XS.goto X203.here hx rfl (pc0 := 252) (pc' := 256) rfl (hb hby at_252) (by decide) (by decide) κ) ?_
            show oG _ _ _ _ (T203.setTop (mkF m 256 #[.val (.int p0), .val (.int p1), .val (.int p2), .val (.int p3), .val (.int p4), .val (.int z), .val (.int x1), .val (.int x2), .val (.int x3), .val (.int x4), .val (.ref b147), .val (.int (0 : Int32))] [(.int (1 : Int32))]))
            obtain ⟨fs, hr, hrun, hended, hW, hsame⟩ := X203.leave (v := some (.int (1 : Int32))) (fun h => by rw [Bd.returns] at h; cases h)
            have hEW := ReturnedEndW.of_narrow (o := .returned (some (.int (1 : Int32)))) ⟨_, rfl⟩ hW hsame
            refine ⟨_, _, retN X203 hx (t := .boolean) Bd.returns (by simp) (hb hby at_256) hr, hrun, hended, _, _, rfl, ?_, hEW.1, hEW.2.1, hEW.2.2.1, hEW.2.2.2.mono (by decide) (by decide)⟩
            show Q0 Z p0 p1 p2 p3 p4 fv cs h0 n0 _ T203.heap _
            exact ⟨rfl, N203⟩
set_option maxRecDepth 65536 in
set_option maxHeartbeats 40000000 in
theorem comes_1 {Post : Tables → Env → Array Value → State → Outcome → State → Prop} (hpost : ∀ tb e args s v u, (limb_1_1.after args s (.returned v) u = true ∧ limb_1_2.after args s (.returned v) u = true ∧ True) → ReturnedEndW s (.returned v) u (Jvm.fieldLocs frame_1_writes args s ++ Jvm.arrayLocs frame_1_arrays args s ++ Jvm.staticLocs frame_1_statics s) 24 1152 → Post tb e args s (.returned v) u) :
    ArmFor flags0 classFile x code maxLocals ret World_1 tables_1 room_1 Calls_1 rest_1 Pre_1 Post := by
  intro l hfl _ _ p e ha hc hk s m args below hf hA hF happ hP
  obtain ⟨hcalls, hrest, hpre⟩ := hP
  obtain ⟨-, -, -, hnamed, -, -, -, hat⟩ := (Spec.applies_iff hf).mp happ
  obtain ⟨hg, hn⟩ := and_e (Cond.before_iff.mp (show (Jvm.Cond.and given_1 narrow_1).before args s = true from hpre))
  obtain ⟨g0, gr0⟩ := and_e hg
  obtain ⟨w0, w1, w2, w3, w4, rfl⟩ : ∃ w0 w1 w2 w3 w4 : Value, args = #[w0, w1, w2, w3, w4] := by
    have hs : args.size = 5 := by simpa [Cond.value, given_1] using g0
    obtain ⟨L⟩ := args
    match L, hs with
    | [w0, w1, w2, w3, w4], _ => exact ⟨w0, w1, w2, w3, w4, rfl⟩
  have hw := fun d (hd : d ∈ tables_1) => atoms_spec (ws := Jvm.Cond.code x code maxLocals ret :: tables_1) hat d (List.mem_cons_of_mem _ hd)
  have hfit : Fit s := fun {y c} hc i hi => by
    obtain ⟨ha, rfl⟩ := Array.getElem?_eq_some_iff.mp hc
    have q := List.all_eq_true.mp ((Array.all_eq_true_iff_forall_mem.mp hF) _ (Array.getElem_mem ha)) i (List.mem_range.mpr hi)
    simpa [Array.getElem?_eq_getElem hi] using q
  obtain ⟨ga0, gr1⟩ := and_e gr0
  obtain ⟨i0, ei0⟩ := is_v ga0
  obtain rfl : w0 = (.int i0) := Option.some.inj ei0
  obtain ⟨ga1, gr2⟩ := and_e gr1
  obtain ⟨i1, ei1⟩ := is_v ga1
  obtain rfl : w1 = (.int i1) := Option.some.inj ei1
  obtain ⟨ga2, gr3⟩ := and_e gr2
  obtain ⟨i2, ei2⟩ := is_v ga2
  obtain rfl : w2 = (.int i2) := Option.some.inj ei2
  obtain ⟨ga3, gr4⟩ := and_e gr3
  obtain ⟨i3, ei3⟩ := is_v ga3
  obtain rfl : w3 = (.int i3) := Option.some.inj ei3
  obtain ⟨i4, ei4⟩ := is_v gr4
  obtain rfl : w4 = (.int i4) := Option.some.inj ei4
  obtain ⟨hsets, hown0⟩ := atoms_of _ (rest_1_c_eq ▸ (show rest_1_c.before _ s = true from hrest))
  have n5 := not_v (Cond.before_iff.mp (hsets _ (List.mem_of_getElem? (i := 2) rfl)))
  obtain ⟨cs, ecs⟩ := is_v (Cond.before_iff.mp (hsets _ (List.mem_of_getElem? (i := 1) rfl)))
  have S_cs : Sta s s.heap "java/lang/String" "COMPACT_STRINGS" "Z" (.int cs) := Sta.start ecs (Or.inl (hsets _ (List.mem_of_getElem? (i := 0) rfl)))
  obtain ⟨fv, efv, rfv⟩ := isR_v (Cond.before_iff.mp (hsets _ (List.mem_of_getElem? (i := 8) rfl)))
  have S_fv : Sta s s.heap "jdk/internal/util/Preconditions" "SIOOBE_FORMATTER" "Ljava/util/function/BiFunction;" fv := Sta.start efv (Or.inl (hsets _ (List.mem_of_getElem? (i := 7) rfl)))
  have ncs : ¬ (cs = (0 : Int32)) := gotF (Cond.eq_ints ecs (Term.int_eval (0))) n5
  have S_ad : Sta s s.heap "java/lang/StringUTF16" "$assertionsDisabled" "Z" (.int (1 : Int32)) := Sta.start (eqv_i (Term.int_eval 1) (Cond.before_iff.mp (hsets _ (List.mem_of_getElem? (i := 12) rfl)))) (Or.inl (hsets _ (List.mem_of_getElem? (i := 11) rfl)))
  have S_hi : Sta s s.heap "java/lang/StringUTF16" "HI_BYTE_SHIFT" "I" (.int (0 : Int32)) := Sta.start (eqv_i (Term.int_eval 0) (Cond.before_iff.mp (hsets _ (List.mem_of_getElem? (i := 15) rfl)))) (Or.inl (hsets _ (List.mem_of_getElem? (i := 14) rfl)))
  have S_lo : Sta s s.heap "java/lang/StringUTF16" "LO_BYTE_SHIFT" "I" (.int (8 : Int32)) := Sta.start (eqv_i (Term.int_eval 8) (Cond.before_iff.mp (hsets _ (List.mem_of_getElem? (i := 18) rfl)))) (Or.inl (hsets _ (List.mem_of_getElem? (i := 17) rfl)))
  have hCH : CHv s consts_1 s.vm s.heap := CHv.start (own_EW hw) hcalls.1 (hsets _ (List.mem_of_getElem? (i := 2) rfl)) (own_w hw 20 rfl) (own_w hw 6 rfl)
  obtain ⟨n, o, h1, h2, h3, _, L, rfl, ⟨rfl, N⟩, hq⟩ := rm0 l s _ hw tables_1 i0 i1 i2 i3 i4 fv cs s.heap s.heap.size (Nat.le_refl _) (Old.start s) S_fv rfv S_cs ncs S_ad S_hi S_lo p e ha hc hk s m _ below hf ((Spec.applies_iff_loose hf).mp happ).1 ⟨rfl, State.Warmed39.refl s, rfl, hCH⟩ trivial
  refine ⟨n, _, h1, h2, h3, hpost _ _ _ _ _ _ ⟨Cond.after_iff.mpr rfl, Cond.after_iff.mpr (eq_i res_at (Term.int_eval (1)) rfl), trivial⟩ ⟨hq.1, hq.2.1, hq.2.2.1, (hq.2.2.2.sift fun y hy => Or.inr (N y hy)).mono (by decide) (by decide)⟩⟩
theorem main_1_1 : Claimed_1_1 := comes_1 fun _ _ _ _ _ _ h hF => ⟨h.1, hF⟩
theorem main_1_2 : Claimed_1_2 := comes_1 fun _ _ _ _ _ _ h hF => ⟨h.2.1, hF⟩
end Jvm.Pilot.@@N@@
namespace Jvm.Pilot.@@N@@
open Jvm Jvm.ClassFile Sem Op Lib Jvm.Free Jvm.Stand Jvm.Pilot.@@N@@.Jvm.D
/-! MADE BY PROGRAM (witnessworld.py) out of the Statement's table words and the real class files: 20 classes; the members and pool entries that the words name. The judged class is class 1, her method 3. -/
namespace start1
open Jvm.ClassFile
def u (s : String) : CpInfo := .utf8 (stringToUtf16 s)
/-- a pool by its gaps: so many unusable entries, then the entry; so many at the end -/
def gap : Nat → List CpInfo → List CpInfo
  | 0, r => r
  | n + 1, r => .unusable :: gap n r
def poolList (es : List (Nat × CpInfo)) (last : Nat) : List CpInfo := es.foldr (fun e r => gap e.1 (e.2 :: r)) (gap last [])
def pool (es : List (Nat × CpInfo)) (last : Nat) : Array CpInfo := ⟨poolList es last⟩
def fileOf (pool : Array CpInfo) (this : Nat) (attrs : Array Attribute := #[]) (ms : Array MethodInfo := #[]) (fl : Nat := 33) (sup : Nat := 0) (ifs : Array Nat := #[]) (fds : Array FieldInfo := #[]) : ClassFile where
  minorVersion := 0
  majorVersion := 65
  constantPool := pool
  accessFlags := fl
  thisClass := this
  superClass := sup
  interfaces := ifs
  fields := fds
  methods := ms
  attributes := attrs
def plain (name : String) (sup : Option ClassId) : Class where
  name := name
  kind := .ordinary
  loader := none
  accessFlags := 33
  super := sup
  interfaces := #[]
  cf := none
  fields := #[]
  methods := #[]
  instanceTypes := #[]
  staticTypes := #[]
  resolved := #[]
  callSites := []
  init := .initialized
  statics := none
  mirror := none

def pool0 : Array CpInfo := pool [(5, u "<init>"), (0, u "()V"), (1, .class_ 10), (1, u "java/lang/Object")] 113

def k0c0 : Code := { maxStack := 0, maxLocals := 1, code := object_method_1_code, exceptionTable := #[], attributes := #[] }
def k0m0 : Method := { name := "<init>", desc := "()V", sig := { parameters := [], returnType := none }, accessFlags := 1, code := some k0c0 }
/-- java/lang/Object -/
def k0 : Class := { plain "java/lang/Object" none with
  accessFlags := 33
  interfaces := #[]
  cf := some (fileOf pool0 8 #[] #[{ accessFlags := 1, nameIndex := 5, descriptorIndex := 6, attributes := #[] }] 33 0 #[] #[])
  fields := #[]
  methods := #[k0m0]
  instanceTypes := #[]
  staticTypes := #[]
  resolved := Array.replicate 124 none
  statics := none }

def pool1 : Array CpInfo := pool [(2, .class_ 4), (1, u "java/lang/Object"), (0, u "<init>"), (0, u "()V"), (0, .integer 2147483647), (0, .methodref 9 10), (0, .class_ 11), (0, .nameAndType 12 13), (0, u "com/example/everrow/everrow/csv/CsvWriterFitsTabSeparatedPinLaw"), (0, u "draw"), (0, u "(I)C"), (0, .class_ 15), (0, u "java/lang/String"), (0, .methodref 14 17), (0, .nameAndType 5 18), (0, u "([C)V"), (0, .methodref 9 20), (0, .nameAndType 21 22), (0, u "breaks"), (0, u "(C)Z"), (0, .methodref 24 25), (0, .class_ 26), (0, .nameAndType 27 28), (0, u "com/example/everrow/everrow/csv/CsvWriter"), (0, u "fitsTabSeparated"), (0, u "(Ljava/lang/String;)Z"), (3, u "law"), (0, u "(IIIII)Z")] 2

def k1m0 : Method := { name := "<init>", desc := "()V", sig := { parameters := [], returnType := none }, accessFlags := 2, code := none }
def k1c1 : Code := { maxStack := 3, maxLocals := 1, code := method_2_code, exceptionTable := #[], attributes := #[] }
def k1m1 : Method := { name := "draw", desc := "(I)C", sig := { parameters := [.int], returnType := some .char }, accessFlags := 10, code := some k1c1 }
def k1c2 : Code := { maxStack := 2, maxLocals := 1, code := method_3_code, exceptionTable := #[], attributes := #[] }
def k1m2 : Method := { name := "breaks", desc := "(C)Z", sig := { parameters := [.char], returnType := some .boolean }, accessFlags := 10, code := some k1c2 }
def k1c3 : Code := { maxStack := 6, maxLocals := 12, code := code, exceptionTable := #[], attributes := #[] }
def k1m3 : Method := { name := "law", desc := "(IIIII)Z", sig := { parameters := [.int, .int, .int, .int, .int], returnType := some .boolean }, accessFlags := 9, code := some k1c3 }
/-- com/example/everrow/everrow/csv/CsvWriterFitsTabSeparatedPinLaw -/
def k1 : Class := { plain "com/example/everrow/everrow/csv/CsvWriterFitsTabSeparatedPinLaw" (some 0) with
  accessFlags := 49
  interfaces := #[]
  cf := some (fileOf pool1 9 #[] #[{ accessFlags := 2, nameIndex := 5, descriptorIndex := 6, attributes := #[] }, { accessFlags := 10, nameIndex := 12, descriptorIndex := 13, attributes := #[] }, { accessFlags := 10, nameIndex := 21, descriptorIndex := 22, attributes := #[] }, { accessFlags := 9, nameIndex := 32, descriptorIndex := 33, attributes := #[] }] 49 2 #[] #[])
  fields := #[]
  methods := #[k1m0, k1m1, k1m2, k1m3]
  instanceTypes := #[]
  staticTypes := #[]
  resolved := Array.replicate 36 none
  statics := none }

def pool2 : Array CpInfo := pool [(1, .class_ 2), (0, u "java/io/Serializable"), (0, .class_ 4), (0, u "java/lang/Object")] 2

/-- java/io/Serializable -/
def k2 : Class := { plain "java/io/Serializable" (some 0) with
  accessFlags := 1537
  interfaces := #[]
  cf := some (fileOf pool2 1 #[] #[] 1537 3 #[] #[])
  fields := #[]
  methods := #[]
  instanceTypes := #[]
  staticTypes := #[]
  resolved := Array.replicate 7 none
  statics := none }

def pool3 : Array CpInfo := pool [(1, .class_ 2), (0, u "java/lang/Comparable"), (0, .class_ 4), (0, u "java/lang/Object")] 7

/-- java/lang/Comparable -/
def k3 : Class := { plain "java/lang/Comparable" (some 0) with
  accessFlags := 1537
  interfaces := #[]
  cf := some (fileOf pool3 1 #[] #[] 1537 3 #[] #[])
  fields := #[]
  methods := #[]
  instanceTypes := #[]
  staticTypes := #[]
  resolved := Array.replicate 12 none
  statics := none }

def pool4 : Array CpInfo := pool [(2, .class_ 4), (1, u "java/lang/CharSequence"), (42, .class_ 48), (0, u "java/lang/CharSequence$1CodePointIterator"), (10, .class_ 60), (0, u "java/lang/CharSequence$1CharIterator"), (5, .class_ 67), (0, u "java/lang/Object")] 63

/-- java/lang/CharSequence -/
def k4 : Class := { plain "java/lang/CharSequence" (some 0) with
  accessFlags := 1537
  interfaces := #[]
  cf := some (fileOf pool4 2 #[.nestMembers #[47, 59]] #[] 1537 66 #[] #[])
  fields := #[]
  methods := #[]
  instanceTypes := #[]
  staticTypes := #[]
  resolved := Array.replicate 131 none
  statics := none }

def pool5 : Array CpInfo := pool [(1, .class_ 2), (0, u "java/lang/constant/Constable"), (0, .class_ 4), (0, u "java/lang/Object")] 6

/-- java/lang/constant/Constable -/
def k5 : Class := { plain "java/lang/constant/Constable" (some 0) with
  accessFlags := 1537
  interfaces := #[]
  cf := some (fileOf pool5 1 #[] #[] 1537 3 #[] #[])
  fields := #[]
  methods := #[]
  instanceTypes := #[]
  staticTypes := #[]
  resolved := Array.replicate 11 none
  statics := none }

def pool6 : Array CpInfo := pool [(1, .class_ 2), (0, u "java/lang/constant/ConstantDesc"), (0, .class_ 4), (0, u "java/lang/Object")] 32

/-- java/lang/constant/ConstantDesc -/
def k6 : Class := { plain "java/lang/constant/ConstantDesc" (some 0) with
  accessFlags := 1537
  interfaces := #[]
  cf := some (fileOf pool6 1 #[] #[] 1537 3 #[] #[])
  fields := #[]
  methods := #[]
  instanceTypes := #[]
  staticTypes := #[]
  resolved := Array.replicate 37 none
  statics := none }

def pool7 : Array CpInfo := pool [(1, .methodref 2 3), (0, .class_ 4), (0, .nameAndType 5 6), (0, u "java/lang/Object"), (0, u "<init>"), (0, u "()V"), (0, .string 8), (0, u ""), (0, .fieldref 10 11), (0, .class_ 12), (0, .nameAndType 13 14), (0, u "java/lang/String"), (0, u "value"), (0, u "[B"), (0, .fieldref 10 16), (0, .nameAndType 17 18), (0, u "coder"), (0, u "B"), (2, u "hash"), (0, u "I"), (2, u "hashIsZero"), (0, u "Z"), (0, .methodref 10 28), (0, .nameAndType 5 29), (0, u "([CIILjava/lang/Void;)V"), (8, .fieldref 10 39), (0, .nameAndType 40 26), (0, u "COMPACT_STRINGS"), (1, .class_ 44), (1, u "java/lang/StringUTF16"), (0, u "compress"), (1, .methodref 42 48), (0, .nameAndType 49 50), (0, u "coderFromArrayLen"), (0, u "([BI)B"), (56, .class_ 109), (1, u "java/lang/StringLatin1"), (32, u "()Z"), (34, .methodref 42 178), (0, .nameAndType 45 179), (0, u "([CII)[B"), (154, u "()I"), (0, .methodref 10 336), (0, .nameAndType 17 337), (0, u "()B"), (25, u "([BI)C"), (27, u "(II)V"), (35, u "(I)C"), (64, .methodref 10 493), (0, .nameAndType 494 142), (0, u "isLatin1"), (0, .methodref 107 496), (0, .nameAndType 497 363), (0, u "charAt"), (0, .methodref 42 496), (2, u "checkIndex"), (5, u "length"), (67, .class_ 576), (0, u "java/lang/CharSequence"), (22, u "CASE_INSENSITIVE_ORDER"), (0, u "Ljava/util/Comparator;"), (409, u "([C)V"), (42, .fieldref 1054 1055), (0, .class_ 1056), (0, .nameAndType 1057 1058), (0, u "jdk/internal/util/Preconditions"), (0, u "SIOOBE_FORMATTER"), (0, u "Ljava/util/function/BiFunction;"), (0, .methodref 1054 1060), (0, .nameAndType 501 1061), (0, u "(IILjava/util/function/BiFunction;)I"), (39, u "serialPersistentFields"), (0, u "[Ljava/io/ObjectStreamField;"), (0, .class_ 1104), (0, u "java/lang/String$CaseInsensitiveComparator"), (1, .class_ 1107), (0, u "java/io/Serializable"), (0, .class_ 1109), (0, u "java/lang/Comparable"), (0, .class_ 1111), (0, u "java/lang/constant/Constable"), (0, .class_ 1113), (0, u "java/lang/constant/ConstantDesc"), (2, u "serialVersionUID"), (0, u "J"), (3, u "REPL"), (0, u "C"), (2, u "LATIN1"), (1, u "UTF16")] 323

def k7m0 : Method := { name := "<init>", desc := "()V", sig := { parameters := [], returnType := none }, accessFlags := 1, code := none }
def k7c1 : Code := { maxStack := 5, maxLocals := 2, code := jdk_42_method_3_code, exceptionTable := #[], attributes := #[] }
def k7m1 : Method := { name := "<init>", desc := "([C)V", sig := { parameters := [(.array .char)], returnType := none }, accessFlags := 1, code := some k7c1 }
def k7c2 : Code := { maxStack := 2, maxLocals := 1, code := jdk_42_method_54_code, exceptionTable := #[], attributes := #[] }
def k7m2 : Method := { name := "length", desc := "()I", sig := { parameters := [], returnType := some .int }, accessFlags := 1, code := some k7c2 }
def k7c3 : Code := { maxStack := 2, maxLocals := 2, code := jdk_42_method_56_code, exceptionTable := #[], attributes := #[] }
def k7m3 : Method := { name := "charAt", desc := "(I)C", sig := { parameters := [.int], returnType := some .char }, accessFlags := 1, code := some k7c3 }
def k7c4 : Code := { maxStack := 4, maxLocals := 6, code := jdk_42_method_149_code, exceptionTable := #[], attributes := #[] }
def k7m4 : Method := { name := "<init>", desc := "([CIILjava/lang/Void;)V", sig := { parameters := [(.array .char), .int, .int, (.object "java/lang/Void")], returnType := none }, accessFlags := 2, code := some k7c4 }
def k7c5 : Code := { maxStack := 1, maxLocals := 1, code := jdk_42_method_152_code, exceptionTable := #[], attributes := #[] }
def k7m5 : Method := { name := "coder", desc := "()B", sig := { parameters := [], returnType := some .byte }, accessFlags := 0, code := some k7c5 }
def k7c6 : Code := { maxStack := 1, maxLocals := 1, code := jdk_42_method_154_code, exceptionTable := #[], attributes := #[] }
def k7m6 : Method := { name := "isLatin1", desc := "()Z", sig := { parameters := [], returnType := some .boolean }, accessFlags := 0, code := some k7c6 }
def k7c7 : Code := { maxStack := 3, maxLocals := 2, code := jdk_42_method_155_code, exceptionTable := #[], attributes := #[] }
def k7m7 : Method := { name := "checkIndex", desc := "(II)V", sig := { parameters := [.int, .int], returnType := none }, accessFlags := 8, code := some k7c7 }
/-- java/lang/String -/
def k7 : Class := { plain "java/lang/String" (some 0) with
  accessFlags := 49
  interfaces := #[2, 3, 4, 5, 6]
  cf := some (fileOf pool7 10 #[.nestMembers #[1103]] #[{ accessFlags := 1, nameIndex := 5, descriptorIndex := 6, attributes := #[] }, { accessFlags := 1, nameIndex := 5, descriptorIndex := 1010, attributes := #[] }, { accessFlags := 1, nameIndex := 507, descriptorIndex := 334, attributes := #[] }, { accessFlags := 1, nameIndex := 497, descriptorIndex := 427, attributes := #[] }, { accessFlags := 2, nameIndex := 5, descriptorIndex := 29, attributes := #[] }, { accessFlags := 0, nameIndex := 17, descriptorIndex := 337, attributes := #[] }, { accessFlags := 0, nameIndex := 494, descriptorIndex := 142, attributes := #[] }, { accessFlags := 8, nameIndex := 501, descriptorIndex := 391, attributes := #[] }] 49 2 #[1106, 1108, 575, 1110, 1112] #[{ accessFlags := 18, nameIndex := 13, descriptorIndex := 14, attributes := #[] }, { accessFlags := 18, nameIndex := 17, descriptorIndex := 18, attributes := #[] }, { accessFlags := 2, nameIndex := 21, descriptorIndex := 22, attributes := #[] }, { accessFlags := 2, nameIndex := 25, descriptorIndex := 26, attributes := #[] }, { accessFlags := 26, nameIndex := 1116, descriptorIndex := 1117, attributes := #[] }, { accessFlags := 24, nameIndex := 40, descriptorIndex := 26, attributes := #[] }, { accessFlags := 26, nameIndex := 1101, descriptorIndex := 1102, attributes := #[] }, { accessFlags := 26, nameIndex := 1121, descriptorIndex := 1122, attributes := #[] }, { accessFlags := 25, nameIndex := 599, descriptorIndex := 600, attributes := #[] }, { accessFlags := 24, nameIndex := 1125, descriptorIndex := 18, attributes := #[] }, { accessFlags := 24, nameIndex := 1127, descriptorIndex := 18, attributes := #[] }])
  fields := #[{ name := "value", type := (.array .byte), accessFlags := 18, slot := 0, constantValue := 0 }, { name := "coder", type := .byte, accessFlags := 18, slot := 1, constantValue := 0 }, { name := "hash", type := .int, accessFlags := 2, slot := 2, constantValue := 0 }, { name := "hashIsZero", type := .boolean, accessFlags := 2, slot := 3, constantValue := 0 }, { name := "serialVersionUID", type := .long, accessFlags := 26, slot := 0, constantValue := 0 }, { name := "COMPACT_STRINGS", type := .boolean, accessFlags := 24, slot := 1, constantValue := 0 }, { name := "serialPersistentFields", type := (.array (.object "java/io/ObjectStreamField")), accessFlags := 26, slot := 2, constantValue := 0 }, { name := "REPL", type := .char, accessFlags := 26, slot := 3, constantValue := 0 }, { name := "CASE_INSENSITIVE_ORDER", type := (.object "java/util/Comparator"), accessFlags := 25, slot := 4, constantValue := 0 }, { name := "LATIN1", type := .byte, accessFlags := 24, slot := 5, constantValue := 0 }, { name := "UTF16", type := .byte, accessFlags := 24, slot := 6, constantValue := 0 }]
  methods := #[k7m0, k7m1, k7m2, k7m3, k7m4, k7m5, k7m6, k7m7]
  instanceTypes := #[(.array .byte), .byte, .int, .boolean]
  staticTypes := #[.long, .boolean, (.array (.object "java/io/ObjectStreamField")), .char, (.object "java/util/Comparator"), .byte, .byte]
  resolved := Array.replicate 1451 none
  statics := some 0 }

def pool8 : Array CpInfo := pool [(2, .class_ 4), (1, u "com/example/everrow/everrow/csv/CsvWriter"), (3, .class_ 10), (1, u "java/lang/Object"), (4, u "buffer"), (0, u "[B"), (2, u "out"), (0, u "Ljava/io/OutputStream;"), (2, u "tabs"), (0, u "Z"), (0, .methodref 26 27), (0, .class_ 28), (0, .nameAndType 29 30), (0, u "java/lang/String"), (0, u "length"), (0, u "()I"), (0, .methodref 26 32), (0, .nameAndType 33 34), (0, u "charAt"), (0, u "(I)C"), (61, u "fitsTabSeparated"), (0, u "(Ljava/lang/String;)Z"), (34, u "size"), (0, u "I"), (13, u "inRecord")] 57

def k8c0 : Code := { maxStack := 2, maxLocals := 3, code := prog_58_method_4_code, exceptionTable := #[], attributes := #[] }
def k8m0 : Method := { name := "fitsTabSeparated", desc := "(Ljava/lang/String;)Z", sig := { parameters := [(.object "java/lang/String")], returnType := some .boolean }, accessFlags := 9, code := some k8c0 }
/-- com/example/everrow/everrow/csv/CsvWriter -/
def k8 : Class := { plain "com/example/everrow/everrow/csv/CsvWriter" (some 0) with
  accessFlags := 49
  interfaces := #[]
  cf := some (fileOf pool8 2 #[] #[{ accessFlags := 9, nameIndex := 96, descriptorIndex := 97, attributes := #[] }] 49 8 #[] #[{ accessFlags := 18, nameIndex := 19, descriptorIndex := 20, attributes := #[] }, { accessFlags := 18, nameIndex := 23, descriptorIndex := 24, attributes := #[] }, { accessFlags := 18, nameIndex := 15, descriptorIndex := 16, attributes := #[] }, { accessFlags := 2, nameIndex := 132, descriptorIndex := 133, attributes := #[] }, { accessFlags := 2, nameIndex := 147, descriptorIndex := 24, attributes := #[] }])
  fields := #[{ name := "out", type := (.object "java/io/OutputStream"), accessFlags := 18, slot := 0, constantValue := 0 }, { name := "tabs", type := .boolean, accessFlags := 18, slot := 1, constantValue := 0 }, { name := "buffer", type := (.array .byte), accessFlags := 18, slot := 2, constantValue := 0 }, { name := "size", type := .int, accessFlags := 2, slot := 3, constantValue := 0 }, { name := "inRecord", type := .boolean, accessFlags := 2, slot := 4, constantValue := 0 }]
  methods := #[k8m0]
  instanceTypes := #[(.object "java/io/OutputStream"), .boolean, (.array .byte), .int, .boolean]
  staticTypes := #[]
  resolved := Array.replicate 205 none
  statics := none }

def pool9 : Array CpInfo := pool [(3, .class_ 4), (0, u "java/lang/String"), (1, .class_ 8), (1, u "java/lang/Object"), (0, u "<init>"), (0, u "()V"), (0, .methodref 12 13), (0, .class_ 14), (0, .nameAndType 15 16), (0, u "java/lang/StringUTF16"), (0, u "newBytesLength"), (0, u "(I)I"), (3, .integer 1073741823), (23, .fieldref 12 45), (0, .nameAndType 46 47), (0, u "$assertionsDisabled"), (0, u "Z"), (0, .methodref 12 49), (0, .nameAndType 50 51), (0, u "length"), (0, u "([B)I"), (7, .fieldref 12 60), (0, .nameAndType 61 62), (0, u "HI_BYTE_SHIFT"), (0, u "I"), (0, .fieldref 12 64), (0, .nameAndType 65 62), (0, u "LO_BYTE_SHIFT"), (1, .methodref 12 68), (0, .nameAndType 69 70), (0, u "checkIndex"), (0, u "(I[B)V"), (0, .methodref 12 72), (0, .nameAndType 73 74), (0, u "getChar"), (0, u "([BI)C"), (32, .methodref 12 108), (0, .nameAndType 109 110), (0, u "newBytesFor"), (0, u "(I)[B"), (0, .methodref 12 112), (0, .nameAndType 113 114), (0, u "putChar"), (0, u "([BII)V"), (0, .methodref 12 116), (0, .nameAndType 117 118), (0, u "compress"), (0, u "([CI[BII)I"), (0, .methodref 12 120), (0, .nameAndType 121 122), (0, u "toBytes"), (0, u "([CII)[B"), (138, u "coderFromArrayLen"), (0, u "([BI)B"), (106, .class_ 371), (1, u "java/lang/StringUTF16$LinesSpliterator"), (20, u "charAt"), (21, .methodref 3 415), (0, .nameAndType 69 416), (0, u "(II)V"), (13, u "MAX_LENGTH"), (196, .class_ 628), (0, u "java/lang/StringUTF16$CodePointsSpliterator"), (0, .class_ 630), (0, u "java/lang/StringUTF16$CharsSpliterator")] 4

def k9m0 : Method := { name := "<init>", desc := "()V", sig := { parameters := [], returnType := none }, accessFlags := 0, code := none }
def k9c1 : Code := { maxStack := 1, maxLocals := 1, code := jdk_52_method_2_code, exceptionTable := #[], attributes := #[] }
def k9m1 : Method := { name := "newBytesFor", desc := "(I)[B", sig := { parameters := [.int], returnType := some (.array .byte) }, accessFlags := 9, code := some k9c1 }
def k9c2 : Code := { maxStack := 4, maxLocals := 1, code := jdk_52_method_3_code, exceptionTable := #[], attributes := #[] }
def k9m2 : Method := { name := "newBytesLength", desc := "(I)I", sig := { parameters := [.int], returnType := some .int }, accessFlags := 9, code := some k9c2 }
def k9c3 : Code := { maxStack := 4, maxLocals := 3, code := jdk_52_method_4_code, exceptionTable := #[], attributes := #[] }
def k9m3 : Method := { name := "putChar", desc := "([BII)V", sig := { parameters := [(.array .byte), .int, .int], returnType := none }, accessFlags := 8, code := some k9c3 }
def k9c4 : Code := { maxStack := 3, maxLocals := 2, code := jdk_52_method_5_code, exceptionTable := #[], attributes := #[] }
def k9m4 : Method := { name := "getChar", desc := "([BI)C", sig := { parameters := [(.array .byte), .int], returnType := some .char }, accessFlags := 8, code := some k9c4 }
def k9c5 : Code := { maxStack := 2, maxLocals := 1, code := jdk_52_method_6_code, exceptionTable := #[], attributes := #[] }
def k9m5 : Method := { name := "length", desc := "([B)I", sig := { parameters := [(.array .byte)], returnType := some .int }, accessFlags := 9, code := some k9c5 }
def k9c6 : Code := { maxStack := 4, maxLocals := 5, code := jdk_52_method_14_code, exceptionTable := #[], attributes := #[] }
def k9m6 : Method := { name := "toBytes", desc := "([CII)[B", sig := { parameters := [(.array .char), .int, .int], returnType := some (.array .byte) }, accessFlags := 9, code := some k9c6 }
def k9c7 : Code := { maxStack := 2, maxLocals := 2, code := jdk_52_method_15_code, exceptionTable := #[], attributes := #[] }
def k9m7 : Method := { name := "coderFromArrayLen", desc := "([BI)B", sig := { parameters := [(.array .byte), .int], returnType := some .byte }, accessFlags := 8, code := some k9c7 }
def k9c8 : Code := { maxStack := 5, maxLocals := 6, code := jdk_52_method_16_code, exceptionTable := #[], attributes := #[] }
def k9m8 : Method := { name := "compress", desc := "([CII)[B", sig := { parameters := [(.array .char), .int, .int], returnType := some (.array .byte) }, accessFlags := 9, code := some k9c8 }
def k9c9 : Code := { maxStack := 3, maxLocals := 7, code := jdk_52_method_21_code, exceptionTable := #[], attributes := #[] }
def k9m9 : Method := { name := "compress", desc := "([CI[BII)I", sig := { parameters := [(.array .char), .int, (.array .byte), .int, .int], returnType := some .int }, accessFlags := 9, code := some k9c9 }
def k9c10 : Code := { maxStack := 2, maxLocals := 2, code := jdk_52_method_83_code, exceptionTable := #[], attributes := #[] }
def k9m10 : Method := { name := "charAt", desc := "([BI)C", sig := { parameters := [(.array .byte), .int], returnType := some .char }, accessFlags := 9, code := some k9c10 }
def k9c11 : Code := { maxStack := 2, maxLocals := 2, code := jdk_52_method_91_code, exceptionTable := #[], attributes := #[] }
def k9m11 : Method := { name := "checkIndex", desc := "(I[B)V", sig := { parameters := [.int, (.array .byte)], returnType := none }, accessFlags := 9, code := some k9c11 }
/-- java/lang/StringUTF16 -/
def k9 : Class := { plain "java/lang/StringUTF16" (some 0) with
  accessFlags := 48
  interfaces := #[]
  cf := some (fileOf pool9 12 #[.nestMembers #[627, 629, 369]] #[{ accessFlags := 0, nameIndex := 9, descriptorIndex := 10, attributes := #[] }, { accessFlags := 9, nameIndex := 109, descriptorIndex := 110, attributes := #[] }, { accessFlags := 9, nameIndex := 15, descriptorIndex := 16, attributes := #[] }, { accessFlags := 8, nameIndex := 113, descriptorIndex := 114, attributes := #[] }, { accessFlags := 8, nameIndex := 73, descriptorIndex := 74, attributes := #[] }, { accessFlags := 9, nameIndex := 50, descriptorIndex := 51, attributes := #[] }, { accessFlags := 9, nameIndex := 121, descriptorIndex := 122, attributes := #[] }, { accessFlags := 8, nameIndex := 261, descriptorIndex := 262, attributes := #[] }, { accessFlags := 9, nameIndex := 117, descriptorIndex := 122, attributes := #[] }, { accessFlags := 9, nameIndex := 117, descriptorIndex := 118, attributes := #[] }, { accessFlags := 9, nameIndex := 392, descriptorIndex := 74, attributes := #[] }, { accessFlags := 9, nameIndex := 69, descriptorIndex := 70, attributes := #[] }] 48 6 #[] #[{ accessFlags := 26, nameIndex := 61, descriptorIndex := 62, attributes := #[] }, { accessFlags := 26, nameIndex := 65, descriptorIndex := 62, attributes := #[] }, { accessFlags := 24, nameIndex := 430, descriptorIndex := 62, attributes := #[] }, { accessFlags := 4120, nameIndex := 46, descriptorIndex := 47, attributes := #[] }])
  fields := #[{ name := "HI_BYTE_SHIFT", type := .int, accessFlags := 26, slot := 0, constantValue := 0 }, { name := "LO_BYTE_SHIFT", type := .int, accessFlags := 26, slot := 1, constantValue := 0 }, { name := "MAX_LENGTH", type := .int, accessFlags := 24, slot := 2, constantValue := 0 }, { name := "$assertionsDisabled", type := .boolean, accessFlags := 4120, slot := 3, constantValue := 0 }]
  methods := #[k9m0, k9m1, k9m2, k9m3, k9m4, k9m5, k9m6, k9m7, k9m8, k9m9, k9m10, k9m11]
  instanceTypes := #[]
  staticTypes := #[.int, .int, .int, .boolean]
  resolved := Array.replicate 635 none
  statics := some 1 }

def pool10 : Array CpInfo := pool [(1, .class_ 2), (0, u "java/lang/String"), (1, .class_ 6), (1, u "java/lang/Object"), (0, u "<init>"), (0, u "()V"), (0, .methodref 1 10), (0, .nameAndType 11 12), (0, u "checkIndex"), (0, u "(II)V"), (1, .class_ 16), (1, u "java/lang/StringLatin1"), (36, u "([BI)C"), (67, u "$assertionsDisabled"), (0, u "Z"), (98, .class_ 223), (1, u "java/lang/StringLatin1$LinesSpliterator"), (28, u "charAt"), (137, .class_ 391), (0, u "java/lang/StringLatin1$CharsSpliterator")] 3

def k10m0 : Method := { name := "<init>", desc := "()V", sig := { parameters := [], returnType := none }, accessFlags := 0, code := none }
def k10c1 : Code := { maxStack := 2, maxLocals := 2, code := jdk_43_method_2_code, exceptionTable := #[], attributes := #[] }
def k10m1 : Method := { name := "charAt", desc := "([BI)C", sig := { parameters := [(.array .byte), .int], returnType := some .char }, accessFlags := 9, code := some k10c1 }
/-- java/lang/StringLatin1 -/
def k10 : Class := { plain "java/lang/StringLatin1" (some 0) with
  accessFlags := 48
  interfaces := #[]
  cf := some (fileOf pool10 14 #[.nestMembers #[390, 221]] #[{ accessFlags := 0, nameIndex := 7, descriptorIndex := 8, attributes := #[] }, { accessFlags := 9, nameIndex := 252, descriptorIndex := 53, attributes := #[] }] 48 4 #[] #[{ accessFlags := 4120, nameIndex := 121, descriptorIndex := 122, attributes := #[] }])
  fields := #[{ name := "$assertionsDisabled", type := .boolean, accessFlags := 4120, slot := 0, constantValue := 0 }]
  methods := #[k10m0, k10m1]
  instanceTypes := #[]
  staticTypes := #[.boolean]
  resolved := Array.replicate 395 none
  statics := none }

def pool11 : Array CpInfo := pool [(2, .class_ 4), (1, u "java/lang/Object"), (0, u "<init>"), (0, u "()V"), (17, .class_ 26), (1, u "jdk/internal/util/Preconditions"), (6, u "checkIndex"), (21, .class_ 56), (0, u "jdk/internal/util/Preconditions$4"), (57, .class_ 115), (0, u "jdk/internal/util/Preconditions$1"), (7, u "SIOOBE_FORMATTER"), (0, u "Ljava/util/function/BiFunction;"), (0, .class_ 126), (0, u "jdk/internal/util/Preconditions$2"), (3, u "AIOOBE_FORMATTER"), (0, .class_ 132), (0, u "jdk/internal/util/Preconditions$3"), (3, u "IOOBE_FORMATTER"), (41, u "(IILjava/util/function/BiFunction;)I")] 15

def k11m0 : Method := { name := "<init>", desc := "()V", sig := { parameters := [], returnType := none }, accessFlags := 1, code := none }
def k11c1 : Code := { maxStack := 3, maxLocals := 3, code := jdk_41_method_11_code, exceptionTable := #[], attributes := #[] }
def k11m1 : Method := { name := "checkIndex", desc := "(IILjava/util/function/BiFunction;)I", sig := { parameters := [.int, .int, (.object "java/util/function/BiFunction")], returnType := some .int }, accessFlags := 9, code := some k11c1 }
/-- jdk/internal/util/Preconditions -/
def k11 : Class := { plain "jdk/internal/util/Preconditions" (some 0) with
  accessFlags := 33
  interfaces := #[]
  cf := some (fileOf pool11 24 #[.nestMembers #[55, 131, 125, 114]] #[{ accessFlags := 1, nameIndex := 5, descriptorIndex := 6, attributes := #[] }, { accessFlags := 9, nameIndex := 33, descriptorIndex := 178, attributes := #[] }] 33 2 #[] #[{ accessFlags := 25, nameIndex := 123, descriptorIndex := 124, attributes := #[] }, { accessFlags := 25, nameIndex := 130, descriptorIndex := 124, attributes := #[] }, { accessFlags := 25, nameIndex := 136, descriptorIndex := 124, attributes := #[] }])
  fields := #[{ name := "SIOOBE_FORMATTER", type := (.object "java/util/function/BiFunction"), accessFlags := 25, slot := 0, constantValue := 0 }, { name := "AIOOBE_FORMATTER", type := (.object "java/util/function/BiFunction"), accessFlags := 25, slot := 1, constantValue := 0 }, { name := "IOOBE_FORMATTER", type := (.object "java/util/function/BiFunction"), accessFlags := 25, slot := 2, constantValue := 0 }]
  methods := #[k11m0, k11m1]
  instanceTypes := #[]
  staticTypes := #[(.object "java/util/function/BiFunction"), (.object "java/util/function/BiFunction"), (.object "java/util/function/BiFunction")]
  resolved := Array.replicate 194 none
  statics := some 2 }

def pool12 : Array CpInfo := pool [(9, u "<init>"), (6, .class_ 18), (1, u "java/lang/Object"), (0, u "()V"), (1, .class_ 23), (1, u "jdk/internal/util/ArraysSupport"), (0, u "LOG2_ARRAY_LONG_INDEX_SCALE"), (0, u "I"), (2, u "U"), (0, u "Ljdk/internal/misc/Unsafe;"), (8, u "BIG_ENDIAN"), (0, u "Z"), (8, u "LOG2_BYTE_BIT_SIZE"), (4, u "LOG2_ARRAY_INT_INDEX_SCALE"), (54, u "JLA"), (0, u "Ljdk/internal/access/JavaLangAccess;"), (11, u "LOG2_ARRAY_BOOLEAN_INDEX_SCALE"), (9, u "LOG2_ARRAY_BYTE_INDEX_SCALE"), (5, u "LOG2_ARRAY_CHAR_INDEX_SCALE"), (5, u "LOG2_ARRAY_SHORT_INDEX_SCALE"), (18, u "LOG2_ARRAY_FLOAT_INDEX_SCALE"), (24, u "LOG2_ARRAY_DOUBLE_INDEX_SCALE"), (89, u "T_BOOLEAN"), (2, u "T_CHAR"), (1, u "T_FLOAT"), (1, u "T_DOUBLE"), (1, u "T_BYTE"), (1, u "T_SHORT"), (1, u "T_INT"), (1, u "T_LONG"), (1, u "SOFT_MAX_ARRAY_LENGTH")] 83

def k12m0 : Method := { name := "<init>", desc := "()V", sig := { parameters := [], returnType := none }, accessFlags := 2, code := none }
/-- jdk/internal/util/ArraysSupport -/
def k12 : Class := { plain "jdk/internal/util/ArraysSupport" (some 0) with
  accessFlags := 33
  interfaces := #[]
  cf := some (fileOf pool12 21 #[] #[{ accessFlags := 2, nameIndex := 9, descriptorIndex := 19, attributes := #[] }] 33 16 #[] #[{ accessFlags := 24, nameIndex := 28, descriptorIndex := 29, attributes := #[] }, { accessFlags := 26, nameIndex := 38, descriptorIndex := 39, attributes := #[] }, { accessFlags := 25, nameIndex := 121, descriptorIndex := 25, attributes := #[] }, { accessFlags := 25, nameIndex := 131, descriptorIndex := 25, attributes := #[] }, { accessFlags := 25, nameIndex := 137, descriptorIndex := 25, attributes := #[] }, { accessFlags := 25, nameIndex := 143, descriptorIndex := 25, attributes := #[] }, { accessFlags := 25, nameIndex := 53, descriptorIndex := 25, attributes := #[] }, { accessFlags := 25, nameIndex := 24, descriptorIndex := 25, attributes := #[] }, { accessFlags := 25, nameIndex := 162, descriptorIndex := 25, attributes := #[] }, { accessFlags := 25, nameIndex := 187, descriptorIndex := 25, attributes := #[] }, { accessFlags := 26, nameIndex := 48, descriptorIndex := 25, attributes := #[] }, { accessFlags := 25, nameIndex := 277, descriptorIndex := 25, attributes := #[] }, { accessFlags := 25, nameIndex := 280, descriptorIndex := 25, attributes := #[] }, { accessFlags := 25, nameIndex := 282, descriptorIndex := 25, attributes := #[] }, { accessFlags := 25, nameIndex := 284, descriptorIndex := 25, attributes := #[] }, { accessFlags := 25, nameIndex := 286, descriptorIndex := 25, attributes := #[] }, { accessFlags := 25, nameIndex := 288, descriptorIndex := 25, attributes := #[] }, { accessFlags := 25, nameIndex := 290, descriptorIndex := 25, attributes := #[] }, { accessFlags := 25, nameIndex := 292, descriptorIndex := 25, attributes := #[] }, { accessFlags := 26, nameIndex := 108, descriptorIndex := 109, attributes := #[] }, { accessFlags := 25, nameIndex := 294, descriptorIndex := 25, attributes := #[] }])
  fields := #[{ name := "U", type := (.object "jdk/internal/misc/Unsafe"), accessFlags := 24, slot := 0, constantValue := 0 }, { name := "BIG_ENDIAN", type := .boolean, accessFlags := 26, slot := 1, constantValue := 0 }, { name := "LOG2_ARRAY_BOOLEAN_INDEX_SCALE", type := .int, accessFlags := 25, slot := 2, constantValue := 0 }, { name := "LOG2_ARRAY_BYTE_INDEX_SCALE", type := .int, accessFlags := 25, slot := 3, constantValue := 0 }, { name := "LOG2_ARRAY_CHAR_INDEX_SCALE", type := .int, accessFlags := 25, slot := 4, constantValue := 0 }, { name := "LOG2_ARRAY_SHORT_INDEX_SCALE", type := .int, accessFlags := 25, slot := 5, constantValue := 0 }, { name := "LOG2_ARRAY_INT_INDEX_SCALE", type := .int, accessFlags := 25, slot := 6, constantValue := 0 }, { name := "LOG2_ARRAY_LONG_INDEX_SCALE", type := .int, accessFlags := 25, slot := 7, constantValue := 0 }, { name := "LOG2_ARRAY_FLOAT_INDEX_SCALE", type := .int, accessFlags := 25, slot := 8, constantValue := 0 }, { name := "LOG2_ARRAY_DOUBLE_INDEX_SCALE", type := .int, accessFlags := 25, slot := 9, constantValue := 0 }, { name := "LOG2_BYTE_BIT_SIZE", type := .int, accessFlags := 26, slot := 10, constantValue := 0 }, { name := "T_BOOLEAN", type := .int, accessFlags := 25, slot := 11, constantValue := 0 }, { name := "T_CHAR", type := .int, accessFlags := 25, slot := 12, constantValue := 0 }, { name := "T_FLOAT", type := .int, accessFlags := 25, slot := 13, constantValue := 0 }, { name := "T_DOUBLE", type := .int, accessFlags := 25, slot := 14, constantValue := 0 }, { name := "T_BYTE", type := .int, accessFlags := 25, slot := 15, constantValue := 0 }, { name := "T_SHORT", type := .int, accessFlags := 25, slot := 16, constantValue := 0 }, { name := "T_INT", type := .int, accessFlags := 25, slot := 17, constantValue := 0 }, { name := "T_LONG", type := .int, accessFlags := 25, slot := 18, constantValue := 0 }, { name := "JLA", type := (.object "jdk/internal/access/JavaLangAccess"), accessFlags := 26, slot := 19, constantValue := 0 }, { name := "SOFT_MAX_ARRAY_LENGTH", type := .int, accessFlags := 25, slot := 20, constantValue := 0 }]
  methods := #[k12m0]
  instanceTypes := #[]
  staticTypes := #[(.object "jdk/internal/misc/Unsafe"), .boolean, .int, .int, .int, .int, .int, .int, .int, .int, .int, .int, .int, .int, .int, .int, .int, .int, .int, (.object "jdk/internal/access/JavaLangAccess"), .int]
  resolved := Array.replicate 378 none
  statics := none }

def pool13 : Array CpInfo := pool [(1, u "java/lang/Cloneable"), (0, .class_ 1), (0, u "java/lang/Object"), (0, .class_ 3)] 3

/-- java/lang/Cloneable -/
def k13 : Class := { plain "java/lang/Cloneable" (some 0) with
  accessFlags := 1537
  interfaces := #[]
  cf := some (fileOf pool13 2 #[] #[] 1537 4 #[] #[])
  fields := #[]
  methods := #[]
  instanceTypes := #[]
  staticTypes := #[]
  resolved := Array.replicate 8 none
  statics := none }

/-- the primitive byte -/
def k14 : Class := { plain "byte" none with kind := .primitive 'B', accessFlags := 0x411 }
/-- [B -/
def k15 : Class := { plain "[B" (some 0) with kind := .array 14 .byte, interfaces := #[13, 2], accessFlags := 1041 }

/-- the primitive char -/
def k16 : Class := { plain "char" none with kind := .primitive 'C', accessFlags := 0x411 }
/-- [C -/
def k17 : Class := { plain "[C" (some 0) with kind := .array 16 .char, interfaces := #[13, 2], accessFlags := 1041 }

/-- the primitive int -/
def k18 : Class := { plain "int" none with kind := .primitive 'I', accessFlags := 0x411 }
/-- [I -/
def k19 : Class := { plain "[I" (some 0) with kind := .array 18 .int, interfaces := #[13, 2], accessFlags := 1041 }

def heap : Heap := #[{ cls := 7, slots := #[.long 0, .int 1, .null, .int 0, .null, .int 0, .int 0], vm := .statics 7 },
  { cls := 9, slots := #[.int 0, .int 8, .int 0, .int 1], vm := .statics 9 },
  { cls := 11, slots := #[.null, .null, .null], vm := .statics 11 }]
def classes : Array Class := #[k0, k1, k2, k3, k4, k5, k6, k7, k8, k9, k10, k11, k12, k13, k14, k15, k16, k17, k18, k19]
def interned : List (Array UInt16 × Addr) := []
def slotsUsed : Nat := 14
def theMethod : MethodId := ⟨1, 3⟩
def args0 : Array Value := #[.int 5, .int 3, .int 2, .int 1, .int 2]
def aboutOver (below : List Frame) : State where
  vm := { classes := classes, interned := interned.toArray }
  heap := heap
  slotsUsed := slotsUsed
  threads := #[{ frames := .invoking theMethod args0 :: below }]
def below0 : List Frame := [.native { method := ⟨0, 0⟩, args := #[] }]
def about1 : State := aboutOver below0
def p0 : Program := .bare "" "" ""
def e0 : Env := launch0.env 0 0 0
theorem w_frames : about1.frames = Frame.invoking theMethod args0 :: below0 := rfl
set_option maxRecDepth 65536 in
theorem w_args : argsFit about1.vm theMethod args0 = true := by decide +kernel
set_option maxRecDepth 65536 in
theorem w_heap : heapFits about1 = true := by decide +kernel
set_option maxRecDepth 65536 in
theorem w_runnable : about1.curStatus? = some .runnable := by decide +kernel
set_option maxRecDepth 65536 in
theorem w_alone : about1.alone = true := by decide +kernel
set_option maxRecDepth 65536 in
theorem w_named : about1.methodNamed? x = some theMethod := by decide +kernel
set_option maxRecDepth 65536 in
theorem w_hears : about1.hears theMethod below0 = true := by decide +kernel
set_option maxRecDepth 65536 in
theorem w_ripe : about1.ripe theMethod args0 below0 = true := by decide +kernel
theorem w_running : about1.status = .running := rfl
set_option maxRecDepth 65536 in
theorem w_room : about1.hasRoom e0.platform room_1 = true :=
  launch0.hasRoom_least _ room_1 (by decide +kernel) (by decide +kernel) (by decide +kernel) (by decide +kernel) (by decide +kernel) (by decide +kernel)
theorem allAtoms_all (ts : List Jvm.Cond) (a : Array Jvm.Value) (st : Jvm.State) : (allAtoms ts).before a st = ts.all (fun c => c.before a st) := by
  induction ts with
  | nil => rfl
  | cons c t ih =>
    show (Jvm.Cond.and c (allAtoms t)).before a st = _
    rw [Jvm.Cond.before_and, ih, List.all_cons]
def words1 : List Jvm.Cond := Jvm.Cond.code x code maxLocals ret :: tables_1
/-- a 'code' word, met by the world's own term for the bytes: nothing is compared byte by byte -/
theorem code_word {y : MethodName} {bytes : ByteArray} {mx : Nat} {rt : Option FieldType} {a : Array Value} {s : State} {m : MethodId} {meth : Method} {c : Code} (h1 : s.methodNamed? y = some m) (h2 : s.vm.method? m = some meth) (h3 : meth.code = some c) (h4 : c.code = bytes)
    (h5 : (c.maxLocals == mx && c.exceptionTable.isEmpty && decide (c.maxStack ≤ mostOperands) && decide (meth.sig.returnType = rt) && !meth.locks && decide (parseMethodDescriptor y.desc = some meth.sig)) = true) : (Jvm.Cond.code y bytes mx rt).before a s = true := by
  simp only [Bool.and_eq_true, beq_iff_eq, Bool.not_eq_true', decide_eq_true_eq] at h5
  obtain ⟨⟨⟨⟨⟨g1, g2⟩, g3⟩, g4⟩, g5⟩, g6⟩ := h5
  simp [Cond.before, Cond.holds, Cond.value, h1, h2, h3, h4, g1, g2, g3, g4, g5, g6]
def isCode : Jvm.Cond → Bool
  | .code _ _ _ _ => true
  | _ => false
theorem all_split {L : List Jvm.Cond} {P : Jvm.Cond → Bool} (h1 : L.all (fun c => isCode c || P c) = true) (h2 : ∀ c ∈ L.filter isCode, P c = true) : L.all P = true := by
  refine List.all_eq_true.mpr fun c hc => ?_
  have h := List.all_eq_true.mp h1 c hc
  rcases Bool.eq_false_or_eq_true (isCode c) with hi | hi
  · exact h2 c (List.mem_filter.mpr ⟨hc, hi⟩)
  · simpa [hi] using h
set_option maxRecDepth 65536 in
theorem w_c0 : (Jvm.Cond.code x code maxLocals ret).before args0 about1 = true := code_word (m := ⟨1, 3⟩) (meth := k1m3) (c := k1c3) (by decide +kernel) rfl rfl rfl (by decide +kernel)
set_option maxRecDepth 65536 in
theorem w_c1 : (Jvm.Cond.code ({ cls := "com/example/everrow/everrow/csv/CsvWriterFitsTabSeparatedPinLaw", name := "draw", desc := "(I)C" } : Jvm.MethodName) method_2_code (1 : Nat) (Option.some Jvm.ClassFile.FieldType.char)).before args0 about1 = true := code_word (m := ⟨1, 1⟩) (meth := k1m1) (c := k1c1) (by decide +kernel) rfl rfl rfl (by decide +kernel)
set_option maxRecDepth 65536 in
theorem w_c2 : (Jvm.Cond.code ({ cls := "java/lang/String", name := "<init>", desc := "([C)V" } : Jvm.MethodName) jdk_42_method_3_code (2 : Nat) (Option.none : Option Jvm.ClassFile.FieldType)).before args0 about1 = true := code_word (m := ⟨7, 1⟩) (meth := k7m1) (c := k7c1) (by decide +kernel) rfl rfl rfl (by decide +kernel)
set_option maxRecDepth 65536 in
theorem w_c3 : (Jvm.Cond.code ({ cls := "java/lang/String", name := "<init>", desc := "([CIILjava/lang/Void;)V" } : Jvm.MethodName) jdk_42_method_149_code (6 : Nat) (Option.none : Option Jvm.ClassFile.FieldType)).before args0 about1 = true := code_word (m := ⟨7, 4⟩) (meth := k7m4) (c := k7c4) (by decide +kernel) rfl rfl rfl (by decide +kernel)
set_option maxRecDepth 65536 in
theorem w_c4 : (Jvm.Cond.code ({ cls := "java/lang/Object", name := "<init>", desc := "()V" } : Jvm.MethodName) object_method_1_code (1 : Nat) (Option.none : Option Jvm.ClassFile.FieldType)).before args0 about1 = true := code_word (m := ⟨0, 0⟩) (meth := k0m0) (c := k0c0) (by decide +kernel) rfl rfl rfl (by decide +kernel)
set_option maxRecDepth 65536 in
theorem w_c5 : (Jvm.Cond.code ({ cls := "com/example/everrow/everrow/csv/CsvWriter", name := "fitsTabSeparated", desc := "(Ljava/lang/String;)Z" } : Jvm.MethodName) prog_58_method_4_code (3 : Nat) (Option.some Jvm.ClassFile.FieldType.boolean)).before args0 about1 = true := code_word (m := ⟨8, 0⟩) (meth := k8m0) (c := k8c0) (by decide +kernel) rfl rfl rfl (by decide +kernel)
set_option maxRecDepth 65536 in
theorem w_c6 : (Jvm.Cond.code ({ cls := "java/lang/String", name := "length", desc := "()I" } : Jvm.MethodName) jdk_42_method_54_code (1 : Nat) (Option.some Jvm.ClassFile.FieldType.int)).before args0 about1 = true := code_word (m := ⟨7, 2⟩) (meth := k7m2) (c := k7c2) (by decide +kernel) rfl rfl rfl (by decide +kernel)
set_option maxRecDepth 65536 in
theorem w_c7 : (Jvm.Cond.code ({ cls := "java/lang/String", name := "coder", desc := "()B" } : Jvm.MethodName) jdk_42_method_152_code (1 : Nat) (Option.some Jvm.ClassFile.FieldType.byte)).before args0 about1 = true := code_word (m := ⟨7, 5⟩) (meth := k7m5) (c := k7c5) (by decide +kernel) rfl rfl rfl (by decide +kernel)
set_option maxRecDepth 65536 in
theorem w_c8 : (Jvm.Cond.code ({ cls := "java/lang/StringUTF16", name := "compress", desc := "([CII)[B" } : Jvm.MethodName) jdk_52_method_16_code (6 : Nat) (Option.some (Jvm.ClassFile.FieldType.array Jvm.ClassFile.FieldType.byte))).before args0 about1 = true := code_word (m := ⟨9, 8⟩) (meth := k9m8) (c := k9c8) (by decide +kernel) rfl rfl rfl (by decide +kernel)
set_option maxRecDepth 65536 in
theorem w_c9 : (Jvm.Cond.code ({ cls := "java/lang/StringUTF16", name := "compress", desc := "([CI[BII)I" } : Jvm.MethodName) jdk_52_method_21_code (7 : Nat) (Option.some Jvm.ClassFile.FieldType.int)).before args0 about1 = true := code_word (m := ⟨9, 9⟩) (meth := k9m9) (c := k9c9) (by decide +kernel) rfl rfl rfl (by decide +kernel)
set_option maxRecDepth 65536 in
theorem w_c10 : (Jvm.Cond.code ({ cls := "java/lang/StringUTF16", name := "coderFromArrayLen", desc := "([BI)B" } : Jvm.MethodName) jdk_52_method_15_code (2 : Nat) (Option.some Jvm.ClassFile.FieldType.byte)).before args0 about1 = true := code_word (m := ⟨9, 7⟩) (meth := k9m7) (c := k9c7) (by decide +kernel) rfl rfl rfl (by decide +kernel)
set_option maxRecDepth 65536 in
theorem w_c11 : (Jvm.Cond.code ({ cls := "com/example/everrow/everrow/csv/CsvWriterFitsTabSeparatedPinLaw", name := "breaks", desc := "(C)Z" } : Jvm.MethodName) method_3_code (1 : Nat) (Option.some Jvm.ClassFile.FieldType.boolean)).before args0 about1 = true := code_word (m := ⟨1, 2⟩) (meth := k1m2) (c := k1c2) (by decide +kernel) rfl rfl rfl (by decide +kernel)
set_option maxRecDepth 65536 in
theorem w_c12 : (Jvm.Cond.code ({ cls := "java/lang/String", name := "charAt", desc := "(I)C" } : Jvm.MethodName) jdk_42_method_56_code (2 : Nat) (Option.some Jvm.ClassFile.FieldType.char)).before args0 about1 = true := code_word (m := ⟨7, 3⟩) (meth := k7m3) (c := k7c3) (by decide +kernel) rfl rfl rfl (by decide +kernel)
set_option maxRecDepth 65536 in
theorem w_c13 : (Jvm.Cond.code ({ cls := "java/lang/String", name := "isLatin1", desc := "()Z" } : Jvm.MethodName) jdk_42_method_154_code (1 : Nat) (Option.some Jvm.ClassFile.FieldType.boolean)).before args0 about1 = true := code_word (m := ⟨7, 6⟩) (meth := k7m6) (c := k7c6) (by decide +kernel) rfl rfl rfl (by decide +kernel)
set_option maxRecDepth 65536 in
theorem w_c14 : (Jvm.Cond.code ({ cls := "java/lang/StringLatin1", name := "charAt", desc := "([BI)C" } : Jvm.MethodName) jdk_43_method_2_code (2 : Nat) (Option.some Jvm.ClassFile.FieldType.char)).before args0 about1 = true := code_word (m := ⟨10, 1⟩) (meth := k10m1) (c := k10c1) (by decide +kernel) rfl rfl rfl (by decide +kernel)
set_option maxRecDepth 65536 in
theorem w_c15 : (Jvm.Cond.code ({ cls := "java/lang/String", name := "checkIndex", desc := "(II)V" } : Jvm.MethodName) jdk_42_method_155_code (2 : Nat) (Option.none : Option Jvm.ClassFile.FieldType)).before args0 about1 = true := code_word (m := ⟨7, 7⟩) (meth := k7m7) (c := k7c7) (by decide +kernel) rfl rfl rfl (by decide +kernel)
set_option maxRecDepth 65536 in
theorem w_c16 : (Jvm.Cond.code ({ cls := "jdk/internal/util/Preconditions", name := "checkIndex", desc := "(IILjava/util/function/BiFunction;)I" } : Jvm.MethodName) jdk_41_method_11_code (3 : Nat) (Option.some Jvm.ClassFile.FieldType.int)).before args0 about1 = true := code_word (m := ⟨11, 1⟩) (meth := k11m1) (c := k11c1) (by decide +kernel) rfl rfl rfl (by decide +kernel)
set_option maxRecDepth 65536 in
theorem w_c17 : (Jvm.Cond.code ({ cls := "java/lang/StringUTF16", name := "toBytes", desc := "([CII)[B" } : Jvm.MethodName) jdk_52_method_14_code (5 : Nat) (Option.some (Jvm.ClassFile.FieldType.array Jvm.ClassFile.FieldType.byte))).before args0 about1 = true := code_word (m := ⟨9, 6⟩) (meth := k9m6) (c := k9c6) (by decide +kernel) rfl rfl rfl (by decide +kernel)
set_option maxRecDepth 65536 in
theorem w_c18 : (Jvm.Cond.code ({ cls := "java/lang/StringUTF16", name := "newBytesFor", desc := "(I)[B" } : Jvm.MethodName) jdk_52_method_2_code (1 : Nat) (Option.some (Jvm.ClassFile.FieldType.array Jvm.ClassFile.FieldType.byte))).before args0 about1 = true := code_word (m := ⟨9, 1⟩) (meth := k9m1) (c := k9c1) (by decide +kernel) rfl rfl rfl (by decide +kernel)
set_option maxRecDepth 65536 in
theorem w_c19 : (Jvm.Cond.code ({ cls := "java/lang/StringUTF16", name := "newBytesLength", desc := "(I)I" } : Jvm.MethodName) jdk_52_method_3_code (1 : Nat) (Option.some Jvm.ClassFile.FieldType.int)).before args0 about1 = true := code_word (m := ⟨9, 2⟩) (meth := k9m2) (c := k9c2) (by decide +kernel) rfl rfl rfl (by decide +kernel)
set_option maxRecDepth 65536 in
theorem w_c20 : (Jvm.Cond.code ({ cls := "java/lang/StringUTF16", name := "putChar", desc := "([BII)V" } : Jvm.MethodName) jdk_52_method_4_code (3 : Nat) (Option.none : Option Jvm.ClassFile.FieldType)).before args0 about1 = true := code_word (m := ⟨9, 3⟩) (meth := k9m3) (c := k9c3) (by decide +kernel) rfl rfl rfl (by decide +kernel)
set_option maxRecDepth 65536 in
theorem w_c21 : (Jvm.Cond.code ({ cls := "java/lang/StringUTF16", name := "getChar", desc := "([BI)C" } : Jvm.MethodName) jdk_52_method_5_code (2 : Nat) (Option.some Jvm.ClassFile.FieldType.char)).before args0 about1 = true := code_word (m := ⟨9, 4⟩) (meth := k9m4) (c := k9c4) (by decide +kernel) rfl rfl rfl (by decide +kernel)
set_option maxRecDepth 65536 in
theorem w_c22 : (Jvm.Cond.code ({ cls := "java/lang/StringUTF16", name := "charAt", desc := "([BI)C" } : Jvm.MethodName) jdk_52_method_83_code (2 : Nat) (Option.some Jvm.ClassFile.FieldType.char)).before args0 about1 = true := code_word (m := ⟨9, 10⟩) (meth := k9m10) (c := k9c10) (by decide +kernel) rfl rfl rfl (by decide +kernel)
set_option maxRecDepth 65536 in
theorem w_c23 : (Jvm.Cond.code ({ cls := "java/lang/StringUTF16", name := "checkIndex", desc := "(I[B)V" } : Jvm.MethodName) jdk_52_method_91_code (2 : Nat) (Option.none : Option Jvm.ClassFile.FieldType)).before args0 about1 = true := code_word (m := ⟨9, 11⟩) (meth := k9m11) (c := k9c11) (by decide +kernel) rfl rfl rfl (by decide +kernel)
set_option maxRecDepth 65536 in
theorem w_c24 : (Jvm.Cond.code ({ cls := "java/lang/StringUTF16", name := "length", desc := "([B)I" } : Jvm.MethodName) jdk_52_method_6_code (1 : Nat) (Option.some Jvm.ClassFile.FieldType.int)).before args0 about1 = true := code_word (m := ⟨9, 5⟩) (meth := k9m5) (c := k9c5) (by decide +kernel) rfl rfl rfl (by decide +kernel)
def codes1 : List Jvm.Cond := [Jvm.Cond.code x code maxLocals ret, Jvm.Cond.code ({ cls := "com/example/everrow/everrow/csv/CsvWriterFitsTabSeparatedPinLaw", name := "draw", desc := "(I)C" } : Jvm.MethodName) method_2_code (1 : Nat) (Option.some Jvm.ClassFile.FieldType.char), Jvm.Cond.code ({ cls := "java/lang/String", name := "<init>", desc := "([C)V" } : Jvm.MethodName) jdk_42_method_3_code (2 : Nat) (Option.none : Option Jvm.ClassFile.FieldType), Jvm.Cond.code ({ cls := "java/lang/String", name := "<init>", desc := "([CIILjava/lang/Void;)V" } : Jvm.MethodName) jdk_42_method_149_code (6 : Nat) (Option.none : Option Jvm.ClassFile.FieldType), Jvm.Cond.code ({ cls := "java/lang/Object", name := "<init>", desc := "()V" } : Jvm.MethodName) object_method_1_code (1 : Nat) (Option.none : Option Jvm.ClassFile.FieldType), Jvm.Cond.code ({ cls := "com/example/everrow/everrow/csv/CsvWriter", name := "fitsTabSeparated", desc := "(Ljava/lang/String;)Z" } : Jvm.MethodName) prog_58_method_4_code (3 : Nat) (Option.some Jvm.ClassFile.FieldType.boolean), Jvm.Cond.code ({ cls := "java/lang/String", name := "length", desc := "()I" } : Jvm.MethodName) jdk_42_method_54_code (1 : Nat) (Option.some Jvm.ClassFile.FieldType.int), Jvm.Cond.code ({ cls := "java/lang/String", name := "coder", desc := "()B" } : Jvm.MethodName) jdk_42_method_152_code (1 : Nat) (Option.some Jvm.ClassFile.FieldType.byte), Jvm.Cond.code ({ cls := "java/lang/StringUTF16", name := "compress", desc := "([CII)[B" } : Jvm.MethodName) jdk_52_method_16_code (6 : Nat) (Option.some (Jvm.ClassFile.FieldType.array Jvm.ClassFile.FieldType.byte)), Jvm.Cond.code ({ cls := "java/lang/StringUTF16", name := "compress", desc := "([CI[BII)I" } : Jvm.MethodName) jdk_52_method_21_code (7 : Nat) (Option.some Jvm.ClassFile.FieldType.int), Jvm.Cond.code ({ cls := "java/lang/StringUTF16", name := "coderFromArrayLen", desc := "([BI)B" } : Jvm.MethodName) jdk_52_method_15_code (2 : Nat) (Option.some Jvm.ClassFile.FieldType.byte), Jvm.Cond.code ({ cls := "com/example/everrow/everrow/csv/CsvWriterFitsTabSeparatedPinLaw", name := "breaks", desc := "(C)Z" } : Jvm.MethodName) method_3_code (1 : Nat) (Option.some Jvm.ClassFile.FieldType.boolean), Jvm.Cond.code ({ cls := "java/lang/String", name := "charAt", desc := "(I)C" } : Jvm.MethodName) jdk_42_method_56_code (2 : Nat) (Option.some Jvm.ClassFile.FieldType.char), Jvm.Cond.code ({ cls := "java/lang/String", name := "isLatin1", desc := "()Z" } : Jvm.MethodName) jdk_42_method_154_code (1 : Nat) (Option.some Jvm.ClassFile.FieldType.boolean), Jvm.Cond.code ({ cls := "java/lang/StringLatin1", name := "charAt", desc := "([BI)C" } : Jvm.MethodName) jdk_43_method_2_code (2 : Nat) (Option.some Jvm.ClassFile.FieldType.char), Jvm.Cond.code ({ cls := "java/lang/String", name := "checkIndex", desc := "(II)V" } : Jvm.MethodName) jdk_42_method_155_code (2 : Nat) (Option.none : Option Jvm.ClassFile.FieldType), Jvm.Cond.code ({ cls := "jdk/internal/util/Preconditions", name := "checkIndex", desc := "(IILjava/util/function/BiFunction;)I" } : Jvm.MethodName) jdk_41_method_11_code (3 : Nat) (Option.some Jvm.ClassFile.FieldType.int), Jvm.Cond.code ({ cls := "java/lang/StringUTF16", name := "toBytes", desc := "([CII)[B" } : Jvm.MethodName) jdk_52_method_14_code (5 : Nat) (Option.some (Jvm.ClassFile.FieldType.array Jvm.ClassFile.FieldType.byte)), Jvm.Cond.code ({ cls := "java/lang/StringUTF16", name := "newBytesFor", desc := "(I)[B" } : Jvm.MethodName) jdk_52_method_2_code (1 : Nat) (Option.some (Jvm.ClassFile.FieldType.array Jvm.ClassFile.FieldType.byte)), Jvm.Cond.code ({ cls := "java/lang/StringUTF16", name := "newBytesLength", desc := "(I)I" } : Jvm.MethodName) jdk_52_method_3_code (1 : Nat) (Option.some Jvm.ClassFile.FieldType.int), Jvm.Cond.code ({ cls := "java/lang/StringUTF16", name := "putChar", desc := "([BII)V" } : Jvm.MethodName) jdk_52_method_4_code (3 : Nat) (Option.none : Option Jvm.ClassFile.FieldType), Jvm.Cond.code ({ cls := "java/lang/StringUTF16", name := "getChar", desc := "([BI)C" } : Jvm.MethodName) jdk_52_method_5_code (2 : Nat) (Option.some Jvm.ClassFile.FieldType.char), Jvm.Cond.code ({ cls := "java/lang/StringUTF16", name := "charAt", desc := "([BI)C" } : Jvm.MethodName) jdk_52_method_83_code (2 : Nat) (Option.some Jvm.ClassFile.FieldType.char), Jvm.Cond.code ({ cls := "java/lang/StringUTF16", name := "checkIndex", desc := "(I[B)V" } : Jvm.MethodName) jdk_52_method_91_code (2 : Nat) (Option.none : Option Jvm.ClassFile.FieldType), Jvm.Cond.code ({ cls := "java/lang/StringUTF16", name := "length", desc := "([B)I" } : Jvm.MethodName) jdk_52_method_6_code (1 : Nat) (Option.some Jvm.ClassFile.FieldType.int)]
set_option maxRecDepth 65536 in
theorem codes_eq : words1.filter isCode = codes1 := rfl
theorem w_codes : ∀ c ∈ words1.filter isCode, c.before args0 about1 = true := by
  rw [codes_eq]
  intro c hc
  simp only [codes1, List.mem_cons, List.not_mem_nil, or_false] at hc
  rcases hc with rfl | rfl | rfl | rfl | rfl | rfl | rfl | rfl | rfl | rfl | rfl | rfl | rfl | rfl | rfl | rfl | rfl | rfl | rfl | rfl | rfl | rfl | rfl | rfl | rfl
  · exact w_c0
  · exact w_c1
  · exact w_c2
  · exact w_c3
  · exact w_c4
  · exact w_c5
  · exact w_c6
  · exact w_c7
  · exact w_c8
  · exact w_c9
  · exact w_c10
  · exact w_c11
  · exact w_c12
  · exact w_c13
  · exact w_c14
  · exact w_c15
  · exact w_c16
  · exact w_c17
  · exact w_c18
  · exact w_c19
  · exact w_c20
  · exact w_c21
  · exact w_c22
  · exact w_c23
  · exact w_c24
set_option maxRecDepth 65536 in
theorem w_t1 : (words1.take 24).all (fun c => isCode c || c.before args0 about1) = true := by decide +kernel
set_option maxRecDepth 65536 in
theorem w_t2 : ((words1.drop 24).take 24).all (fun c => isCode c || c.before args0 about1) = true := by decide +kernel
set_option maxRecDepth 65536 in
theorem w_t3 : (((words1.drop 24).drop 24).take 24).all (fun c => isCode c || c.before args0 about1) = true := by decide +kernel
set_option maxRecDepth 65536 in
theorem w_t4 : ((((words1.drop 24).drop 24).drop 24).take 24).all (fun c => isCode c || c.before args0 about1) = true := by decide +kernel
set_option maxRecDepth 65536 in
theorem w_t5 : ((((words1.drop 24).drop 24).drop 24).drop 24).all (fun c => isCode c || c.before args0 about1) = true := by decide +kernel
theorem w_tables : (allAtoms (Jvm.Cond.code x code maxLocals ret :: tables_1)).before args0 about1 = true := by
  rw [allAtoms_all]
  show words1.all (fun c => c.before args0 about1) = true
  refine all_split ?_ w_codes
  rw [← List.take_append_drop 24 words1, List.all_append, w_t1, ← List.take_append_drop 24 (words1.drop 24), List.all_append, w_t2, ← List.take_append_drop 24 ((words1.drop 24).drop 24), List.all_append, w_t3, ← List.take_append_drop 24 (((words1.drop 24).drop 24).drop 24), List.all_append, w_t4, w_t5]
  rfl
set_option maxRecDepth 65536 in
theorem w_rest : rest_1_c.before args0 about1 = true := by decide +kernel
set_option maxRecDepth 65536 in
theorem w_case : (Jvm.Cond.and given_1 narrow_1).before args0 about1 = true := by decide +kernel
set_option maxRecDepth 65536 in
theorem w_consts : constsHeld consts_1 about1 := Jvm.Lit.constsHeldB_iff.mp (by decide +kernel)
theorem w_applies : (headSpec (Jvm.Cond.code x code maxLocals ret :: tables_1) room_1).applies x e0.platform about1 = true :=
  (Spec.applies_iff w_frames).mpr ⟨w_running, w_runnable, w_alone, w_named, w_hears, w_ripe, w_room, w_tables⟩
theorem atStart : AtStart classFile x code maxLocals ret World_1 tables_1 room_1 Calls_1 rest_1 Pre_1 launch0 p0 e0 about1 theMethod args0 below0 :=
  ⟨lists_1, trivial, launch0.admits_env _ _ _, launch0.least_env, fairChoices_fair.cas, fairChoices_fair.clock, w_frames, w_args, w_heap, w_applies, ⟨w_consts, trivial⟩, w_rest, w_case⟩
end start1
theorem witness_1 : WitnessClaimed_1 := ⟨start1.p0, start1.e0, start1.about1, start1.theMethod, start1.args0, start1.below0, start1.atStart⟩
end Jvm.Pilot.@@N@@
