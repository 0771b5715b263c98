import JvmDerived
import JvmDerived.Pilot.@@N@@Statement
import JvmDerived.Pilot.@@N@@Code
set_option linter.unusedVariables false
set_option linter.unusedSimpArgs false
namespace Jvm.Pilot.@@N@@
open Jvm Jvm.ClassFile Sem Op Lib Jvm.Free Jvm.Stand Jvm.LawKit Jvm.RoadKit Bundle Jvm.Pilot.@@N@@.Jvm.D
section OwnKit
variable {p : Program} {l : Launch} {e : Env} {R : Room} {s : State} {m : MethodId} {args : Array Value} {below : List Frame} {meth : Method} {c : Code} {T : State} {locs : List Loc} {cells slots : Nat}
/-- from T the run comes to an end of which F holds -/
def own_Go (p : Program) (e : Env) (below : List Frame) (F : State → Outcome → Prop) (T : State) : Prop := ∃ t o, Steps p.tables e below T t ∧ t.status = .running ∧ Ended t below o ∧ F t o
theorem own_step {F : State → Outcome → Prop} {A B : State} (k : ∀ t, Steps p.tables e below A t → Steps p.tables e below B t) (h : own_Go p e below F A) : own_Go p e below F B := by
  obtain ⟨t, o, h1, h2⟩ := h
  exact ⟨t, o, k t h1, h2⟩
theorem own_in {F : State → Outcome → Prop} {A B : State} (k : ∀ {t}, Steps p.tables e below A t → Steps p.tables e below B t) (h : own_Go p e below F A) : ∃ t o, Steps p.tables e below B t ∧ t.status = .running ∧ Ended t below o ∧ F t o := by
  obtain ⟨t, o, h1, h2⟩ := h
  exact ⟨t, o, k h1, h2⟩
theorem own_retI (X : Stand p l e R s m args below meth c T locs cells slots) (hx : p.tables.exec = Jvm.exec) {pc : Nat} {Ls : Array Slot} {z : Int32} {rest : List Value} (hret : meth.sig.returnType = some .int) (hd : decode c.code pc = .ok (.ireturn, 1)) {fs : List Frame}
    (hl : ∀ (f : JFrame) (acts : List Action), f.method = m → f.locked = none → f.entered = [] → (doReturn e (T.setTop f) acts (some (.int z))).1 = T.setFrames fs) : Steps p.tables e below (T.setTop (mkF m pc Ls (.int z :: rest))) (T.setFrames fs) :=
  retOut X hx hret rfl (Or.inl ⟨rfl, Or.inl rfl, _, rfl⟩) hd hl
theorem own_join {α : Type} {F : State → Outcome → Prop} {B : State} {H : Heap} (X : Stand p l e R s m args below meth c T locs cells slots) (eT : T.heap = H) (A : State → α → State) (Pr : α → Prop)
    (h1 : ∀ T' a, Stand p l e R s m args below meth c T' locs cells slots → T'.heap = H → Pr a → own_Go p e below F (A T' a))
    (h2 : (∀ T' a, Stand p l e R s m args below meth c T' locs cells slots → T'.heap = H → Pr a → own_Go p e below F (A T' a)) → own_Go p e below F B) : own_Go p e below F B := h2 h1
theorem own_sta {args : Array Value} {s : State} {C n d K : String} (h : (Jvm.Cond.exactly (.static C n d) K).value args s none s [] = some true) (w1 : (Jvm.Cond.initialized C).before args s = true) (w2 : (Jvm.Cond.laysStatic C n d).before args s = true) :
    ∃ a, (Term.static C n d).eval args s none [] s = some (.ref a) ∧ Sta s s.heap C n d (.ref a) ∧ Exa s s.heap a K := by
  obtain ⟨a, ea⟩ := exa_v h
  exact ⟨a, ea, Sta.start ea (Or.inr ⟨w1, w2⟩), Exa.start ea h⟩
theorem own_staF {args : Array Value} {s : State} {t : Term} {C n d : String} {a : Addr} {k : Int32} (ea : t.eval args s none [] s = some (.ref a)) (h : (Jvm.Cond.eq (.field t C n d) (.int k)).value args s none s [] = some true) : Fld s s.heap a C n d (.int k) := by
  obtain ⟨x, y, e1, e2, -, -⟩ := cmp_v (Or.inl h)
  cases (Term.int_eval k).symm.trans e2
  have e3 : x = .int k := by
    cases x <;> simp [Cond.value, e1, Term.int_eval] at h
    rw [h]
  rw [fld_at ea, e3] at e1
  exact Fld.start e1
end OwnKit

def own_c1 (u : Int32) : Int32 := nar .char ((u &&& (255 : Int32)).toUInt32.toUInt16.toUInt32.toInt32)
def own_cc (u : Int32) : Int32 := nar .char (own_c1 u)
def own_lo (k : Int32) : Int32 := if k < 10 then 48 + k else 87 + k
def own_up (k : Int32) : Int32 := if k < 10 then 48 + k else 55 + k
def own_hex (c : Int32) : Int32 := if ¬ c < (48 : Int32) ∧ ¬ (57 : Int32) < c then c - (48 : Int32) else if ¬ c < (97 : Int32) ∧ ¬ (102 : Int32) < c then (c - (97 : Int32)) + (10 : Int32) else if ¬ c < (65 : Int32) ∧ ¬ (70 : Int32) < c then (c - (65 : Int32)) + (10 : Int32) else (-1 : Int32)
theorem own_rng {c : Int32} {a b : Int32} (h1 : ¬ c < a) (h2 : ¬ b < c) : a.toInt ≤ c.toInt ∧ c.toInt ≤ b.toInt := by
  rw [Int32.lt_iff_toInt_lt] at h1 h2
  omega
theorem own_16 {k : Int32} (h1 : ¬ k < (0 : Int32)) (h2 : k < (16 : Int32)) : k = 0 ∨ k = 1 ∨ k = 2 ∨ k = 3 ∨ k = 4 ∨ k = 5 ∨ k = 6 ∨ k = 7 ∨ k = 8 ∨ k = 9 ∨ k = 10 ∨ k = 11 ∨ k = 12 ∨ k = 13 ∨ k = 14 ∨ k = 15 := by
  rw [Int32.lt_iff_toInt_lt] at h1 h2
  have k0 : (0 : Int32).toInt = 0 := by decide
  have k1 : (16 : Int32).toInt = 16 := by decide
  have h : k.toInt = 0 ∨ k.toInt = 1 ∨ k.toInt = 2 ∨ k.toInt = 3 ∨ k.toInt = 4 ∨ k.toInt = 5 ∨ k.toInt = 6 ∨ k.toInt = 7 ∨ k.toInt = 8 ∨ k.toInt = 9 ∨ k.toInt = 10 ∨ k.toInt = 11 ∨ k.toInt = 12 ∨ k.toInt = 13 ∨ k.toInt = 14 ∨ k.toInt = 15 := by omega
  simp only [← Int32.toInt_inj]
  exact h
theorem own_lo_at {k : Int32} (h1 : ¬ k < (0 : Int32)) (h2 : k < (16 : Int32)) : ([(.int (48 : Int32)), (.int (49 : Int32)), (.int (50 : Int32)), (.int (51 : Int32)), (.int (52 : Int32)), (.int (53 : Int32)), (.int (54 : Int32)), (.int (55 : Int32)), (.int (56 : Int32)), (.int (57 : Int32)), (.int (97 : Int32)), (.int (98 : Int32)), (.int (99 : Int32)), (.int (100 : Int32)), (.int (101 : Int32)), (.int (102 : Int32))] : List Value).getD k.toNatClampNeg (.int (0 : Int32)) = .int (own_lo k) := by
  rcases own_16 h1 h2 with rfl | rfl | rfl | rfl | rfl | rfl | rfl | rfl | rfl | rfl | rfl | rfl | rfl | rfl | rfl | rfl <;> rfl
theorem own_up_at {k : Int32} (h1 : ¬ k < (0 : Int32)) (h2 : k < (16 : Int32)) : ([(.int (48 : Int32)), (.int (49 : Int32)), (.int (50 : Int32)), (.int (51 : Int32)), (.int (52 : Int32)), (.int (53 : Int32)), (.int (54 : Int32)), (.int (55 : Int32)), (.int (56 : Int32)), (.int (57 : Int32)), (.int (65 : Int32)), (.int (66 : Int32)), (.int (67 : Int32)), (.int (68 : Int32)), (.int (69 : Int32)), (.int (70 : Int32))] : List Value).getD k.toNatClampNeg (.int (0 : Int32)) = .int (own_up k) := by
  rcases own_16 h1 h2 with rfl | rfl | rfl | rfl | rfl | rfl | rfl | rfl | rfl | rfl | rfl | rfl | rfl | rfl | rfl | rfl <;> rfl
theorem own_hexlo {k : Int32} (h1 : ¬ k < (0 : Int32)) (h2 : k < (16 : Int32)) : own_hex (own_cc (own_lo k)) = k := by
  rcases own_16 h1 h2 with rfl | rfl | rfl | rfl | rfl | rfl | rfl | rfl | rfl | rfl | rfl | rfl | rfl | rfl | rfl | rfl <;> decide
theorem own_hexup {k : Int32} (h1 : ¬ k < (0 : Int32)) (h2 : k < (16 : Int32)) : own_hex (own_cc (own_up k)) = k := by
  rcases own_16 h1 h2 with rfl | rfl | rfl | rfl | rfl | rfl | rfl | rfl | rfl | rfl | rfl | rfl | rfl | rfl | rfl | rfl <;> decide
theorem own_hexcases (c : Int32) : own_hex c = -1 ∨ (¬ own_hex c < 0 ∧ own_hex c < 16 ∧ (c = own_cc (own_lo (own_hex c)) ∨ c = own_cc (own_up (own_hex c)))) := by
  unfold own_hex
  split
  · rename_i h
    have r := own_rng h.1 h.2
    have k0 : (48 : Int32).toInt = 48 := by decide
    have k1 : (57 : Int32).toInt = 57 := by decide
    have q : c.toInt = 48 ∨ c.toInt = 49 ∨ c.toInt = 50 ∨ c.toInt = 51 ∨ c.toInt = 52 ∨ c.toInt = 53 ∨ c.toInt = 54 ∨ c.toInt = 55 ∨ c.toInt = 56 ∨ c.toInt = 57 := by omega
    have q2 : c = 48 ∨ c = 49 ∨ c = 50 ∨ c = 51 ∨ c = 52 ∨ c = 53 ∨ c = 54 ∨ c = 55 ∨ c = 56 ∨ c = 57 := by
      simp only [← Int32.toInt_inj]
      exact q
    right
    rcases q2 with rfl | rfl | rfl | rfl | rfl | rfl | rfl | rfl | rfl | rfl <;> decide
  · split
    · rename_i h
      have r := own_rng h.1 h.2
      have k0 : (97 : Int32).toInt = 97 := by decide
      have k1 : (102 : Int32).toInt = 102 := by decide
      have q : c.toInt = 97 ∨ c.toInt = 98 ∨ c.toInt = 99 ∨ c.toInt = 100 ∨ c.toInt = 101 ∨ c.toInt = 102 := by omega
      have q2 : c = 97 ∨ c = 98 ∨ c = 99 ∨ c = 100 ∨ c = 101 ∨ c = 102 := by
        simp only [← Int32.toInt_inj]
        exact q
      right
      rcases q2 with rfl | rfl | rfl | rfl | rfl | rfl <;> decide
    · split
      · rename_i h
        have r := own_rng h.1 h.2
        have k0 : (65 : Int32).toInt = 65 := by decide
        have k1 : (70 : Int32).toInt = 70 := by decide
        have q : c.toInt = 65 ∨ c.toInt = 66 ∨ c.toInt = 67 ∨ c.toInt = 68 ∨ c.toInt = 69 ∨ c.toInt = 70 := by omega
        have q2 : c = 65 ∨ c = 66 ∨ c = 67 ∨ c = 68 ∨ c = 69 ∨ c = 70 := by
          simp only [← Int32.toInt_inj]
          exact q
        right
        rcases q2 with rfl | rfl | rfl | rfl | rfl | rfl <;> decide
      · exact Or.inl rfl
theorem own_x1 (c : Int32) : ¬ own_hex c < (-1 : Int32) := by
  rcases own_hexcases c with h | ⟨h, -, -⟩
  · rw [h]; decide
  · intro q
    apply h
    rw [Int32.lt_iff_toInt_lt] at q ⊢
    have k0 : (0 : Int32).toInt = 0 := by decide
    have k1 : (-1 : Int32).toInt = -1 := by decide
    omega
theorem own_x2 (c : Int32) : ¬ (15 : Int32) < own_hex c := by
  rcases own_hexcases c with h | ⟨-, h, -⟩
  · rw [h]; decide
  · intro q
    rw [Int32.lt_iff_toInt_lt] at q h
    have k0 : (15 : Int32).toInt = 15 := by decide
    have k1 : (16 : Int32).toInt = 16 := by decide
    omega
theorem own_x3 {c : Int32} (h : ¬ own_hex c < (0 : Int32)) : own_hex c < (16 : Int32) := by
  rcases own_hexcases c with q | ⟨-, q, -⟩
  · rw [q] at h; exact absurd (by decide) h
  · exact q
theorem own_x4 {c : Int32} (h : ¬ own_hex c < (0 : Int32)) (n : ¬ c = own_cc (own_lo (own_hex c))) : c = own_cc (own_up (own_hex c)) := by
  rcases own_hexcases c with q | ⟨-, -, q | q⟩
  · rw [q] at h; exact absurd (by decide) h
  · exact absurd q n
  · exact q
theorem own_k15 (y : Int32) : ¬ (y &&& (15 : Int32)) < (0 : Int32) ∧ (y &&& (15 : Int32)) < (16 : Int32) := by
  rw [Int32.lt_iff_toInt_lt, Int32.lt_iff_toInt_lt, c_mask y 15 4 (by decide) (by decide)]
  have k0 : (0 : Int32).toInt = 0 := by decide
  have k1 : (16 : Int32).toInt = 16 := by decide
  omega
theorem own_sA {Z : State} {a0 : Array Value} (hw : ∀ d ∈ tables_1, d.before a0 Z = true) : ∀ a ∈ Bundle.stringAtoms, a.before a0 Z = true := fun d hd => by
  simp only [Bundle.stringAtoms, List.mem_cons, List.not_mem_nil, or_false] at hd
  rcases hd with rfl | rfl | rfl | rfl | rfl | rfl | rfl <;> first | exact hw _ (List.mem_of_getElem? (i := 2) rfl) | exact hw _ (List.mem_of_getElem? (i := 3) rfl) | exact hw _ (List.mem_of_getElem? (i := 4) rfl) | exact hw _ (List.mem_of_getElem? (i := 5) rfl) | exact hw _ (List.mem_of_getElem? (i := 6) rfl) | exact hw _ (List.mem_of_getElem? (i := 7) rfl) | exact hw _ (List.mem_of_getElem? (i := 8) rfl)
theorem own_EW {Z : State} {a0 : Array Value} (hw : ∀ d ∈ tables_1, d.before a0 Z = true) : EW Z a0 consts_1 :=
  EW.cons (hw _ (List.mem_of_getElem? (i := 1) rfl)) (by decide) (EW.cons (hw _ (List.mem_of_getElem? (i := 9) rfl)) (by decide) EW.nil)
theorem pn_0 : plainName "jdk/internal/util/Preconditions" = true := by first | (simp [plainName, overriddenIn]; done) | decide +kernel
theorem pn_1 : plainName "java/lang/String" = true := by first | (simp [plainName, overriddenIn]; done) | decide +kernel
theorem pn_2 : plainName "java/lang/StringLatin1" = true := by first | (simp [plainName, overriddenIn]; done) | decide +kernel
theorem pn_3 : plainName "com/example/fouille/fouille/rdf/NTriplesParser" = true := by first | (simp [plainName, overriddenIn]; done) | decide +kernel
theorem pn_4 : plainName "com/example/fouille/fouille/rdf/NTriplesParserHexValuePinLaw" = true := by first | (simp [plainName, overriddenIn]; done) | decide +kernel
theorem pd_0 : parseMethodDescriptor "(IILjava/util/function/BiFunction;)I" = some ⟨[.int, .int, (.object "java/util/function/BiFunction")], some .int⟩ := by decide +kernel
theorem pd_1 : parseMethodDescriptor "(II)V" = some ⟨[.int, .int], none⟩ := by decide +kernel
theorem pd_2 : parseMethodDescriptor "()Z" = some ⟨[], some .boolean⟩ := by decide +kernel
theorem pd_3 : parseMethodDescriptor "([BI)C" = some ⟨[(.array .byte), .int], some .char⟩ := by decide +kernel
theorem pd_4 : parseMethodDescriptor "(I)Z" = some ⟨[.int], some .boolean⟩ := by decide +kernel
theorem pd_5 : parseMethodDescriptor "(I)C" = some ⟨[.int], some .char⟩ := by decide +kernel
theorem pd_6 : parseMethodDescriptor "(C)I" = some ⟨[.char], some .int⟩ := by decide +kernel
theorem d1_0 : decode jdk_41_method_11_code 0 = .ok (.iload_n 0, 1) := by decide +kernel
theorem d1_1 : decode jdk_41_method_11_code 1 = .ok (.ifCond .lt 8, 3) := by decide +kernel
theorem d1_4 : decode jdk_41_method_11_code 4 = .ok (.iload_n 0, 1) := by decide +kernel
theorem d1_5 : decode jdk_41_method_11_code 5 = .ok (.iload_n 1, 1) := by decide +kernel
theorem d1_6 : decode jdk_41_method_11_code 6 = .ok (.if_icmp .lt 10, 3) := by decide +kernel
theorem d1_16 : decode jdk_41_method_11_code 16 = .ok (.iload_n 0, 1) := by decide +kernel
theorem d1_17 : decode jdk_41_method_11_code 17 = .ok (.ireturn, 1) := by decide +kernel
theorem ef_1 (m : MethodId) (pi : Int32) (pn : Int32) (fv : Value) (h_fv : fv.isRef = true) : entryFrame m #[(.int pi), (.int pn), fv] 3 = mkF m 0 #[.val (.int pi), .val (.int pn), .val fv] [] := by
  rcases ref_cases h_fv with rfl | ⟨_, rfl⟩ <;> rfl
def Q1 (Z : State) (pi : Int32) (pn : Int32) (fv : Value) (h0 : Heap) (n0 : Nat) (v : Option Value) (h : Heap) (L : List Loc) : Prop := v = some (.int pi) ∧ Fr n0 L ∧ h = h0
set_option maxRecDepth 65536 in
set_option maxHeartbeats 40000000 in
theorem rm1 (l : Launch) (Z : State) (a0 : Array Value) (hw : ∀ d ∈ tables_1, d.before a0 Z = true) (ws : List Jvm.Cond) (pi : Int32) (pn : Int32) (fv : Value) (h0 : Heap) (n0 : Nat) (Z0 : n0 ≤ h0.size) (P0 : fv.isRef = true) (P1 : ¬ pi < (0 : Int32)) (P2 : pi < pn) :
    MetFree l (⟨"jdk/internal/util/Preconditions", "checkIndex", "(IILjava/util/function/BiFunction;)I"⟩ : MethodName) (head1 (Jvm.Cond.code (⟨"jdk/internal/util/Preconditions", "checkIndex", "(IILjava/util/function/BiFunction;)I"⟩ : MethodName) jdk_41_method_11_code 3 (some .int) :: ws) ({ frames := 0, cells := 0, slots := 0, locals := 0 } : Room)) (fun ar_ U => ar_ = #[(.int pi), (.int pn), fv] ∧ Z.Warmed39 U.vm ∧ U.heap = h0) (fun _ _ _ _ _ => True) (fun _ U oo_ U' => ∃ v L, oo_ = .returned v ∧ Q1 Z pi pn fv  h0 n0 v U'.heap L ∧ FrameEnd U oo_ U' L ({ frames := 0, cells := 0, slots := 0, locals := 0 } : Room).cells ({ frames := 0, cells := 0, slots := 0, locals := 0 } : Room).slots) := by
  refine MetFree.of_bodySF (plainFor_of_name pn_0) hisR ?_
  intro p e s m args below meth c s₁ Bd hml0 hP hK
  obtain ⟨rfl, hZ, hh⟩ := hP
  have hx := Bd.exec
  have hby := Bd.bytes
  have hml : c.maxLocals = 3 := hml0
  have hown : s.vm.findClass "jdk/internal/util/Preconditions" = some m.cls := findClass_of_methodNamed Bd.named
  have hnm := (name_of_methodNamed Bd.named Bd.method).1
  have X0 : Stand p l e ({ frames := 0, cells := 0, slots := 0, locals := 0 } : Room) s m #[(.int pi), (.int pn), fv] below meth c s₁ [] 0 0 := Stand.of_body Bd
  have e0 : s₁.heap = h0 := by rw [← hh, Bd.state]; rfl
  have N0 := Fr.nil n0
  refine own_in (castTop (ef_1 m pi pn fv P0)) ?_
  show own_Go _ _ _ _ (s₁.setTop (mkF m 0 #[.val (.int pi), .val (.int pn), .val fv] []))
  refine own_step (fun _ κ => XS.iloadN X0.here hx rfl (hb hby d1_0) rfl κ) ?_
  show own_Go _ _ _ _ (s₁.setTop (mkF m 1 #[.val (.int pi), .val (.int pn), .val fv] [(.int pi)]))
  refine own_step (fun _ κ => XS.ifNo X0.here hx rfl (hb hby d1_1) rfl ((if0 _ _).trans (flt P1).1) κ) ?_
  show own_Go _ _ _ _ (s₁.setTop (mkF m 4 #[.val (.int pi), .val (.int pn), .val fv] []))
  refine own_step (fun _ κ => XS.iloadN X0.here hx rfl (hb hby d1_4) rfl κ) ?_
  show own_Go _ _ _ _ (s₁.setTop (mkF m 5 #[.val (.int pi), .val (.int pn), .val fv] [(.int pi)]))
  refine own_step (fun _ κ => XS.iloadN X0.here hx rfl (hb hby d1_5) rfl κ) ?_
  show own_Go _ _ _ _ (s₁.setTop (mkF m 6 #[.val (.int pi), .val (.int pn), .val fv] [(.int pn), (.int pi)]))
  refine own_step (fun _ κ => XS.icmpYes X0.here hx rfl (pc0 := 6) (pc' := 16) rfl (hb hby d1_6) rfl (tlt P2).1 (by decide) (by decide) κ) ?_
  show own_Go _ _ _ _ (s₁.setTop (mkF m 16 #[.val (.int pi), .val (.int pn), .val fv] []))
  refine own_step (fun _ κ => XS.iloadN X0.here hx rfl (hb hby d1_16) rfl κ) ?_
  show own_Go _ _ _ _ (s₁.setTop (mkF m 17 #[.val (.int pi), .val (.int pn), .val fv] [(.int pi)]))
  obtain ⟨fs, hr, hrun, hended, hW, hsame⟩ := X0.leave (v := some (.int pi)) (fun h => by rw [Bd.returns] at h; cases h)
  refine ⟨_, _, own_retI X0 hx Bd.returns (hb hby d1_17) hr, hrun, hended, _, _, rfl, ?_, ⟨_, rfl⟩, hW, hsame.mono (by decide) (by decide)⟩
  show Q1 Z pi pn fv  h0 n0 _ s₁.heap _
  rw [e0]
  exact ⟨rfl, N0, rfl⟩
theorem d2_0 : decode jdk_42_method_155_code 0 = .ok (.iload_n 0, 1) := by decide +kernel
theorem d2_1 : decode jdk_42_method_155_code 1 = .ok (.iload_n 1, 1) := by decide +kernel
theorem d2_2 : decode jdk_42_method_155_code 2 = .ok (.getstatic 1053, 3) := by decide +kernel
theorem d2_5 : decode jdk_42_method_155_code 5 = .ok (.invokestatic 1059, 3) := by decide +kernel
theorem d2_8 : decode jdk_42_method_155_code 8 = .ok (.pop, 1) := by decide +kernel
theorem d2_9 : decode jdk_42_method_155_code 9 = .ok (.return_, 1) := by decide +kernel
theorem ef_2 (m : MethodId) (pi : Int32) (pn : Int32) : entryFrame m #[(.int pi), (.int pn)] 2 = mkF m 0 #[.val (.int pi), .val (.int pn)] [] := by first | (simp [entryFrame, mkF, argsToLocals, Value.category]; done) | rfl
def Q2 (Z : State) (pi : Int32) (pn : Int32) (fv : Value) (h0 : Heap) (n0 : Nat) (v : Option Value) (h : Heap) (L : List Loc) : Prop := v = none ∧ Fr n0 L ∧ h = h0
set_option maxRecDepth 65536 in
set_option maxHeartbeats 40000000 in
theorem rm2 (l : Launch) (Z : State) (a0 : Array Value) (hw : ∀ d ∈ tables_1, d.before a0 Z = true) (ws : List Jvm.Cond) (pi : Int32) (pn : Int32) (fv : Value) (h0 : Heap) (n0 : Nat) (Z0 : n0 ≤ h0.size) (P0 : Old Z n0 h0) (P1 : Sta Z Z.heap "jdk/internal/util/Preconditions" "SIOOBE_FORMATTER" "Ljava/util/function/BiFunction;" fv) (P2 : fv.isRef = true) (P3 : ¬ pi < (0 : Int32)) (P4 : pi < pn) :
    MetFree l (⟨"java/lang/String", "checkIndex", "(II)V"⟩ : MethodName) (head1 (Jvm.Cond.code (⟨"java/lang/String", "checkIndex", "(II)V"⟩ : MethodName) jdk_42_method_155_code 2 none :: ws) ({ frames := 1, cells := 0, slots := 0, locals := 14 } : Room)) (fun ar_ U => ar_ = #[(.int pi), (.int pn)] ∧ Z.Warmed39 U.vm ∧ U.heap = h0) (fun _ _ _ _ _ => True) (fun _ U oo_ U' => ∃ v L, oo_ = .returned v ∧ Q2 Z pi pn fv h0 n0 v U'.heap L ∧ FrameEnd U oo_ U' L ({ frames := 1, cells := 0, slots := 0, locals := 14 } : Room).cells ({ frames := 1, cells := 0, slots := 0, locals := 14 } : Room).slots) := by
  refine MetFree.of_bodySF (plainFor_of_name pn_1) hisR ?_
  intro p e s m args below meth c s₁ Bd hml0 hP hK
  obtain ⟨rfl, hZ, hh⟩ := hP
  have hx := Bd.exec
  have hby := Bd.bytes
  have hml : c.maxLocals = 2 := hml0
  have hown : s.vm.findClass "java/lang/String" = some m.cls := findClass_of_methodNamed Bd.named
  have hnm := (name_of_methodNamed Bd.named Bd.method).1
  have X0 : Stand p l e ({ frames := 1, cells := 0, slots := 0, locals := 14 } : Room) s m #[(.int pi), (.int pn)] below meth c s₁ [] 0 0 := Stand.of_body Bd
  have e0 : s₁.heap = h0 := by rw [← hh, Bd.state]; rfl
  have N0 := Fr.nil n0
  refine own_in (castTop (ef_2 m pi pn)) ?_
  show own_Go _ _ _ _ (s₁.setTop (mkF m 0 #[.val (.int pi), .val (.int pn)] []))
  refine own_step (fun _ κ => XS.iloadN X0.here hx rfl (hb hby d2_0) rfl κ) ?_
  show own_Go _ _ _ _ (s₁.setTop (mkF m 1 #[.val (.int pi), .val (.int pn)] [(.int pi)]))
  refine own_step (fun _ κ => XS.iloadN X0.here hx rfl (hb hby d2_1) rfl κ) ?_
  show own_Go _ _ _ _ (s₁.setTop (mkF m 2 #[.val (.int pi), .val (.int pn)] [(.int pn), (.int pi)]))
  obtain ⟨T1, X1, e1, st1⟩ := getS2 X0 hx hZ hown (host := "") (Or.inl (hw _ (List.mem_of_getElem? (i := 30) rfl))) Via.refl e0 (P1.ext P0.2) (g := (mkF m 2 #[.val (.int pi), .val (.int pn)] [(.int pn), (.int pi)])) rfl (hb hby d2_2)
  refine own_step st1 ?_
  show own_Go _ _ _ _ (T1.setTop (mkF m 5 #[.val (.int pi), .val (.int pn)] [fv, (.int pn), (.int pi)]))
  obtain ⟨vr2, _, ⟨T2, L2, k2, n2⟩, -, X2, ⟨Lc2, hQ2, l2, y2, z2⟩, st2⟩ := Jvm.LawKit.callS X1 hx (y := (⟨"jdk/internal/util/Preconditions", "checkIndex", "(IILjava/util/function/BiFunction;)I"⟩ : MethodName)) hown (mvT hZ (hw _ (List.mem_of_getElem? (i := 32) rfl))) (mvT hZ (hw _ (List.mem_of_getElem? (i := 33) rfl))) (mvT hZ (hw _ (List.mem_of_getElem? (i := 31) rfl))) (mvT hZ (hw _ (List.mem_of_getElem? (i := 34) rfl))) (by decide) (backOf (W := 0) (rm1 l Z a0 hw [] pi pn fv  h0 n0 Z0 P2 P3 P4) hZ (hw _ (List.mem_of_getElem? (i := 34) rfl)) (hw _ (List.mem_of_getElem? (i := 31) rfl)) (by decide) (by decide)) (g := (mkF m 5 #[.val (.int pi), .val (.int pn)] [fv, (.int pn), (.int pi)])) rfl (by rw [hml]; rfl) (argsL := [(.int pi), (.int pn), fv]) (rest := []) (lenOf pd_0 rfl) rfl (by show 2 * 0 + _ ≤ _; exact Nat.le_of_eq rfl) (hb hby d2_5) (fun _ _ => ⟨rfl, e1, (by decide : 0 + 0 ≤ _), (by decide : 0 + 0 ≤ _)⟩)
  dsimp only [Pt.U, Pt.locs, Pt.cells, Pt.slots] at X2 l2 y2 z2 st2 hQ2
  subst l2 y2 z2
  obtain ⟨rfl, Nq2, eq2⟩ := hQ2
  have N2 := Fr.app N0 Nq2
  refine own_step st2 ?_
  show own_Go _ _ _ _ (T2.setTop (mkF m 8 #[.val (.int pi), .val (.int pn)] [(.int pi)]))
  refine own_step (fun _ κ => XS.pop X2.here hx rfl (hb hby d2_8) rfl rfl κ) ?_
  show own_Go _ _ _ _ (T2.setTop (mkF m 9 #[.val (.int pi), .val (.int pn)] []))
  obtain ⟨fs, hr, hrun, hended, hW, hsame⟩ := X2.leave (v := none) (fun _ => rfl)
  refine ⟨_, _, X2.returnOut hx Bd.returns (hb hby d2_9) hr, hrun, hended, _, _, rfl, ?_, ⟨_, rfl⟩, hW, hsame.mono (by decide) (by decide)⟩
  show Q2 Z pi pn fv h0 n0 _ T2.heap _
  rw [eq2]
  exact ⟨rfl, N2, rfl⟩
theorem d3_0 : decode jdk_43_method_2_code 0 = .ok (.iload_n 1, 1) := by decide +kernel
theorem d3_1 : decode jdk_43_method_2_code 1 = .ok (.aload_n 0, 1) := by decide +kernel
theorem d3_2 : decode jdk_43_method_2_code 2 = .ok (.arraylength, 1) := by decide +kernel
theorem d3_3 : decode jdk_43_method_2_code 3 = .ok (.invokestatic 9, 3) := by decide +kernel
theorem d3_6 : decode jdk_43_method_2_code 6 = .ok (.aload_n 0, 1) := by decide +kernel
theorem d3_7 : decode jdk_43_method_2_code 7 = .ok (.iload_n 1, 1) := by decide +kernel
theorem d3_8 : decode jdk_43_method_2_code 8 = .ok (.baload, 1) := by decide +kernel
theorem d3_9 : decode jdk_43_method_2_code 9 = .ok (.sipush 255, 3) := by decide +kernel
theorem d3_12 : decode jdk_43_method_2_code 12 = .ok (.iand, 1) := by decide +kernel
theorem d3_13 : decode jdk_43_method_2_code 13 = .ok (.i2c, 1) := by decide +kernel
theorem d3_14 : decode jdk_43_method_2_code 14 = .ok (.ireturn, 1) := by decide +kernel
theorem ef_3 (m : MethodId) (b : Addr) (pi : Int32) : entryFrame m #[(.ref b), (.int pi)] 2 = mkF m 0 #[.val (.ref b), .val (.int pi)] [] := by first | (simp [entryFrame, mkF, argsToLocals, Value.category]; done) | rfl
def Q3 (Z : State) (b : Addr) (pi : Int32) (kb : ClassId) (vs : List Value) (u : Int32) (fv : Value) (h0 : Heap) (n0 : Nat) (v : Option Value) (h : Heap) (L : List Loc) : Prop := v = some (.int (own_c1 u)) ∧ Fr n0 L ∧ h = h0
set_option maxRecDepth 65536 in
set_option maxHeartbeats 40000000 in
theorem rm3 (l : Launch) (Z : State) (a0 : Array Value) (hw : ∀ d ∈ tables_1, d.before a0 Z = true) (ws : List Jvm.Cond) (b : Addr) (pi : Int32) (kb : ClassId) (vs : List Value) (u : Int32) (fv : Value) (h0 : Heap) (n0 : Nat) (Z0 : n0 ≤ h0.size) (P0 : Arv Z h0 b kb .byte (16 : Int32) vs (.int (0 : Int32))) (P1 : Old Z n0 h0) (P2 : Sta Z Z.heap "jdk/internal/util/Preconditions" "SIOOBE_FORMATTER" "Ljava/util/function/BiFunction;" fv) (P3 : fv.isRef = true) (P4 : ¬ pi < (0 : Int32)) (P5 : pi < (16 : Int32)) (P6 : vs.getD pi.toNatClampNeg (.int (0 : Int32)) = .int u) :
    MetFree l (⟨"java/lang/StringLatin1", "charAt", "([BI)C"⟩ : MethodName) (head1 (Jvm.Cond.code (⟨"java/lang/StringLatin1", "charAt", "([BI)C"⟩ : MethodName) jdk_43_method_2_code 2 (some .char) :: ws) ({ frames := 2, cells := 0, slots := 0, locals := 27 } : Room)) (fun ar_ U => ar_ = #[(.ref b), (.int pi)] ∧ Z.Warmed39 U.vm ∧ U.heap = h0) (fun _ _ _ _ _ => True) (fun _ U oo_ U' => ∃ v L, oo_ = .returned v ∧ Q3 Z b pi kb vs u fv h0 n0 v U'.heap L ∧ FrameEnd U oo_ U' L ({ frames := 2, cells := 0, slots := 0, locals := 27 } : Room).cells ({ frames := 2, cells := 0, slots := 0, locals := 27 } : Room).slots) := by
  refine MetFree.of_bodySF (plainFor_of_name pn_2) hisR ?_
  intro p e s m args below meth c s₁ Bd hml0 hP hK
  obtain ⟨rfl, hZ, hh⟩ := hP
  have hx := Bd.exec
  have hby := Bd.bytes
  have hml : c.maxLocals = 2 := hml0
  have hown : s.vm.findClass "java/lang/StringLatin1" = some m.cls := findClass_of_methodNamed Bd.named
  have hnm := (name_of_methodNamed Bd.named Bd.method).1
  have X0 : Stand p l e ({ frames := 2, cells := 0, slots := 0, locals := 27 } : Room) s m #[(.ref b), (.int pi)] below meth c s₁ [] 0 0 := Stand.of_body Bd
  have e0 : s₁.heap = h0 := by rw [← hh, Bd.state]; rfl
  have N0 := Fr.nil n0
  refine own_in (castTop (ef_3 m b pi)) ?_
  show own_Go _ _ _ _ (s₁.setTop (mkF m 0 #[.val (.ref b), .val (.int pi)] []))
  refine own_step (fun _ κ => XS.iloadN X0.here hx rfl (hb hby d3_0) rfl κ) ?_
  show own_Go _ _ _ _ (s₁.setTop (mkF m 1 #[.val (.ref b), .val (.int pi)] [(.int pi)]))
  refine own_step (fun _ κ => XS.aloadN X0.here hx rfl (hb hby d3_1) rfl rfl κ) ?_
  show own_Go _ _ _ _ (s₁.setTop (mkF m 2 #[.val (.ref b), .val (.int pi)] [(.ref b), (.int pi)]))
  obtain ⟨cl1, Ar1, -, Sz1, Nz1, -, -⟩ := id (P0)
  refine own_step (fun _ κ => X0.arraylength hx (by rw [e0]; exact Ar1.1) (State.isArrayOf_alike hZ.alike Ar1.2.1) (g := (mkF m 2 #[.val (.ref b), .val (.int pi)] [(.ref b), (.int pi)])) rfl rfl (hb hby d3_2) _ κ) ?_
  rw [len_of Sz1 Nz1]
  show own_Go _ _ _ _ (s₁.setTop (mkF m 3 #[.val (.ref b), .val (.int pi)] [(.int (16 : Int32)), (.int pi)]))
  obtain ⟨vr2, _, ⟨T2, L2, k2, n2⟩, -, X2, ⟨Lc2, hQ2, l2, y2, z2⟩, st2⟩ := Jvm.LawKit.callS X0 hx (y := (⟨"java/lang/String", "checkIndex", "(II)V"⟩ : MethodName)) hown (mvT hZ (hw _ (List.mem_of_getElem? (i := 27) rfl))) (mvT hZ (hw _ (List.mem_of_getElem? (i := 28) rfl))) (mvT hZ (hw _ (List.mem_of_getElem? (i := 2) rfl))) (mvT hZ (hw _ (List.mem_of_getElem? (i := 29) rfl))) (by decide) (backOf (W := 0) (rm2 l Z a0 hw [] pi (16 : Int32) fv h0 n0 Z0 P1 P2 P3 P4 P5) hZ (hw _ (List.mem_of_getElem? (i := 29) rfl)) (hw _ (List.mem_of_getElem? (i := 2) rfl)) (by decide) (by decide)) (g := (mkF m 3 #[.val (.ref b), .val (.int pi)] [(.int (16 : Int32)), (.int pi)])) rfl (by rw [hml]; rfl) (argsL := [(.int pi), (.int (16 : Int32))]) (rest := []) (lenOf pd_1 rfl) rfl (by show 2 * 0 + _ ≤ _; exact Nat.le_of_eq rfl) (hb hby d3_3) (fun _ _ => ⟨rfl, e0, (by decide : 0 + 0 ≤ _), (by decide : 0 + 0 ≤ _)⟩)
  dsimp only [Pt.U, Pt.locs, Pt.cells, Pt.slots] at X2 l2 y2 z2 st2 hQ2
  subst l2 y2 z2
  obtain ⟨rfl, Nq2, eq2⟩ := hQ2
  have N2 := Fr.app N0 Nq2
  refine own_step st2 ?_
  show own_Go _ _ _ _ (T2.setTop (mkF m 6 #[.val (.ref b), .val (.int pi)] []))
  refine own_step (fun _ κ => XS.aloadN X2.here hx rfl (hb hby d3_6) rfl rfl κ) ?_
  show own_Go _ _ _ _ (T2.setTop (mkF m 7 #[.val (.ref b), .val (.int pi)] [(.ref b)]))
  refine own_step (fun _ κ => XS.iloadN X2.here hx rfl (hb hby d3_7) rfl κ) ?_
  show own_Go _ _ _ _ (T2.setTop (mkF m 8 #[.val (.ref b), .val (.int pi)] [(.int pi), (.ref b)]))
  obtain ⟨cl3, Ar3, q3, Sz3, Nz3, Hs3, Gs3⟩ := id (P0)
  have hin3 := inb_of (j := pi) Sz3 ⟨P4, P5⟩
  have hat3 := Hs3.at (j := pi) hin3 P6
  refine own_step (fun _ κ => X2.baloadBytes hx (j := pi) (v := (.int u)) (by rw [eq2]; exact Ar3.1) (State.isArrayOf_alike hZ.alike Ar3.2.1) Ar3.2.2 hin3 hat3 (g := (mkF m 8 #[.val (.ref b), .val (.int pi)] [(.int pi), (.ref b)])) rfl rfl (hb hby d3_8) _ κ) ?_
  show own_Go _ _ _ _ (T2.setTop (mkF m 9 #[.val (.ref b), .val (.int pi)] [(.int u)]))
  refine own_step (fun _ κ => XS.sipush X2.here hx rfl (hb hby d3_9) κ) ?_
  show own_Go _ _ _ _ (T2.setTop (mkF m 12 #[.val (.ref b), .val (.int pi)] [(.int (255 : Int32)), (.int u)]))
  refine own_step (fun _ κ => XS.iand X2.here hx rfl (hb hby d3_12) rfl κ) ?_
  show own_Go _ _ _ _ (T2.setTop (mkF m 13 #[.val (.ref b), .val (.int pi)] [(.int (u &&& (255 : Int32)))]))
  refine own_step (fun _ κ => XS.i2c X2.here hx rfl (hb hby d3_13) rfl κ) ?_
  show own_Go _ _ _ _ (T2.setTop (mkF m 14 #[.val (.ref b), .val (.int pi)] [(.int ((u &&& (255 : Int32)).toUInt32.toUInt16.toUInt32.toInt32))]))
  obtain ⟨fs, hr, hrun, hended, hW, hsame⟩ := X2.leave (v := some (.int (nar .char ((u &&& (255 : Int32)).toUInt32.toUInt16.toUInt32.toInt32)))) (fun h => by rw [Bd.returns] at h; cases h)
  refine ⟨_, _, retN X2 hx (t := .char) Bd.returns (by simp) (hb hby d3_14) hr, hrun, hended, _, _, rfl, ?_, ⟨_, rfl⟩, hW, hsame.mono (by decide) (by decide)⟩
  show Q3 Z b pi kb vs u fv h0 n0 _ T2.heap _
  rw [eq2]
  exact ⟨rfl, N2, rfl⟩
theorem d4_0 : decode jdk_42_method_154_code 0 = .ok (.getstatic 38, 3) := by decide +kernel
theorem d4_3 : decode jdk_42_method_154_code 3 = .ok (.ifCond .eq 14, 3) := by decide +kernel
theorem d4_6 : decode jdk_42_method_154_code 6 = .ok (.aload_n 0, 1) := by decide +kernel
theorem d4_7 : decode jdk_42_method_154_code 7 = .ok (.getfield 15, 3) := by decide +kernel
theorem d4_10 : decode jdk_42_method_154_code 10 = .ok (.ifCond .ne 7, 3) := by decide +kernel
theorem d4_13 : decode jdk_42_method_154_code 13 = .ok (.iconst 1, 1) := by decide +kernel
theorem d4_14 : decode jdk_42_method_154_code 14 = .ok (.goto 4, 3) := by decide +kernel
theorem d4_18 : decode jdk_42_method_154_code 18 = .ok (.ireturn, 1) := by decide +kernel
theorem ef_4 (m : MethodId) (a : Addr) : entryFrame m #[(.ref a)] 1 = mkF m 0 #[.val (.ref a)] [] := by first | (simp [entryFrame, mkF, argsToLocals, Value.category]; done) | rfl
def Q4 (Z : State) (a : Addr) (cs : Int32) (h0 : Heap) (n0 : Nat) (v : Option Value) (h : Heap) (L : List Loc) : Prop := v = some (.int (1 : Int32)) ∧ Fr n0 L ∧ h = h0
set_option maxRecDepth 65536 in
set_option maxHeartbeats 40000000 in
theorem rm4 (l : Launch) (Z : State) (a0 : Array Value) (hw : ∀ d ∈ tables_1, d.before a0 Z = true) (ws : List Jvm.Cond) (a : Addr) (cs : Int32) (h0 : Heap) (n0 : Nat) (Z0 : n0 ≤ h0.size) (P0 : Old Z n0 h0) (P1 : Sta Z Z.heap "java/lang/String" "COMPACT_STRINGS" "Z" (.int cs)) (P2 : ¬ cs = (0 : Int32)) (P3 : Fld Z h0 a "java/lang/String" "coder" "B" (.int (0 : Int32))) :
    MetFree l (⟨"java/lang/String", "isLatin1", "()Z"⟩ : MethodName) (head1 (Jvm.Cond.code (⟨"java/lang/String", "isLatin1", "()Z"⟩ : MethodName) jdk_42_method_154_code 1 (some .boolean) :: ws) ({ frames := 0, cells := 0, slots := 0, locals := 0 } : Room)) (fun ar_ U => ar_ = #[(.ref a)] ∧ Z.Warmed39 U.vm ∧ U.heap = h0) (fun _ _ _ _ _ => True) (fun _ U oo_ U' => ∃ v L, oo_ = .returned v ∧ Q4 Z a cs h0 n0 v U'.heap L ∧ FrameEnd U oo_ U' L ({ frames := 0, cells := 0, slots := 0, locals := 0 } : Room).cells ({ frames := 0, cells := 0, slots := 0, locals := 0 } : Room).slots) := by
  refine MetFree.of_bodySF (plainFor_of_name pn_1) hisR ?_
  intro p e s m args below meth c s₁ Bd hml0 hP hK
  obtain ⟨rfl, hZ, hh⟩ := hP
  have hx := Bd.exec
  have hby := Bd.bytes
  have hml : c.maxLocals = 1 := hml0
  have hown : s.vm.findClass "java/lang/String" = some m.cls := findClass_of_methodNamed Bd.named
  have hnm := (name_of_methodNamed Bd.named Bd.method).1
  have X0 : Stand p l e ({ frames := 0, cells := 0, slots := 0, locals := 0 } : Room) s m #[(.ref a)] below meth c s₁ [] 0 0 := Stand.of_body Bd
  have e0 : s₁.heap = h0 := by rw [← hh, Bd.state]; rfl
  have N0 := Fr.nil n0
  refine own_in (castTop (ef_4 m a)) ?_
  show own_Go _ _ _ _ (s₁.setTop (mkF m 0 #[.val (.ref a)] []))
  obtain ⟨T1, X1, e1, st1⟩ := getS2 X0 hx hZ hown (host := "") (Or.inl (hw _ (List.mem_of_getElem? (i := 20) rfl))) Via.refl e0 (P1.ext P0.2) (g := (mkF m 0 #[.val (.ref a)] [])) rfl (hb hby d4_0)
  refine own_step st1 ?_
  show own_Go _ _ _ _ (T1.setTop (mkF m 3 #[.val (.ref a)] [(.int cs)]))
  refine own_step (fun _ κ => XS.ifNo X1.here hx rfl (hb hby d4_3) rfl ((if0 _ _).trans (feq P2).1) κ) ?_
  show own_Go _ _ _ _ (T1.setTop (mkF m 6 #[.val (.ref a)] []))
  refine own_step (fun _ κ => XS.aloadN X1.here hx rfl (hb hby d4_6) rfl rfl κ) ?_
  show own_Go _ _ _ _ (T1.setTop (mkF m 7 #[.val (.ref a)] [(.ref a)]))
  obtain ⟨T2, X2, e2, st2⟩ := getF X1 hx hZ hown (host := "") (Or.inl (hw _ (List.mem_of_getElem? (i := 21) rfl))) Via.refl e1 P3 (g := (mkF m 7 #[.val (.ref a)] [(.ref a)])) rfl rfl (hb hby d4_7)
  refine own_step st2 ?_
  show own_Go _ _ _ _ (T2.setTop (mkF m 10 #[.val (.ref a)] [(.int (0 : Int32))]))
  refine own_step (fun _ κ => XS.ifNo X2.here hx rfl (hb hby d4_10) rfl ((if0 _ _).trans (teq rfl).2) κ) ?_
  show own_Go _ _ _ _ (T2.setTop (mkF m 13 #[.val (.ref a)] []))
  refine own_step (fun _ κ => XS.iconst X2.here hx rfl (hb hby d4_13) κ) ?_
  show own_Go _ _ _ _ (T2.setTop (mkF m 14 #[.val (.ref a)] [(.int (1 : Int32))]))
  refine own_step (fun _ κ => XS.goto X2.here hx rfl (pc0 := 14) (pc' := 18) rfl (hb hby d4_14) (by decide) (by decide) κ) ?_
  show own_Go _ _ _ _ (T2.setTop (mkF m 18 #[.val (.ref a)] [(.int (1 : Int32))]))
  obtain ⟨fs, hr, hrun, hended, hW, hsame⟩ := X2.leave (v := some (.int (1 : Int32))) (fun h => by rw [Bd.returns] at h; cases h)
  refine ⟨_, _, retN X2 hx (t := .boolean) Bd.returns (by simp) (hb hby d4_18) hr, hrun, hended, _, _, rfl, ?_, ⟨_, rfl⟩, hW, hsame.mono (by decide) (by decide)⟩
  show Q4 Z a cs h0 n0 _ T2.heap _
  rw [e2]
  exact ⟨rfl, N0, rfl⟩
theorem d5_0 : decode jdk_42_method_56_code 0 = .ok (.aload_n 0, 1) := by decide +kernel
theorem d5_1 : decode jdk_42_method_56_code 1 = .ok (.invokevirtual 492, 3) := by decide +kernel
theorem d5_4 : decode jdk_42_method_56_code 4 = .ok (.ifCond .eq 12, 3) := by decide +kernel
theorem d5_7 : decode jdk_42_method_56_code 7 = .ok (.aload_n 0, 1) := by decide +kernel
theorem d5_8 : decode jdk_42_method_56_code 8 = .ok (.getfield 9, 3) := by decide +kernel
theorem d5_11 : decode jdk_42_method_56_code 11 = .ok (.iload_n 1, 1) := by decide +kernel
theorem d5_12 : decode jdk_42_method_56_code 12 = .ok (.invokestatic 495, 3) := by decide +kernel
theorem d5_15 : decode jdk_42_method_56_code 15 = .ok (.ireturn, 1) := by decide +kernel
theorem ef_5 (m : MethodId) (a : Addr) (pi : Int32) : entryFrame m #[(.ref a), (.int pi)] 2 = mkF m 0 #[.val (.ref a), .val (.int pi)] [] := by first | (simp [entryFrame, mkF, argsToLocals, Value.category]; done) | rfl
def Q5 (Z : State) (a : Addr) (pi : Int32) (b : Addr) (kb : ClassId) (vs : List Value) (u : Int32) (fv : Value) (cs : Int32) (h0 : Heap) (n0 : Nat) (v : Option Value) (h : Heap) (L : List Loc) : Prop := v = some (.int (own_cc u)) ∧ Fr n0 L ∧ h = h0
set_option maxRecDepth 65536 in
set_option maxHeartbeats 40000000 in
theorem rm5 (l : Launch) (Z : State) (a0 : Array Value) (hw : ∀ d ∈ tables_1, d.before a0 Z = true) (ws : List Jvm.Cond) (a : Addr) (pi : Int32) (b : Addr) (kb : ClassId) (vs : List Value) (u : Int32) (fv : Value) (cs : Int32) (h0 : Heap) (n0 : Nat) (Z0 : n0 ≤ h0.size) (P0 : Exa Z h0 a "java/lang/String") (P1 : Fld Z h0 a "java/lang/String" "coder" "B" (.int (0 : Int32))) (P2 : Fld Z h0 a "java/lang/String" "value" "[B" (.ref b)) (P3 : Arv Z h0 b kb .byte (16 : Int32) vs (.int (0 : Int32))) (P4 : Old Z n0 h0) (P5 : Sta Z Z.heap "jdk/internal/util/Preconditions" "SIOOBE_FORMATTER" "Ljava/util/function/BiFunction;" fv) (P6 : fv.isRef = true) (P7 : Sta Z Z.heap "java/lang/String" "COMPACT_STRINGS" "Z" (.int cs)) (P8 : ¬ cs = (0 : Int32)) (P9 : ¬ pi < (0 : Int32)) (P10 : pi < (16 : Int32)) (P11 : vs.getD pi.toNatClampNeg (.int (0 : Int32)) = .int u) :
    MetFree l (⟨"java/lang/String", "charAt", "(I)C"⟩ : MethodName) (head1 (Jvm.Cond.code (⟨"java/lang/String", "charAt", "(I)C"⟩ : MethodName) jdk_42_method_56_code 2 (some .char) :: ws) ({ frames := 3, cells := 0, slots := 0, locals := 40 } : Room)) (fun ar_ U => ar_ = #[(.ref a), (.int pi)] ∧ Z.Warmed39 U.vm ∧ U.heap = h0) (fun _ _ _ _ _ => True) (fun _ U oo_ U' => ∃ v L, oo_ = .returned v ∧ Q5 Z a pi b kb vs u fv cs h0 n0 v U'.heap L ∧ FrameEnd U oo_ U' L ({ frames := 3, cells := 0, slots := 0, locals := 40 } : Room).cells ({ frames := 3, cells := 0, slots := 0, locals := 40 } : Room).slots) := by
  refine MetFree.of_bodySF (plainFor_of_name pn_1) hisR ?_
  intro p e s m args below meth c s₁ Bd hml0 hP hK
  obtain ⟨rfl, hZ, hh⟩ := hP
  have hx := Bd.exec
  have hby := Bd.bytes
  have hml : c.maxLocals = 2 := hml0
  have hown : s.vm.findClass "java/lang/String" = some m.cls := findClass_of_methodNamed Bd.named
  have hnm := (name_of_methodNamed Bd.named Bd.method).1
  have X0 : Stand p l e ({ frames := 3, cells := 0, slots := 0, locals := 40 } : Room) s m #[(.ref a), (.int pi)] below meth c s₁ [] 0 0 := Stand.of_body Bd
  have e0 : s₁.heap = h0 := by rw [← hh, Bd.state]; rfl
  have N0 := Fr.nil n0
  refine own_in (castTop (ef_5 m a pi)) ?_
  show own_Go _ _ _ _ (s₁.setTop (mkF m 0 #[.val (.ref a), .val (.int pi)] []))
  refine own_step (fun _ κ => XS.aloadN X0.here hx rfl (hb hby d5_0) rfl rfl κ) ?_
  show own_Go _ _ _ _ (s₁.setTop (mkF m 1 #[.val (.ref a), .val (.int pi)] [(.ref a)]))
  obtain ⟨cq1, kq1, q1a, q1b, q1c⟩ := isOf hZ e0 P0
  obtain ⟨vr1, _, ⟨T1, L1, k1, n1⟩, -, X1, ⟨Lc1, hQ1, l1, y1, z1⟩, st1⟩ := X0.virtualBack hx (y := (⟨"java/lang/String", "isLatin1", "()Z"⟩ : MethodName)) (z := (⟨"java/lang/String", "isLatin1", "()Z"⟩ : MethodName)) hown (mvT hZ (hw _ (List.mem_of_getElem? (i := 15) rfl))) (mvT hZ (hw _ (List.mem_of_getElem? (i := 16) rfl))) (notFace_of_selects (args := #[]) (mvT hZ (hw _ (List.mem_of_getElem? (i := 18) rfl)))) (mvT hZ (hw _ (List.mem_of_getElem? (i := 18) rfl))) (mvT hZ (hw _ (List.mem_of_getElem? (i := 17) rfl))) (by decide) (backOf (W := 0) (rm4 l Z a0 hw [] a cs h0 n0 Z0 P4 P7 P8 P1) hZ (hw _ (List.mem_of_getElem? (i := 19) rfl)) (hw _ (List.mem_of_getElem? (i := 2) rfl)) (by decide) (by decide)) q1a q1c (g := (mkF m 1 #[.val (.ref a), .val (.int pi)] [(.ref a)])) rfl (by rw [hml]; rfl) (Steps.refl _) (argsL := []) (rest := []) (lenOf pd_2 rfl) rfl (by show 2 * 0 + _ ≤ _; exact Nat.le_of_eq rfl) (hb hby d5_1) (fun _ _ => ⟨rfl, e0, (by decide : 0 + 0 ≤ _), (by decide : 0 + 0 ≤ _)⟩)
  dsimp only [Pt.U, Pt.locs, Pt.cells, Pt.slots] at X1 l1 y1 z1 st1 hQ1
  subst l1 y1 z1
  obtain ⟨rfl, Nq1, eq1⟩ := hQ1
  have N1 := Fr.app N0 Nq1
  refine own_step (fun _ κ => st1.trans κ) ?_
  show own_Go _ _ _ _ (T1.setTop (mkF m 4 #[.val (.ref a), .val (.int pi)] [(.int (1 : Int32))]))
  refine own_step (fun _ κ => XS.ifNo X1.here hx rfl (hb hby d5_4) rfl ((if0 _ _).trans (feq (by decide)).1) κ) ?_
  show own_Go _ _ _ _ (T1.setTop (mkF m 7 #[.val (.ref a), .val (.int pi)] []))
  refine own_step (fun _ κ => XS.aloadN X1.here hx rfl (hb hby d5_7) rfl rfl κ) ?_
  show own_Go _ _ _ _ (T1.setTop (mkF m 8 #[.val (.ref a), .val (.int pi)] [(.ref a)]))
  obtain ⟨T2, X2, e2, st2⟩ := getF X1 hx hZ hown (host := "") (Or.inl (hw _ (List.mem_of_getElem? (i := 22) rfl))) Via.refl eq1 P2 (g := (mkF m 8 #[.val (.ref a), .val (.int pi)] [(.ref a)])) rfl rfl (hb hby d5_8)
  refine own_step st2 ?_
  show own_Go _ _ _ _ (T2.setTop (mkF m 11 #[.val (.ref a), .val (.int pi)] [(.ref b)]))
  refine own_step (fun _ κ => XS.iloadN X2.here hx rfl (hb hby d5_11) rfl κ) ?_
  show own_Go _ _ _ _ (T2.setTop (mkF m 12 #[.val (.ref a), .val (.int pi)] [(.int pi), (.ref b)]))
  obtain ⟨vr3, _, ⟨T3, L3, k3, n3⟩, -, X3, ⟨Lc3, hQ3, l3, y3, z3⟩, st3⟩ := Jvm.LawKit.callS X2 hx (y := (⟨"java/lang/StringLatin1", "charAt", "([BI)C"⟩ : MethodName)) hown (mvT hZ (hw _ (List.mem_of_getElem? (i := 23) rfl))) (mvT hZ (hw _ (List.mem_of_getElem? (i := 24) rfl))) (mvT hZ (hw _ (List.mem_of_getElem? (i := 25) rfl))) (mvT hZ (hw _ (List.mem_of_getElem? (i := 26) rfl))) (by decide) (backOf (W := 0) (rm3 l Z a0 hw [] b pi kb vs u fv h0 n0 Z0 P3 P4 P5 P6 P9 P10 P11) hZ (hw _ (List.mem_of_getElem? (i := 26) rfl)) (hw _ (List.mem_of_getElem? (i := 25) rfl)) (by decide) (by decide)) (g := (mkF m 12 #[.val (.ref a), .val (.int pi)] [(.int pi), (.ref b)])) rfl (by rw [hml]; rfl) (argsL := [(.ref b), (.int pi)]) (rest := []) (lenOf pd_3 rfl) rfl (by show 2 * 0 + _ ≤ _; exact Nat.le_of_eq rfl) (hb hby d5_12) (fun _ _ => ⟨rfl, e2, (by decide : 0 + 0 ≤ _), (by decide : 0 + 0 ≤ _)⟩)
  dsimp only [Pt.U, Pt.locs, Pt.cells, Pt.slots] at X3 l3 y3 z3 st3 hQ3
  subst l3 y3 z3
  obtain ⟨rfl, Nq3, eq3⟩ := hQ3
  have N3 := Fr.app N1 Nq3
  refine own_step st3 ?_
  show own_Go _ _ _ _ (T3.setTop (mkF m 15 #[.val (.ref a), .val (.int pi)] [(.int (own_c1 u))]))
  obtain ⟨fs, hr, hrun, hended, hW, hsame⟩ := X3.leave (v := some (.int (nar .char (own_c1 u)))) (fun h => by rw [Bd.returns] at h; cases h)
  refine ⟨_, _, retN X3 hx (t := .char) Bd.returns (by simp) (hb hby d5_15) hr, hrun, hended, _, _, rfl, ?_, ⟨_, rfl⟩, hW, hsame.mono (by decide) (by decide)⟩
  show Q5 Z a pi b kb vs u fv cs h0 n0 _ T3.heap _
  rw [eq3]
  exact ⟨rfl, N3, rfl⟩
theorem d6_0 : decode prog_28_method_25_code 0 = .ok (.iload_n 0, 1) := by decide +kernel
theorem d6_1 : decode prog_28_method_25_code 1 = .ok (.bipush 48, 2) := by decide +kernel
theorem d6_3 : decode prog_28_method_25_code 3 = .ok (.if_icmp .lt 13, 3) := by decide +kernel
theorem d6_6 : decode prog_28_method_25_code 6 = .ok (.iload_n 0, 1) := by decide +kernel
theorem d6_7 : decode prog_28_method_25_code 7 = .ok (.bipush 57, 2) := by decide +kernel
theorem d6_9 : decode prog_28_method_25_code 9 = .ok (.if_icmp .gt 7, 3) := by decide +kernel
theorem d6_12 : decode prog_28_method_25_code 12 = .ok (.iconst 1, 1) := by decide +kernel
theorem d6_13 : decode prog_28_method_25_code 13 = .ok (.goto 4, 3) := by decide +kernel
theorem d6_16 : decode prog_28_method_25_code 16 = .ok (.iconst 0, 1) := by decide +kernel
theorem d6_17 : decode prog_28_method_25_code 17 = .ok (.ireturn, 1) := by decide +kernel
theorem ef_6 (m : MethodId) (pc : Int32) : entryFrame m #[(.int pc)] 1 = mkF m 0 #[.val (.int pc)] [] := by first | (simp [entryFrame, mkF, argsToLocals, Value.category]; done) | rfl
def Q6 (Z : State) (pc : Int32) (h0 : Heap) (n0 : Nat) (v : Option Value) (h : Heap) (L : List Loc) : Prop := v = some (.int (if pc < (48 : Int32) then (0 : Int32) else (if (57 : Int32) < pc then (0 : Int32) else (1 : Int32)))) ∧ Fr n0 L ∧ h = h0
set_option maxRecDepth 65536 in
set_option maxHeartbeats 40000000 in
theorem rm6 (l : Launch) (Z : State) (a0 : Array Value) (hw : ∀ d ∈ tables_1, d.before a0 Z = true) (ws : List Jvm.Cond) (pc : Int32) (h0 : Heap) (n0 : Nat) (Z0 : n0 ≤ h0.size)  :
    MetFree l (⟨"com/example/fouille/fouille/rdf/NTriplesParser", "isDigit", "(I)Z"⟩ : MethodName) (head1 (Jvm.Cond.code (⟨"com/example/fouille/fouille/rdf/NTriplesParser", "isDigit", "(I)Z"⟩ : MethodName) prog_28_method_25_code 1 (some .boolean) :: ws) ({ frames := 0, cells := 0, slots := 0, locals := 0 } : Room)) (fun ar_ U => ar_ = #[(.int pc)] ∧ Z.Warmed39 U.vm ∧ U.heap = h0) (fun _ _ _ _ _ => True) (fun _ U oo_ U' => ∃ v L, oo_ = .returned v ∧ Q6 Z pc  h0 n0 v U'.heap L ∧ FrameEnd U oo_ U' L ({ frames := 0, cells := 0, slots := 0, locals := 0 } : Room).cells ({ frames := 0, cells := 0, slots := 0, locals := 0 } : Room).slots) := by
  refine MetFree.of_bodySF (plainFor_of_name pn_3) hisR ?_
  intro p e s m args below meth c s₁ Bd hml0 hP hK
  obtain ⟨rfl, hZ, hh⟩ := hP
  have hx := Bd.exec
  have hby := Bd.bytes
  have hml : c.maxLocals = 1 := hml0
  have hown : s.vm.findClass "com/example/fouille/fouille/rdf/NTriplesParser" = some m.cls := findClass_of_methodNamed Bd.named
  have hnm := (name_of_methodNamed Bd.named Bd.method).1
  have X0 : Stand p l e ({ frames := 0, cells := 0, slots := 0, locals := 0 } : Room) s m #[(.int pc)] below meth c s₁ [] 0 0 := Stand.of_body Bd
  have e0 : s₁.heap = h0 := by rw [← hh, Bd.state]; rfl
  have N0 := Fr.nil n0
  refine own_in (castTop (ef_6 m pc)) ?_
  show own_Go _ _ _ _ (s₁.setTop (mkF m 0 #[.val (.int pc)] []))
  refine own_step (fun _ κ => XS.iloadN X0.here hx rfl (hb hby d6_0) rfl κ) ?_
  show own_Go _ _ _ _ (s₁.setTop (mkF m 1 #[.val (.int pc)] [(.int pc)]))
  refine own_step (fun _ κ => XS.bipush X0.here hx rfl (hb hby d6_1) κ) ?_
  show own_Go _ _ _ _ (s₁.setTop (mkF m 3 #[.val (.int pc)] [(.int (48 : Int32)), (.int pc)]))
  by_cases hc1 : pc < (48 : Int32)
  · refine own_step (fun _ κ => XS.icmpYes X0.here hx rfl (pc0 := 3) (pc' := 16) rfl (hb hby d6_3) rfl (tlt hc1).1 (by decide) (by decide) κ) ?_
    show own_Go _ _ _ _ (s₁.setTop (mkF m 16 #[.val (.int pc)] []))
    refine own_step (fun _ κ => XS.iconst X0.here hx rfl (hb hby d6_16) κ) ?_
    show own_Go _ _ _ _ (s₁.setTop (mkF m 17 #[.val (.int pc)] [(.int (0 : Int32))]))
    obtain ⟨fs, hr, hrun, hended, hW, hsame⟩ := X0.leave (v := some (.int (0 : Int32))) (fun h => by rw [Bd.returns] at h; cases h)
    refine ⟨_, _, retN X0 hx (t := .boolean) Bd.returns (by simp) (hb hby d6_17) hr, hrun, hended, _, _, rfl, ?_, ⟨_, rfl⟩, hW, hsame.mono (by decide) (by decide)⟩
    show Q6 Z pc  h0 n0 _ s₁.heap _
    rw [e0]
    exact ⟨(by rw [if_pos hc1]), N0, rfl⟩
  · refine own_step (fun _ κ => XS.icmpNo X0.here hx rfl (hb hby d6_3) rfl (flt hc1).1 κ) ?_
    show own_Go _ _ _ _ (s₁.setTop (mkF m 6 #[.val (.int pc)] []))
    refine own_step (fun _ κ => XS.iloadN X0.here hx rfl (hb hby d6_6) rfl κ) ?_
    show own_Go _ _ _ _ (s₁.setTop (mkF m 7 #[.val (.int pc)] [(.int pc)]))
    refine own_step (fun _ κ => XS.bipush X0.here hx rfl (hb hby d6_7) κ) ?_
    show own_Go _ _ _ _ (s₁.setTop (mkF m 9 #[.val (.int pc)] [(.int (57 : Int32)), (.int pc)]))
    by_cases hc2 : (57 : Int32) < pc
    · refine own_step (fun _ κ => XS.icmpYes X0.here hx rfl (pc0 := 9) (pc' := 16) rfl (hb hby d6_9) rfl (tlt hc2).2.2.1 (by decide) (by decide) κ) ?_
      show own_Go _ _ _ _ (s₁.setTop (mkF m 16 #[.val (.int pc)] []))
      refine own_step (fun _ κ => XS.iconst X0.here hx rfl (hb hby d6_16) κ) ?_
      show own_Go _ _ _ _ (s₁.setTop (mkF m 17 #[.val (.int pc)] [(.int (0 : Int32))]))
      obtain ⟨fs, hr, hrun, hended, hW, hsame⟩ := X0.leave (v := some (.int (0 : Int32))) (fun h => by rw [Bd.returns] at h; cases h)
      refine ⟨_, _, retN X0 hx (t := .boolean) Bd.returns (by simp) (hb hby d6_17) hr, hrun, hended, _, _, rfl, ?_, ⟨_, rfl⟩, hW, hsame.mono (by decide) (by decide)⟩
      show Q6 Z pc  h0 n0 _ s₁.heap _
      rw [e0]
      exact ⟨(by rw [if_neg hc1, if_pos hc2]), N0, rfl⟩
    · refine own_step (fun _ κ => XS.icmpNo X0.here hx rfl (hb hby d6_9) rfl (flt hc2).2.2.1 κ) ?_
      show own_Go _ _ _ _ (s₁.setTop (mkF m 12 #[.val (.int pc)] []))
      refine own_step (fun _ κ => XS.iconst X0.here hx rfl (hb hby d6_12) κ) ?_
      show own_Go _ _ _ _ (s₁.setTop (mkF m 13 #[.val (.int pc)] [(.int (1 : Int32))]))
      refine own_step (fun _ κ => XS.goto X0.here hx rfl (pc0 := 13) (pc' := 17) rfl (hb hby d6_13) (by decide) (by decide) κ) ?_
      show own_Go _ _ _ _ (s₁.setTop (mkF m 17 #[.val (.int pc)] [(.int (1 : Int32))]))
      obtain ⟨fs, hr, hrun, hended, hW, hsame⟩ := X0.leave (v := some (.int (1 : Int32))) (fun h => by rw [Bd.returns] at h; cases h)
      refine ⟨_, _, retN X0 hx (t := .boolean) Bd.returns (by simp) (hb hby d6_17) hr, hrun, hended, _, _, rfl, ?_, ⟨_, rfl⟩, hW, hsame.mono (by decide) (by decide)⟩
      show Q6 Z pc  h0 n0 _ s₁.heap _
      rw [e0]
      exact ⟨(by rw [if_neg hc1, if_neg hc2]), N0, rfl⟩
theorem d7_0 : decode prog_28_method_26_code 0 = .ok (.iload_n 0, 1) := by decide +kernel
theorem d7_1 : decode prog_28_method_26_code 1 = .ok (.invokestatic 170, 3) := by decide +kernel
theorem d7_4 : decode prog_28_method_26_code 4 = .ok (.ifCond .eq 11, 3) := by decide +kernel
theorem d7_7 : decode prog_28_method_26_code 7 = .ok (.iload_n 0, 1) := by decide +kernel
theorem d7_8 : decode prog_28_method_26_code 8 = .ok (.bipush 48, 2) := by decide +kernel
theorem d7_10 : decode prog_28_method_26_code 10 = .ok (.isub, 1) := by decide +kernel
theorem d7_11 : decode prog_28_method_26_code 11 = .ok (.istore_n 1, 1) := by decide +kernel
theorem d7_12 : decode prog_28_method_26_code 12 = .ok (.goto 51, 3) := by decide +kernel
theorem d7_15 : decode prog_28_method_26_code 15 = .ok (.iload_n 0, 1) := by decide +kernel
theorem d7_16 : decode prog_28_method_26_code 16 = .ok (.bipush 97, 2) := by decide +kernel
theorem d7_18 : decode prog_28_method_26_code 18 = .ok (.if_icmp .lt 20, 3) := by decide +kernel
theorem d7_21 : decode prog_28_method_26_code 21 = .ok (.iload_n 0, 1) := by decide +kernel
theorem d7_22 : decode prog_28_method_26_code 22 = .ok (.bipush 102, 2) := by decide +kernel
theorem d7_24 : decode prog_28_method_26_code 24 = .ok (.if_icmp .gt 14, 3) := by decide +kernel
theorem d7_27 : decode prog_28_method_26_code 27 = .ok (.iload_n 0, 1) := by decide +kernel
theorem d7_28 : decode prog_28_method_26_code 28 = .ok (.bipush 97, 2) := by decide +kernel
theorem d7_30 : decode prog_28_method_26_code 30 = .ok (.isub, 1) := by decide +kernel
theorem d7_31 : decode prog_28_method_26_code 31 = .ok (.bipush 10, 2) := by decide +kernel
theorem d7_33 : decode prog_28_method_26_code 33 = .ok (.iadd, 1) := by decide +kernel
theorem d7_34 : decode prog_28_method_26_code 34 = .ok (.istore_n 1, 1) := by decide +kernel
theorem d7_35 : decode prog_28_method_26_code 35 = .ok (.goto 28, 3) := by decide +kernel
theorem d7_38 : decode prog_28_method_26_code 38 = .ok (.iload_n 0, 1) := by decide +kernel
theorem d7_39 : decode prog_28_method_26_code 39 = .ok (.bipush 65, 2) := by decide +kernel
theorem d7_41 : decode prog_28_method_26_code 41 = .ok (.if_icmp .lt 20, 3) := by decide +kernel
theorem d7_44 : decode prog_28_method_26_code 44 = .ok (.iload_n 0, 1) := by decide +kernel
theorem d7_45 : decode prog_28_method_26_code 45 = .ok (.bipush 70, 2) := by decide +kernel
theorem d7_47 : decode prog_28_method_26_code 47 = .ok (.if_icmp .gt 14, 3) := by decide +kernel
theorem d7_50 : decode prog_28_method_26_code 50 = .ok (.iload_n 0, 1) := by decide +kernel
theorem d7_51 : decode prog_28_method_26_code 51 = .ok (.bipush 65, 2) := by decide +kernel
theorem d7_53 : decode prog_28_method_26_code 53 = .ok (.isub, 1) := by decide +kernel
theorem d7_54 : decode prog_28_method_26_code 54 = .ok (.bipush 10, 2) := by decide +kernel
theorem d7_56 : decode prog_28_method_26_code 56 = .ok (.iadd, 1) := by decide +kernel
theorem d7_57 : decode prog_28_method_26_code 57 = .ok (.istore_n 1, 1) := by decide +kernel
theorem d7_58 : decode prog_28_method_26_code 58 = .ok (.goto 5, 3) := by decide +kernel
theorem d7_61 : decode prog_28_method_26_code 61 = .ok (.iconst (-1), 1) := by decide +kernel
theorem d7_62 : decode prog_28_method_26_code 62 = .ok (.istore_n 1, 1) := by decide +kernel
theorem d7_63 : decode prog_28_method_26_code 63 = .ok (.iload_n 1, 1) := by decide +kernel
theorem d7_64 : decode prog_28_method_26_code 64 = .ok (.ireturn, 1) := by decide +kernel
theorem ef_7 (m : MethodId) (pc : Int32) : entryFrame m #[(.int pc)] 2 = mkF m 0 #[.val (.int pc), .unset] [] := by first | (simp [entryFrame, mkF, argsToLocals, Value.category]; done) | rfl
def Q7 (Z : State) (pc : Int32) (h0 : Heap) (n0 : Nat) (v : Option Value) (h : Heap) (L : List Loc) : Prop := v = some (.int (own_hex pc)) ∧ Fr n0 L ∧ h = h0
set_option maxRecDepth 65536 in
set_option maxHeartbeats 40000000 in
theorem rm7 (l : Launch) (Z : State) (a0 : Array Value) (hw : ∀ d ∈ tables_1, d.before a0 Z = true) (ws : List Jvm.Cond) (pc : Int32) (h0 : Heap) (n0 : Nat) (Z0 : n0 ≤ h0.size)  :
    MetFree l (⟨"com/example/fouille/fouille/rdf/NTriplesParser", "hexValue", "(C)I"⟩ : MethodName) (head1 (Jvm.Cond.code (⟨"com/example/fouille/fouille/rdf/NTriplesParser", "hexValue", "(C)I"⟩ : MethodName) prog_28_method_26_code 2 (some .int) :: ws) ({ frames := 1, cells := 0, slots := 0, locals := 12 } : Room)) (fun ar_ U => ar_ = #[(.int pc)] ∧ Z.Warmed39 U.vm ∧ U.heap = h0) (fun _ _ _ _ _ => True) (fun _ U oo_ U' => ∃ v L, oo_ = .returned v ∧ Q7 Z pc  h0 n0 v U'.heap L ∧ FrameEnd U oo_ U' L ({ frames := 1, cells := 0, slots := 0, locals := 12 } : Room).cells ({ frames := 1, cells := 0, slots := 0, locals := 12 } : Room).slots) := by
  refine MetFree.of_bodySF (plainFor_of_name pn_3) hisR ?_
  intro p e s m args below meth c s₁ Bd hml0 hP hK
  obtain ⟨rfl, hZ, hh⟩ := hP
  have hx := Bd.exec
  have hby := Bd.bytes
  have hml : c.maxLocals = 2 := hml0
  have hown : s.vm.findClass "com/example/fouille/fouille/rdf/NTriplesParser" = some m.cls := findClass_of_methodNamed Bd.named
  have hnm := (name_of_methodNamed Bd.named Bd.method).1
  have X0 : Stand p l e ({ frames := 1, cells := 0, slots := 0, locals := 12 } : Room) s m #[(.int pc)] below meth c s₁ [] 0 0 := Stand.of_body Bd
  have e0 : s₁.heap = h0 := by rw [← hh, Bd.state]; rfl
  have N0 := Fr.nil n0
  refine own_in (castTop (ef_7 m pc)) ?_
  show own_Go _ _ _ _ (s₁.setTop (mkF m 0 #[.val (.int pc), .unset] []))
  refine own_step (fun _ κ => XS.iloadN X0.here hx rfl (hb hby d7_0) rfl κ) ?_
  show own_Go _ _ _ _ (s₁.setTop (mkF m 1 #[.val (.int pc), .unset] [(.int pc)]))
  obtain ⟨vr1, _, ⟨T1, L1, k1, n1⟩, -, X1, ⟨Lc1, hQ1, l1, y1, z1⟩, st1⟩ := Jvm.LawKit.callS X0 hx (y := (⟨"com/example/fouille/fouille/rdf/NTriplesParser", "isDigit", "(I)Z"⟩ : MethodName)) hown (mvT hZ (hw _ (List.mem_of_getElem? (i := 39) rfl))) (mvT hZ (hw _ (List.mem_of_getElem? (i := 40) rfl))) (mvT hZ (hw _ (List.mem_of_getElem? (i := 37) rfl))) (mvT hZ (hw _ (List.mem_of_getElem? (i := 41) rfl))) (by decide) (backOf (W := 0) (rm6 l Z a0 hw [] pc  h0 n0 Z0 ) hZ (hw _ (List.mem_of_getElem? (i := 41) rfl)) (hw _ (List.mem_of_getElem? (i := 37) rfl)) (by decide) (by decide)) (g := (mkF m 1 #[.val (.int pc), .unset] [(.int pc)])) rfl (by rw [hml]; rfl) (argsL := [(.int pc)]) (rest := []) (lenOf pd_4 rfl) rfl (by show 2 * 0 + _ ≤ _; exact Nat.le_of_eq rfl) (hb hby d7_1) (fun _ _ => ⟨rfl, e0, (by decide : 0 + 0 ≤ _), (by decide : 0 + 0 ≤ _)⟩)
  dsimp only [Pt.U, Pt.locs, Pt.cells, Pt.slots] at X1 l1 y1 z1 st1 hQ1
  subst l1 y1 z1
  obtain ⟨hv1, Nq1, eq1⟩ := hQ1
  have N1 := Fr.app N0 Nq1
  by_cases hc2 : pc < (48 : Int32)
  · rw [if_pos hc2] at hv1
    subst hv1
    refine own_step st1 ?_
    show own_Go _ _ _ _ (T1.setTop (mkF m 4 #[.val (.int pc), .unset] [(.int (0 : Int32))]))
    refine own_step (fun _ κ => XS.ifYes X1.here hx rfl (pc0 := 4) (pc' := 15) rfl (hb hby d7_4) rfl ((if0 _ _).trans (teq rfl).1) (by decide) (by decide) κ) ?_
    show own_Go _ _ _ _ (T1.setTop (mkF m 15 #[.val (.int pc), .unset] []))
    refine own_step (fun _ κ => XS.iloadN X1.here hx rfl (hb hby d7_15) rfl κ) ?_
    show own_Go _ _ _ _ (T1.setTop (mkF m 16 #[.val (.int pc), .unset] [(.int pc)]))
    refine own_step (fun _ κ => XS.bipush X1.here hx rfl (hb hby d7_16) κ) ?_
    show own_Go _ _ _ _ (T1.setTop (mkF m 18 #[.val (.int pc), .unset] [(.int (97 : Int32)), (.int pc)]))
    by_cases hc3 : pc < (97 : Int32)
    · refine own_step (fun _ κ => XS.icmpYes X1.here hx rfl (pc0 := 18) (pc' := 38) rfl (hb hby d7_18) rfl (tlt hc3).1 (by decide) (by decide) κ) ?_
      show own_Go _ _ _ _ (T1.setTop (mkF m 38 #[.val (.int pc), .unset] []))
      refine own_step (fun _ κ => XS.iloadN X1.here hx rfl (hb hby d7_38) rfl κ) ?_
      show own_Go _ _ _ _ (T1.setTop (mkF m 39 #[.val (.int pc), .unset] [(.int pc)]))
      refine own_step (fun _ κ => XS.bipush X1.here hx rfl (hb hby d7_39) κ) ?_
      show own_Go _ _ _ _ (T1.setTop (mkF m 41 #[.val (.int pc), .unset] [(.int (65 : Int32)), (.int pc)]))
      by_cases hc4 : pc < (65 : Int32)
      · refine own_step (fun _ κ => XS.icmpYes X1.here hx rfl (pc0 := 41) (pc' := 61) rfl (hb hby d7_41) rfl (tlt hc4).1 (by decide) (by decide) κ) ?_
        show own_Go _ _ _ _ (T1.setTop (mkF m 61 #[.val (.int pc), .unset] []))
        refine own_step (fun _ κ => XS.iconst X1.here hx rfl (hb hby d7_61) κ) ?_
        show own_Go _ _ _ _ (T1.setTop (mkF m 62 #[.val (.int pc), .unset] [(.int (-1 : Int32))]))
        refine own_step (fun _ κ => XS.istoreN X1.here hx rfl (hb hby d7_62) rfl (l' := #[.val (.int pc), .val (.int (-1 : Int32))]) rfl κ) ?_
        show own_Go _ _ _ _ (T1.setTop (mkF m 63 #[.val (.int pc), .val (.int (-1 : Int32))] []))
        refine own_step (fun _ κ => XS.iloadN X1.here hx rfl (hb hby d7_63) rfl κ) ?_
        show own_Go _ _ _ _ (T1.setTop (mkF m 64 #[.val (.int pc), .val (.int (-1 : Int32))] [(.int (-1 : Int32))]))
        obtain ⟨fs, hr, hrun, hended, hW, hsame⟩ := X1.leave (v := some (.int (-1 : Int32))) (fun h => by rw [Bd.returns] at h; cases h)
        refine ⟨_, _, own_retI X1 hx Bd.returns (hb hby d7_64) hr, hrun, hended, _, _, rfl, ?_, ⟨_, rfl⟩, hW, hsame.mono (by decide) (by decide)⟩
        show Q7 Z pc  h0 n0 _ T1.heap _
        rw [eq1]
        exact ⟨by simp [own_hex, hc2, hc3, hc4], N1, rfl⟩
      · refine own_step (fun _ κ => XS.icmpNo X1.here hx rfl (hb hby d7_41) rfl (flt hc4).1 κ) ?_
        show own_Go _ _ _ _ (T1.setTop (mkF m 44 #[.val (.int pc), .unset] []))
        refine own_step (fun _ κ => XS.iloadN X1.here hx rfl (hb hby d7_44) rfl κ) ?_
        show own_Go _ _ _ _ (T1.setTop (mkF m 45 #[.val (.int pc), .unset] [(.int pc)]))
        refine own_step (fun _ κ => XS.bipush X1.here hx rfl (hb hby d7_45) κ) ?_
        show own_Go _ _ _ _ (T1.setTop (mkF m 47 #[.val (.int pc), .unset] [(.int (70 : Int32)), (.int pc)]))
        by_cases hc5 : (70 : Int32) < pc
        · refine own_step (fun _ κ => XS.icmpYes X1.here hx rfl (pc0 := 47) (pc' := 61) rfl (hb hby d7_47) rfl (tlt hc5).2.2.1 (by decide) (by decide) κ) ?_
          show own_Go _ _ _ _ (T1.setTop (mkF m 61 #[.val (.int pc), .unset] []))
          refine own_step (fun _ κ => XS.iconst X1.here hx rfl (hb hby d7_61) κ) ?_
          show own_Go _ _ _ _ (T1.setTop (mkF m 62 #[.val (.int pc), .unset] [(.int (-1 : Int32))]))
          refine own_step (fun _ κ => XS.istoreN X1.here hx rfl (hb hby d7_62) rfl (l' := #[.val (.int pc), .val (.int (-1 : Int32))]) rfl κ) ?_
          show own_Go _ _ _ _ (T1.setTop (mkF m 63 #[.val (.int pc), .val (.int (-1 : Int32))] []))
          refine own_step (fun _ κ => XS.iloadN X1.here hx rfl (hb hby d7_63) rfl κ) ?_
          show own_Go _ _ _ _ (T1.setTop (mkF m 64 #[.val (.int pc), .val (.int (-1 : Int32))] [(.int (-1 : Int32))]))
          obtain ⟨fs, hr, hrun, hended, hW, hsame⟩ := X1.leave (v := some (.int (-1 : Int32))) (fun h => by rw [Bd.returns] at h; cases h)
          refine ⟨_, _, own_retI X1 hx Bd.returns (hb hby d7_64) hr, hrun, hended, _, _, rfl, ?_, ⟨_, rfl⟩, hW, hsame.mono (by decide) (by decide)⟩
          show Q7 Z pc  h0 n0 _ T1.heap _
          rw [eq1]
          exact ⟨by simp [own_hex, hc2, hc3, hc4, hc5], N1, rfl⟩
        · refine own_step (fun _ κ => XS.icmpNo X1.here hx rfl (hb hby d7_47) rfl (flt hc5).2.2.1 κ) ?_
          show own_Go _ _ _ _ (T1.setTop (mkF m 50 #[.val (.int pc), .unset] []))
          refine own_step (fun _ κ => XS.iloadN X1.here hx rfl (hb hby d7_50) rfl κ) ?_
          show own_Go _ _ _ _ (T1.setTop (mkF m 51 #[.val (.int pc), .unset] [(.int pc)]))
          refine own_step (fun _ κ => XS.bipush X1.here hx rfl (hb hby d7_51) κ) ?_
          show own_Go _ _ _ _ (T1.setTop (mkF m 53 #[.val (.int pc), .unset] [(.int (65 : Int32)), (.int pc)]))
          refine own_step (fun _ κ => XS.isub X1.here hx rfl (hb hby d7_53) rfl κ) ?_
          show own_Go _ _ _ _ (T1.setTop (mkF m 54 #[.val (.int pc), .unset] [(.int (pc - (65 : Int32)))]))
          refine own_step (fun _ κ => XS.bipush X1.here hx rfl (hb hby d7_54) κ) ?_
          show own_Go _ _ _ _ (T1.setTop (mkF m 56 #[.val (.int pc), .unset] [(.int (10 : Int32)), (.int (pc - (65 : Int32)))]))
          refine own_step (fun _ κ => XS.iadd X1.here hx rfl (hb hby d7_56) rfl κ) ?_
          show own_Go _ _ _ _ (T1.setTop (mkF m 57 #[.val (.int pc), .unset] [(.int ((pc - (65 : Int32)) + (10 : Int32)))]))
          refine own_step (fun _ κ => XS.istoreN X1.here hx rfl (hb hby d7_57) rfl (l' := #[.val (.int pc), .val (.int ((pc - (65 : Int32)) + (10 : Int32)))]) rfl κ) ?_
          show own_Go _ _ _ _ (T1.setTop (mkF m 58 #[.val (.int pc), .val (.int ((pc - (65 : Int32)) + (10 : Int32)))] []))
          refine own_step (fun _ κ => XS.goto X1.here hx rfl (pc0 := 58) (pc' := 63) rfl (hb hby d7_58) (by decide) (by decide) κ) ?_
          show own_Go _ _ _ _ (T1.setTop (mkF m 63 #[.val (.int pc), .val (.int ((pc - (65 : Int32)) + (10 : Int32)))] []))
          refine own_step (fun _ κ => XS.iloadN X1.here hx rfl (hb hby d7_63) rfl κ) ?_
          show own_Go _ _ _ _ (T1.setTop (mkF m 64 #[.val (.int pc), .val (.int ((pc - (65 : Int32)) + (10 : Int32)))] [(.int ((pc - (65 : Int32)) + (10 : Int32)))]))
          obtain ⟨fs, hr, hrun, hended, hW, hsame⟩ := X1.leave (v := some (.int ((pc - (65 : Int32)) + (10 : Int32)))) (fun h => by rw [Bd.returns] at h; cases h)
          refine ⟨_, _, own_retI X1 hx Bd.returns (hb hby d7_64) hr, hrun, hended, _, _, rfl, ?_, ⟨_, rfl⟩, hW, hsame.mono (by decide) (by decide)⟩
          show Q7 Z pc  h0 n0 _ T1.heap _
          rw [eq1]
          exact ⟨by simp [own_hex, hc2, hc3, hc4, hc5], N1, rfl⟩
    · refine own_step (fun _ κ => XS.icmpNo X1.here hx rfl (hb hby d7_18) rfl (flt hc3).1 κ) ?_
      show own_Go _ _ _ _ (T1.setTop (mkF m 21 #[.val (.int pc), .unset] []))
      refine own_step (fun _ κ => XS.iloadN X1.here hx rfl (hb hby d7_21) rfl κ) ?_
      show own_Go _ _ _ _ (T1.setTop (mkF m 22 #[.val (.int pc), .unset] [(.int pc)]))
      refine own_step (fun _ κ => XS.bipush X1.here hx rfl (hb hby d7_22) κ) ?_
      show own_Go _ _ _ _ (T1.setTop (mkF m 24 #[.val (.int pc), .unset] [(.int (102 : Int32)), (.int pc)]))
      by_cases hc6 : (102 : Int32) < pc
      · refine own_step (fun _ κ => XS.icmpYes X1.here hx rfl (pc0 := 24) (pc' := 38) rfl (hb hby d7_24) rfl (tlt hc6).2.2.1 (by decide) (by decide) κ) ?_
        show own_Go _ _ _ _ (T1.setTop (mkF m 38 #[.val (.int pc), .unset] []))
        refine own_step (fun _ κ => XS.iloadN X1.here hx rfl (hb hby d7_38) rfl κ) ?_
        show own_Go _ _ _ _ (T1.setTop (mkF m 39 #[.val (.int pc), .unset] [(.int pc)]))
        refine own_step (fun _ κ => XS.bipush X1.here hx rfl (hb hby d7_39) κ) ?_
        show own_Go _ _ _ _ (T1.setTop (mkF m 41 #[.val (.int pc), .unset] [(.int (65 : Int32)), (.int pc)]))
        by_cases hc7 : pc < (65 : Int32)
        · refine own_step (fun _ κ => XS.icmpYes X1.here hx rfl (pc0 := 41) (pc' := 61) rfl (hb hby d7_41) rfl (tlt hc7).1 (by decide) (by decide) κ) ?_
          show own_Go _ _ _ _ (T1.setTop (mkF m 61 #[.val (.int pc), .unset] []))
          refine own_step (fun _ κ => XS.iconst X1.here hx rfl (hb hby d7_61) κ) ?_
          show own_Go _ _ _ _ (T1.setTop (mkF m 62 #[.val (.int pc), .unset] [(.int (-1 : Int32))]))
          refine own_step (fun _ κ => XS.istoreN X1.here hx rfl (hb hby d7_62) rfl (l' := #[.val (.int pc), .val (.int (-1 : Int32))]) rfl κ) ?_
          show own_Go _ _ _ _ (T1.setTop (mkF m 63 #[.val (.int pc), .val (.int (-1 : Int32))] []))
          refine own_step (fun _ κ => XS.iloadN X1.here hx rfl (hb hby d7_63) rfl κ) ?_
          show own_Go _ _ _ _ (T1.setTop (mkF m 64 #[.val (.int pc), .val (.int (-1 : Int32))] [(.int (-1 : Int32))]))
          obtain ⟨fs, hr, hrun, hended, hW, hsame⟩ := X1.leave (v := some (.int (-1 : Int32))) (fun h => by rw [Bd.returns] at h; cases h)
          refine ⟨_, _, own_retI X1 hx Bd.returns (hb hby d7_64) hr, hrun, hended, _, _, rfl, ?_, ⟨_, rfl⟩, hW, hsame.mono (by decide) (by decide)⟩
          show Q7 Z pc  h0 n0 _ T1.heap _
          rw [eq1]
          exact ⟨by simp [own_hex, hc2, hc3, hc6, hc7], N1, rfl⟩
        · refine own_step (fun _ κ => XS.icmpNo X1.here hx rfl (hb hby d7_41) rfl (flt hc7).1 κ) ?_
          show own_Go _ _ _ _ (T1.setTop (mkF m 44 #[.val (.int pc), .unset] []))
          refine own_step (fun _ κ => XS.iloadN X1.here hx rfl (hb hby d7_44) rfl κ) ?_
          show own_Go _ _ _ _ (T1.setTop (mkF m 45 #[.val (.int pc), .unset] [(.int pc)]))
          refine own_step (fun _ κ => XS.bipush X1.here hx rfl (hb hby d7_45) κ) ?_
          show own_Go _ _ _ _ (T1.setTop (mkF m 47 #[.val (.int pc), .unset] [(.int (70 : Int32)), (.int pc)]))
          by_cases hc8 : (70 : Int32) < pc
          · refine own_step (fun _ κ => XS.icmpYes X1.here hx rfl (pc0 := 47) (pc' := 61) rfl (hb hby d7_47) rfl (tlt hc8).2.2.1 (by decide) (by decide) κ) ?_
            show own_Go _ _ _ _ (T1.setTop (mkF m 61 #[.val (.int pc), .unset] []))
            refine own_step (fun _ κ => XS.iconst X1.here hx rfl (hb hby d7_61) κ) ?_
            show own_Go _ _ _ _ (T1.setTop (mkF m 62 #[.val (.int pc), .unset] [(.int (-1 : Int32))]))
            refine own_step (fun _ κ => XS.istoreN X1.here hx rfl (hb hby d7_62) rfl (l' := #[.val (.int pc), .val (.int (-1 : Int32))]) rfl κ) ?_
            show own_Go _ _ _ _ (T1.setTop (mkF m 63 #[.val (.int pc), .val (.int (-1 : Int32))] []))
            refine own_step (fun _ κ => XS.iloadN X1.here hx rfl (hb hby d7_63) rfl κ) ?_
            show own_Go _ _ _ _ (T1.setTop (mkF m 64 #[.val (.int pc), .val (.int (-1 : Int32))] [(.int (-1 : Int32))]))
            obtain ⟨fs, hr, hrun, hended, hW, hsame⟩ := X1.leave (v := some (.int (-1 : Int32))) (fun h => by rw [Bd.returns] at h; cases h)
            refine ⟨_, _, own_retI X1 hx Bd.returns (hb hby d7_64) hr, hrun, hended, _, _, rfl, ?_, ⟨_, rfl⟩, hW, hsame.mono (by decide) (by decide)⟩
            show Q7 Z pc  h0 n0 _ T1.heap _
            rw [eq1]
            exact ⟨by simp [own_hex, hc2, hc3, hc6, hc7, hc8], N1, rfl⟩
          · refine own_step (fun _ κ => XS.icmpNo X1.here hx rfl (hb hby d7_47) rfl (flt hc8).2.2.1 κ) ?_
            show own_Go _ _ _ _ (T1.setTop (mkF m 50 #[.val (.int pc), .unset] []))
            refine own_step (fun _ κ => XS.iloadN X1.here hx rfl (hb hby d7_50) rfl κ) ?_
            show own_Go _ _ _ _ (T1.setTop (mkF m 51 #[.val (.int pc), .unset] [(.int pc)]))
            refine own_step (fun _ κ => XS.bipush X1.here hx rfl (hb hby d7_51) κ) ?_
            show own_Go _ _ _ _ (T1.setTop (mkF m 53 #[.val (.int pc), .unset] [(.int (65 : Int32)), (.int pc)]))
            refine own_step (fun _ κ => XS.isub X1.here hx rfl (hb hby d7_53) rfl κ) ?_
            show own_Go _ _ _ _ (T1.setTop (mkF m 54 #[.val (.int pc), .unset] [(.int (pc - (65 : Int32)))]))
            refine own_step (fun _ κ => XS.bipush X1.here hx rfl (hb hby d7_54) κ) ?_
            show own_Go _ _ _ _ (T1.setTop (mkF m 56 #[.val (.int pc), .unset] [(.int (10 : Int32)), (.int (pc - (65 : Int32)))]))
            refine own_step (fun _ κ => XS.iadd X1.here hx rfl (hb hby d7_56) rfl κ) ?_
            show own_Go _ _ _ _ (T1.setTop (mkF m 57 #[.val (.int pc), .unset] [(.int ((pc - (65 : Int32)) + (10 : Int32)))]))
            refine own_step (fun _ κ => XS.istoreN X1.here hx rfl (hb hby d7_57) rfl (l' := #[.val (.int pc), .val (.int ((pc - (65 : Int32)) + (10 : Int32)))]) rfl κ) ?_
            show own_Go _ _ _ _ (T1.setTop (mkF m 58 #[.val (.int pc), .val (.int ((pc - (65 : Int32)) + (10 : Int32)))] []))
            refine own_step (fun _ κ => XS.goto X1.here hx rfl (pc0 := 58) (pc' := 63) rfl (hb hby d7_58) (by decide) (by decide) κ) ?_
            show own_Go _ _ _ _ (T1.setTop (mkF m 63 #[.val (.int pc), .val (.int ((pc - (65 : Int32)) + (10 : Int32)))] []))
            refine own_step (fun _ κ => XS.iloadN X1.here hx rfl (hb hby d7_63) rfl κ) ?_
            show own_Go _ _ _ _ (T1.setTop (mkF m 64 #[.val (.int pc), .val (.int ((pc - (65 : Int32)) + (10 : Int32)))] [(.int ((pc - (65 : Int32)) + (10 : Int32)))]))
            obtain ⟨fs, hr, hrun, hended, hW, hsame⟩ := X1.leave (v := some (.int ((pc - (65 : Int32)) + (10 : Int32)))) (fun h => by rw [Bd.returns] at h; cases h)
            refine ⟨_, _, own_retI X1 hx Bd.returns (hb hby d7_64) hr, hrun, hended, _, _, rfl, ?_, ⟨_, rfl⟩, hW, hsame.mono (by decide) (by decide)⟩
            show Q7 Z pc  h0 n0 _ T1.heap _
            rw [eq1]
            exact ⟨by simp [own_hex, hc2, hc3, hc6, hc7, hc8], N1, rfl⟩
      · refine own_step (fun _ κ => XS.icmpNo X1.here hx rfl (hb hby d7_24) rfl (flt hc6).2.2.1 κ) ?_
        show own_Go _ _ _ _ (T1.setTop (mkF m 27 #[.val (.int pc), .unset] []))
        refine own_step (fun _ κ => XS.iloadN X1.here hx rfl (hb hby d7_27) rfl κ) ?_
        show own_Go _ _ _ _ (T1.setTop (mkF m 28 #[.val (.int pc), .unset] [(.int pc)]))
        refine own_step (fun _ κ => XS.bipush X1.here hx rfl (hb hby d7_28) κ) ?_
        show own_Go _ _ _ _ (T1.setTop (mkF m 30 #[.val (.int pc), .unset] [(.int (97 : Int32)), (.int pc)]))
        refine own_step (fun _ κ => XS.isub X1.here hx rfl (hb hby d7_30) rfl κ) ?_
        show own_Go _ _ _ _ (T1.setTop (mkF m 31 #[.val (.int pc), .unset] [(.int (pc - (97 : Int32)))]))
        refine own_step (fun _ κ => XS.bipush X1.here hx rfl (hb hby d7_31) κ) ?_
        show own_Go _ _ _ _ (T1.setTop (mkF m 33 #[.val (.int pc), .unset] [(.int (10 : Int32)), (.int (pc - (97 : Int32)))]))
        refine own_step (fun _ κ => XS.iadd X1.here hx rfl (hb hby d7_33) rfl κ) ?_
        show own_Go _ _ _ _ (T1.setTop (mkF m 34 #[.val (.int pc), .unset] [(.int ((pc - (97 : Int32)) + (10 : Int32)))]))
        refine own_step (fun _ κ => XS.istoreN X1.here hx rfl (hb hby d7_34) rfl (l' := #[.val (.int pc), .val (.int ((pc - (97 : Int32)) + (10 : Int32)))]) rfl κ) ?_
        show own_Go _ _ _ _ (T1.setTop (mkF m 35 #[.val (.int pc), .val (.int ((pc - (97 : Int32)) + (10 : Int32)))] []))
        refine own_step (fun _ κ => XS.goto X1.here hx rfl (pc0 := 35) (pc' := 63) rfl (hb hby d7_35) (by decide) (by decide) κ) ?_
        show own_Go _ _ _ _ (T1.setTop (mkF m 63 #[.val (.int pc), .val (.int ((pc - (97 : Int32)) + (10 : Int32)))] []))
        refine own_step (fun _ κ => XS.iloadN X1.here hx rfl (hb hby d7_63) rfl κ) ?_
        show own_Go _ _ _ _ (T1.setTop (mkF m 64 #[.val (.int pc), .val (.int ((pc - (97 : Int32)) + (10 : Int32)))] [(.int ((pc - (97 : Int32)) + (10 : Int32)))]))
        obtain ⟨fs, hr, hrun, hended, hW, hsame⟩ := X1.leave (v := some (.int ((pc - (97 : Int32)) + (10 : Int32)))) (fun h => by rw [Bd.returns] at h; cases h)
        refine ⟨_, _, own_retI X1 hx Bd.returns (hb hby d7_64) hr, hrun, hended, _, _, rfl, ?_, ⟨_, rfl⟩, hW, hsame.mono (by decide) (by decide)⟩
        show Q7 Z pc  h0 n0 _ T1.heap _
        rw [eq1]
        exact ⟨by simp [own_hex, hc2, hc3, hc6], N1, rfl⟩
  · rw [if_neg hc2] at hv1
    by_cases hc9 : (57 : Int32) < pc
    · rw [if_pos hc9] at hv1
      subst hv1
      refine own_step st1 ?_
      show own_Go _ _ _ _ (T1.setTop (mkF m 4 #[.val (.int pc), .unset] [(.int (0 : Int32))]))
      refine own_step (fun _ κ => XS.ifYes X1.here hx rfl (pc0 := 4) (pc' := 15) rfl (hb hby d7_4) rfl ((if0 _ _).trans (teq rfl).1) (by decide) (by decide) κ) ?_
      show own_Go _ _ _ _ (T1.setTop (mkF m 15 #[.val (.int pc), .unset] []))
      refine own_step (fun _ κ => XS.iloadN X1.here hx rfl (hb hby d7_15) rfl κ) ?_
      show own_Go _ _ _ _ (T1.setTop (mkF m 16 #[.val (.int pc), .unset] [(.int pc)]))
      refine own_step (fun _ κ => XS.bipush X1.here hx rfl (hb hby d7_16) κ) ?_
      show own_Go _ _ _ _ (T1.setTop (mkF m 18 #[.val (.int pc), .unset] [(.int (97 : Int32)), (.int pc)]))
      by_cases hc10 : pc < (97 : Int32)
      · refine own_step (fun _ κ => XS.icmpYes X1.here hx rfl (pc0 := 18) (pc' := 38) rfl (hb hby d7_18) rfl (tlt hc10).1 (by decide) (by decide) κ) ?_
        show own_Go _ _ _ _ (T1.setTop (mkF m 38 #[.val (.int pc), .unset] []))
        refine own_step (fun _ κ => XS.iloadN X1.here hx rfl (hb hby d7_38) rfl κ) ?_
        show own_Go _ _ _ _ (T1.setTop (mkF m 39 #[.val (.int pc), .unset] [(.int pc)]))
        refine own_step (fun _ κ => XS.bipush X1.here hx rfl (hb hby d7_39) κ) ?_
        show own_Go _ _ _ _ (T1.setTop (mkF m 41 #[.val (.int pc), .unset] [(.int (65 : Int32)), (.int pc)]))
        by_cases hc11 : pc < (65 : Int32)
        · refine own_step (fun _ κ => XS.icmpYes X1.here hx rfl (pc0 := 41) (pc' := 61) rfl (hb hby d7_41) rfl (tlt hc11).1 (by decide) (by decide) κ) ?_
          show own_Go _ _ _ _ (T1.setTop (mkF m 61 #[.val (.int pc), .unset] []))
          refine own_step (fun _ κ => XS.iconst X1.here hx rfl (hb hby d7_61) κ) ?_
          show own_Go _ _ _ _ (T1.setTop (mkF m 62 #[.val (.int pc), .unset] [(.int (-1 : Int32))]))
          refine own_step (fun _ κ => XS.istoreN X1.here hx rfl (hb hby d7_62) rfl (l' := #[.val (.int pc), .val (.int (-1 : Int32))]) rfl κ) ?_
          show own_Go _ _ _ _ (T1.setTop (mkF m 63 #[.val (.int pc), .val (.int (-1 : Int32))] []))
          refine own_step (fun _ κ => XS.iloadN X1.here hx rfl (hb hby d7_63) rfl κ) ?_
          show own_Go _ _ _ _ (T1.setTop (mkF m 64 #[.val (.int pc), .val (.int (-1 : Int32))] [(.int (-1 : Int32))]))
          obtain ⟨fs, hr, hrun, hended, hW, hsame⟩ := X1.leave (v := some (.int (-1 : Int32))) (fun h => by rw [Bd.returns] at h; cases h)
          refine ⟨_, _, own_retI X1 hx Bd.returns (hb hby d7_64) hr, hrun, hended, _, _, rfl, ?_, ⟨_, rfl⟩, hW, hsame.mono (by decide) (by decide)⟩
          show Q7 Z pc  h0 n0 _ T1.heap _
          rw [eq1]
          exact ⟨by simp [own_hex, hc2, hc9, hc10, hc11], N1, rfl⟩
        · refine own_step (fun _ κ => XS.icmpNo X1.here hx rfl (hb hby d7_41) rfl (flt hc11).1 κ) ?_
          show own_Go _ _ _ _ (T1.setTop (mkF m 44 #[.val (.int pc), .unset] []))
          refine own_step (fun _ κ => XS.iloadN X1.here hx rfl (hb hby d7_44) rfl κ) ?_
          show own_Go _ _ _ _ (T1.setTop (mkF m 45 #[.val (.int pc), .unset] [(.int pc)]))
          refine own_step (fun _ κ => XS.bipush X1.here hx rfl (hb hby d7_45) κ) ?_
          show own_Go _ _ _ _ (T1.setTop (mkF m 47 #[.val (.int pc), .unset] [(.int (70 : Int32)), (.int pc)]))
          by_cases hc12 : (70 : Int32) < pc
          · refine own_step (fun _ κ => XS.icmpYes X1.here hx rfl (pc0 := 47) (pc' := 61) rfl (hb hby d7_47) rfl (tlt hc12).2.2.1 (by decide) (by decide) κ) ?_
            show own_Go _ _ _ _ (T1.setTop (mkF m 61 #[.val (.int pc), .unset] []))
            refine own_step (fun _ κ => XS.iconst X1.here hx rfl (hb hby d7_61) κ) ?_
            show own_Go _ _ _ _ (T1.setTop (mkF m 62 #[.val (.int pc), .unset] [(.int (-1 : Int32))]))
            refine own_step (fun _ κ => XS.istoreN X1.here hx rfl (hb hby d7_62) rfl (l' := #[.val (.int pc), .val (.int (-1 : Int32))]) rfl κ) ?_
            show own_Go _ _ _ _ (T1.setTop (mkF m 63 #[.val (.int pc), .val (.int (-1 : Int32))] []))
            refine own_step (fun _ κ => XS.iloadN X1.here hx rfl (hb hby d7_63) rfl κ) ?_
            show own_Go _ _ _ _ (T1.setTop (mkF m 64 #[.val (.int pc), .val (.int (-1 : Int32))] [(.int (-1 : Int32))]))
            obtain ⟨fs, hr, hrun, hended, hW, hsame⟩ := X1.leave (v := some (.int (-1 : Int32))) (fun h => by rw [Bd.returns] at h; cases h)
            refine ⟨_, _, own_retI X1 hx Bd.returns (hb hby d7_64) hr, hrun, hended, _, _, rfl, ?_, ⟨_, rfl⟩, hW, hsame.mono (by decide) (by decide)⟩
            show Q7 Z pc  h0 n0 _ T1.heap _
            rw [eq1]
            exact ⟨by simp [own_hex, hc2, hc9, hc10, hc11, hc12], N1, rfl⟩
          · refine own_step (fun _ κ => XS.icmpNo X1.here hx rfl (hb hby d7_47) rfl (flt hc12).2.2.1 κ) ?_
            show own_Go _ _ _ _ (T1.setTop (mkF m 50 #[.val (.int pc), .unset] []))
            refine own_step (fun _ κ => XS.iloadN X1.here hx rfl (hb hby d7_50) rfl κ) ?_
            show own_Go _ _ _ _ (T1.setTop (mkF m 51 #[.val (.int pc), .unset] [(.int pc)]))
            refine own_step (fun _ κ => XS.bipush X1.here hx rfl (hb hby d7_51) κ) ?_
            show own_Go _ _ _ _ (T1.setTop (mkF m 53 #[.val (.int pc), .unset] [(.int (65 : Int32)), (.int pc)]))
            refine own_step (fun _ κ => XS.isub X1.here hx rfl (hb hby d7_53) rfl κ) ?_
            show own_Go _ _ _ _ (T1.setTop (mkF m 54 #[.val (.int pc), .unset] [(.int (pc - (65 : Int32)))]))
            refine own_step (fun _ κ => XS.bipush X1.here hx rfl (hb hby d7_54) κ) ?_
            show own_Go _ _ _ _ (T1.setTop (mkF m 56 #[.val (.int pc), .unset] [(.int (10 : Int32)), (.int (pc - (65 : Int32)))]))
            refine own_step (fun _ κ => XS.iadd X1.here hx rfl (hb hby d7_56) rfl κ) ?_
            show own_Go _ _ _ _ (T1.setTop (mkF m 57 #[.val (.int pc), .unset] [(.int ((pc - (65 : Int32)) + (10 : Int32)))]))
            refine own_step (fun _ κ => XS.istoreN X1.here hx rfl (hb hby d7_57) rfl (l' := #[.val (.int pc), .val (.int ((pc - (65 : Int32)) + (10 : Int32)))]) rfl κ) ?_
            show own_Go _ _ _ _ (T1.setTop (mkF m 58 #[.val (.int pc), .val (.int ((pc - (65 : Int32)) + (10 : Int32)))] []))
            refine own_step (fun _ κ => XS.goto X1.here hx rfl (pc0 := 58) (pc' := 63) rfl (hb hby d7_58) (by decide) (by decide) κ) ?_
            show own_Go _ _ _ _ (T1.setTop (mkF m 63 #[.val (.int pc), .val (.int ((pc - (65 : Int32)) + (10 : Int32)))] []))
            refine own_step (fun _ κ => XS.iloadN X1.here hx rfl (hb hby d7_63) rfl κ) ?_
            show own_Go _ _ _ _ (T1.setTop (mkF m 64 #[.val (.int pc), .val (.int ((pc - (65 : Int32)) + (10 : Int32)))] [(.int ((pc - (65 : Int32)) + (10 : Int32)))]))
            obtain ⟨fs, hr, hrun, hended, hW, hsame⟩ := X1.leave (v := some (.int ((pc - (65 : Int32)) + (10 : Int32)))) (fun h => by rw [Bd.returns] at h; cases h)
            refine ⟨_, _, own_retI X1 hx Bd.returns (hb hby d7_64) hr, hrun, hended, _, _, rfl, ?_, ⟨_, rfl⟩, hW, hsame.mono (by decide) (by decide)⟩
            show Q7 Z pc  h0 n0 _ T1.heap _
            rw [eq1]
            exact ⟨by simp [own_hex, hc2, hc9, hc10, hc11, hc12], N1, rfl⟩
      · refine own_step (fun _ κ => XS.icmpNo X1.here hx rfl (hb hby d7_18) rfl (flt hc10).1 κ) ?_
        show own_Go _ _ _ _ (T1.setTop (mkF m 21 #[.val (.int pc), .unset] []))
        refine own_step (fun _ κ => XS.iloadN X1.here hx rfl (hb hby d7_21) rfl κ) ?_
        show own_Go _ _ _ _ (T1.setTop (mkF m 22 #[.val (.int pc), .unset] [(.int pc)]))
        refine own_step (fun _ κ => XS.bipush X1.here hx rfl (hb hby d7_22) κ) ?_
        show own_Go _ _ _ _ (T1.setTop (mkF m 24 #[.val (.int pc), .unset] [(.int (102 : Int32)), (.int pc)]))
        by_cases hc13 : (102 : Int32) < pc
        · refine own_step (fun _ κ => XS.icmpYes X1.here hx rfl (pc0 := 24) (pc' := 38) rfl (hb hby d7_24) rfl (tlt hc13).2.2.1 (by decide) (by decide) κ) ?_
          show own_Go _ _ _ _ (T1.setTop (mkF m 38 #[.val (.int pc), .unset] []))
          refine own_step (fun _ κ => XS.iloadN X1.here hx rfl (hb hby d7_38) rfl κ) ?_
          show own_Go _ _ _ _ (T1.setTop (mkF m 39 #[.val (.int pc), .unset] [(.int pc)]))
          refine own_step (fun _ κ => XS.bipush X1.here hx rfl (hb hby d7_39) κ) ?_
          show own_Go _ _ _ _ (T1.setTop (mkF m 41 #[.val (.int pc), .unset] [(.int (65 : Int32)), (.int pc)]))
          by_cases hc14 : pc < (65 : Int32)
          · refine own_step (fun _ κ => XS.icmpYes X1.here hx rfl (pc0 := 41) (pc' := 61) rfl (hb hby d7_41) rfl (tlt hc14).1 (by decide) (by decide) κ) ?_
            show own_Go _ _ _ _ (T1.setTop (mkF m 61 #[.val (.int pc), .unset] []))
            refine own_step (fun _ κ => XS.iconst X1.here hx rfl (hb hby d7_61) κ) ?_
            show own_Go _ _ _ _ (T1.setTop (mkF m 62 #[.val (.int pc), .unset] [(.int (-1 : Int32))]))
            refine own_step (fun _ κ => XS.istoreN X1.here hx rfl (hb hby d7_62) rfl (l' := #[.val (.int pc), .val (.int (-1 : Int32))]) rfl κ) ?_
            show own_Go _ _ _ _ (T1.setTop (mkF m 63 #[.val (.int pc), .val (.int (-1 : Int32))] []))
            refine own_step (fun _ κ => XS.iloadN X1.here hx rfl (hb hby d7_63) rfl κ) ?_
            show own_Go _ _ _ _ (T1.setTop (mkF m 64 #[.val (.int pc), .val (.int (-1 : Int32))] [(.int (-1 : Int32))]))
            obtain ⟨fs, hr, hrun, hended, hW, hsame⟩ := X1.leave (v := some (.int (-1 : Int32))) (fun h => by rw [Bd.returns] at h; cases h)
            refine ⟨_, _, own_retI X1 hx Bd.returns (hb hby d7_64) hr, hrun, hended, _, _, rfl, ?_, ⟨_, rfl⟩, hW, hsame.mono (by decide) (by decide)⟩
            show Q7 Z pc  h0 n0 _ T1.heap _
            rw [eq1]
            exact ⟨by simp [own_hex, hc2, hc9, hc10, hc13, hc14], N1, rfl⟩
          · refine own_step (fun _ κ => XS.icmpNo X1.here hx rfl (hb hby d7_41) rfl (flt hc14).1 κ) ?_
            show own_Go _ _ _ _ (T1.setTop (mkF m 44 #[.val (.int pc), .unset] []))
            refine own_step (fun _ κ => XS.iloadN X1.here hx rfl (hb hby d7_44) rfl κ) ?_
            show own_Go _ _ _ _ (T1.setTop (mkF m 45 #[.val (.int pc), .unset] [(.int pc)]))
            refine own_step (fun _ κ => XS.bipush X1.here hx rfl (hb hby d7_45) κ) ?_
            show own_Go _ _ _ _ (T1.setTop (mkF m 47 #[.val (.int pc), .unset] [(.int (70 : Int32)), (.int pc)]))
            by_cases hc15 : (70 : Int32) < pc
            · refine own_step (fun _ κ => XS.icmpYes X1.here hx rfl (pc0 := 47) (pc' := 61) rfl (hb hby d7_47) rfl (tlt hc15).2.2.1 (by decide) (by decide) κ) ?_
              show own_Go _ _ _ _ (T1.setTop (mkF m 61 #[.val (.int pc), .unset] []))
              refine own_step (fun _ κ => XS.iconst X1.here hx rfl (hb hby d7_61) κ) ?_
              show own_Go _ _ _ _ (T1.setTop (mkF m 62 #[.val (.int pc), .unset] [(.int (-1 : Int32))]))
              refine own_step (fun _ κ => XS.istoreN X1.here hx rfl (hb hby d7_62) rfl (l' := #[.val (.int pc), .val (.int (-1 : Int32))]) rfl κ) ?_
              show own_Go _ _ _ _ (T1.setTop (mkF m 63 #[.val (.int pc), .val (.int (-1 : Int32))] []))
              refine own_step (fun _ κ => XS.iloadN X1.here hx rfl (hb hby d7_63) rfl κ) ?_
              show own_Go _ _ _ _ (T1.setTop (mkF m 64 #[.val (.int pc), .val (.int (-1 : Int32))] [(.int (-1 : Int32))]))
              obtain ⟨fs, hr, hrun, hended, hW, hsame⟩ := X1.leave (v := some (.int (-1 : Int32))) (fun h => by rw [Bd.returns] at h; cases h)
              refine ⟨_, _, own_retI X1 hx Bd.returns (hb hby d7_64) hr, hrun, hended, _, _, rfl, ?_, ⟨_, rfl⟩, hW, hsame.mono (by decide) (by decide)⟩
              show Q7 Z pc  h0 n0 _ T1.heap _
              rw [eq1]
              exact ⟨by simp [own_hex, hc2, hc9, hc10, hc13, hc14, hc15], N1, rfl⟩
            · refine own_step (fun _ κ => XS.icmpNo X1.here hx rfl (hb hby d7_47) rfl (flt hc15).2.2.1 κ) ?_
              show own_Go _ _ _ _ (T1.setTop (mkF m 50 #[.val (.int pc), .unset] []))
              refine own_step (fun _ κ => XS.iloadN X1.here hx rfl (hb hby d7_50) rfl κ) ?_
              show own_Go _ _ _ _ (T1.setTop (mkF m 51 #[.val (.int pc), .unset] [(.int pc)]))
              refine own_step (fun _ κ => XS.bipush X1.here hx rfl (hb hby d7_51) κ) ?_
              show own_Go _ _ _ _ (T1.setTop (mkF m 53 #[.val (.int pc), .unset] [(.int (65 : Int32)), (.int pc)]))
              refine own_step (fun _ κ => XS.isub X1.here hx rfl (hb hby d7_53) rfl κ) ?_
              show own_Go _ _ _ _ (T1.setTop (mkF m 54 #[.val (.int pc), .unset] [(.int (pc - (65 : Int32)))]))
              refine own_step (fun _ κ => XS.bipush X1.here hx rfl (hb hby d7_54) κ) ?_
              show own_Go _ _ _ _ (T1.setTop (mkF m 56 #[.val (.int pc), .unset] [(.int (10 : Int32)), (.int (pc - (65 : Int32)))]))
              refine own_step (fun _ κ => XS.iadd X1.here hx rfl (hb hby d7_56) rfl κ) ?_
              show own_Go _ _ _ _ (T1.setTop (mkF m 57 #[.val (.int pc), .unset] [(.int ((pc - (65 : Int32)) + (10 : Int32)))]))
              refine own_step (fun _ κ => XS.istoreN X1.here hx rfl (hb hby d7_57) rfl (l' := #[.val (.int pc), .val (.int ((pc - (65 : Int32)) + (10 : Int32)))]) rfl κ) ?_
              show own_Go _ _ _ _ (T1.setTop (mkF m 58 #[.val (.int pc), .val (.int ((pc - (65 : Int32)) + (10 : Int32)))] []))
              refine own_step (fun _ κ => XS.goto X1.here hx rfl (pc0 := 58) (pc' := 63) rfl (hb hby d7_58) (by decide) (by decide) κ) ?_
              show own_Go _ _ _ _ (T1.setTop (mkF m 63 #[.val (.int pc), .val (.int ((pc - (65 : Int32)) + (10 : Int32)))] []))
              refine own_step (fun _ κ => XS.iloadN X1.here hx rfl (hb hby d7_63) rfl κ) ?_
              show own_Go _ _ _ _ (T1.setTop (mkF m 64 #[.val (.int pc), .val (.int ((pc - (65 : Int32)) + (10 : Int32)))] [(.int ((pc - (65 : Int32)) + (10 : Int32)))]))
              obtain ⟨fs, hr, hrun, hended, hW, hsame⟩ := X1.leave (v := some (.int ((pc - (65 : Int32)) + (10 : Int32)))) (fun h => by rw [Bd.returns] at h; cases h)
              refine ⟨_, _, own_retI X1 hx Bd.returns (hb hby d7_64) hr, hrun, hended, _, _, rfl, ?_, ⟨_, rfl⟩, hW, hsame.mono (by decide) (by decide)⟩
              show Q7 Z pc  h0 n0 _ T1.heap _
              rw [eq1]
              exact ⟨by simp [own_hex, hc2, hc9, hc10, hc13, hc14, hc15], N1, rfl⟩
        · refine own_step (fun _ κ => XS.icmpNo X1.here hx rfl (hb hby d7_24) rfl (flt hc13).2.2.1 κ) ?_
          show own_Go _ _ _ _ (T1.setTop (mkF m 27 #[.val (.int pc), .unset] []))
          refine own_step (fun _ κ => XS.iloadN X1.here hx rfl (hb hby d7_27) rfl κ) ?_
          show own_Go _ _ _ _ (T1.setTop (mkF m 28 #[.val (.int pc), .unset] [(.int pc)]))
          refine own_step (fun _ κ => XS.bipush X1.here hx rfl (hb hby d7_28) κ) ?_
          show own_Go _ _ _ _ (T1.setTop (mkF m 30 #[.val (.int pc), .unset] [(.int (97 : Int32)), (.int pc)]))
          refine own_step (fun _ κ => XS.isub X1.here hx rfl (hb hby d7_30) rfl κ) ?_
          show own_Go _ _ _ _ (T1.setTop (mkF m 31 #[.val (.int pc), .unset] [(.int (pc - (97 : Int32)))]))
          refine own_step (fun _ κ => XS.bipush X1.here hx rfl (hb hby d7_31) κ) ?_
          show own_Go _ _ _ _ (T1.setTop (mkF m 33 #[.val (.int pc), .unset] [(.int (10 : Int32)), (.int (pc - (97 : Int32)))]))
          refine own_step (fun _ κ => XS.iadd X1.here hx rfl (hb hby d7_33) rfl κ) ?_
          show own_Go _ _ _ _ (T1.setTop (mkF m 34 #[.val (.int pc), .unset] [(.int ((pc - (97 : Int32)) + (10 : Int32)))]))
          refine own_step (fun _ κ => XS.istoreN X1.here hx rfl (hb hby d7_34) rfl (l' := #[.val (.int pc), .val (.int ((pc - (97 : Int32)) + (10 : Int32)))]) rfl κ) ?_
          show own_Go _ _ _ _ (T1.setTop (mkF m 35 #[.val (.int pc), .val (.int ((pc - (97 : Int32)) + (10 : Int32)))] []))
          refine own_step (fun _ κ => XS.goto X1.here hx rfl (pc0 := 35) (pc' := 63) rfl (hb hby d7_35) (by decide) (by decide) κ) ?_
          show own_Go _ _ _ _ (T1.setTop (mkF m 63 #[.val (.int pc), .val (.int ((pc - (97 : Int32)) + (10 : Int32)))] []))
          refine own_step (fun _ κ => XS.iloadN X1.here hx rfl (hb hby d7_63) rfl κ) ?_
          show own_Go _ _ _ _ (T1.setTop (mkF m 64 #[.val (.int pc), .val (.int ((pc - (97 : Int32)) + (10 : Int32)))] [(.int ((pc - (97 : Int32)) + (10 : Int32)))]))
          obtain ⟨fs, hr, hrun, hended, hW, hsame⟩ := X1.leave (v := some (.int ((pc - (97 : Int32)) + (10 : Int32)))) (fun h => by rw [Bd.returns] at h; cases h)
          refine ⟨_, _, own_retI X1 hx Bd.returns (hb hby d7_64) hr, hrun, hended, _, _, rfl, ?_, ⟨_, rfl⟩, hW, hsame.mono (by decide) (by decide)⟩
          show Q7 Z pc  h0 n0 _ T1.heap _
          rw [eq1]
          exact ⟨by simp [own_hex, hc2, hc9, hc10, hc13], N1, rfl⟩
    · rw [if_neg hc9] at hv1
      subst hv1
      refine own_step st1 ?_
      show own_Go _ _ _ _ (T1.setTop (mkF m 4 #[.val (.int pc), .unset] [(.int (1 : Int32))]))
      refine own_step (fun _ κ => XS.ifNo X1.here hx rfl (hb hby d7_4) rfl ((if0 _ _).trans (feq (by decide)).1) κ) ?_
      show own_Go _ _ _ _ (T1.setTop (mkF m 7 #[.val (.int pc), .unset] []))
      refine own_step (fun _ κ => XS.iloadN X1.here hx rfl (hb hby d7_7) rfl κ) ?_
      show own_Go _ _ _ _ (T1.setTop (mkF m 8 #[.val (.int pc), .unset] [(.int pc)]))
      refine own_step (fun _ κ => XS.bipush X1.here hx rfl (hb hby d7_8) κ) ?_
      show own_Go _ _ _ _ (T1.setTop (mkF m 10 #[.val (.int pc), .unset] [(.int (48 : Int32)), (.int pc)]))
      refine own_step (fun _ κ => XS.isub X1.here hx rfl (hb hby d7_10) rfl κ) ?_
      show own_Go _ _ _ _ (T1.setTop (mkF m 11 #[.val (.int pc), .unset] [(.int (pc - (48 : Int32)))]))
      refine own_step (fun _ κ => XS.istoreN X1.here hx rfl (hb hby d7_11) rfl (l' := #[.val (.int pc), .val (.int (pc - (48 : Int32)))]) rfl κ) ?_
      show own_Go _ _ _ _ (T1.setTop (mkF m 12 #[.val (.int pc), .val (.int (pc - (48 : Int32)))] []))
      refine own_step (fun _ κ => XS.goto X1.here hx rfl (pc0 := 12) (pc' := 63) rfl (hb hby d7_12) (by decide) (by decide) κ) ?_
      show own_Go _ _ _ _ (T1.setTop (mkF m 63 #[.val (.int pc), .val (.int (pc - (48 : Int32)))] []))
      refine own_step (fun _ κ => XS.iloadN X1.here hx rfl (hb hby d7_63) rfl κ) ?_
      show own_Go _ _ _ _ (T1.setTop (mkF m 64 #[.val (.int pc), .val (.int (pc - (48 : Int32)))] [(.int (pc - (48 : Int32)))]))
      obtain ⟨fs, hr, hrun, hended, hW, hsame⟩ := X1.leave (v := some (.int (pc - (48 : Int32)))) (fun h => by rw [Bd.returns] at h; cases h)
      refine ⟨_, _, own_retI X1 hx Bd.returns (hb hby d7_64) hr, hrun, hended, _, _, rfl, ?_, ⟨_, rfl⟩, hW, hsame.mono (by decide) (by decide)⟩
      show Q7 Z pc  h0 n0 _ T1.heap _
      rw [eq1]
      exact ⟨by simp [own_hex, hc2, hc9], N1, rfl⟩
theorem ef_0 (m : MethodId) (p0 : Int32) (p1 : Int32) : entryFrame m #[(.int p0), (.int p1)] maxLocals = mkF m 0 #[.val (.int p0), .val (.int p1), .unset, .unset, .unset, .unset, .unset] [] := by first | (simp [entryFrame, mkF, argsToLocals, Value.category, maxLocals]; done) | rfl
def Q0 (Z : State) (p0 : Int32) (p1 : Int32) (fv : Value) (cs : Int32) (h0 : Heap) (n0 : Nat) (v : Option Value) (h : Heap) (L : List Loc) : Prop := v = some (.int (1 : Int32)) ∧ Fr n0 L
set_option maxRecDepth 65536 in
set_option maxHeartbeats 40000000 in
theorem rm0 (l : Launch) (Z : State) (a0 : Array Value) (hw : ∀ d ∈ tables_1, d.before a0 Z = true) (ws : List Jvm.Cond) (p0 : Int32) (p1 : Int32) (fv : Value) (cs : Int32) (h0 : Heap) (n0 : Nat) (Z0 : n0 ≤ h0.size) (P0 : Old Z n0 h0) (P1 : Sta Z Z.heap "jdk/internal/util/Preconditions" "SIOOBE_FORMATTER" "Ljava/util/function/BiFunction;" fv) (P2 : fv.isRef = true) (P3 : Sta Z Z.heap "java/lang/String" "COMPACT_STRINGS" "Z" (.int cs)) (P4 : ¬ cs = (0 : Int32)) :
    MetFree l x (head1 (Jvm.Cond.code x code maxLocals ret :: ws) room_1) (fun ar_ U => ar_ = #[(.int p0), (.int p1)] ∧ Z.Warmed39 U.vm ∧ U.heap = h0 ∧ CHv Z consts_1 U.vm h0) (fun _ _ _ _ _ => True) (fun _ U oo_ U' => ∃ v L, oo_ = .returned v ∧ Q0 Z p0 p1 fv cs h0 n0 v U'.heap L ∧ ReturnedEndW U oo_ U' L room_1.cells room_1.slots) := by
  refine MetFree.of_bodySF (plainFor_of_name pn_4) hisR ?_
  intro p e s m args below meth c s₁ Bd hml0 hP hK
  obtain ⟨rfl, hZ, hh, hCH⟩ := hP
  have hx := Bd.exec
  have hby := Bd.bytes
  have hml : c.maxLocals = 7 := hml0
  have hown : s.vm.findClass "com/example/fouille/fouille/rdf/NTriplesParserHexValuePinLaw" = some m.cls := findClass_of_methodNamed Bd.named
  have hnm := (name_of_methodNamed Bd.named Bd.method).1
  have X0 : Stand p l e room_1 s m #[(.int p0), (.int p1)] below meth c s₁ [] 0 0 := Stand.of_body Bd
  have e0 : s₁.heap = h0 := by rw [← hh, Bd.state]; rfl
  have N0 := Fr.nil n0
  refine own_in (castTop (ef_0 m p0 p1)) ?_
  show own_Go _ _ _ _ (s₁.setTop (mkF m 0 #[.val (.int p0), .val (.int p1), .unset, .unset, .unset, .unset, .unset] []))
  refine own_step (fun _ κ => XS.iloadN X0.here hx rfl (hb hby at_0) rfl κ) ?_
  show own_Go _ _ _ _ (s₁.setTop (mkF m 1 #[.val (.int p0), .val (.int p1), .unset, .unset, .unset, .unset, .unset] [(.int p0)]))
  refine own_step (fun _ κ => X0.ldcInt hx hown (mvT hZ (hw _ (List.mem_of_getElem? (i := 0) rfl))) (g := (mkF m 1 #[.val (.int p0), .val (.int p1), .unset, .unset, .unset, .unset, .unset] [(.int p0)])) rfl (hb hby at_1) _ κ) ?_
  show own_Go _ _ _ _ (s₁.setTop (mkF m 3 #[.val (.int p0), .val (.int p1), .unset, .unset, .unset, .unset, .unset] [(.int (65535 : Int32)), (.int p0)]))
  refine own_step (fun _ κ => XS.iand X0.here hx rfl (hb hby at_3) rfl κ) ?_
  show own_Go _ _ _ _ (s₁.setTop (mkF m 4 #[.val (.int p0), .val (.int p1), .unset, .unset, .unset, .unset, .unset] [(.int (p0 &&& (65535 : Int32)))]))
  refine own_step (fun _ κ => XS.i2c X0.here hx rfl (hb hby at_4) rfl κ) ?_
  show own_Go _ _ _ _ (s₁.setTop (mkF m 5 #[.val (.int p0), .val (.int p1), .unset, .unset, .unset, .unset, .unset] [(.int ((p0 &&& (65535 : Int32)).toUInt32.toUInt16.toUInt32.toInt32))]))
  refine own_step (fun _ κ => XS.istoreN X0.here hx rfl (hb hby at_5) rfl (l' := #[.val (.int p0), .val (.int p1), .val (.int ((p0 &&& (65535 : Int32)).toUInt32.toUInt16.toUInt32.toInt32)), .unset, .unset, .unset, .unset]) rfl κ) ?_
  show own_Go _ _ _ _ (s₁.setTop (mkF m 6 #[.val (.int p0), .val (.int p1), .val (.int ((p0 &&& (65535 : Int32)).toUInt32.toUInt16.toUInt32.toInt32)), .unset, .unset, .unset, .unset] []))
  generalize ((p0 &&& (65535 : Int32)).toUInt32.toUInt16.toUInt32.toInt32) = cc
  show own_Go _ _ _ _ (s₁.setTop (mkF m 6 #[.val (.int p0), .val (.int p1), .val (.int cc), .unset, .unset, .unset, .unset] []))
  refine own_step (fun _ κ => XS.iloadN X0.here hx rfl (hb hby at_6) rfl κ) ?_
  show own_Go _ _ _ _ (s₁.setTop (mkF m 7 #[.val (.int p0), .val (.int p1), .val (.int cc), .unset, .unset, .unset, .unset] [(.int p1)]))
  refine own_step (fun _ κ => XS.bipush X0.here hx rfl (hb hby at_7) κ) ?_
  show own_Go _ _ _ _ (s₁.setTop (mkF m 9 #[.val (.int p0), .val (.int p1), .val (.int cc), .unset, .unset, .unset, .unset] [(.int (15 : Int32)), (.int p1)]))
  refine own_step (fun _ κ => XS.iand X0.here hx rfl (hb hby at_9) rfl κ) ?_
  show own_Go _ _ _ _ (s₁.setTop (mkF m 10 #[.val (.int p0), .val (.int p1), .val (.int cc), .unset, .unset, .unset, .unset] [(.int (p1 &&& (15 : Int32)))]))
  refine own_step (fun _ κ => XS.istoreN X0.here hx rfl (hb hby at_10) rfl (l' := #[.val (.int p0), .val (.int p1), .val (.int cc), .val (.int (p1 &&& (15 : Int32))), .unset, .unset, .unset]) rfl κ) ?_
  show own_Go _ _ _ _ (s₁.setTop (mkF m 11 #[.val (.int p0), .val (.int p1), .val (.int cc), .val (.int (p1 &&& (15 : Int32))), .unset, .unset, .unset] []))
  obtain ⟨hkA, hkB⟩ := own_k15 p1
  generalize (p1 &&& (15 : Int32)) = kk at *
  show own_Go _ _ _ _ (s₁.setTop (mkF m 11 #[.val (.int p0), .val (.int p1), .val (.int cc), .val (.int kk), .unset, .unset, .unset] []))
  have X0 : Stand p l e room_1 (s.setVm s.vm) m #[(.int p0), (.int p1)] below meth c s₁ [] 0 0 := X0
  have hS0 : s.Since s.vm h0.size := (State.WarmedH.refl s).since _
  have hk0 : h0.size ≤ h0.size := Nat.le_refl _
  obtain ⟨a1, T1, h1, k1, d1, kb1, X1, e1, E1, hS1, hk1, hZ, hown, Ex1, Fc1, Fv1, Av1, -, -, CH1, -, -, st1⟩ := ldcCH X0 hx hZ hown (hw _ (List.mem_of_getElem? (i := 1) rfl)) (own_sA hw) e0 hS0 hk0 (own_EW hw) (List.mem_of_getElem? (i := 0) rfl) hCH (vs := [(.int (48 : Int32)), (.int (49 : Int32)), (.int (50 : Int32)), (.int (51 : Int32)), (.int (52 : Int32)), (.int (53 : Int32)), (.int (54 : Int32)), (.int (55 : Int32)), (.int (56 : Int32)), (.int (57 : Int32)), (.int (97 : Int32)), (.int (98 : Int32)), (.int (99 : Int32)), (.int (100 : Int32)), (.int (101 : Int32)), (.int (102 : Int32))]) (z := (16 : Int32)) ⟨by decide, by decide⟩ (by decide) (by decide) (g := (mkF m 11 #[.val (.int p0), .val (.int p1), .val (.int cc), .val (.int kk), .unset, .unset, .unset] [])) rfl (hb hby at_11) (n := 64) (by decide) (by decide) (by decide) (by decide)
  refine own_step st1 ?_
  have f2 := P0.ext E1
  have z3 : n0 ≤ h1.size := Nat.le_trans Z0 E1.1
  show own_Go _ _ _ _ (T1.setTop (mkF m 13 #[.val (.int p0), .val (.int p1), .val (.int cc), .val (.int kk), .unset, .unset, .unset] [(.ref a1)]))
  refine own_step (fun _ κ => XS.astore X1.here hx rfl (hb hby at_13) rfl rfl (l' := #[.val (.int p0), .val (.int p1), .val (.int cc), .val (.int kk), .val (.ref a1), .unset, .unset]) rfl κ) ?_
  show own_Go _ _ _ _ (T1.setTop (mkF m 15 #[.val (.int p0), .val (.int p1), .val (.int cc), .val (.int kk), .val (.ref a1), .unset, .unset] []))
  obtain ⟨a4, T4, h4, k4, d4, kb4, X4, e4, E4, hS4, hk4, hZ, hown, Ex4, Fc4, Fv4, Av4, -, -, CH4, -, -, st4⟩ := ldcCH X1 hx hZ hown (hw _ (List.mem_of_getElem? (i := 9) rfl)) (own_sA hw) e1 hS1 hk1 (own_EW hw) (List.mem_of_getElem? (i := 1) rfl) CH1.1 (vs := [(.int (48 : Int32)), (.int (49 : Int32)), (.int (50 : Int32)), (.int (51 : Int32)), (.int (52 : Int32)), (.int (53 : Int32)), (.int (54 : Int32)), (.int (55 : Int32)), (.int (56 : Int32)), (.int (57 : Int32)), (.int (65 : Int32)), (.int (66 : Int32)), (.int (67 : Int32)), (.int (68 : Int32)), (.int (69 : Int32)), (.int (70 : Int32))]) (z := (16 : Int32)) ⟨by decide, by decide⟩ (by decide) (by decide) (g := (mkF m 15 #[.val (.int p0), .val (.int p1), .val (.int cc), .val (.int kk), .val (.ref a1), .unset, .unset] [])) rfl (hb hby at_15) (n := 64) (by decide) (by decide) (by decide) (by decide)
  refine own_step st4 ?_
  have f5 := f2.ext E4
  have f6 := Ex1.ext E4
  have f7 := Fc1.ext E4
  have f8 := Fv1.ext E4
  have f9 := Av1.ext E4
  have z10 : n0 ≤ h4.size := Nat.le_trans z3 E4.1
  show own_Go _ _ _ _ (T4.setTop (mkF m 17 #[.val (.int p0), .val (.int p1), .val (.int cc), .val (.int kk), .val (.ref a1), .unset, .unset] [(.ref a4)]))
  refine own_step (fun _ κ => XS.astore X4.here hx rfl (hb hby at_17) rfl rfl (l' := #[.val (.int p0), .val (.int p1), .val (.int cc), .val (.int kk), .val (.ref a1), .val (.ref a4), .unset]) rfl κ) ?_
  show own_Go _ _ _ _ (T4.setTop (mkF m 19 #[.val (.int p0), .val (.int p1), .val (.int cc), .val (.int kk), .val (.ref a1), .val (.ref a4), .unset] []))
  refine own_step (fun _ κ => XS.aload X4.here hx rfl (hb hby at_19) rfl rfl κ) ?_
  show own_Go _ _ _ _ (T4.setTop (mkF m 21 #[.val (.int p0), .val (.int p1), .val (.int cc), .val (.int kk), .val (.ref a1), .val (.ref a4), .unset] [(.ref a1)]))
  refine own_step (fun _ κ => XS.iloadN X4.here hx rfl (hb hby at_21) rfl κ) ?_
  show own_Go _ _ _ _ (T4.setTop (mkF m 22 #[.val (.int p0), .val (.int p1), .val (.int cc), .val (.int kk), .val (.ref a1), .val (.ref a4), .unset] [(.int kk), (.ref a1)]))
  obtain ⟨cq11, kq11, q11a, q11b, q11c⟩ := isOf hZ e4 f6
  obtain ⟨vr11, _, ⟨T11, L11, k11, n11⟩, -, X11, ⟨Lc11, hQ11, l11, y11, z11⟩, st11⟩ := X4.virtualBack hx (y := (⟨"java/lang/String", "charAt", "(I)C"⟩ : MethodName)) (z := (⟨"java/lang/String", "charAt", "(I)C"⟩ : MethodName)) hown (mvT hZ (hw _ (List.mem_of_getElem? (i := 10) rfl))) (mvT hZ (hw _ (List.mem_of_getElem? (i := 11) rfl))) (notFace_of_selects (args := #[]) (mvT hZ (hw _ (List.mem_of_getElem? (i := 13) rfl)))) (mvT hZ (hw _ (List.mem_of_getElem? (i := 13) rfl))) (mvT hZ (hw _ (List.mem_of_getElem? (i := 12) rfl))) (by decide) (backOf (W := 0) (rm5 l Z a0 hw [] a1 kk d1 kb1 [(.int (48 : Int32)), (.int (49 : Int32)), (.int (50 : Int32)), (.int (51 : Int32)), (.int (52 : Int32)), (.int (53 : Int32)), (.int (54 : Int32)), (.int (55 : Int32)), (.int (56 : Int32)), (.int (57 : Int32)), (.int (97 : Int32)), (.int (98 : Int32)), (.int (99 : Int32)), (.int (100 : Int32)), (.int (101 : Int32)), (.int (102 : Int32))] (own_lo kk) fv cs h4 n0 z10 f6 f7 f8 f9 f5 P1 P2 P3 P4 hkA hkB (own_lo_at hkA hkB)) hZ (hw _ (List.mem_of_getElem? (i := 14) rfl)) (hw _ (List.mem_of_getElem? (i := 2) rfl)) (by decide) (by decide)) q11a q11c (g := (mkF m 22 #[.val (.int p0), .val (.int p1), .val (.int cc), .val (.int kk), .val (.ref a1), .val (.ref a4), .unset] [(.int kk), (.ref a1)])) rfl (by rw [hml]; rfl) (Steps.refl _) (argsL := [(.int kk)]) (rest := []) (lenOf pd_5 rfl) rfl (by show 2 * 0 + _ ≤ _; exact Nat.le_of_eq rfl) (hb hby at_22) (fun _ _ => ⟨rfl, e4, (by decide : 4 + 0 ≤ _), (by decide : 136 + 0 ≤ _)⟩)
  dsimp only [Pt.U, Pt.locs, Pt.cells, Pt.slots] at X11 l11 y11 z11 st11 hQ11
  subst l11 y11 z11
  obtain ⟨rfl, Nq11, eq11⟩ := hQ11
  have N11 := Fr.app N0 Nq11
  refine own_step (fun _ κ => st11.trans κ) ?_
  show own_Go _ _ _ _ (T11.setTop (mkF m 25 #[.val (.int p0), .val (.int p1), .val (.int cc), .val (.int kk), .val (.ref a1), .val (.ref a4), .unset] [(.int (own_cc (own_lo kk)))]))
  obtain ⟨vr12, _, ⟨T12, L12, k12, n12⟩, -, X12, ⟨Lc12, hQ12, l12, y12, z12⟩, st12⟩ := Jvm.LawKit.callS X11 hx (y := (⟨"com/example/fouille/fouille/rdf/NTriplesParser", "hexValue", "(C)I"⟩ : MethodName)) hown (mvT hZ (hw _ (List.mem_of_getElem? (i := 35) rfl))) (mvT hZ (hw _ (List.mem_of_getElem? (i := 36) rfl))) (mvT hZ (hw _ (List.mem_of_getElem? (i := 37) rfl))) (mvT hZ (hw _ (List.mem_of_getElem? (i := 38) rfl))) (by decide) (backOf (W := 0) (rm7 l Z a0 hw [] (own_cc (own_lo kk))  h4 n0 z10 ) hZ (hw _ (List.mem_of_getElem? (i := 38) rfl)) (hw _ (List.mem_of_getElem? (i := 37) rfl)) (by decide) (by decide)) (g := (mkF m 25 #[.val (.int p0), .val (.int p1), .val (.int cc), .val (.int kk), .val (.ref a1), .val (.ref a4), .unset] [(.int (own_cc (own_lo kk)))])) rfl (by rw [hml]; rfl) (argsL := [(.int (own_cc (own_lo kk)))]) (rest := []) (lenOf pd_6 rfl) rfl (by show 2 * 0 + _ ≤ _; exact Nat.le_of_eq rfl) (hb hby at_25) (fun _ _ => ⟨rfl, eq11, (by decide : 4 + 0 ≤ _), (by decide : 136 + 0 ≤ _)⟩)
  dsimp only [Pt.U, Pt.locs, Pt.cells, Pt.slots] at X12 l12 y12 z12 st12 hQ12
  subst l12 y12 z12
  obtain ⟨rfl, Nq12, eq12⟩ := hQ12
  have N12 := Fr.app N11 Nq12
  refine own_step st12 ?_
  show own_Go _ _ _ _ (T12.setTop (mkF m 28 #[.val (.int p0), .val (.int p1), .val (.int cc), .val (.int kk), .val (.ref a1), .val (.ref a4), .unset] [(.int (own_hex (own_cc (own_lo kk))))]))
  refine own_step (fun _ κ => XS.iloadN X12.here hx rfl (hb hby at_28) rfl κ) ?_
  show own_Go _ _ _ _ (T12.setTop (mkF m 29 #[.val (.int p0), .val (.int p1), .val (.int cc), .val (.int kk), .val (.ref a1), .val (.ref a4), .unset] [(.int kk), (.int (own_hex (own_cc (own_lo kk))))]))
  refine own_step (fun _ κ => XS.icmpYes X12.here hx rfl (pc0 := 29) (pc' := 34) rfl (hb hby at_29) rfl (teq (own_hexlo hkA hkB)).1 (by decide) (by decide) κ) ?_
  show own_Go _ _ _ _ (T12.setTop (mkF m 34 #[.val (.int p0), .val (.int p1), .val (.int cc), .val (.int kk), .val (.ref a1), .val (.ref a4), .unset] []))
  refine own_step (fun _ κ => XS.aload X12.here hx rfl (hb hby at_34) rfl rfl κ) ?_
  show own_Go _ _ _ _ (T12.setTop (mkF m 36 #[.val (.int p0), .val (.int p1), .val (.int cc), .val (.int kk), .val (.ref a1), .val (.ref a4), .unset] [(.ref a4)]))
  refine own_step (fun _ κ => XS.iloadN X12.here hx rfl (hb hby at_36) rfl κ) ?_
  show own_Go _ _ _ _ (T12.setTop (mkF m 37 #[.val (.int p0), .val (.int p1), .val (.int cc), .val (.int kk), .val (.ref a1), .val (.ref a4), .unset] [(.int kk), (.ref a4)]))
  obtain ⟨cq13, kq13, q13a, q13b, q13c⟩ := isOf hZ eq12 Ex4
  obtain ⟨vr13, _, ⟨T13, L13, k13, n13⟩, -, X13, ⟨Lc13, hQ13, l13, y13, z13⟩, st13⟩ := X12.virtualBack hx (y := (⟨"java/lang/String", "charAt", "(I)C"⟩ : MethodName)) (z := (⟨"java/lang/String", "charAt", "(I)C"⟩ : MethodName)) hown (mvT hZ (hw _ (List.mem_of_getElem? (i := 10) rfl))) (mvT hZ (hw _ (List.mem_of_getElem? (i := 11) rfl))) (notFace_of_selects (args := #[]) (mvT hZ (hw _ (List.mem_of_getElem? (i := 13) rfl)))) (mvT hZ (hw _ (List.mem_of_getElem? (i := 13) rfl))) (mvT hZ (hw _ (List.mem_of_getElem? (i := 12) rfl))) (by decide) (backOf (W := 0) (rm5 l Z a0 hw [] a4 kk d4 kb4 [(.int (48 : Int32)), (.int (49 : Int32)), (.int (50 : Int32)), (.int (51 : Int32)), (.int (52 : Int32)), (.int (53 : Int32)), (.int (54 : Int32)), (.int (55 : Int32)), (.int (56 : Int32)), (.int (57 : Int32)), (.int (65 : Int32)), (.int (66 : Int32)), (.int (67 : Int32)), (.int (68 : Int32)), (.int (69 : Int32)), (.int (70 : Int32))] (own_up kk) fv cs h4 n0 z10 Ex4 Fc4 Fv4 Av4 f5 P1 P2 P3 P4 hkA hkB (own_up_at hkA hkB)) hZ (hw _ (List.mem_of_getElem? (i := 14) rfl)) (hw _ (List.mem_of_getElem? (i := 2) rfl)) (by decide) (by decide)) q13a q13c (g := (mkF m 37 #[.val (.int p0), .val (.int p1), .val (.int cc), .val (.int kk), .val (.ref a1), .val (.ref a4), .unset] [(.int kk), (.ref a4)])) rfl (by rw [hml]; rfl) (Steps.refl _) (argsL := [(.int kk)]) (rest := []) (lenOf pd_5 rfl) rfl (by show 2 * 0 + _ ≤ _; exact Nat.le_of_eq rfl) (hb hby at_37) (fun _ _ => ⟨rfl, eq12, (by decide : 4 + 0 ≤ _), (by decide : 136 + 0 ≤ _)⟩)
  dsimp only [Pt.U, Pt.locs, Pt.cells, Pt.slots] at X13 l13 y13 z13 st13 hQ13
  subst l13 y13 z13
  obtain ⟨rfl, Nq13, eq13⟩ := hQ13
  have N13 := Fr.app N12 Nq13
  refine own_step (fun _ κ => st13.trans κ) ?_
  show own_Go _ _ _ _ (T13.setTop (mkF m 40 #[.val (.int p0), .val (.int p1), .val (.int cc), .val (.int kk), .val (.ref a1), .val (.ref a4), .unset] [(.int (own_cc (own_up kk)))]))
  obtain ⟨vr14, _, ⟨T14, L14, k14, n14⟩, -, X14, ⟨Lc14, hQ14, l14, y14, z14⟩, st14⟩ := Jvm.LawKit.callS X13 hx (y := (⟨"com/example/fouille/fouille/rdf/NTriplesParser", "hexValue", "(C)I"⟩ : MethodName)) hown (mvT hZ (hw _ (List.mem_of_getElem? (i := 35) rfl))) (mvT hZ (hw _ (List.mem_of_getElem? (i := 36) rfl))) (mvT hZ (hw _ (List.mem_of_getElem? (i := 37) rfl))) (mvT hZ (hw _ (List.mem_of_getElem? (i := 38) rfl))) (by decide) (backOf (W := 0) (rm7 l Z a0 hw [] (own_cc (own_up kk))  h4 n0 z10 ) hZ (hw _ (List.mem_of_getElem? (i := 38) rfl)) (hw _ (List.mem_of_getElem? (i := 37) rfl)) (by decide) (by decide)) (g := (mkF m 40 #[.val (.int p0), .val (.int p1), .val (.int cc), .val (.int kk), .val (.ref a1), .val (.ref a4), .unset] [(.int (own_cc (own_up kk)))])) rfl (by rw [hml]; rfl) (argsL := [(.int (own_cc (own_up kk)))]) (rest := []) (lenOf pd_6 rfl) rfl (by show 2 * 0 + _ ≤ _; exact Nat.le_of_eq rfl) (hb hby at_40) (fun _ _ => ⟨rfl, eq13, (by decide : 4 + 0 ≤ _), (by decide : 136 + 0 ≤ _)⟩)
  dsimp only [Pt.U, Pt.locs, Pt.cells, Pt.slots] at X14 l14 y14 z14 st14 hQ14
  subst l14 y14 z14
  obtain ⟨rfl, Nq14, eq14⟩ := hQ14
  have N14 := Fr.app N13 Nq14
  refine own_step st14 ?_
  show own_Go _ _ _ _ (T14.setTop (mkF m 43 #[.val (.int p0), .val (.int p1), .val (.int cc), .val (.int kk), .val (.ref a1), .val (.ref a4), .unset] [(.int (own_hex (own_cc (own_up kk))))]))
  refine own_step (fun _ κ => XS.iloadN X14.here hx rfl (hb hby at_43) rfl κ) ?_
  show own_Go _ _ _ _ (T14.setTop (mkF m 44 #[.val (.int p0), .val (.int p1), .val (.int cc), .val (.int kk), .val (.ref a1), .val (.ref a4), .unset] [(.int kk), (.int (own_hex (own_cc (own_up kk))))]))
  refine own_step (fun _ κ => XS.icmpYes X14.here hx rfl (pc0 := 44) (pc' := 49) rfl (hb hby at_44) rfl (teq (own_hexup hkA hkB)).1 (by decide) (by decide) κ) ?_
  show own_Go _ _ _ _ (T14.setTop (mkF m 49 #[.val (.int p0), .val (.int p1), .val (.int cc), .val (.int kk), .val (.ref a1), .val (.ref a4), .unset] []))
  refine own_step (fun _ κ => XS.iloadN X14.here hx rfl (hb hby at_49) rfl κ) ?_
  show own_Go _ _ _ _ (T14.setTop (mkF m 50 #[.val (.int p0), .val (.int p1), .val (.int cc), .val (.int kk), .val (.ref a1), .val (.ref a4), .unset] [(.int cc)]))
  obtain ⟨vr15, _, ⟨T15, L15, k15, n15⟩, -, X15, ⟨Lc15, hQ15, l15, y15, z15⟩, st15⟩ := Jvm.LawKit.callS X14 hx (y := (⟨"com/example/fouille/fouille/rdf/NTriplesParser", "hexValue", "(C)I"⟩ : MethodName)) hown (mvT hZ (hw _ (List.mem_of_getElem? (i := 35) rfl))) (mvT hZ (hw _ (List.mem_of_getElem? (i := 36) rfl))) (mvT hZ (hw _ (List.mem_of_getElem? (i := 37) rfl))) (mvT hZ (hw _ (List.mem_of_getElem? (i := 38) rfl))) (by decide) (backOf (W := 0) (rm7 l Z a0 hw [] cc  h4 n0 z10 ) hZ (hw _ (List.mem_of_getElem? (i := 38) rfl)) (hw _ (List.mem_of_getElem? (i := 37) rfl)) (by decide) (by decide)) (g := (mkF m 50 #[.val (.int p0), .val (.int p1), .val (.int cc), .val (.int kk), .val (.ref a1), .val (.ref a4), .unset] [(.int cc)])) rfl (by rw [hml]; rfl) (argsL := [(.int cc)]) (rest := []) (lenOf pd_6 rfl) rfl (by show 2 * 0 + _ ≤ _; exact Nat.le_of_eq rfl) (hb hby at_50) (fun _ _ => ⟨rfl, eq14, (by decide : 4 + 0 ≤ _), (by decide : 136 + 0 ≤ _)⟩)
  dsimp only [Pt.U, Pt.locs, Pt.cells, Pt.slots] at X15 l15 y15 z15 st15 hQ15
  subst l15 y15 z15
  obtain ⟨rfl, Nq15, eq15⟩ := hQ15
  have N15 := Fr.app N14 Nq15
  refine own_step st15 ?_
  show own_Go _ _ _ _ (T15.setTop (mkF m 53 #[.val (.int p0), .val (.int p1), .val (.int cc), .val (.int kk), .val (.ref a1), .val (.ref a4), .unset] [(.int (own_hex cc))]))
  refine own_step (fun _ κ => XS.istore X15.here hx rfl (hb hby at_53) rfl (l' := #[.val (.int p0), .val (.int p1), .val (.int cc), .val (.int kk), .val (.ref a1), .val (.ref a4), .val (.int (own_hex cc))]) rfl κ) ?_
  show own_Go _ _ _ _ (T15.setTop (mkF m 55 #[.val (.int p0), .val (.int p1), .val (.int cc), .val (.int kk), .val (.ref a1), .val (.ref a4), .val (.int (own_hex cc))] []))
  refine own_step (fun _ κ => XS.iload X15.here hx rfl (hb hby at_55) rfl κ) ?_
  show own_Go _ _ _ _ (T15.setTop (mkF m 57 #[.val (.int p0), .val (.int p1), .val (.int cc), .val (.int kk), .val (.ref a1), .val (.ref a4), .val (.int (own_hex cc))] [(.int (own_hex cc))]))
  refine own_step (fun _ κ => XS.iconst X15.here hx rfl (hb hby at_57) κ) ?_
  show own_Go _ _ _ _ (T15.setTop (mkF m 58 #[.val (.int p0), .val (.int p1), .val (.int cc), .val (.int kk), .val (.ref a1), .val (.ref a4), .val (.int (own_hex cc))] [(.int (-1 : Int32)), (.int (own_hex cc))]))
  refine own_step (fun _ κ => XS.icmpNo X15.here hx rfl (hb hby at_58) rfl (flt (own_x1 _)).1 κ) ?_
  show own_Go _ _ _ _ (T15.setTop (mkF m 61 #[.val (.int p0), .val (.int p1), .val (.int cc), .val (.int kk), .val (.ref a1), .val (.ref a4), .val (.int (own_hex cc))] []))
  refine own_step (fun _ κ => XS.iload X15.here hx rfl (hb hby at_61) rfl κ) ?_
  show own_Go _ _ _ _ (T15.setTop (mkF m 63 #[.val (.int p0), .val (.int p1), .val (.int cc), .val (.int kk), .val (.ref a1), .val (.ref a4), .val (.int (own_hex cc))] [(.int (own_hex cc))]))
  refine own_step (fun _ κ => XS.bipush X15.here hx rfl (hb hby at_63) κ) ?_
  show own_Go _ _ _ _ (T15.setTop (mkF m 65 #[.val (.int p0), .val (.int p1), .val (.int cc), .val (.int kk), .val (.ref a1), .val (.ref a4), .val (.int (own_hex cc))] [(.int (15 : Int32)), (.int (own_hex cc))]))
  refine own_step (fun _ κ => XS.icmpYes X15.here hx rfl (pc0 := 65) (pc' := 70) rfl (hb hby at_65) rfl (flt (own_x2 _)).2.2.2 (by decide) (by decide) κ) ?_
  show own_Go _ _ _ _ (T15.setTop (mkF m 70 #[.val (.int p0), .val (.int p1), .val (.int cc), .val (.int kk), .val (.ref a1), .val (.ref a4), .val (.int (own_hex cc))] []))
  refine own_step (fun _ κ => XS.iload X15.here hx rfl (hb hby at_70) rfl κ) ?_
  show own_Go _ _ _ _ (T15.setTop (mkF m 72 #[.val (.int p0), .val (.int p1), .val (.int cc), .val (.int kk), .val (.ref a1), .val (.ref a4), .val (.int (own_hex cc))] [(.int (own_hex cc))]))
  by_cases hc16 : (own_hex cc) < (0 : Int32)
  · refine own_step (fun _ κ => XS.ifYes X15.here hx rfl (pc0 := 72) (pc' := 103) rfl (hb hby at_72) rfl ((if0 _ _).trans (tlt hc16).1) (by decide) (by decide) κ) ?_
    show own_Go _ _ _ _ (T15.setTop (mkF m 103 #[.val (.int p0), .val (.int p1), .val (.int cc), .val (.int kk), .val (.ref a1), .val (.ref a4), .val (.int (own_hex cc))] []))
    refine own_step (fun _ κ => XS.iconst X15.here hx rfl (hb hby at_103) κ) ?_
    show own_Go _ _ _ _ (T15.setTop (mkF m 104 #[.val (.int p0), .val (.int p1), .val (.int cc), .val (.int kk), .val (.ref a1), .val (.ref a4), .val (.int (own_hex cc))] [(.int (1 : Int32))]))
    obtain ⟨fs, hr, hrun, hended, hEW⟩ := X15.leaveW hS4 (by rw [eq15]; exact hk4) (v := some (.int (1 : Int32))) (fun h => by rw [Bd.returns] at h; cases h)
    refine ⟨_, _, retN X15 hx (t := .boolean) Bd.returns (by simp) (hb hby at_104) hr, hrun, hended, _, _, rfl, ⟨rfl, N15⟩, hEW.1, hEW.2.1, hEW.2.2.1, hEW.2.2.2.mono (by decide) (by decide)⟩
  · refine own_step (fun _ κ => XS.ifNo X15.here hx rfl (hb hby at_72) rfl ((if0 _ _).trans (flt hc16).1) κ) ?_
    show own_Go _ _ _ _ (T15.setTop (mkF m 75 #[.val (.int p0), .val (.int p1), .val (.int cc), .val (.int kk), .val (.ref a1), .val (.ref a4), .val (.int (own_hex cc))] []))
    refine own_step (fun _ κ => XS.iloadN X15.here hx rfl (hb hby at_75) rfl κ) ?_
    show own_Go _ _ _ _ (T15.setTop (mkF m 76 #[.val (.int p0), .val (.int p1), .val (.int cc), .val (.int kk), .val (.ref a1), .val (.ref a4), .val (.int (own_hex cc))] [(.int cc)]))
    refine own_step (fun _ κ => XS.aload X15.here hx rfl (hb hby at_76) rfl rfl κ) ?_
    show own_Go _ _ _ _ (T15.setTop (mkF m 78 #[.val (.int p0), .val (.int p1), .val (.int cc), .val (.int kk), .val (.ref a1), .val (.ref a4), .val (.int (own_hex cc))] [(.ref a1), (.int cc)]))
    refine own_step (fun _ κ => XS.iload X15.here hx rfl (hb hby at_78) rfl κ) ?_
    show own_Go _ _ _ _ (T15.setTop (mkF m 80 #[.val (.int p0), .val (.int p1), .val (.int cc), .val (.int kk), .val (.ref a1), .val (.ref a4), .val (.int (own_hex cc))] [(.int (own_hex cc)), (.ref a1), (.int cc)]))
    obtain ⟨cq17, kq17, q17a, q17b, q17c⟩ := isOf hZ eq15 f6
    obtain ⟨vr17, _, ⟨T17, L17, k17, n17⟩, -, X17, ⟨Lc17, hQ17, l17, y17, z17⟩, st17⟩ := X15.virtualBack hx (y := (⟨"java/lang/String", "charAt", "(I)C"⟩ : MethodName)) (z := (⟨"java/lang/String", "charAt", "(I)C"⟩ : MethodName)) hown (mvT hZ (hw _ (List.mem_of_getElem? (i := 10) rfl))) (mvT hZ (hw _ (List.mem_of_getElem? (i := 11) rfl))) (notFace_of_selects (args := #[]) (mvT hZ (hw _ (List.mem_of_getElem? (i := 13) rfl)))) (mvT hZ (hw _ (List.mem_of_getElem? (i := 13) rfl))) (mvT hZ (hw _ (List.mem_of_getElem? (i := 12) rfl))) (by decide) (backOf (W := 1) (rm5 l Z a0 hw [] a1 (own_hex cc) d1 kb1 [(.int (48 : Int32)), (.int (49 : Int32)), (.int (50 : Int32)), (.int (51 : Int32)), (.int (52 : Int32)), (.int (53 : Int32)), (.int (54 : Int32)), (.int (55 : Int32)), (.int (56 : Int32)), (.int (57 : Int32)), (.int (97 : Int32)), (.int (98 : Int32)), (.int (99 : Int32)), (.int (100 : Int32)), (.int (101 : Int32)), (.int (102 : Int32))] (own_lo (own_hex cc)) fv cs h4 n0 z10 f6 f7 f8 f9 f5 P1 P2 P3 P4 hc16 (own_x3 hc16) (own_lo_at hc16 (own_x3 hc16))) hZ (hw _ (List.mem_of_getElem? (i := 14) rfl)) (hw _ (List.mem_of_getElem? (i := 2) rfl)) (by decide) (by decide)) q17a q17c (g := (mkF m 80 #[.val (.int p0), .val (.int p1), .val (.int cc), .val (.int kk), .val (.ref a1), .val (.ref a4), .val (.int (own_hex cc))] [(.int (own_hex cc)), (.ref a1), (.int cc)])) rfl (by rw [hml]; rfl) (Steps.refl _) (argsL := [(.int (own_hex cc))]) (rest := [(.int cc)]) (lenOf pd_5 rfl) rfl (by show 2 * 0 + _ ≤ _; exact Nat.le_of_eq rfl) (hb hby at_80) (fun _ _ => ⟨rfl, eq15, (by decide : 4 + 0 ≤ _), (by decide : 136 + 0 ≤ _)⟩)
    dsimp only [Pt.U, Pt.locs, Pt.cells, Pt.slots] at X17 l17 y17 z17 st17 hQ17
    subst l17 y17 z17
    obtain ⟨rfl, Nq17, eq17⟩ := hQ17
    have N17 := Fr.app N15 Nq17
    refine own_step (fun _ κ => st17.trans κ) ?_
    show own_Go _ _ _ _ (T17.setTop (mkF m 83 #[.val (.int p0), .val (.int p1), .val (.int cc), .val (.int kk), .val (.ref a1), .val (.ref a4), .val (.int (own_hex cc))] [(.int (own_cc (own_lo (own_hex cc)))), (.int cc)]))
    by_cases hc18 : cc = (own_cc (own_lo (own_hex cc)))
    · refine own_step (fun _ κ => XS.icmpYes X17.here hx rfl (pc0 := 83) (pc' := 97) rfl (hb hby at_83) rfl (teq hc18).1 (by decide) (by decide) κ) ?_
      show own_Go _ _ _ _ (T17.setTop (mkF m 97 #[.val (.int p0), .val (.int p1), .val (.int cc), .val (.int kk), .val (.ref a1), .val (.ref a4), .val (.int (own_hex cc))] []))
      refine own_step (fun _ κ => XS.iconst X17.here hx rfl (hb hby at_97) κ) ?_
      show own_Go _ _ _ _ (T17.setTop (mkF m 98 #[.val (.int p0), .val (.int p1), .val (.int cc), .val (.int kk), .val (.ref a1), .val (.ref a4), .val (.int (own_hex cc))] [(.int (1 : Int32))]))
      refine own_step (fun _ κ => XS.goto X17.here hx rfl (pc0 := 98) (pc' := 102) rfl (hb hby at_98) (by decide) (by decide) κ) ?_
      show own_Go _ _ _ _ (T17.setTop (mkF m 102 #[.val (.int p0), .val (.int p1), .val (.int cc), .val (.int kk), .val (.ref a1), .val (.ref a4), .val (.int (own_hex cc))] [(.int (1 : Int32))]))
      obtain ⟨fs, hr, hrun, hended, hEW⟩ := X17.leaveW hS4 (by rw [eq17]; exact hk4) (v := some (.int (1 : Int32))) (fun h => by rw [Bd.returns] at h; cases h)
      refine ⟨_, _, retN X17 hx (t := .boolean) Bd.returns (by simp) (hb hby at_102) hr, hrun, hended, _, _, rfl, ⟨rfl, N17⟩, hEW.1, hEW.2.1, hEW.2.2.1, hEW.2.2.2.mono (by decide) (by decide)⟩
    · refine own_step (fun _ κ => XS.icmpNo X17.here hx rfl (hb hby at_83) rfl (feq hc18).1 κ) ?_
      show own_Go _ _ _ _ (T17.setTop (mkF m 86 #[.val (.int p0), .val (.int p1), .val (.int cc), .val (.int kk), .val (.ref a1), .val (.ref a4), .val (.int (own_hex cc))] []))
      refine own_step (fun _ κ => XS.iloadN X17.here hx rfl (hb hby at_86) rfl κ) ?_
      show own_Go _ _ _ _ (T17.setTop (mkF m 87 #[.val (.int p0), .val (.int p1), .val (.int cc), .val (.int kk), .val (.ref a1), .val (.ref a4), .val (.int (own_hex cc))] [(.int cc)]))
      refine own_step (fun _ κ => XS.aload X17.here hx rfl (hb hby at_87) rfl rfl κ) ?_
      show own_Go _ _ _ _ (T17.setTop (mkF m 89 #[.val (.int p0), .val (.int p1), .val (.int cc), .val (.int kk), .val (.ref a1), .val (.ref a4), .val (.int (own_hex cc))] [(.ref a4), (.int cc)]))
      refine own_step (fun _ κ => XS.iload X17.here hx rfl (hb hby at_89) rfl κ) ?_
      show own_Go _ _ _ _ (T17.setTop (mkF m 91 #[.val (.int p0), .val (.int p1), .val (.int cc), .val (.int kk), .val (.ref a1), .val (.ref a4), .val (.int (own_hex cc))] [(.int (own_hex cc)), (.ref a4), (.int cc)]))
      obtain ⟨cq19, kq19, q19a, q19b, q19c⟩ := isOf hZ eq17 Ex4
      obtain ⟨vr19, _, ⟨T19, L19, k19, n19⟩, -, X19, ⟨Lc19, hQ19, l19, y19, z19⟩, st19⟩ := X17.virtualBack hx (y := (⟨"java/lang/String", "charAt", "(I)C"⟩ : MethodName)) (z := (⟨"java/lang/String", "charAt", "(I)C"⟩ : MethodName)) hown (mvT hZ (hw _ (List.mem_of_getElem? (i := 10) rfl))) (mvT hZ (hw _ (List.mem_of_getElem? (i := 11) rfl))) (notFace_of_selects (args := #[]) (mvT hZ (hw _ (List.mem_of_getElem? (i := 13) rfl)))) (mvT hZ (hw _ (List.mem_of_getElem? (i := 13) rfl))) (mvT hZ (hw _ (List.mem_of_getElem? (i := 12) rfl))) (by decide) (backOf (W := 1) (rm5 l Z a0 hw [] a4 (own_hex cc) d4 kb4 [(.int (48 : Int32)), (.int (49 : Int32)), (.int (50 : Int32)), (.int (51 : Int32)), (.int (52 : Int32)), (.int (53 : Int32)), (.int (54 : Int32)), (.int (55 : Int32)), (.int (56 : Int32)), (.int (57 : Int32)), (.int (65 : Int32)), (.int (66 : Int32)), (.int (67 : Int32)), (.int (68 : Int32)), (.int (69 : Int32)), (.int (70 : Int32))] (own_up (own_hex cc)) fv cs h4 n0 z10 Ex4 Fc4 Fv4 Av4 f5 P1 P2 P3 P4 hc16 (own_x3 hc16) (own_up_at hc16 (own_x3 hc16))) hZ (hw _ (List.mem_of_getElem? (i := 14) rfl)) (hw _ (List.mem_of_getElem? (i := 2) rfl)) (by decide) (by decide)) q19a q19c (g := (mkF m 91 #[.val (.int p0), .val (.int p1), .val (.int cc), .val (.int kk), .val (.ref a1), .val (.ref a4), .val (.int (own_hex cc))] [(.int (own_hex cc)), (.ref a4), (.int cc)])) rfl (by rw [hml]; rfl) (Steps.refl _) (argsL := [(.int (own_hex cc))]) (rest := [(.int cc)]) (lenOf pd_5 rfl) rfl (by show 2 * 0 + _ ≤ _; exact Nat.le_of_eq rfl) (hb hby at_91) (fun _ _ => ⟨rfl, eq17, (by decide : 4 + 0 ≤ _), (by decide : 136 + 0 ≤ _)⟩)
      dsimp only [Pt.U, Pt.locs, Pt.cells, Pt.slots] at X19 l19 y19 z19 st19 hQ19
      subst l19 y19 z19
      obtain ⟨rfl, Nq19, eq19⟩ := hQ19
      have N19 := Fr.app N17 Nq19
      refine own_step (fun _ κ => st19.trans κ) ?_
      show own_Go _ _ _ _ (T19.setTop (mkF m 94 #[.val (.int p0), .val (.int p1), .val (.int cc), .val (.int kk), .val (.ref a1), .val (.ref a4), .val (.int (own_hex cc))] [(.int (own_cc (own_up (own_hex cc)))), (.int cc)]))
      refine own_step (fun _ κ => XS.icmpNo X19.here hx rfl (hb hby at_94) rfl (teq (own_x4 hc16 hc18)).2 κ) ?_
      show own_Go _ _ _ _ (T19.setTop (mkF m 97 #[.val (.int p0), .val (.int p1), .val (.int cc), .val (.int kk), .val (.ref a1), .val (.ref a4), .val (.int (own_hex cc))] []))
      refine own_step (fun _ κ => XS.iconst X19.here hx rfl (hb hby at_97) κ) ?_
      show own_Go _ _ _ _ (T19.setTop (mkF m 98 #[.val (.int p0), .val (.int p1), .val (.int cc), .val (.int kk), .val (.ref a1), .val (.ref a4), .val (.int (own_hex cc))] [(.int (1 : Int32))]))
      refine own_step (fun _ κ => XS.goto X19.here hx rfl (pc0 := 98) (pc' := 102) rfl (hb hby at_98) (by decide) (by decide) κ) ?_
      show own_Go _ _ _ _ (T19.setTop (mkF m 102 #[.val (.int p0), .val (.int p1), .val (.int cc), .val (.int kk), .val (.ref a1), .val (.ref a4), .val (.int (own_hex cc))] [(.int (1 : Int32))]))
      obtain ⟨fs, hr, hrun, hended, hEW⟩ := X19.leaveW hS4 (by rw [eq19]; exact hk4) (v := some (.int (1 : Int32))) (fun h => by rw [Bd.returns] at h; cases h)
      refine ⟨_, _, retN X19 hx (t := .boolean) Bd.returns (by simp) (hb hby at_102) hr, hrun, hended, _, _, rfl, ⟨rfl, N19⟩, hEW.1, hEW.2.1, hEW.2.2.1, hEW.2.2.2.mono (by decide) (by decide)⟩
set_option maxRecDepth 65536 in
set_option maxHeartbeats 40000000 in
theorem comes_1 {Post : Tables → Env → Array Value → State → Outcome → State → Prop} (hpost : ∀ tb e args s v u, (limb_1_1.after args s (.returned v) u = true ∧ limb_1_2.after args s (.returned v) u = true ∧ True) → ReturnedEndW s (.returned v) u (Jvm.fieldLocs frame_1_writes args s ++ Jvm.arrayLocs frame_1_arrays args s ++ Jvm.staticLocs frame_1_statics s) 8 2112 → Post tb e args s (.returned v) u) :
    ArmFor flags0 classFile x code maxLocals ret World_1 tables_1 room_1 Calls_1 rest_1 Pre_1 Post := by
  intro l hfl _ _ p e ha hc hk s m args below hf hA hF happ hP
  obtain ⟨hcalls, hrest, hpre⟩ := hP
  obtain ⟨-, -, -, hnamed, -, -, -, hat⟩ := (Spec.applies_iff hf).mp happ
  obtain ⟨hg, hn⟩ := and_e (Cond.before_iff.mp (show (Jvm.Cond.and given_1 narrow_1).before args s = true from hpre))
  obtain ⟨g0, gr0⟩ := and_e hg
  obtain ⟨w0, w1, rfl⟩ : ∃ w0 w1 : Value, args = #[w0, w1] := by
    have hs : args.size = 2 := by simpa [Cond.value, given_1] using g0
    obtain ⟨L⟩ := args
    match L, hs with
    | [w0, w1], _ => exact ⟨w0, w1, rfl⟩
  have hw := fun d (hd : d ∈ tables_1) => atoms_spec (ws := Jvm.Cond.code x code maxLocals ret :: tables_1) hat d (List.mem_cons_of_mem _ hd)
  have hfit : Fit s := fun {y c} hc i hi => by
    obtain ⟨ha, rfl⟩ := Array.getElem?_eq_some_iff.mp hc
    have q := List.all_eq_true.mp ((Array.all_eq_true_iff_forall_mem.mp hF) _ (Array.getElem_mem ha)) i (List.mem_range.mpr hi)
    simpa [Array.getElem?_eq_getElem hi] using q
  obtain ⟨ga0, gr1⟩ := and_e gr0
  obtain ⟨i0, ei0⟩ := is_v ga0
  obtain rfl : w0 = (.int i0) := Option.some.inj ei0
  obtain ⟨i1, ei1⟩ := is_v gr1
  obtain rfl : w1 = (.int i1) := Option.some.inj ei1
  obtain ⟨hsets, hown0⟩ := atoms_of _ (rest_1_c_eq ▸ (show rest_1_c.before _ s = true from hrest))
  have n5 := not_v (Cond.before_iff.mp (hsets _ (List.mem_of_getElem? (i := 2) rfl)))
  obtain ⟨cs, ecs⟩ := is_v (Cond.before_iff.mp (hsets _ (List.mem_of_getElem? (i := 1) rfl)))
  have S_cs : Sta s s.heap "java/lang/String" "COMPACT_STRINGS" "Z" (.int cs) := Sta.start ecs (Or.inl (hsets _ (List.mem_of_getElem? (i := 0) rfl)))
  obtain ⟨fv, efv, rfv⟩ := isR_v (Cond.before_iff.mp (hsets _ (List.mem_of_getElem? (i := 8) rfl)))
  have S_fv : Sta s s.heap "jdk/internal/util/Preconditions" "SIOOBE_FORMATTER" "Ljava/util/function/BiFunction;" fv := Sta.start efv (Or.inl (hsets _ (List.mem_of_getElem? (i := 7) rfl)))
  have ncs : ¬ (cs = (0 : Int32)) := gotF (Cond.eq_ints ecs (Term.int_eval (0))) n5
  have hCH : CHv s consts_1 s.vm s.heap := CHv.start (own_EW hw) hcalls.1 (hsets _ (List.mem_of_getElem? (i := 2) rfl)) (hw _ (List.mem_of_getElem? (i := 4) rfl)) (hw _ (List.mem_of_getElem? (i := 3) rfl))
  obtain ⟨n, o, h1, h2, h3, _, L, rfl, ⟨rfl, N⟩, hq⟩ := rm0 l s _ hw tables_1 i0 i1 fv cs s.heap s.heap.size (Nat.le_refl _) (Old.start s) S_fv rfv S_cs ncs p e ha hc hk s m _ below hf ((Spec.applies_iff_loose hf).mp happ).1 ⟨rfl, State.Warmed39.refl s, rfl, hCH⟩ trivial
  refine ⟨n, _, h1, h2, h3, hpost _ _ _ _ _ _ ⟨Cond.after_iff.mpr rfl, Cond.after_iff.mpr (eq_i res_at (Term.int_eval (1)) rfl), trivial⟩ ⟨hq.1, hq.2.1, hq.2.2.1, (hq.2.2.2.sift fun y hy => Or.inr (N y hy)).mono (by decide) (by decide)⟩⟩
theorem main_1_1 : Claimed_1_1 := comes_1 fun _ _ _ _ _ _ h hF => ⟨h.1, hF⟩
theorem main_1_2 : Claimed_1_2 := comes_1 fun _ _ _ _ _ _ h hF => ⟨h.2.1, hF⟩
end Jvm.Pilot.@@N@@
namespace Jvm.Pilot.@@N@@
open Jvm Jvm.ClassFile Sem Op Lib Jvm.Free Jvm.Stand Jvm.Pilot.@@N@@.Jvm.D
/-! MADE BY PROGRAM (witnessworld.py) out of the Statement's table words and the real class files: 19 classes; the members and pool entries that the words name. The judged class is class 1, her method 1. -/
namespace start1
open Jvm.ClassFile
def u (s : String) : CpInfo := .utf8 (stringToUtf16 s)
/-- a pool by its gaps: so many unusable entries, then the entry; so many at the end -/
def gap : Nat → List CpInfo → List CpInfo
  | 0, r => r
  | n + 1, r => .unusable :: gap n r
def poolList (es : List (Nat × CpInfo)) (last : Nat) : List CpInfo := es.foldr (fun e r => gap e.1 (e.2 :: r)) (gap last [])
def pool (es : List (Nat × CpInfo)) (last : Nat) : Array CpInfo := ⟨poolList es last⟩
def fileOf (pool : Array CpInfo) (this : Nat) (attrs : Array Attribute := #[]) (ms : Array MethodInfo := #[]) (fl : Nat := 33) (sup : Nat := 0) (ifs : Array Nat := #[]) (fds : Array FieldInfo := #[]) : ClassFile where
  minorVersion := 0
  majorVersion := 65
  constantPool := pool
  accessFlags := fl
  thisClass := this
  superClass := sup
  interfaces := ifs
  fields := fds
  methods := ms
  attributes := attrs
def plain (name : String) (sup : Option ClassId) : Class where
  name := name
  kind := .ordinary
  loader := none
  accessFlags := 33
  super := sup
  interfaces := #[]
  cf := none
  fields := #[]
  methods := #[]
  instanceTypes := #[]
  staticTypes := #[]
  resolved := #[]
  callSites := []
  init := .initialized
  statics := none
  mirror := none

def pool0 : Array CpInfo := pool [(5, u "<init>"), (0, u "()V"), (1, .class_ 10), (1, u "java/lang/Object")] 113

def k0m0 : Method := { name := "<init>", desc := "()V", sig := { parameters := [], returnType := none }, accessFlags := 1, code := none }
/-- java/lang/Object -/
def k0 : Class := { plain "java/lang/Object" none with
  accessFlags := 33
  interfaces := #[]
  cf := some (fileOf pool0 8 #[] #[{ accessFlags := 1, nameIndex := 5, descriptorIndex := 6, attributes := #[] }] 33 0 #[] #[])
  fields := #[]
  methods := #[k0m0]
  instanceTypes := #[]
  staticTypes := #[]
  resolved := Array.replicate 124 none
  statics := none }

def pool1 : Array CpInfo := pool [(2, .class_ 4), (1, u "java/lang/Object"), (0, u "<init>"), (0, u "()V"), (0, .integer 65535), (0, .string 9), (0, u "0123456789abcdef"), (0, .string 11), (0, u "0123456789ABCDEF"), (0, .methodref 13 14), (0, .class_ 15), (0, .nameAndType 16 17), (0, u "java/lang/String"), (0, u "charAt"), (0, u "(I)C"), (0, .methodref 19 20), (0, .class_ 21), (0, .nameAndType 22 23), (0, u "com/example/fouille/fouille/rdf/NTriplesParser"), (0, u "hexValue"), (0, u "(C)I"), (0, .class_ 25), (0, u "com/example/fouille/fouille/rdf/NTriplesParserHexValuePinLaw"), (2, u "law"), (0, u "(II)Z")] 3

def k1m0 : Method := { name := "<init>", desc := "()V", sig := { parameters := [], returnType := none }, accessFlags := 1, code := none }
def k1c1 : Code := { maxStack := 3, maxLocals := 7, code := code, exceptionTable := #[], attributes := #[] }
def k1m1 : Method := { name := "law", desc := "(II)Z", sig := { parameters := [.int, .int], returnType := some .boolean }, accessFlags := 9, code := some k1c1 }
/-- com/example/fouille/fouille/rdf/NTriplesParserHexValuePinLaw -/
def k1 : Class := { plain "com/example/fouille/fouille/rdf/NTriplesParserHexValuePinLaw" (some 0) with
  accessFlags := 49
  interfaces := #[]
  cf := some (fileOf pool1 24 #[] #[{ accessFlags := 1, nameIndex := 5, descriptorIndex := 6, attributes := #[] }, { accessFlags := 9, nameIndex := 28, descriptorIndex := 29, attributes := #[] }] 49 2 #[] #[])
  fields := #[]
  methods := #[k1m0, k1m1]
  instanceTypes := #[]
  staticTypes := #[]
  resolved := Array.replicate 33 none
  statics := none }

def pool2 : Array CpInfo := pool [(1, .class_ 2), (0, u "java/io/Serializable"), (0, .class_ 4), (0, u "java/lang/Object")] 2

/-- java/io/Serializable -/
def k2 : Class := { plain "java/io/Serializable" (some 0) with
  accessFlags := 1537
  interfaces := #[]
  cf := some (fileOf pool2 1 #[] #[] 1537 3 #[] #[])
  fields := #[]
  methods := #[]
  instanceTypes := #[]
  staticTypes := #[]
  resolved := Array.replicate 7 none
  statics := none }

def pool3 : Array CpInfo := pool [(1, .class_ 2), (0, u "java/lang/Comparable"), (0, .class_ 4), (0, u "java/lang/Object")] 7

/-- java/lang/Comparable -/
def k3 : Class := { plain "java/lang/Comparable" (some 0) with
  accessFlags := 1537
  interfaces := #[]
  cf := some (fileOf pool3 1 #[] #[] 1537 3 #[] #[])
  fields := #[]
  methods := #[]
  instanceTypes := #[]
  staticTypes := #[]
  resolved := Array.replicate 12 none
  statics := none }

def pool4 : Array CpInfo := pool [(2, .class_ 4), (1, u "java/lang/CharSequence"), (42, .class_ 48), (0, u "java/lang/CharSequence$1CodePointIterator"), (10, .class_ 60), (0, u "java/lang/CharSequence$1CharIterator"), (5, .class_ 67), (0, u "java/lang/Object")] 63

/-- java/lang/CharSequence -/
def k4 : Class := { plain "java/lang/CharSequence" (some 0) with
  accessFlags := 1537
  interfaces := #[]
  cf := some (fileOf pool4 2 #[.nestMembers #[47, 59]] #[] 1537 66 #[] #[])
  fields := #[]
  methods := #[]
  instanceTypes := #[]
  staticTypes := #[]
  resolved := Array.replicate 131 none
  statics := none }

def pool5 : Array CpInfo := pool [(1, .class_ 2), (0, u "java/lang/constant/Constable"), (0, .class_ 4), (0, u "java/lang/Object")] 6

/-- java/lang/constant/Constable -/
def k5 : Class := { plain "java/lang/constant/Constable" (some 0) with
  accessFlags := 1537
  interfaces := #[]
  cf := some (fileOf pool5 1 #[] #[] 1537 3 #[] #[])
  fields := #[]
  methods := #[]
  instanceTypes := #[]
  staticTypes := #[]
  resolved := Array.replicate 11 none
  statics := none }

def pool6 : Array CpInfo := pool [(1, .class_ 2), (0, u "java/lang/constant/ConstantDesc"), (0, .class_ 4), (0, u "java/lang/Object")] 32

/-- java/lang/constant/ConstantDesc -/
def k6 : Class := { plain "java/lang/constant/ConstantDesc" (some 0) with
  accessFlags := 1537
  interfaces := #[]
  cf := some (fileOf pool6 1 #[] #[] 1537 3 #[] #[])
  fields := #[]
  methods := #[]
  instanceTypes := #[]
  staticTypes := #[]
  resolved := Array.replicate 37 none
  statics := none }

def pool7 : Array CpInfo := pool [(2, .class_ 4), (1, u "java/lang/Object"), (0, u "<init>"), (0, u "()V"), (2, .fieldref 10 11), (0, .class_ 12), (0, .nameAndType 13 14), (0, u "java/lang/String"), (0, u "value"), (0, u "[B"), (0, .fieldref 10 16), (0, .nameAndType 17 18), (0, u "coder"), (0, u "B"), (2, u "hash"), (0, u "I"), (2, u "hashIsZero"), (0, u "Z"), (11, .fieldref 10 39), (0, .nameAndType 40 26), (0, u "COMPACT_STRINGS"), (66, .class_ 109), (1, u "java/lang/StringLatin1"), (32, u "()Z"), (220, u "([BI)C"), (27, u "(II)V"), (35, u "(I)C"), (64, .methodref 10 493), (0, .nameAndType 494 142), (0, u "isLatin1"), (0, .methodref 107 496), (0, .nameAndType 497 363), (0, u "charAt"), (3, u "checkIndex"), (73, .class_ 576), (0, u "java/lang/CharSequence"), (22, u "CASE_INSENSITIVE_ORDER"), (0, u "Ljava/util/Comparator;"), (452, .fieldref 1054 1055), (0, .class_ 1056), (0, .nameAndType 1057 1058), (0, u "jdk/internal/util/Preconditions"), (0, u "SIOOBE_FORMATTER"), (0, u "Ljava/util/function/BiFunction;"), (0, .methodref 1054 1060), (0, .nameAndType 501 1061), (0, u "(IILjava/util/function/BiFunction;)I"), (39, u "serialPersistentFields"), (0, u "[Ljava/io/ObjectStreamField;"), (0, .class_ 1104), (0, u "java/lang/String$CaseInsensitiveComparator"), (1, .class_ 1107), (0, u "java/io/Serializable"), (0, .class_ 1109), (0, u "java/lang/Comparable"), (0, .class_ 1111), (0, u "java/lang/constant/Constable"), (0, .class_ 1113), (0, u "java/lang/constant/ConstantDesc"), (2, u "serialVersionUID"), (0, u "J"), (3, u "REPL"), (0, u "C"), (2, u "LATIN1"), (1, u "UTF16")] 323

def k7m0 : Method := { name := "<init>", desc := "()V", sig := { parameters := [], returnType := none }, accessFlags := 1, code := none }
def k7c1 : Code := { maxStack := 2, maxLocals := 2, code := jdk_42_method_56_code, exceptionTable := #[], attributes := #[] }
def k7m1 : Method := { name := "charAt", desc := "(I)C", sig := { parameters := [.int], returnType := some .char }, accessFlags := 1, code := some k7c1 }
def k7c2 : Code := { maxStack := 1, maxLocals := 1, code := jdk_42_method_154_code, exceptionTable := #[], attributes := #[] }
def k7m2 : Method := { name := "isLatin1", desc := "()Z", sig := { parameters := [], returnType := some .boolean }, accessFlags := 0, code := some k7c2 }
def k7c3 : Code := { maxStack := 3, maxLocals := 2, code := jdk_42_method_155_code, exceptionTable := #[], attributes := #[] }
def k7m3 : Method := { name := "checkIndex", desc := "(II)V", sig := { parameters := [.int, .int], returnType := none }, accessFlags := 8, code := some k7c3 }
/-- java/lang/String -/
def k7 : Class := { plain "java/lang/String" (some 0) with
  accessFlags := 49
  interfaces := #[2, 3, 4, 5, 6]
  cf := some (fileOf pool7 10 #[.nestMembers #[1103]] #[{ accessFlags := 1, nameIndex := 5, descriptorIndex := 6, attributes := #[] }, { accessFlags := 1, nameIndex := 497, descriptorIndex := 427, attributes := #[] }, { accessFlags := 0, nameIndex := 494, descriptorIndex := 142, attributes := #[] }, { accessFlags := 8, nameIndex := 501, descriptorIndex := 391, attributes := #[] }] 49 2 #[1106, 1108, 575, 1110, 1112] #[{ accessFlags := 18, nameIndex := 13, descriptorIndex := 14, attributes := #[] }, { accessFlags := 18, nameIndex := 17, descriptorIndex := 18, attributes := #[] }, { accessFlags := 2, nameIndex := 21, descriptorIndex := 22, attributes := #[] }, { accessFlags := 2, nameIndex := 25, descriptorIndex := 26, attributes := #[] }, { accessFlags := 26, nameIndex := 1116, descriptorIndex := 1117, attributes := #[] }, { accessFlags := 24, nameIndex := 40, descriptorIndex := 26, attributes := #[] }, { accessFlags := 26, nameIndex := 1101, descriptorIndex := 1102, attributes := #[] }, { accessFlags := 26, nameIndex := 1121, descriptorIndex := 1122, attributes := #[] }, { accessFlags := 25, nameIndex := 599, descriptorIndex := 600, attributes := #[] }, { accessFlags := 24, nameIndex := 1125, descriptorIndex := 18, attributes := #[] }, { accessFlags := 24, nameIndex := 1127, descriptorIndex := 18, attributes := #[] }])
  fields := #[{ name := "value", type := (.array .byte), accessFlags := 18, slot := 0, constantValue := 0 }, { name := "coder", type := .byte, accessFlags := 18, slot := 1, constantValue := 0 }, { name := "hash", type := .int, accessFlags := 2, slot := 2, constantValue := 0 }, { name := "hashIsZero", type := .boolean, accessFlags := 2, slot := 3, constantValue := 0 }, { name := "serialVersionUID", type := .long, accessFlags := 26, slot := 0, constantValue := 0 }, { name := "COMPACT_STRINGS", type := .boolean, accessFlags := 24, slot := 1, constantValue := 0 }, { name := "serialPersistentFields", type := (.array (.object "java/io/ObjectStreamField")), accessFlags := 26, slot := 2, constantValue := 0 }, { name := "REPL", type := .char, accessFlags := 26, slot := 3, constantValue := 0 }, { name := "CASE_INSENSITIVE_ORDER", type := (.object "java/util/Comparator"), accessFlags := 25, slot := 4, constantValue := 0 }, { name := "LATIN1", type := .byte, accessFlags := 24, slot := 5, constantValue := 0 }, { name := "UTF16", type := .byte, accessFlags := 24, slot := 6, constantValue := 0 }]
  methods := #[k7m0, k7m1, k7m2, k7m3]
  instanceTypes := #[(.array .byte), .byte, .int, .boolean]
  staticTypes := #[.long, .boolean, (.array (.object "java/io/ObjectStreamField")), .char, (.object "java/util/Comparator"), .byte, .byte]
  resolved := Array.replicate 1451 none
  statics := some 0 }

def pool8 : Array CpInfo := pool [(1, .class_ 2), (0, u "java/lang/String"), (1, .class_ 6), (1, u "java/lang/Object"), (0, u "<init>"), (0, u "()V"), (0, .methodref 1 10), (0, .nameAndType 11 12), (0, u "checkIndex"), (0, u "(II)V"), (1, .class_ 16), (1, u "java/lang/StringLatin1"), (36, u "([BI)C"), (67, u "$assertionsDisabled"), (0, u "Z"), (98, .class_ 223), (1, u "java/lang/StringLatin1$LinesSpliterator"), (28, u "charAt"), (137, .class_ 391), (0, u "java/lang/StringLatin1$CharsSpliterator")] 3

def k8m0 : Method := { name := "<init>", desc := "()V", sig := { parameters := [], returnType := none }, accessFlags := 0, code := none }
def k8c1 : Code := { maxStack := 2, maxLocals := 2, code := jdk_43_method_2_code, exceptionTable := #[], attributes := #[] }
def k8m1 : Method := { name := "charAt", desc := "([BI)C", sig := { parameters := [(.array .byte), .int], returnType := some .char }, accessFlags := 9, code := some k8c1 }
/-- java/lang/StringLatin1 -/
def k8 : Class := { plain "java/lang/StringLatin1" (some 0) with
  accessFlags := 48
  interfaces := #[]
  cf := some (fileOf pool8 14 #[.nestMembers #[390, 221]] #[{ accessFlags := 0, nameIndex := 7, descriptorIndex := 8, attributes := #[] }, { accessFlags := 9, nameIndex := 252, descriptorIndex := 53, attributes := #[] }] 48 4 #[] #[{ accessFlags := 4120, nameIndex := 121, descriptorIndex := 122, attributes := #[] }])
  fields := #[{ name := "$assertionsDisabled", type := .boolean, accessFlags := 4120, slot := 0, constantValue := 0 }]
  methods := #[k8m0, k8m1]
  instanceTypes := #[]
  staticTypes := #[.boolean]
  resolved := Array.replicate 395 none
  statics := none }

def pool9 : Array CpInfo := pool [(2, .class_ 4), (1, u "java/lang/Object"), (0, u "<init>"), (0, u "()V"), (17, .class_ 26), (1, u "jdk/internal/util/Preconditions"), (6, u "checkIndex"), (21, .class_ 56), (0, u "jdk/internal/util/Preconditions$4"), (57, .class_ 115), (0, u "jdk/internal/util/Preconditions$1"), (7, u "SIOOBE_FORMATTER"), (0, u "Ljava/util/function/BiFunction;"), (0, .class_ 126), (0, u "jdk/internal/util/Preconditions$2"), (3, u "AIOOBE_FORMATTER"), (0, .class_ 132), (0, u "jdk/internal/util/Preconditions$3"), (3, u "IOOBE_FORMATTER"), (41, u "(IILjava/util/function/BiFunction;)I")] 15

def k9m0 : Method := { name := "<init>", desc := "()V", sig := { parameters := [], returnType := none }, accessFlags := 1, code := none }
def k9c1 : Code := { maxStack := 3, maxLocals := 3, code := jdk_41_method_11_code, exceptionTable := #[], attributes := #[] }
def k9m1 : Method := { name := "checkIndex", desc := "(IILjava/util/function/BiFunction;)I", sig := { parameters := [.int, .int, (.object "java/util/function/BiFunction")], returnType := some .int }, accessFlags := 9, code := some k9c1 }
/-- jdk/internal/util/Preconditions -/
def k9 : Class := { plain "jdk/internal/util/Preconditions" (some 0) with
  accessFlags := 33
  interfaces := #[]
  cf := some (fileOf pool9 24 #[.nestMembers #[55, 131, 125, 114]] #[{ accessFlags := 1, nameIndex := 5, descriptorIndex := 6, attributes := #[] }, { accessFlags := 9, nameIndex := 33, descriptorIndex := 178, attributes := #[] }] 33 2 #[] #[{ accessFlags := 25, nameIndex := 123, descriptorIndex := 124, attributes := #[] }, { accessFlags := 25, nameIndex := 130, descriptorIndex := 124, attributes := #[] }, { accessFlags := 25, nameIndex := 136, descriptorIndex := 124, attributes := #[] }])
  fields := #[{ name := "SIOOBE_FORMATTER", type := (.object "java/util/function/BiFunction"), accessFlags := 25, slot := 0, constantValue := 0 }, { name := "AIOOBE_FORMATTER", type := (.object "java/util/function/BiFunction"), accessFlags := 25, slot := 1, constantValue := 0 }, { name := "IOOBE_FORMATTER", type := (.object "java/util/function/BiFunction"), accessFlags := 25, slot := 2, constantValue := 0 }]
  methods := #[k9m0, k9m1]
  instanceTypes := #[]
  staticTypes := #[(.object "java/util/function/BiFunction"), (.object "java/util/function/BiFunction"), (.object "java/util/function/BiFunction")]
  resolved := Array.replicate 194 none
  statics := some 1 }

def pool10 : Array CpInfo := pool [(1, .class_ 2), (0, u "java/lang/AutoCloseable"), (0, .class_ 4), (0, u "java/lang/Object")] 7

/-- java/lang/AutoCloseable -/
def k10 : Class := { plain "java/lang/AutoCloseable" (some 0) with
  accessFlags := 1537
  interfaces := #[]
  cf := some (fileOf pool10 1 #[] #[] 1537 3 #[] #[])
  fields := #[]
  methods := #[]
  instanceTypes := #[]
  staticTypes := #[]
  resolved := Array.replicate 12 none
  statics := none }

def pool11 : Array CpInfo := pool [(1, .class_ 2), (0, u "java/io/Closeable"), (0, .class_ 4), (0, u "java/lang/Object"), (0, .class_ 6), (0, u "java/lang/AutoCloseable")] 7

/-- java/io/Closeable -/
def k11 : Class := { plain "java/io/Closeable" (some 0) with
  accessFlags := 1537
  interfaces := #[10]
  cf := some (fileOf pool11 1 #[] #[] 1537 3 #[5] #[])
  fields := #[]
  methods := #[]
  instanceTypes := #[]
  staticTypes := #[]
  resolved := Array.replicate 14 none
  statics := none }

def pool12 : Array CpInfo := pool [(2, .class_ 4), (1, u "java/lang/Object"), (3, .class_ 10), (1, u "com/example/fouille/fouille/rdf/NTriplesParser"), (0, u "lines"), (0, u "Lcom/example/fouille/fouille/Utf8LineReader;"), (15, u "text"), (0, u "Ljava/lang/String;"), (2, u "position"), (0, u "I"), (89, u "(I)Z"), (46, .methodref 8 171), (0, .nameAndType 172 123), (0, u "isDigit"), (42, u "hexValue"), (0, u "(C)I"), (56, u "NAME_START_RANGES"), (0, u "[I"), (10, .class_ 286), (0, u "java/io/Closeable"), (0, u "END"), (2, u "IRI_EXCLUDED"), (0, u "ESCAPE_LETTERS"), (0, u "ESCAPED")] 56

def k12c0 : Code := { maxStack := 2, maxLocals := 1, code := prog_28_method_25_code, exceptionTable := #[], attributes := #[] }
def k12m0 : Method := { name := "isDigit", desc := "(I)Z", sig := { parameters := [.int], returnType := some .boolean }, accessFlags := 10, code := some k12c0 }
def k12c1 : Code := { maxStack := 2, maxLocals := 2, code := prog_28_method_26_code, exceptionTable := #[], attributes := #[] }
def k12m1 : Method := { name := "hexValue", desc := "(C)I", sig := { parameters := [.char], returnType := some .int }, accessFlags := 8, code := some k12c1 }
/-- com/example/fouille/fouille/rdf/NTriplesParser -/
def k12 : Class := { plain "com/example/fouille/fouille/rdf/NTriplesParser" (some 0) with
  accessFlags := 48
  interfaces := #[11]
  cf := some (fileOf pool12 8 #[] #[{ accessFlags := 10, nameIndex := 172, descriptorIndex := 123, attributes := #[] }, { accessFlags := 8, nameIndex := 215, descriptorIndex := 216, attributes := #[] }] 48 2 #[285] #[{ accessFlags := 26, nameIndex := 287, descriptorIndex := 33, attributes := #[] }, { accessFlags := 26, nameIndex := 290, descriptorIndex := 29, attributes := #[] }, { accessFlags := 26, nameIndex := 291, descriptorIndex := 29, attributes := #[] }, { accessFlags := 26, nameIndex := 292, descriptorIndex := 29, attributes := #[] }, { accessFlags := 26, nameIndex := 273, descriptorIndex := 274, attributes := #[] }, { accessFlags := 18, nameIndex := 11, descriptorIndex := 12, attributes := #[] }, { accessFlags := 2, nameIndex := 28, descriptorIndex := 29, attributes := #[] }, { accessFlags := 2, nameIndex := 32, descriptorIndex := 33, attributes := #[] }])
  fields := #[{ name := "END", type := .int, accessFlags := 26, slot := 0, constantValue := 0 }, { name := "IRI_EXCLUDED", type := (.object "java/lang/String"), accessFlags := 26, slot := 1, constantValue := 0 }, { name := "ESCAPE_LETTERS", type := (.object "java/lang/String"), accessFlags := 26, slot := 2, constantValue := 0 }, { name := "ESCAPED", type := (.object "java/lang/String"), accessFlags := 26, slot := 3, constantValue := 0 }, { name := "NAME_START_RANGES", type := (.array .int), accessFlags := 26, slot := 4, constantValue := 0 }, { name := "lines", type := (.object "com/example/fouille/fouille/Utf8LineReader"), accessFlags := 18, slot := 0, constantValue := 0 }, { name := "text", type := (.object "java/lang/String"), accessFlags := 2, slot := 1, constantValue := 0 }, { name := "position", type := .int, accessFlags := 2, slot := 2, constantValue := 0 }]
  methods := #[k12m0, k12m1]
  instanceTypes := #[(.object "com/example/fouille/fouille/Utf8LineReader"), (.object "java/lang/String"), .int]
  staticTypes := #[.int, (.object "java/lang/String"), (.object "java/lang/String"), (.object "java/lang/String"), (.array .int)]
  resolved := Array.replicate 349 none
  statics := none }

def pool13 : Array CpInfo := pool [(9, u "<init>"), (6, .class_ 18), (1, u "java/lang/Object"), (0, u "()V"), (1, .class_ 23), (1, u "jdk/internal/util/ArraysSupport"), (0, u "LOG2_ARRAY_LONG_INDEX_SCALE"), (0, u "I"), (2, u "U"), (0, u "Ljdk/internal/misc/Unsafe;"), (8, u "BIG_ENDIAN"), (0, u "Z"), (8, u "LOG2_BYTE_BIT_SIZE"), (4, u "LOG2_ARRAY_INT_INDEX_SCALE"), (54, u "JLA"), (0, u "Ljdk/internal/access/JavaLangAccess;"), (11, u "LOG2_ARRAY_BOOLEAN_INDEX_SCALE"), (9, u "LOG2_ARRAY_BYTE_INDEX_SCALE"), (5, u "LOG2_ARRAY_CHAR_INDEX_SCALE"), (5, u "LOG2_ARRAY_SHORT_INDEX_SCALE"), (18, u "LOG2_ARRAY_FLOAT_INDEX_SCALE"), (24, u "LOG2_ARRAY_DOUBLE_INDEX_SCALE"), (89, u "T_BOOLEAN"), (2, u "T_CHAR"), (1, u "T_FLOAT"), (1, u "T_DOUBLE"), (1, u "T_BYTE"), (1, u "T_SHORT"), (1, u "T_INT"), (1, u "T_LONG"), (1, u "SOFT_MAX_ARRAY_LENGTH")] 83

def k13m0 : Method := { name := "<init>", desc := "()V", sig := { parameters := [], returnType := none }, accessFlags := 2, code := none }
/-- jdk/internal/util/ArraysSupport -/
def k13 : Class := { plain "jdk/internal/util/ArraysSupport" (some 0) with
  accessFlags := 33
  interfaces := #[]
  cf := some (fileOf pool13 21 #[] #[{ accessFlags := 2, nameIndex := 9, descriptorIndex := 19, attributes := #[] }] 33 16 #[] #[{ accessFlags := 24, nameIndex := 28, descriptorIndex := 29, attributes := #[] }, { accessFlags := 26, nameIndex := 38, descriptorIndex := 39, attributes := #[] }, { accessFlags := 25, nameIndex := 121, descriptorIndex := 25, attributes := #[] }, { accessFlags := 25, nameIndex := 131, descriptorIndex := 25, attributes := #[] }, { accessFlags := 25, nameIndex := 137, descriptorIndex := 25, attributes := #[] }, { accessFlags := 25, nameIndex := 143, descriptorIndex := 25, attributes := #[] }, { accessFlags := 25, nameIndex := 53, descriptorIndex := 25, attributes := #[] }, { accessFlags := 25, nameIndex := 24, descriptorIndex := 25, attributes := #[] }, { accessFlags := 25, nameIndex := 162, descriptorIndex := 25, attributes := #[] }, { accessFlags := 25, nameIndex := 187, descriptorIndex := 25, attributes := #[] }, { accessFlags := 26, nameIndex := 48, descriptorIndex := 25, attributes := #[] }, { accessFlags := 25, nameIndex := 277, descriptorIndex := 25, attributes := #[] }, { accessFlags := 25, nameIndex := 280, descriptorIndex := 25, attributes := #[] }, { accessFlags := 25, nameIndex := 282, descriptorIndex := 25, attributes := #[] }, { accessFlags := 25, nameIndex := 284, descriptorIndex := 25, attributes := #[] }, { accessFlags := 25, nameIndex := 286, descriptorIndex := 25, attributes := #[] }, { accessFlags := 25, nameIndex := 288, descriptorIndex := 25, attributes := #[] }, { accessFlags := 25, nameIndex := 290, descriptorIndex := 25, attributes := #[] }, { accessFlags := 25, nameIndex := 292, descriptorIndex := 25, attributes := #[] }, { accessFlags := 26, nameIndex := 108, descriptorIndex := 109, attributes := #[] }, { accessFlags := 25, nameIndex := 294, descriptorIndex := 25, attributes := #[] }])
  fields := #[{ name := "U", type := (.object "jdk/internal/misc/Unsafe"), accessFlags := 24, slot := 0, constantValue := 0 }, { name := "BIG_ENDIAN", type := .boolean, accessFlags := 26, slot := 1, constantValue := 0 }, { name := "LOG2_ARRAY_BOOLEAN_INDEX_SCALE", type := .int, accessFlags := 25, slot := 2, constantValue := 0 }, { name := "LOG2_ARRAY_BYTE_INDEX_SCALE", type := .int, accessFlags := 25, slot := 3, constantValue := 0 }, { name := "LOG2_ARRAY_CHAR_INDEX_SCALE", type := .int, accessFlags := 25, slot := 4, constantValue := 0 }, { name := "LOG2_ARRAY_SHORT_INDEX_SCALE", type := .int, accessFlags := 25, slot := 5, constantValue := 0 }, { name := "LOG2_ARRAY_INT_INDEX_SCALE", type := .int, accessFlags := 25, slot := 6, constantValue := 0 }, { name := "LOG2_ARRAY_LONG_INDEX_SCALE", type := .int, accessFlags := 25, slot := 7, constantValue := 0 }, { name := "LOG2_ARRAY_FLOAT_INDEX_SCALE", type := .int, accessFlags := 25, slot := 8, constantValue := 0 }, { name := "LOG2_ARRAY_DOUBLE_INDEX_SCALE", type := .int, accessFlags := 25, slot := 9, constantValue := 0 }, { name := "LOG2_BYTE_BIT_SIZE", type := .int, accessFlags := 26, slot := 10, constantValue := 0 }, { name := "T_BOOLEAN", type := .int, accessFlags := 25, slot := 11, constantValue := 0 }, { name := "T_CHAR", type := .int, accessFlags := 25, slot := 12, constantValue := 0 }, { name := "T_FLOAT", type := .int, accessFlags := 25, slot := 13, constantValue := 0 }, { name := "T_DOUBLE", type := .int, accessFlags := 25, slot := 14, constantValue := 0 }, { name := "T_BYTE", type := .int, accessFlags := 25, slot := 15, constantValue := 0 }, { name := "T_SHORT", type := .int, accessFlags := 25, slot := 16, constantValue := 0 }, { name := "T_INT", type := .int, accessFlags := 25, slot := 17, constantValue := 0 }, { name := "T_LONG", type := .int, accessFlags := 25, slot := 18, constantValue := 0 }, { name := "JLA", type := (.object "jdk/internal/access/JavaLangAccess"), accessFlags := 26, slot := 19, constantValue := 0 }, { name := "SOFT_MAX_ARRAY_LENGTH", type := .int, accessFlags := 25, slot := 20, constantValue := 0 }]
  methods := #[k13m0]
  instanceTypes := #[]
  staticTypes := #[(.object "jdk/internal/misc/Unsafe"), .boolean, .int, .int, .int, .int, .int, .int, .int, .int, .int, .int, .int, .int, .int, .int, .int, .int, .int, (.object "jdk/internal/access/JavaLangAccess"), .int]
  resolved := Array.replicate 378 none
  statics := none }

def pool14 : Array CpInfo := pool [(1, u "java/lang/Cloneable"), (0, .class_ 1), (0, u "java/lang/Object"), (0, .class_ 3)] 3

/-- java/lang/Cloneable -/
def k14 : Class := { plain "java/lang/Cloneable" (some 0) with
  accessFlags := 1537
  interfaces := #[]
  cf := some (fileOf pool14 2 #[] #[] 1537 4 #[] #[])
  fields := #[]
  methods := #[]
  instanceTypes := #[]
  staticTypes := #[]
  resolved := Array.replicate 8 none
  statics := none }

/-- the primitive byte -/
def k15 : Class := { plain "byte" none with kind := .primitive 'B', accessFlags := 0x411 }
/-- [B -/
def k16 : Class := { plain "[B" (some 0) with kind := .array 15 .byte, interfaces := #[14, 2], accessFlags := 1041 }

/-- the primitive int -/
def k17 : Class := { plain "int" none with kind := .primitive 'I', accessFlags := 0x411 }
/-- [I -/
def k18 : Class := { plain "[I" (some 0) with kind := .array 17 .int, interfaces := #[14, 2], accessFlags := 1041 }

def heap : Heap := #[{ cls := 7, slots := #[.long 0, .int 1, .null, .int 0, .null, .int 0, .int 0], vm := .statics 7 },
  { cls := 9, slots := #[.null, .null, .null], vm := .statics 9 }]
def classes : Array Class := #[k0, k1, k2, k3, k4, k5, k6, k7, k8, k9, k10, k11, k12, k13, k14, k15, k16, k17, k18]
def interned : List (Array UInt16 × Addr) := []
def slotsUsed : Nat := 10
def theMethod : MethodId := ⟨1, 1⟩
def args0 : Array Value := #[.int 5, .int 3]
def aboutOver (below : List Frame) : State where
  vm := { classes := classes, interned := interned.toArray }
  heap := heap
  slotsUsed := slotsUsed
  threads := #[{ frames := .invoking theMethod args0 :: below }]
def below0 : List Frame := [.native { method := ⟨0, 0⟩, args := #[] }]
def about1 : State := aboutOver below0
def p0 : Program := .bare "" "" ""
def e0 : Env := launch0.env 0 0 0
theorem w_frames : about1.frames = Frame.invoking theMethod args0 :: below0 := rfl
set_option maxRecDepth 65536 in
theorem w_args : argsFit about1.vm theMethod args0 = true := by decide +kernel
set_option maxRecDepth 65536 in
theorem w_heap : heapFits about1 = true := by decide +kernel
set_option maxRecDepth 65536 in
theorem w_runnable : about1.curStatus? = some .runnable := by decide +kernel
set_option maxRecDepth 65536 in
theorem w_alone : about1.alone = true := by decide +kernel
set_option maxRecDepth 65536 in
theorem w_named : about1.methodNamed? x = some theMethod := by decide +kernel
set_option maxRecDepth 65536 in
theorem w_hears : about1.hears theMethod below0 = true := by decide +kernel
set_option maxRecDepth 65536 in
theorem w_ripe : about1.ripe theMethod args0 below0 = true := by decide +kernel
theorem w_running : about1.status = .running := rfl
set_option maxRecDepth 65536 in
theorem w_room : about1.hasRoom e0.platform room_1 = true :=
  launch0.hasRoom_least _ room_1 (by decide +kernel) (by decide +kernel) (by decide +kernel) (by decide +kernel) (by decide +kernel) (by decide +kernel)
theorem allAtoms_all (ts : List Jvm.Cond) (a : Array Jvm.Value) (st : Jvm.State) : (allAtoms ts).before a st = ts.all (fun c => c.before a st) := by
  induction ts with
  | nil => rfl
  | cons c t ih =>
    show (Jvm.Cond.and c (allAtoms t)).before a st = _
    rw [Jvm.Cond.before_and, ih, List.all_cons]
def words1 : List Jvm.Cond := Jvm.Cond.code x code maxLocals ret :: tables_1
/-- a 'code' word, met by the world's own term for the bytes: nothing is compared byte by byte -/
theorem code_word {y : MethodName} {bytes : ByteArray} {mx : Nat} {rt : Option FieldType} {a : Array Value} {s : State} {m : MethodId} {meth : Method} {c : Code} (h1 : s.methodNamed? y = some m) (h2 : s.vm.method? m = some meth) (h3 : meth.code = some c) (h4 : c.code = bytes)
    (h5 : (c.maxLocals == mx && c.exceptionTable.isEmpty && decide (c.maxStack ≤ mostOperands) && decide (meth.sig.returnType = rt) && !meth.locks && decide (parseMethodDescriptor y.desc = some meth.sig)) = true) : (Jvm.Cond.code y bytes mx rt).before a s = true := by
  simp only [Bool.and_eq_true, beq_iff_eq, Bool.not_eq_true', decide_eq_true_eq] at h5
  obtain ⟨⟨⟨⟨⟨g1, g2⟩, g3⟩, g4⟩, g5⟩, g6⟩ := h5
  simp [Cond.before, Cond.holds, Cond.value, h1, h2, h3, h4, g1, g2, g3, g4, g5, g6]
def isCode : Jvm.Cond → Bool
  | .code _ _ _ _ => true
  | _ => false
theorem all_split {L : List Jvm.Cond} {P : Jvm.Cond → Bool} (h1 : L.all (fun c => isCode c || P c) = true) (h2 : ∀ c ∈ L.filter isCode, P c = true) : L.all P = true := by
  refine List.all_eq_true.mpr fun c hc => ?_
  have h := List.all_eq_true.mp h1 c hc
  rcases Bool.eq_false_or_eq_true (isCode c) with hi | hi
  · exact h2 c (List.mem_filter.mpr ⟨hc, hi⟩)
  · simpa [hi] using h
set_option maxRecDepth 65536 in
theorem w_c0 : (Jvm.Cond.code x code maxLocals ret).before args0 about1 = true := code_word (m := ⟨1, 1⟩) (meth := k1m1) (c := k1c1) (by decide +kernel) rfl rfl rfl (by decide +kernel)
set_option maxRecDepth 65536 in
theorem w_c1 : (Jvm.Cond.code ({ cls := "java/lang/String", name := "charAt", desc := "(I)C" } : Jvm.MethodName) jdk_42_method_56_code (2 : Nat) (Option.some Jvm.ClassFile.FieldType.char)).before args0 about1 = true := code_word (m := ⟨7, 1⟩) (meth := k7m1) (c := k7c1) (by decide +kernel) rfl rfl rfl (by decide +kernel)
set_option maxRecDepth 65536 in
theorem w_c2 : (Jvm.Cond.code ({ cls := "java/lang/String", name := "isLatin1", desc := "()Z" } : Jvm.MethodName) jdk_42_method_154_code (1 : Nat) (Option.some Jvm.ClassFile.FieldType.boolean)).before args0 about1 = true := code_word (m := ⟨7, 2⟩) (meth := k7m2) (c := k7c2) (by decide +kernel) rfl rfl rfl (by decide +kernel)
set_option maxRecDepth 65536 in
theorem w_c3 : (Jvm.Cond.code ({ cls := "java/lang/StringLatin1", name := "charAt", desc := "([BI)C" } : Jvm.MethodName) jdk_43_method_2_code (2 : Nat) (Option.some Jvm.ClassFile.FieldType.char)).before args0 about1 = true := code_word (m := ⟨8, 1⟩) (meth := k8m1) (c := k8c1) (by decide +kernel) rfl rfl rfl (by decide +kernel)
set_option maxRecDepth 65536 in
theorem w_c4 : (Jvm.Cond.code ({ cls := "java/lang/String", name := "checkIndex", desc := "(II)V" } : Jvm.MethodName) jdk_42_method_155_code (2 : Nat) (Option.none : Option Jvm.ClassFile.FieldType)).before args0 about1 = true := code_word (m := ⟨7, 3⟩) (meth := k7m3) (c := k7c3) (by decide +kernel) rfl rfl rfl (by decide +kernel)
set_option maxRecDepth 65536 in
theorem w_c5 : (Jvm.Cond.code ({ cls := "jdk/internal/util/Preconditions", name := "checkIndex", desc := "(IILjava/util/function/BiFunction;)I" } : Jvm.MethodName) jdk_41_method_11_code (3 : Nat) (Option.some Jvm.ClassFile.FieldType.int)).before args0 about1 = true := code_word (m := ⟨9, 1⟩) (meth := k9m1) (c := k9c1) (by decide +kernel) rfl rfl rfl (by decide +kernel)
set_option maxRecDepth 65536 in
theorem w_c6 : (Jvm.Cond.code ({ cls := "com/example/fouille/fouille/rdf/NTriplesParser", name := "hexValue", desc := "(C)I" } : Jvm.MethodName) prog_28_method_26_code (2 : Nat) (Option.some Jvm.ClassFile.FieldType.int)).before args0 about1 = true := code_word (m := ⟨12, 1⟩) (meth := k12m1) (c := k12c1) (by decide +kernel) rfl rfl rfl (by decide +kernel)
set_option maxRecDepth 65536 in
theorem w_c7 : (Jvm.Cond.code ({ cls := "com/example/fouille/fouille/rdf/NTriplesParser", name := "isDigit", desc := "(I)Z" } : Jvm.MethodName) prog_28_method_25_code (1 : Nat) (Option.some Jvm.ClassFile.FieldType.boolean)).before args0 about1 = true := code_word (m := ⟨12, 0⟩) (meth := k12m0) (c := k12c0) (by decide +kernel) rfl rfl rfl (by decide +kernel)
def codes1 : List Jvm.Cond := [Jvm.Cond.code x code maxLocals ret, Jvm.Cond.code ({ cls := "java/lang/String", name := "charAt", desc := "(I)C" } : Jvm.MethodName) jdk_42_method_56_code (2 : Nat) (Option.some Jvm.ClassFile.FieldType.char), Jvm.Cond.code ({ cls := "java/lang/String", name := "isLatin1", desc := "()Z" } : Jvm.MethodName) jdk_42_method_154_code (1 : Nat) (Option.some Jvm.ClassFile.FieldType.boolean), Jvm.Cond.code ({ cls := "java/lang/StringLatin1", name := "charAt", desc := "([BI)C" } : Jvm.MethodName) jdk_43_method_2_code (2 : Nat) (Option.some Jvm.ClassFile.FieldType.char), Jvm.Cond.code ({ cls := "java/lang/String", name := "checkIndex", desc := "(II)V" } : Jvm.MethodName) jdk_42_method_155_code (2 : Nat) (Option.none : Option Jvm.ClassFile.FieldType), Jvm.Cond.code ({ cls := "jdk/internal/util/Preconditions", name := "checkIndex", desc := "(IILjava/util/function/BiFunction;)I" } : Jvm.MethodName) jdk_41_method_11_code (3 : Nat) (Option.some Jvm.ClassFile.FieldType.int), Jvm.Cond.code ({ cls := "com/example/fouille/fouille/rdf/NTriplesParser", name := "hexValue", desc := "(C)I" } : Jvm.MethodName) prog_28_method_26_code (2 : Nat) (Option.some Jvm.ClassFile.FieldType.int), Jvm.Cond.code ({ cls := "com/example/fouille/fouille/rdf/NTriplesParser", name := "isDigit", desc := "(I)Z" } : Jvm.MethodName) prog_28_method_25_code (1 : Nat) (Option.some Jvm.ClassFile.FieldType.boolean)]
set_option maxRecDepth 65536 in
theorem codes_eq : words1.filter isCode = codes1 := rfl
theorem w_codes : ∀ c ∈ words1.filter isCode, c.before args0 about1 = true := by
  rw [codes_eq]
  intro c hc
  simp only [codes1, List.mem_cons, List.not_mem_nil, or_false] at hc
  rcases hc with rfl | rfl | rfl | rfl | rfl | rfl | rfl | rfl
  · exact w_c0
  · exact w_c1
  · exact w_c2
  · exact w_c3
  · exact w_c4
  · exact w_c5
  · exact w_c6
  · exact w_c7
set_option maxRecDepth 65536 in
theorem w_t1 : (words1.take 24).all (fun c => isCode c || c.before args0 about1) = true := by decide +kernel
set_option maxRecDepth 65536 in
theorem w_t2 : (words1.drop 24).all (fun c => isCode c || c.before args0 about1) = true := by decide +kernel
theorem w_tables : (allAtoms (Jvm.Cond.code x code maxLocals ret :: tables_1)).before args0 about1 = true := by
  rw [allAtoms_all]
  show words1.all (fun c => c.before args0 about1) = true
  refine all_split ?_ w_codes
  rw [← List.take_append_drop 24 words1, List.all_append, w_t1, w_t2]
  rfl
set_option maxRecDepth 65536 in
theorem w_rest : rest_1_c.before args0 about1 = true := by decide +kernel
set_option maxRecDepth 65536 in
theorem w_case : (Jvm.Cond.and given_1 narrow_1).before args0 about1 = true := by decide +kernel
set_option maxRecDepth 65536 in
theorem w_consts : constsHeld consts_1 about1 := Jvm.Lit.constsHeldB_iff.mp (by decide +kernel)
theorem w_applies : (headSpec (Jvm.Cond.code x code maxLocals ret :: tables_1) room_1).applies x e0.platform about1 = true :=
  (Spec.applies_iff w_frames).mpr ⟨w_running, w_runnable, w_alone, w_named, w_hears, w_ripe, w_room, w_tables⟩
theorem atStart : AtStart classFile x code maxLocals ret World_1 tables_1 room_1 Calls_1 rest_1 Pre_1 launch0 p0 e0 about1 theMethod args0 below0 :=
  ⟨lists_1, trivial, launch0.admits_env _ _ _, launch0.least_env, fairChoices_fair.cas, fairChoices_fair.clock, w_frames, w_args, w_heap, w_applies, ⟨w_consts, trivial⟩, w_rest, w_case⟩
end start1
theorem witness_1 : WitnessClaimed_1 := ⟨start1.p0, start1.e0, start1.about1, start1.theMethod, start1.args0, start1.below0, start1.atStart⟩
end Jvm.Pilot.@@N@@
