import JvmDerived
import JvmDerived.Pilot.@@N@@Statement
import JvmDerived.Pilot.@@N@@Code
set_option linter.unusedVariables false
set_option linter.unusedSimpArgs false
namespace Jvm.Pilot.@@N@@
open Jvm Jvm.ClassFile Sem Op Lib Jvm.Free Jvm.Stand Jvm.LawKit Jvm.RoadKit Bundle Jvm.Pilot.@@N@@.Jvm.D
section OwnKit
variable {p : Program} {l : Launch} {e : Env} {R : Room} {s : State} {m : MethodId} {args : Array Value} {below : List Frame} {meth : Method} {c : Code} {T : State} {locs : List Loc} {cells slots : Nat}
/-- from T the run comes to an end of which F holds -/
def own_Go (p : Program) (e : Env) (below : List Frame) (F : State → Outcome → Prop) (T : State) : Prop := ∃ t o, Steps p.tables e below T t ∧ t.status = .running ∧ Ended t below o ∧ F t o
theorem own_step {F : State → Outcome → Prop} {A B : State} (k : ∀ t, Steps p.tables e below A t → Steps p.tables e below B t) (h : own_Go p e below F A) : own_Go p e below F B := by
  obtain ⟨t, o, h1, h2⟩ := h
  exact ⟨t, o, k t h1, h2⟩
theorem own_in {F : State → Outcome → Prop} {A B : State} (k : ∀ {t}, Steps p.tables e below A t → Steps p.tables e below B t) (h : own_Go p e below F A) : ∃ t o, Steps p.tables e below B t ∧ t.status = .running ∧ Ended t below o ∧ F t o := by
  obtain ⟨t, o, h1, h2⟩ := h
  exact ⟨t, o, k h1, h2⟩
theorem own_retI (X : Stand p l e R s m args below meth c T locs cells slots) (hx : p.tables.exec = Jvm.exec) {pc : Nat} {Ls : Array Slot} {z : Int32} {rest : List Value} (hret : meth.sig.returnType = some .int) (hd : decode c.code pc = .ok (.ireturn, 1)) {fs : List Frame}
    (hl : ∀ (f : JFrame) (acts : List Action), f.method = m → f.locked = none → f.entered = [] → (doReturn e (T.setTop f) acts (some (.int z))).1 = T.setFrames fs) : Steps p.tables e below (T.setTop (mkF m pc Ls (.int z :: rest))) (T.setFrames fs) :=
  retOut X hx hret rfl (Or.inl ⟨rfl, Or.inl rfl, _, rfl⟩) hd hl
theorem own_join {α : Type} {F : State → Outcome → Prop} {B : State} {H : Heap} (X : Stand p l e R s m args below meth c T locs cells slots) (eT : T.heap = H) (A : State → α → State) (Pr : α → Prop)
    (h1 : ∀ T' a, Stand p l e R s m args below meth c T' locs cells slots → T'.heap = H → Pr a → own_Go p e below F (A T' a))
    (h2 : (∀ T' a, Stand p l e R s m args below meth c T' locs cells slots → T'.heap = H → Pr a → own_Go p e below F (A T' a)) → own_Go p e below F B) : own_Go p e below F B := h2 h1
theorem own_sta {args : Array Value} {s : State} {C n d K : String} (h : (Jvm.Cond.exactly (.static C n d) K).value args s none s [] = some true) (w1 : (Jvm.Cond.initialized C).before args s = true) (w2 : (Jvm.Cond.laysStatic C n d).before args s = true) :
    ∃ a, (Term.static C n d).eval args s none [] s = some (.ref a) ∧ Sta s s.heap C n d (.ref a) ∧ Exa s s.heap a K := by
  obtain ⟨a, ea⟩ := exa_v h
  exact ⟨a, ea, Sta.start ea (Or.inr ⟨w1, w2⟩), Exa.start ea h⟩
theorem own_staF {args : Array Value} {s : State} {t : Term} {C n d : String} {a : Addr} {k : Int32} (ea : t.eval args s none [] s = some (.ref a)) (h : (Jvm.Cond.eq (.field t C n d) (.int k)).value args s none s [] = some true) : Fld s s.heap a C n d (.int k) := by
  obtain ⟨x, y, e1, e2, -, -⟩ := cmp_v (Or.inl h)
  cases (Term.int_eval k).symm.trans e2
  have e3 : x = .int k := by
    cases x <;> simp [Cond.value, e1, Term.int_eval] at h
    rw [h]
  rw [fld_at ea, e3] at e1
  exact Fld.start e1
end OwnKit
theorem pn_0 : plainName "com/example/failpath/failpath/Match" = true := by first | (simp [plainName, overriddenIn]; done) | decide +kernel
theorem pn_1 : plainName "com/example/failpath/failpath/MatchHashCodePinLaw" = true := by first | (simp [plainName, overriddenIn]; done) | decide +kernel
theorem pd_0 : parseMethodDescriptor "(III)V" = some ⟨[.int, .int, .int], none⟩ := by decide +kernel
theorem pd_1 : parseMethodDescriptor "()I" = some ⟨[], some .int⟩ := by decide +kernel
theorem pd_2 : parseMethodDescriptor "(Ljava/lang/Object;)Z" = some ⟨[(.object "java/lang/Object")], some .boolean⟩ := by decide +kernel
theorem d2_0 : decode prog_11_method_1_code 0 = .ok (.aload_n 0, 1) := by decide +kernel
theorem d2_1 : decode prog_11_method_1_code 1 = .ok (.invokespecial 1, 3) := by decide +kernel
theorem d2_4 : decode prog_11_method_1_code 4 = .ok (.aload_n 0, 1) := by decide +kernel
theorem d2_5 : decode prog_11_method_1_code 5 = .ok (.iload_n 1, 1) := by decide +kernel
theorem d2_6 : decode prog_11_method_1_code 6 = .ok (.putfield 7, 3) := by decide +kernel
theorem d2_9 : decode prog_11_method_1_code 9 = .ok (.aload_n 0, 1) := by decide +kernel
theorem d2_10 : decode prog_11_method_1_code 10 = .ok (.iload_n 2, 1) := by decide +kernel
theorem d2_11 : decode prog_11_method_1_code 11 = .ok (.putfield 13, 3) := by decide +kernel
theorem d2_14 : decode prog_11_method_1_code 14 = .ok (.aload_n 0, 1) := by decide +kernel
theorem d2_15 : decode prog_11_method_1_code 15 = .ok (.iload_n 3, 1) := by decide +kernel
theorem d2_16 : decode prog_11_method_1_code 16 = .ok (.putfield 16, 3) := by decide +kernel
theorem d2_19 : decode prog_11_method_1_code 19 = .ok (.return_, 1) := by decide +kernel
theorem ef_2 (m : MethodId) (a : Addr) (ps : Int32) (pe : Int32) (pp : Int32) : entryFrame m #[(.ref a), (.int ps), (.int pe), (.int pp)] 4 = mkF m 0 #[.val (.ref a), .val (.int ps), .val (.int pe), .val (.int pp)] [] := by first | (simp [entryFrame, mkF, argsToLocals, Value.category]; done) | rfl
def Q2 (Z : State) (a : Addr) (ps : Int32) (pe : Int32) (pp : Int32) (h0 : Heap) (n0 : Nat) (v : Option Value) (h : Heap) (L : List Loc) : Prop := v = none ∧ Fr n0 L ∧ Keep h0 h [a] ∧ (Exa Z h a "com/example/failpath/failpath/Match") ∧ (Fld Z h a "com/example/failpath/failpath/Match" "start" "I" (.int ps)) ∧ (Fld Z h a "com/example/failpath/failpath/Match" "end" "I" (.int pe)) ∧ (Fld Z h a "com/example/failpath/failpath/Match" "patternIndex" "I" (.int pp))
set_option maxRecDepth 65536 in
set_option maxHeartbeats 40000000 in
theorem rm2 (l : Launch) (Z : State) (a0 : Array Value) (hw : ∀ d ∈ tables_1, d.before a0 Z = true) (ws : List Jvm.Cond) (a : Addr) (ps : Int32) (pe : Int32) (pp : Int32) (h0 : Heap) (n0 : Nat) (Z0 : n0 ≤ h0.size) (P0 : Exa Z h0 a "com/example/failpath/failpath/Match") (P1 : Fld Z h0 a "com/example/failpath/failpath/Match" "start" "I" (.int (0 : Int32))) (P2 : Fld Z h0 a "com/example/failpath/failpath/Match" "end" "I" (.int (0 : Int32))) (P3 : Fld Z h0 a "com/example/failpath/failpath/Match" "patternIndex" "I" (.int (0 : Int32))) (P4 : n0 ≤ a) :
    MetFree l (⟨"com/example/failpath/failpath/Match", "<init>", "(III)V"⟩ : MethodName) (head1 (Jvm.Cond.code (⟨"com/example/failpath/failpath/Match", "<init>", "(III)V"⟩ : MethodName) prog_11_method_1_code 4 none :: ws) ({ frames := 1, cells := 0, slots := 0, locals := 12 } : Room)) (fun ar_ U => ar_ = #[(.ref a), (.int ps), (.int pe), (.int pp)] ∧ Z.Warmed39 U.vm ∧ U.heap = h0) (fun _ _ _ _ _ => True) (fun _ U oo_ U' => ∃ v L, oo_ = .returned v ∧ Q2 Z a ps pe pp  h0 n0 v U'.heap L ∧ FrameEnd U oo_ U' L ({ frames := 1, cells := 0, slots := 0, locals := 12 } : Room).cells ({ frames := 1, cells := 0, slots := 0, locals := 12 } : Room).slots) := by
  refine MetFree.of_bodySF (plainFor_of_name pn_0) hisR ?_
  intro p e s m args below meth c s₁ Bd hml0 hP hK
  obtain ⟨rfl, hZ, hh⟩ := hP
  have hx := Bd.exec
  have hby := Bd.bytes
  have hml : c.maxLocals = 4 := hml0
  have hown : s.vm.findClass "com/example/failpath/failpath/Match" = some m.cls := findClass_of_methodNamed Bd.named
  have hnm := (name_of_methodNamed Bd.named Bd.method).1
  have X0 : Stand p l e ({ frames := 1, cells := 0, slots := 0, locals := 12 } : Room) s m #[(.ref a), (.int ps), (.int pe), (.int pp)] below meth c s₁ [] 0 0 := Stand.of_body Bd
  have e0 : s₁.heap = h0 := by rw [← hh, Bd.state]; rfl
  have N0 := Fr.nil n0
  refine own_in (castTop (ef_2 m a ps pe pp)) ?_
  show own_Go _ _ _ _ (s₁.setTop (mkF m 0 #[.val (.ref a), .val (.int ps), .val (.int pe), .val (.int pp)] []))
  refine own_step (fun _ κ => XS.aloadN X0.here hx rfl (hb hby d2_0) rfl rfl κ) ?_
  show own_Go _ _ _ _ (s₁.setTop (mkF m 1 #[.val (.ref a), .val (.int ps), .val (.int pe), .val (.int pp)] [(.ref a)]))
  obtain ⟨T1, X1, e1, st1⟩ := initO X0 hx hZ hown (hw _ (List.mem_of_getElem? (i := 6) rfl)) (hw _ (List.mem_of_getElem? (i := 7) rfl)) (hw _ (List.mem_of_getElem? (i := 8) rfl)) e0 (g := (mkF m 1 #[.val (.ref a), .val (.int ps), .val (.int pe), .val (.int pp)] [(.ref a)])) rfl (by rw [hml]; rfl) rfl (hb hby d2_1) (by decide) (W := 0) (by show 2 * 0 + _ ≤ _; exact Nat.le_of_eq rfl) (by decide)
  refine own_step st1 ?_
  show own_Go _ _ _ _ (T1.setTop (mkF m 4 #[.val (.ref a), .val (.int ps), .val (.int pe), .val (.int pp)] []))
  refine own_step (fun _ κ => XS.aloadN X1.here hx rfl (hb hby d2_4) rfl rfl κ) ?_
  show own_Go _ _ _ _ (T1.setTop (mkF m 5 #[.val (.ref a), .val (.int ps), .val (.int pe), .val (.int pp)] [(.ref a)]))
  refine own_step (fun _ κ => XS.iloadN X1.here hx rfl (hb hby d2_5) rfl κ) ?_
  show own_Go _ _ _ _ (T1.setTop (mkF m 6 #[.val (.ref a), .val (.int ps), .val (.int pe), .val (.int pp)] [(.int ps), (.ref a)]))
  obtain ⟨T2, h2, X2, e2, W2, st2⟩ := putF X1 hx hZ hown (host := "") (Or.inl (hw _ (List.mem_of_getElem? (i := 9) rfl))) Via.refl e1 P1 P0 (Or.inr ⟨(hw _ (List.mem_of_getElem? (i := 10) rfl)), rfl, hnm⟩) (hw _ (List.mem_of_getElem? (i := 1) rfl)) (ty := .int) (by decide) rfl rfl (g := (mkF m 6 #[.val (.ref a), .val (.int ps), .val (.int pe), .val (.int pp)] [(.int ps), (.ref a)])) rfl rfl (hb hby d2_6)
  refine own_step st2 ?_
  have N2 := Fr.snoc X2 N0 P4
  have Fw2 := P1.same W2
  have f3 := P0.wr W2
  have f4 := P2.other W2 (Or.inr (slot_ne (Or.inr (hw _ (List.mem_of_getElem? (i := 12) rfl))) (Or.inr (hw _ (List.mem_of_getElem? (i := 10) rfl))) (by decide) (t := .int) (t' := .int) (by decide) (by decide)))
  have f5 := P3.other W2 (Or.inr (slot_ne (Or.inr (hw _ (List.mem_of_getElem? (i := 14) rfl))) (Or.inr (hw _ (List.mem_of_getElem? (i := 10) rfl))) (by decide) (t := .int) (t' := .int) (by decide) (by decide)))
  have K6 : Keep h0 h2 [a] := (Keep.refl h0 [a]).wr W2 (Or.inl (List.mem_of_getElem? (i := 0) rfl))
  have z7 : n0 ≤ h2.size := Nat.le_trans Z0 (Keep.of_wr W2).1
  show own_Go _ _ _ _ (T2.setTop (mkF m 9 #[.val (.ref a), .val (.int ps), .val (.int pe), .val (.int pp)] []))
  refine own_step (fun _ κ => XS.aloadN X2.here hx rfl (hb hby d2_9) rfl rfl κ) ?_
  show own_Go _ _ _ _ (T2.setTop (mkF m 10 #[.val (.ref a), .val (.int ps), .val (.int pe), .val (.int pp)] [(.ref a)]))
  refine own_step (fun _ κ => XS.iloadN X2.here hx rfl (hb hby d2_10) rfl κ) ?_
  show own_Go _ _ _ _ (T2.setTop (mkF m 11 #[.val (.ref a), .val (.int ps), .val (.int pe), .val (.int pp)] [(.int pe), (.ref a)]))
  obtain ⟨T8, h8, X8, e8, W8, st8⟩ := putF X2 hx hZ hown (host := "") (Or.inl (hw _ (List.mem_of_getElem? (i := 11) rfl))) Via.refl e2 f4 f3 (Or.inr ⟨(hw _ (List.mem_of_getElem? (i := 12) rfl)), rfl, hnm⟩) (hw _ (List.mem_of_getElem? (i := 1) rfl)) (ty := .int) (by decide) rfl rfl (g := (mkF m 11 #[.val (.ref a), .val (.int ps), .val (.int pe), .val (.int pp)] [(.int pe), (.ref a)])) rfl rfl (hb hby d2_11)
  refine own_step st8 ?_
  have N8 := Fr.snoc X8 N2 P4
  have Fw8 := f4.same W8
  have f9 := f3.wr W8
  have f10 := f5.other W8 (Or.inr (slot_ne (Or.inr (hw _ (List.mem_of_getElem? (i := 14) rfl))) (Or.inr (hw _ (List.mem_of_getElem? (i := 12) rfl))) (by decide) (t := .int) (t' := .int) (by decide) (by decide)))
  have f11 := Fw2.other W8 (Or.inr (slot_ne (Or.inr (hw _ (List.mem_of_getElem? (i := 10) rfl))) (Or.inr (hw _ (List.mem_of_getElem? (i := 12) rfl))) (by decide) (t := .int) (t' := .int) (by decide) (by decide)))
  have K12 : Keep h0 h8 [a] := K6.wr W8 (Or.inl (List.mem_of_getElem? (i := 0) rfl))
  have z13 : n0 ≤ h8.size := Nat.le_trans z7 (Keep.of_wr W8).1
  show own_Go _ _ _ _ (T8.setTop (mkF m 14 #[.val (.ref a), .val (.int ps), .val (.int pe), .val (.int pp)] []))
  refine own_step (fun _ κ => XS.aloadN X8.here hx rfl (hb hby d2_14) rfl rfl κ) ?_
  show own_Go _ _ _ _ (T8.setTop (mkF m 15 #[.val (.ref a), .val (.int ps), .val (.int pe), .val (.int pp)] [(.ref a)]))
  refine own_step (fun _ κ => XS.iloadN X8.here hx rfl (hb hby d2_15) rfl κ) ?_
  show own_Go _ _ _ _ (T8.setTop (mkF m 16 #[.val (.ref a), .val (.int ps), .val (.int pe), .val (.int pp)] [(.int pp), (.ref a)]))
  obtain ⟨T14, h14, X14, e14, W14, st14⟩ := putF X8 hx hZ hown (host := "") (Or.inl (hw _ (List.mem_of_getElem? (i := 13) rfl))) Via.refl e8 f10 f9 (Or.inr ⟨(hw _ (List.mem_of_getElem? (i := 14) rfl)), rfl, hnm⟩) (hw _ (List.mem_of_getElem? (i := 1) rfl)) (ty := .int) (by decide) rfl rfl (g := (mkF m 16 #[.val (.ref a), .val (.int ps), .val (.int pe), .val (.int pp)] [(.int pp), (.ref a)])) rfl rfl (hb hby d2_16)
  refine own_step st14 ?_
  have N14 := Fr.snoc X14 N8 P4
  have Fw14 := f10.same W14
  have f15 := f9.wr W14
  have f16 := f11.other W14 (Or.inr (slot_ne (Or.inr (hw _ (List.mem_of_getElem? (i := 10) rfl))) (Or.inr (hw _ (List.mem_of_getElem? (i := 14) rfl))) (by decide) (t := .int) (t' := .int) (by decide) (by decide)))
  have f17 := Fw8.other W14 (Or.inr (slot_ne (Or.inr (hw _ (List.mem_of_getElem? (i := 12) rfl))) (Or.inr (hw _ (List.mem_of_getElem? (i := 14) rfl))) (by decide) (t := .int) (t' := .int) (by decide) (by decide)))
  have K18 : Keep h0 h14 [a] := K12.wr W14 (Or.inl (List.mem_of_getElem? (i := 0) rfl))
  have z19 : n0 ≤ h14.size := Nat.le_trans z13 (Keep.of_wr W14).1
  show own_Go _ _ _ _ (T14.setTop (mkF m 19 #[.val (.ref a), .val (.int ps), .val (.int pe), .val (.int pp)] []))
  obtain ⟨fs, hr, hrun, hended, hW, hsame⟩ := X14.leave (v := none) (fun _ => rfl)
  refine ⟨_, _, X14.returnOut hx Bd.returns (hb hby d2_19) hr, hrun, hended, _, _, rfl, ?_, ⟨_, rfl⟩, hW, hsame.mono (by decide) (by decide)⟩
  show Q2 Z a ps pe pp  h0 n0 _ T14.heap _
  rw [e14]
  exact ⟨rfl, N14, K18, f15, f16, f17, Fw14⟩
theorem d3_0 : decode prog_11_method_6_code 0 = .ok (.aload_n 0, 1) := by decide +kernel
theorem d3_1 : decode prog_11_method_6_code 1 = .ok (.getfield 7, 3) := by decide +kernel
theorem d3_4 : decode prog_11_method_6_code 4 = .ok (.bipush 31, 2) := by decide +kernel
theorem d3_6 : decode prog_11_method_6_code 6 = .ok (.imul, 1) := by decide +kernel
theorem d3_7 : decode prog_11_method_6_code 7 = .ok (.aload_n 0, 1) := by decide +kernel
theorem d3_8 : decode prog_11_method_6_code 8 = .ok (.getfield 13, 3) := by decide +kernel
theorem d3_11 : decode prog_11_method_6_code 11 = .ok (.iadd, 1) := by decide +kernel
theorem d3_12 : decode prog_11_method_6_code 12 = .ok (.bipush 31, 2) := by decide +kernel
theorem d3_14 : decode prog_11_method_6_code 14 = .ok (.imul, 1) := by decide +kernel
theorem d3_15 : decode prog_11_method_6_code 15 = .ok (.aload_n 0, 1) := by decide +kernel
theorem d3_16 : decode prog_11_method_6_code 16 = .ok (.getfield 16, 3) := by decide +kernel
theorem d3_19 : decode prog_11_method_6_code 19 = .ok (.iadd, 1) := by decide +kernel
theorem d3_20 : decode prog_11_method_6_code 20 = .ok (.ireturn, 1) := by decide +kernel
theorem ef_3 (m : MethodId) (a : Addr) : entryFrame m #[(.ref a)] 1 = mkF m 0 #[.val (.ref a)] [] := by first | (simp [entryFrame, mkF, argsToLocals, Value.category]; done) | rfl
def Q3 (Z : State) (a : Addr) (sA : Int32) (eA : Int32) (xA : Int32) (h0 : Heap) (n0 : Nat) (v : Option Value) (h : Heap) (L : List Loc) : Prop := v = some (.int ((((sA * (31 : Int32)) + eA) * (31 : Int32)) + xA)) ∧ Fr n0 L ∧ h = h0
set_option maxRecDepth 65536 in
set_option maxHeartbeats 40000000 in
theorem rm3 (l : Launch) (Z : State) (a0 : Array Value) (hw : ∀ d ∈ tables_1, d.before a0 Z = true) (ws : List Jvm.Cond) (a : Addr) (sA : Int32) (eA : Int32) (xA : Int32) (h0 : Heap) (n0 : Nat) (Z0 : n0 ≤ h0.size) (P0 : Fld Z h0 a "com/example/failpath/failpath/Match" "start" "I" (.int sA)) (P1 : Fld Z h0 a "com/example/failpath/failpath/Match" "end" "I" (.int eA)) (P2 : Fld Z h0 a "com/example/failpath/failpath/Match" "patternIndex" "I" (.int xA)) :
    MetFree l (⟨"com/example/failpath/failpath/Match", "hashCode", "()I"⟩ : MethodName) (head1 (Jvm.Cond.code (⟨"com/example/failpath/failpath/Match", "hashCode", "()I"⟩ : MethodName) prog_11_method_6_code 1 (some .int) :: ws) ({ frames := 0, cells := 0, slots := 0, locals := 0 } : Room)) (fun ar_ U => ar_ = #[(.ref a)] ∧ Z.Warmed39 U.vm ∧ U.heap = h0) (fun _ _ _ _ _ => True) (fun _ U oo_ U' => ∃ v L, oo_ = .returned v ∧ Q3 Z a sA eA xA h0 n0 v U'.heap L ∧ FrameEnd U oo_ U' L ({ frames := 0, cells := 0, slots := 0, locals := 0 } : Room).cells ({ frames := 0, cells := 0, slots := 0, locals := 0 } : Room).slots) := by
  refine MetFree.of_bodySF (plainFor_of_name pn_0) hisR ?_
  intro p e s m args below meth c s₁ Bd hml0 hP hK
  obtain ⟨rfl, hZ, hh⟩ := hP
  have hx := Bd.exec
  have hby := Bd.bytes
  have hml : c.maxLocals = 1 := hml0
  have hown : s.vm.findClass "com/example/failpath/failpath/Match" = some m.cls := findClass_of_methodNamed Bd.named
  have hnm := (name_of_methodNamed Bd.named Bd.method).1
  have X0 : Stand p l e ({ frames := 0, cells := 0, slots := 0, locals := 0 } : Room) s m #[(.ref a)] below meth c s₁ [] 0 0 := Stand.of_body Bd
  have e0 : s₁.heap = h0 := by rw [← hh, Bd.state]; rfl
  have N0 := Fr.nil n0
  refine own_in (castTop (ef_3 m a)) ?_
  show own_Go _ _ _ _ (s₁.setTop (mkF m 0 #[.val (.ref a)] []))
  refine own_step (fun _ κ => XS.aloadN X0.here hx rfl (hb hby d3_0) rfl rfl κ) ?_
  show own_Go _ _ _ _ (s₁.setTop (mkF m 1 #[.val (.ref a)] [(.ref a)]))
  obtain ⟨T1, X1, e1, st1⟩ := getF X0 hx hZ hown (host := "") (Or.inl (hw _ (List.mem_of_getElem? (i := 9) rfl))) Via.refl e0 P0 (g := (mkF m 1 #[.val (.ref a)] [(.ref a)])) rfl rfl (hb hby d3_1)
  refine own_step st1 ?_
  show own_Go _ _ _ _ (T1.setTop (mkF m 4 #[.val (.ref a)] [(.int sA)]))
  refine own_step (fun _ κ => XS.bipush X1.here hx rfl (hb hby d3_4) κ) ?_
  show own_Go _ _ _ _ (T1.setTop (mkF m 6 #[.val (.ref a)] [(.int (31 : Int32)), (.int sA)]))
  refine own_step (fun _ κ => XS.imul X1.here hx rfl (hb hby d3_6) rfl κ) ?_
  show own_Go _ _ _ _ (T1.setTop (mkF m 7 #[.val (.ref a)] [(.int (sA * (31 : Int32)))]))
  refine own_step (fun _ κ => XS.aloadN X1.here hx rfl (hb hby d3_7) rfl rfl κ) ?_
  show own_Go _ _ _ _ (T1.setTop (mkF m 8 #[.val (.ref a)] [(.ref a), (.int (sA * (31 : Int32)))]))
  obtain ⟨T2, X2, e2, st2⟩ := getF X1 hx hZ hown (host := "") (Or.inl (hw _ (List.mem_of_getElem? (i := 11) rfl))) Via.refl e1 P1 (g := (mkF m 8 #[.val (.ref a)] [(.ref a), (.int (sA * (31 : Int32)))])) rfl rfl (hb hby d3_8)
  refine own_step st2 ?_
  show own_Go _ _ _ _ (T2.setTop (mkF m 11 #[.val (.ref a)] [(.int eA), (.int (sA * (31 : Int32)))]))
  refine own_step (fun _ κ => XS.iadd X2.here hx rfl (hb hby d3_11) rfl κ) ?_
  show own_Go _ _ _ _ (T2.setTop (mkF m 12 #[.val (.ref a)] [(.int ((sA * (31 : Int32)) + eA))]))
  refine own_step (fun _ κ => XS.bipush X2.here hx rfl (hb hby d3_12) κ) ?_
  show own_Go _ _ _ _ (T2.setTop (mkF m 14 #[.val (.ref a)] [(.int (31 : Int32)), (.int ((sA * (31 : Int32)) + eA))]))
  refine own_step (fun _ κ => XS.imul X2.here hx rfl (hb hby d3_14) rfl κ) ?_
  show own_Go _ _ _ _ (T2.setTop (mkF m 15 #[.val (.ref a)] [(.int (((sA * (31 : Int32)) + eA) * (31 : Int32)))]))
  refine own_step (fun _ κ => XS.aloadN X2.here hx rfl (hb hby d3_15) rfl rfl κ) ?_
  show own_Go _ _ _ _ (T2.setTop (mkF m 16 #[.val (.ref a)] [(.ref a), (.int (((sA * (31 : Int32)) + eA) * (31 : Int32)))]))
  obtain ⟨T3, X3, e3, st3⟩ := getF X2 hx hZ hown (host := "") (Or.inl (hw _ (List.mem_of_getElem? (i := 13) rfl))) Via.refl e2 P2 (g := (mkF m 16 #[.val (.ref a)] [(.ref a), (.int (((sA * (31 : Int32)) + eA) * (31 : Int32)))])) rfl rfl (hb hby d3_16)
  refine own_step st3 ?_
  show own_Go _ _ _ _ (T3.setTop (mkF m 19 #[.val (.ref a)] [(.int xA), (.int (((sA * (31 : Int32)) + eA) * (31 : Int32)))]))
  refine own_step (fun _ κ => XS.iadd X3.here hx rfl (hb hby d3_19) rfl κ) ?_
  show own_Go _ _ _ _ (T3.setTop (mkF m 20 #[.val (.ref a)] [(.int ((((sA * (31 : Int32)) + eA) * (31 : Int32)) + xA))]))
  obtain ⟨fs, hr, hrun, hended, hW, hsame⟩ := X3.leave (v := some (.int ((((sA * (31 : Int32)) + eA) * (31 : Int32)) + xA))) (fun h => by rw [Bd.returns] at h; cases h)
  refine ⟨_, _, own_retI X3 hx Bd.returns (hb hby d3_20) hr, hrun, hended, _, _, rfl, ?_, ⟨_, rfl⟩, hW, hsame.mono (by decide) (by decide)⟩
  show Q3 Z a sA eA xA h0 n0 _ T3.heap _
  rw [e3]
  exact ⟨rfl, N0, rfl⟩
theorem d4_0 : decode prog_11_method_5_code 0 = .ok (.aload_n 1, 1) := by decide +kernel
theorem d4_1 : decode prog_11_method_5_code 1 = .ok (.instanceof 8, 3) := by decide +kernel
theorem d4_4 : decode prog_11_method_5_code 4 = .ok (.ifCond .eq 45, 3) := by decide +kernel
theorem d4_7 : decode prog_11_method_5_code 7 = .ok (.aload_n 1, 1) := by decide +kernel
theorem d4_8 : decode prog_11_method_5_code 8 = .ok (.checkcast 8, 3) := by decide +kernel
theorem d4_11 : decode prog_11_method_5_code 11 = .ok (.astore_n 2, 1) := by decide +kernel
theorem d4_12 : decode prog_11_method_5_code 12 = .ok (.aload_n 0, 1) := by decide +kernel
theorem d4_13 : decode prog_11_method_5_code 13 = .ok (.getfield 7, 3) := by decide +kernel
theorem d4_16 : decode prog_11_method_5_code 16 = .ok (.aload_n 2, 1) := by decide +kernel
theorem d4_17 : decode prog_11_method_5_code 17 = .ok (.getfield 7, 3) := by decide +kernel
theorem d4_20 : decode prog_11_method_5_code 20 = .ok (.if_icmp .ne 29, 3) := by decide +kernel
theorem d4_23 : decode prog_11_method_5_code 23 = .ok (.aload_n 0, 1) := by decide +kernel
theorem d4_24 : decode prog_11_method_5_code 24 = .ok (.getfield 13, 3) := by decide +kernel
theorem d4_27 : decode prog_11_method_5_code 27 = .ok (.aload_n 2, 1) := by decide +kernel
theorem d4_28 : decode prog_11_method_5_code 28 = .ok (.getfield 13, 3) := by decide +kernel
theorem d4_31 : decode prog_11_method_5_code 31 = .ok (.if_icmp .ne 18, 3) := by decide +kernel
theorem d4_34 : decode prog_11_method_5_code 34 = .ok (.aload_n 0, 1) := by decide +kernel
theorem d4_35 : decode prog_11_method_5_code 35 = .ok (.getfield 16, 3) := by decide +kernel
theorem d4_38 : decode prog_11_method_5_code 38 = .ok (.aload_n 2, 1) := by decide +kernel
theorem d4_39 : decode prog_11_method_5_code 39 = .ok (.getfield 16, 3) := by decide +kernel
theorem d4_42 : decode prog_11_method_5_code 42 = .ok (.if_icmp .ne 7, 3) := by decide +kernel
theorem d4_45 : decode prog_11_method_5_code 45 = .ok (.iconst 1, 1) := by decide +kernel
theorem d4_46 : decode prog_11_method_5_code 46 = .ok (.goto 4, 3) := by decide +kernel
theorem d4_49 : decode prog_11_method_5_code 49 = .ok (.iconst 0, 1) := by decide +kernel
theorem d4_50 : decode prog_11_method_5_code 50 = .ok (.ireturn, 1) := by decide +kernel
theorem ef_4 (m : MethodId) (a : Addr) (o : Addr) : entryFrame m #[(.ref a), (.ref o)] 3 = mkF m 0 #[.val (.ref a), .val (.ref o), .unset] [] := by first | (simp [entryFrame, mkF, argsToLocals, Value.category]; done) | rfl
def Q4 (Z : State) (a : Addr) (o : Addr) (sA : Int32) (eA : Int32) (xA : Int32) (sB : Int32) (eB : Int32) (xB : Int32) (h0 : Heap) (n0 : Nat) (v : Option Value) (h : Heap) (L : List Loc) : Prop := v = some (.int (if sA = sB then (if eA = eB then (if xA = xB then (1 : Int32) else (0 : Int32)) else (0 : Int32)) else (0 : Int32))) ∧ Fr n0 L ∧ h = h0
set_option maxRecDepth 65536 in
set_option maxHeartbeats 40000000 in
theorem rm4 (l : Launch) (Z : State) (a0 : Array Value) (hw : ∀ d ∈ tables_1, d.before a0 Z = true) (ws : List Jvm.Cond) (a : Addr) (o : Addr) (sA : Int32) (eA : Int32) (xA : Int32) (sB : Int32) (eB : Int32) (xB : Int32) (h0 : Heap) (n0 : Nat) (Z0 : n0 ≤ h0.size) (P0 : Exa Z h0 o "com/example/failpath/failpath/Match") (P1 : Fld Z h0 a "com/example/failpath/failpath/Match" "start" "I" (.int sA)) (P2 : Fld Z h0 a "com/example/failpath/failpath/Match" "end" "I" (.int eA)) (P3 : Fld Z h0 a "com/example/failpath/failpath/Match" "patternIndex" "I" (.int xA)) (P4 : Fld Z h0 o "com/example/failpath/failpath/Match" "start" "I" (.int sB)) (P5 : Fld Z h0 o "com/example/failpath/failpath/Match" "end" "I" (.int eB)) (P6 : Fld Z h0 o "com/example/failpath/failpath/Match" "patternIndex" "I" (.int xB)) :
    MetFree l (⟨"com/example/failpath/failpath/Match", "equals", "(Ljava/lang/Object;)Z"⟩ : MethodName) (head1 (Jvm.Cond.code (⟨"com/example/failpath/failpath/Match", "equals", "(Ljava/lang/Object;)Z"⟩ : MethodName) prog_11_method_5_code 3 (some .boolean) :: ws) ({ frames := 0, cells := 0, slots := 0, locals := 0 } : Room)) (fun ar_ U => ar_ = #[(.ref a), (.ref o)] ∧ Z.Warmed39 U.vm ∧ U.heap = h0) (fun _ _ _ _ _ => True) (fun _ U oo_ U' => ∃ v L, oo_ = .returned v ∧ Q4 Z a o sA eA xA sB eB xB h0 n0 v U'.heap L ∧ FrameEnd U oo_ U' L ({ frames := 0, cells := 0, slots := 0, locals := 0 } : Room).cells ({ frames := 0, cells := 0, slots := 0, locals := 0 } : Room).slots) := by
  refine MetFree.of_bodySF (plainFor_of_name pn_0) hisR ?_
  intro p e s m args below meth c s₁ Bd hml0 hP hK
  obtain ⟨rfl, hZ, hh⟩ := hP
  have hx := Bd.exec
  have hby := Bd.bytes
  have hml : c.maxLocals = 3 := hml0
  have hown : s.vm.findClass "com/example/failpath/failpath/Match" = some m.cls := findClass_of_methodNamed Bd.named
  have hnm := (name_of_methodNamed Bd.named Bd.method).1
  have X0 : Stand p l e ({ frames := 0, cells := 0, slots := 0, locals := 0 } : Room) s m #[(.ref a), (.ref o)] below meth c s₁ [] 0 0 := Stand.of_body Bd
  have e0 : s₁.heap = h0 := by rw [← hh, Bd.state]; rfl
  have N0 := Fr.nil n0
  refine own_in (castTop (ef_4 m a o)) ?_
  show own_Go _ _ _ _ (s₁.setTop (mkF m 0 #[.val (.ref a), .val (.ref o), .unset] []))
  refine own_step (fun _ κ => XS.aloadN X0.here hx rfl (hb hby d4_0) rfl rfl κ) ?_
  show own_Go _ _ _ _ (s₁.setTop (mkF m 1 #[.val (.ref a), .val (.ref o), .unset] [(.ref o)]))
  obtain ⟨T1, X1, e1, st1⟩ := instY X0 hx hZ hown (hw _ (List.mem_of_getElem? (i := 25) rfl)) e0 (Ins.self P0) (g := (mkF m 1 #[.val (.ref a), .val (.ref o), .unset] [(.ref o)])) rfl rfl (hb hby d4_1)
  refine own_step st1 ?_
  show own_Go _ _ _ _ (T1.setTop (mkF m 4 #[.val (.ref a), .val (.ref o), .unset] [(.int (1 : Int32))]))
  refine own_step (fun _ κ => XS.ifNo X1.here hx rfl (hb hby d4_4) rfl ((if0 _ _).trans (feq (by decide)).1) κ) ?_
  show own_Go _ _ _ _ (T1.setTop (mkF m 7 #[.val (.ref a), .val (.ref o), .unset] []))
  refine own_step (fun _ κ => XS.aloadN X1.here hx rfl (hb hby d4_7) rfl rfl κ) ?_
  show own_Go _ _ _ _ (T1.setTop (mkF m 8 #[.val (.ref a), .val (.ref o), .unset] [(.ref o)]))
  obtain ⟨T2, X2, e2, st2⟩ := castY X1 hx hZ hown (hw _ (List.mem_of_getElem? (i := 25) rfl)) e1 (Ins.self P0) (g := (mkF m 8 #[.val (.ref a), .val (.ref o), .unset] [(.ref o)])) rfl rfl (hb hby d4_8)
  refine own_step st2 ?_
  show own_Go _ _ _ _ (T2.setTop (mkF m 11 #[.val (.ref a), .val (.ref o), .unset] [(.ref o)]))
  refine own_step (fun _ κ => XS.astoreN X2.here hx rfl (hb hby d4_11) rfl rfl (l' := #[.val (.ref a), .val (.ref o), .val (.ref o)]) rfl κ) ?_
  show own_Go _ _ _ _ (T2.setTop (mkF m 12 #[.val (.ref a), .val (.ref o), .val (.ref o)] []))
  refine own_step (fun _ κ => XS.aloadN X2.here hx rfl (hb hby d4_12) rfl rfl κ) ?_
  show own_Go _ _ _ _ (T2.setTop (mkF m 13 #[.val (.ref a), .val (.ref o), .val (.ref o)] [(.ref a)]))
  obtain ⟨T3, X3, e3, st3⟩ := getF X2 hx hZ hown (host := "") (Or.inl (hw _ (List.mem_of_getElem? (i := 9) rfl))) Via.refl e2 P1 (g := (mkF m 13 #[.val (.ref a), .val (.ref o), .val (.ref o)] [(.ref a)])) rfl rfl (hb hby d4_13)
  refine own_step st3 ?_
  show own_Go _ _ _ _ (T3.setTop (mkF m 16 #[.val (.ref a), .val (.ref o), .val (.ref o)] [(.int sA)]))
  refine own_step (fun _ κ => XS.aloadN X3.here hx rfl (hb hby d4_16) rfl rfl κ) ?_
  show own_Go _ _ _ _ (T3.setTop (mkF m 17 #[.val (.ref a), .val (.ref o), .val (.ref o)] [(.ref o), (.int sA)]))
  obtain ⟨T4, X4, e4, st4⟩ := getF X3 hx hZ hown (host := "") (Or.inl (hw _ (List.mem_of_getElem? (i := 9) rfl))) Via.refl e3 P4 (g := (mkF m 17 #[.val (.ref a), .val (.ref o), .val (.ref o)] [(.ref o), (.int sA)])) rfl rfl (hb hby d4_17)
  refine own_step st4 ?_
  show own_Go _ _ _ _ (T4.setTop (mkF m 20 #[.val (.ref a), .val (.ref o), .val (.ref o)] [(.int sB), (.int sA)]))
  by_cases hc5 : sA = sB
  · refine own_step (fun _ κ => XS.icmpNo X4.here hx rfl (hb hby d4_20) rfl (teq hc5).2 κ) ?_
    show own_Go _ _ _ _ (T4.setTop (mkF m 23 #[.val (.ref a), .val (.ref o), .val (.ref o)] []))
    refine own_step (fun _ κ => XS.aloadN X4.here hx rfl (hb hby d4_23) rfl rfl κ) ?_
    show own_Go _ _ _ _ (T4.setTop (mkF m 24 #[.val (.ref a), .val (.ref o), .val (.ref o)] [(.ref a)]))
    obtain ⟨T6, X6, e6, st6⟩ := getF X4 hx hZ hown (host := "") (Or.inl (hw _ (List.mem_of_getElem? (i := 11) rfl))) Via.refl e4 P2 (g := (mkF m 24 #[.val (.ref a), .val (.ref o), .val (.ref o)] [(.ref a)])) rfl rfl (hb hby d4_24)
    refine own_step st6 ?_
    show own_Go _ _ _ _ (T6.setTop (mkF m 27 #[.val (.ref a), .val (.ref o), .val (.ref o)] [(.int eA)]))
    refine own_step (fun _ κ => XS.aloadN X6.here hx rfl (hb hby d4_27) rfl rfl κ) ?_
    show own_Go _ _ _ _ (T6.setTop (mkF m 28 #[.val (.ref a), .val (.ref o), .val (.ref o)] [(.ref o), (.int eA)]))
    obtain ⟨T7, X7, e7, st7⟩ := getF X6 hx hZ hown (host := "") (Or.inl (hw _ (List.mem_of_getElem? (i := 11) rfl))) Via.refl e6 P5 (g := (mkF m 28 #[.val (.ref a), .val (.ref o), .val (.ref o)] [(.ref o), (.int eA)])) rfl rfl (hb hby d4_28)
    refine own_step st7 ?_
    show own_Go _ _ _ _ (T7.setTop (mkF m 31 #[.val (.ref a), .val (.ref o), .val (.ref o)] [(.int eB), (.int eA)]))
    by_cases hc8 : eA = eB
    · refine own_step (fun _ κ => XS.icmpNo X7.here hx rfl (hb hby d4_31) rfl (teq hc8).2 κ) ?_
      show own_Go _ _ _ _ (T7.setTop (mkF m 34 #[.val (.ref a), .val (.ref o), .val (.ref o)] []))
      refine own_step (fun _ κ => XS.aloadN X7.here hx rfl (hb hby d4_34) rfl rfl κ) ?_
      show own_Go _ _ _ _ (T7.setTop (mkF m 35 #[.val (.ref a), .val (.ref o), .val (.ref o)] [(.ref a)]))
      obtain ⟨T9, X9, e9, st9⟩ := getF X7 hx hZ hown (host := "") (Or.inl (hw _ (List.mem_of_getElem? (i := 13) rfl))) Via.refl e7 P3 (g := (mkF m 35 #[.val (.ref a), .val (.ref o), .val (.ref o)] [(.ref a)])) rfl rfl (hb hby d4_35)
      refine own_step st9 ?_
      show own_Go _ _ _ _ (T9.setTop (mkF m 38 #[.val (.ref a), .val (.ref o), .val (.ref o)] [(.int xA)]))
      refine own_step (fun _ κ => XS.aloadN X9.here hx rfl (hb hby d4_38) rfl rfl κ) ?_
      show own_Go _ _ _ _ (T9.setTop (mkF m 39 #[.val (.ref a), .val (.ref o), .val (.ref o)] [(.ref o), (.int xA)]))
      obtain ⟨T10, X10, e10, st10⟩ := getF X9 hx hZ hown (host := "") (Or.inl (hw _ (List.mem_of_getElem? (i := 13) rfl))) Via.refl e9 P6 (g := (mkF m 39 #[.val (.ref a), .val (.ref o), .val (.ref o)] [(.ref o), (.int xA)])) rfl rfl (hb hby d4_39)
      refine own_step st10 ?_
      show own_Go _ _ _ _ (T10.setTop (mkF m 42 #[.val (.ref a), .val (.ref o), .val (.ref o)] [(.int xB), (.int xA)]))
      by_cases hc11 : xA = xB
      · refine own_step (fun _ κ => XS.icmpNo X10.here hx rfl (hb hby d4_42) rfl (teq hc11).2 κ) ?_
        show own_Go _ _ _ _ (T10.setTop (mkF m 45 #[.val (.ref a), .val (.ref o), .val (.ref o)] []))
        refine own_step (fun _ κ => XS.iconst X10.here hx rfl (hb hby d4_45) κ) ?_
        show own_Go _ _ _ _ (T10.setTop (mkF m 46 #[.val (.ref a), .val (.ref o), .val (.ref o)] [(.int (1 : Int32))]))
        refine own_step (fun _ κ => XS.goto X10.here hx rfl (pc0 := 46) (pc' := 50) rfl (hb hby d4_46) (by decide) (by decide) κ) ?_
        show own_Go _ _ _ _ (T10.setTop (mkF m 50 #[.val (.ref a), .val (.ref o), .val (.ref o)] [(.int (1 : Int32))]))
        obtain ⟨fs, hr, hrun, hended, hW, hsame⟩ := X10.leave (v := some (.int (1 : Int32))) (fun h => by rw [Bd.returns] at h; cases h)
        refine ⟨_, _, retN X10 hx (t := .boolean) Bd.returns (by simp) (hb hby d4_50) hr, hrun, hended, _, _, rfl, ?_, ⟨_, rfl⟩, hW, hsame.mono (by decide) (by decide)⟩
        show Q4 Z a o sA eA xA sB eB xB h0 n0 _ T10.heap _
        rw [e10]
        exact ⟨(by rw [if_pos hc5, if_pos hc8, if_pos hc11]), N0, rfl⟩
      · refine own_step (fun _ κ => XS.icmpYes X10.here hx rfl (pc0 := 42) (pc' := 49) rfl (hb hby d4_42) rfl (feq hc11).2 (by decide) (by decide) κ) ?_
        show own_Go _ _ _ _ (T10.setTop (mkF m 49 #[.val (.ref a), .val (.ref o), .val (.ref o)] []))
        refine own_step (fun _ κ => XS.iconst X10.here hx rfl (hb hby d4_49) κ) ?_
        show own_Go _ _ _ _ (T10.setTop (mkF m 50 #[.val (.ref a), .val (.ref o), .val (.ref o)] [(.int (0 : Int32))]))
        obtain ⟨fs, hr, hrun, hended, hW, hsame⟩ := X10.leave (v := some (.int (0 : Int32))) (fun h => by rw [Bd.returns] at h; cases h)
        refine ⟨_, _, retN X10 hx (t := .boolean) Bd.returns (by simp) (hb hby d4_50) hr, hrun, hended, _, _, rfl, ?_, ⟨_, rfl⟩, hW, hsame.mono (by decide) (by decide)⟩
        show Q4 Z a o sA eA xA sB eB xB h0 n0 _ T10.heap _
        rw [e10]
        exact ⟨(by rw [if_pos hc5, if_pos hc8, if_neg hc11]), N0, rfl⟩
    · refine own_step (fun _ κ => XS.icmpYes X7.here hx rfl (pc0 := 31) (pc' := 49) rfl (hb hby d4_31) rfl (feq hc8).2 (by decide) (by decide) κ) ?_
      show own_Go _ _ _ _ (T7.setTop (mkF m 49 #[.val (.ref a), .val (.ref o), .val (.ref o)] []))
      refine own_step (fun _ κ => XS.iconst X7.here hx rfl (hb hby d4_49) κ) ?_
      show own_Go _ _ _ _ (T7.setTop (mkF m 50 #[.val (.ref a), .val (.ref o), .val (.ref o)] [(.int (0 : Int32))]))
      obtain ⟨fs, hr, hrun, hended, hW, hsame⟩ := X7.leave (v := some (.int (0 : Int32))) (fun h => by rw [Bd.returns] at h; cases h)
      refine ⟨_, _, retN X7 hx (t := .boolean) Bd.returns (by simp) (hb hby d4_50) hr, hrun, hended, _, _, rfl, ?_, ⟨_, rfl⟩, hW, hsame.mono (by decide) (by decide)⟩
      show Q4 Z a o sA eA xA sB eB xB h0 n0 _ T7.heap _
      rw [e7]
      exact ⟨(by rw [if_pos hc5, if_neg hc8]), N0, rfl⟩
  · refine own_step (fun _ κ => XS.icmpYes X4.here hx rfl (pc0 := 20) (pc' := 49) rfl (hb hby d4_20) rfl (feq hc5).2 (by decide) (by decide) κ) ?_
    show own_Go _ _ _ _ (T4.setTop (mkF m 49 #[.val (.ref a), .val (.ref o), .val (.ref o)] []))
    refine own_step (fun _ κ => XS.iconst X4.here hx rfl (hb hby d4_49) κ) ?_
    show own_Go _ _ _ _ (T4.setTop (mkF m 50 #[.val (.ref a), .val (.ref o), .val (.ref o)] [(.int (0 : Int32))]))
    obtain ⟨fs, hr, hrun, hended, hW, hsame⟩ := X4.leave (v := some (.int (0 : Int32))) (fun h => by rw [Bd.returns] at h; cases h)
    refine ⟨_, _, retN X4 hx (t := .boolean) Bd.returns (by simp) (hb hby d4_50) hr, hrun, hended, _, _, rfl, ?_, ⟨_, rfl⟩, hW, hsame.mono (by decide) (by decide)⟩
    show Q4 Z a o sA eA xA sB eB xB h0 n0 _ T4.heap _
    rw [e4]
    exact ⟨(by rw [if_neg hc5]), N0, rfl⟩
theorem ef_0 (m : MethodId) (ps : Int32) (pe : Int32) (pp : Int32) (fg : Int32) : entryFrame m #[(.int ps), (.int pe), (.int pp), (.int fg)] maxLocals = mkF m 0 #[.val (.int ps), .val (.int pe), .val (.int pp), .val (.int fg), .unset, .unset, .unset, .unset, .unset, .unset, .unset, .unset, .unset] [] := by first | (simp [entryFrame, mkF, argsToLocals, Value.category, maxLocals]; done) | rfl
def Q0 (Z : State) (ps : Int32) (pe : Int32) (pp : Int32) (fg : Int32) (h0 : Heap) (n0 : Nat) (v : Option Value) (h : Heap) (L : List Loc) : Prop := v = some (.int (1 : Int32)) ∧ Fr n0 L
set_option maxRecDepth 65536 in
set_option maxHeartbeats 40000000 in
theorem rm0 (l : Launch) (Z : State) (a0 : Array Value) (hw : ∀ d ∈ tables_1, d.before a0 Z = true) (ws : List Jvm.Cond) (ps : Int32) (pe : Int32) (pp : Int32) (fg : Int32) (h0 : Heap) (n0 : Nat) (Z0 : n0 ≤ h0.size)  :
    MetFree l x (head1 (Jvm.Cond.code x code maxLocals ret :: ws) room_1) (fun ar_ U => ar_ = #[(.int ps), (.int pe), (.int pp), (.int fg)] ∧ Z.Warmed39 U.vm ∧ U.heap = h0) (fun _ _ _ _ _ => True) (fun _ U oo_ U' => ∃ v L, oo_ = .returned v ∧ Q0 Z ps pe pp fg  h0 n0 v U'.heap L ∧ FrameEnd U oo_ U' L room_1.cells room_1.slots) := by
  refine MetFree.of_bodySF (plainFor_of_name pn_1) hisR ?_
  intro p e s m args below meth c s₁ Bd hml0 hP hK
  obtain ⟨rfl, hZ, hh⟩ := hP
  have hx := Bd.exec
  have hby := Bd.bytes
  have hml : c.maxLocals = 13 := hml0
  have hown : s.vm.findClass "com/example/failpath/failpath/MatchHashCodePinLaw" = some m.cls := findClass_of_methodNamed Bd.named
  have hnm := (name_of_methodNamed Bd.named Bd.method).1
  have X0 : Stand p l e room_1 s m #[(.int ps), (.int pe), (.int pp), (.int fg)] below meth c s₁ [] 0 0 := Stand.of_body Bd
  have e0 : s₁.heap = h0 := by rw [← hh, Bd.state]; rfl
  have N0 := Fr.nil n0
  refine own_in (castTop (ef_0 m ps pe pp fg)) ?_
  show own_Go _ _ _ _ (s₁.setTop (mkF m 0 #[.val (.int ps), .val (.int pe), .val (.int pp), .val (.int fg), .unset, .unset, .unset, .unset, .unset, .unset, .unset, .unset, .unset] []))
  refine own_join (α := Int32) X0 e0 (fun T' u2 => T'.setTop (mkF m 13 #[.val (.int ps), .val (.int pe), .val (.int pp), .val (.int fg), .unset, .unset, .unset, .unset, .unset, .unset, .unset, .unset, .unset] [(.int u2)])) (fun u2 => True) ?_ ?_
  · intro T1 u2 X1 e1 pr1
    show own_Go _ _ _ _ (T1.setTop (mkF m 13 #[.val (.int ps), .val (.int pe), .val (.int pp), .val (.int fg), .unset, .unset, .unset, .unset, .unset, .unset, .unset, .unset, .unset] [(.int u2)]))
    refine own_step (fun _ κ => XS.istore X1.here hx rfl (hb hby at_13) rfl (l' := #[.val (.int ps), .val (.int pe), .val (.int pp), .val (.int fg), .val (.int u2), .unset, .unset, .unset, .unset, .unset, .unset, .unset, .unset]) rfl κ) ?_
    show own_Go _ _ _ _ (T1.setTop (mkF m 15 #[.val (.int ps), .val (.int pe), .val (.int pp), .val (.int fg), .val (.int u2), .unset, .unset, .unset, .unset, .unset, .unset, .unset, .unset] []))
    refine own_join (α := Int32) X1 e1 (fun T' v2 => T'.setTop (mkF m 28 #[.val (.int ps), .val (.int pe), .val (.int pp), .val (.int fg), .val (.int u2), .unset, .unset, .unset, .unset, .unset, .unset, .unset, .unset] [(.int v2)])) (fun v2 => True) ?_ ?_
    · intro T2 v2 X2 e2 pr2
      show own_Go _ _ _ _ (T2.setTop (mkF m 28 #[.val (.int ps), .val (.int pe), .val (.int pp), .val (.int fg), .val (.int u2), .unset, .unset, .unset, .unset, .unset, .unset, .unset, .unset] [(.int v2)]))
      refine own_step (fun _ κ => XS.istore X2.here hx rfl (hb hby at_28) rfl (l' := #[.val (.int ps), .val (.int pe), .val (.int pp), .val (.int fg), .val (.int u2), .val (.int v2), .unset, .unset, .unset, .unset, .unset, .unset, .unset]) rfl κ) ?_
      show own_Go _ _ _ _ (T2.setTop (mkF m 30 #[.val (.int ps), .val (.int pe), .val (.int pp), .val (.int fg), .val (.int u2), .val (.int v2), .unset, .unset, .unset, .unset, .unset, .unset, .unset] []))
      refine own_join (α := Int32) X2 e2 (fun T' w2 => T'.setTop (mkF m 43 #[.val (.int ps), .val (.int pe), .val (.int pp), .val (.int fg), .val (.int u2), .val (.int v2), .unset, .unset, .unset, .unset, .unset, .unset, .unset] [(.int w2)])) (fun w2 => True) ?_ ?_
      · intro T3 w2 X3 e3 pr3
        show own_Go _ _ _ _ (T3.setTop (mkF m 43 #[.val (.int ps), .val (.int pe), .val (.int pp), .val (.int fg), .val (.int u2), .val (.int v2), .unset, .unset, .unset, .unset, .unset, .unset, .unset] [(.int w2)]))
        refine own_step (fun _ κ => XS.istore X3.here hx rfl (hb hby at_43) rfl (l' := #[.val (.int ps), .val (.int pe), .val (.int pp), .val (.int fg), .val (.int u2), .val (.int v2), .val (.int w2), .unset, .unset, .unset, .unset, .unset, .unset]) rfl κ) ?_
        show own_Go _ _ _ _ (T3.setTop (mkF m 45 #[.val (.int ps), .val (.int pe), .val (.int pp), .val (.int fg), .val (.int u2), .val (.int v2), .val (.int w2), .unset, .unset, .unset, .unset, .unset, .unset] []))
        obtain ⟨T4, h4, X4, e4, E4, A4, D4, U4, st4⟩ := newO X3 hx hZ hown (hw _ (List.mem_of_getElem? (i := 0) rfl)) (hw _ (List.mem_of_getElem? (i := 1) rfl)) (hw _ (List.mem_of_getElem? (i := 2) rfl)) e3 (g := (mkF m 45 #[.val (.int ps), .val (.int pe), .val (.int pp), .val (.int fg), .val (.int u2), .val (.int v2), .val (.int w2), .unset, .unset, .unset, .unset, .unset, .unset] [])) rfl (hb hby at_45) (by decide) (by decide)
        obtain ⟨b4, g4⟩ : ∃ z, z = h0.size := ⟨_, rfl⟩
        rw [← g4] at A4 D4 U4 st4
        refine own_step st4 ?_
        have ge5 : n0 ≤ b4 := Nat.le_trans Z0 (Nat.le_of_eq g4.symm)
        have z6 : n0 ≤ h4.size := Nat.le_trans Z0 E4.1
        have F4_start : Fld Z h4 b4 "com/example/failpath/failpath/Match" "start" "I" (.int (0 : Int32)) := D4 (Or.inr (hw _ (List.mem_of_getElem? (i := 10) rfl))) (ty := .int) (by decide)
        have F4_end : Fld Z h4 b4 "com/example/failpath/failpath/Match" "end" "I" (.int (0 : Int32)) := D4 (Or.inr (hw _ (List.mem_of_getElem? (i := 12) rfl))) (ty := .int) (by decide)
        have F4_patternIndex : Fld Z h4 b4 "com/example/failpath/failpath/Match" "patternIndex" "I" (.int (0 : Int32)) := D4 (Or.inr (hw _ (List.mem_of_getElem? (i := 14) rfl))) (ty := .int) (by decide)
        show own_Go _ _ _ _ (T4.setTop (mkF m 48 #[.val (.int ps), .val (.int pe), .val (.int pp), .val (.int fg), .val (.int u2), .val (.int v2), .val (.int w2), .unset, .unset, .unset, .unset, .unset, .unset] [(.ref b4)]))
        refine own_step (fun _ κ => XS.dup X4.here hx rfl (hb hby at_48) rfl rfl κ) ?_
        show own_Go _ _ _ _ (T4.setTop (mkF m 49 #[.val (.int ps), .val (.int pe), .val (.int pp), .val (.int fg), .val (.int u2), .val (.int v2), .val (.int w2), .unset, .unset, .unset, .unset, .unset, .unset] [(.ref b4), (.ref b4)]))
        refine own_step (fun _ κ => XS.iloadN X4.here hx rfl (hb hby at_49) rfl κ) ?_
        show own_Go _ _ _ _ (T4.setTop (mkF m 50 #[.val (.int ps), .val (.int pe), .val (.int pp), .val (.int fg), .val (.int u2), .val (.int v2), .val (.int w2), .unset, .unset, .unset, .unset, .unset, .unset] [(.int ps), (.ref b4), (.ref b4)]))
        refine own_step (fun _ κ => XS.iloadN X4.here hx rfl (hb hby at_50) rfl κ) ?_
        show own_Go _ _ _ _ (T4.setTop (mkF m 51 #[.val (.int ps), .val (.int pe), .val (.int pp), .val (.int fg), .val (.int u2), .val (.int v2), .val (.int w2), .unset, .unset, .unset, .unset, .unset, .unset] [(.int pe), (.int ps), (.ref b4), (.ref b4)]))
        refine own_step (fun _ κ => XS.iloadN X4.here hx rfl (hb hby at_51) rfl κ) ?_
        show own_Go _ _ _ _ (T4.setTop (mkF m 52 #[.val (.int ps), .val (.int pe), .val (.int pp), .val (.int fg), .val (.int u2), .val (.int v2), .val (.int w2), .unset, .unset, .unset, .unset, .unset, .unset] [(.int pp), (.int pe), (.int ps), (.ref b4), (.ref b4)]))
        obtain ⟨vr7, _, ⟨T7, L7, k7, n7⟩, -, X7, ⟨Lc7, hQ7, l7, y7, z7⟩, st7⟩ := X4.specialBack hx (y := (⟨"com/example/failpath/failpath/Match", "<init>", "(III)V"⟩ : MethodName)) rfl hown (mvT hZ (hw _ (List.mem_of_getElem? (i := 3) rfl))) (mvT hZ (hw _ (List.mem_of_getElem? (i := 4) rfl))) (mvT hZ (hw _ (List.mem_of_getElem? (i := 5) rfl))) (by decide) (backOf (W := 1) (rm2 l Z a0 hw [] b4 ps pe pp  h4 n0 z6 A4 F4_start F4_end F4_patternIndex ge5) hZ (hw _ (List.mem_of_getElem? (i := 5) rfl)) (hw _ (List.mem_of_getElem? (i := 2) rfl)) (by decide) (by decide)) (g := (mkF m 52 #[.val (.int ps), .val (.int pe), .val (.int pp), .val (.int fg), .val (.int u2), .val (.int v2), .val (.int w2), .unset, .unset, .unset, .unset, .unset, .unset] [(.int pp), (.int pe), (.int ps), (.ref b4), (.ref b4)])) rfl (by rw [hml]; rfl) (Steps.refl _) (a := b4) (argsL := [(.int ps), (.int pe), (.int pp)]) (rest := [(.ref b4)]) (lenOf pd_0 rfl) rfl (by show 2 * 0 + _ ≤ _; exact Nat.le_of_eq rfl) (hb hby at_52) (fun _ _ => ⟨rfl, e4, (by decide : 1 + 0 ≤ _), (by decide : 3 + 0 ≤ _)⟩)
        dsimp only [Pt.U, Pt.locs, Pt.cells, Pt.slots] at X7 l7 y7 z7 st7 hQ7
        subst l7 y7 z7
        obtain ⟨rfl, Nq7, Kq7, p7_0, p7_1, p7_2, p7_3⟩ := hQ7
        have N7 := Fr.app N0 Nq7
        have f8 := A4.keep Kq7
        have z9 : n0 ≤ T7.heap.size := Nat.le_trans z6 Kq7.1
        refine own_step (fun _ κ => st7.trans κ) ?_
        show own_Go _ _ _ _ (T7.setTop (mkF m 55 #[.val (.int ps), .val (.int pe), .val (.int pp), .val (.int fg), .val (.int u2), .val (.int v2), .val (.int w2), .unset, .unset, .unset, .unset, .unset, .unset] [(.ref b4)]))
        refine own_step (fun _ κ => XS.astore X7.here hx rfl (hb hby at_55) rfl rfl (l' := #[.val (.int ps), .val (.int pe), .val (.int pp), .val (.int fg), .val (.int u2), .val (.int v2), .val (.int w2), .val (.ref b4), .unset, .unset, .unset, .unset, .unset]) rfl κ) ?_
        show own_Go _ _ _ _ (T7.setTop (mkF m 57 #[.val (.int ps), .val (.int pe), .val (.int pp), .val (.int fg), .val (.int u2), .val (.int v2), .val (.int w2), .val (.ref b4), .unset, .unset, .unset, .unset, .unset] []))
        obtain ⟨T10, h10, X10, e10, E10, A10, D10, U10, st10⟩ := newO X7 hx hZ hown (hw _ (List.mem_of_getElem? (i := 0) rfl)) (hw _ (List.mem_of_getElem? (i := 1) rfl)) (hw _ (List.mem_of_getElem? (i := 2) rfl)) rfl (g := (mkF m 57 #[.val (.int ps), .val (.int pe), .val (.int pp), .val (.int fg), .val (.int u2), .val (.int v2), .val (.int w2), .val (.ref b4), .unset, .unset, .unset, .unset, .unset] [])) rfl (hb hby at_57) (by decide) (by decide)
        obtain ⟨b10, g10⟩ : ∃ z, z = T7.heap.size := ⟨_, rfl⟩
        rw [← g10] at A10 D10 U10 st10
        refine own_step st10 ?_
        have ne11 : b4 ≠ b10 := Nat.ne_of_lt (Nat.lt_of_lt_of_le p7_0.lt (Nat.le_of_eq g10.symm))
        have ge12 : n0 ≤ b10 := Nat.le_trans z9 (Nat.le_of_eq g10.symm)
        have f13 := p7_0.ext E10
        have f14 := p7_1.ext E10
        have f15 := p7_2.ext E10
        have f16 := p7_3.ext E10
        have z17 : n0 ≤ h10.size := Nat.le_trans z9 E10.1
        have F10_start : Fld Z h10 b10 "com/example/failpath/failpath/Match" "start" "I" (.int (0 : Int32)) := D10 (Or.inr (hw _ (List.mem_of_getElem? (i := 10) rfl))) (ty := .int) (by decide)
        have F10_end : Fld Z h10 b10 "com/example/failpath/failpath/Match" "end" "I" (.int (0 : Int32)) := D10 (Or.inr (hw _ (List.mem_of_getElem? (i := 12) rfl))) (ty := .int) (by decide)
        have F10_patternIndex : Fld Z h10 b10 "com/example/failpath/failpath/Match" "patternIndex" "I" (.int (0 : Int32)) := D10 (Or.inr (hw _ (List.mem_of_getElem? (i := 14) rfl))) (ty := .int) (by decide)
        show own_Go _ _ _ _ (T10.setTop (mkF m 60 #[.val (.int ps), .val (.int pe), .val (.int pp), .val (.int fg), .val (.int u2), .val (.int v2), .val (.int w2), .val (.ref b4), .unset, .unset, .unset, .unset, .unset] [(.ref b10)]))
        refine own_step (fun _ κ => XS.dup X10.here hx rfl (hb hby at_60) rfl rfl κ) ?_
        show own_Go _ _ _ _ (T10.setTop (mkF m 61 #[.val (.int ps), .val (.int pe), .val (.int pp), .val (.int fg), .val (.int u2), .val (.int v2), .val (.int w2), .val (.ref b4), .unset, .unset, .unset, .unset, .unset] [(.ref b10), (.ref b10)]))
        refine own_step (fun _ κ => XS.iloadN X10.here hx rfl (hb hby at_61) rfl κ) ?_
        show own_Go _ _ _ _ (T10.setTop (mkF m 62 #[.val (.int ps), .val (.int pe), .val (.int pp), .val (.int fg), .val (.int u2), .val (.int v2), .val (.int w2), .val (.ref b4), .unset, .unset, .unset, .unset, .unset] [(.int ps), (.ref b10), (.ref b10)]))
        refine own_step (fun _ κ => XS.iloadN X10.here hx rfl (hb hby at_62) rfl κ) ?_
        show own_Go _ _ _ _ (T10.setTop (mkF m 63 #[.val (.int ps), .val (.int pe), .val (.int pp), .val (.int fg), .val (.int u2), .val (.int v2), .val (.int w2), .val (.ref b4), .unset, .unset, .unset, .unset, .unset] [(.int pe), (.int ps), (.ref b10), (.ref b10)]))
        refine own_step (fun _ κ => XS.iloadN X10.here hx rfl (hb hby at_63) rfl κ) ?_
        show own_Go _ _ _ _ (T10.setTop (mkF m 64 #[.val (.int ps), .val (.int pe), .val (.int pp), .val (.int fg), .val (.int u2), .val (.int v2), .val (.int w2), .val (.ref b4), .unset, .unset, .unset, .unset, .unset] [(.int pp), (.int pe), (.int ps), (.ref b10), (.ref b10)]))
        obtain ⟨vr18, _, ⟨T18, L18, k18, n18⟩, -, X18, ⟨Lc18, hQ18, l18, y18, z18⟩, st18⟩ := X10.specialBack hx (y := (⟨"com/example/failpath/failpath/Match", "<init>", "(III)V"⟩ : MethodName)) rfl hown (mvT hZ (hw _ (List.mem_of_getElem? (i := 3) rfl))) (mvT hZ (hw _ (List.mem_of_getElem? (i := 4) rfl))) (mvT hZ (hw _ (List.mem_of_getElem? (i := 5) rfl))) (by decide) (backOf (W := 1) (rm2 l Z a0 hw [] b10 ps pe pp  h10 n0 z17 A10 F10_start F10_end F10_patternIndex ge12) hZ (hw _ (List.mem_of_getElem? (i := 5) rfl)) (hw _ (List.mem_of_getElem? (i := 2) rfl)) (by decide) (by decide)) (g := (mkF m 64 #[.val (.int ps), .val (.int pe), .val (.int pp), .val (.int fg), .val (.int u2), .val (.int v2), .val (.int w2), .val (.ref b4), .unset, .unset, .unset, .unset, .unset] [(.int pp), (.int pe), (.int ps), (.ref b10), (.ref b10)])) rfl (by rw [hml]; rfl) (Steps.refl _) (a := b10) (argsL := [(.int ps), (.int pe), (.int pp)]) (rest := [(.ref b10)]) (lenOf pd_0 rfl) rfl (by show 2 * 0 + _ ≤ _; exact Nat.le_of_eq rfl) (hb hby at_64) (fun _ _ => ⟨rfl, e10, (by decide : 2 + 0 ≤ _), (by decide : 6 + 0 ≤ _)⟩)
        dsimp only [Pt.U, Pt.locs, Pt.cells, Pt.slots] at X18 l18 y18 z18 st18 hQ18
        subst l18 y18 z18
        obtain ⟨rfl, Nq18, Kq18, p18_0, p18_1, p18_2, p18_3⟩ := hQ18
        have N18 := Fr.app N7 Nq18
        have f19 := f13.keep Kq18
        have f20 := f14.keep Kq18 (ninS ne11 nin0)
        have f21 := f15.keep Kq18 (ninS ne11 nin0)
        have f22 := f16.keep Kq18 (ninS ne11 nin0)
        have f23 := A10.keep Kq18
        have z24 : n0 ≤ T18.heap.size := Nat.le_trans z17 Kq18.1
        refine own_step (fun _ κ => st18.trans κ) ?_
        show own_Go _ _ _ _ (T18.setTop (mkF m 67 #[.val (.int ps), .val (.int pe), .val (.int pp), .val (.int fg), .val (.int u2), .val (.int v2), .val (.int w2), .val (.ref b4), .unset, .unset, .unset, .unset, .unset] [(.ref b10)]))
        refine own_step (fun _ κ => XS.astore X18.here hx rfl (hb hby at_67) rfl rfl (l' := #[.val (.int ps), .val (.int pe), .val (.int pp), .val (.int fg), .val (.int u2), .val (.int v2), .val (.int w2), .val (.ref b4), .val (.ref b10), .unset, .unset, .unset, .unset]) rfl κ) ?_
        show own_Go _ _ _ _ (T18.setTop (mkF m 69 #[.val (.int ps), .val (.int pe), .val (.int pp), .val (.int fg), .val (.int u2), .val (.int v2), .val (.int w2), .val (.ref b4), .val (.ref b10), .unset, .unset, .unset, .unset] []))
        obtain ⟨T25, h25, X25, e25, E25, A25, D25, U25, st25⟩ := newO X18 hx hZ hown (hw _ (List.mem_of_getElem? (i := 0) rfl)) (hw _ (List.mem_of_getElem? (i := 1) rfl)) (hw _ (List.mem_of_getElem? (i := 2) rfl)) rfl (g := (mkF m 69 #[.val (.int ps), .val (.int pe), .val (.int pp), .val (.int fg), .val (.int u2), .val (.int v2), .val (.int w2), .val (.ref b4), .val (.ref b10), .unset, .unset, .unset, .unset] [])) rfl (hb hby at_69) (by decide) (by decide)
        obtain ⟨b25, g25⟩ : ∃ z, z = T18.heap.size := ⟨_, rfl⟩
        rw [← g25] at A25 D25 U25 st25
        refine own_step st25 ?_
        have ne26 : b4 ≠ b25 := Nat.ne_of_lt (Nat.lt_of_lt_of_le f19.lt (Nat.le_of_eq g25.symm))
        have ne27 : b10 ≠ b25 := Nat.ne_of_lt (Nat.lt_of_lt_of_le p18_0.lt (Nat.le_of_eq g25.symm))
        have ge28 : n0 ≤ b25 := Nat.le_trans z24 (Nat.le_of_eq g25.symm)
        have f29 := f19.ext E25
        have f30 := f20.ext E25
        have f31 := f21.ext E25
        have f32 := f22.ext E25
        have f33 := p18_0.ext E25
        have f34 := p18_1.ext E25
        have f35 := p18_2.ext E25
        have f36 := p18_3.ext E25
        have z37 : n0 ≤ h25.size := Nat.le_trans z24 E25.1
        have F25_start : Fld Z h25 b25 "com/example/failpath/failpath/Match" "start" "I" (.int (0 : Int32)) := D25 (Or.inr (hw _ (List.mem_of_getElem? (i := 10) rfl))) (ty := .int) (by decide)
        have F25_end : Fld Z h25 b25 "com/example/failpath/failpath/Match" "end" "I" (.int (0 : Int32)) := D25 (Or.inr (hw _ (List.mem_of_getElem? (i := 12) rfl))) (ty := .int) (by decide)
        have F25_patternIndex : Fld Z h25 b25 "com/example/failpath/failpath/Match" "patternIndex" "I" (.int (0 : Int32)) := D25 (Or.inr (hw _ (List.mem_of_getElem? (i := 14) rfl))) (ty := .int) (by decide)
        show own_Go _ _ _ _ (T25.setTop (mkF m 72 #[.val (.int ps), .val (.int pe), .val (.int pp), .val (.int fg), .val (.int u2), .val (.int v2), .val (.int w2), .val (.ref b4), .val (.ref b10), .unset, .unset, .unset, .unset] [(.ref b25)]))
        refine own_step (fun _ κ => XS.dup X25.here hx rfl (hb hby at_72) rfl rfl κ) ?_
        show own_Go _ _ _ _ (T25.setTop (mkF m 73 #[.val (.int ps), .val (.int pe), .val (.int pp), .val (.int fg), .val (.int u2), .val (.int v2), .val (.int w2), .val (.ref b4), .val (.ref b10), .unset, .unset, .unset, .unset] [(.ref b25), (.ref b25)]))
        refine own_step (fun _ κ => XS.iload X25.here hx rfl (hb hby at_73) rfl κ) ?_
        show own_Go _ _ _ _ (T25.setTop (mkF m 75 #[.val (.int ps), .val (.int pe), .val (.int pp), .val (.int fg), .val (.int u2), .val (.int v2), .val (.int w2), .val (.ref b4), .val (.ref b10), .unset, .unset, .unset, .unset] [(.int u2), (.ref b25), (.ref b25)]))
        refine own_step (fun _ κ => XS.iload X25.here hx rfl (hb hby at_75) rfl κ) ?_
        show own_Go _ _ _ _ (T25.setTop (mkF m 77 #[.val (.int ps), .val (.int pe), .val (.int pp), .val (.int fg), .val (.int u2), .val (.int v2), .val (.int w2), .val (.ref b4), .val (.ref b10), .unset, .unset, .unset, .unset] [(.int v2), (.int u2), (.ref b25), (.ref b25)]))
        refine own_step (fun _ κ => XS.iload X25.here hx rfl (hb hby at_77) rfl κ) ?_
        show own_Go _ _ _ _ (T25.setTop (mkF m 79 #[.val (.int ps), .val (.int pe), .val (.int pp), .val (.int fg), .val (.int u2), .val (.int v2), .val (.int w2), .val (.ref b4), .val (.ref b10), .unset, .unset, .unset, .unset] [(.int w2), (.int v2), (.int u2), (.ref b25), (.ref b25)]))
        obtain ⟨vr38, _, ⟨T38, L38, k38, n38⟩, -, X38, ⟨Lc38, hQ38, l38, y38, z38⟩, st38⟩ := X25.specialBack hx (y := (⟨"com/example/failpath/failpath/Match", "<init>", "(III)V"⟩ : MethodName)) rfl hown (mvT hZ (hw _ (List.mem_of_getElem? (i := 3) rfl))) (mvT hZ (hw _ (List.mem_of_getElem? (i := 4) rfl))) (mvT hZ (hw _ (List.mem_of_getElem? (i := 5) rfl))) (by decide) (backOf (W := 1) (rm2 l Z a0 hw [] b25 u2 v2 w2  h25 n0 z37 A25 F25_start F25_end F25_patternIndex ge28) hZ (hw _ (List.mem_of_getElem? (i := 5) rfl)) (hw _ (List.mem_of_getElem? (i := 2) rfl)) (by decide) (by decide)) (g := (mkF m 79 #[.val (.int ps), .val (.int pe), .val (.int pp), .val (.int fg), .val (.int u2), .val (.int v2), .val (.int w2), .val (.ref b4), .val (.ref b10), .unset, .unset, .unset, .unset] [(.int w2), (.int v2), (.int u2), (.ref b25), (.ref b25)])) rfl (by rw [hml]; rfl) (Steps.refl _) (a := b25) (argsL := [(.int u2), (.int v2), (.int w2)]) (rest := [(.ref b25)]) (lenOf pd_0 rfl) rfl (by show 2 * 0 + _ ≤ _; exact Nat.le_of_eq rfl) (hb hby at_79) (fun _ _ => ⟨rfl, e25, (by decide : 3 + 0 ≤ _), (by decide : 9 + 0 ≤ _)⟩)
        dsimp only [Pt.U, Pt.locs, Pt.cells, Pt.slots] at X38 l38 y38 z38 st38 hQ38
        subst l38 y38 z38
        obtain ⟨rfl, Nq38, Kq38, p38_0, p38_1, p38_2, p38_3⟩ := hQ38
        have N38 := Fr.app N18 Nq38
        have f39 := f29.keep Kq38
        have f40 := f30.keep Kq38 (ninS ne26 nin0)
        have f41 := f31.keep Kq38 (ninS ne26 nin0)
        have f42 := f32.keep Kq38 (ninS ne26 nin0)
        have f43 := f33.keep Kq38
        have f44 := f34.keep Kq38 (ninS ne27 nin0)
        have f45 := f35.keep Kq38 (ninS ne27 nin0)
        have f46 := f36.keep Kq38 (ninS ne27 nin0)
        have f47 := A25.keep Kq38
        have z48 : n0 ≤ T38.heap.size := Nat.le_trans z37 Kq38.1
        refine own_step (fun _ κ => st38.trans κ) ?_
        show own_Go _ _ _ _ (T38.setTop (mkF m 82 #[.val (.int ps), .val (.int pe), .val (.int pp), .val (.int fg), .val (.int u2), .val (.int v2), .val (.int w2), .val (.ref b4), .val (.ref b10), .unset, .unset, .unset, .unset] [(.ref b25)]))
        refine own_step (fun _ κ => XS.astore X38.here hx rfl (hb hby at_82) rfl rfl (l' := #[.val (.int ps), .val (.int pe), .val (.int pp), .val (.int fg), .val (.int u2), .val (.int v2), .val (.int w2), .val (.ref b4), .val (.ref b10), .val (.ref b25), .unset, .unset, .unset]) rfl κ) ?_
        show own_Go _ _ _ _ (T38.setTop (mkF m 84 #[.val (.int ps), .val (.int pe), .val (.int pp), .val (.int fg), .val (.int u2), .val (.int v2), .val (.int w2), .val (.ref b4), .val (.ref b10), .val (.ref b25), .unset, .unset, .unset] []))
        refine own_step (fun _ κ => XS.aload X38.here hx rfl (hb hby at_84) rfl rfl κ) ?_
        show own_Go _ _ _ _ (T38.setTop (mkF m 86 #[.val (.int ps), .val (.int pe), .val (.int pp), .val (.int fg), .val (.int u2), .val (.int v2), .val (.int w2), .val (.ref b4), .val (.ref b10), .val (.ref b25), .unset, .unset, .unset] [(.ref b4)]))
        obtain ⟨cq49, kq49, q49a, q49b, q49c⟩ := isOf hZ rfl f39
        obtain ⟨vr49, _, ⟨T49, L49, k49, n49⟩, -, X49, ⟨Lc49, hQ49, l49, y49, z49⟩, st49⟩ := X38.virtualBack hx (y := (⟨"com/example/failpath/failpath/Match", "hashCode", "()I"⟩ : MethodName)) (z := (⟨"com/example/failpath/failpath/Match", "hashCode", "()I"⟩ : MethodName)) hown (mvT hZ (hw _ (List.mem_of_getElem? (i := 15) rfl))) (mvT hZ (hw _ (List.mem_of_getElem? (i := 16) rfl))) (notFace_of_selects (args := #[]) (mvT hZ (hw _ (List.mem_of_getElem? (i := 18) rfl)))) (mvT hZ (hw _ (List.mem_of_getElem? (i := 18) rfl))) (mvT hZ (hw _ (List.mem_of_getElem? (i := 17) rfl))) (by decide) (backOf (W := 0) (rm3 l Z a0 hw [] b4 ps pe pp T38.heap n0 z48 f40 f41 f42) hZ (hw _ (List.mem_of_getElem? (i := 19) rfl)) (hw _ (List.mem_of_getElem? (i := 2) rfl)) (by decide) (by decide)) q49a q49c (g := (mkF m 86 #[.val (.int ps), .val (.int pe), .val (.int pp), .val (.int fg), .val (.int u2), .val (.int v2), .val (.int w2), .val (.ref b4), .val (.ref b10), .val (.ref b25), .unset, .unset, .unset] [(.ref b4)])) rfl (by rw [hml]; rfl) (Steps.refl _) (argsL := []) (rest := []) (lenOf pd_1 rfl) rfl (by show 2 * 0 + _ ≤ _; exact Nat.le_of_eq rfl) (hb hby at_86) (fun _ _ => ⟨rfl, rfl, (by decide : 3 + 0 ≤ _), (by decide : 9 + 0 ≤ _)⟩)
        dsimp only [Pt.U, Pt.locs, Pt.cells, Pt.slots] at X49 l49 y49 z49 st49 hQ49
        subst l49 y49 z49
        obtain ⟨rfl, Nq49, eq49⟩ := hQ49
        have N49 := Fr.app N38 Nq49
        refine own_step (fun _ κ => st49.trans κ) ?_
        show own_Go _ _ _ _ (T49.setTop (mkF m 89 #[.val (.int ps), .val (.int pe), .val (.int pp), .val (.int fg), .val (.int u2), .val (.int v2), .val (.int w2), .val (.ref b4), .val (.ref b10), .val (.ref b25), .unset, .unset, .unset] [(.int ((((ps * (31 : Int32)) + pe) * (31 : Int32)) + pp))]))
        refine own_step (fun _ κ => XS.istore X49.here hx rfl (hb hby at_89) rfl (l' := #[.val (.int ps), .val (.int pe), .val (.int pp), .val (.int fg), .val (.int u2), .val (.int v2), .val (.int w2), .val (.ref b4), .val (.ref b10), .val (.ref b25), .val (.int ((((ps * (31 : Int32)) + pe) * (31 : Int32)) + pp)), .unset, .unset]) rfl κ) ?_
        show own_Go _ _ _ _ (T49.setTop (mkF m 91 #[.val (.int ps), .val (.int pe), .val (.int pp), .val (.int fg), .val (.int u2), .val (.int v2), .val (.int w2), .val (.ref b4), .val (.ref b10), .val (.ref b25), .val (.int ((((ps * (31 : Int32)) + pe) * (31 : Int32)) + pp)), .unset, .unset] []))
        refine own_step (fun _ κ => XS.aload X49.here hx rfl (hb hby at_91) rfl rfl κ) ?_
        show own_Go _ _ _ _ (T49.setTop (mkF m 93 #[.val (.int ps), .val (.int pe), .val (.int pp), .val (.int fg), .val (.int u2), .val (.int v2), .val (.int w2), .val (.ref b4), .val (.ref b10), .val (.ref b25), .val (.int ((((ps * (31 : Int32)) + pe) * (31 : Int32)) + pp)), .unset, .unset] [(.ref b10)]))
        obtain ⟨cq50, kq50, q50a, q50b, q50c⟩ := isOf hZ eq49 f43
        obtain ⟨vr50, _, ⟨T50, L50, k50, n50⟩, -, X50, ⟨Lc50, hQ50, l50, y50, z50⟩, st50⟩ := X49.virtualBack hx (y := (⟨"com/example/failpath/failpath/Match", "hashCode", "()I"⟩ : MethodName)) (z := (⟨"com/example/failpath/failpath/Match", "hashCode", "()I"⟩ : MethodName)) hown (mvT hZ (hw _ (List.mem_of_getElem? (i := 15) rfl))) (mvT hZ (hw _ (List.mem_of_getElem? (i := 16) rfl))) (notFace_of_selects (args := #[]) (mvT hZ (hw _ (List.mem_of_getElem? (i := 18) rfl)))) (mvT hZ (hw _ (List.mem_of_getElem? (i := 18) rfl))) (mvT hZ (hw _ (List.mem_of_getElem? (i := 17) rfl))) (by decide) (backOf (W := 0) (rm3 l Z a0 hw [] b10 ps pe pp T38.heap n0 z48 f44 f45 f46) hZ (hw _ (List.mem_of_getElem? (i := 19) rfl)) (hw _ (List.mem_of_getElem? (i := 2) rfl)) (by decide) (by decide)) q50a q50c (g := (mkF m 93 #[.val (.int ps), .val (.int pe), .val (.int pp), .val (.int fg), .val (.int u2), .val (.int v2), .val (.int w2), .val (.ref b4), .val (.ref b10), .val (.ref b25), .val (.int ((((ps * (31 : Int32)) + pe) * (31 : Int32)) + pp)), .unset, .unset] [(.ref b10)])) rfl (by rw [hml]; rfl) (Steps.refl _) (argsL := []) (rest := []) (lenOf pd_1 rfl) rfl (by show 2 * 0 + _ ≤ _; exact Nat.le_of_eq rfl) (hb hby at_93) (fun _ _ => ⟨rfl, eq49, (by decide : 3 + 0 ≤ _), (by decide : 9 + 0 ≤ _)⟩)
        dsimp only [Pt.U, Pt.locs, Pt.cells, Pt.slots] at X50 l50 y50 z50 st50 hQ50
        subst l50 y50 z50
        obtain ⟨rfl, Nq50, eq50⟩ := hQ50
        have N50 := Fr.app N49 Nq50
        refine own_step (fun _ κ => st50.trans κ) ?_
        show own_Go _ _ _ _ (T50.setTop (mkF m 96 #[.val (.int ps), .val (.int pe), .val (.int pp), .val (.int fg), .val (.int u2), .val (.int v2), .val (.int w2), .val (.ref b4), .val (.ref b10), .val (.ref b25), .val (.int ((((ps * (31 : Int32)) + pe) * (31 : Int32)) + pp)), .unset, .unset] [(.int ((((ps * (31 : Int32)) + pe) * (31 : Int32)) + pp))]))
        refine own_step (fun _ κ => XS.istore X50.here hx rfl (hb hby at_96) rfl (l' := #[.val (.int ps), .val (.int pe), .val (.int pp), .val (.int fg), .val (.int u2), .val (.int v2), .val (.int w2), .val (.ref b4), .val (.ref b10), .val (.ref b25), .val (.int ((((ps * (31 : Int32)) + pe) * (31 : Int32)) + pp)), .val (.int ((((ps * (31 : Int32)) + pe) * (31 : Int32)) + pp)), .unset]) rfl κ) ?_
        show own_Go _ _ _ _ (T50.setTop (mkF m 98 #[.val (.int ps), .val (.int pe), .val (.int pp), .val (.int fg), .val (.int u2), .val (.int v2), .val (.int w2), .val (.ref b4), .val (.ref b10), .val (.ref b25), .val (.int ((((ps * (31 : Int32)) + pe) * (31 : Int32)) + pp)), .val (.int ((((ps * (31 : Int32)) + pe) * (31 : Int32)) + pp)), .unset] []))
        refine own_step (fun _ κ => XS.aload X50.here hx rfl (hb hby at_98) rfl rfl κ) ?_
        show own_Go _ _ _ _ (T50.setTop (mkF m 100 #[.val (.int ps), .val (.int pe), .val (.int pp), .val (.int fg), .val (.int u2), .val (.int v2), .val (.int w2), .val (.ref b4), .val (.ref b10), .val (.ref b25), .val (.int ((((ps * (31 : Int32)) + pe) * (31 : Int32)) + pp)), .val (.int ((((ps * (31 : Int32)) + pe) * (31 : Int32)) + pp)), .unset] [(.ref b25)]))
        obtain ⟨cq51, kq51, q51a, q51b, q51c⟩ := isOf hZ eq50 p38_0
        obtain ⟨vr51, _, ⟨T51, L51, k51, n51⟩, -, X51, ⟨Lc51, hQ51, l51, y51, z51⟩, st51⟩ := X50.virtualBack hx (y := (⟨"com/example/failpath/failpath/Match", "hashCode", "()I"⟩ : MethodName)) (z := (⟨"com/example/failpath/failpath/Match", "hashCode", "()I"⟩ : MethodName)) hown (mvT hZ (hw _ (List.mem_of_getElem? (i := 15) rfl))) (mvT hZ (hw _ (List.mem_of_getElem? (i := 16) rfl))) (notFace_of_selects (args := #[]) (mvT hZ (hw _ (List.mem_of_getElem? (i := 18) rfl)))) (mvT hZ (hw _ (List.mem_of_getElem? (i := 18) rfl))) (mvT hZ (hw _ (List.mem_of_getElem? (i := 17) rfl))) (by decide) (backOf (W := 0) (rm3 l Z a0 hw [] b25 u2 v2 w2 T38.heap n0 z48 p38_1 p38_2 p38_3) hZ (hw _ (List.mem_of_getElem? (i := 19) rfl)) (hw _ (List.mem_of_getElem? (i := 2) rfl)) (by decide) (by decide)) q51a q51c (g := (mkF m 100 #[.val (.int ps), .val (.int pe), .val (.int pp), .val (.int fg), .val (.int u2), .val (.int v2), .val (.int w2), .val (.ref b4), .val (.ref b10), .val (.ref b25), .val (.int ((((ps * (31 : Int32)) + pe) * (31 : Int32)) + pp)), .val (.int ((((ps * (31 : Int32)) + pe) * (31 : Int32)) + pp)), .unset] [(.ref b25)])) rfl (by rw [hml]; rfl) (Steps.refl _) (argsL := []) (rest := []) (lenOf pd_1 rfl) rfl (by show 2 * 0 + _ ≤ _; exact Nat.le_of_eq rfl) (hb hby at_100) (fun _ _ => ⟨rfl, eq50, (by decide : 3 + 0 ≤ _), (by decide : 9 + 0 ≤ _)⟩)
        dsimp only [Pt.U, Pt.locs, Pt.cells, Pt.slots] at X51 l51 y51 z51 st51 hQ51
        subst l51 y51 z51
        obtain ⟨rfl, Nq51, eq51⟩ := hQ51
        have N51 := Fr.app N50 Nq51
        refine own_step (fun _ κ => st51.trans κ) ?_
        show own_Go _ _ _ _ (T51.setTop (mkF m 103 #[.val (.int ps), .val (.int pe), .val (.int pp), .val (.int fg), .val (.int u2), .val (.int v2), .val (.int w2), .val (.ref b4), .val (.ref b10), .val (.ref b25), .val (.int ((((ps * (31 : Int32)) + pe) * (31 : Int32)) + pp)), .val (.int ((((ps * (31 : Int32)) + pe) * (31 : Int32)) + pp)), .unset] [(.int ((((u2 * (31 : Int32)) + v2) * (31 : Int32)) + w2))]))
        refine own_step (fun _ κ => XS.istore X51.here hx rfl (hb hby at_103) rfl (l' := #[.val (.int ps), .val (.int pe), .val (.int pp), .val (.int fg), .val (.int u2), .val (.int v2), .val (.int w2), .val (.ref b4), .val (.ref b10), .val (.ref b25), .val (.int ((((ps * (31 : Int32)) + pe) * (31 : Int32)) + pp)), .val (.int ((((ps * (31 : Int32)) + pe) * (31 : Int32)) + pp)), .val (.int ((((u2 * (31 : Int32)) + v2) * (31 : Int32)) + w2))]) rfl κ) ?_
        show own_Go _ _ _ _ (T51.setTop (mkF m 105 #[.val (.int ps), .val (.int pe), .val (.int pp), .val (.int fg), .val (.int u2), .val (.int v2), .val (.int w2), .val (.ref b4), .val (.ref b10), .val (.ref b25), .val (.int ((((ps * (31 : Int32)) + pe) * (31 : Int32)) + pp)), .val (.int ((((ps * (31 : Int32)) + pe) * (31 : Int32)) + pp)), .val (.int ((((u2 * (31 : Int32)) + v2) * (31 : Int32)) + w2))] []))
        refine own_step (fun _ κ => XS.aload X51.here hx rfl (hb hby at_105) rfl rfl κ) ?_
        show own_Go _ _ _ _ (T51.setTop (mkF m 107 #[.val (.int ps), .val (.int pe), .val (.int pp), .val (.int fg), .val (.int u2), .val (.int v2), .val (.int w2), .val (.ref b4), .val (.ref b10), .val (.ref b25), .val (.int ((((ps * (31 : Int32)) + pe) * (31 : Int32)) + pp)), .val (.int ((((ps * (31 : Int32)) + pe) * (31 : Int32)) + pp)), .val (.int ((((u2 * (31 : Int32)) + v2) * (31 : Int32)) + w2))] [(.ref b4)]))
        refine own_step (fun _ κ => XS.aload X51.here hx rfl (hb hby at_107) rfl rfl κ) ?_
        show own_Go _ _ _ _ (T51.setTop (mkF m 109 #[.val (.int ps), .val (.int pe), .val (.int pp), .val (.int fg), .val (.int u2), .val (.int v2), .val (.int w2), .val (.ref b4), .val (.ref b10), .val (.ref b25), .val (.int ((((ps * (31 : Int32)) + pe) * (31 : Int32)) + pp)), .val (.int ((((ps * (31 : Int32)) + pe) * (31 : Int32)) + pp)), .val (.int ((((u2 * (31 : Int32)) + v2) * (31 : Int32)) + w2))] [(.ref b10), (.ref b4)]))
        obtain ⟨cq52, kq52, q52a, q52b, q52c⟩ := isOf hZ eq51 f39
        obtain ⟨vr52, _, ⟨T52, L52, k52, n52⟩, -, X52, ⟨Lc52, hQ52, l52, y52, z52⟩, st52⟩ := X51.virtualBack hx (y := (⟨"com/example/failpath/failpath/Match", "equals", "(Ljava/lang/Object;)Z"⟩ : MethodName)) (z := (⟨"com/example/failpath/failpath/Match", "equals", "(Ljava/lang/Object;)Z"⟩ : MethodName)) hown (mvT hZ (hw _ (List.mem_of_getElem? (i := 20) rfl))) (mvT hZ (hw _ (List.mem_of_getElem? (i := 21) rfl))) (notFace_of_selects (args := #[]) (mvT hZ (hw _ (List.mem_of_getElem? (i := 23) rfl)))) (mvT hZ (hw _ (List.mem_of_getElem? (i := 23) rfl))) (mvT hZ (hw _ (List.mem_of_getElem? (i := 22) rfl))) (by decide) (backOf (W := 0) (rm4 l Z a0 hw [] b4 b10 ps pe pp ps pe pp T38.heap n0 z48 f43 f40 f41 f42 f44 f45 f46) hZ (hw _ (List.mem_of_getElem? (i := 24) rfl)) (hw _ (List.mem_of_getElem? (i := 2) rfl)) (by decide) (by decide)) q52a q52c (g := (mkF m 109 #[.val (.int ps), .val (.int pe), .val (.int pp), .val (.int fg), .val (.int u2), .val (.int v2), .val (.int w2), .val (.ref b4), .val (.ref b10), .val (.ref b25), .val (.int ((((ps * (31 : Int32)) + pe) * (31 : Int32)) + pp)), .val (.int ((((ps * (31 : Int32)) + pe) * (31 : Int32)) + pp)), .val (.int ((((u2 * (31 : Int32)) + v2) * (31 : Int32)) + w2))] [(.ref b10), (.ref b4)])) rfl (by rw [hml]; rfl) (Steps.refl _) (argsL := [(.ref b10)]) (rest := []) (lenOf pd_2 rfl) rfl (by show 2 * 0 + _ ≤ _; exact Nat.le_of_eq rfl) (hb hby at_109) (fun _ _ => ⟨rfl, eq51, (by decide : 3 + 0 ≤ _), (by decide : 9 + 0 ≤ _)⟩)
        dsimp only [Pt.U, Pt.locs, Pt.cells, Pt.slots] at X52 l52 y52 z52 st52 hQ52
        subst l52 y52 z52
        obtain ⟨hv52, Nq52, eq52⟩ := hQ52
        have N52 := Fr.app N51 Nq52
        rw [if_pos rfl] at hv52
        rw [if_pos rfl] at hv52
        rw [if_pos rfl] at hv52
        subst hv52
        refine own_step (fun _ κ => st52.trans κ) ?_
        show own_Go _ _ _ _ (T52.setTop (mkF m 112 #[.val (.int ps), .val (.int pe), .val (.int pp), .val (.int fg), .val (.int u2), .val (.int v2), .val (.int w2), .val (.ref b4), .val (.ref b10), .val (.ref b25), .val (.int ((((ps * (31 : Int32)) + pe) * (31 : Int32)) + pp)), .val (.int ((((ps * (31 : Int32)) + pe) * (31 : Int32)) + pp)), .val (.int ((((u2 * (31 : Int32)) + v2) * (31 : Int32)) + w2))] [(.int (1 : Int32))]))
        refine own_step (fun _ κ => XS.ifYes X52.here hx rfl (pc0 := 112) (pc' := 117) rfl (hb hby at_112) rfl ((if0 _ _).trans (feq (by decide)).2) (by decide) (by decide) κ) ?_
        show own_Go _ _ _ _ (T52.setTop (mkF m 117 #[.val (.int ps), .val (.int pe), .val (.int pp), .val (.int fg), .val (.int u2), .val (.int v2), .val (.int w2), .val (.ref b4), .val (.ref b10), .val (.ref b25), .val (.int ((((ps * (31 : Int32)) + pe) * (31 : Int32)) + pp)), .val (.int ((((ps * (31 : Int32)) + pe) * (31 : Int32)) + pp)), .val (.int ((((u2 * (31 : Int32)) + v2) * (31 : Int32)) + w2))] []))
        refine own_step (fun _ κ => XS.iload X52.here hx rfl (hb hby at_117) rfl κ) ?_
        show own_Go _ _ _ _ (T52.setTop (mkF m 119 #[.val (.int ps), .val (.int pe), .val (.int pp), .val (.int fg), .val (.int u2), .val (.int v2), .val (.int w2), .val (.ref b4), .val (.ref b10), .val (.ref b25), .val (.int ((((ps * (31 : Int32)) + pe) * (31 : Int32)) + pp)), .val (.int ((((ps * (31 : Int32)) + pe) * (31 : Int32)) + pp)), .val (.int ((((u2 * (31 : Int32)) + v2) * (31 : Int32)) + w2))] [(.int ((((ps * (31 : Int32)) + pe) * (31 : Int32)) + pp))]))
        refine own_step (fun _ κ => XS.iload X52.here hx rfl (hb hby at_119) rfl κ) ?_
        show own_Go _ _ _ _ (T52.setTop (mkF m 121 #[.val (.int ps), .val (.int pe), .val (.int pp), .val (.int fg), .val (.int u2), .val (.int v2), .val (.int w2), .val (.ref b4), .val (.ref b10), .val (.ref b25), .val (.int ((((ps * (31 : Int32)) + pe) * (31 : Int32)) + pp)), .val (.int ((((ps * (31 : Int32)) + pe) * (31 : Int32)) + pp)), .val (.int ((((u2 * (31 : Int32)) + v2) * (31 : Int32)) + w2))] [(.int ((((ps * (31 : Int32)) + pe) * (31 : Int32)) + pp)), (.int ((((ps * (31 : Int32)) + pe) * (31 : Int32)) + pp))]))
        refine own_step (fun _ κ => XS.icmpYes X52.here hx rfl (pc0 := 121) (pc' := 126) rfl (hb hby at_121) rfl (teq rfl).1 (by decide) (by decide) κ) ?_
        show own_Go _ _ _ _ (T52.setTop (mkF m 126 #[.val (.int ps), .val (.int pe), .val (.int pp), .val (.int fg), .val (.int u2), .val (.int v2), .val (.int w2), .val (.ref b4), .val (.ref b10), .val (.ref b25), .val (.int ((((ps * (31 : Int32)) + pe) * (31 : Int32)) + pp)), .val (.int ((((ps * (31 : Int32)) + pe) * (31 : Int32)) + pp)), .val (.int ((((u2 * (31 : Int32)) + v2) * (31 : Int32)) + w2))] []))
        refine own_step (fun _ κ => XS.iload X52.here hx rfl (hb hby at_126) rfl κ) ?_
        show own_Go _ _ _ _ (T52.setTop (mkF m 128 #[.val (.int ps), .val (.int pe), .val (.int pp), .val (.int fg), .val (.int u2), .val (.int v2), .val (.int w2), .val (.ref b4), .val (.ref b10), .val (.ref b25), .val (.int ((((ps * (31 : Int32)) + pe) * (31 : Int32)) + pp)), .val (.int ((((ps * (31 : Int32)) + pe) * (31 : Int32)) + pp)), .val (.int ((((u2 * (31 : Int32)) + v2) * (31 : Int32)) + w2))] [(.int ((((ps * (31 : Int32)) + pe) * (31 : Int32)) + pp))]))
        refine own_step (fun _ κ => XS.aload X52.here hx rfl (hb hby at_128) rfl rfl κ) ?_
        show own_Go _ _ _ _ (T52.setTop (mkF m 130 #[.val (.int ps), .val (.int pe), .val (.int pp), .val (.int fg), .val (.int u2), .val (.int v2), .val (.int w2), .val (.ref b4), .val (.ref b10), .val (.ref b25), .val (.int ((((ps * (31 : Int32)) + pe) * (31 : Int32)) + pp)), .val (.int ((((ps * (31 : Int32)) + pe) * (31 : Int32)) + pp)), .val (.int ((((u2 * (31 : Int32)) + v2) * (31 : Int32)) + w2))] [(.ref b4), (.int ((((ps * (31 : Int32)) + pe) * (31 : Int32)) + pp))]))
        obtain ⟨cq53, kq53, q53a, q53b, q53c⟩ := isOf hZ eq52 f39
        obtain ⟨vr53, _, ⟨T53, L53, k53, n53⟩, -, X53, ⟨Lc53, hQ53, l53, y53, z53⟩, st53⟩ := X52.virtualBack hx (y := (⟨"com/example/failpath/failpath/Match", "hashCode", "()I"⟩ : MethodName)) (z := (⟨"com/example/failpath/failpath/Match", "hashCode", "()I"⟩ : MethodName)) hown (mvT hZ (hw _ (List.mem_of_getElem? (i := 15) rfl))) (mvT hZ (hw _ (List.mem_of_getElem? (i := 16) rfl))) (notFace_of_selects (args := #[]) (mvT hZ (hw _ (List.mem_of_getElem? (i := 18) rfl)))) (mvT hZ (hw _ (List.mem_of_getElem? (i := 18) rfl))) (mvT hZ (hw _ (List.mem_of_getElem? (i := 17) rfl))) (by decide) (backOf (W := 1) (rm3 l Z a0 hw [] b4 ps pe pp T38.heap n0 z48 f40 f41 f42) hZ (hw _ (List.mem_of_getElem? (i := 19) rfl)) (hw _ (List.mem_of_getElem? (i := 2) rfl)) (by decide) (by decide)) q53a q53c (g := (mkF m 130 #[.val (.int ps), .val (.int pe), .val (.int pp), .val (.int fg), .val (.int u2), .val (.int v2), .val (.int w2), .val (.ref b4), .val (.ref b10), .val (.ref b25), .val (.int ((((ps * (31 : Int32)) + pe) * (31 : Int32)) + pp)), .val (.int ((((ps * (31 : Int32)) + pe) * (31 : Int32)) + pp)), .val (.int ((((u2 * (31 : Int32)) + v2) * (31 : Int32)) + w2))] [(.ref b4), (.int ((((ps * (31 : Int32)) + pe) * (31 : Int32)) + pp))])) rfl (by rw [hml]; rfl) (Steps.refl _) (argsL := []) (rest := [(.int ((((ps * (31 : Int32)) + pe) * (31 : Int32)) + pp))]) (lenOf pd_1 rfl) rfl (by show 2 * 0 + _ ≤ _; exact Nat.le_of_eq rfl) (hb hby at_130) (fun _ _ => ⟨rfl, eq52, (by decide : 3 + 0 ≤ _), (by decide : 9 + 0 ≤ _)⟩)
        dsimp only [Pt.U, Pt.locs, Pt.cells, Pt.slots] at X53 l53 y53 z53 st53 hQ53
        subst l53 y53 z53
        obtain ⟨rfl, Nq53, eq53⟩ := hQ53
        have N53 := Fr.app N52 Nq53
        refine own_step (fun _ κ => st53.trans κ) ?_
        show own_Go _ _ _ _ (T53.setTop (mkF m 133 #[.val (.int ps), .val (.int pe), .val (.int pp), .val (.int fg), .val (.int u2), .val (.int v2), .val (.int w2), .val (.ref b4), .val (.ref b10), .val (.ref b25), .val (.int ((((ps * (31 : Int32)) + pe) * (31 : Int32)) + pp)), .val (.int ((((ps * (31 : Int32)) + pe) * (31 : Int32)) + pp)), .val (.int ((((u2 * (31 : Int32)) + v2) * (31 : Int32)) + w2))] [(.int ((((ps * (31 : Int32)) + pe) * (31 : Int32)) + pp)), (.int ((((ps * (31 : Int32)) + pe) * (31 : Int32)) + pp))]))
        refine own_step (fun _ κ => XS.icmpYes X53.here hx rfl (pc0 := 133) (pc' := 138) rfl (hb hby at_133) rfl (teq rfl).1 (by decide) (by decide) κ) ?_
        show own_Go _ _ _ _ (T53.setTop (mkF m 138 #[.val (.int ps), .val (.int pe), .val (.int pp), .val (.int fg), .val (.int u2), .val (.int v2), .val (.int w2), .val (.ref b4), .val (.ref b10), .val (.ref b25), .val (.int ((((ps * (31 : Int32)) + pe) * (31 : Int32)) + pp)), .val (.int ((((ps * (31 : Int32)) + pe) * (31 : Int32)) + pp)), .val (.int ((((u2 * (31 : Int32)) + v2) * (31 : Int32)) + w2))] []))
        refine own_step (fun _ κ => XS.aload X53.here hx rfl (hb hby at_138) rfl rfl κ) ?_
        show own_Go _ _ _ _ (T53.setTop (mkF m 140 #[.val (.int ps), .val (.int pe), .val (.int pp), .val (.int fg), .val (.int u2), .val (.int v2), .val (.int w2), .val (.ref b4), .val (.ref b10), .val (.ref b25), .val (.int ((((ps * (31 : Int32)) + pe) * (31 : Int32)) + pp)), .val (.int ((((ps * (31 : Int32)) + pe) * (31 : Int32)) + pp)), .val (.int ((((u2 * (31 : Int32)) + v2) * (31 : Int32)) + w2))] [(.ref b4)]))
        refine own_step (fun _ κ => XS.aload X53.here hx rfl (hb hby at_140) rfl rfl κ) ?_
        show own_Go _ _ _ _ (T53.setTop (mkF m 142 #[.val (.int ps), .val (.int pe), .val (.int pp), .val (.int fg), .val (.int u2), .val (.int v2), .val (.int w2), .val (.ref b4), .val (.ref b10), .val (.ref b25), .val (.int ((((ps * (31 : Int32)) + pe) * (31 : Int32)) + pp)), .val (.int ((((ps * (31 : Int32)) + pe) * (31 : Int32)) + pp)), .val (.int ((((u2 * (31 : Int32)) + v2) * (31 : Int32)) + w2))] [(.ref b25), (.ref b4)]))
        obtain ⟨cq54, kq54, q54a, q54b, q54c⟩ := isOf hZ eq53 f39
        obtain ⟨vr54, _, ⟨T54, L54, k54, n54⟩, -, X54, ⟨Lc54, hQ54, l54, y54, z54⟩, st54⟩ := X53.virtualBack hx (y := (⟨"com/example/failpath/failpath/Match", "equals", "(Ljava/lang/Object;)Z"⟩ : MethodName)) (z := (⟨"com/example/failpath/failpath/Match", "equals", "(Ljava/lang/Object;)Z"⟩ : MethodName)) hown (mvT hZ (hw _ (List.mem_of_getElem? (i := 20) rfl))) (mvT hZ (hw _ (List.mem_of_getElem? (i := 21) rfl))) (notFace_of_selects (args := #[]) (mvT hZ (hw _ (List.mem_of_getElem? (i := 23) rfl)))) (mvT hZ (hw _ (List.mem_of_getElem? (i := 23) rfl))) (mvT hZ (hw _ (List.mem_of_getElem? (i := 22) rfl))) (by decide) (backOf (W := 0) (rm4 l Z a0 hw [] b4 b25 ps pe pp u2 v2 w2 T38.heap n0 z48 p38_0 f40 f41 f42 p38_1 p38_2 p38_3) hZ (hw _ (List.mem_of_getElem? (i := 24) rfl)) (hw _ (List.mem_of_getElem? (i := 2) rfl)) (by decide) (by decide)) q54a q54c (g := (mkF m 142 #[.val (.int ps), .val (.int pe), .val (.int pp), .val (.int fg), .val (.int u2), .val (.int v2), .val (.int w2), .val (.ref b4), .val (.ref b10), .val (.ref b25), .val (.int ((((ps * (31 : Int32)) + pe) * (31 : Int32)) + pp)), .val (.int ((((ps * (31 : Int32)) + pe) * (31 : Int32)) + pp)), .val (.int ((((u2 * (31 : Int32)) + v2) * (31 : Int32)) + w2))] [(.ref b25), (.ref b4)])) rfl (by rw [hml]; rfl) (Steps.refl _) (argsL := [(.ref b25)]) (rest := []) (lenOf pd_2 rfl) rfl (by show 2 * 0 + _ ≤ _; exact Nat.le_of_eq rfl) (hb hby at_142) (fun _ _ => ⟨rfl, eq53, (by decide : 3 + 0 ≤ _), (by decide : 9 + 0 ≤ _)⟩)
        dsimp only [Pt.U, Pt.locs, Pt.cells, Pt.slots] at X54 l54 y54 z54 st54 hQ54
        subst l54 y54 z54
        obtain ⟨hv54, Nq54, eq54⟩ := hQ54
        have N54 := Fr.app N53 Nq54
        by_cases hc55 : ps = u2
        · rw [if_pos hc55] at hv54
          by_cases hc56 : pe = v2
          · rw [if_pos hc56] at hv54
            by_cases hc57 : pp = w2
            · rw [if_pos hc57] at hv54
              subst hv54
              refine own_step (fun _ κ => st54.trans κ) ?_
              show own_Go _ _ _ _ (T54.setTop (mkF m 145 #[.val (.int ps), .val (.int pe), .val (.int pp), .val (.int fg), .val (.int u2), .val (.int v2), .val (.int w2), .val (.ref b4), .val (.ref b10), .val (.ref b25), .val (.int ((((ps * (31 : Int32)) + pe) * (31 : Int32)) + pp)), .val (.int ((((ps * (31 : Int32)) + pe) * (31 : Int32)) + pp)), .val (.int ((((u2 * (31 : Int32)) + v2) * (31 : Int32)) + w2))] [(.int (1 : Int32))]))
              refine own_step (fun _ κ => XS.ifNo X54.here hx rfl (hb hby at_145) rfl ((if0 _ _).trans (feq (by decide)).1) κ) ?_
              show own_Go _ _ _ _ (T54.setTop (mkF m 148 #[.val (.int ps), .val (.int pe), .val (.int pp), .val (.int fg), .val (.int u2), .val (.int v2), .val (.int w2), .val (.ref b4), .val (.ref b10), .val (.ref b25), .val (.int ((((ps * (31 : Int32)) + pe) * (31 : Int32)) + pp)), .val (.int ((((ps * (31 : Int32)) + pe) * (31 : Int32)) + pp)), .val (.int ((((u2 * (31 : Int32)) + v2) * (31 : Int32)) + w2))] []))
              refine own_step (fun _ κ => XS.iload X54.here hx rfl (hb hby at_148) rfl κ) ?_
              show own_Go _ _ _ _ (T54.setTop (mkF m 150 #[.val (.int ps), .val (.int pe), .val (.int pp), .val (.int fg), .val (.int u2), .val (.int v2), .val (.int w2), .val (.ref b4), .val (.ref b10), .val (.ref b25), .val (.int ((((ps * (31 : Int32)) + pe) * (31 : Int32)) + pp)), .val (.int ((((ps * (31 : Int32)) + pe) * (31 : Int32)) + pp)), .val (.int ((((u2 * (31 : Int32)) + v2) * (31 : Int32)) + w2))] [(.int ((((ps * (31 : Int32)) + pe) * (31 : Int32)) + pp))]))
              refine own_step (fun _ κ => XS.iload X54.here hx rfl (hb hby at_150) rfl κ) ?_
              show own_Go _ _ _ _ (T54.setTop (mkF m 152 #[.val (.int ps), .val (.int pe), .val (.int pp), .val (.int fg), .val (.int u2), .val (.int v2), .val (.int w2), .val (.ref b4), .val (.ref b10), .val (.ref b25), .val (.int ((((ps * (31 : Int32)) + pe) * (31 : Int32)) + pp)), .val (.int ((((ps * (31 : Int32)) + pe) * (31 : Int32)) + pp)), .val (.int ((((u2 * (31 : Int32)) + v2) * (31 : Int32)) + w2))] [(.int ((((u2 * (31 : Int32)) + v2) * (31 : Int32)) + w2)), (.int ((((ps * (31 : Int32)) + pe) * (31 : Int32)) + pp))]))
              refine own_step (fun _ κ => XS.icmpYes X54.here hx rfl (pc0 := 152) (pc' := 157) rfl (hb hby at_152) rfl (teq (by rw [← hc55, ← hc56, ← hc57])).1 (by decide) (by decide) κ) ?_
              show own_Go _ _ _ _ (T54.setTop (mkF m 157 #[.val (.int ps), .val (.int pe), .val (.int pp), .val (.int fg), .val (.int u2), .val (.int v2), .val (.int w2), .val (.ref b4), .val (.ref b10), .val (.ref b25), .val (.int ((((ps * (31 : Int32)) + pe) * (31 : Int32)) + pp)), .val (.int ((((ps * (31 : Int32)) + pe) * (31 : Int32)) + pp)), .val (.int ((((u2 * (31 : Int32)) + v2) * (31 : Int32)) + w2))] []))
              refine own_step (fun _ κ => XS.iconst X54.here hx rfl (hb hby at_157) κ) ?_
              show own_Go _ _ _ _ (T54.setTop (mkF m 158 #[.val (.int ps), .val (.int pe), .val (.int pp), .val (.int fg), .val (.int u2), .val (.int v2), .val (.int w2), .val (.ref b4), .val (.ref b10), .val (.ref b25), .val (.int ((((ps * (31 : Int32)) + pe) * (31 : Int32)) + pp)), .val (.int ((((ps * (31 : Int32)) + pe) * (31 : Int32)) + pp)), .val (.int ((((u2 * (31 : Int32)) + v2) * (31 : Int32)) + w2))] [(.int (1 : Int32))]))
              obtain ⟨fs, hr, hrun, hended, hW, hsame⟩ := X54.leave (v := some (.int (1 : Int32))) (fun h => by rw [Bd.returns] at h; cases h)
              refine ⟨_, _, retN X54 hx (t := .boolean) Bd.returns (by simp) (hb hby at_158) hr, hrun, hended, _, _, rfl, ?_, ⟨_, rfl⟩, hW, hsame.mono (by decide) (by decide)⟩
              show Q0 Z ps pe pp fg  h0 n0 _ T54.heap _
              exact ⟨rfl, N54⟩
            · rw [if_neg hc57] at hv54
              subst hv54
              refine own_step (fun _ κ => st54.trans κ) ?_
              show own_Go _ _ _ _ (T54.setTop (mkF m 145 #[.val (.int ps), .val (.int pe), .val (.int pp), .val (.int fg), .val (.int u2), .val (.int v2), .val (.int w2), .val (.ref b4), .val (.ref b10), .val (.ref b25), .val (.int ((((ps * (31 : Int32)) + pe) * (31 : Int32)) + pp)), .val (.int ((((ps * (31 : Int32)) + pe) * (31 : Int32)) + pp)), .val (.int ((((u2 * (31 : Int32)) + v2) * (31 : Int32)) + w2))] [(.int (0 : Int32))]))
              refine own_step (fun _ κ => XS.ifYes X54.here hx rfl (pc0 := 145) (pc' := 157) rfl (hb hby at_145) rfl ((if0 _ _).trans (teq rfl).1) (by decide) (by decide) κ) ?_
              show own_Go _ _ _ _ (T54.setTop (mkF m 157 #[.val (.int ps), .val (.int pe), .val (.int pp), .val (.int fg), .val (.int u2), .val (.int v2), .val (.int w2), .val (.ref b4), .val (.ref b10), .val (.ref b25), .val (.int ((((ps * (31 : Int32)) + pe) * (31 : Int32)) + pp)), .val (.int ((((ps * (31 : Int32)) + pe) * (31 : Int32)) + pp)), .val (.int ((((u2 * (31 : Int32)) + v2) * (31 : Int32)) + w2))] []))
              refine own_step (fun _ κ => XS.iconst X54.here hx rfl (hb hby at_157) κ) ?_
              show own_Go _ _ _ _ (T54.setTop (mkF m 158 #[.val (.int ps), .val (.int pe), .val (.int pp), .val (.int fg), .val (.int u2), .val (.int v2), .val (.int w2), .val (.ref b4), .val (.ref b10), .val (.ref b25), .val (.int ((((ps * (31 : Int32)) + pe) * (31 : Int32)) + pp)), .val (.int ((((ps * (31 : Int32)) + pe) * (31 : Int32)) + pp)), .val (.int ((((u2 * (31 : Int32)) + v2) * (31 : Int32)) + w2))] [(.int (1 : Int32))]))
              obtain ⟨fs, hr, hrun, hended, hW, hsame⟩ := X54.leave (v := some (.int (1 : Int32))) (fun h => by rw [Bd.returns] at h; cases h)
              refine ⟨_, _, retN X54 hx (t := .boolean) Bd.returns (by simp) (hb hby at_158) hr, hrun, hended, _, _, rfl, ?_, ⟨_, rfl⟩, hW, hsame.mono (by decide) (by decide)⟩
              show Q0 Z ps pe pp fg  h0 n0 _ T54.heap _
              exact ⟨rfl, N54⟩
          · rw [if_neg hc56] at hv54
            subst hv54
            refine own_step (fun _ κ => st54.trans κ) ?_
            show own_Go _ _ _ _ (T54.setTop (mkF m 145 #[.val (.int ps), .val (.int pe), .val (.int pp), .val (.int fg), .val (.int u2), .val (.int v2), .val (.int w2), .val (.ref b4), .val (.ref b10), .val (.ref b25), .val (.int ((((ps * (31 : Int32)) + pe) * (31 : Int32)) + pp)), .val (.int ((((ps * (31 : Int32)) + pe) * (31 : Int32)) + pp)), .val (.int ((((u2 * (31 : Int32)) + v2) * (31 : Int32)) + w2))] [(.int (0 : Int32))]))
            refine own_step (fun _ κ => XS.ifYes X54.here hx rfl (pc0 := 145) (pc' := 157) rfl (hb hby at_145) rfl ((if0 _ _).trans (teq rfl).1) (by decide) (by decide) κ) ?_
            show own_Go _ _ _ _ (T54.setTop (mkF m 157 #[.val (.int ps), .val (.int pe), .val (.int pp), .val (.int fg), .val (.int u2), .val (.int v2), .val (.int w2), .val (.ref b4), .val (.ref b10), .val (.ref b25), .val (.int ((((ps * (31 : Int32)) + pe) * (31 : Int32)) + pp)), .val (.int ((((ps * (31 : Int32)) + pe) * (31 : Int32)) + pp)), .val (.int ((((u2 * (31 : Int32)) + v2) * (31 : Int32)) + w2))] []))
            refine own_step (fun _ κ => XS.iconst X54.here hx rfl (hb hby at_157) κ) ?_
            show own_Go _ _ _ _ (T54.setTop (mkF m 158 #[.val (.int ps), .val (.int pe), .val (.int pp), .val (.int fg), .val (.int u2), .val (.int v2), .val (.int w2), .val (.ref b4), .val (.ref b10), .val (.ref b25), .val (.int ((((ps * (31 : Int32)) + pe) * (31 : Int32)) + pp)), .val (.int ((((ps * (31 : Int32)) + pe) * (31 : Int32)) + pp)), .val (.int ((((u2 * (31 : Int32)) + v2) * (31 : Int32)) + w2))] [(.int (1 : Int32))]))
            obtain ⟨fs, hr, hrun, hended, hW, hsame⟩ := X54.leave (v := some (.int (1 : Int32))) (fun h => by rw [Bd.returns] at h; cases h)
            refine ⟨_, _, retN X54 hx (t := .boolean) Bd.returns (by simp) (hb hby at_158) hr, hrun, hended, _, _, rfl, ?_, ⟨_, rfl⟩, hW, hsame.mono (by decide) (by decide)⟩
            show Q0 Z ps pe pp fg  h0 n0 _ T54.heap _
            exact ⟨rfl, N54⟩
        · rw [if_neg hc55] at hv54
          subst hv54
          refine own_step (fun _ κ => st54.trans κ) ?_
          show own_Go _ _ _ _ (T54.setTop (mkF m 145 #[.val (.int ps), .val (.int pe), .val (.int pp), .val (.int fg), .val (.int u2), .val (.int v2), .val (.int w2), .val (.ref b4), .val (.ref b10), .val (.ref b25), .val (.int ((((ps * (31 : Int32)) + pe) * (31 : Int32)) + pp)), .val (.int ((((ps * (31 : Int32)) + pe) * (31 : Int32)) + pp)), .val (.int ((((u2 * (31 : Int32)) + v2) * (31 : Int32)) + w2))] [(.int (0 : Int32))]))
          refine own_step (fun _ κ => XS.ifYes X54.here hx rfl (pc0 := 145) (pc' := 157) rfl (hb hby at_145) rfl ((if0 _ _).trans (teq rfl).1) (by decide) (by decide) κ) ?_
          show own_Go _ _ _ _ (T54.setTop (mkF m 157 #[.val (.int ps), .val (.int pe), .val (.int pp), .val (.int fg), .val (.int u2), .val (.int v2), .val (.int w2), .val (.ref b4), .val (.ref b10), .val (.ref b25), .val (.int ((((ps * (31 : Int32)) + pe) * (31 : Int32)) + pp)), .val (.int ((((ps * (31 : Int32)) + pe) * (31 : Int32)) + pp)), .val (.int ((((u2 * (31 : Int32)) + v2) * (31 : Int32)) + w2))] []))
          refine own_step (fun _ κ => XS.iconst X54.here hx rfl (hb hby at_157) κ) ?_
          show own_Go _ _ _ _ (T54.setTop (mkF m 158 #[.val (.int ps), .val (.int pe), .val (.int pp), .val (.int fg), .val (.int u2), .val (.int v2), .val (.int w2), .val (.ref b4), .val (.ref b10), .val (.ref b25), .val (.int ((((ps * (31 : Int32)) + pe) * (31 : Int32)) + pp)), .val (.int ((((ps * (31 : Int32)) + pe) * (31 : Int32)) + pp)), .val (.int ((((u2 * (31 : Int32)) + v2) * (31 : Int32)) + w2))] [(.int (1 : Int32))]))
          obtain ⟨fs, hr, hrun, hended, hW, hsame⟩ := X54.leave (v := some (.int (1 : Int32))) (fun h => by rw [Bd.returns] at h; cases h)
          refine ⟨_, _, retN X54 hx (t := .boolean) Bd.returns (by simp) (hb hby at_158) hr, hrun, hended, _, _, rfl, ?_, ⟨_, rfl⟩, hW, hsame.mono (by decide) (by decide)⟩
          show Q0 Z ps pe pp fg  h0 n0 _ T54.heap _
          exact ⟨rfl, N54⟩
      · intro J3
        show own_Go _ _ _ _ (T2.setTop (mkF m 30 #[.val (.int ps), .val (.int pe), .val (.int pp), .val (.int fg), .val (.int u2), .val (.int v2), .unset, .unset, .unset, .unset, .unset, .unset, .unset] []))
        refine own_step (fun _ κ => XS.iloadN X2.here hx rfl (hb hby at_30) rfl κ) ?_
        show own_Go _ _ _ _ (T2.setTop (mkF m 31 #[.val (.int ps), .val (.int pe), .val (.int pp), .val (.int fg), .val (.int u2), .val (.int v2), .unset, .unset, .unset, .unset, .unset, .unset, .unset] [(.int fg)]))
        refine own_step (fun _ κ => XS.iconst X2.here hx rfl (hb hby at_31) κ) ?_
        show own_Go _ _ _ _ (T2.setTop (mkF m 32 #[.val (.int ps), .val (.int pe), .val (.int pp), .val (.int fg), .val (.int u2), .val (.int v2), .unset, .unset, .unset, .unset, .unset, .unset, .unset] [(.int (4 : Int32)), (.int fg)]))
        refine own_step (fun _ κ => XS.iand X2.here hx rfl (hb hby at_32) rfl κ) ?_
        show own_Go _ _ _ _ (T2.setTop (mkF m 33 #[.val (.int ps), .val (.int pe), .val (.int pp), .val (.int fg), .val (.int u2), .val (.int v2), .unset, .unset, .unset, .unset, .unset, .unset, .unset] [(.int (fg &&& (4 : Int32)))]))
        by_cases hc58 : (fg &&& (4 : Int32)) = (0 : Int32)
        · refine own_step (fun _ κ => XS.ifYes X2.here hx rfl (pc0 := 33) (pc' := 40) rfl (hb hby at_33) rfl ((if0 _ _).trans (teq hc58).1) (by decide) (by decide) κ) ?_
          show own_Go _ _ _ _ (T2.setTop (mkF m 40 #[.val (.int ps), .val (.int pe), .val (.int pp), .val (.int fg), .val (.int u2), .val (.int v2), .unset, .unset, .unset, .unset, .unset, .unset, .unset] []))
          refine own_step (fun _ κ => XS.iloadN X2.here hx rfl (hb hby at_40) rfl κ) ?_
          show own_Go _ _ _ _ (T2.setTop (mkF m 41 #[.val (.int ps), .val (.int pe), .val (.int pp), .val (.int fg), .val (.int u2), .val (.int v2), .unset, .unset, .unset, .unset, .unset, .unset, .unset] [(.int pp)]))
          refine own_step (fun _ κ => XS.iconst X2.here hx rfl (hb hby at_41) κ) ?_
          show own_Go _ _ _ _ (T2.setTop (mkF m 42 #[.val (.int ps), .val (.int pe), .val (.int pp), .val (.int fg), .val (.int u2), .val (.int v2), .unset, .unset, .unset, .unset, .unset, .unset, .unset] [(.int (1 : Int32)), (.int pp)]))
          refine own_step (fun _ κ => XS.isub X2.here hx rfl (hb hby at_42) rfl κ) ?_
          show own_Go _ _ _ _ (T2.setTop (mkF m 43 #[.val (.int ps), .val (.int pe), .val (.int pp), .val (.int fg), .val (.int u2), .val (.int v2), .unset, .unset, .unset, .unset, .unset, .unset, .unset] [(.int (pp - (1 : Int32)))]))
          exact J3 _ _ X2 e2 trivial
        · refine own_step (fun _ κ => XS.ifNo X2.here hx rfl (hb hby at_33) rfl ((if0 _ _).trans (feq hc58).1) κ) ?_
          show own_Go _ _ _ _ (T2.setTop (mkF m 36 #[.val (.int ps), .val (.int pe), .val (.int pp), .val (.int fg), .val (.int u2), .val (.int v2), .unset, .unset, .unset, .unset, .unset, .unset, .unset] []))
          refine own_step (fun _ κ => XS.iloadN X2.here hx rfl (hb hby at_36) rfl κ) ?_
          show own_Go _ _ _ _ (T2.setTop (mkF m 37 #[.val (.int ps), .val (.int pe), .val (.int pp), .val (.int fg), .val (.int u2), .val (.int v2), .unset, .unset, .unset, .unset, .unset, .unset, .unset] [(.int pp)]))
          refine own_step (fun _ κ => XS.goto X2.here hx rfl (pc0 := 37) (pc' := 43) rfl (hb hby at_37) (by decide) (by decide) κ) ?_
          show own_Go _ _ _ _ (T2.setTop (mkF m 43 #[.val (.int ps), .val (.int pe), .val (.int pp), .val (.int fg), .val (.int u2), .val (.int v2), .unset, .unset, .unset, .unset, .unset, .unset, .unset] [(.int pp)]))
          exact J3 _ _ X2 e2 trivial
    · intro J2
      show own_Go _ _ _ _ (T1.setTop (mkF m 15 #[.val (.int ps), .val (.int pe), .val (.int pp), .val (.int fg), .val (.int u2), .unset, .unset, .unset, .unset, .unset, .unset, .unset, .unset] []))
      refine own_step (fun _ κ => XS.iloadN X1.here hx rfl (hb hby at_15) rfl κ) ?_
      show own_Go _ _ _ _ (T1.setTop (mkF m 16 #[.val (.int ps), .val (.int pe), .val (.int pp), .val (.int fg), .val (.int u2), .unset, .unset, .unset, .unset, .unset, .unset, .unset, .unset] [(.int fg)]))
      refine own_step (fun _ κ => XS.iconst X1.here hx rfl (hb hby at_16) κ) ?_
      show own_Go _ _ _ _ (T1.setTop (mkF m 17 #[.val (.int ps), .val (.int pe), .val (.int pp), .val (.int fg), .val (.int u2), .unset, .unset, .unset, .unset, .unset, .unset, .unset, .unset] [(.int (2 : Int32)), (.int fg)]))
      refine own_step (fun _ κ => XS.iand X1.here hx rfl (hb hby at_17) rfl κ) ?_
      show own_Go _ _ _ _ (T1.setTop (mkF m 18 #[.val (.int ps), .val (.int pe), .val (.int pp), .val (.int fg), .val (.int u2), .unset, .unset, .unset, .unset, .unset, .unset, .unset, .unset] [(.int (fg &&& (2 : Int32)))]))
      by_cases hc59 : (fg &&& (2 : Int32)) = (0 : Int32)
      · refine own_step (fun _ κ => XS.ifYes X1.here hx rfl (pc0 := 18) (pc' := 25) rfl (hb hby at_18) rfl ((if0 _ _).trans (teq hc59).1) (by decide) (by decide) κ) ?_
        show own_Go _ _ _ _ (T1.setTop (mkF m 25 #[.val (.int ps), .val (.int pe), .val (.int pp), .val (.int fg), .val (.int u2), .unset, .unset, .unset, .unset, .unset, .unset, .unset, .unset] []))
        refine own_step (fun _ κ => XS.iloadN X1.here hx rfl (hb hby at_25) rfl κ) ?_
        show own_Go _ _ _ _ (T1.setTop (mkF m 26 #[.val (.int ps), .val (.int pe), .val (.int pp), .val (.int fg), .val (.int u2), .unset, .unset, .unset, .unset, .unset, .unset, .unset, .unset] [(.int pe)]))
        refine own_step (fun _ κ => XS.iconst X1.here hx rfl (hb hby at_26) κ) ?_
        show own_Go _ _ _ _ (T1.setTop (mkF m 27 #[.val (.int ps), .val (.int pe), .val (.int pp), .val (.int fg), .val (.int u2), .unset, .unset, .unset, .unset, .unset, .unset, .unset, .unset] [(.int (1 : Int32)), (.int pe)]))
        refine own_step (fun _ κ => XS.ixor X1.here hx rfl (hb hby at_27) rfl κ) ?_
        show own_Go _ _ _ _ (T1.setTop (mkF m 28 #[.val (.int ps), .val (.int pe), .val (.int pp), .val (.int fg), .val (.int u2), .unset, .unset, .unset, .unset, .unset, .unset, .unset, .unset] [(.int (pe ^^^ (1 : Int32)))]))
        exact J2 _ _ X1 e1 trivial
      · refine own_step (fun _ κ => XS.ifNo X1.here hx rfl (hb hby at_18) rfl ((if0 _ _).trans (feq hc59).1) κ) ?_
        show own_Go _ _ _ _ (T1.setTop (mkF m 21 #[.val (.int ps), .val (.int pe), .val (.int pp), .val (.int fg), .val (.int u2), .unset, .unset, .unset, .unset, .unset, .unset, .unset, .unset] []))
        refine own_step (fun _ κ => XS.iloadN X1.here hx rfl (hb hby at_21) rfl κ) ?_
        show own_Go _ _ _ _ (T1.setTop (mkF m 22 #[.val (.int ps), .val (.int pe), .val (.int pp), .val (.int fg), .val (.int u2), .unset, .unset, .unset, .unset, .unset, .unset, .unset, .unset] [(.int pe)]))
        refine own_step (fun _ κ => XS.goto X1.here hx rfl (pc0 := 22) (pc' := 28) rfl (hb hby at_22) (by decide) (by decide) κ) ?_
        show own_Go _ _ _ _ (T1.setTop (mkF m 28 #[.val (.int ps), .val (.int pe), .val (.int pp), .val (.int fg), .val (.int u2), .unset, .unset, .unset, .unset, .unset, .unset, .unset, .unset] [(.int pe)]))
        exact J2 _ _ X1 e1 trivial
  · intro J1
    show own_Go _ _ _ _ (s₁.setTop (mkF m 0 #[.val (.int ps), .val (.int pe), .val (.int pp), .val (.int fg), .unset, .unset, .unset, .unset, .unset, .unset, .unset, .unset, .unset] []))
    refine own_step (fun _ κ => XS.iloadN X0.here hx rfl (hb hby at_0) rfl κ) ?_
    show own_Go _ _ _ _ (s₁.setTop (mkF m 1 #[.val (.int ps), .val (.int pe), .val (.int pp), .val (.int fg), .unset, .unset, .unset, .unset, .unset, .unset, .unset, .unset, .unset] [(.int fg)]))
    refine own_step (fun _ κ => XS.iconst X0.here hx rfl (hb hby at_1) κ) ?_
    show own_Go _ _ _ _ (s₁.setTop (mkF m 2 #[.val (.int ps), .val (.int pe), .val (.int pp), .val (.int fg), .unset, .unset, .unset, .unset, .unset, .unset, .unset, .unset, .unset] [(.int (1 : Int32)), (.int fg)]))
    refine own_step (fun _ κ => XS.iand X0.here hx rfl (hb hby at_2) rfl κ) ?_
    show own_Go _ _ _ _ (s₁.setTop (mkF m 3 #[.val (.int ps), .val (.int pe), .val (.int pp), .val (.int fg), .unset, .unset, .unset, .unset, .unset, .unset, .unset, .unset, .unset] [(.int (fg &&& (1 : Int32)))]))
    by_cases hc60 : (fg &&& (1 : Int32)) = (0 : Int32)
    · refine own_step (fun _ κ => XS.ifYes X0.here hx rfl (pc0 := 3) (pc' := 10) rfl (hb hby at_3) rfl ((if0 _ _).trans (teq hc60).1) (by decide) (by decide) κ) ?_
      show own_Go _ _ _ _ (s₁.setTop (mkF m 10 #[.val (.int ps), .val (.int pe), .val (.int pp), .val (.int fg), .unset, .unset, .unset, .unset, .unset, .unset, .unset, .unset, .unset] []))
      refine own_step (fun _ κ => XS.iloadN X0.here hx rfl (hb hby at_10) rfl κ) ?_
      show own_Go _ _ _ _ (s₁.setTop (mkF m 11 #[.val (.int ps), .val (.int pe), .val (.int pp), .val (.int fg), .unset, .unset, .unset, .unset, .unset, .unset, .unset, .unset, .unset] [(.int ps)]))
      refine own_step (fun _ κ => XS.iconst X0.here hx rfl (hb hby at_11) κ) ?_
      show own_Go _ _ _ _ (s₁.setTop (mkF m 12 #[.val (.int ps), .val (.int pe), .val (.int pp), .val (.int fg), .unset, .unset, .unset, .unset, .unset, .unset, .unset, .unset, .unset] [(.int (1 : Int32)), (.int ps)]))
      refine own_step (fun _ κ => XS.iadd X0.here hx rfl (hb hby at_12) rfl κ) ?_
      show own_Go _ _ _ _ (s₁.setTop (mkF m 13 #[.val (.int ps), .val (.int pe), .val (.int pp), .val (.int fg), .unset, .unset, .unset, .unset, .unset, .unset, .unset, .unset, .unset] [(.int (ps + (1 : Int32)))]))
      exact J1 _ _ X0 e0 trivial
    · refine own_step (fun _ κ => XS.ifNo X0.here hx rfl (hb hby at_3) rfl ((if0 _ _).trans (feq hc60).1) κ) ?_
      show own_Go _ _ _ _ (s₁.setTop (mkF m 6 #[.val (.int ps), .val (.int pe), .val (.int pp), .val (.int fg), .unset, .unset, .unset, .unset, .unset, .unset, .unset, .unset, .unset] []))
      refine own_step (fun _ κ => XS.iloadN X0.here hx rfl (hb hby at_6) rfl κ) ?_
      show own_Go _ _ _ _ (s₁.setTop (mkF m 7 #[.val (.int ps), .val (.int pe), .val (.int pp), .val (.int fg), .unset, .unset, .unset, .unset, .unset, .unset, .unset, .unset, .unset] [(.int ps)]))
      refine own_step (fun _ κ => XS.goto X0.here hx rfl (pc0 := 7) (pc' := 13) rfl (hb hby at_7) (by decide) (by decide) κ) ?_
      show own_Go _ _ _ _ (s₁.setTop (mkF m 13 #[.val (.int ps), .val (.int pe), .val (.int pp), .val (.int fg), .unset, .unset, .unset, .unset, .unset, .unset, .unset, .unset, .unset] [(.int ps)]))
      exact J1 _ _ X0 e0 trivial
set_option maxRecDepth 65536 in
set_option maxHeartbeats 40000000 in
theorem comes_1 {Post : Tables → Env → Array Value → State → Outcome → State → Prop} (hpost : ∀ tb e args s v u, (limb_1_1.after args s (.returned v) u = true ∧ limb_1_2.after args s (.returned v) u = true ∧ True) → FrameEnd s (.returned v) u (Jvm.fieldLocs frame_1_writes args s ++ Jvm.arrayLocs frame_1_arrays args s ++ Jvm.staticLocs frame_1_statics s) 16 128 → Post tb e args s (.returned v) u) :
    ArmFor flags0 classFile x code maxLocals ret World_1 tables_1 room_1 Calls_1 rest_1 Pre_1 Post := by
  intro l hfl _ _ p e ha hc hk s m args below hf hA hF happ hP
  obtain ⟨hcalls, hrest, hpre⟩ := hP
  obtain ⟨-, -, -, hnamed, -, -, -, hat⟩ := (Spec.applies_iff hf).mp happ
  obtain ⟨hg, hn⟩ := and_e (Cond.before_iff.mp (show (Jvm.Cond.and given_1 narrow_1).before args s = true from hpre))
  obtain ⟨g0, gr0⟩ := and_e hg
  obtain ⟨w0, w1, w2, w3, rfl⟩ : ∃ w0 w1 w2 w3 : Value, args = #[w0, w1, w2, w3] := by
    have hs : args.size = 4 := by simpa [Cond.value, given_1] using g0
    obtain ⟨L⟩ := args
    match L, hs with
    | [w0, w1, w2, w3], _ => exact ⟨w0, w1, w2, w3, rfl⟩
  have hw := fun d (hd : d ∈ tables_1) => atoms_spec (ws := Jvm.Cond.code x code maxLocals ret :: tables_1) hat d (List.mem_cons_of_mem _ hd)
  have hfit : Fit s := fun {y c} hc i hi => by
    obtain ⟨ha, rfl⟩ := Array.getElem?_eq_some_iff.mp hc
    have q := List.all_eq_true.mp ((Array.all_eq_true_iff_forall_mem.mp hF) _ (Array.getElem_mem ha)) i (List.mem_range.mpr hi)
    simpa [Array.getElem?_eq_getElem hi] using q
  obtain ⟨ga0, gr1⟩ := and_e gr0
  obtain ⟨i0, ei0⟩ := is_v ga0
  obtain rfl : w0 = (.int i0) := Option.some.inj ei0
  obtain ⟨ga1, gr2⟩ := and_e gr1
  obtain ⟨i1, ei1⟩ := is_v ga1
  obtain rfl : w1 = (.int i1) := Option.some.inj ei1
  obtain ⟨ga2, gr3⟩ := and_e gr2
  obtain ⟨i2, ei2⟩ := is_v ga2
  obtain rfl : w2 = (.int i2) := Option.some.inj ei2
  obtain ⟨i3, ei3⟩ := is_v gr3
  obtain rfl : w3 = (.int i3) := Option.some.inj ei3
  obtain ⟨n, o, h1, h2, h3, _, L, rfl, ⟨rfl, N⟩, hq⟩ := rm0 l s _ hw tables_1 i0 i1 i2 i3 s.heap s.heap.size (Nat.le_refl _) p e ha hc hk s m _ below hf ((Spec.applies_iff_loose hf).mp happ).1 ⟨rfl, State.Warmed39.refl s, rfl⟩ trivial
  refine ⟨n, _, h1, h2, h3, hpost _ _ _ _ _ _ ⟨Cond.after_iff.mpr rfl, Cond.after_iff.mpr (eq_i res_at (Term.int_eval (1)) rfl), trivial⟩ ⟨hq.1, hq.2.1, (hq.2.2.sift fun y hy => Or.inr (N y hy)).mono (by decide) (by decide)⟩⟩
theorem main_1_1 : Claimed_1_1 := comes_1 fun _ _ _ _ _ _ h hF => ⟨h.1, hF⟩
theorem main_1_2 : Claimed_1_2 := comes_1 fun _ _ _ _ _ _ h hF => ⟨h.2.1, hF⟩
end Jvm.Pilot.@@N@@
namespace Jvm.Pilot.@@N@@
open Jvm Jvm.ClassFile Sem Op Lib Jvm.Free Jvm.Stand Jvm.Pilot.@@N@@.Jvm.D
/-! MADE BY PROGRAM (witnessworld.py) out of the Statement's table words and the real class files: 9 classes; the members and pool entries that the words name. The judged class is class 1, her method 1. -/
namespace start1
open Jvm.ClassFile
def u (s : String) : CpInfo := .utf8 (stringToUtf16 s)
/-- a pool by its gaps: so many unusable entries, then the entry; so many at the end -/
def gap : Nat → List CpInfo → List CpInfo
  | 0, r => r
  | n + 1, r => .unusable :: gap n r
def poolList (es : List (Nat × CpInfo)) (last : Nat) : List CpInfo := es.foldr (fun e r => gap e.1 (e.2 :: r)) (gap last [])
def pool (es : List (Nat × CpInfo)) (last : Nat) : Array CpInfo := ⟨poolList es last⟩
def fileOf (pool : Array CpInfo) (this : Nat) (attrs : Array Attribute := #[]) (ms : Array MethodInfo := #[]) (fl : Nat := 33) (sup : Nat := 0) (ifs : Array Nat := #[]) (fds : Array FieldInfo := #[]) : ClassFile where
  minorVersion := 0
  majorVersion := 65
  constantPool := pool
  accessFlags := fl
  thisClass := this
  superClass := sup
  interfaces := ifs
  fields := fds
  methods := ms
  attributes := attrs
def plain (name : String) (sup : Option ClassId) : Class where
  name := name
  kind := .ordinary
  loader := none
  accessFlags := 33
  super := sup
  interfaces := #[]
  cf := none
  fields := #[]
  methods := #[]
  instanceTypes := #[]
  staticTypes := #[]
  resolved := #[]
  callSites := []
  init := .initialized
  statics := none
  mirror := none

def pool0 : Array CpInfo := pool [(5, u "<init>"), (0, u "()V"), (1, .class_ 10), (1, u "java/lang/Object")] 113

def k0c0 : Code := { maxStack := 0, maxLocals := 1, code := object_method_1_code, exceptionTable := #[], attributes := #[] }
def k0m0 : Method := { name := "<init>", desc := "()V", sig := { parameters := [], returnType := none }, accessFlags := 1, code := some k0c0 }
/-- java/lang/Object -/
def k0 : Class := { plain "java/lang/Object" none with
  accessFlags := 33
  interfaces := #[]
  cf := some (fileOf pool0 8 #[] #[{ accessFlags := 1, nameIndex := 5, descriptorIndex := 6, attributes := #[] }] 33 0 #[] #[])
  fields := #[]
  methods := #[k0m0]
  instanceTypes := #[]
  staticTypes := #[]
  resolved := Array.replicate 124 none
  statics := none }

def pool1 : Array CpInfo := pool [(2, .class_ 4), (1, u "java/lang/Object"), (0, u "<init>"), (0, u "()V"), (0, .class_ 8), (0, u "com/example/failpath/failpath/Match"), (0, .methodref 7 10), (0, .nameAndType 5 11), (0, u "(III)V"), (0, .methodref 7 13), (0, .nameAndType 14 15), (0, u "hashCode"), (0, u "()I"), (0, .methodref 7 17), (0, .nameAndType 18 19), (0, u "equals"), (0, u "(Ljava/lang/Object;)Z"), (0, .class_ 21), (0, u "com/example/failpath/failpath/MatchHashCodePinLaw"), (2, u "law"), (0, u "(IIII)Z")] 3

def k1m0 : Method := { name := "<init>", desc := "()V", sig := { parameters := [], returnType := none }, accessFlags := 1, code := none }
def k1c1 : Code := { maxStack := 5, maxLocals := 13, code := code, exceptionTable := #[], attributes := #[] }
def k1m1 : Method := { name := "law", desc := "(IIII)Z", sig := { parameters := [.int, .int, .int, .int], returnType := some .boolean }, accessFlags := 9, code := some k1c1 }
/-- com/example/failpath/failpath/MatchHashCodePinLaw -/
def k1 : Class := { plain "com/example/failpath/failpath/MatchHashCodePinLaw" (some 0) with
  accessFlags := 49
  interfaces := #[]
  cf := some (fileOf pool1 20 #[] #[{ accessFlags := 1, nameIndex := 5, descriptorIndex := 6, attributes := #[] }, { accessFlags := 9, nameIndex := 24, descriptorIndex := 25, attributes := #[] }] 49 2 #[] #[])
  fields := #[]
  methods := #[k1m0, k1m1]
  instanceTypes := #[]
  staticTypes := #[]
  resolved := Array.replicate 29 none
  statics := none }

def pool2 : Array CpInfo := pool [(1, .methodref 2 3), (0, .class_ 4), (0, .nameAndType 5 6), (0, u "java/lang/Object"), (0, u "<init>"), (0, u "()V"), (0, .fieldref 8 9), (0, .class_ 10), (0, .nameAndType 11 12), (0, u "com/example/failpath/failpath/Match"), (0, u "start"), (0, u "I"), (0, .fieldref 8 14), (0, .nameAndType 15 12), (0, u "end"), (0, .fieldref 8 17), (0, .nameAndType 18 12), (0, u "patternIndex"), (4, u "(III)V"), (2, u "()I"), (0, u "equals"), (0, u "(Ljava/lang/Object;)Z"), (1, u "hashCode")] 19

def k2c0 : Code := { maxStack := 2, maxLocals := 4, code := prog_11_method_1_code, exceptionTable := #[], attributes := #[] }
def k2m0 : Method := { name := "<init>", desc := "(III)V", sig := { parameters := [.int, .int, .int], returnType := none }, accessFlags := 0, code := some k2c0 }
def k2c1 : Code := { maxStack := 2, maxLocals := 3, code := prog_11_method_5_code, exceptionTable := #[], attributes := #[] }
def k2m1 : Method := { name := "equals", desc := "(Ljava/lang/Object;)Z", sig := { parameters := [(.object "java/lang/Object")], returnType := some .boolean }, accessFlags := 1, code := some k2c1 }
def k2c2 : Code := { maxStack := 2, maxLocals := 1, code := prog_11_method_6_code, exceptionTable := #[], attributes := #[] }
def k2m2 : Method := { name := "hashCode", desc := "()I", sig := { parameters := [], returnType := some .int }, accessFlags := 1, code := some k2c2 }
/-- com/example/failpath/failpath/Match -/
def k2 : Class := { plain "com/example/failpath/failpath/Match" (some 0) with
  accessFlags := 49
  interfaces := #[]
  cf := some (fileOf pool2 8 #[] #[{ accessFlags := 0, nameIndex := 5, descriptorIndex := 23, attributes := #[] }, { accessFlags := 1, nameIndex := 27, descriptorIndex := 28, attributes := #[] }, { accessFlags := 1, nameIndex := 30, descriptorIndex := 26, attributes := #[] }] 49 2 #[] #[{ accessFlags := 18, nameIndex := 11, descriptorIndex := 12, attributes := #[] }, { accessFlags := 18, nameIndex := 15, descriptorIndex := 12, attributes := #[] }, { accessFlags := 18, nameIndex := 18, descriptorIndex := 12, attributes := #[] }])
  fields := #[{ name := "start", type := .int, accessFlags := 18, slot := 0, constantValue := 0 }, { name := "end", type := .int, accessFlags := 18, slot := 1, constantValue := 0 }, { name := "patternIndex", type := .int, accessFlags := 18, slot := 2, constantValue := 0 }]
  methods := #[k2m0, k2m1, k2m2]
  instanceTypes := #[.int, .int, .int]
  staticTypes := #[]
  resolved := Array.replicate 50 none
  statics := none }

def pool3 : Array CpInfo := pool [(1, u "java/lang/Cloneable"), (0, .class_ 1), (0, u "java/lang/Object"), (0, .class_ 3)] 3

/-- java/lang/Cloneable -/
def k3 : Class := { plain "java/lang/Cloneable" (some 0) with
  accessFlags := 1537
  interfaces := #[]
  cf := some (fileOf pool3 2 #[] #[] 1537 4 #[] #[])
  fields := #[]
  methods := #[]
  instanceTypes := #[]
  staticTypes := #[]
  resolved := Array.replicate 8 none
  statics := none }

def pool4 : Array CpInfo := pool [(1, u "java/io/Serializable"), (0, .class_ 1), (0, u "java/lang/Object"), (0, .class_ 3)] 3

/-- java/io/Serializable -/
def k4 : Class := { plain "java/io/Serializable" (some 0) with
  accessFlags := 1537
  interfaces := #[]
  cf := some (fileOf pool4 2 #[] #[] 1537 4 #[] #[])
  fields := #[]
  methods := #[]
  instanceTypes := #[]
  staticTypes := #[]
  resolved := Array.replicate 8 none
  statics := none }

/-- the primitive byte -/
def k5 : Class := { plain "byte" none with kind := .primitive 'B', accessFlags := 0x411 }
/-- [B -/
def k6 : Class := { plain "[B" (some 0) with kind := .array 5 .byte, interfaces := #[3, 4], accessFlags := 1041 }

/-- the primitive int -/
def k7 : Class := { plain "int" none with kind := .primitive 'I', accessFlags := 0x411 }
/-- [I -/
def k8 : Class := { plain "[I" (some 0) with kind := .array 7 .int, interfaces := #[3, 4], accessFlags := 1041 }

def heap : Heap := #[]
def classes : Array Class := #[k0, k1, k2, k3, k4, k5, k6, k7, k8]
def interned : List (Array UInt16 × Addr) := []
def slotsUsed : Nat := 0
def theMethod : MethodId := ⟨1, 1⟩
def args0 : Array Value := #[.int 5, .int 9, .int 1, .int 3]
def aboutOver (below : List Frame) : State where
  vm := { classes := classes, interned := interned.toArray }
  heap := heap
  slotsUsed := slotsUsed
  threads := #[{ frames := .invoking theMethod args0 :: below }]
def below0 : List Frame := [.native { method := ⟨0, 0⟩, args := #[] }]
def about1 : State := aboutOver below0
def p0 : Program := .bare "" "" ""
def e0 : Env := launch0.env 0 0 0
theorem w_frames : about1.frames = Frame.invoking theMethod args0 :: below0 := rfl
set_option maxRecDepth 65536 in
theorem w_args : argsFit about1.vm theMethod args0 = true := by decide +kernel
set_option maxRecDepth 65536 in
theorem w_heap : heapFits about1 = true := by decide +kernel
set_option maxRecDepth 65536 in
theorem w_runnable : about1.curStatus? = some .runnable := by decide +kernel
set_option maxRecDepth 65536 in
theorem w_alone : about1.alone = true := by decide +kernel
set_option maxRecDepth 65536 in
theorem w_named : about1.methodNamed? x = some theMethod := by decide +kernel
set_option maxRecDepth 65536 in
theorem w_hears : about1.hears theMethod below0 = true := by decide +kernel
set_option maxRecDepth 65536 in
theorem w_ripe : about1.ripe theMethod args0 below0 = true := by decide +kernel
theorem w_running : about1.status = .running := rfl
set_option maxRecDepth 65536 in
theorem w_room : about1.hasRoom e0.platform room_1 = true :=
  launch0.hasRoom_least _ room_1 (by decide +kernel) (by decide +kernel) (by decide +kernel) (by decide +kernel) (by decide +kernel) (by decide +kernel)
theorem allAtoms_all (ts : List Jvm.Cond) (a : Array Jvm.Value) (st : Jvm.State) : (allAtoms ts).before a st = ts.all (fun c => c.before a st) := by
  induction ts with
  | nil => rfl
  | cons c t ih =>
    show (Jvm.Cond.and c (allAtoms t)).before a st = _
    rw [Jvm.Cond.before_and, ih, List.all_cons]
def words1 : List Jvm.Cond := Jvm.Cond.code x code maxLocals ret :: tables_1
/-- a 'code' word, met by the world's own term for the bytes: nothing is compared byte by byte -/
theorem code_word {y : MethodName} {bytes : ByteArray} {mx : Nat} {rt : Option FieldType} {a : Array Value} {s : State} {m : MethodId} {meth : Method} {c : Code} (h1 : s.methodNamed? y = some m) (h2 : s.vm.method? m = some meth) (h3 : meth.code = some c) (h4 : c.code = bytes)
    (h5 : (c.maxLocals == mx && c.exceptionTable.isEmpty && decide (c.maxStack ≤ mostOperands) && decide (meth.sig.returnType = rt) && !meth.locks && decide (parseMethodDescriptor y.desc = some meth.sig)) = true) : (Jvm.Cond.code y bytes mx rt).before a s = true := by
  simp only [Bool.and_eq_true, beq_iff_eq, Bool.not_eq_true', decide_eq_true_eq] at h5
  obtain ⟨⟨⟨⟨⟨g1, g2⟩, g3⟩, g4⟩, g5⟩, g6⟩ := h5
  simp [Cond.before, Cond.holds, Cond.value, h1, h2, h3, h4, g1, g2, g3, g4, g5, g6]
def isCode : Jvm.Cond → Bool
  | .code _ _ _ _ => true
  | _ => false
theorem all_split {L : List Jvm.Cond} {P : Jvm.Cond → Bool} (h1 : L.all (fun c => isCode c || P c) = true) (h2 : ∀ c ∈ L.filter isCode, P c = true) : L.all P = true := by
  refine List.all_eq_true.mpr fun c hc => ?_
  have h := List.all_eq_true.mp h1 c hc
  rcases Bool.eq_false_or_eq_true (isCode c) with hi | hi
  · exact h2 c (List.mem_filter.mpr ⟨hc, hi⟩)
  · simpa [hi] using h
set_option maxRecDepth 65536 in
theorem w_c0 : (Jvm.Cond.code x code maxLocals ret).before args0 about1 = true := code_word (m := ⟨1, 1⟩) (meth := k1m1) (c := k1c1) (by decide +kernel) rfl rfl rfl (by decide +kernel)
set_option maxRecDepth 65536 in
theorem w_c1 : (Jvm.Cond.code ({ cls := "com/example/failpath/failpath/Match", name := "<init>", desc := "(III)V" } : Jvm.MethodName) prog_11_method_1_code (4 : Nat) (Option.none : Option Jvm.ClassFile.FieldType)).before args0 about1 = true := code_word (m := ⟨2, 0⟩) (meth := k2m0) (c := k2c0) (by decide +kernel) rfl rfl rfl (by decide +kernel)
set_option maxRecDepth 65536 in
theorem w_c2 : (Jvm.Cond.code ({ cls := "java/lang/Object", name := "<init>", desc := "()V" } : Jvm.MethodName) object_method_1_code (1 : Nat) (Option.none : Option Jvm.ClassFile.FieldType)).before args0 about1 = true := code_word (m := ⟨0, 0⟩) (meth := k0m0) (c := k0c0) (by decide +kernel) rfl rfl rfl (by decide +kernel)
set_option maxRecDepth 65536 in
theorem w_c3 : (Jvm.Cond.code ({ cls := "com/example/failpath/failpath/Match", name := "hashCode", desc := "()I" } : Jvm.MethodName) prog_11_method_6_code (1 : Nat) (Option.some Jvm.ClassFile.FieldType.int)).before args0 about1 = true := code_word (m := ⟨2, 2⟩) (meth := k2m2) (c := k2c2) (by decide +kernel) rfl rfl rfl (by decide +kernel)
set_option maxRecDepth 65536 in
theorem w_c4 : (Jvm.Cond.code ({ cls := "com/example/failpath/failpath/Match", name := "equals", desc := "(Ljava/lang/Object;)Z" } : Jvm.MethodName) prog_11_method_5_code (3 : Nat) (Option.some Jvm.ClassFile.FieldType.boolean)).before args0 about1 = true := code_word (m := ⟨2, 1⟩) (meth := k2m1) (c := k2c1) (by decide +kernel) rfl rfl rfl (by decide +kernel)
def codes1 : List Jvm.Cond := [Jvm.Cond.code x code maxLocals ret, Jvm.Cond.code ({ cls := "com/example/failpath/failpath/Match", name := "<init>", desc := "(III)V" } : Jvm.MethodName) prog_11_method_1_code (4 : Nat) (Option.none : Option Jvm.ClassFile.FieldType), Jvm.Cond.code ({ cls := "java/lang/Object", name := "<init>", desc := "()V" } : Jvm.MethodName) object_method_1_code (1 : Nat) (Option.none : Option Jvm.ClassFile.FieldType), Jvm.Cond.code ({ cls := "com/example/failpath/failpath/Match", name := "hashCode", desc := "()I" } : Jvm.MethodName) prog_11_method_6_code (1 : Nat) (Option.some Jvm.ClassFile.FieldType.int), Jvm.Cond.code ({ cls := "com/example/failpath/failpath/Match", name := "equals", desc := "(Ljava/lang/Object;)Z" } : Jvm.MethodName) prog_11_method_5_code (3 : Nat) (Option.some Jvm.ClassFile.FieldType.boolean)]
set_option maxRecDepth 65536 in
theorem codes_eq : words1.filter isCode = codes1 := rfl
theorem w_codes : ∀ c ∈ words1.filter isCode, c.before args0 about1 = true := by
  rw [codes_eq]
  intro c hc
  simp only [codes1, List.mem_cons, List.not_mem_nil, or_false] at hc
  rcases hc with rfl | rfl | rfl | rfl | rfl
  · exact w_c0
  · exact w_c1
  · exact w_c2
  · exact w_c3
  · exact w_c4
set_option maxRecDepth 65536 in
theorem w_t1 : (words1.take 24).all (fun c => isCode c || c.before args0 about1) = true := by decide +kernel
set_option maxRecDepth 65536 in
theorem w_t2 : (words1.drop 24).all (fun c => isCode c || c.before args0 about1) = true := by decide +kernel
theorem w_tables : (allAtoms (Jvm.Cond.code x code maxLocals ret :: tables_1)).before args0 about1 = true := by
  rw [allAtoms_all]
  show words1.all (fun c => c.before args0 about1) = true
  refine all_split ?_ w_codes
  rw [← List.take_append_drop 24 words1, List.all_append, w_t1, w_t2]
  rfl
set_option maxRecDepth 65536 in
theorem w_case : (Jvm.Cond.and given_1 narrow_1).before args0 about1 = true := by decide +kernel
theorem w_applies : (headSpec (Jvm.Cond.code x code maxLocals ret :: tables_1) room_1).applies x e0.platform about1 = true :=
  (Spec.applies_iff w_frames).mpr ⟨w_running, w_runnable, w_alone, w_named, w_hears, w_ripe, w_room, w_tables⟩
theorem atStart : AtStart classFile x code maxLocals ret World_1 tables_1 room_1 Calls_1 rest_1 Pre_1 launch0 p0 e0 about1 theMethod args0 below0 :=
  ⟨lists_1, trivial, launch0.admits_env _ _ _, launch0.least_env, fairChoices_fair.cas, fairChoices_fair.clock, w_frames, w_args, w_heap, w_applies, trivial, trivial, w_case⟩
end start1
theorem witness_1 : WitnessClaimed_1 := ⟨start1.p0, start1.e0, start1.about1, start1.theMethod, start1.args0, start1.below0, start1.atStart⟩
end Jvm.Pilot.@@N@@
