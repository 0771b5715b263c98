import JvmDerived
import JvmDerived.Pilot.@@N@@Statement
import JvmDerived.Pilot.@@N@@Code
set_option linter.unusedVariables false
set_option linter.unusedSimpArgs false
namespace Jvm.Pilot.@@N@@
open Jvm Jvm.ClassFile Sem Op Lib Jvm.Free Jvm.Stand Jvm.LawKit Jvm.RoadKit Bundle Jvm.Pilot.@@N@@.Jvm.D
section OwnKit
variable {p : Program} {l : Launch} {e : Env} {R : Room} {s : State} {m : MethodId} {args : Array Value} {below : List Frame} {meth : Method} {c : Code} {T : State} {locs : List Loc} {cells slots : Nat}
/-- from T the run comes to an end of which F holds -/
def own_Go (p : Program) (e : Env) (below : List Frame) (F : State → Outcome → Prop) (T : State) : Prop := ∃ t o, Steps p.tables e below T t ∧ t.status = .running ∧ Ended t below o ∧ F t o
theorem own_step {F : State → Outcome → Prop} {A B : State} (k : ∀ t, Steps p.tables e below A t → Steps p.tables e below B t) (h : own_Go p e below F A) : own_Go p e below F B := by
  obtain ⟨t, o, h1, h2⟩ := h
  exact ⟨t, o, k t h1, h2⟩
theorem own_in {F : State → Outcome → Prop} {A B : State} (k : ∀ {t}, Steps p.tables e below A t → Steps p.tables e below B t) (h : own_Go p e below F A) : ∃ t o, Steps p.tables e below B t ∧ t.status = .running ∧ Ended t below o ∧ F t o := by
  obtain ⟨t, o, h1, h2⟩ := h
  exact ⟨t, o, k h1, h2⟩
theorem own_retI (X : Stand p l e R s m args below meth c T locs cells slots) (hx : p.tables.exec = Jvm.exec) {pc : Nat} {Ls : Array Slot} {z : Int32} {rest : List Value} (hret : meth.sig.returnType = some .int) (hd : decode c.code pc = .ok (.ireturn, 1)) {fs : List Frame}
    (hl : ∀ (f : JFrame) (acts : List Action), f.method = m → f.locked = none → f.entered = [] → (doReturn e (T.setTop f) acts (some (.int z))).1 = T.setFrames fs) : Steps p.tables e below (T.setTop (mkF m pc Ls (.int z :: rest))) (T.setFrames fs) :=
  retOut X hx hret rfl (Or.inl ⟨rfl, Or.inl rfl, _, rfl⟩) hd hl
theorem own_join {α : Type} {F : State → Outcome → Prop} {B : State} {H : Heap} (X : Stand p l e R s m args below meth c T locs cells slots) (eT : T.heap = H) (A : State → α → State) (Pr : α → Prop)
    (h1 : ∀ T' a, Stand p l e R s m args below meth c T' locs cells slots → T'.heap = H → Pr a → own_Go p e below F (A T' a))
    (h2 : (∀ T' a, Stand p l e R s m args below meth c T' locs cells slots → T'.heap = H → Pr a → own_Go p e below F (A T' a)) → own_Go p e below F B) : own_Go p e below F B := h2 h1
theorem own_sta {args : Array Value} {s : State} {C n d K : String} (h : (Jvm.Cond.exactly (.static C n d) K).value args s none s [] = some true) (w1 : (Jvm.Cond.initialized C).before args s = true) (w2 : (Jvm.Cond.laysStatic C n d).before args s = true) :
    ∃ a, (Term.static C n d).eval args s none [] s = some (.ref a) ∧ Sta s s.heap C n d (.ref a) ∧ Exa s s.heap a K := by
  obtain ⟨a, ea⟩ := exa_v h
  exact ⟨a, ea, Sta.start ea (Or.inr ⟨w1, w2⟩), Exa.start ea h⟩
theorem own_staF {args : Array Value} {s : State} {t : Term} {C n d : String} {a : Addr} {k : Int32} (ea : t.eval args s none [] s = some (.ref a)) (h : (Jvm.Cond.eq (.field t C n d) (.int k)).value args s none s [] = some true) : Fld s s.heap a C n d (.int k) := by
  obtain ⟨x, y, e1, e2, -, -⟩ := cmp_v (Or.inl h)
  cases (Term.int_eval k).symm.trans e2
  have e3 : x = .int k := by
    cases x <;> simp [Cond.value, e1, Term.int_eval] at h
    rw [h]
  rw [fld_at ea, e3] at e1
  exact Fld.start e1
end OwnKit
theorem pn_0 : plainName "com/example/fouille/fouille/eval/MeasureIsPerQueryPinLaw" = true := by first | (simp [plainName, overriddenIn]; done) | decide +kernel
theorem pn_1 : plainName "com/example/fouille/fouille/eval/Measure" = true := by first | (simp [plainName, overriddenIn]; done) | decide +kernel
theorem pd_0 : parseMethodDescriptor "(I)Lcom/example/fouille/fouille/eval/Measure;" = some ⟨[.int], some (.object "com/example/fouille/fouille/eval/Measure")⟩ := by decide +kernel
theorem pd_1 : parseMethodDescriptor "()Z" = some ⟨[], some .boolean⟩ := by decide +kernel
theorem d1_0 : decode method_2_code 0 = .ok (.iload_n 0, 1) := by decide +kernel
theorem d1_1 : decode method_2_code 1 = .ok (.ifCond .ne 7, 3) := by decide +kernel
theorem d1_4 : decode method_2_code 4 = .ok (.getstatic 7, 3) := by decide +kernel
theorem d1_7 : decode method_2_code 7 = .ok (.areturn, 1) := by decide +kernel
theorem d1_8 : decode method_2_code 8 = .ok (.iload_n 0, 1) := by decide +kernel
theorem d1_9 : decode method_2_code 9 = .ok (.iconst 1, 1) := by decide +kernel
theorem d1_10 : decode method_2_code 10 = .ok (.if_icmp .ne 7, 3) := by decide +kernel
theorem d1_13 : decode method_2_code 13 = .ok (.getstatic 13, 3) := by decide +kernel
theorem d1_16 : decode method_2_code 16 = .ok (.areturn, 1) := by decide +kernel
theorem d1_17 : decode method_2_code 17 = .ok (.iload_n 0, 1) := by decide +kernel
theorem d1_18 : decode method_2_code 18 = .ok (.iconst 2, 1) := by decide +kernel
theorem d1_19 : decode method_2_code 19 = .ok (.if_icmp .ne 7, 3) := by decide +kernel
theorem d1_22 : decode method_2_code 22 = .ok (.getstatic 16, 3) := by decide +kernel
theorem d1_25 : decode method_2_code 25 = .ok (.areturn, 1) := by decide +kernel
theorem d1_26 : decode method_2_code 26 = .ok (.iload_n 0, 1) := by decide +kernel
theorem d1_27 : decode method_2_code 27 = .ok (.iconst 3, 1) := by decide +kernel
theorem d1_28 : decode method_2_code 28 = .ok (.if_icmp .ne 7, 3) := by decide +kernel
theorem d1_31 : decode method_2_code 31 = .ok (.getstatic 19, 3) := by decide +kernel
theorem d1_34 : decode method_2_code 34 = .ok (.areturn, 1) := by decide +kernel
theorem d1_35 : decode method_2_code 35 = .ok (.iload_n 0, 1) := by decide +kernel
theorem d1_36 : decode method_2_code 36 = .ok (.iconst 4, 1) := by decide +kernel
theorem d1_37 : decode method_2_code 37 = .ok (.if_icmp .ne 7, 3) := by decide +kernel
theorem d1_40 : decode method_2_code 40 = .ok (.getstatic 22, 3) := by decide +kernel
theorem d1_43 : decode method_2_code 43 = .ok (.areturn, 1) := by decide +kernel
theorem d1_44 : decode method_2_code 44 = .ok (.iload_n 0, 1) := by decide +kernel
theorem d1_45 : decode method_2_code 45 = .ok (.iconst 5, 1) := by decide +kernel
theorem d1_46 : decode method_2_code 46 = .ok (.if_icmp .ne 7, 3) := by decide +kernel
theorem d1_49 : decode method_2_code 49 = .ok (.getstatic 25, 3) := by decide +kernel
theorem d1_52 : decode method_2_code 52 = .ok (.areturn, 1) := by decide +kernel
theorem d1_53 : decode method_2_code 53 = .ok (.iload_n 0, 1) := by decide +kernel
theorem d1_54 : decode method_2_code 54 = .ok (.bipush 6, 2) := by decide +kernel
theorem d1_56 : decode method_2_code 56 = .ok (.if_icmp .ne 7, 3) := by decide +kernel
theorem d1_59 : decode method_2_code 59 = .ok (.getstatic 28, 3) := by decide +kernel
theorem d1_62 : decode method_2_code 62 = .ok (.areturn, 1) := by decide +kernel
theorem d1_63 : decode method_2_code 63 = .ok (.iload_n 0, 1) := by decide +kernel
theorem d1_64 : decode method_2_code 64 = .ok (.bipush 7, 2) := by decide +kernel
theorem d1_66 : decode method_2_code 66 = .ok (.if_icmp .ne 7, 3) := by decide +kernel
theorem d1_69 : decode method_2_code 69 = .ok (.getstatic 31, 3) := by decide +kernel
theorem d1_72 : decode method_2_code 72 = .ok (.areturn, 1) := by decide +kernel
theorem d1_73 : decode method_2_code 73 = .ok (.iload_n 0, 1) := by decide +kernel
theorem d1_74 : decode method_2_code 74 = .ok (.bipush 8, 2) := by decide +kernel
theorem d1_76 : decode method_2_code 76 = .ok (.if_icmp .ne 7, 3) := by decide +kernel
theorem d1_79 : decode method_2_code 79 = .ok (.getstatic 34, 3) := by decide +kernel
theorem d1_82 : decode method_2_code 82 = .ok (.areturn, 1) := by decide +kernel
theorem d1_83 : decode method_2_code 83 = .ok (.iload_n 0, 1) := by decide +kernel
theorem d1_84 : decode method_2_code 84 = .ok (.bipush 9, 2) := by decide +kernel
theorem d1_86 : decode method_2_code 86 = .ok (.if_icmp .ne 7, 3) := by decide +kernel
theorem d1_89 : decode method_2_code 89 = .ok (.getstatic 37, 3) := by decide +kernel
theorem d1_92 : decode method_2_code 92 = .ok (.areturn, 1) := by decide +kernel
theorem d1_93 : decode method_2_code 93 = .ok (.iload_n 0, 1) := by decide +kernel
theorem d1_94 : decode method_2_code 94 = .ok (.bipush 10, 2) := by decide +kernel
theorem d1_96 : decode method_2_code 96 = .ok (.if_icmp .ne 7, 3) := by decide +kernel
theorem d1_99 : decode method_2_code 99 = .ok (.getstatic 40, 3) := by decide +kernel
theorem d1_102 : decode method_2_code 102 = .ok (.areturn, 1) := by decide +kernel
theorem d1_103 : decode method_2_code 103 = .ok (.iload_n 0, 1) := by decide +kernel
theorem d1_104 : decode method_2_code 104 = .ok (.bipush 11, 2) := by decide +kernel
theorem d1_106 : decode method_2_code 106 = .ok (.if_icmp .ne 7, 3) := by decide +kernel
theorem d1_109 : decode method_2_code 109 = .ok (.getstatic 43, 3) := by decide +kernel
theorem d1_112 : decode method_2_code 112 = .ok (.areturn, 1) := by decide +kernel
theorem d1_113 : decode method_2_code 113 = .ok (.getstatic 46, 3) := by decide +kernel
theorem d1_116 : decode method_2_code 116 = .ok (.areturn, 1) := by decide +kernel
theorem ef_1 (m : MethodId) (k : Int32) : entryFrame m #[(.int k)] 1 = mkF m 0 #[.val (.int k)] [] := by first | (simp [entryFrame, mkF, argsToLocals, Value.category]; done) | rfl
def Q1 (Z : State) (k : Int32) (s_NUM_Q : Addr) (s_NUM_REL_RET : Addr) (s_P_1 : Addr) (s_RECIP_RANK : Addr) (s_P_5 : Addr) (s_NDCG_CUT_5 : Addr) (s_NUM_REL : Addr) (s_NDCG_CUT_20 : Addr) (s_NUM_RET : Addr) (s_P_10 : Addr) (s_NDCG_CUT_10 : Addr) (s_RECALL_1000 : Addr) (s_MAP : Addr) (h0 : Heap) (n0 : Nat) (v : Option Value) (h : Heap) (L : List Loc) : Prop := v = some (.ref (if k = (0 : Int32) then s_NUM_Q else (if k = (1 : Int32) then s_NUM_RET else (if k = (2 : Int32) then s_NUM_REL else (if k = (3 : Int32) then s_NUM_REL_RET else (if k = (4 : Int32) then s_MAP else (if k = (5 : Int32) then s_RECIP_RANK else (if k = (6 : Int32) then s_P_1 else (if k = (7 : Int32) then s_P_5 else (if k = (8 : Int32) then s_P_10 else (if k = (9 : Int32) then s_NDCG_CUT_5 else (if k = (10 : Int32) then s_NDCG_CUT_10 else (if k = (11 : Int32) then s_NDCG_CUT_20 else s_RECALL_1000))))))))))))) ∧ Fr n0 L ∧ h = h0
set_option maxRecDepth 65536 in
set_option maxHeartbeats 40000000 in
theorem rm1 (l : Launch) (Z : State) (a0 : Array Value) (hw : ∀ d ∈ tables_1, d.before a0 Z = true) (ws : List Jvm.Cond) (k : Int32) (s_NUM_Q : Addr) (s_NUM_REL_RET : Addr) (s_P_1 : Addr) (s_RECIP_RANK : Addr) (s_P_5 : Addr) (s_NDCG_CUT_5 : Addr) (s_NUM_REL : Addr) (s_NDCG_CUT_20 : Addr) (s_NUM_RET : Addr) (s_P_10 : Addr) (s_NDCG_CUT_10 : Addr) (s_RECALL_1000 : Addr) (s_MAP : Addr) (h0 : Heap) (n0 : Nat) (Z0 : n0 ≤ h0.size) (P0 : Old Z n0 h0) (P1 : Sta Z Z.heap "com/example/fouille/fouille/eval/Measure" "NUM_Q" "Lcom/example/fouille/fouille/eval/Measure;" (.ref s_NUM_Q)) (P2 : Sta Z Z.heap "com/example/fouille/fouille/eval/Measure" "NUM_REL_RET" "Lcom/example/fouille/fouille/eval/Measure;" (.ref s_NUM_REL_RET)) (P3 : Sta Z Z.heap "com/example/fouille/fouille/eval/Measure" "P_1" "Lcom/example/fouille/fouille/eval/Measure;" (.ref s_P_1)) (P4 : Sta Z Z.heap "com/example/fouille/fouille/eval/Measure" "RECIP_RANK" "Lcom/example/fouille/fouille/eval/Measure;" (.ref s_RECIP_RANK)) (P5 : Sta Z Z.heap "com/example/fouille/fouille/eval/Measure" "P_5" "Lcom/example/fouille/fouille/eval/Measure;" (.ref s_P_5)) (P6 : Sta Z Z.heap "com/example/fouille/fouille/eval/Measure" "NDCG_CUT_5" "Lcom/example/fouille/fouille/eval/Measure;" (.ref s_NDCG_CUT_5)) (P7 : Sta Z Z.heap "com/example/fouille/fouille/eval/Measure" "NUM_REL" "Lcom/example/fouille/fouille/eval/Measure;" (.ref s_NUM_REL)) (P8 : Sta Z Z.heap "com/example/fouille/fouille/eval/Measure" "NDCG_CUT_20" "Lcom/example/fouille/fouille/eval/Measure;" (.ref s_NDCG_CUT_20)) (P9 : Sta Z Z.heap "com/example/fouille/fouille/eval/Measure" "NUM_RET" "Lcom/example/fouille/fouille/eval/Measure;" (.ref s_NUM_RET)) (P10 : Sta Z Z.heap "com/example/fouille/fouille/eval/Measure" "P_10" "Lcom/example/fouille/fouille/eval/Measure;" (.ref s_P_10)) (P11 : Sta Z Z.heap "com/example/fouille/fouille/eval/Measure" "NDCG_CUT_10" "Lcom/example/fouille/fouille/eval/Measure;" (.ref s_NDCG_CUT_10)) (P12 : Sta Z Z.heap "com/example/fouille/fouille/eval/Measure" "RECALL_1000" "Lcom/example/fouille/fouille/eval/Measure;" (.ref s_RECALL_1000)) (P13 : Sta Z Z.heap "com/example/fouille/fouille/eval/Measure" "MAP" "Lcom/example/fouille/fouille/eval/Measure;" (.ref s_MAP)) :
    MetFree l (⟨"com/example/fouille/fouille/eval/MeasureIsPerQueryPinLaw", "pick", "(I)Lcom/example/fouille/fouille/eval/Measure;"⟩ : MethodName) (head1 (Jvm.Cond.code (⟨"com/example/fouille/fouille/eval/MeasureIsPerQueryPinLaw", "pick", "(I)Lcom/example/fouille/fouille/eval/Measure;"⟩ : MethodName) method_2_code 1 (some (.object "com/example/fouille/fouille/eval/Measure")) :: ws) ({ frames := 0, cells := 0, slots := 0, locals := 0 } : Room)) (fun ar_ U => ar_ = #[(.int k)] ∧ Z.Warmed39 U.vm ∧ U.heap = h0) (fun _ _ _ _ _ => True) (fun _ U oo_ U' => ∃ v L, oo_ = .returned v ∧ Q1 Z k s_NUM_Q s_NUM_REL_RET s_P_1 s_RECIP_RANK s_P_5 s_NDCG_CUT_5 s_NUM_REL s_NDCG_CUT_20 s_NUM_RET s_P_10 s_NDCG_CUT_10 s_RECALL_1000 s_MAP h0 n0 v U'.heap L ∧ FrameEnd U oo_ U' L ({ frames := 0, cells := 0, slots := 0, locals := 0 } : Room).cells ({ frames := 0, cells := 0, slots := 0, locals := 0 } : Room).slots) := by
  refine MetFree.of_bodySF (plainFor_of_name pn_0) hisR ?_
  intro p e s m args below meth c s₁ Bd hml0 hP hK
  obtain ⟨rfl, hZ, hh⟩ := hP
  have hx := Bd.exec
  have hby := Bd.bytes
  have hml : c.maxLocals = 1 := hml0
  have hown : s.vm.findClass "com/example/fouille/fouille/eval/MeasureIsPerQueryPinLaw" = some m.cls := findClass_of_methodNamed Bd.named
  have hnm := (name_of_methodNamed Bd.named Bd.method).1
  have X0 : Stand p l e ({ frames := 0, cells := 0, slots := 0, locals := 0 } : Room) s m #[(.int k)] below meth c s₁ [] 0 0 := Stand.of_body Bd
  have e0 : s₁.heap = h0 := by rw [← hh, Bd.state]; rfl
  have N0 := Fr.nil n0
  refine own_in (castTop (ef_1 m k)) ?_
  show own_Go _ _ _ _ (s₁.setTop (mkF m 0 #[.val (.int k)] []))
  refine own_step (fun _ κ => XS.iloadN X0.here hx rfl (hb hby d1_0) rfl κ) ?_
  show own_Go _ _ _ _ (s₁.setTop (mkF m 1 #[.val (.int k)] [(.int k)]))
  by_cases hc1 : k = (0 : Int32)
  · refine own_step (fun _ κ => XS.ifNo X0.here hx rfl (hb hby d1_1) rfl ((if0 _ _).trans (teq hc1).2) κ) ?_
    show own_Go _ _ _ _ (s₁.setTop (mkF m 4 #[.val (.int k)] []))
    obtain ⟨T2, X2, e2, st2⟩ := getS2 X0 hx hZ hown (host := "") (Or.inl (hw _ (List.mem_of_getElem? (i := 5) rfl))) Via.refl e0 (P1.ext P0.2) (g := (mkF m 4 #[.val (.int k)] [])) rfl (hb hby d1_4)
    refine own_step st2 ?_
    show own_Go _ _ _ _ (T2.setTop (mkF m 7 #[.val (.int k)] [(.ref s_NUM_Q)]))
    obtain ⟨fs, hr, hrun, hended, hW, hsame⟩ := X2.leave (v := some (.ref s_NUM_Q)) (fun h => by rw [Bd.returns] at h; cases h)
    refine ⟨_, _, retOut X2 hx Bd.returns rfl (Or.inr (Or.inr (Or.inr (Or.inr ⟨rfl, rfl, rfl⟩)))) (hb hby d1_7) hr, hrun, hended, _, _, rfl, ?_, ⟨_, rfl⟩, hW, hsame.mono (by decide) (by decide)⟩
    show Q1 Z k s_NUM_Q s_NUM_REL_RET s_P_1 s_RECIP_RANK s_P_5 s_NDCG_CUT_5 s_NUM_REL s_NDCG_CUT_20 s_NUM_RET s_P_10 s_NDCG_CUT_10 s_RECALL_1000 s_MAP h0 n0 _ T2.heap _
    rw [e2]
    exact ⟨(by rw [if_pos hc1]), N0, rfl⟩
  · refine own_step (fun _ κ => XS.ifYes X0.here hx rfl (pc0 := 1) (pc' := 8) rfl (hb hby d1_1) rfl ((if0 _ _).trans (feq hc1).2) (by decide) (by decide) κ) ?_
    show own_Go _ _ _ _ (s₁.setTop (mkF m 8 #[.val (.int k)] []))
    refine own_step (fun _ κ => XS.iloadN X0.here hx rfl (hb hby d1_8) rfl κ) ?_
    show own_Go _ _ _ _ (s₁.setTop (mkF m 9 #[.val (.int k)] [(.int k)]))
    refine own_step (fun _ κ => XS.iconst X0.here hx rfl (hb hby d1_9) κ) ?_
    show own_Go _ _ _ _ (s₁.setTop (mkF m 10 #[.val (.int k)] [(.int (1 : Int32)), (.int k)]))
    by_cases hc3 : k = (1 : Int32)
    · refine own_step (fun _ κ => XS.icmpNo X0.here hx rfl (hb hby d1_10) rfl (teq hc3).2 κ) ?_
      show own_Go _ _ _ _ (s₁.setTop (mkF m 13 #[.val (.int k)] []))
      obtain ⟨T4, X4, e4, st4⟩ := getS2 X0 hx hZ hown (host := "") (Or.inl (hw _ (List.mem_of_getElem? (i := 28) rfl))) Via.refl e0 (P9.ext P0.2) (g := (mkF m 13 #[.val (.int k)] [])) rfl (hb hby d1_13)
      refine own_step st4 ?_
      show own_Go _ _ _ _ (T4.setTop (mkF m 16 #[.val (.int k)] [(.ref s_NUM_RET)]))
      obtain ⟨fs, hr, hrun, hended, hW, hsame⟩ := X4.leave (v := some (.ref s_NUM_RET)) (fun h => by rw [Bd.returns] at h; cases h)
      refine ⟨_, _, retOut X4 hx Bd.returns rfl (Or.inr (Or.inr (Or.inr (Or.inr ⟨rfl, rfl, rfl⟩)))) (hb hby d1_16) hr, hrun, hended, _, _, rfl, ?_, ⟨_, rfl⟩, hW, hsame.mono (by decide) (by decide)⟩
      show Q1 Z k s_NUM_Q s_NUM_REL_RET s_P_1 s_RECIP_RANK s_P_5 s_NDCG_CUT_5 s_NUM_REL s_NDCG_CUT_20 s_NUM_RET s_P_10 s_NDCG_CUT_10 s_RECALL_1000 s_MAP h0 n0 _ T4.heap _
      rw [e4]
      exact ⟨(by rw [if_neg hc1, if_pos hc3]), N0, rfl⟩
    · refine own_step (fun _ κ => XS.icmpYes X0.here hx rfl (pc0 := 10) (pc' := 17) rfl (hb hby d1_10) rfl (feq hc3).2 (by decide) (by decide) κ) ?_
      show own_Go _ _ _ _ (s₁.setTop (mkF m 17 #[.val (.int k)] []))
      refine own_step (fun _ κ => XS.iloadN X0.here hx rfl (hb hby d1_17) rfl κ) ?_
      show own_Go _ _ _ _ (s₁.setTop (mkF m 18 #[.val (.int k)] [(.int k)]))
      refine own_step (fun _ κ => XS.iconst X0.here hx rfl (hb hby d1_18) κ) ?_
      show own_Go _ _ _ _ (s₁.setTop (mkF m 19 #[.val (.int k)] [(.int (2 : Int32)), (.int k)]))
      by_cases hc5 : k = (2 : Int32)
      · refine own_step (fun _ κ => XS.icmpNo X0.here hx rfl (hb hby d1_19) rfl (teq hc5).2 κ) ?_
        show own_Go _ _ _ _ (s₁.setTop (mkF m 22 #[.val (.int k)] []))
        obtain ⟨T6, X6, e6, st6⟩ := getS2 X0 hx hZ hown (host := "") (Or.inl (hw _ (List.mem_of_getElem? (i := 24) rfl))) Via.refl e0 (P7.ext P0.2) (g := (mkF m 22 #[.val (.int k)] [])) rfl (hb hby d1_22)
        refine own_step st6 ?_
        show own_Go _ _ _ _ (T6.setTop (mkF m 25 #[.val (.int k)] [(.ref s_NUM_REL)]))
        obtain ⟨fs, hr, hrun, hended, hW, hsame⟩ := X6.leave (v := some (.ref s_NUM_REL)) (fun h => by rw [Bd.returns] at h; cases h)
        refine ⟨_, _, retOut X6 hx Bd.returns rfl (Or.inr (Or.inr (Or.inr (Or.inr ⟨rfl, rfl, rfl⟩)))) (hb hby d1_25) hr, hrun, hended, _, _, rfl, ?_, ⟨_, rfl⟩, hW, hsame.mono (by decide) (by decide)⟩
        show Q1 Z k s_NUM_Q s_NUM_REL_RET s_P_1 s_RECIP_RANK s_P_5 s_NDCG_CUT_5 s_NUM_REL s_NDCG_CUT_20 s_NUM_RET s_P_10 s_NDCG_CUT_10 s_RECALL_1000 s_MAP h0 n0 _ T6.heap _
        rw [e6]
        exact ⟨(by rw [if_neg hc1, if_neg hc3, if_pos hc5]), N0, rfl⟩
      · refine own_step (fun _ κ => XS.icmpYes X0.here hx rfl (pc0 := 19) (pc' := 26) rfl (hb hby d1_19) rfl (feq hc5).2 (by decide) (by decide) κ) ?_
        show own_Go _ _ _ _ (s₁.setTop (mkF m 26 #[.val (.int k)] []))
        refine own_step (fun _ κ => XS.iloadN X0.here hx rfl (hb hby d1_26) rfl κ) ?_
        show own_Go _ _ _ _ (s₁.setTop (mkF m 27 #[.val (.int k)] [(.int k)]))
        refine own_step (fun _ κ => XS.iconst X0.here hx rfl (hb hby d1_27) κ) ?_
        show own_Go _ _ _ _ (s₁.setTop (mkF m 28 #[.val (.int k)] [(.int (3 : Int32)), (.int k)]))
        by_cases hc7 : k = (3 : Int32)
        · refine own_step (fun _ κ => XS.icmpNo X0.here hx rfl (hb hby d1_28) rfl (teq hc7).2 κ) ?_
          show own_Go _ _ _ _ (s₁.setTop (mkF m 31 #[.val (.int k)] []))
          obtain ⟨T8, X8, e8, st8⟩ := getS2 X0 hx hZ hown (host := "") (Or.inl (hw _ (List.mem_of_getElem? (i := 14) rfl))) Via.refl e0 (P2.ext P0.2) (g := (mkF m 31 #[.val (.int k)] [])) rfl (hb hby d1_31)
          refine own_step st8 ?_
          show own_Go _ _ _ _ (T8.setTop (mkF m 34 #[.val (.int k)] [(.ref s_NUM_REL_RET)]))
          obtain ⟨fs, hr, hrun, hended, hW, hsame⟩ := X8.leave (v := some (.ref s_NUM_REL_RET)) (fun h => by rw [Bd.returns] at h; cases h)
          refine ⟨_, _, retOut X8 hx Bd.returns rfl (Or.inr (Or.inr (Or.inr (Or.inr ⟨rfl, rfl, rfl⟩)))) (hb hby d1_34) hr, hrun, hended, _, _, rfl, ?_, ⟨_, rfl⟩, hW, hsame.mono (by decide) (by decide)⟩
          show Q1 Z k s_NUM_Q s_NUM_REL_RET s_P_1 s_RECIP_RANK s_P_5 s_NDCG_CUT_5 s_NUM_REL s_NDCG_CUT_20 s_NUM_RET s_P_10 s_NDCG_CUT_10 s_RECALL_1000 s_MAP h0 n0 _ T8.heap _
          rw [e8]
          exact ⟨(by rw [if_neg hc1, if_neg hc3, if_neg hc5, if_pos hc7]), N0, rfl⟩
        · refine own_step (fun _ κ => XS.icmpYes X0.here hx rfl (pc0 := 28) (pc' := 35) rfl (hb hby d1_28) rfl (feq hc7).2 (by decide) (by decide) κ) ?_
          show own_Go _ _ _ _ (s₁.setTop (mkF m 35 #[.val (.int k)] []))
          refine own_step (fun _ κ => XS.iloadN X0.here hx rfl (hb hby d1_35) rfl κ) ?_
          show own_Go _ _ _ _ (s₁.setTop (mkF m 36 #[.val (.int k)] [(.int k)]))
          refine own_step (fun _ κ => XS.iconst X0.here hx rfl (hb hby d1_36) κ) ?_
          show own_Go _ _ _ _ (s₁.setTop (mkF m 37 #[.val (.int k)] [(.int (4 : Int32)), (.int k)]))
          by_cases hc9 : k = (4 : Int32)
          · refine own_step (fun _ κ => XS.icmpNo X0.here hx rfl (hb hby d1_37) rfl (teq hc9).2 κ) ?_
            show own_Go _ _ _ _ (s₁.setTop (mkF m 40 #[.val (.int k)] []))
            obtain ⟨T10, X10, e10, st10⟩ := getS2 X0 hx hZ hown (host := "") (Or.inl (hw _ (List.mem_of_getElem? (i := 36) rfl))) Via.refl e0 (P13.ext P0.2) (g := (mkF m 40 #[.val (.int k)] [])) rfl (hb hby d1_40)
            refine own_step st10 ?_
            show own_Go _ _ _ _ (T10.setTop (mkF m 43 #[.val (.int k)] [(.ref s_MAP)]))
            obtain ⟨fs, hr, hrun, hended, hW, hsame⟩ := X10.leave (v := some (.ref s_MAP)) (fun h => by rw [Bd.returns] at h; cases h)
            refine ⟨_, _, retOut X10 hx Bd.returns rfl (Or.inr (Or.inr (Or.inr (Or.inr ⟨rfl, rfl, rfl⟩)))) (hb hby d1_43) hr, hrun, hended, _, _, rfl, ?_, ⟨_, rfl⟩, hW, hsame.mono (by decide) (by decide)⟩
            show Q1 Z k s_NUM_Q s_NUM_REL_RET s_P_1 s_RECIP_RANK s_P_5 s_NDCG_CUT_5 s_NUM_REL s_NDCG_CUT_20 s_NUM_RET s_P_10 s_NDCG_CUT_10 s_RECALL_1000 s_MAP h0 n0 _ T10.heap _
            rw [e10]
            exact ⟨(by rw [if_neg hc1, if_neg hc3, if_neg hc5, if_neg hc7, if_pos hc9]), N0, rfl⟩
          · refine own_step (fun _ κ => XS.icmpYes X0.here hx rfl (pc0 := 37) (pc' := 44) rfl (hb hby d1_37) rfl (feq hc9).2 (by decide) (by decide) κ) ?_
            show own_Go _ _ _ _ (s₁.setTop (mkF m 44 #[.val (.int k)] []))
            refine own_step (fun _ κ => XS.iloadN X0.here hx rfl (hb hby d1_44) rfl κ) ?_
            show own_Go _ _ _ _ (s₁.setTop (mkF m 45 #[.val (.int k)] [(.int k)]))
            refine own_step (fun _ κ => XS.iconst X0.here hx rfl (hb hby d1_45) κ) ?_
            show own_Go _ _ _ _ (s₁.setTop (mkF m 46 #[.val (.int k)] [(.int (5 : Int32)), (.int k)]))
            by_cases hc11 : k = (5 : Int32)
            · refine own_step (fun _ κ => XS.icmpNo X0.here hx rfl (hb hby d1_46) rfl (teq hc11).2 κ) ?_
              show own_Go _ _ _ _ (s₁.setTop (mkF m 49 #[.val (.int k)] []))
              obtain ⟨T12, X12, e12, st12⟩ := getS2 X0 hx hZ hown (host := "") (Or.inl (hw _ (List.mem_of_getElem? (i := 18) rfl))) Via.refl e0 (P4.ext P0.2) (g := (mkF m 49 #[.val (.int k)] [])) rfl (hb hby d1_49)
              refine own_step st12 ?_
              show own_Go _ _ _ _ (T12.setTop (mkF m 52 #[.val (.int k)] [(.ref s_RECIP_RANK)]))
              obtain ⟨fs, hr, hrun, hended, hW, hsame⟩ := X12.leave (v := some (.ref s_RECIP_RANK)) (fun h => by rw [Bd.returns] at h; cases h)
              refine ⟨_, _, retOut X12 hx Bd.returns rfl (Or.inr (Or.inr (Or.inr (Or.inr ⟨rfl, rfl, rfl⟩)))) (hb hby d1_52) hr, hrun, hended, _, _, rfl, ?_, ⟨_, rfl⟩, hW, hsame.mono (by decide) (by decide)⟩
              show Q1 Z k s_NUM_Q s_NUM_REL_RET s_P_1 s_RECIP_RANK s_P_5 s_NDCG_CUT_5 s_NUM_REL s_NDCG_CUT_20 s_NUM_RET s_P_10 s_NDCG_CUT_10 s_RECALL_1000 s_MAP h0 n0 _ T12.heap _
              rw [e12]
              exact ⟨(by rw [if_neg hc1, if_neg hc3, if_neg hc5, if_neg hc7, if_neg hc9, if_pos hc11]), N0, rfl⟩
            · refine own_step (fun _ κ => XS.icmpYes X0.here hx rfl (pc0 := 46) (pc' := 53) rfl (hb hby d1_46) rfl (feq hc11).2 (by decide) (by decide) κ) ?_
              show own_Go _ _ _ _ (s₁.setTop (mkF m 53 #[.val (.int k)] []))
              refine own_step (fun _ κ => XS.iloadN X0.here hx rfl (hb hby d1_53) rfl κ) ?_
              show own_Go _ _ _ _ (s₁.setTop (mkF m 54 #[.val (.int k)] [(.int k)]))
              refine own_step (fun _ κ => XS.bipush X0.here hx rfl (hb hby d1_54) κ) ?_
              show own_Go _ _ _ _ (s₁.setTop (mkF m 56 #[.val (.int k)] [(.int (6 : Int32)), (.int k)]))
              by_cases hc13 : k = (6 : Int32)
              · refine own_step (fun _ κ => XS.icmpNo X0.here hx rfl (hb hby d1_56) rfl (teq hc13).2 κ) ?_
                show own_Go _ _ _ _ (s₁.setTop (mkF m 59 #[.val (.int k)] []))
                obtain ⟨T14, X14, e14, st14⟩ := getS2 X0 hx hZ hown (host := "") (Or.inl (hw _ (List.mem_of_getElem? (i := 16) rfl))) Via.refl e0 (P3.ext P0.2) (g := (mkF m 59 #[.val (.int k)] [])) rfl (hb hby d1_59)
                refine own_step st14 ?_
                show own_Go _ _ _ _ (T14.setTop (mkF m 62 #[.val (.int k)] [(.ref s_P_1)]))
                obtain ⟨fs, hr, hrun, hended, hW, hsame⟩ := X14.leave (v := some (.ref s_P_1)) (fun h => by rw [Bd.returns] at h; cases h)
                refine ⟨_, _, retOut X14 hx Bd.returns rfl (Or.inr (Or.inr (Or.inr (Or.inr ⟨rfl, rfl, rfl⟩)))) (hb hby d1_62) hr, hrun, hended, _, _, rfl, ?_, ⟨_, rfl⟩, hW, hsame.mono (by decide) (by decide)⟩
                show Q1 Z k s_NUM_Q s_NUM_REL_RET s_P_1 s_RECIP_RANK s_P_5 s_NDCG_CUT_5 s_NUM_REL s_NDCG_CUT_20 s_NUM_RET s_P_10 s_NDCG_CUT_10 s_RECALL_1000 s_MAP h0 n0 _ T14.heap _
                rw [e14]
                exact ⟨(by rw [if_neg hc1, if_neg hc3, if_neg hc5, if_neg hc7, if_neg hc9, if_neg hc11, if_pos hc13]), N0, rfl⟩
              · refine own_step (fun _ κ => XS.icmpYes X0.here hx rfl (pc0 := 56) (pc' := 63) rfl (hb hby d1_56) rfl (feq hc13).2 (by decide) (by decide) κ) ?_
                show own_Go _ _ _ _ (s₁.setTop (mkF m 63 #[.val (.int k)] []))
                refine own_step (fun _ κ => XS.iloadN X0.here hx rfl (hb hby d1_63) rfl κ) ?_
                show own_Go _ _ _ _ (s₁.setTop (mkF m 64 #[.val (.int k)] [(.int k)]))
                refine own_step (fun _ κ => XS.bipush X0.here hx rfl (hb hby d1_64) κ) ?_
                show own_Go _ _ _ _ (s₁.setTop (mkF m 66 #[.val (.int k)] [(.int (7 : Int32)), (.int k)]))
                by_cases hc15 : k = (7 : Int32)
                · refine own_step (fun _ κ => XS.icmpNo X0.here hx rfl (hb hby d1_66) rfl (teq hc15).2 κ) ?_
                  show own_Go _ _ _ _ (s₁.setTop (mkF m 69 #[.val (.int k)] []))
                  obtain ⟨T16, X16, e16, st16⟩ := getS2 X0 hx hZ hown (host := "") (Or.inl (hw _ (List.mem_of_getElem? (i := 20) rfl))) Via.refl e0 (P5.ext P0.2) (g := (mkF m 69 #[.val (.int k)] [])) rfl (hb hby d1_69)
                  refine own_step st16 ?_
                  show own_Go _ _ _ _ (T16.setTop (mkF m 72 #[.val (.int k)] [(.ref s_P_5)]))
                  obtain ⟨fs, hr, hrun, hended, hW, hsame⟩ := X16.leave (v := some (.ref s_P_5)) (fun h => by rw [Bd.returns] at h; cases h)
                  refine ⟨_, _, retOut X16 hx Bd.returns rfl (Or.inr (Or.inr (Or.inr (Or.inr ⟨rfl, rfl, rfl⟩)))) (hb hby d1_72) hr, hrun, hended, _, _, rfl, ?_, ⟨_, rfl⟩, hW, hsame.mono (by decide) (by decide)⟩
                  show Q1 Z k s_NUM_Q s_NUM_REL_RET s_P_1 s_RECIP_RANK s_P_5 s_NDCG_CUT_5 s_NUM_REL s_NDCG_CUT_20 s_NUM_RET s_P_10 s_NDCG_CUT_10 s_RECALL_1000 s_MAP h0 n0 _ T16.heap _
                  rw [e16]
                  exact ⟨(by rw [if_neg hc1, if_neg hc3, if_neg hc5, if_neg hc7, if_neg hc9, if_neg hc11, if_neg hc13, if_pos hc15]), N0, rfl⟩
                · refine own_step (fun _ κ => XS.icmpYes X0.here hx rfl (pc0 := 66) (pc' := 73) rfl (hb hby d1_66) rfl (feq hc15).2 (by decide) (by decide) κ) ?_
                  show own_Go _ _ _ _ (s₁.setTop (mkF m 73 #[.val (.int k)] []))
                  refine own_step (fun _ κ => XS.iloadN X0.here hx rfl (hb hby d1_73) rfl κ) ?_
                  show own_Go _ _ _ _ (s₁.setTop (mkF m 74 #[.val (.int k)] [(.int k)]))
                  refine own_step (fun _ κ => XS.bipush X0.here hx rfl (hb hby d1_74) κ) ?_
                  show own_Go _ _ _ _ (s₁.setTop (mkF m 76 #[.val (.int k)] [(.int (8 : Int32)), (.int k)]))
                  by_cases hc17 : k = (8 : Int32)
                  · refine own_step (fun _ κ => XS.icmpNo X0.here hx rfl (hb hby d1_76) rfl (teq hc17).2 κ) ?_
                    show own_Go _ _ _ _ (s₁.setTop (mkF m 79 #[.val (.int k)] []))
                    obtain ⟨T18, X18, e18, st18⟩ := getS2 X0 hx hZ hown (host := "") (Or.inl (hw _ (List.mem_of_getElem? (i := 30) rfl))) Via.refl e0 (P10.ext P0.2) (g := (mkF m 79 #[.val (.int k)] [])) rfl (hb hby d1_79)
                    refine own_step st18 ?_
                    show own_Go _ _ _ _ (T18.setTop (mkF m 82 #[.val (.int k)] [(.ref s_P_10)]))
                    obtain ⟨fs, hr, hrun, hended, hW, hsame⟩ := X18.leave (v := some (.ref s_P_10)) (fun h => by rw [Bd.returns] at h; cases h)
                    refine ⟨_, _, retOut X18 hx Bd.returns rfl (Or.inr (Or.inr (Or.inr (Or.inr ⟨rfl, rfl, rfl⟩)))) (hb hby d1_82) hr, hrun, hended, _, _, rfl, ?_, ⟨_, rfl⟩, hW, hsame.mono (by decide) (by decide)⟩
                    show Q1 Z k s_NUM_Q s_NUM_REL_RET s_P_1 s_RECIP_RANK s_P_5 s_NDCG_CUT_5 s_NUM_REL s_NDCG_CUT_20 s_NUM_RET s_P_10 s_NDCG_CUT_10 s_RECALL_1000 s_MAP h0 n0 _ T18.heap _
                    rw [e18]
                    exact ⟨(by rw [if_neg hc1, if_neg hc3, if_neg hc5, if_neg hc7, if_neg hc9, if_neg hc11, if_neg hc13, if_neg hc15, if_pos hc17]), N0, rfl⟩
                  · refine own_step (fun _ κ => XS.icmpYes X0.here hx rfl (pc0 := 76) (pc' := 83) rfl (hb hby d1_76) rfl (feq hc17).2 (by decide) (by decide) κ) ?_
                    show own_Go _ _ _ _ (s₁.setTop (mkF m 83 #[.val (.int k)] []))
                    refine own_step (fun _ κ => XS.iloadN X0.here hx rfl (hb hby d1_83) rfl κ) ?_
                    show own_Go _ _ _ _ (s₁.setTop (mkF m 84 #[.val (.int k)] [(.int k)]))
                    refine own_step (fun _ κ => XS.bipush X0.here hx rfl (hb hby d1_84) κ) ?_
                    show own_Go _ _ _ _ (s₁.setTop (mkF m 86 #[.val (.int k)] [(.int (9 : Int32)), (.int k)]))
                    by_cases hc19 : k = (9 : Int32)
                    · refine own_step (fun _ κ => XS.icmpNo X0.here hx rfl (hb hby d1_86) rfl (teq hc19).2 κ) ?_
                      show own_Go _ _ _ _ (s₁.setTop (mkF m 89 #[.val (.int k)] []))
                      obtain ⟨T20, X20, e20, st20⟩ := getS2 X0 hx hZ hown (host := "") (Or.inl (hw _ (List.mem_of_getElem? (i := 22) rfl))) Via.refl e0 (P6.ext P0.2) (g := (mkF m 89 #[.val (.int k)] [])) rfl (hb hby d1_89)
                      refine own_step st20 ?_
                      show own_Go _ _ _ _ (T20.setTop (mkF m 92 #[.val (.int k)] [(.ref s_NDCG_CUT_5)]))
                      obtain ⟨fs, hr, hrun, hended, hW, hsame⟩ := X20.leave (v := some (.ref s_NDCG_CUT_5)) (fun h => by rw [Bd.returns] at h; cases h)
                      refine ⟨_, _, retOut X20 hx Bd.returns rfl (Or.inr (Or.inr (Or.inr (Or.inr ⟨rfl, rfl, rfl⟩)))) (hb hby d1_92) hr, hrun, hended, _, _, rfl, ?_, ⟨_, rfl⟩, hW, hsame.mono (by decide) (by decide)⟩
                      show Q1 Z k s_NUM_Q s_NUM_REL_RET s_P_1 s_RECIP_RANK s_P_5 s_NDCG_CUT_5 s_NUM_REL s_NDCG_CUT_20 s_NUM_RET s_P_10 s_NDCG_CUT_10 s_RECALL_1000 s_MAP h0 n0 _ T20.heap _
                      rw [e20]
                      exact ⟨(by rw [if_neg hc1, if_neg hc3, if_neg hc5, if_neg hc7, if_neg hc9, if_neg hc11, if_neg hc13, if_neg hc15, if_neg hc17, if_pos hc19]), N0, rfl⟩
                    · refine own_step (fun _ κ => XS.icmpYes X0.here hx rfl (pc0 := 86) (pc' := 93) rfl (hb hby d1_86) rfl (feq hc19).2 (by decide) (by decide) κ) ?_
                      show own_Go _ _ _ _ (s₁.setTop (mkF m 93 #[.val (.int k)] []))
                      refine own_step (fun _ κ => XS.iloadN X0.here hx rfl (hb hby d1_93) rfl κ) ?_
                      show own_Go _ _ _ _ (s₁.setTop (mkF m 94 #[.val (.int k)] [(.int k)]))
                      refine own_step (fun _ κ => XS.bipush X0.here hx rfl (hb hby d1_94) κ) ?_
                      show own_Go _ _ _ _ (s₁.setTop (mkF m 96 #[.val (.int k)] [(.int (10 : Int32)), (.int k)]))
                      by_cases hc21 : k = (10 : Int32)
                      · refine own_step (fun _ κ => XS.icmpNo X0.here hx rfl (hb hby d1_96) rfl (teq hc21).2 κ) ?_
                        show own_Go _ _ _ _ (s₁.setTop (mkF m 99 #[.val (.int k)] []))
                        obtain ⟨T22, X22, e22, st22⟩ := getS2 X0 hx hZ hown (host := "") (Or.inl (hw _ (List.mem_of_getElem? (i := 32) rfl))) Via.refl e0 (P11.ext P0.2) (g := (mkF m 99 #[.val (.int k)] [])) rfl (hb hby d1_99)
                        refine own_step st22 ?_
                        show own_Go _ _ _ _ (T22.setTop (mkF m 102 #[.val (.int k)] [(.ref s_NDCG_CUT_10)]))
                        obtain ⟨fs, hr, hrun, hended, hW, hsame⟩ := X22.leave (v := some (.ref s_NDCG_CUT_10)) (fun h => by rw [Bd.returns] at h; cases h)
                        refine ⟨_, _, retOut X22 hx Bd.returns rfl (Or.inr (Or.inr (Or.inr (Or.inr ⟨rfl, rfl, rfl⟩)))) (hb hby d1_102) hr, hrun, hended, _, _, rfl, ?_, ⟨_, rfl⟩, hW, hsame.mono (by decide) (by decide)⟩
                        show Q1 Z k s_NUM_Q s_NUM_REL_RET s_P_1 s_RECIP_RANK s_P_5 s_NDCG_CUT_5 s_NUM_REL s_NDCG_CUT_20 s_NUM_RET s_P_10 s_NDCG_CUT_10 s_RECALL_1000 s_MAP h0 n0 _ T22.heap _
                        rw [e22]
                        exact ⟨(by rw [if_neg hc1, if_neg hc3, if_neg hc5, if_neg hc7, if_neg hc9, if_neg hc11, if_neg hc13, if_neg hc15, if_neg hc17, if_neg hc19, if_pos hc21]), N0, rfl⟩
                      · refine own_step (fun _ κ => XS.icmpYes X0.here hx rfl (pc0 := 96) (pc' := 103) rfl (hb hby d1_96) rfl (feq hc21).2 (by decide) (by decide) κ) ?_
                        show own_Go _ _ _ _ (s₁.setTop (mkF m 103 #[.val (.int k)] []))
                        refine own_step (fun _ κ => XS.iloadN X0.here hx rfl (hb hby d1_103) rfl κ) ?_
                        show own_Go _ _ _ _ (s₁.setTop (mkF m 104 #[.val (.int k)] [(.int k)]))
                        refine own_step (fun _ κ => XS.bipush X0.here hx rfl (hb hby d1_104) κ) ?_
                        show own_Go _ _ _ _ (s₁.setTop (mkF m 106 #[.val (.int k)] [(.int (11 : Int32)), (.int k)]))
                        by_cases hc23 : k = (11 : Int32)
                        · refine own_step (fun _ κ => XS.icmpNo X0.here hx rfl (hb hby d1_106) rfl (teq hc23).2 κ) ?_
                          show own_Go _ _ _ _ (s₁.setTop (mkF m 109 #[.val (.int k)] []))
                          obtain ⟨T24, X24, e24, st24⟩ := getS2 X0 hx hZ hown (host := "") (Or.inl (hw _ (List.mem_of_getElem? (i := 26) rfl))) Via.refl e0 (P8.ext P0.2) (g := (mkF m 109 #[.val (.int k)] [])) rfl (hb hby d1_109)
                          refine own_step st24 ?_
                          show own_Go _ _ _ _ (T24.setTop (mkF m 112 #[.val (.int k)] [(.ref s_NDCG_CUT_20)]))
                          obtain ⟨fs, hr, hrun, hended, hW, hsame⟩ := X24.leave (v := some (.ref s_NDCG_CUT_20)) (fun h => by rw [Bd.returns] at h; cases h)
                          refine ⟨_, _, retOut X24 hx Bd.returns rfl (Or.inr (Or.inr (Or.inr (Or.inr ⟨rfl, rfl, rfl⟩)))) (hb hby d1_112) hr, hrun, hended, _, _, rfl, ?_, ⟨_, rfl⟩, hW, hsame.mono (by decide) (by decide)⟩
                          show Q1 Z k s_NUM_Q s_NUM_REL_RET s_P_1 s_RECIP_RANK s_P_5 s_NDCG_CUT_5 s_NUM_REL s_NDCG_CUT_20 s_NUM_RET s_P_10 s_NDCG_CUT_10 s_RECALL_1000 s_MAP h0 n0 _ T24.heap _
                          rw [e24]
                          exact ⟨(by rw [if_neg hc1, if_neg hc3, if_neg hc5, if_neg hc7, if_neg hc9, if_neg hc11, if_neg hc13, if_neg hc15, if_neg hc17, if_neg hc19, if_neg hc21, if_pos hc23]), N0, rfl⟩
                        · refine own_step (fun _ κ => XS.icmpYes X0.here hx rfl (pc0 := 106) (pc' := 113) rfl (hb hby d1_106) rfl (feq hc23).2 (by decide) (by decide) κ) ?_
                          show own_Go _ _ _ _ (s₁.setTop (mkF m 113 #[.val (.int k)] []))
                          obtain ⟨T25, X25, e25, st25⟩ := getS2 X0 hx hZ hown (host := "") (Or.inl (hw _ (List.mem_of_getElem? (i := 34) rfl))) Via.refl e0 (P12.ext P0.2) (g := (mkF m 113 #[.val (.int k)] [])) rfl (hb hby d1_113)
                          refine own_step st25 ?_
                          show own_Go _ _ _ _ (T25.setTop (mkF m 116 #[.val (.int k)] [(.ref s_RECALL_1000)]))
                          obtain ⟨fs, hr, hrun, hended, hW, hsame⟩ := X25.leave (v := some (.ref s_RECALL_1000)) (fun h => by rw [Bd.returns] at h; cases h)
                          refine ⟨_, _, retOut X25 hx Bd.returns rfl (Or.inr (Or.inr (Or.inr (Or.inr ⟨rfl, rfl, rfl⟩)))) (hb hby d1_116) hr, hrun, hended, _, _, rfl, ?_, ⟨_, rfl⟩, hW, hsame.mono (by decide) (by decide)⟩
                          show Q1 Z k s_NUM_Q s_NUM_REL_RET s_P_1 s_RECIP_RANK s_P_5 s_NDCG_CUT_5 s_NUM_REL s_NDCG_CUT_20 s_NUM_RET s_P_10 s_NDCG_CUT_10 s_RECALL_1000 s_MAP h0 n0 _ T25.heap _
                          rw [e25]
                          exact ⟨(by rw [if_neg hc1, if_neg hc3, if_neg hc5, if_neg hc7, if_neg hc9, if_neg hc11, if_neg hc13, if_neg hc15, if_neg hc17, if_neg hc19, if_neg hc21, if_neg hc23]), N0, rfl⟩
theorem d2_0 : decode prog_16_method_6_code 0 = .ok (.aload_n 0, 1) := by decide +kernel
theorem d2_1 : decode prog_16_method_6_code 1 = .ok (.getstatic 3, 3) := by decide +kernel
theorem d2_4 : decode prog_16_method_6_code 4 = .ok (.if_acmp .eq 7, 3) := by decide +kernel
theorem d2_7 : decode prog_16_method_6_code 7 = .ok (.iconst 1, 1) := by decide +kernel
theorem d2_8 : decode prog_16_method_6_code 8 = .ok (.goto 4, 3) := by decide +kernel
theorem d2_11 : decode prog_16_method_6_code 11 = .ok (.iconst 0, 1) := by decide +kernel
theorem d2_12 : decode prog_16_method_6_code 12 = .ok (.ireturn, 1) := by decide +kernel
theorem ef_2 (m : MethodId) (a : Addr) : entryFrame m #[(.ref a)] 1 = mkF m 0 #[.val (.ref a)] [] := by first | (simp [entryFrame, mkF, argsToLocals, Value.category]; done) | rfl
def Q2 (Z : State) (a : Addr) (w : Addr) (h0 : Heap) (n0 : Nat) (v : Option Value) (h : Heap) (L : List Loc) : Prop := v = some (.int (if a = w then (0 : Int32) else (1 : Int32))) ∧ Fr n0 L ∧ h = h0
set_option maxRecDepth 65536 in
set_option maxHeartbeats 40000000 in
theorem rm2 (l : Launch) (Z : State) (a0 : Array Value) (hw : ∀ d ∈ tables_1, d.before a0 Z = true) (ws : List Jvm.Cond) (a : Addr) (w : Addr) (h0 : Heap) (n0 : Nat) (Z0 : n0 ≤ h0.size) (P0 : Old Z n0 h0) (P1 : Sta Z Z.heap "com/example/fouille/fouille/eval/Measure" "NUM_Q" "Lcom/example/fouille/fouille/eval/Measure;" (.ref w)) :
    MetFree l (⟨"com/example/fouille/fouille/eval/Measure", "isPerQuery", "()Z"⟩ : MethodName) (head1 (Jvm.Cond.code (⟨"com/example/fouille/fouille/eval/Measure", "isPerQuery", "()Z"⟩ : MethodName) prog_16_method_6_code 1 (some .boolean) :: ws) ({ frames := 0, cells := 0, slots := 0, locals := 0 } : Room)) (fun ar_ U => ar_ = #[(.ref a)] ∧ Z.Warmed39 U.vm ∧ U.heap = h0) (fun _ _ _ _ _ => True) (fun _ U oo_ U' => ∃ v L, oo_ = .returned v ∧ Q2 Z a w h0 n0 v U'.heap L ∧ FrameEnd U oo_ U' L ({ frames := 0, cells := 0, slots := 0, locals := 0 } : Room).cells ({ frames := 0, cells := 0, slots := 0, locals := 0 } : Room).slots) := by
  refine MetFree.of_bodySF (plainFor_of_name pn_1) hisR ?_
  intro p e s m args below meth c s₁ Bd hml0 hP hK
  obtain ⟨rfl, hZ, hh⟩ := hP
  have hx := Bd.exec
  have hby := Bd.bytes
  have hml : c.maxLocals = 1 := hml0
  have hown : s.vm.findClass "com/example/fouille/fouille/eval/Measure" = some m.cls := findClass_of_methodNamed Bd.named
  have hnm := (name_of_methodNamed Bd.named Bd.method).1
  have X0 : Stand p l e ({ frames := 0, cells := 0, slots := 0, locals := 0 } : Room) s m #[(.ref a)] below meth c s₁ [] 0 0 := Stand.of_body Bd
  have e0 : s₁.heap = h0 := by rw [← hh, Bd.state]; rfl
  have N0 := Fr.nil n0
  refine own_in (castTop (ef_2 m a)) ?_
  show own_Go _ _ _ _ (s₁.setTop (mkF m 0 #[.val (.ref a)] []))
  refine own_step (fun _ κ => XS.aloadN X0.here hx rfl (hb hby d2_0) rfl rfl κ) ?_
  show own_Go _ _ _ _ (s₁.setTop (mkF m 1 #[.val (.ref a)] [(.ref a)]))
  obtain ⟨T1, X1, e1, st1⟩ := getS2 X0 hx hZ hown (host := "") (Or.inl (hw _ (List.mem_of_getElem? (i := 13) rfl))) Via.refl e0 (P1.ext P0.2) (g := (mkF m 1 #[.val (.ref a)] [(.ref a)])) rfl (hb hby d2_1)
  refine own_step st1 ?_
  show own_Go _ _ _ _ (T1.setTop (mkF m 4 #[.val (.ref a)] [(.ref w), (.ref a)]))
  by_cases hc2 : a = w
  · refine own_step (fun _ κ => Jvm.RoadKit.acmp (g := (mkF m 4 #[.val (.ref a)] [(.ref w), (.ref a)])) X1 hx rfl rfl rfl (pc0 := 4) (pc' := 11) (same := true) rfl (hb hby d2_4) rfl (decide_eq_true (congrArg Value.ref hc2)) (by decide) (by decide) κ) ?_
    show own_Go _ _ _ _ (T1.setTop (mkF m 11 #[.val (.ref a)] []))
    refine own_step (fun _ κ => XS.iconst X1.here hx rfl (hb hby d2_11) κ) ?_
    show own_Go _ _ _ _ (T1.setTop (mkF m 12 #[.val (.ref a)] [(.int (0 : Int32))]))
    obtain ⟨fs, hr, hrun, hended, hW, hsame⟩ := X1.leave (v := some (.int (0 : Int32))) (fun h => by rw [Bd.returns] at h; cases h)
    refine ⟨_, _, retN X1 hx (t := .boolean) Bd.returns (by simp) (hb hby d2_12) hr, hrun, hended, _, _, rfl, ?_, ⟨_, rfl⟩, hW, hsame.mono (by decide) (by decide)⟩
    show Q2 Z a w h0 n0 _ T1.heap _
    rw [e1]
    exact ⟨(by rw [if_pos hc2]), N0, rfl⟩
  · refine own_step (fun _ κ => Jvm.RoadKit.acmp (g := (mkF m 4 #[.val (.ref a)] [(.ref w), (.ref a)])) X1 hx rfl rfl rfl (pc0 := 4) (pc' := 7) (same := false) rfl (hb hby d2_4) rfl (decide_eq_false fun q => hc2 (Value.ref.inj q)) (by decide) (by decide) κ) ?_
    show own_Go _ _ _ _ (T1.setTop (mkF m 7 #[.val (.ref a)] []))
    refine own_step (fun _ κ => XS.iconst X1.here hx rfl (hb hby d2_7) κ) ?_
    show own_Go _ _ _ _ (T1.setTop (mkF m 8 #[.val (.ref a)] [(.int (1 : Int32))]))
    refine own_step (fun _ κ => XS.goto X1.here hx rfl (pc0 := 8) (pc' := 12) rfl (hb hby d2_8) (by decide) (by decide) κ) ?_
    show own_Go _ _ _ _ (T1.setTop (mkF m 12 #[.val (.ref a)] [(.int (1 : Int32))]))
    obtain ⟨fs, hr, hrun, hended, hW, hsame⟩ := X1.leave (v := some (.int (1 : Int32))) (fun h => by rw [Bd.returns] at h; cases h)
    refine ⟨_, _, retN X1 hx (t := .boolean) Bd.returns (by simp) (hb hby d2_12) hr, hrun, hended, _, _, rfl, ?_, ⟨_, rfl⟩, hW, hsame.mono (by decide) (by decide)⟩
    show Q2 Z a w h0 n0 _ T1.heap _
    rw [e1]
    exact ⟨(by rw [if_neg hc2]), N0, rfl⟩
theorem ef_0 (m : MethodId) (x0 : Int32) : entryFrame m #[(.int x0)] maxLocals = mkF m 0 #[.val (.int x0), .unset, .unset, .unset] [] := by first | (simp [entryFrame, mkF, argsToLocals, Value.category, maxLocals]; done) | rfl
def Q0 (Z : State) (x0 : Int32) (s_NUM_Q : Addr) (s_NUM_REL_RET : Addr) (s_P_1 : Addr) (s_RECIP_RANK : Addr) (s_P_5 : Addr) (s_NDCG_CUT_5 : Addr) (s_NUM_REL : Addr) (s_NDCG_CUT_20 : Addr) (s_NUM_RET : Addr) (s_P_10 : Addr) (s_NDCG_CUT_10 : Addr) (s_RECALL_1000 : Addr) (s_MAP : Addr) (h0 : Heap) (n0 : Nat) (v : Option Value) (h : Heap) (L : List Loc) : Prop := v = some (.int (1 : Int32)) ∧ Fr n0 L
set_option maxRecDepth 65536 in
set_option maxHeartbeats 40000000 in
theorem rm0 (l : Launch) (Z : State) (a0 : Array Value) (hw : ∀ d ∈ tables_1, d.before a0 Z = true) (ws : List Jvm.Cond) (x0 : Int32) (s_NUM_Q : Addr) (s_NUM_REL_RET : Addr) (s_P_1 : Addr) (s_RECIP_RANK : Addr) (s_P_5 : Addr) (s_NDCG_CUT_5 : Addr) (s_NUM_REL : Addr) (s_NDCG_CUT_20 : Addr) (s_NUM_RET : Addr) (s_P_10 : Addr) (s_NDCG_CUT_10 : Addr) (s_RECALL_1000 : Addr) (s_MAP : Addr) (h0 : Heap) (n0 : Nat) (Z0 : n0 ≤ h0.size) (P0 : Old Z n0 h0) (P1 : Sta Z Z.heap "com/example/fouille/fouille/eval/Measure" "NUM_Q" "Lcom/example/fouille/fouille/eval/Measure;" (.ref s_NUM_Q)) (P2 : Exa Z Z.heap s_NUM_Q "com/example/fouille/fouille/eval/Measure") (P3 : Sta Z Z.heap "com/example/fouille/fouille/eval/Measure" "NUM_REL_RET" "Lcom/example/fouille/fouille/eval/Measure;" (.ref s_NUM_REL_RET)) (P4 : Exa Z Z.heap s_NUM_REL_RET "com/example/fouille/fouille/eval/Measure") (P5 : Sta Z Z.heap "com/example/fouille/fouille/eval/Measure" "P_1" "Lcom/example/fouille/fouille/eval/Measure;" (.ref s_P_1)) (P6 : Exa Z Z.heap s_P_1 "com/example/fouille/fouille/eval/Measure") (P7 : Sta Z Z.heap "com/example/fouille/fouille/eval/Measure" "RECIP_RANK" "Lcom/example/fouille/fouille/eval/Measure;" (.ref s_RECIP_RANK)) (P8 : Exa Z Z.heap s_RECIP_RANK "com/example/fouille/fouille/eval/Measure") (P9 : Sta Z Z.heap "com/example/fouille/fouille/eval/Measure" "P_5" "Lcom/example/fouille/fouille/eval/Measure;" (.ref s_P_5)) (P10 : Exa Z Z.heap s_P_5 "com/example/fouille/fouille/eval/Measure") (P11 : Sta Z Z.heap "com/example/fouille/fouille/eval/Measure" "NDCG_CUT_5" "Lcom/example/fouille/fouille/eval/Measure;" (.ref s_NDCG_CUT_5)) (P12 : Exa Z Z.heap s_NDCG_CUT_5 "com/example/fouille/fouille/eval/Measure") (P13 : Sta Z Z.heap "com/example/fouille/fouille/eval/Measure" "NUM_REL" "Lcom/example/fouille/fouille/eval/Measure;" (.ref s_NUM_REL)) (P14 : Exa Z Z.heap s_NUM_REL "com/example/fouille/fouille/eval/Measure") (P15 : Sta Z Z.heap "com/example/fouille/fouille/eval/Measure" "NDCG_CUT_20" "Lcom/example/fouille/fouille/eval/Measure;" (.ref s_NDCG_CUT_20)) (P16 : Exa Z Z.heap s_NDCG_CUT_20 "com/example/fouille/fouille/eval/Measure") (P17 : Sta Z Z.heap "com/example/fouille/fouille/eval/Measure" "NUM_RET" "Lcom/example/fouille/fouille/eval/Measure;" (.ref s_NUM_RET)) (P18 : Exa Z Z.heap s_NUM_RET "com/example/fouille/fouille/eval/Measure") (P19 : Sta Z Z.heap "com/example/fouille/fouille/eval/Measure" "P_10" "Lcom/example/fouille/fouille/eval/Measure;" (.ref s_P_10)) (P20 : Exa Z Z.heap s_P_10 "com/example/fouille/fouille/eval/Measure") (P21 : Sta Z Z.heap "com/example/fouille/fouille/eval/Measure" "NDCG_CUT_10" "Lcom/example/fouille/fouille/eval/Measure;" (.ref s_NDCG_CUT_10)) (P22 : Exa Z Z.heap s_NDCG_CUT_10 "com/example/fouille/fouille/eval/Measure") (P23 : Sta Z Z.heap "com/example/fouille/fouille/eval/Measure" "RECALL_1000" "Lcom/example/fouille/fouille/eval/Measure;" (.ref s_RECALL_1000)) (P24 : Exa Z Z.heap s_RECALL_1000 "com/example/fouille/fouille/eval/Measure") (P25 : Sta Z Z.heap "com/example/fouille/fouille/eval/Measure" "MAP" "Lcom/example/fouille/fouille/eval/Measure;" (.ref s_MAP)) (P26 : Exa Z Z.heap s_MAP "com/example/fouille/fouille/eval/Measure") (P27 : s_NUM_REL_RET ≠ s_NUM_Q) (P28 : s_P_1 ≠ s_NUM_Q) (P29 : s_RECIP_RANK ≠ s_NUM_Q) (P30 : s_P_5 ≠ s_NUM_Q) (P31 : s_NDCG_CUT_5 ≠ s_NUM_Q) (P32 : s_NUM_REL ≠ s_NUM_Q) (P33 : s_NDCG_CUT_20 ≠ s_NUM_Q) (P34 : s_NUM_RET ≠ s_NUM_Q) (P35 : s_P_10 ≠ s_NUM_Q) (P36 : s_NDCG_CUT_10 ≠ s_NUM_Q) (P37 : s_RECALL_1000 ≠ s_NUM_Q) (P38 : s_MAP ≠ s_NUM_Q) :
    MetFree l x (head1 (Jvm.Cond.code x code maxLocals ret :: ws) room_1) (fun ar_ U => ar_ = #[(.int x0)] ∧ Z.Warmed39 U.vm ∧ U.heap = h0) (fun _ _ _ _ _ => True) (fun _ U oo_ U' => ∃ v L, oo_ = .returned v ∧ Q0 Z x0 s_NUM_Q s_NUM_REL_RET s_P_1 s_RECIP_RANK s_P_5 s_NDCG_CUT_5 s_NUM_REL s_NDCG_CUT_20 s_NUM_RET s_P_10 s_NDCG_CUT_10 s_RECALL_1000 s_MAP h0 n0 v U'.heap L ∧ FrameEnd U oo_ U' L room_1.cells room_1.slots) := by
  refine MetFree.of_bodySF (plainFor_of_name pn_0) hisR ?_
  intro p e s m args below meth c s₁ Bd hml0 hP hK
  obtain ⟨rfl, hZ, hh⟩ := hP
  have hx := Bd.exec
  have hby := Bd.bytes
  have hml : c.maxLocals = 4 := hml0
  have hown : s.vm.findClass "com/example/fouille/fouille/eval/MeasureIsPerQueryPinLaw" = some m.cls := findClass_of_methodNamed Bd.named
  have hnm := (name_of_methodNamed Bd.named Bd.method).1
  have X0 : Stand p l e room_1 s m #[(.int x0)] below meth c s₁ [] 0 0 := Stand.of_body Bd
  have e0 : s₁.heap = h0 := by rw [← hh, Bd.state]; rfl
  have N0 := Fr.nil n0
  refine own_in (castTop (ef_0 m x0)) ?_
  show own_Go _ _ _ _ (s₁.setTop (mkF m 0 #[.val (.int x0), .unset, .unset, .unset] []))
  refine own_step (fun _ κ => XS.iloadN X0.here hx rfl (hb hby at_0) rfl κ) ?_
  show own_Go _ _ _ _ (s₁.setTop (mkF m 1 #[.val (.int x0), .unset, .unset, .unset] [(.int x0)]))
  refine own_step (fun _ κ => X0.ldcInt hx hown (mvT hZ (hw _ (List.mem_of_getElem? (i := 0) rfl))) (g := (mkF m 1 #[.val (.int x0), .unset, .unset, .unset] [(.int x0)])) rfl (hb hby at_1) _ κ) ?_
  show own_Go _ _ _ _ (s₁.setTop (mkF m 3 #[.val (.int x0), .unset, .unset, .unset] [(.int (2147483647 : Int32)), (.int x0)]))
  refine own_step (fun _ κ => XS.iand X0.here hx rfl (hb hby at_3) rfl κ) ?_
  show own_Go _ _ _ _ (s₁.setTop (mkF m 4 #[.val (.int x0), .unset, .unset, .unset] [(.int (x0 &&& (2147483647 : Int32)))]))
  refine own_step (fun _ κ => XS.bipush X0.here hx rfl (hb hby at_4) κ) ?_
  show own_Go _ _ _ _ (s₁.setTop (mkF m 6 #[.val (.int x0), .unset, .unset, .unset] [(.int (13 : Int32)), (.int (x0 &&& (2147483647 : Int32)))]))
  refine own_step (fun _ κ => iremM X0 hx rfl (hb hby at_6) rfl (by decide) κ) ?_
  show own_Go _ _ _ _ (s₁.setTop (mkF m 7 #[.val (.int x0), .unset, .unset, .unset] [(.int ((x0 &&& (2147483647 : Int32)) % (13 : Int32)))]))
  refine own_step (fun _ κ => XS.istoreN X0.here hx rfl (hb hby at_7) rfl (l' := #[.val (.int x0), .val (.int ((x0 &&& (2147483647 : Int32)) % (13 : Int32))), .unset, .unset]) rfl κ) ?_
  show own_Go _ _ _ _ (s₁.setTop (mkF m 8 #[.val (.int x0), .val (.int ((x0 &&& (2147483647 : Int32)) % (13 : Int32))), .unset, .unset] []))
  refine own_step (fun _ κ => XS.iloadN X0.here hx rfl (hb hby at_8) rfl κ) ?_
  show own_Go _ _ _ _ (s₁.setTop (mkF m 9 #[.val (.int x0), .val (.int ((x0 &&& (2147483647 : Int32)) % (13 : Int32))), .unset, .unset] [(.int ((x0 &&& (2147483647 : Int32)) % (13 : Int32)))]))
  obtain ⟨vr1, _, ⟨T1, L1, k1, n1⟩, -, X1, ⟨Lc1, hQ1, l1, y1, z1⟩, st1⟩ := Jvm.LawKit.callS X0 hx (y := (⟨"com/example/fouille/fouille/eval/MeasureIsPerQueryPinLaw", "pick", "(I)Lcom/example/fouille/fouille/eval/Measure;"⟩ : MethodName)) hown (mvT hZ (hw _ (List.mem_of_getElem? (i := 1) rfl))) (mvT hZ (hw _ (List.mem_of_getElem? (i := 2) rfl))) (mvT hZ (hw _ (List.mem_of_getElem? (i := 3) rfl))) (mvT hZ (hw _ (List.mem_of_getElem? (i := 4) rfl))) (by decide) (backOf (W := 0) (rm1 l Z a0 hw [] ((x0 &&& (2147483647 : Int32)) % (13 : Int32)) s_NUM_Q s_NUM_REL_RET s_P_1 s_RECIP_RANK s_P_5 s_NDCG_CUT_5 s_NUM_REL s_NDCG_CUT_20 s_NUM_RET s_P_10 s_NDCG_CUT_10 s_RECALL_1000 s_MAP h0 n0 Z0 P0 P1 P3 P5 P7 P9 P11 P13 P15 P17 P19 P21 P23 P25) hZ (hw _ (List.mem_of_getElem? (i := 4) rfl)) (hw _ (List.mem_of_getElem? (i := 3) rfl)) (by decide) (by decide)) (g := (mkF m 9 #[.val (.int x0), .val (.int ((x0 &&& (2147483647 : Int32)) % (13 : Int32))), .unset, .unset] [(.int ((x0 &&& (2147483647 : Int32)) % (13 : Int32)))])) rfl (by rw [hml]; rfl) (argsL := [(.int ((x0 &&& (2147483647 : Int32)) % (13 : Int32)))]) (rest := []) (lenOf pd_0 rfl) rfl (by show 2 * 0 + _ ≤ _; exact Nat.le_of_eq rfl) (hb hby at_9) (fun _ _ => ⟨rfl, e0, (by decide : 0 + 0 ≤ _), (by decide : 0 + 0 ≤ _)⟩)
  dsimp only [Pt.U, Pt.locs, Pt.cells, Pt.slots] at X1 l1 y1 z1 st1 hQ1
  subst l1 y1 z1
  obtain ⟨hv1, Nq1, eq1⟩ := hQ1
  have N1 := Fr.app N0 Nq1
  by_cases hc2 : ((x0 &&& (2147483647 : Int32)) % (13 : Int32)) = (0 : Int32)
  · rw [if_pos hc2] at hv1
    subst hv1
    refine own_step st1 ?_
    show own_Go _ _ _ _ (T1.setTop (mkF m 12 #[.val (.int x0), .val (.int ((x0 &&& (2147483647 : Int32)) % (13 : Int32))), .unset, .unset] [(.ref s_NUM_Q)]))
    refine own_step (fun _ κ => XS.astoreN X1.here hx rfl (hb hby at_12) rfl rfl (l' := #[.val (.int x0), .val (.int ((x0 &&& (2147483647 : Int32)) % (13 : Int32))), .val (.ref s_NUM_Q), .unset]) rfl κ) ?_
    show own_Go _ _ _ _ (T1.setTop (mkF m 13 #[.val (.int x0), .val (.int ((x0 &&& (2147483647 : Int32)) % (13 : Int32))), .val (.ref s_NUM_Q), .unset] []))
    refine own_step (fun _ κ => XS.iloadN X1.here hx rfl (hb hby at_13) rfl κ) ?_
    show own_Go _ _ _ _ (T1.setTop (mkF m 14 #[.val (.int x0), .val (.int ((x0 &&& (2147483647 : Int32)) % (13 : Int32))), .val (.ref s_NUM_Q), .unset] [(.int ((x0 &&& (2147483647 : Int32)) % (13 : Int32)))]))
    refine own_step (fun _ κ => XS.ifYes X1.here hx rfl (pc0 := 14) (pc' := 21) rfl (hb hby at_14) rfl ((if0 _ _).trans (teq hc2).1) (by decide) (by decide) κ) ?_
    show own_Go _ _ _ _ (T1.setTop (mkF m 21 #[.val (.int x0), .val (.int ((x0 &&& (2147483647 : Int32)) % (13 : Int32))), .val (.ref s_NUM_Q), .unset] []))
    refine own_step (fun _ κ => XS.iconst X1.here hx rfl (hb hby at_21) κ) ?_
    show own_Go _ _ _ _ (T1.setTop (mkF m 22 #[.val (.int x0), .val (.int ((x0 &&& (2147483647 : Int32)) % (13 : Int32))), .val (.ref s_NUM_Q), .unset] [(.int (0 : Int32))]))
    refine own_step (fun _ κ => XS.istoreN X1.here hx rfl (hb hby at_22) rfl (l' := #[.val (.int x0), .val (.int ((x0 &&& (2147483647 : Int32)) % (13 : Int32))), .val (.ref s_NUM_Q), .val (.int (0 : Int32))]) rfl κ) ?_
    show own_Go _ _ _ _ (T1.setTop (mkF m 23 #[.val (.int x0), .val (.int ((x0 &&& (2147483647 : Int32)) % (13 : Int32))), .val (.ref s_NUM_Q), .val (.int (0 : Int32))] []))
    refine own_step (fun _ κ => XS.aloadN X1.here hx rfl (hb hby at_23) rfl rfl κ) ?_
    show own_Go _ _ _ _ (T1.setTop (mkF m 24 #[.val (.int x0), .val (.int ((x0 &&& (2147483647 : Int32)) % (13 : Int32))), .val (.ref s_NUM_Q), .val (.int (0 : Int32))] [(.ref s_NUM_Q)]))
    obtain ⟨cq3, kq3, q3a, q3b, q3c⟩ := isOf hZ eq1 (P2.ext P0.2)
    obtain ⟨vr3, _, ⟨T3, L3, k3, n3⟩, -, X3, ⟨Lc3, hQ3, l3, y3, z3⟩, st3⟩ := X1.virtualBack hx (y := (⟨"com/example/fouille/fouille/eval/Measure", "isPerQuery", "()Z"⟩ : MethodName)) (z := (⟨"com/example/fouille/fouille/eval/Measure", "isPerQuery", "()Z"⟩ : MethodName)) hown (mvT hZ (hw _ (List.mem_of_getElem? (i := 8) rfl))) (mvT hZ (hw _ (List.mem_of_getElem? (i := 9) rfl))) (notFace_of_selects (args := #[]) (mvT hZ (hw _ (List.mem_of_getElem? (i := 11) rfl)))) (mvT hZ (hw _ (List.mem_of_getElem? (i := 11) rfl))) (mvT hZ (hw _ (List.mem_of_getElem? (i := 10) rfl))) (by decide) (backOf (W := 0) (rm2 l Z a0 hw [] s_NUM_Q s_NUM_Q h0 n0 Z0 P0 P1) hZ (hw _ (List.mem_of_getElem? (i := 12) rfl)) (hw _ (List.mem_of_getElem? (i := 6) rfl)) (by decide) (by decide)) q3a q3c (g := (mkF m 24 #[.val (.int x0), .val (.int ((x0 &&& (2147483647 : Int32)) % (13 : Int32))), .val (.ref s_NUM_Q), .val (.int (0 : Int32))] [(.ref s_NUM_Q)])) rfl (by rw [hml]; rfl) (Steps.refl _) (argsL := []) (rest := []) (lenOf pd_1 rfl) rfl (by show 2 * 0 + _ ≤ _; exact Nat.le_of_eq rfl) (hb hby at_24) (fun _ _ => ⟨rfl, eq1, (by decide : 0 + 0 ≤ _), (by decide : 0 + 0 ≤ _)⟩)
    dsimp only [Pt.U, Pt.locs, Pt.cells, Pt.slots] at X3 l3 y3 z3 st3 hQ3
    subst l3 y3 z3
    obtain ⟨hv3, Nq3, eq3⟩ := hQ3
    have N3 := Fr.app N1 Nq3
    rw [if_pos rfl] at hv3
    subst hv3
    refine own_step (fun _ κ => st3.trans κ) ?_
    show own_Go _ _ _ _ (T3.setTop (mkF m 27 #[.val (.int x0), .val (.int ((x0 &&& (2147483647 : Int32)) % (13 : Int32))), .val (.ref s_NUM_Q), .val (.int (0 : Int32))] [(.int (0 : Int32))]))
    refine own_step (fun _ κ => XS.iloadN X3.here hx rfl (hb hby at_27) rfl κ) ?_
    show own_Go _ _ _ _ (T3.setTop (mkF m 28 #[.val (.int x0), .val (.int ((x0 &&& (2147483647 : Int32)) % (13 : Int32))), .val (.ref s_NUM_Q), .val (.int (0 : Int32))] [(.int (0 : Int32)), (.int (0 : Int32))]))
    refine own_step (fun _ κ => XS.icmpNo X3.here hx rfl (hb hby at_28) rfl (teq rfl).2 κ) ?_
    show own_Go _ _ _ _ (T3.setTop (mkF m 31 #[.val (.int x0), .val (.int ((x0 &&& (2147483647 : Int32)) % (13 : Int32))), .val (.ref s_NUM_Q), .val (.int (0 : Int32))] []))
    refine own_step (fun _ κ => XS.iconst X3.here hx rfl (hb hby at_31) κ) ?_
    show own_Go _ _ _ _ (T3.setTop (mkF m 32 #[.val (.int x0), .val (.int ((x0 &&& (2147483647 : Int32)) % (13 : Int32))), .val (.ref s_NUM_Q), .val (.int (0 : Int32))] [(.int (1 : Int32))]))
    refine own_step (fun _ κ => XS.goto X3.here hx rfl (pc0 := 32) (pc' := 36) rfl (hb hby at_32) (by decide) (by decide) κ) ?_
    show own_Go _ _ _ _ (T3.setTop (mkF m 36 #[.val (.int x0), .val (.int ((x0 &&& (2147483647 : Int32)) % (13 : Int32))), .val (.ref s_NUM_Q), .val (.int (0 : Int32))] [(.int (1 : Int32))]))
    obtain ⟨fs, hr, hrun, hended, hW, hsame⟩ := X3.leave (v := some (.int (1 : Int32))) (fun h => by rw [Bd.returns] at h; cases h)
    refine ⟨_, _, retN X3 hx (t := .boolean) Bd.returns (by simp) (hb hby at_36) hr, hrun, hended, _, _, rfl, ?_, ⟨_, rfl⟩, hW, hsame.mono (by decide) (by decide)⟩
    show Q0 Z x0 s_NUM_Q s_NUM_REL_RET s_P_1 s_RECIP_RANK s_P_5 s_NDCG_CUT_5 s_NUM_REL s_NDCG_CUT_20 s_NUM_RET s_P_10 s_NDCG_CUT_10 s_RECALL_1000 s_MAP h0 n0 _ T3.heap _
    exact ⟨rfl, N3⟩
  · rw [if_neg hc2] at hv1
    by_cases hc4 : ((x0 &&& (2147483647 : Int32)) % (13 : Int32)) = (1 : Int32)
    · rw [if_pos hc4] at hv1
      subst hv1
      refine own_step st1 ?_
      show own_Go _ _ _ _ (T1.setTop (mkF m 12 #[.val (.int x0), .val (.int ((x0 &&& (2147483647 : Int32)) % (13 : Int32))), .unset, .unset] [(.ref s_NUM_RET)]))
      refine own_step (fun _ κ => XS.astoreN X1.here hx rfl (hb hby at_12) rfl rfl (l' := #[.val (.int x0), .val (.int ((x0 &&& (2147483647 : Int32)) % (13 : Int32))), .val (.ref s_NUM_RET), .unset]) rfl κ) ?_
      show own_Go _ _ _ _ (T1.setTop (mkF m 13 #[.val (.int x0), .val (.int ((x0 &&& (2147483647 : Int32)) % (13 : Int32))), .val (.ref s_NUM_RET), .unset] []))
      refine own_step (fun _ κ => XS.iloadN X1.here hx rfl (hb hby at_13) rfl κ) ?_
      show own_Go _ _ _ _ (T1.setTop (mkF m 14 #[.val (.int x0), .val (.int ((x0 &&& (2147483647 : Int32)) % (13 : Int32))), .val (.ref s_NUM_RET), .unset] [(.int ((x0 &&& (2147483647 : Int32)) % (13 : Int32)))]))
      refine own_step (fun _ κ => XS.ifNo X1.here hx rfl (hb hby at_14) rfl ((if0 _ _).trans (feq hc2).1) κ) ?_
      show own_Go _ _ _ _ (T1.setTop (mkF m 17 #[.val (.int x0), .val (.int ((x0 &&& (2147483647 : Int32)) % (13 : Int32))), .val (.ref s_NUM_RET), .unset] []))
      refine own_step (fun _ κ => XS.iconst X1.here hx rfl (hb hby at_17) κ) ?_
      show own_Go _ _ _ _ (T1.setTop (mkF m 18 #[.val (.int x0), .val (.int ((x0 &&& (2147483647 : Int32)) % (13 : Int32))), .val (.ref s_NUM_RET), .unset] [(.int (1 : Int32))]))
      refine own_step (fun _ κ => XS.goto X1.here hx rfl (pc0 := 18) (pc' := 22) rfl (hb hby at_18) (by decide) (by decide) κ) ?_
      show own_Go _ _ _ _ (T1.setTop (mkF m 22 #[.val (.int x0), .val (.int ((x0 &&& (2147483647 : Int32)) % (13 : Int32))), .val (.ref s_NUM_RET), .unset] [(.int (1 : Int32))]))
      refine own_step (fun _ κ => XS.istoreN X1.here hx rfl (hb hby at_22) rfl (l' := #[.val (.int x0), .val (.int ((x0 &&& (2147483647 : Int32)) % (13 : Int32))), .val (.ref s_NUM_RET), .val (.int (1 : Int32))]) rfl κ) ?_
      show own_Go _ _ _ _ (T1.setTop (mkF m 23 #[.val (.int x0), .val (.int ((x0 &&& (2147483647 : Int32)) % (13 : Int32))), .val (.ref s_NUM_RET), .val (.int (1 : Int32))] []))
      refine own_step (fun _ κ => XS.aloadN X1.here hx rfl (hb hby at_23) rfl rfl κ) ?_
      show own_Go _ _ _ _ (T1.setTop (mkF m 24 #[.val (.int x0), .val (.int ((x0 &&& (2147483647 : Int32)) % (13 : Int32))), .val (.ref s_NUM_RET), .val (.int (1 : Int32))] [(.ref s_NUM_RET)]))
      obtain ⟨cq5, kq5, q5a, q5b, q5c⟩ := isOf hZ eq1 (P18.ext P0.2)
      obtain ⟨vr5, _, ⟨T5, L5, k5, n5⟩, -, X5, ⟨Lc5, hQ5, l5, y5, z5⟩, st5⟩ := X1.virtualBack hx (y := (⟨"com/example/fouille/fouille/eval/Measure", "isPerQuery", "()Z"⟩ : MethodName)) (z := (⟨"com/example/fouille/fouille/eval/Measure", "isPerQuery", "()Z"⟩ : MethodName)) hown (mvT hZ (hw _ (List.mem_of_getElem? (i := 8) rfl))) (mvT hZ (hw _ (List.mem_of_getElem? (i := 9) rfl))) (notFace_of_selects (args := #[]) (mvT hZ (hw _ (List.mem_of_getElem? (i := 11) rfl)))) (mvT hZ (hw _ (List.mem_of_getElem? (i := 11) rfl))) (mvT hZ (hw _ (List.mem_of_getElem? (i := 10) rfl))) (by decide) (backOf (W := 0) (rm2 l Z a0 hw [] s_NUM_RET s_NUM_Q h0 n0 Z0 P0 P1) hZ (hw _ (List.mem_of_getElem? (i := 12) rfl)) (hw _ (List.mem_of_getElem? (i := 6) rfl)) (by decide) (by decide)) q5a q5c (g := (mkF m 24 #[.val (.int x0), .val (.int ((x0 &&& (2147483647 : Int32)) % (13 : Int32))), .val (.ref s_NUM_RET), .val (.int (1 : Int32))] [(.ref s_NUM_RET)])) rfl (by rw [hml]; rfl) (Steps.refl _) (argsL := []) (rest := []) (lenOf pd_1 rfl) rfl (by show 2 * 0 + _ ≤ _; exact Nat.le_of_eq rfl) (hb hby at_24) (fun _ _ => ⟨rfl, eq1, (by decide : 0 + 0 ≤ _), (by decide : 0 + 0 ≤ _)⟩)
      dsimp only [Pt.U, Pt.locs, Pt.cells, Pt.slots] at X5 l5 y5 z5 st5 hQ5
      subst l5 y5 z5
      obtain ⟨hv5, Nq5, eq5⟩ := hQ5
      have N5 := Fr.app N1 Nq5
      rw [if_neg P34] at hv5
      subst hv5
      refine own_step (fun _ κ => st5.trans κ) ?_
      show own_Go _ _ _ _ (T5.setTop (mkF m 27 #[.val (.int x0), .val (.int ((x0 &&& (2147483647 : Int32)) % (13 : Int32))), .val (.ref s_NUM_RET), .val (.int (1 : Int32))] [(.int (1 : Int32))]))
      refine own_step (fun _ κ => XS.iloadN X5.here hx rfl (hb hby at_27) rfl κ) ?_
      show own_Go _ _ _ _ (T5.setTop (mkF m 28 #[.val (.int x0), .val (.int ((x0 &&& (2147483647 : Int32)) % (13 : Int32))), .val (.ref s_NUM_RET), .val (.int (1 : Int32))] [(.int (1 : Int32)), (.int (1 : Int32))]))
      refine own_step (fun _ κ => XS.icmpNo X5.here hx rfl (hb hby at_28) rfl (teq rfl).2 κ) ?_
      show own_Go _ _ _ _ (T5.setTop (mkF m 31 #[.val (.int x0), .val (.int ((x0 &&& (2147483647 : Int32)) % (13 : Int32))), .val (.ref s_NUM_RET), .val (.int (1 : Int32))] []))
      refine own_step (fun _ κ => XS.iconst X5.here hx rfl (hb hby at_31) κ) ?_
      show own_Go _ _ _ _ (T5.setTop (mkF m 32 #[.val (.int x0), .val (.int ((x0 &&& (2147483647 : Int32)) % (13 : Int32))), .val (.ref s_NUM_RET), .val (.int (1 : Int32))] [(.int (1 : Int32))]))
      refine own_step (fun _ κ => XS.goto X5.here hx rfl (pc0 := 32) (pc' := 36) rfl (hb hby at_32) (by decide) (by decide) κ) ?_
      show own_Go _ _ _ _ (T5.setTop (mkF m 36 #[.val (.int x0), .val (.int ((x0 &&& (2147483647 : Int32)) % (13 : Int32))), .val (.ref s_NUM_RET), .val (.int (1 : Int32))] [(.int (1 : Int32))]))
      obtain ⟨fs, hr, hrun, hended, hW, hsame⟩ := X5.leave (v := some (.int (1 : Int32))) (fun h => by rw [Bd.returns] at h; cases h)
      refine ⟨_, _, retN X5 hx (t := .boolean) Bd.returns (by simp) (hb hby at_36) hr, hrun, hended, _, _, rfl, ?_, ⟨_, rfl⟩, hW, hsame.mono (by decide) (by decide)⟩
      show Q0 Z x0 s_NUM_Q s_NUM_REL_RET s_P_1 s_RECIP_RANK s_P_5 s_NDCG_CUT_5 s_NUM_REL s_NDCG_CUT_20 s_NUM_RET s_P_10 s_NDCG_CUT_10 s_RECALL_1000 s_MAP h0 n0 _ T5.heap _
      exact ⟨rfl, N5⟩
    · rw [if_neg hc4] at hv1
      by_cases hc6 : ((x0 &&& (2147483647 : Int32)) % (13 : Int32)) = (2 : Int32)
      · rw [if_pos hc6] at hv1
        subst hv1
        refine own_step st1 ?_
        show own_Go _ _ _ _ (T1.setTop (mkF m 12 #[.val (.int x0), .val (.int ((x0 &&& (2147483647 : Int32)) % (13 : Int32))), .unset, .unset] [(.ref s_NUM_REL)]))
        refine own_step (fun _ κ => XS.astoreN X1.here hx rfl (hb hby at_12) rfl rfl (l' := #[.val (.int x0), .val (.int ((x0 &&& (2147483647 : Int32)) % (13 : Int32))), .val (.ref s_NUM_REL), .unset]) rfl κ) ?_
        show own_Go _ _ _ _ (T1.setTop (mkF m 13 #[.val (.int x0), .val (.int ((x0 &&& (2147483647 : Int32)) % (13 : Int32))), .val (.ref s_NUM_REL), .unset] []))
        refine own_step (fun _ κ => XS.iloadN X1.here hx rfl (hb hby at_13) rfl κ) ?_
        show own_Go _ _ _ _ (T1.setTop (mkF m 14 #[.val (.int x0), .val (.int ((x0 &&& (2147483647 : Int32)) % (13 : Int32))), .val (.ref s_NUM_REL), .unset] [(.int ((x0 &&& (2147483647 : Int32)) % (13 : Int32)))]))
        refine own_step (fun _ κ => XS.ifNo X1.here hx rfl (hb hby at_14) rfl ((if0 _ _).trans (feq hc2).1) κ) ?_
        show own_Go _ _ _ _ (T1.setTop (mkF m 17 #[.val (.int x0), .val (.int ((x0 &&& (2147483647 : Int32)) % (13 : Int32))), .val (.ref s_NUM_REL), .unset] []))
        refine own_step (fun _ κ => XS.iconst X1.here hx rfl (hb hby at_17) κ) ?_
        show own_Go _ _ _ _ (T1.setTop (mkF m 18 #[.val (.int x0), .val (.int ((x0 &&& (2147483647 : Int32)) % (13 : Int32))), .val (.ref s_NUM_REL), .unset] [(.int (1 : Int32))]))
        refine own_step (fun _ κ => XS.goto X1.here hx rfl (pc0 := 18) (pc' := 22) rfl (hb hby at_18) (by decide) (by decide) κ) ?_
        show own_Go _ _ _ _ (T1.setTop (mkF m 22 #[.val (.int x0), .val (.int ((x0 &&& (2147483647 : Int32)) % (13 : Int32))), .val (.ref s_NUM_REL), .unset] [(.int (1 : Int32))]))
        refine own_step (fun _ κ => XS.istoreN X1.here hx rfl (hb hby at_22) rfl (l' := #[.val (.int x0), .val (.int ((x0 &&& (2147483647 : Int32)) % (13 : Int32))), .val (.ref s_NUM_REL), .val (.int (1 : Int32))]) rfl κ) ?_
        show own_Go _ _ _ _ (T1.setTop (mkF m 23 #[.val (.int x0), .val (.int ((x0 &&& (2147483647 : Int32)) % (13 : Int32))), .val (.ref s_NUM_REL), .val (.int (1 : Int32))] []))
        refine own_step (fun _ κ => XS.aloadN X1.here hx rfl (hb hby at_23) rfl rfl κ) ?_
        show own_Go _ _ _ _ (T1.setTop (mkF m 24 #[.val (.int x0), .val (.int ((x0 &&& (2147483647 : Int32)) % (13 : Int32))), .val (.ref s_NUM_REL), .val (.int (1 : Int32))] [(.ref s_NUM_REL)]))
        obtain ⟨cq7, kq7, q7a, q7b, q7c⟩ := isOf hZ eq1 (P14.ext P0.2)
        obtain ⟨vr7, _, ⟨T7, L7, k7, n7⟩, -, X7, ⟨Lc7, hQ7, l7, y7, z7⟩, st7⟩ := X1.virtualBack hx (y := (⟨"com/example/fouille/fouille/eval/Measure", "isPerQuery", "()Z"⟩ : MethodName)) (z := (⟨"com/example/fouille/fouille/eval/Measure", "isPerQuery", "()Z"⟩ : MethodName)) hown (mvT hZ (hw _ (List.mem_of_getElem? (i := 8) rfl))) (mvT hZ (hw _ (List.mem_of_getElem? (i := 9) rfl))) (notFace_of_selects (args := #[]) (mvT hZ (hw _ (List.mem_of_getElem? (i := 11) rfl)))) (mvT hZ (hw _ (List.mem_of_getElem? (i := 11) rfl))) (mvT hZ (hw _ (List.mem_of_getElem? (i := 10) rfl))) (by decide) (backOf (W := 0) (rm2 l Z a0 hw [] s_NUM_REL s_NUM_Q h0 n0 Z0 P0 P1) hZ (hw _ (List.mem_of_getElem? (i := 12) rfl)) (hw _ (List.mem_of_getElem? (i := 6) rfl)) (by decide) (by decide)) q7a q7c (g := (mkF m 24 #[.val (.int x0), .val (.int ((x0 &&& (2147483647 : Int32)) % (13 : Int32))), .val (.ref s_NUM_REL), .val (.int (1 : Int32))] [(.ref s_NUM_REL)])) rfl (by rw [hml]; rfl) (Steps.refl _) (argsL := []) (rest := []) (lenOf pd_1 rfl) rfl (by show 2 * 0 + _ ≤ _; exact Nat.le_of_eq rfl) (hb hby at_24) (fun _ _ => ⟨rfl, eq1, (by decide : 0 + 0 ≤ _), (by decide : 0 + 0 ≤ _)⟩)
        dsimp only [Pt.U, Pt.locs, Pt.cells, Pt.slots] at X7 l7 y7 z7 st7 hQ7
        subst l7 y7 z7
        obtain ⟨hv7, Nq7, eq7⟩ := hQ7
        have N7 := Fr.app N1 Nq7
        rw [if_neg P32] at hv7
        subst hv7
        refine own_step (fun _ κ => st7.trans κ) ?_
        show own_Go _ _ _ _ (T7.setTop (mkF m 27 #[.val (.int x0), .val (.int ((x0 &&& (2147483647 : Int32)) % (13 : Int32))), .val (.ref s_NUM_REL), .val (.int (1 : Int32))] [(.int (1 : Int32))]))
        refine own_step (fun _ κ => XS.iloadN X7.here hx rfl (hb hby at_27) rfl κ) ?_
        show own_Go _ _ _ _ (T7.setTop (mkF m 28 #[.val (.int x0), .val (.int ((x0 &&& (2147483647 : Int32)) % (13 : Int32))), .val (.ref s_NUM_REL), .val (.int (1 : Int32))] [(.int (1 : Int32)), (.int (1 : Int32))]))
        refine own_step (fun _ κ => XS.icmpNo X7.here hx rfl (hb hby at_28) rfl (teq rfl).2 κ) ?_
        show own_Go _ _ _ _ (T7.setTop (mkF m 31 #[.val (.int x0), .val (.int ((x0 &&& (2147483647 : Int32)) % (13 : Int32))), .val (.ref s_NUM_REL), .val (.int (1 : Int32))] []))
        refine own_step (fun _ κ => XS.iconst X7.here hx rfl (hb hby at_31) κ) ?_
        show own_Go _ _ _ _ (T7.setTop (mkF m 32 #[.val (.int x0), .val (.int ((x0 &&& (2147483647 : Int32)) % (13 : Int32))), .val (.ref s_NUM_REL), .val (.int (1 : Int32))] [(.int (1 : Int32))]))
        refine own_step (fun _ κ => XS.goto X7.here hx rfl (pc0 := 32) (pc' := 36) rfl (hb hby at_32) (by decide) (by decide) κ) ?_
        show own_Go _ _ _ _ (T7.setTop (mkF m 36 #[.val (.int x0), .val (.int ((x0 &&& (2147483647 : Int32)) % (13 : Int32))), .val (.ref s_NUM_REL), .val (.int (1 : Int32))] [(.int (1 : Int32))]))
        obtain ⟨fs, hr, hrun, hended, hW, hsame⟩ := X7.leave (v := some (.int (1 : Int32))) (fun h => by rw [Bd.returns] at h; cases h)
        refine ⟨_, _, retN X7 hx (t := .boolean) Bd.returns (by simp) (hb hby at_36) hr, hrun, hended, _, _, rfl, ?_, ⟨_, rfl⟩, hW, hsame.mono (by decide) (by decide)⟩
        show Q0 Z x0 s_NUM_Q s_NUM_REL_RET s_P_1 s_RECIP_RANK s_P_5 s_NDCG_CUT_5 s_NUM_REL s_NDCG_CUT_20 s_NUM_RET s_P_10 s_NDCG_CUT_10 s_RECALL_1000 s_MAP h0 n0 _ T7.heap _
        exact ⟨rfl, N7⟩
      · rw [if_neg hc6] at hv1
        by_cases hc8 : ((x0 &&& (2147483647 : Int32)) % (13 : Int32)) = (3 : Int32)
        · rw [if_pos hc8] at hv1
          subst hv1
          refine own_step st1 ?_
          show own_Go _ _ _ _ (T1.setTop (mkF m 12 #[.val (.int x0), .val (.int ((x0 &&& (2147483647 : Int32)) % (13 : Int32))), .unset, .unset] [(.ref s_NUM_REL_RET)]))
          refine own_step (fun _ κ => XS.astoreN X1.here hx rfl (hb hby at_12) rfl rfl (l' := #[.val (.int x0), .val (.int ((x0 &&& (2147483647 : Int32)) % (13 : Int32))), .val (.ref s_NUM_REL_RET), .unset]) rfl κ) ?_
          show own_Go _ _ _ _ (T1.setTop (mkF m 13 #[.val (.int x0), .val (.int ((x0 &&& (2147483647 : Int32)) % (13 : Int32))), .val (.ref s_NUM_REL_RET), .unset] []))
          refine own_step (fun _ κ => XS.iloadN X1.here hx rfl (hb hby at_13) rfl κ) ?_
          show own_Go _ _ _ _ (T1.setTop (mkF m 14 #[.val (.int x0), .val (.int ((x0 &&& (2147483647 : Int32)) % (13 : Int32))), .val (.ref s_NUM_REL_RET), .unset] [(.int ((x0 &&& (2147483647 : Int32)) % (13 : Int32)))]))
          refine own_step (fun _ κ => XS.ifNo X1.here hx rfl (hb hby at_14) rfl ((if0 _ _).trans (feq hc2).1) κ) ?_
          show own_Go _ _ _ _ (T1.setTop (mkF m 17 #[.val (.int x0), .val (.int ((x0 &&& (2147483647 : Int32)) % (13 : Int32))), .val (.ref s_NUM_REL_RET), .unset] []))
          refine own_step (fun _ κ => XS.iconst X1.here hx rfl (hb hby at_17) κ) ?_
          show own_Go _ _ _ _ (T1.setTop (mkF m 18 #[.val (.int x0), .val (.int ((x0 &&& (2147483647 : Int32)) % (13 : Int32))), .val (.ref s_NUM_REL_RET), .unset] [(.int (1 : Int32))]))
          refine own_step (fun _ κ => XS.goto X1.here hx rfl (pc0 := 18) (pc' := 22) rfl (hb hby at_18) (by decide) (by decide) κ) ?_
          show own_Go _ _ _ _ (T1.setTop (mkF m 22 #[.val (.int x0), .val (.int ((x0 &&& (2147483647 : Int32)) % (13 : Int32))), .val (.ref s_NUM_REL_RET), .unset] [(.int (1 : Int32))]))
          refine own_step (fun _ κ => XS.istoreN X1.here hx rfl (hb hby at_22) rfl (l' := #[.val (.int x0), .val (.int ((x0 &&& (2147483647 : Int32)) % (13 : Int32))), .val (.ref s_NUM_REL_RET), .val (.int (1 : Int32))]) rfl κ) ?_
          show own_Go _ _ _ _ (T1.setTop (mkF m 23 #[.val (.int x0), .val (.int ((x0 &&& (2147483647 : Int32)) % (13 : Int32))), .val (.ref s_NUM_REL_RET), .val (.int (1 : Int32))] []))
          refine own_step (fun _ κ => XS.aloadN X1.here hx rfl (hb hby at_23) rfl rfl κ) ?_
          show own_Go _ _ _ _ (T1.setTop (mkF m 24 #[.val (.int x0), .val (.int ((x0 &&& (2147483647 : Int32)) % (13 : Int32))), .val (.ref s_NUM_REL_RET), .val (.int (1 : Int32))] [(.ref s_NUM_REL_RET)]))
          obtain ⟨cq9, kq9, q9a, q9b, q9c⟩ := isOf hZ eq1 (P4.ext P0.2)
          obtain ⟨vr9, _, ⟨T9, L9, k9, n9⟩, -, X9, ⟨Lc9, hQ9, l9, y9, z9⟩, st9⟩ := X1.virtualBack hx (y := (⟨"com/example/fouille/fouille/eval/Measure", "isPerQuery", "()Z"⟩ : MethodName)) (z := (⟨"com/example/fouille/fouille/eval/Measure", "isPerQuery", "()Z"⟩ : MethodName)) hown (mvT hZ (hw _ (List.mem_of_getElem? (i := 8) rfl))) (mvT hZ (hw _ (List.mem_of_getElem? (i := 9) rfl))) (notFace_of_selects (args := #[]) (mvT hZ (hw _ (List.mem_of_getElem? (i := 11) rfl)))) (mvT hZ (hw _ (List.mem_of_getElem? (i := 11) rfl))) (mvT hZ (hw _ (List.mem_of_getElem? (i := 10) rfl))) (by decide) (backOf (W := 0) (rm2 l Z a0 hw [] s_NUM_REL_RET s_NUM_Q h0 n0 Z0 P0 P1) hZ (hw _ (List.mem_of_getElem? (i := 12) rfl)) (hw _ (List.mem_of_getElem? (i := 6) rfl)) (by decide) (by decide)) q9a q9c (g := (mkF m 24 #[.val (.int x0), .val (.int ((x0 &&& (2147483647 : Int32)) % (13 : Int32))), .val (.ref s_NUM_REL_RET), .val (.int (1 : Int32))] [(.ref s_NUM_REL_RET)])) rfl (by rw [hml]; rfl) (Steps.refl _) (argsL := []) (rest := []) (lenOf pd_1 rfl) rfl (by show 2 * 0 + _ ≤ _; exact Nat.le_of_eq rfl) (hb hby at_24) (fun _ _ => ⟨rfl, eq1, (by decide : 0 + 0 ≤ _), (by decide : 0 + 0 ≤ _)⟩)
          dsimp only [Pt.U, Pt.locs, Pt.cells, Pt.slots] at X9 l9 y9 z9 st9 hQ9
          subst l9 y9 z9
          obtain ⟨hv9, Nq9, eq9⟩ := hQ9
          have N9 := Fr.app N1 Nq9
          rw [if_neg P27] at hv9
          subst hv9
          refine own_step (fun _ κ => st9.trans κ) ?_
          show own_Go _ _ _ _ (T9.setTop (mkF m 27 #[.val (.int x0), .val (.int ((x0 &&& (2147483647 : Int32)) % (13 : Int32))), .val (.ref s_NUM_REL_RET), .val (.int (1 : Int32))] [(.int (1 : Int32))]))
          refine own_step (fun _ κ => XS.iloadN X9.here hx rfl (hb hby at_27) rfl κ) ?_
          show own_Go _ _ _ _ (T9.setTop (mkF m 28 #[.val (.int x0), .val (.int ((x0 &&& (2147483647 : Int32)) % (13 : Int32))), .val (.ref s_NUM_REL_RET), .val (.int (1 : Int32))] [(.int (1 : Int32)), (.int (1 : Int32))]))
          refine own_step (fun _ κ => XS.icmpNo X9.here hx rfl (hb hby at_28) rfl (teq rfl).2 κ) ?_
          show own_Go _ _ _ _ (T9.setTop (mkF m 31 #[.val (.int x0), .val (.int ((x0 &&& (2147483647 : Int32)) % (13 : Int32))), .val (.ref s_NUM_REL_RET), .val (.int (1 : Int32))] []))
          refine own_step (fun _ κ => XS.iconst X9.here hx rfl (hb hby at_31) κ) ?_
          show own_Go _ _ _ _ (T9.setTop (mkF m 32 #[.val (.int x0), .val (.int ((x0 &&& (2147483647 : Int32)) % (13 : Int32))), .val (.ref s_NUM_REL_RET), .val (.int (1 : Int32))] [(.int (1 : Int32))]))
          refine own_step (fun _ κ => XS.goto X9.here hx rfl (pc0 := 32) (pc' := 36) rfl (hb hby at_32) (by decide) (by decide) κ) ?_
          show own_Go _ _ _ _ (T9.setTop (mkF m 36 #[.val (.int x0), .val (.int ((x0 &&& (2147483647 : Int32)) % (13 : Int32))), .val (.ref s_NUM_REL_RET), .val (.int (1 : Int32))] [(.int (1 : Int32))]))
          obtain ⟨fs, hr, hrun, hended, hW, hsame⟩ := X9.leave (v := some (.int (1 : Int32))) (fun h => by rw [Bd.returns] at h; cases h)
          refine ⟨_, _, retN X9 hx (t := .boolean) Bd.returns (by simp) (hb hby at_36) hr, hrun, hended, _, _, rfl, ?_, ⟨_, rfl⟩, hW, hsame.mono (by decide) (by decide)⟩
          show Q0 Z x0 s_NUM_Q s_NUM_REL_RET s_P_1 s_RECIP_RANK s_P_5 s_NDCG_CUT_5 s_NUM_REL s_NDCG_CUT_20 s_NUM_RET s_P_10 s_NDCG_CUT_10 s_RECALL_1000 s_MAP h0 n0 _ T9.heap _
          exact ⟨rfl, N9⟩
        · rw [if_neg hc8] at hv1
          by_cases hc10 : ((x0 &&& (2147483647 : Int32)) % (13 : Int32)) = (4 : Int32)
          · rw [if_pos hc10] at hv1
            subst hv1
            refine own_step st1 ?_
            show own_Go _ _ _ _ (T1.setTop (mkF m 12 #[.val (.int x0), .val (.int ((x0 &&& (2147483647 : Int32)) % (13 : Int32))), .unset, .unset] [(.ref s_MAP)]))
            refine own_step (fun _ κ => XS.astoreN X1.here hx rfl (hb hby at_12) rfl rfl (l' := #[.val (.int x0), .val (.int ((x0 &&& (2147483647 : Int32)) % (13 : Int32))), .val (.ref s_MAP), .unset]) rfl κ) ?_
            show own_Go _ _ _ _ (T1.setTop (mkF m 13 #[.val (.int x0), .val (.int ((x0 &&& (2147483647 : Int32)) % (13 : Int32))), .val (.ref s_MAP), .unset] []))
            refine own_step (fun _ κ => XS.iloadN X1.here hx rfl (hb hby at_13) rfl κ) ?_
            show own_Go _ _ _ _ (T1.setTop (mkF m 14 #[.val (.int x0), .val (.int ((x0 &&& (2147483647 : Int32)) % (13 : Int32))), .val (.ref s_MAP), .unset] [(.int ((x0 &&& (2147483647 : Int32)) % (13 : Int32)))]))
            refine own_step (fun _ κ => XS.ifNo X1.here hx rfl (hb hby at_14) rfl ((if0 _ _).trans (feq hc2).1) κ) ?_
            show own_Go _ _ _ _ (T1.setTop (mkF m 17 #[.val (.int x0), .val (.int ((x0 &&& (2147483647 : Int32)) % (13 : Int32))), .val (.ref s_MAP), .unset] []))
            refine own_step (fun _ κ => XS.iconst X1.here hx rfl (hb hby at_17) κ) ?_
            show own_Go _ _ _ _ (T1.setTop (mkF m 18 #[.val (.int x0), .val (.int ((x0 &&& (2147483647 : Int32)) % (13 : Int32))), .val (.ref s_MAP), .unset] [(.int (1 : Int32))]))
            refine own_step (fun _ κ => XS.goto X1.here hx rfl (pc0 := 18) (pc' := 22) rfl (hb hby at_18) (by decide) (by decide) κ) ?_
            show own_Go _ _ _ _ (T1.setTop (mkF m 22 #[.val (.int x0), .val (.int ((x0 &&& (2147483647 : Int32)) % (13 : Int32))), .val (.ref s_MAP), .unset] [(.int (1 : Int32))]))
            refine own_step (fun _ κ => XS.istoreN X1.here hx rfl (hb hby at_22) rfl (l' := #[.val (.int x0), .val (.int ((x0 &&& (2147483647 : Int32)) % (13 : Int32))), .val (.ref s_MAP), .val (.int (1 : Int32))]) rfl κ) ?_
            show own_Go _ _ _ _ (T1.setTop (mkF m 23 #[.val (.int x0), .val (.int ((x0 &&& (2147483647 : Int32)) % (13 : Int32))), .val (.ref s_MAP), .val (.int (1 : Int32))] []))
            refine own_step (fun _ κ => XS.aloadN X1.here hx rfl (hb hby at_23) rfl rfl κ) ?_
            show own_Go _ _ _ _ (T1.setTop (mkF m 24 #[.val (.int x0), .val (.int ((x0 &&& (2147483647 : Int32)) % (13 : Int32))), .val (.ref s_MAP), .val (.int (1 : Int32))] [(.ref s_MAP)]))
            obtain ⟨cq11, kq11, q11a, q11b, q11c⟩ := isOf hZ eq1 (P26.ext P0.2)
            obtain ⟨vr11, _, ⟨T11, L11, k11, n11⟩, -, X11, ⟨Lc11, hQ11, l11, y11, z11⟩, st11⟩ := X1.virtualBack hx (y := (⟨"com/example/fouille/fouille/eval/Measure", "isPerQuery", "()Z"⟩ : MethodName)) (z := (⟨"com/example/fouille/fouille/eval/Measure", "isPerQuery", "()Z"⟩ : MethodName)) hown (mvT hZ (hw _ (List.mem_of_getElem? (i := 8) rfl))) (mvT hZ (hw _ (List.mem_of_getElem? (i := 9) rfl))) (notFace_of_selects (args := #[]) (mvT hZ (hw _ (List.mem_of_getElem? (i := 11) rfl)))) (mvT hZ (hw _ (List.mem_of_getElem? (i := 11) rfl))) (mvT hZ (hw _ (List.mem_of_getElem? (i := 10) rfl))) (by decide) (backOf (W := 0) (rm2 l Z a0 hw [] s_MAP s_NUM_Q h0 n0 Z0 P0 P1) hZ (hw _ (List.mem_of_getElem? (i := 12) rfl)) (hw _ (List.mem_of_getElem? (i := 6) rfl)) (by decide) (by decide)) q11a q11c (g := (mkF m 24 #[.val (.int x0), .val (.int ((x0 &&& (2147483647 : Int32)) % (13 : Int32))), .val (.ref s_MAP), .val (.int (1 : Int32))] [(.ref s_MAP)])) rfl (by rw [hml]; rfl) (Steps.refl _) (argsL := []) (rest := []) (lenOf pd_1 rfl) rfl (by show 2 * 0 + _ ≤ _; exact Nat.le_of_eq rfl) (hb hby at_24) (fun _ _ => ⟨rfl, eq1, (by decide : 0 + 0 ≤ _), (by decide : 0 + 0 ≤ _)⟩)
            dsimp only [Pt.U, Pt.locs, Pt.cells, Pt.slots] at X11 l11 y11 z11 st11 hQ11
            subst l11 y11 z11
            obtain ⟨hv11, Nq11, eq11⟩ := hQ11
            have N11 := Fr.app N1 Nq11
            rw [if_neg P38] at hv11
            subst hv11
            refine own_step (fun _ κ => st11.trans κ) ?_
            show own_Go _ _ _ _ (T11.setTop (mkF m 27 #[.val (.int x0), .val (.int ((x0 &&& (2147483647 : Int32)) % (13 : Int32))), .val (.ref s_MAP), .val (.int (1 : Int32))] [(.int (1 : Int32))]))
            refine own_step (fun _ κ => XS.iloadN X11.here hx rfl (hb hby at_27) rfl κ) ?_
            show own_Go _ _ _ _ (T11.setTop (mkF m 28 #[.val (.int x0), .val (.int ((x0 &&& (2147483647 : Int32)) % (13 : Int32))), .val (.ref s_MAP), .val (.int (1 : Int32))] [(.int (1 : Int32)), (.int (1 : Int32))]))
            refine own_step (fun _ κ => XS.icmpNo X11.here hx rfl (hb hby at_28) rfl (teq rfl).2 κ) ?_
            show own_Go _ _ _ _ (T11.setTop (mkF m 31 #[.val (.int x0), .val (.int ((x0 &&& (2147483647 : Int32)) % (13 : Int32))), .val (.ref s_MAP), .val (.int (1 : Int32))] []))
            refine own_step (fun _ κ => XS.iconst X11.here hx rfl (hb hby at_31) κ) ?_
            show own_Go _ _ _ _ (T11.setTop (mkF m 32 #[.val (.int x0), .val (.int ((x0 &&& (2147483647 : Int32)) % (13 : Int32))), .val (.ref s_MAP), .val (.int (1 : Int32))] [(.int (1 : Int32))]))
            refine own_step (fun _ κ => XS.goto X11.here hx rfl (pc0 := 32) (pc' := 36) rfl (hb hby at_32) (by decide) (by decide) κ) ?_
            show own_Go _ _ _ _ (T11.setTop (mkF m 36 #[.val (.int x0), .val (.int ((x0 &&& (2147483647 : Int32)) % (13 : Int32))), .val (.ref s_MAP), .val (.int (1 : Int32))] [(.int (1 : Int32))]))
            obtain ⟨fs, hr, hrun, hended, hW, hsame⟩ := X11.leave (v := some (.int (1 : Int32))) (fun h => by rw [Bd.returns] at h; cases h)
            refine ⟨_, _, retN X11 hx (t := .boolean) Bd.returns (by simp) (hb hby at_36) hr, hrun, hended, _, _, rfl, ?_, ⟨_, rfl⟩, hW, hsame.mono (by decide) (by decide)⟩
            show Q0 Z x0 s_NUM_Q s_NUM_REL_RET s_P_1 s_RECIP_RANK s_P_5 s_NDCG_CUT_5 s_NUM_REL s_NDCG_CUT_20 s_NUM_RET s_P_10 s_NDCG_CUT_10 s_RECALL_1000 s_MAP h0 n0 _ T11.heap _
            exact ⟨rfl, N11⟩
          · rw [if_neg hc10] at hv1
            by_cases hc12 : ((x0 &&& (2147483647 : Int32)) % (13 : Int32)) = (5 : Int32)
            · rw [if_pos hc12] at hv1
              subst hv1
              refine own_step st1 ?_
              show own_Go _ _ _ _ (T1.setTop (mkF m 12 #[.val (.int x0), .val (.int ((x0 &&& (2147483647 : Int32)) % (13 : Int32))), .unset, .unset] [(.ref s_RECIP_RANK)]))
              refine own_step (fun _ κ => XS.astoreN X1.here hx rfl (hb hby at_12) rfl rfl (l' := #[.val (.int x0), .val (.int ((x0 &&& (2147483647 : Int32)) % (13 : Int32))), .val (.ref s_RECIP_RANK), .unset]) rfl κ) ?_
              show own_Go _ _ _ _ (T1.setTop (mkF m 13 #[.val (.int x0), .val (.int ((x0 &&& (2147483647 : Int32)) % (13 : Int32))), .val (.ref s_RECIP_RANK), .unset] []))
              refine own_step (fun _ κ => XS.iloadN X1.here hx rfl (hb hby at_13) rfl κ) ?_
              show own_Go _ _ _ _ (T1.setTop (mkF m 14 #[.val (.int x0), .val (.int ((x0 &&& (2147483647 : Int32)) % (13 : Int32))), .val (.ref s_RECIP_RANK), .unset] [(.int ((x0 &&& (2147483647 : Int32)) % (13 : Int32)))]))
              refine own_step (fun _ κ => XS.ifNo X1.here hx rfl (hb hby at_14) rfl ((if0 _ _).trans (feq hc2).1) κ) ?_
              show own_Go _ _ _ _ (T1.setTop (mkF m 17 #[.val (.int x0), .val (.int ((x0 &&& (2147483647 : Int32)) % (13 : Int32))), .val (.ref s_RECIP_RANK), .unset] []))
              refine own_step (fun _ κ => XS.iconst X1.here hx rfl (hb hby at_17) κ) ?_
              show own_Go _ _ _ _ (T1.setTop (mkF m 18 #[.val (.int x0), .val (.int ((x0 &&& (2147483647 : Int32)) % (13 : Int32))), .val (.ref s_RECIP_RANK), .unset] [(.int (1 : Int32))]))
              refine own_step (fun _ κ => XS.goto X1.here hx rfl (pc0 := 18) (pc' := 22) rfl (hb hby at_18) (by decide) (by decide) κ) ?_
              show own_Go _ _ _ _ (T1.setTop (mkF m 22 #[.val (.int x0), .val (.int ((x0 &&& (2147483647 : Int32)) % (13 : Int32))), .val (.ref s_RECIP_RANK), .unset] [(.int (1 : Int32))]))
              refine own_step (fun _ κ => XS.istoreN X1.here hx rfl (hb hby at_22) rfl (l' := #[.val (.int x0), .val (.int ((x0 &&& (2147483647 : Int32)) % (13 : Int32))), .val (.ref s_RECIP_RANK), .val (.int (1 : Int32))]) rfl κ) ?_
              show own_Go _ _ _ _ (T1.setTop (mkF m 23 #[.val (.int x0), .val (.int ((x0 &&& (2147483647 : Int32)) % (13 : Int32))), .val (.ref s_RECIP_RANK), .val (.int (1 : Int32))] []))
              refine own_step (fun _ κ => XS.aloadN X1.here hx rfl (hb hby at_23) rfl rfl κ) ?_
              show own_Go _ _ _ _ (T1.setTop (mkF m 24 #[.val (.int x0), .val (.int ((x0 &&& (2147483647 : Int32)) % (13 : Int32))), .val (.ref s_RECIP_RANK), .val (.int (1 : Int32))] [(.ref s_RECIP_RANK)]))
              obtain ⟨cq13, kq13, q13a, q13b, q13c⟩ := isOf hZ eq1 (P8.ext P0.2)
              obtain ⟨vr13, _, ⟨T13, L13, k13, n13⟩, -, X13, ⟨Lc13, hQ13, l13, y13, z13⟩, st13⟩ := X1.virtualBack hx (y := (⟨"com/example/fouille/fouille/eval/Measure", "isPerQuery", "()Z"⟩ : MethodName)) (z := (⟨"com/example/fouille/fouille/eval/Measure", "isPerQuery", "()Z"⟩ : MethodName)) hown (mvT hZ (hw _ (List.mem_of_getElem? (i := 8) rfl))) (mvT hZ (hw _ (List.mem_of_getElem? (i := 9) rfl))) (notFace_of_selects (args := #[]) (mvT hZ (hw _ (List.mem_of_getElem? (i := 11) rfl)))) (mvT hZ (hw _ (List.mem_of_getElem? (i := 11) rfl))) (mvT hZ (hw _ (List.mem_of_getElem? (i := 10) rfl))) (by decide) (backOf (W := 0) (rm2 l Z a0 hw [] s_RECIP_RANK s_NUM_Q h0 n0 Z0 P0 P1) hZ (hw _ (List.mem_of_getElem? (i := 12) rfl)) (hw _ (List.mem_of_getElem? (i := 6) rfl)) (by decide) (by decide)) q13a q13c (g := (mkF m 24 #[.val (.int x0), .val (.int ((x0 &&& (2147483647 : Int32)) % (13 : Int32))), .val (.ref s_RECIP_RANK), .val (.int (1 : Int32))] [(.ref s_RECIP_RANK)])) rfl (by rw [hml]; rfl) (Steps.refl _) (argsL := []) (rest := []) (lenOf pd_1 rfl) rfl (by show 2 * 0 + _ ≤ _; exact Nat.le_of_eq rfl) (hb hby at_24) (fun _ _ => ⟨rfl, eq1, (by decide : 0 + 0 ≤ _), (by decide : 0 + 0 ≤ _)⟩)
              dsimp only [Pt.U, Pt.locs, Pt.cells, Pt.slots] at X13 l13 y13 z13 st13 hQ13
              subst l13 y13 z13
              obtain ⟨hv13, Nq13, eq13⟩ := hQ13
              have N13 := Fr.app N1 Nq13
              rw [if_neg P29] at hv13
              subst hv13
              refine own_step (fun _ κ => st13.trans κ) ?_
              show own_Go _ _ _ _ (T13.setTop (mkF m 27 #[.val (.int x0), .val (.int ((x0 &&& (2147483647 : Int32)) % (13 : Int32))), .val (.ref s_RECIP_RANK), .val (.int (1 : Int32))] [(.int (1 : Int32))]))
              refine own_step (fun _ κ => XS.iloadN X13.here hx rfl (hb hby at_27) rfl κ) ?_
              show own_Go _ _ _ _ (T13.setTop (mkF m 28 #[.val (.int x0), .val (.int ((x0 &&& (2147483647 : Int32)) % (13 : Int32))), .val (.ref s_RECIP_RANK), .val (.int (1 : Int32))] [(.int (1 : Int32)), (.int (1 : Int32))]))
              refine own_step (fun _ κ => XS.icmpNo X13.here hx rfl (hb hby at_28) rfl (teq rfl).2 κ) ?_
              show own_Go _ _ _ _ (T13.setTop (mkF m 31 #[.val (.int x0), .val (.int ((x0 &&& (2147483647 : Int32)) % (13 : Int32))), .val (.ref s_RECIP_RANK), .val (.int (1 : Int32))] []))
              refine own_step (fun _ κ => XS.iconst X13.here hx rfl (hb hby at_31) κ) ?_
              show own_Go _ _ _ _ (T13.setTop (mkF m 32 #[.val (.int x0), .val (.int ((x0 &&& (2147483647 : Int32)) % (13 : Int32))), .val (.ref s_RECIP_RANK), .val (.int (1 : Int32))] [(.int (1 : Int32))]))
              refine own_step (fun _ κ => XS.goto X13.here hx rfl (pc0 := 32) (pc' := 36) rfl (hb hby at_32) (by decide) (by decide) κ) ?_
              show own_Go _ _ _ _ (T13.setTop (mkF m 36 #[.val (.int x0), .val (.int ((x0 &&& (2147483647 : Int32)) % (13 : Int32))), .val (.ref s_RECIP_RANK), .val (.int (1 : Int32))] [(.int (1 : Int32))]))
              obtain ⟨fs, hr, hrun, hended, hW, hsame⟩ := X13.leave (v := some (.int (1 : Int32))) (fun h => by rw [Bd.returns] at h; cases h)
              refine ⟨_, _, retN X13 hx (t := .boolean) Bd.returns (by simp) (hb hby at_36) hr, hrun, hended, _, _, rfl, ?_, ⟨_, rfl⟩, hW, hsame.mono (by decide) (by decide)⟩
              show Q0 Z x0 s_NUM_Q s_NUM_REL_RET s_P_1 s_RECIP_RANK s_P_5 s_NDCG_CUT_5 s_NUM_REL s_NDCG_CUT_20 s_NUM_RET s_P_10 s_NDCG_CUT_10 s_RECALL_1000 s_MAP h0 n0 _ T13.heap _
              exact ⟨rfl, N13⟩
            · rw [if_neg hc12] at hv1
              by_cases hc14 : ((x0 &&& (2147483647 : Int32)) % (13 : Int32)) = (6 : Int32)
              · rw [if_pos hc14] at hv1
                subst hv1
                refine own_step st1 ?_
                show own_Go _ _ _ _ (T1.setTop (mkF m 12 #[.val (.int x0), .val (.int ((x0 &&& (2147483647 : Int32)) % (13 : Int32))), .unset, .unset] [(.ref s_P_1)]))
                refine own_step (fun _ κ => XS.astoreN X1.here hx rfl (hb hby at_12) rfl rfl (l' := #[.val (.int x0), .val (.int ((x0 &&& (2147483647 : Int32)) % (13 : Int32))), .val (.ref s_P_1), .unset]) rfl κ) ?_
                show own_Go _ _ _ _ (T1.setTop (mkF m 13 #[.val (.int x0), .val (.int ((x0 &&& (2147483647 : Int32)) % (13 : Int32))), .val (.ref s_P_1), .unset] []))
                refine own_step (fun _ κ => XS.iloadN X1.here hx rfl (hb hby at_13) rfl κ) ?_
                show own_Go _ _ _ _ (T1.setTop (mkF m 14 #[.val (.int x0), .val (.int ((x0 &&& (2147483647 : Int32)) % (13 : Int32))), .val (.ref s_P_1), .unset] [(.int ((x0 &&& (2147483647 : Int32)) % (13 : Int32)))]))
                refine own_step (fun _ κ => XS.ifNo X1.here hx rfl (hb hby at_14) rfl ((if0 _ _).trans (feq hc2).1) κ) ?_
                show own_Go _ _ _ _ (T1.setTop (mkF m 17 #[.val (.int x0), .val (.int ((x0 &&& (2147483647 : Int32)) % (13 : Int32))), .val (.ref s_P_1), .unset] []))
                refine own_step (fun _ κ => XS.iconst X1.here hx rfl (hb hby at_17) κ) ?_
                show own_Go _ _ _ _ (T1.setTop (mkF m 18 #[.val (.int x0), .val (.int ((x0 &&& (2147483647 : Int32)) % (13 : Int32))), .val (.ref s_P_1), .unset] [(.int (1 : Int32))]))
                refine own_step (fun _ κ => XS.goto X1.here hx rfl (pc0 := 18) (pc' := 22) rfl (hb hby at_18) (by decide) (by decide) κ) ?_
                show own_Go _ _ _ _ (T1.setTop (mkF m 22 #[.val (.int x0), .val (.int ((x0 &&& (2147483647 : Int32)) % (13 : Int32))), .val (.ref s_P_1), .unset] [(.int (1 : Int32))]))
                refine own_step (fun _ κ => XS.istoreN X1.here hx rfl (hb hby at_22) rfl (l' := #[.val (.int x0), .val (.int ((x0 &&& (2147483647 : Int32)) % (13 : Int32))), .val (.ref s_P_1), .val (.int (1 : Int32))]) rfl κ) ?_
                show own_Go _ _ _ _ (T1.setTop (mkF m 23 #[.val (.int x0), .val (.int ((x0 &&& (2147483647 : Int32)) % (13 : Int32))), .val (.ref s_P_1), .val (.int (1 : Int32))] []))
                refine own_step (fun _ κ => XS.aloadN X1.here hx rfl (hb hby at_23) rfl rfl κ) ?_
                show own_Go _ _ _ _ (T1.setTop (mkF m 24 #[.val (.int x0), .val (.int ((x0 &&& (2147483647 : Int32)) % (13 : Int32))), .val (.ref s_P_1), .val (.int (1 : Int32))] [(.ref s_P_1)]))
                obtain ⟨cq15, kq15, q15a, q15b, q15c⟩ := isOf hZ eq1 (P6.ext P0.2)
                obtain ⟨vr15, _, ⟨T15, L15, k15, n15⟩, -, X15, ⟨Lc15, hQ15, l15, y15, z15⟩, st15⟩ := X1.virtualBack hx (y := (⟨"com/example/fouille/fouille/eval/Measure", "isPerQuery", "()Z"⟩ : MethodName)) (z := (⟨"com/example/fouille/fouille/eval/Measure", "isPerQuery", "()Z"⟩ : MethodName)) hown (mvT hZ (hw _ (List.mem_of_getElem? (i := 8) rfl))) (mvT hZ (hw _ (List.mem_of_getElem? (i := 9) rfl))) (notFace_of_selects (args := #[]) (mvT hZ (hw _ (List.mem_of_getElem? (i := 11) rfl)))) (mvT hZ (hw _ (List.mem_of_getElem? (i := 11) rfl))) (mvT hZ (hw _ (List.mem_of_getElem? (i := 10) rfl))) (by decide) (backOf (W := 0) (rm2 l Z a0 hw [] s_P_1 s_NUM_Q h0 n0 Z0 P0 P1) hZ (hw _ (List.mem_of_getElem? (i := 12) rfl)) (hw _ (List.mem_of_getElem? (i := 6) rfl)) (by decide) (by decide)) q15a q15c (g := (mkF m 24 #[.val (.int x0), .val (.int ((x0 &&& (2147483647 : Int32)) % (13 : Int32))), .val (.ref s_P_1), .val (.int (1 : Int32))] [(.ref s_P_1)])) rfl (by rw [hml]; rfl) (Steps.refl _) (argsL := []) (rest := []) (lenOf pd_1 rfl) rfl (by show 2 * 0 + _ ≤ _; exact Nat.le_of_eq rfl) (hb hby at_24) (fun _ _ => ⟨rfl, eq1, (by decide : 0 + 0 ≤ _), (by decide : 0 + 0 ≤ _)⟩)
                dsimp only [Pt.U, Pt.locs, Pt.cells, Pt.slots] at X15 l15 y15 z15 st15 hQ15
                subst l15 y15 z15
                obtain ⟨hv15, Nq15, eq15⟩ := hQ15
                have N15 := Fr.app N1 Nq15
                rw [if_neg P28] at hv15
                subst hv15
                refine own_step (fun _ κ => st15.trans κ) ?_
                show own_Go _ _ _ _ (T15.setTop (mkF m 27 #[.val (.int x0), .val (.int ((x0 &&& (2147483647 : Int32)) % (13 : Int32))), .val (.ref s_P_1), .val (.int (1 : Int32))] [(.int (1 : Int32))]))
                refine own_step (fun _ κ => XS.iloadN X15.here hx rfl (hb hby at_27) rfl κ) ?_
                show own_Go _ _ _ _ (T15.setTop (mkF m 28 #[.val (.int x0), .val (.int ((x0 &&& (2147483647 : Int32)) % (13 : Int32))), .val (.ref s_P_1), .val (.int (1 : Int32))] [(.int (1 : Int32)), (.int (1 : Int32))]))
                refine own_step (fun _ κ => XS.icmpNo X15.here hx rfl (hb hby at_28) rfl (teq rfl).2 κ) ?_
                show own_Go _ _ _ _ (T15.setTop (mkF m 31 #[.val (.int x0), .val (.int ((x0 &&& (2147483647 : Int32)) % (13 : Int32))), .val (.ref s_P_1), .val (.int (1 : Int32))] []))
                refine own_step (fun _ κ => XS.iconst X15.here hx rfl (hb hby at_31) κ) ?_
                show own_Go _ _ _ _ (T15.setTop (mkF m 32 #[.val (.int x0), .val (.int ((x0 &&& (2147483647 : Int32)) % (13 : Int32))), .val (.ref s_P_1), .val (.int (1 : Int32))] [(.int (1 : Int32))]))
                refine own_step (fun _ κ => XS.goto X15.here hx rfl (pc0 := 32) (pc' := 36) rfl (hb hby at_32) (by decide) (by decide) κ) ?_
                show own_Go _ _ _ _ (T15.setTop (mkF m 36 #[.val (.int x0), .val (.int ((x0 &&& (2147483647 : Int32)) % (13 : Int32))), .val (.ref s_P_1), .val (.int (1 : Int32))] [(.int (1 : Int32))]))
                obtain ⟨fs, hr, hrun, hended, hW, hsame⟩ := X15.leave (v := some (.int (1 : Int32))) (fun h => by rw [Bd.returns] at h; cases h)
                refine ⟨_, _, retN X15 hx (t := .boolean) Bd.returns (by simp) (hb hby at_36) hr, hrun, hended, _, _, rfl, ?_, ⟨_, rfl⟩, hW, hsame.mono (by decide) (by decide)⟩
                show Q0 Z x0 s_NUM_Q s_NUM_REL_RET s_P_1 s_RECIP_RANK s_P_5 s_NDCG_CUT_5 s_NUM_REL s_NDCG_CUT_20 s_NUM_RET s_P_10 s_NDCG_CUT_10 s_RECALL_1000 s_MAP h0 n0 _ T15.heap _
                exact ⟨rfl, N15⟩
              · rw [if_neg hc14] at hv1
                by_cases hc16 : ((x0 &&& (2147483647 : Int32)) % (13 : Int32)) = (7 : Int32)
                · rw [if_pos hc16] at hv1
                  subst hv1
                  refine own_step st1 ?_
                  show own_Go _ _ _ _ (T1.setTop (mkF m 12 #[.val (.int x0), .val (.int ((x0 &&& (2147483647 : Int32)) % (13 : Int32))), .unset, .unset] [(.ref s_P_5)]))
                  refine own_step (fun _ κ => XS.astoreN X1.here hx rfl (hb hby at_12) rfl rfl (l' := #[.val (.int x0), .val (.int ((x0 &&& (2147483647 : Int32)) % (13 : Int32))), .val (.ref s_P_5), .unset]) rfl κ) ?_
                  show own_Go _ _ _ _ (T1.setTop (mkF m 13 #[.val (.int x0), .val (.int ((x0 &&& (2147483647 : Int32)) % (13 : Int32))), .val (.ref s_P_5), .unset] []))
                  refine own_step (fun _ κ => XS.iloadN X1.here hx rfl (hb hby at_13) rfl κ) ?_
                  show own_Go _ _ _ _ (T1.setTop (mkF m 14 #[.val (.int x0), .val (.int ((x0 &&& (2147483647 : Int32)) % (13 : Int32))), .val (.ref s_P_5), .unset] [(.int ((x0 &&& (2147483647 : Int32)) % (13 : Int32)))]))
                  refine own_step (fun _ κ => XS.ifNo X1.here hx rfl (hb hby at_14) rfl ((if0 _ _).trans (feq hc2).1) κ) ?_
                  show own_Go _ _ _ _ (T1.setTop (mkF m 17 #[.val (.int x0), .val (.int ((x0 &&& (2147483647 : Int32)) % (13 : Int32))), .val (.ref s_P_5), .unset] []))
                  refine own_step (fun _ κ => XS.iconst X1.here hx rfl (hb hby at_17) κ) ?_
                  show own_Go _ _ _ _ (T1.setTop (mkF m 18 #[.val (.int x0), .val (.int ((x0 &&& (2147483647 : Int32)) % (13 : Int32))), .val (.ref s_P_5), .unset] [(.int (1 : Int32))]))
                  refine own_step (fun _ κ => XS.goto X1.here hx rfl (pc0 := 18) (pc' := 22) rfl (hb hby at_18) (by decide) (by decide) κ) ?_
                  show own_Go _ _ _ _ (T1.setTop (mkF m 22 #[.val (.int x0), .val (.int ((x0 &&& (2147483647 : Int32)) % (13 : Int32))), .val (.ref s_P_5), .unset] [(.int (1 : Int32))]))
                  refine own_step (fun _ κ => XS.istoreN X1.here hx rfl (hb hby at_22) rfl (l' := #[.val (.int x0), .val (.int ((x0 &&& (2147483647 : Int32)) % (13 : Int32))), .val (.ref s_P_5), .val (.int (1 : Int32))]) rfl κ) ?_
                  show own_Go _ _ _ _ (T1.setTop (mkF m 23 #[.val (.int x0), .val (.int ((x0 &&& (2147483647 : Int32)) % (13 : Int32))), .val (.ref s_P_5), .val (.int (1 : Int32))] []))
                  refine own_step (fun _ κ => XS.aloadN X1.here hx rfl (hb hby at_23) rfl rfl κ) ?_
                  show own_Go _ _ _ _ (T1.setTop (mkF m 24 #[.val (.int x0), .val (.int ((x0 &&& (2147483647 : Int32)) % (13 : Int32))), .val (.ref s_P_5), .val (.int (1 : Int32))] [(.ref s_P_5)]))
                  obtain ⟨cq17, kq17, q17a, q17b, q17c⟩ := isOf hZ eq1 (P10.ext P0.2)
                  obtain ⟨vr17, _, ⟨T17, L17, k17, n17⟩, -, X17, ⟨Lc17, hQ17, l17, y17, z17⟩, st17⟩ := X1.virtualBack hx (y := (⟨"com/example/fouille/fouille/eval/Measure", "isPerQuery", "()Z"⟩ : MethodName)) (z := (⟨"com/example/fouille/fouille/eval/Measure", "isPerQuery", "()Z"⟩ : MethodName)) hown (mvT hZ (hw _ (List.mem_of_getElem? (i := 8) rfl))) (mvT hZ (hw _ (List.mem_of_getElem? (i := 9) rfl))) (notFace_of_selects (args := #[]) (mvT hZ (hw _ (List.mem_of_getElem? (i := 11) rfl)))) (mvT hZ (hw _ (List.mem_of_getElem? (i := 11) rfl))) (mvT hZ (hw _ (List.mem_of_getElem? (i := 10) rfl))) (by decide) (backOf (W := 0) (rm2 l Z a0 hw [] s_P_5 s_NUM_Q h0 n0 Z0 P0 P1) hZ (hw _ (List.mem_of_getElem? (i := 12) rfl)) (hw _ (List.mem_of_getElem? (i := 6) rfl)) (by decide) (by decide)) q17a q17c (g := (mkF m 24 #[.val (.int x0), .val (.int ((x0 &&& (2147483647 : Int32)) % (13 : Int32))), .val (.ref s_P_5), .val (.int (1 : Int32))] [(.ref s_P_5)])) rfl (by rw [hml]; rfl) (Steps.refl _) (argsL := []) (rest := []) (lenOf pd_1 rfl) rfl (by show 2 * 0 + _ ≤ _; exact Nat.le_of_eq rfl) (hb hby at_24) (fun _ _ => ⟨rfl, eq1, (by decide : 0 + 0 ≤ _), (by decide : 0 + 0 ≤ _)⟩)
                  dsimp only [Pt.U, Pt.locs, Pt.cells, Pt.slots] at X17 l17 y17 z17 st17 hQ17
                  subst l17 y17 z17
                  obtain ⟨hv17, Nq17, eq17⟩ := hQ17
                  have N17 := Fr.app N1 Nq17
                  rw [if_neg P30] at hv17
                  subst hv17
                  refine own_step (fun _ κ => st17.trans κ) ?_
                  show own_Go _ _ _ _ (T17.setTop (mkF m 27 #[.val (.int x0), .val (.int ((x0 &&& (2147483647 : Int32)) % (13 : Int32))), .val (.ref s_P_5), .val (.int (1 : Int32))] [(.int (1 : Int32))]))
                  refine own_step (fun _ κ => XS.iloadN X17.here hx rfl (hb hby at_27) rfl κ) ?_
                  show own_Go _ _ _ _ (T17.setTop (mkF m 28 #[.val (.int x0), .val (.int ((x0 &&& (2147483647 : Int32)) % (13 : Int32))), .val (.ref s_P_5), .val (.int (1 : Int32))] [(.int (1 : Int32)), (.int (1 : Int32))]))
                  refine own_step (fun _ κ => XS.icmpNo X17.here hx rfl (hb hby at_28) rfl (teq rfl).2 κ) ?_
                  show own_Go _ _ _ _ (T17.setTop (mkF m 31 #[.val (.int x0), .val (.int ((x0 &&& (2147483647 : Int32)) % (13 : Int32))), .val (.ref s_P_5), .val (.int (1 : Int32))] []))
                  refine own_step (fun _ κ => XS.iconst X17.here hx rfl (hb hby at_31) κ) ?_
                  show own_Go _ _ _ _ (T17.setTop (mkF m 32 #[.val (.int x0), .val (.int ((x0 &&& (2147483647 : Int32)) % (13 : Int32))), .val (.ref s_P_5), .val (.int (1 : Int32))] [(.int (1 : Int32))]))
                  refine own_step (fun _ κ => XS.goto X17.here hx rfl (pc0 := 32) (pc' := 36) rfl (hb hby at_32) (by decide) (by decide) κ) ?_
                  show own_Go _ _ _ _ (T17.setTop (mkF m 36 #[.val (.int x0), .val (.int ((x0 &&& (2147483647 : Int32)) % (13 : Int32))), .val (.ref s_P_5), .val (.int (1 : Int32))] [(.int (1 : Int32))]))
                  obtain ⟨fs, hr, hrun, hended, hW, hsame⟩ := X17.leave (v := some (.int (1 : Int32))) (fun h => by rw [Bd.returns] at h; cases h)
                  refine ⟨_, _, retN X17 hx (t := .boolean) Bd.returns (by simp) (hb hby at_36) hr, hrun, hended, _, _, rfl, ?_, ⟨_, rfl⟩, hW, hsame.mono (by decide) (by decide)⟩
                  show Q0 Z x0 s_NUM_Q s_NUM_REL_RET s_P_1 s_RECIP_RANK s_P_5 s_NDCG_CUT_5 s_NUM_REL s_NDCG_CUT_20 s_NUM_RET s_P_10 s_NDCG_CUT_10 s_RECALL_1000 s_MAP h0 n0 _ T17.heap _
                  exact ⟨rfl, N17⟩
                · rw [if_neg hc16] at hv1
                  by_cases hc18 : ((x0 &&& (2147483647 : Int32)) % (13 : Int32)) = (8 : Int32)
                  · rw [if_pos hc18] at hv1
                    subst hv1
                    refine own_step st1 ?_
                    show own_Go _ _ _ _ (T1.setTop (mkF m 12 #[.val (.int x0), .val (.int ((x0 &&& (2147483647 : Int32)) % (13 : Int32))), .unset, .unset] [(.ref s_P_10)]))
                    refine own_step (fun _ κ => XS.astoreN X1.here hx rfl (hb hby at_12) rfl rfl (l' := #[.val (.int x0), .val (.int ((x0 &&& (2147483647 : Int32)) % (13 : Int32))), .val (.ref s_P_10), .unset]) rfl κ) ?_
                    show own_Go _ _ _ _ (T1.setTop (mkF m 13 #[.val (.int x0), .val (.int ((x0 &&& (2147483647 : Int32)) % (13 : Int32))), .val (.ref s_P_10), .unset] []))
                    refine own_step (fun _ κ => XS.iloadN X1.here hx rfl (hb hby at_13) rfl κ) ?_
                    show own_Go _ _ _ _ (T1.setTop (mkF m 14 #[.val (.int x0), .val (.int ((x0 &&& (2147483647 : Int32)) % (13 : Int32))), .val (.ref s_P_10), .unset] [(.int ((x0 &&& (2147483647 : Int32)) % (13 : Int32)))]))
                    refine own_step (fun _ κ => XS.ifNo X1.here hx rfl (hb hby at_14) rfl ((if0 _ _).trans (feq hc2).1) κ) ?_
                    show own_Go _ _ _ _ (T1.setTop (mkF m 17 #[.val (.int x0), .val (.int ((x0 &&& (2147483647 : Int32)) % (13 : Int32))), .val (.ref s_P_10), .unset] []))
                    refine own_step (fun _ κ => XS.iconst X1.here hx rfl (hb hby at_17) κ) ?_
                    show own_Go _ _ _ _ (T1.setTop (mkF m 18 #[.val (.int x0), .val (.int ((x0 &&& (2147483647 : Int32)) % (13 : Int32))), .val (.ref s_P_10), .unset] [(.int (1 : Int32))]))
                    refine own_step (fun _ κ => XS.goto X1.here hx rfl (pc0 := 18) (pc' := 22) rfl (hb hby at_18) (by decide) (by decide) κ) ?_
                    show own_Go _ _ _ _ (T1.setTop (mkF m 22 #[.val (.int x0), .val (.int ((x0 &&& (2147483647 : Int32)) % (13 : Int32))), .val (.ref s_P_10), .unset] [(.int (1 : Int32))]))
                    refine own_step (fun _ κ => XS.istoreN X1.here hx rfl (hb hby at_22) rfl (l' := #[.val (.int x0), .val (.int ((x0 &&& (2147483647 : Int32)) % (13 : Int32))), .val (.ref s_P_10), .val (.int (1 : Int32))]) rfl κ) ?_
                    show own_Go _ _ _ _ (T1.setTop (mkF m 23 #[.val (.int x0), .val (.int ((x0 &&& (2147483647 : Int32)) % (13 : Int32))), .val (.ref s_P_10), .val (.int (1 : Int32))] []))
                    refine own_step (fun _ κ => XS.aloadN X1.here hx rfl (hb hby at_23) rfl rfl κ) ?_
                    show own_Go _ _ _ _ (T1.setTop (mkF m 24 #[.val (.int x0), .val (.int ((x0 &&& (2147483647 : Int32)) % (13 : Int32))), .val (.ref s_P_10), .val (.int (1 : Int32))] [(.ref s_P_10)]))
                    obtain ⟨cq19, kq19, q19a, q19b, q19c⟩ := isOf hZ eq1 (P20.ext P0.2)
                    obtain ⟨vr19, _, ⟨T19, L19, k19, n19⟩, -, X19, ⟨Lc19, hQ19, l19, y19, z19⟩, st19⟩ := X1.virtualBack hx (y := (⟨"com/example/fouille/fouille/eval/Measure", "isPerQuery", "()Z"⟩ : MethodName)) (z := (⟨"com/example/fouille/fouille/eval/Measure", "isPerQuery", "()Z"⟩ : MethodName)) hown (mvT hZ (hw _ (List.mem_of_getElem? (i := 8) rfl))) (mvT hZ (hw _ (List.mem_of_getElem? (i := 9) rfl))) (notFace_of_selects (args := #[]) (mvT hZ (hw _ (List.mem_of_getElem? (i := 11) rfl)))) (mvT hZ (hw _ (List.mem_of_getElem? (i := 11) rfl))) (mvT hZ (hw _ (List.mem_of_getElem? (i := 10) rfl))) (by decide) (backOf (W := 0) (rm2 l Z a0 hw [] s_P_10 s_NUM_Q h0 n0 Z0 P0 P1) hZ (hw _ (List.mem_of_getElem? (i := 12) rfl)) (hw _ (List.mem_of_getElem? (i := 6) rfl)) (by decide) (by decide)) q19a q19c (g := (mkF m 24 #[.val (.int x0), .val (.int ((x0 &&& (2147483647 : Int32)) % (13 : Int32))), .val (.ref s_P_10), .val (.int (1 : Int32))] [(.ref s_P_10)])) rfl (by rw [hml]; rfl) (Steps.refl _) (argsL := []) (rest := []) (lenOf pd_1 rfl) rfl (by show 2 * 0 + _ ≤ _; exact Nat.le_of_eq rfl) (hb hby at_24) (fun _ _ => ⟨rfl, eq1, (by decide : 0 + 0 ≤ _), (by decide : 0 + 0 ≤ _)⟩)
                    dsimp only [Pt.U, Pt.locs, Pt.cells, Pt.slots] at X19 l19 y19 z19 st19 hQ19
                    subst l19 y19 z19
                    obtain ⟨hv19, Nq19, eq19⟩ := hQ19
                    have N19 := Fr.app N1 Nq19
                    rw [if_neg P35] at hv19
                    subst hv19
                    refine own_step (fun _ κ => st19.trans κ) ?_
                    show own_Go _ _ _ _ (T19.setTop (mkF m 27 #[.val (.int x0), .val (.int ((x0 &&& (2147483647 : Int32)) % (13 : Int32))), .val (.ref s_P_10), .val (.int (1 : Int32))] [(.int (1 : Int32))]))
                    refine own_step (fun _ κ => XS.iloadN X19.here hx rfl (hb hby at_27) rfl κ) ?_
                    show own_Go _ _ _ _ (T19.setTop (mkF m 28 #[.val (.int x0), .val (.int ((x0 &&& (2147483647 : Int32)) % (13 : Int32))), .val (.ref s_P_10), .val (.int (1 : Int32))] [(.int (1 : Int32)), (.int (1 : Int32))]))
                    refine own_step (fun _ κ => XS.icmpNo X19.here hx rfl (hb hby at_28) rfl (teq rfl).2 κ) ?_
                    show own_Go _ _ _ _ (T19.setTop (mkF m 31 #[.val (.int x0), .val (.int ((x0 &&& (2147483647 : Int32)) % (13 : Int32))), .val (.ref s_P_10), .val (.int (1 : Int32))] []))
                    refine own_step (fun _ κ => XS.iconst X19.here hx rfl (hb hby at_31) κ) ?_
                    show own_Go _ _ _ _ (T19.setTop (mkF m 32 #[.val (.int x0), .val (.int ((x0 &&& (2147483647 : Int32)) % (13 : Int32))), .val (.ref s_P_10), .val (.int (1 : Int32))] [(.int (1 : Int32))]))
                    refine own_step (fun _ κ => XS.goto X19.here hx rfl (pc0 := 32) (pc' := 36) rfl (hb hby at_32) (by decide) (by decide) κ) ?_
                    show own_Go _ _ _ _ (T19.setTop (mkF m 36 #[.val (.int x0), .val (.int ((x0 &&& (2147483647 : Int32)) % (13 : Int32))), .val (.ref s_P_10), .val (.int (1 : Int32))] [(.int (1 : Int32))]))
                    obtain ⟨fs, hr, hrun, hended, hW, hsame⟩ := X19.leave (v := some (.int (1 : Int32))) (fun h => by rw [Bd.returns] at h; cases h)
                    refine ⟨_, _, retN X19 hx (t := .boolean) Bd.returns (by simp) (hb hby at_36) hr, hrun, hended, _, _, rfl, ?_, ⟨_, rfl⟩, hW, hsame.mono (by decide) (by decide)⟩
                    show Q0 Z x0 s_NUM_Q s_NUM_REL_RET s_P_1 s_RECIP_RANK s_P_5 s_NDCG_CUT_5 s_NUM_REL s_NDCG_CUT_20 s_NUM_RET s_P_10 s_NDCG_CUT_10 s_RECALL_1000 s_MAP h0 n0 _ T19.heap _
                    exact ⟨rfl, N19⟩
                  · rw [if_neg hc18] at hv1
                    by_cases hc20 : ((x0 &&& (2147483647 : Int32)) % (13 : Int32)) = (9 : Int32)
                    · rw [if_pos hc20] at hv1
                      subst hv1
                      refine own_step st1 ?_
                      show own_Go _ _ _ _ (T1.setTop (mkF m 12 #[.val (.int x0), .val (.int ((x0 &&& (2147483647 : Int32)) % (13 : Int32))), .unset, .unset] [(.ref s_NDCG_CUT_5)]))
                      refine own_step (fun _ κ => XS.astoreN X1.here hx rfl (hb hby at_12) rfl rfl (l' := #[.val (.int x0), .val (.int ((x0 &&& (2147483647 : Int32)) % (13 : Int32))), .val (.ref s_NDCG_CUT_5), .unset]) rfl κ) ?_
                      show own_Go _ _ _ _ (T1.setTop (mkF m 13 #[.val (.int x0), .val (.int ((x0 &&& (2147483647 : Int32)) % (13 : Int32))), .val (.ref s_NDCG_CUT_5), .unset] []))
                      refine own_step (fun _ κ => XS.iloadN X1.here hx rfl (hb hby at_13) rfl κ) ?_
                      show own_Go _ _ _ _ (T1.setTop (mkF m 14 #[.val (.int x0), .val (.int ((x0 &&& (2147483647 : Int32)) % (13 : Int32))), .val (.ref s_NDCG_CUT_5), .unset] [(.int ((x0 &&& (2147483647 : Int32)) % (13 : Int32)))]))
                      refine own_step (fun _ κ => XS.ifNo X1.here hx rfl (hb hby at_14) rfl ((if0 _ _).trans (feq hc2).1) κ) ?_
                      show own_Go _ _ _ _ (T1.setTop (mkF m 17 #[.val (.int x0), .val (.int ((x0 &&& (2147483647 : Int32)) % (13 : Int32))), .val (.ref s_NDCG_CUT_5), .unset] []))
                      refine own_step (fun _ κ => XS.iconst X1.here hx rfl (hb hby at_17) κ) ?_
                      show own_Go _ _ _ _ (T1.setTop (mkF m 18 #[.val (.int x0), .val (.int ((x0 &&& (2147483647 : Int32)) % (13 : Int32))), .val (.ref s_NDCG_CUT_5), .unset] [(.int (1 : Int32))]))
                      refine own_step (fun _ κ => XS.goto X1.here hx rfl (pc0 := 18) (pc' := 22) rfl (hb hby at_18) (by decide) (by decide) κ) ?_
                      show own_Go _ _ _ _ (T1.setTop (mkF m 22 #[.val (.int x0), .val (.int ((x0 &&& (2147483647 : Int32)) % (13 : Int32))), .val (.ref s_NDCG_CUT_5), .unset] [(.int (1 : Int32))]))
                      refine own_step (fun _ κ => XS.istoreN X1.here hx rfl (hb hby at_22) rfl (l' := #[.val (.int x0), .val (.int ((x0 &&& (2147483647 : Int32)) % (13 : Int32))), .val (.ref s_NDCG_CUT_5), .val (.int (1 : Int32))]) rfl κ) ?_
                      show own_Go _ _ _ _ (T1.setTop (mkF m 23 #[.val (.int x0), .val (.int ((x0 &&& (2147483647 : Int32)) % (13 : Int32))), .val (.ref s_NDCG_CUT_5), .val (.int (1 : Int32))] []))
                      refine own_step (fun _ κ => XS.aloadN X1.here hx rfl (hb hby at_23) rfl rfl κ) ?_
                      show own_Go _ _ _ _ (T1.setTop (mkF m 24 #[.val (.int x0), .val (.int ((x0 &&& (2147483647 : Int32)) % (13 : Int32))), .val (.ref s_NDCG_CUT_5), .val (.int (1 : Int32))] [(.ref s_NDCG_CUT_5)]))
                      obtain ⟨cq21, kq21, q21a, q21b, q21c⟩ := isOf hZ eq1 (P12.ext P0.2)
                      obtain ⟨vr21, _, ⟨T21, L21, k21, n21⟩, -, X21, ⟨Lc21, hQ21, l21, y21, z21⟩, st21⟩ := X1.virtualBack hx (y := (⟨"com/example/fouille/fouille/eval/Measure", "isPerQuery", "()Z"⟩ : MethodName)) (z := (⟨"com/example/fouille/fouille/eval/Measure", "isPerQuery", "()Z"⟩ : MethodName)) hown (mvT hZ (hw _ (List.mem_of_getElem? (i := 8) rfl))) (mvT hZ (hw _ (List.mem_of_getElem? (i := 9) rfl))) (notFace_of_selects (args := #[]) (mvT hZ (hw _ (List.mem_of_getElem? (i := 11) rfl)))) (mvT hZ (hw _ (List.mem_of_getElem? (i := 11) rfl))) (mvT hZ (hw _ (List.mem_of_getElem? (i := 10) rfl))) (by decide) (backOf (W := 0) (rm2 l Z a0 hw [] s_NDCG_CUT_5 s_NUM_Q h0 n0 Z0 P0 P1) hZ (hw _ (List.mem_of_getElem? (i := 12) rfl)) (hw _ (List.mem_of_getElem? (i := 6) rfl)) (by decide) (by decide)) q21a q21c (g := (mkF m 24 #[.val (.int x0), .val (.int ((x0 &&& (2147483647 : Int32)) % (13 : Int32))), .val (.ref s_NDCG_CUT_5), .val (.int (1 : Int32))] [(.ref s_NDCG_CUT_5)])) rfl (by rw [hml]; rfl) (Steps.refl _) (argsL := []) (rest := []) (lenOf pd_1 rfl) rfl (by show 2 * 0 + _ ≤ _; exact Nat.le_of_eq rfl) (hb hby at_24) (fun _ _ => ⟨rfl, eq1, (by decide : 0 + 0 ≤ _), (by decide : 0 + 0 ≤ _)⟩)
                      dsimp only [Pt.U, Pt.locs, Pt.cells, Pt.slots] at X21 l21 y21 z21 st21 hQ21
                      subst l21 y21 z21
                      obtain ⟨hv21, Nq21, eq21⟩ := hQ21
                      have N21 := Fr.app N1 Nq21
                      rw [if_neg P31] at hv21
                      subst hv21
                      refine own_step (fun _ κ => st21.trans κ) ?_
                      show own_Go _ _ _ _ (T21.setTop (mkF m 27 #[.val (.int x0), .val (.int ((x0 &&& (2147483647 : Int32)) % (13 : Int32))), .val (.ref s_NDCG_CUT_5), .val (.int (1 : Int32))] [(.int (1 : Int32))]))
                      refine own_step (fun _ κ => XS.iloadN X21.here hx rfl (hb hby at_27) rfl κ) ?_
                      show own_Go _ _ _ _ (T21.setTop (mkF m 28 #[.val (.int x0), .val (.int ((x0 &&& (2147483647 : Int32)) % (13 : Int32))), .val (.ref s_NDCG_CUT_5), .val (.int (1 : Int32))] [(.int (1 : Int32)), (.int (1 : Int32))]))
                      refine own_step (fun _ κ => XS.icmpNo X21.here hx rfl (hb hby at_28) rfl (teq rfl).2 κ) ?_
                      show own_Go _ _ _ _ (T21.setTop (mkF m 31 #[.val (.int x0), .val (.int ((x0 &&& (2147483647 : Int32)) % (13 : Int32))), .val (.ref s_NDCG_CUT_5), .val (.int (1 : Int32))] []))
                      refine own_step (fun _ κ => XS.iconst X21.here hx rfl (hb hby at_31) κ) ?_
                      show own_Go _ _ _ _ (T21.setTop (mkF m 32 #[.val (.int x0), .val (.int ((x0 &&& (2147483647 : Int32)) % (13 : Int32))), .val (.ref s_NDCG_CUT_5), .val (.int (1 : Int32))] [(.int (1 : Int32))]))
                      refine own_step (fun _ κ => XS.goto X21.here hx rfl (pc0 := 32) (pc' := 36) rfl (hb hby at_32) (by decide) (by decide) κ) ?_
                      show own_Go _ _ _ _ (T21.setTop (mkF m 36 #[.val (.int x0), .val (.int ((x0 &&& (2147483647 : Int32)) % (13 : Int32))), .val (.ref s_NDCG_CUT_5), .val (.int (1 : Int32))] [(.int (1 : Int32))]))
                      obtain ⟨fs, hr, hrun, hended, hW, hsame⟩ := X21.leave (v := some (.int (1 : Int32))) (fun h => by rw [Bd.returns] at h; cases h)
                      refine ⟨_, _, retN X21 hx (t := .boolean) Bd.returns (by simp) (hb hby at_36) hr, hrun, hended, _, _, rfl, ?_, ⟨_, rfl⟩, hW, hsame.mono (by decide) (by decide)⟩
                      show Q0 Z x0 s_NUM_Q s_NUM_REL_RET s_P_1 s_RECIP_RANK s_P_5 s_NDCG_CUT_5 s_NUM_REL s_NDCG_CUT_20 s_NUM_RET s_P_10 s_NDCG_CUT_10 s_RECALL_1000 s_MAP h0 n0 _ T21.heap _
                      exact ⟨rfl, N21⟩
                    · rw [if_neg hc20] at hv1
                      by_cases hc22 : ((x0 &&& (2147483647 : Int32)) % (13 : Int32)) = (10 : Int32)
                      · rw [if_pos hc22] at hv1
                        subst hv1
                        refine own_step st1 ?_
                        show own_Go _ _ _ _ (T1.setTop (mkF m 12 #[.val (.int x0), .val (.int ((x0 &&& (2147483647 : Int32)) % (13 : Int32))), .unset, .unset] [(.ref s_NDCG_CUT_10)]))
                        refine own_step (fun _ κ => XS.astoreN X1.here hx rfl (hb hby at_12) rfl rfl (l' := #[.val (.int x0), .val (.int ((x0 &&& (2147483647 : Int32)) % (13 : Int32))), .val (.ref s_NDCG_CUT_10), .unset]) rfl κ) ?_
                        show own_Go _ _ _ _ (T1.setTop (mkF m 13 #[.val (.int x0), .val (.int ((x0 &&& (2147483647 : Int32)) % (13 : Int32))), .val (.ref s_NDCG_CUT_10), .unset] []))
                        refine own_step (fun _ κ => XS.iloadN X1.here hx rfl (hb hby at_13) rfl κ) ?_
                        show own_Go _ _ _ _ (T1.setTop (mkF m 14 #[.val (.int x0), .val (.int ((x0 &&& (2147483647 : Int32)) % (13 : Int32))), .val (.ref s_NDCG_CUT_10), .unset] [(.int ((x0 &&& (2147483647 : Int32)) % (13 : Int32)))]))
                        refine own_step (fun _ κ => XS.ifNo X1.here hx rfl (hb hby at_14) rfl ((if0 _ _).trans (feq hc2).1) κ) ?_
                        show own_Go _ _ _ _ (T1.setTop (mkF m 17 #[.val (.int x0), .val (.int ((x0 &&& (2147483647 : Int32)) % (13 : Int32))), .val (.ref s_NDCG_CUT_10), .unset] []))
                        refine own_step (fun _ κ => XS.iconst X1.here hx rfl (hb hby at_17) κ) ?_
                        show own_Go _ _ _ _ (T1.setTop (mkF m 18 #[.val (.int x0), .val (.int ((x0 &&& (2147483647 : Int32)) % (13 : Int32))), .val (.ref s_NDCG_CUT_10), .unset] [(.int (1 : Int32))]))
                        refine own_step (fun _ κ => XS.goto X1.here hx rfl (pc0 := 18) (pc' := 22) rfl (hb hby at_18) (by decide) (by decide) κ) ?_
                        show own_Go _ _ _ _ (T1.setTop (mkF m 22 #[.val (.int x0), .val (.int ((x0 &&& (2147483647 : Int32)) % (13 : Int32))), .val (.ref s_NDCG_CUT_10), .unset] [(.int (1 : Int32))]))
                        refine own_step (fun _ κ => XS.istoreN X1.here hx rfl (hb hby at_22) rfl (l' := #[.val (.int x0), .val (.int ((x0 &&& (2147483647 : Int32)) % (13 : Int32))), .val (.ref s_NDCG_CUT_10), .val (.int (1 : Int32))]) rfl κ) ?_
                        show own_Go _ _ _ _ (T1.setTop (mkF m 23 #[.val (.int x0), .val (.int ((x0 &&& (2147483647 : Int32)) % (13 : Int32))), .val (.ref s_NDCG_CUT_10), .val (.int (1 : Int32))] []))
                        refine own_step (fun _ κ => XS.aloadN X1.here hx rfl (hb hby at_23) rfl rfl κ) ?_
                        show own_Go _ _ _ _ (T1.setTop (mkF m 24 #[.val (.int x0), .val (.int ((x0 &&& (2147483647 : Int32)) % (13 : Int32))), .val (.ref s_NDCG_CUT_10), .val (.int (1 : Int32))] [(.ref s_NDCG_CUT_10)]))
                        obtain ⟨cq23, kq23, q23a, q23b, q23c⟩ := isOf hZ eq1 (P22.ext P0.2)
                        obtain ⟨vr23, _, ⟨T23, L23, k23, n23⟩, -, X23, ⟨Lc23, hQ23, l23, y23, z23⟩, st23⟩ := X1.virtualBack hx (y := (⟨"com/example/fouille/fouille/eval/Measure", "isPerQuery", "()Z"⟩ : MethodName)) (z := (⟨"com/example/fouille/fouille/eval/Measure", "isPerQuery", "()Z"⟩ : MethodName)) hown (mvT hZ (hw _ (List.mem_of_getElem? (i := 8) rfl))) (mvT hZ (hw _ (List.mem_of_getElem? (i := 9) rfl))) (notFace_of_selects (args := #[]) (mvT hZ (hw _ (List.mem_of_getElem? (i := 11) rfl)))) (mvT hZ (hw _ (List.mem_of_getElem? (i := 11) rfl))) (mvT hZ (hw _ (List.mem_of_getElem? (i := 10) rfl))) (by decide) (backOf (W := 0) (rm2 l Z a0 hw [] s_NDCG_CUT_10 s_NUM_Q h0 n0 Z0 P0 P1) hZ (hw _ (List.mem_of_getElem? (i := 12) rfl)) (hw _ (List.mem_of_getElem? (i := 6) rfl)) (by decide) (by decide)) q23a q23c (g := (mkF m 24 #[.val (.int x0), .val (.int ((x0 &&& (2147483647 : Int32)) % (13 : Int32))), .val (.ref s_NDCG_CUT_10), .val (.int (1 : Int32))] [(.ref s_NDCG_CUT_10)])) rfl (by rw [hml]; rfl) (Steps.refl _) (argsL := []) (rest := []) (lenOf pd_1 rfl) rfl (by show 2 * 0 + _ ≤ _; exact Nat.le_of_eq rfl) (hb hby at_24) (fun _ _ => ⟨rfl, eq1, (by decide : 0 + 0 ≤ _), (by decide : 0 + 0 ≤ _)⟩)
                        dsimp only [Pt.U, Pt.locs, Pt.cells, Pt.slots] at X23 l23 y23 z23 st23 hQ23
                        subst l23 y23 z23
                        obtain ⟨hv23, Nq23, eq23⟩ := hQ23
                        have N23 := Fr.app N1 Nq23
                        rw [if_neg P36] at hv23
                        subst hv23
                        refine own_step (fun _ κ => st23.trans κ) ?_
                        show own_Go _ _ _ _ (T23.setTop (mkF m 27 #[.val (.int x0), .val (.int ((x0 &&& (2147483647 : Int32)) % (13 : Int32))), .val (.ref s_NDCG_CUT_10), .val (.int (1 : Int32))] [(.int (1 : Int32))]))
                        refine own_step (fun _ κ => XS.iloadN X23.here hx rfl (hb hby at_27) rfl κ) ?_
                        show own_Go _ _ _ _ (T23.setTop (mkF m 28 #[.val (.int x0), .val (.int ((x0 &&& (2147483647 : Int32)) % (13 : Int32))), .val (.ref s_NDCG_CUT_10), .val (.int (1 : Int32))] [(.int (1 : Int32)), (.int (1 : Int32))]))
                        refine own_step (fun _ κ => XS.icmpNo X23.here hx rfl (hb hby at_28) rfl (teq rfl).2 κ) ?_
                        show own_Go _ _ _ _ (T23.setTop (mkF m 31 #[.val (.int x0), .val (.int ((x0 &&& (2147483647 : Int32)) % (13 : Int32))), .val (.ref s_NDCG_CUT_10), .val (.int (1 : Int32))] []))
                        refine own_step (fun _ κ => XS.iconst X23.here hx rfl (hb hby at_31) κ) ?_
                        show own_Go _ _ _ _ (T23.setTop (mkF m 32 #[.val (.int x0), .val (.int ((x0 &&& (2147483647 : Int32)) % (13 : Int32))), .val (.ref s_NDCG_CUT_10), .val (.int (1 : Int32))] [(.int (1 : Int32))]))
                        refine own_step (fun _ κ => XS.goto X23.here hx rfl (pc0 := 32) (pc' := 36) rfl (hb hby at_32) (by decide) (by decide) κ) ?_
                        show own_Go _ _ _ _ (T23.setTop (mkF m 36 #[.val (.int x0), .val (.int ((x0 &&& (2147483647 : Int32)) % (13 : Int32))), .val (.ref s_NDCG_CUT_10), .val (.int (1 : Int32))] [(.int (1 : Int32))]))
                        obtain ⟨fs, hr, hrun, hended, hW, hsame⟩ := X23.leave (v := some (.int (1 : Int32))) (fun h => by rw [Bd.returns] at h; cases h)
                        refine ⟨_, _, retN X23 hx (t := .boolean) Bd.returns (by simp) (hb hby at_36) hr, hrun, hended, _, _, rfl, ?_, ⟨_, rfl⟩, hW, hsame.mono (by decide) (by decide)⟩
                        show Q0 Z x0 s_NUM_Q s_NUM_REL_RET s_P_1 s_RECIP_RANK s_P_5 s_NDCG_CUT_5 s_NUM_REL s_NDCG_CUT_20 s_NUM_RET s_P_10 s_NDCG_CUT_10 s_RECALL_1000 s_MAP h0 n0 _ T23.heap _
                        exact ⟨rfl, N23⟩
                      · rw [if_neg hc22] at hv1
                        by_cases hc24 : ((x0 &&& (2147483647 : Int32)) % (13 : Int32)) = (11 : Int32)
                        · rw [if_pos hc24] at hv1
                          subst hv1
                          refine own_step st1 ?_
                          show own_Go _ _ _ _ (T1.setTop (mkF m 12 #[.val (.int x0), .val (.int ((x0 &&& (2147483647 : Int32)) % (13 : Int32))), .unset, .unset] [(.ref s_NDCG_CUT_20)]))
                          refine own_step (fun _ κ => XS.astoreN X1.here hx rfl (hb hby at_12) rfl rfl (l' := #[.val (.int x0), .val (.int ((x0 &&& (2147483647 : Int32)) % (13 : Int32))), .val (.ref s_NDCG_CUT_20), .unset]) rfl κ) ?_
                          show own_Go _ _ _ _ (T1.setTop (mkF m 13 #[.val (.int x0), .val (.int ((x0 &&& (2147483647 : Int32)) % (13 : Int32))), .val (.ref s_NDCG_CUT_20), .unset] []))
                          refine own_step (fun _ κ => XS.iloadN X1.here hx rfl (hb hby at_13) rfl κ) ?_
                          show own_Go _ _ _ _ (T1.setTop (mkF m 14 #[.val (.int x0), .val (.int ((x0 &&& (2147483647 : Int32)) % (13 : Int32))), .val (.ref s_NDCG_CUT_20), .unset] [(.int ((x0 &&& (2147483647 : Int32)) % (13 : Int32)))]))
                          refine own_step (fun _ κ => XS.ifNo X1.here hx rfl (hb hby at_14) rfl ((if0 _ _).trans (feq hc2).1) κ) ?_
                          show own_Go _ _ _ _ (T1.setTop (mkF m 17 #[.val (.int x0), .val (.int ((x0 &&& (2147483647 : Int32)) % (13 : Int32))), .val (.ref s_NDCG_CUT_20), .unset] []))
                          refine own_step (fun _ κ => XS.iconst X1.here hx rfl (hb hby at_17) κ) ?_
                          show own_Go _ _ _ _ (T1.setTop (mkF m 18 #[.val (.int x0), .val (.int ((x0 &&& (2147483647 : Int32)) % (13 : Int32))), .val (.ref s_NDCG_CUT_20), .unset] [(.int (1 : Int32))]))
                          refine own_step (fun _ κ => XS.goto X1.here hx rfl (pc0 := 18) (pc' := 22) rfl (hb hby at_18) (by decide) (by decide) κ) ?_
                          show own_Go _ _ _ _ (T1.setTop (mkF m 22 #[.val (.int x0), .val (.int ((x0 &&& (2147483647 : Int32)) % (13 : Int32))), .val (.ref s_NDCG_CUT_20), .unset] [(.int (1 : Int32))]))
                          refine own_step (fun _ κ => XS.istoreN X1.here hx rfl (hb hby at_22) rfl (l' := #[.val (.int x0), .val (.int ((x0 &&& (2147483647 : Int32)) % (13 : Int32))), .val (.ref s_NDCG_CUT_20), .val (.int (1 : Int32))]) rfl κ) ?_
                          show own_Go _ _ _ _ (T1.setTop (mkF m 23 #[.val (.int x0), .val (.int ((x0 &&& (2147483647 : Int32)) % (13 : Int32))), .val (.ref s_NDCG_CUT_20), .val (.int (1 : Int32))] []))
                          refine own_step (fun _ κ => XS.aloadN X1.here hx rfl (hb hby at_23) rfl rfl κ) ?_
                          show own_Go _ _ _ _ (T1.setTop (mkF m 24 #[.val (.int x0), .val (.int ((x0 &&& (2147483647 : Int32)) % (13 : Int32))), .val (.ref s_NDCG_CUT_20), .val (.int (1 : Int32))] [(.ref s_NDCG_CUT_20)]))
                          obtain ⟨cq25, kq25, q25a, q25b, q25c⟩ := isOf hZ eq1 (P16.ext P0.2)
                          obtain ⟨vr25, _, ⟨T25, L25, k25, n25⟩, -, X25, ⟨Lc25, hQ25, l25, y25, z25⟩, st25⟩ := X1.virtualBack hx (y := (⟨"com/example/fouille/fouille/eval/Measure", "isPerQuery", "()Z"⟩ : MethodName)) (z := (⟨"com/example/fouille/fouille/eval/Measure", "isPerQuery", "()Z"⟩ : MethodName)) hown (mvT hZ (hw _ (List.mem_of_getElem? (i := 8) rfl))) (mvT hZ (hw _ (List.mem_of_getElem? (i := 9) rfl))) (notFace_of_selects (args := #[]) (mvT hZ (hw _ (List.mem_of_getElem? (i := 11) rfl)))) (mvT hZ (hw _ (List.mem_of_getElem? (i := 11) rfl))) (mvT hZ (hw _ (List.mem_of_getElem? (i := 10) rfl))) (by decide) (backOf (W := 0) (rm2 l Z a0 hw [] s_NDCG_CUT_20 s_NUM_Q h0 n0 Z0 P0 P1) hZ (hw _ (List.mem_of_getElem? (i := 12) rfl)) (hw _ (List.mem_of_getElem? (i := 6) rfl)) (by decide) (by decide)) q25a q25c (g := (mkF m 24 #[.val (.int x0), .val (.int ((x0 &&& (2147483647 : Int32)) % (13 : Int32))), .val (.ref s_NDCG_CUT_20), .val (.int (1 : Int32))] [(.ref s_NDCG_CUT_20)])) rfl (by rw [hml]; rfl) (Steps.refl _) (argsL := []) (rest := []) (lenOf pd_1 rfl) rfl (by show 2 * 0 + _ ≤ _; exact Nat.le_of_eq rfl) (hb hby at_24) (fun _ _ => ⟨rfl, eq1, (by decide : 0 + 0 ≤ _), (by decide : 0 + 0 ≤ _)⟩)
                          dsimp only [Pt.U, Pt.locs, Pt.cells, Pt.slots] at X25 l25 y25 z25 st25 hQ25
                          subst l25 y25 z25
                          obtain ⟨hv25, Nq25, eq25⟩ := hQ25
                          have N25 := Fr.app N1 Nq25
                          rw [if_neg P33] at hv25
                          subst hv25
                          refine own_step (fun _ κ => st25.trans κ) ?_
                          show own_Go _ _ _ _ (T25.setTop (mkF m 27 #[.val (.int x0), .val (.int ((x0 &&& (2147483647 : Int32)) % (13 : Int32))), .val (.ref s_NDCG_CUT_20), .val (.int (1 : Int32))] [(.int (1 : Int32))]))
                          refine own_step (fun _ κ => XS.iloadN X25.here hx rfl (hb hby at_27) rfl κ) ?_
                          show own_Go _ _ _ _ (T25.setTop (mkF m 28 #[.val (.int x0), .val (.int ((x0 &&& (2147483647 : Int32)) % (13 : Int32))), .val (.ref s_NDCG_CUT_20), .val (.int (1 : Int32))] [(.int (1 : Int32)), (.int (1 : Int32))]))
                          refine own_step (fun _ κ => XS.icmpNo X25.here hx rfl (hb hby at_28) rfl (teq rfl).2 κ) ?_
                          show own_Go _ _ _ _ (T25.setTop (mkF m 31 #[.val (.int x0), .val (.int ((x0 &&& (2147483647 : Int32)) % (13 : Int32))), .val (.ref s_NDCG_CUT_20), .val (.int (1 : Int32))] []))
                          refine own_step (fun _ κ => XS.iconst X25.here hx rfl (hb hby at_31) κ) ?_
                          show own_Go _ _ _ _ (T25.setTop (mkF m 32 #[.val (.int x0), .val (.int ((x0 &&& (2147483647 : Int32)) % (13 : Int32))), .val (.ref s_NDCG_CUT_20), .val (.int (1 : Int32))] [(.int (1 : Int32))]))
                          refine own_step (fun _ κ => XS.goto X25.here hx rfl (pc0 := 32) (pc' := 36) rfl (hb hby at_32) (by decide) (by decide) κ) ?_
                          show own_Go _ _ _ _ (T25.setTop (mkF m 36 #[.val (.int x0), .val (.int ((x0 &&& (2147483647 : Int32)) % (13 : Int32))), .val (.ref s_NDCG_CUT_20), .val (.int (1 : Int32))] [(.int (1 : Int32))]))
                          obtain ⟨fs, hr, hrun, hended, hW, hsame⟩ := X25.leave (v := some (.int (1 : Int32))) (fun h => by rw [Bd.returns] at h; cases h)
                          refine ⟨_, _, retN X25 hx (t := .boolean) Bd.returns (by simp) (hb hby at_36) hr, hrun, hended, _, _, rfl, ?_, ⟨_, rfl⟩, hW, hsame.mono (by decide) (by decide)⟩
                          show Q0 Z x0 s_NUM_Q s_NUM_REL_RET s_P_1 s_RECIP_RANK s_P_5 s_NDCG_CUT_5 s_NUM_REL s_NDCG_CUT_20 s_NUM_RET s_P_10 s_NDCG_CUT_10 s_RECALL_1000 s_MAP h0 n0 _ T25.heap _
                          exact ⟨rfl, N25⟩
                        · rw [if_neg hc24] at hv1
                          subst hv1
                          refine own_step st1 ?_
                          show own_Go _ _ _ _ (T1.setTop (mkF m 12 #[.val (.int x0), .val (.int ((x0 &&& (2147483647 : Int32)) % (13 : Int32))), .unset, .unset] [(.ref s_RECALL_1000)]))
                          refine own_step (fun _ κ => XS.astoreN X1.here hx rfl (hb hby at_12) rfl rfl (l' := #[.val (.int x0), .val (.int ((x0 &&& (2147483647 : Int32)) % (13 : Int32))), .val (.ref s_RECALL_1000), .unset]) rfl κ) ?_
                          show own_Go _ _ _ _ (T1.setTop (mkF m 13 #[.val (.int x0), .val (.int ((x0 &&& (2147483647 : Int32)) % (13 : Int32))), .val (.ref s_RECALL_1000), .unset] []))
                          refine own_step (fun _ κ => XS.iloadN X1.here hx rfl (hb hby at_13) rfl κ) ?_
                          show own_Go _ _ _ _ (T1.setTop (mkF m 14 #[.val (.int x0), .val (.int ((x0 &&& (2147483647 : Int32)) % (13 : Int32))), .val (.ref s_RECALL_1000), .unset] [(.int ((x0 &&& (2147483647 : Int32)) % (13 : Int32)))]))
                          refine own_step (fun _ κ => XS.ifNo X1.here hx rfl (hb hby at_14) rfl ((if0 _ _).trans (feq hc2).1) κ) ?_
                          show own_Go _ _ _ _ (T1.setTop (mkF m 17 #[.val (.int x0), .val (.int ((x0 &&& (2147483647 : Int32)) % (13 : Int32))), .val (.ref s_RECALL_1000), .unset] []))
                          refine own_step (fun _ κ => XS.iconst X1.here hx rfl (hb hby at_17) κ) ?_
                          show own_Go _ _ _ _ (T1.setTop (mkF m 18 #[.val (.int x0), .val (.int ((x0 &&& (2147483647 : Int32)) % (13 : Int32))), .val (.ref s_RECALL_1000), .unset] [(.int (1 : Int32))]))
                          refine own_step (fun _ κ => XS.goto X1.here hx rfl (pc0 := 18) (pc' := 22) rfl (hb hby at_18) (by decide) (by decide) κ) ?_
                          show own_Go _ _ _ _ (T1.setTop (mkF m 22 #[.val (.int x0), .val (.int ((x0 &&& (2147483647 : Int32)) % (13 : Int32))), .val (.ref s_RECALL_1000), .unset] [(.int (1 : Int32))]))
                          refine own_step (fun _ κ => XS.istoreN X1.here hx rfl (hb hby at_22) rfl (l' := #[.val (.int x0), .val (.int ((x0 &&& (2147483647 : Int32)) % (13 : Int32))), .val (.ref s_RECALL_1000), .val (.int (1 : Int32))]) rfl κ) ?_
                          show own_Go _ _ _ _ (T1.setTop (mkF m 23 #[.val (.int x0), .val (.int ((x0 &&& (2147483647 : Int32)) % (13 : Int32))), .val (.ref s_RECALL_1000), .val (.int (1 : Int32))] []))
                          refine own_step (fun _ κ => XS.aloadN X1.here hx rfl (hb hby at_23) rfl rfl κ) ?_
                          show own_Go _ _ _ _ (T1.setTop (mkF m 24 #[.val (.int x0), .val (.int ((x0 &&& (2147483647 : Int32)) % (13 : Int32))), .val (.ref s_RECALL_1000), .val (.int (1 : Int32))] [(.ref s_RECALL_1000)]))
                          obtain ⟨cq26, kq26, q26a, q26b, q26c⟩ := isOf hZ eq1 (P24.ext P0.2)
                          obtain ⟨vr26, _, ⟨T26, L26, k26, n26⟩, -, X26, ⟨Lc26, hQ26, l26, y26, z26⟩, st26⟩ := X1.virtualBack hx (y := (⟨"com/example/fouille/fouille/eval/Measure", "isPerQuery", "()Z"⟩ : MethodName)) (z := (⟨"com/example/fouille/fouille/eval/Measure", "isPerQuery", "()Z"⟩ : MethodName)) hown (mvT hZ (hw _ (List.mem_of_getElem? (i := 8) rfl))) (mvT hZ (hw _ (List.mem_of_getElem? (i := 9) rfl))) (notFace_of_selects (args := #[]) (mvT hZ (hw _ (List.mem_of_getElem? (i := 11) rfl)))) (mvT hZ (hw _ (List.mem_of_getElem? (i := 11) rfl))) (mvT hZ (hw _ (List.mem_of_getElem? (i := 10) rfl))) (by decide) (backOf (W := 0) (rm2 l Z a0 hw [] s_RECALL_1000 s_NUM_Q h0 n0 Z0 P0 P1) hZ (hw _ (List.mem_of_getElem? (i := 12) rfl)) (hw _ (List.mem_of_getElem? (i := 6) rfl)) (by decide) (by decide)) q26a q26c (g := (mkF m 24 #[.val (.int x0), .val (.int ((x0 &&& (2147483647 : Int32)) % (13 : Int32))), .val (.ref s_RECALL_1000), .val (.int (1 : Int32))] [(.ref s_RECALL_1000)])) rfl (by rw [hml]; rfl) (Steps.refl _) (argsL := []) (rest := []) (lenOf pd_1 rfl) rfl (by show 2 * 0 + _ ≤ _; exact Nat.le_of_eq rfl) (hb hby at_24) (fun _ _ => ⟨rfl, eq1, (by decide : 0 + 0 ≤ _), (by decide : 0 + 0 ≤ _)⟩)
                          dsimp only [Pt.U, Pt.locs, Pt.cells, Pt.slots] at X26 l26 y26 z26 st26 hQ26
                          subst l26 y26 z26
                          obtain ⟨hv26, Nq26, eq26⟩ := hQ26
                          have N26 := Fr.app N1 Nq26
                          rw [if_neg P37] at hv26
                          subst hv26
                          refine own_step (fun _ κ => st26.trans κ) ?_
                          show own_Go _ _ _ _ (T26.setTop (mkF m 27 #[.val (.int x0), .val (.int ((x0 &&& (2147483647 : Int32)) % (13 : Int32))), .val (.ref s_RECALL_1000), .val (.int (1 : Int32))] [(.int (1 : Int32))]))
                          refine own_step (fun _ κ => XS.iloadN X26.here hx rfl (hb hby at_27) rfl κ) ?_
                          show own_Go _ _ _ _ (T26.setTop (mkF m 28 #[.val (.int x0), .val (.int ((x0 &&& (2147483647 : Int32)) % (13 : Int32))), .val (.ref s_RECALL_1000), .val (.int (1 : Int32))] [(.int (1 : Int32)), (.int (1 : Int32))]))
                          refine own_step (fun _ κ => XS.icmpNo X26.here hx rfl (hb hby at_28) rfl (teq rfl).2 κ) ?_
                          show own_Go _ _ _ _ (T26.setTop (mkF m 31 #[.val (.int x0), .val (.int ((x0 &&& (2147483647 : Int32)) % (13 : Int32))), .val (.ref s_RECALL_1000), .val (.int (1 : Int32))] []))
                          refine own_step (fun _ κ => XS.iconst X26.here hx rfl (hb hby at_31) κ) ?_
                          show own_Go _ _ _ _ (T26.setTop (mkF m 32 #[.val (.int x0), .val (.int ((x0 &&& (2147483647 : Int32)) % (13 : Int32))), .val (.ref s_RECALL_1000), .val (.int (1 : Int32))] [(.int (1 : Int32))]))
                          refine own_step (fun _ κ => XS.goto X26.here hx rfl (pc0 := 32) (pc' := 36) rfl (hb hby at_32) (by decide) (by decide) κ) ?_
                          show own_Go _ _ _ _ (T26.setTop (mkF m 36 #[.val (.int x0), .val (.int ((x0 &&& (2147483647 : Int32)) % (13 : Int32))), .val (.ref s_RECALL_1000), .val (.int (1 : Int32))] [(.int (1 : Int32))]))
                          obtain ⟨fs, hr, hrun, hended, hW, hsame⟩ := X26.leave (v := some (.int (1 : Int32))) (fun h => by rw [Bd.returns] at h; cases h)
                          refine ⟨_, _, retN X26 hx (t := .boolean) Bd.returns (by simp) (hb hby at_36) hr, hrun, hended, _, _, rfl, ?_, ⟨_, rfl⟩, hW, hsame.mono (by decide) (by decide)⟩
                          show Q0 Z x0 s_NUM_Q s_NUM_REL_RET s_P_1 s_RECIP_RANK s_P_5 s_NDCG_CUT_5 s_NUM_REL s_NDCG_CUT_20 s_NUM_RET s_P_10 s_NDCG_CUT_10 s_RECALL_1000 s_MAP h0 n0 _ T26.heap _
                          exact ⟨rfl, N26⟩
set_option maxRecDepth 65536 in
set_option maxHeartbeats 40000000 in
theorem comes_1 {Post : Tables → Env → Array Value → State → Outcome → State → Prop} (hpost : ∀ tb e args s v u, (limb_1_1.after args s (.returned v) u = true ∧ limb_1_2.after args s (.returned v) u = true ∧ True) → FrameEnd s (.returned v) u (Jvm.fieldLocs frame_1_writes args s ++ Jvm.arrayLocs frame_1_arrays args s ++ Jvm.staticLocs frame_1_statics s) 0 0 → Post tb e args s (.returned v) u) :
    ArmFor flags0 classFile x code maxLocals ret World_1 tables_1 room_1 Calls_1 rest_1 Pre_1 Post := by
  intro l hfl _ _ p e ha hc hk s m args below hf hA hF happ hP
  obtain ⟨hcalls, hrest, hpre⟩ := hP
  obtain ⟨-, -, -, hnamed, -, -, -, hat⟩ := (Spec.applies_iff hf).mp happ
  obtain ⟨hg, hn⟩ := and_e (Cond.before_iff.mp (show (Jvm.Cond.and given_1 narrow_1).before args s = true from hpre))
  obtain ⟨g0, gr0⟩ := and_e hg
  obtain ⟨w0, rfl⟩ : ∃ w0 : Value, args = #[w0] := by
    have hs : args.size = 1 := by simpa [Cond.value, given_1] using g0
    obtain ⟨L⟩ := args
    match L, hs with
    | [w0], _ => exact ⟨w0, rfl⟩
  have hw := fun d (hd : d ∈ tables_1) => atoms_spec (ws := Jvm.Cond.code x code maxLocals ret :: tables_1) hat d (List.mem_cons_of_mem _ hd)
  have hfit : Fit s := fun {y c} hc i hi => by
    obtain ⟨ha, rfl⟩ := Array.getElem?_eq_some_iff.mp hc
    have q := List.all_eq_true.mp ((Array.all_eq_true_iff_forall_mem.mp hF) _ (Array.getElem_mem ha)) i (List.mem_range.mpr hi)
    simpa [Array.getElem?_eq_getElem hi] using q
  obtain ⟨i0, ei0⟩ := is_v gr0
  obtain rfl : w0 = (.int i0) := Option.some.inj ei0
  obtain ⟨nh0, nr0⟩ := and_e hn
  obtain ⟨nh1, nr1⟩ := and_e nr0
  obtain ⟨nh2, nr2⟩ := and_e nr1
  obtain ⟨nh3, nr3⟩ := and_e nr2
  obtain ⟨nh4, nr4⟩ := and_e nr3
  obtain ⟨nh5, nr5⟩ := and_e nr4
  obtain ⟨nh6, nr6⟩ := and_e nr5
  obtain ⟨nh7, nr7⟩ := and_e nr6
  obtain ⟨nh8, nr8⟩ := and_e nr7
  obtain ⟨nh9, nr9⟩ := and_e nr8
  obtain ⟨nh10, nr10⟩ := and_e nr9
  obtain ⟨nh11, nr11⟩ := and_e nr10
  obtain ⟨nh12, nr12⟩ := and_e nr11
  obtain ⟨nh13, nr13⟩ := and_e nr12
  obtain ⟨nh14, nr14⟩ := and_e nr13
  obtain ⟨nh15, nr15⟩ := and_e nr14
  obtain ⟨nh16, nr16⟩ := and_e nr15
  obtain ⟨nh17, nr17⟩ := and_e nr16
  obtain ⟨nh18, nr18⟩ := and_e nr17
  obtain ⟨nh19, nr19⟩ := and_e nr18
  obtain ⟨nh20, nr20⟩ := and_e nr19
  obtain ⟨nh21, nr21⟩ := and_e nr20
  obtain ⟨nh22, nr22⟩ := and_e nr21
  obtain ⟨nh23, nr23⟩ := and_e nr22
  obtain ⟨nh24, nr24⟩ := and_e nr23
  obtain ⟨s_NUM_Q, ev_s_NUM_Q, S_s_NUM_Q, E_s_NUM_Q⟩ := own_sta nh0 (hw _ (List.mem_of_getElem? (i := 6) rfl)) (hw _ (List.mem_of_getElem? (i := 7) rfl))
  obtain ⟨s_NUM_REL_RET, ev_s_NUM_REL_RET, S_s_NUM_REL_RET, E_s_NUM_REL_RET⟩ := own_sta nh1 (hw _ (List.mem_of_getElem? (i := 6) rfl)) (hw _ (List.mem_of_getElem? (i := 15) rfl))
  obtain ⟨s_P_1, ev_s_P_1, S_s_P_1, E_s_P_1⟩ := own_sta nh4 (hw _ (List.mem_of_getElem? (i := 6) rfl)) (hw _ (List.mem_of_getElem? (i := 17) rfl))
  obtain ⟨s_RECIP_RANK, ev_s_RECIP_RANK, S_s_RECIP_RANK, E_s_RECIP_RANK⟩ := own_sta nh6 (hw _ (List.mem_of_getElem? (i := 6) rfl)) (hw _ (List.mem_of_getElem? (i := 19) rfl))
  obtain ⟨s_P_5, ev_s_P_5, S_s_P_5, E_s_P_5⟩ := own_sta nh8 (hw _ (List.mem_of_getElem? (i := 6) rfl)) (hw _ (List.mem_of_getElem? (i := 21) rfl))
  obtain ⟨s_NDCG_CUT_5, ev_s_NDCG_CUT_5, S_s_NDCG_CUT_5, E_s_NDCG_CUT_5⟩ := own_sta nh10 (hw _ (List.mem_of_getElem? (i := 6) rfl)) (hw _ (List.mem_of_getElem? (i := 23) rfl))
  obtain ⟨s_NUM_REL, ev_s_NUM_REL, S_s_NUM_REL, E_s_NUM_REL⟩ := own_sta nh12 (hw _ (List.mem_of_getElem? (i := 6) rfl)) (hw _ (List.mem_of_getElem? (i := 25) rfl))
  obtain ⟨s_NDCG_CUT_20, ev_s_NDCG_CUT_20, S_s_NDCG_CUT_20, E_s_NDCG_CUT_20⟩ := own_sta nh14 (hw _ (List.mem_of_getElem? (i := 6) rfl)) (hw _ (List.mem_of_getElem? (i := 27) rfl))
  obtain ⟨s_NUM_RET, ev_s_NUM_RET, S_s_NUM_RET, E_s_NUM_RET⟩ := own_sta nh16 (hw _ (List.mem_of_getElem? (i := 6) rfl)) (hw _ (List.mem_of_getElem? (i := 29) rfl))
  obtain ⟨s_P_10, ev_s_P_10, S_s_P_10, E_s_P_10⟩ := own_sta nh18 (hw _ (List.mem_of_getElem? (i := 6) rfl)) (hw _ (List.mem_of_getElem? (i := 31) rfl))
  obtain ⟨s_NDCG_CUT_10, ev_s_NDCG_CUT_10, S_s_NDCG_CUT_10, E_s_NDCG_CUT_10⟩ := own_sta nh20 (hw _ (List.mem_of_getElem? (i := 6) rfl)) (hw _ (List.mem_of_getElem? (i := 33) rfl))
  obtain ⟨s_RECALL_1000, ev_s_RECALL_1000, S_s_RECALL_1000, E_s_RECALL_1000⟩ := own_sta nh22 (hw _ (List.mem_of_getElem? (i := 6) rfl)) (hw _ (List.mem_of_getElem? (i := 35) rfl))
  obtain ⟨s_MAP, ev_s_MAP, S_s_MAP, E_s_MAP⟩ := own_sta nh24 (hw _ (List.mem_of_getElem? (i := 6) rfl)) (hw _ (List.mem_of_getElem? (i := 37) rfl))
  have F_s_NUM_REL_RET_ordinal := own_staF ev_s_NUM_REL_RET nh2
  have F_s_NUM_Q_ordinal := own_staF ev_s_NUM_Q nh3
  have F_s_P_1_ordinal := own_staF ev_s_P_1 nh5
  have F_s_RECIP_RANK_ordinal := own_staF ev_s_RECIP_RANK nh7
  have F_s_P_5_ordinal := own_staF ev_s_P_5 nh9
  have F_s_NDCG_CUT_5_ordinal := own_staF ev_s_NDCG_CUT_5 nh11
  have F_s_NUM_REL_ordinal := own_staF ev_s_NUM_REL nh13
  have F_s_NDCG_CUT_20_ordinal := own_staF ev_s_NDCG_CUT_20 nh15
  have F_s_NUM_RET_ordinal := own_staF ev_s_NUM_RET nh17
  have F_s_P_10_ordinal := own_staF ev_s_P_10 nh19
  have F_s_NDCG_CUT_10_ordinal := own_staF ev_s_NDCG_CUT_10 nh21
  have F_s_RECALL_1000_ordinal := own_staF ev_s_RECALL_1000 nh23
  have F_s_MAP_ordinal := own_staF ev_s_MAP nr24
  obtain ⟨n, o, h1, h2, h3, _, L, rfl, ⟨rfl, N⟩, hq⟩ := rm0 l s _ hw tables_1 i0 s_NUM_Q s_NUM_REL_RET s_P_1 s_RECIP_RANK s_P_5 s_NDCG_CUT_5 s_NUM_REL s_NDCG_CUT_20 s_NUM_RET s_P_10 s_NDCG_CUT_10 s_RECALL_1000 s_MAP s.heap s.heap.size (Nat.le_refl _) (Old.start s) S_s_NUM_Q E_s_NUM_Q S_s_NUM_REL_RET E_s_NUM_REL_RET S_s_P_1 E_s_P_1 S_s_RECIP_RANK E_s_RECIP_RANK S_s_P_5 E_s_P_5 S_s_NDCG_CUT_5 E_s_NDCG_CUT_5 S_s_NUM_REL E_s_NUM_REL S_s_NDCG_CUT_20 E_s_NDCG_CUT_20 S_s_NUM_RET E_s_NUM_RET S_s_P_10 E_s_P_10 S_s_NDCG_CUT_10 E_s_NDCG_CUT_10 S_s_RECALL_1000 E_s_RECALL_1000 S_s_MAP E_s_MAP (Fld.ne F_s_NUM_REL_RET_ordinal F_s_NUM_Q_ordinal (by simp)) (Fld.ne F_s_P_1_ordinal F_s_NUM_Q_ordinal (by simp)) (Fld.ne F_s_RECIP_RANK_ordinal F_s_NUM_Q_ordinal (by simp)) (Fld.ne F_s_P_5_ordinal F_s_NUM_Q_ordinal (by simp)) (Fld.ne F_s_NDCG_CUT_5_ordinal F_s_NUM_Q_ordinal (by simp)) (Fld.ne F_s_NUM_REL_ordinal F_s_NUM_Q_ordinal (by simp)) (Fld.ne F_s_NDCG_CUT_20_ordinal F_s_NUM_Q_ordinal (by simp)) (Fld.ne F_s_NUM_RET_ordinal F_s_NUM_Q_ordinal (by simp)) (Fld.ne F_s_P_10_ordinal F_s_NUM_Q_ordinal (by simp)) (Fld.ne F_s_NDCG_CUT_10_ordinal F_s_NUM_Q_ordinal (by simp)) (Fld.ne F_s_RECALL_1000_ordinal F_s_NUM_Q_ordinal (by simp)) (Fld.ne F_s_MAP_ordinal F_s_NUM_Q_ordinal (by simp)) p e ha hc hk s m _ below hf ((Spec.applies_iff_loose hf).mp happ).1 ⟨rfl, State.Warmed39.refl s, rfl⟩ trivial
  refine ⟨n, _, h1, h2, h3, hpost _ _ _ _ _ _ ⟨Cond.after_iff.mpr rfl, Cond.after_iff.mpr (eq_i res_at (Term.int_eval (1)) rfl), trivial⟩ ⟨hq.1, hq.2.1, (hq.2.2.sift fun y hy => Or.inr (N y hy)).mono (by decide) (by decide)⟩⟩
theorem main_1_1 : Claimed_1_1 := comes_1 fun _ _ _ _ _ _ h hF => ⟨h.1, hF⟩
theorem main_1_2 : Claimed_1_2 := comes_1 fun _ _ _ _ _ _ h hF => ⟨h.2.1, hF⟩
end Jvm.Pilot.@@N@@
namespace Jvm.Pilot.@@N@@
open Jvm Jvm.ClassFile Sem Op Lib Jvm.Free Jvm.Stand Jvm.Pilot.@@N@@.Jvm.D
/-! MADE BY PROGRAM (witnessworld.py) out of the Statement's table words and the real class files: 12 classes; the members and pool entries that the words name. The judged class is class 1, her method 2. -/
namespace start1
open Jvm.ClassFile
def u (s : String) : CpInfo := .utf8 (stringToUtf16 s)
/-- a pool by its gaps: so many unusable entries, then the entry; so many at the end -/
def gap : Nat → List CpInfo → List CpInfo
  | 0, r => r
  | n + 1, r => .unusable :: gap n r
def poolList (es : List (Nat × CpInfo)) (last : Nat) : List CpInfo := es.foldr (fun e r => gap e.1 (e.2 :: r)) (gap last [])
def pool (es : List (Nat × CpInfo)) (last : Nat) : Array CpInfo := ⟨poolList es last⟩
def fileOf (pool : Array CpInfo) (this : Nat) (attrs : Array Attribute := #[]) (ms : Array MethodInfo := #[]) (fl : Nat := 33) (sup : Nat := 0) (ifs : Array Nat := #[]) (fds : Array FieldInfo := #[]) : ClassFile where
  minorVersion := 0
  majorVersion := 65
  constantPool := pool
  accessFlags := fl
  thisClass := this
  superClass := sup
  interfaces := ifs
  fields := fds
  methods := ms
  attributes := attrs
def plain (name : String) (sup : Option ClassId) : Class where
  name := name
  kind := .ordinary
  loader := none
  accessFlags := 33
  super := sup
  interfaces := #[]
  cf := none
  fields := #[]
  methods := #[]
  instanceTypes := #[]
  staticTypes := #[]
  resolved := #[]
  callSites := []
  init := .initialized
  statics := none
  mirror := none

def pool0 : Array CpInfo := pool [(5, u "<init>"), (0, u "()V"), (1, .class_ 10), (1, u "java/lang/Object")] 113

def k0m0 : Method := { name := "<init>", desc := "()V", sig := { parameters := [], returnType := none }, accessFlags := 1, code := none }
/-- java/lang/Object -/
def k0 : Class := { plain "java/lang/Object" none with
  accessFlags := 33
  interfaces := #[]
  cf := some (fileOf pool0 8 #[] #[{ accessFlags := 1, nameIndex := 5, descriptorIndex := 6, attributes := #[] }] 33 0 #[] #[])
  fields := #[]
  methods := #[k0m0]
  instanceTypes := #[]
  staticTypes := #[]
  resolved := Array.replicate 124 none
  statics := none }

def pool1 : Array CpInfo := pool [(2, .class_ 4), (1, u "java/lang/Object"), (0, u "<init>"), (0, u "()V"), (0, .fieldref 8 9), (0, .class_ 10), (0, .nameAndType 11 12), (0, u "com/example/fouille/fouille/eval/Measure"), (0, u "NUM_Q"), (0, u "Lcom/example/fouille/fouille/eval/Measure;"), (0, .fieldref 8 14), (0, .nameAndType 15 12), (0, u "NUM_RET"), (0, .fieldref 8 17), (0, .nameAndType 18 12), (0, u "NUM_REL"), (0, .fieldref 8 20), (0, .nameAndType 21 12), (0, u "NUM_REL_RET"), (0, .fieldref 8 23), (0, .nameAndType 24 12), (0, u "MAP"), (0, .fieldref 8 26), (0, .nameAndType 27 12), (0, u "RECIP_RANK"), (0, .fieldref 8 29), (0, .nameAndType 30 12), (0, u "P_1"), (0, .fieldref 8 32), (0, .nameAndType 33 12), (0, u "P_5"), (0, .fieldref 8 35), (0, .nameAndType 36 12), (0, u "P_10"), (0, .fieldref 8 38), (0, .nameAndType 39 12), (0, u "NDCG_CUT_5"), (0, .fieldref 8 41), (0, .nameAndType 42 12), (0, u "NDCG_CUT_10"), (0, .fieldref 8 44), (0, .nameAndType 45 12), (0, u "NDCG_CUT_20"), (0, .fieldref 8 47), (0, .nameAndType 48 12), (0, u "RECALL_1000"), (0, .integer 2147483647), (0, .methodref 51 52), (0, .class_ 53), (0, .nameAndType 54 55), (0, u "com/example/fouille/fouille/eval/MeasureIsPerQueryPinLaw"), (0, u "pick"), (0, u "(I)Lcom/example/fouille/fouille/eval/Measure;"), (0, .methodref 8 57), (0, .nameAndType 58 59), (0, u "isPerQuery"), (0, u "()Z"), (3, u "law"), (0, u "(I)Z")] 2

def k1m0 : Method := { name := "<init>", desc := "()V", sig := { parameters := [], returnType := none }, accessFlags := 1, code := none }
def k1c1 : Code := { maxStack := 2, maxLocals := 1, code := method_2_code, exceptionTable := #[], attributes := #[] }
def k1m1 : Method := { name := "pick", desc := "(I)Lcom/example/fouille/fouille/eval/Measure;", sig := { parameters := [.int], returnType := some (.object "com/example/fouille/fouille/eval/Measure") }, accessFlags := 10, code := some k1c1 }
def k1c2 : Code := { maxStack := 2, maxLocals := 4, code := code, exceptionTable := #[], attributes := #[] }
def k1m2 : Method := { name := "law", desc := "(I)Z", sig := { parameters := [.int], returnType := some .boolean }, accessFlags := 9, code := some k1c2 }
/-- com/example/fouille/fouille/eval/MeasureIsPerQueryPinLaw -/
def k1 : Class := { plain "com/example/fouille/fouille/eval/MeasureIsPerQueryPinLaw" (some 0) with
  accessFlags := 49
  interfaces := #[]
  cf := some (fileOf pool1 51 #[] #[{ accessFlags := 1, nameIndex := 5, descriptorIndex := 6, attributes := #[] }, { accessFlags := 10, nameIndex := 54, descriptorIndex := 55, attributes := #[] }, { accessFlags := 9, nameIndex := 63, descriptorIndex := 64, attributes := #[] }] 49 2 #[] #[])
  fields := #[]
  methods := #[k1m0, k1m1, k1m2]
  instanceTypes := #[]
  staticTypes := #[]
  resolved := Array.replicate 67 none
  statics := none }

def pool2 : Array CpInfo := pool [(1, .class_ 2), (0, u "java/lang/constant/Constable"), (0, .class_ 4), (0, u "java/lang/Object")] 6

/-- java/lang/constant/Constable -/
def k2 : Class := { plain "java/lang/constant/Constable" (some 0) with
  accessFlags := 1537
  interfaces := #[]
  cf := some (fileOf pool2 1 #[] #[] 1537 3 #[] #[])
  fields := #[]
  methods := #[]
  instanceTypes := #[]
  staticTypes := #[]
  resolved := Array.replicate 11 none
  statics := none }

def pool3 : Array CpInfo := pool [(1, .class_ 2), (0, u "java/lang/Comparable"), (0, .class_ 4), (0, u "java/lang/Object")] 7

/-- java/lang/Comparable -/
def k3 : Class := { plain "java/lang/Comparable" (some 0) with
  accessFlags := 1537
  interfaces := #[]
  cf := some (fileOf pool3 1 #[] #[] 1537 3 #[] #[])
  fields := #[]
  methods := #[]
  instanceTypes := #[]
  staticTypes := #[]
  resolved := Array.replicate 12 none
  statics := none }

def pool4 : Array CpInfo := pool [(1, .class_ 2), (0, u "java/io/Serializable"), (0, .class_ 4), (0, u "java/lang/Object")] 2

/-- java/io/Serializable -/
def k4 : Class := { plain "java/io/Serializable" (some 0) with
  accessFlags := 1537
  interfaces := #[]
  cf := some (fileOf pool4 1 #[] #[] 1537 3 #[] #[])
  fields := #[]
  methods := #[]
  instanceTypes := #[]
  staticTypes := #[]
  resolved := Array.replicate 7 none
  statics := none }

def pool5 : Array CpInfo := pool [(2, .class_ 4), (1, u "java/lang/Enum"), (0, u "name"), (0, u "Ljava/lang/String;"), (2, u "ordinal"), (0, u "I"), (1, .class_ 14), (1, u "java/lang/Object"), (4, u "hash"), (86, .class_ 108), (1, u "java/lang/Enum$EnumDesc"), (2, .class_ 112), (0, u "java/lang/constant/Constable"), (0, .class_ 114), (0, u "java/lang/Comparable"), (0, .class_ 116), (0, u "java/io/Serializable")] 87

/-- java/lang/Enum -/
def k5 : Class := { plain "java/lang/Enum" (some 0) with
  accessFlags := 1057
  interfaces := #[2, 3, 4]
  cf := some (fileOf pool5 2 #[.nestMembers #[106]] #[] 1057 12 #[111, 113, 115] #[{ accessFlags := 18, nameIndex := 5, descriptorIndex := 6, attributes := #[] }, { accessFlags := 18, nameIndex := 9, descriptorIndex := 10, attributes := #[] }, { accessFlags := 2, nameIndex := 19, descriptorIndex := 10, attributes := #[] }])
  fields := #[{ name := "name", type := (.object "java/lang/String"), accessFlags := 18, slot := 0, constantValue := 0 }, { name := "ordinal", type := .int, accessFlags := 18, slot := 1, constantValue := 0 }, { name := "hash", type := .int, accessFlags := 2, slot := 2, constantValue := 0 }]
  methods := #[]
  instanceTypes := #[(.object "java/lang/String"), .int, .int]
  staticTypes := #[]
  resolved := Array.replicate 204 none
  statics := none }

def pool6 : Array CpInfo := pool [(1, .class_ 2), (0, u "com/example/fouille/fouille/eval/Measure"), (0, .fieldref 1 4), (0, .nameAndType 5 6), (0, u "NUM_Q"), (0, u "Lcom/example/fouille/fouille/eval/Measure;"), (2, u "NUM_RET"), (2, u "NUM_REL"), (2, u "NUM_REL_RET"), (2, u "MAP"), (2, u "RECIP_RANK"), (2, u "P_1"), (2, u "P_5"), (2, u "P_10"), (2, u "NDCG_CUT_5"), (2, u "NDCG_CUT_10"), (2, u "NDCG_CUT_20"), (2, u "RECALL_1000"), (2, u "$VALUES"), (0, u "[Lcom/example/fouille/fouille/eval/Measure;"), (6, .class_ 55), (1, u "java/lang/Enum"), (8, u "label"), (0, u "Ljava/lang/String;"), (2, u "count"), (0, u "Z"), (2, u "value"), (0, u "Ljava/util/function/ToDoubleFunction;"), (104, u "DECIMALS"), (0, u "I"), (11, u "()Z"), (0, u "isPerQuery")] 82

def k6c0 : Code := { maxStack := 2, maxLocals := 1, code := prog_16_method_6_code, exceptionTable := #[], attributes := #[] }
def k6m0 : Method := { name := "isPerQuery", desc := "()Z", sig := { parameters := [], returnType := some .boolean }, accessFlags := 1, code := some k6c0 }
/-- com/example/fouille/fouille/eval/Measure -/
def k6 : Class := { plain "com/example/fouille/fouille/eval/Measure" (some 5) with
  accessFlags := 16433
  interfaces := #[]
  cf := some (fileOf pool6 1 #[] #[{ accessFlags := 1, nameIndex := 192, descriptorIndex := 191, attributes := #[] }] 16433 53 #[] #[{ accessFlags := 16409, nameIndex := 5, descriptorIndex := 6, attributes := #[] }, { accessFlags := 16409, nameIndex := 9, descriptorIndex := 6, attributes := #[] }, { accessFlags := 16409, nameIndex := 12, descriptorIndex := 6, attributes := #[] }, { accessFlags := 16409, nameIndex := 15, descriptorIndex := 6, attributes := #[] }, { accessFlags := 16409, nameIndex := 18, descriptorIndex := 6, attributes := #[] }, { accessFlags := 16409, nameIndex := 21, descriptorIndex := 6, attributes := #[] }, { accessFlags := 16409, nameIndex := 24, descriptorIndex := 6, attributes := #[] }, { accessFlags := 16409, nameIndex := 27, descriptorIndex := 6, attributes := #[] }, { accessFlags := 16409, nameIndex := 30, descriptorIndex := 6, attributes := #[] }, { accessFlags := 16409, nameIndex := 33, descriptorIndex := 6, attributes := #[] }, { accessFlags := 16409, nameIndex := 36, descriptorIndex := 6, attributes := #[] }, { accessFlags := 16409, nameIndex := 39, descriptorIndex := 6, attributes := #[] }, { accessFlags := 16409, nameIndex := 42, descriptorIndex := 6, attributes := #[] }, { accessFlags := 26, nameIndex := 178, descriptorIndex := 179, attributes := #[] }, { accessFlags := 18, nameIndex := 64, descriptorIndex := 65, attributes := #[] }, { accessFlags := 18, nameIndex := 68, descriptorIndex := 69, attributes := #[] }, { accessFlags := 18, nameIndex := 72, descriptorIndex := 73, attributes := #[] }, { accessFlags := 4122, nameIndex := 45, descriptorIndex := 46, attributes := #[] }])
  fields := #[{ name := "NUM_Q", type := (.object "com/example/fouille/fouille/eval/Measure"), accessFlags := 16409, slot := 0, constantValue := 0 }, { name := "NUM_RET", type := (.object "com/example/fouille/fouille/eval/Measure"), accessFlags := 16409, slot := 1, constantValue := 0 }, { name := "NUM_REL", type := (.object "com/example/fouille/fouille/eval/Measure"), accessFlags := 16409, slot := 2, constantValue := 0 }, { name := "NUM_REL_RET", type := (.object "com/example/fouille/fouille/eval/Measure"), accessFlags := 16409, slot := 3, constantValue := 0 }, { name := "MAP", type := (.object "com/example/fouille/fouille/eval/Measure"), accessFlags := 16409, slot := 4, constantValue := 0 }, { name := "RECIP_RANK", type := (.object "com/example/fouille/fouille/eval/Measure"), accessFlags := 16409, slot := 5, constantValue := 0 }, { name := "P_1", type := (.object "com/example/fouille/fouille/eval/Measure"), accessFlags := 16409, slot := 6, constantValue := 0 }, { name := "P_5", type := (.object "com/example/fouille/fouille/eval/Measure"), accessFlags := 16409, slot := 7, constantValue := 0 }, { name := "P_10", type := (.object "com/example/fouille/fouille/eval/Measure"), accessFlags := 16409, slot := 8, constantValue := 0 }, { name := "NDCG_CUT_5", type := (.object "com/example/fouille/fouille/eval/Measure"), accessFlags := 16409, slot := 9, constantValue := 0 }, { name := "NDCG_CUT_10", type := (.object "com/example/fouille/fouille/eval/Measure"), accessFlags := 16409, slot := 10, constantValue := 0 }, { name := "NDCG_CUT_20", type := (.object "com/example/fouille/fouille/eval/Measure"), accessFlags := 16409, slot := 11, constantValue := 0 }, { name := "RECALL_1000", type := (.object "com/example/fouille/fouille/eval/Measure"), accessFlags := 16409, slot := 12, constantValue := 0 }, { name := "DECIMALS", type := .int, accessFlags := 26, slot := 13, constantValue := 0 }, { name := "label", type := (.object "java/lang/String"), accessFlags := 18, slot := 3, constantValue := 0 }, { name := "count", type := .boolean, accessFlags := 18, slot := 4, constantValue := 0 }, { name := "value", type := (.object "java/util/function/ToDoubleFunction"), accessFlags := 18, slot := 5, constantValue := 0 }, { name := "$VALUES", type := (.array (.object "com/example/fouille/fouille/eval/Measure")), accessFlags := 4122, slot := 14, constantValue := 0 }]
  methods := #[k6m0]
  instanceTypes := #[(.object "java/lang/String"), .int, .int, (.object "java/lang/String"), .boolean, (.object "java/util/function/ToDoubleFunction")]
  staticTypes := #[(.object "com/example/fouille/fouille/eval/Measure"), (.object "com/example/fouille/fouille/eval/Measure"), (.object "com/example/fouille/fouille/eval/Measure"), (.object "com/example/fouille/fouille/eval/Measure"), (.object "com/example/fouille/fouille/eval/Measure"), (.object "com/example/fouille/fouille/eval/Measure"), (.object "com/example/fouille/fouille/eval/Measure"), (.object "com/example/fouille/fouille/eval/Measure"), (.object "com/example/fouille/fouille/eval/Measure"), (.object "com/example/fouille/fouille/eval/Measure"), (.object "com/example/fouille/fouille/eval/Measure"), (.object "com/example/fouille/fouille/eval/Measure"), (.object "com/example/fouille/fouille/eval/Measure"), .int, (.array (.object "com/example/fouille/fouille/eval/Measure"))]
  resolved := Array.replicate 275 none
  statics := some 0 }

def pool7 : Array CpInfo := pool [(1, u "java/lang/Cloneable"), (0, .class_ 1), (0, u "java/lang/Object"), (0, .class_ 3)] 3

/-- java/lang/Cloneable -/
def k7 : Class := { plain "java/lang/Cloneable" (some 0) with
  accessFlags := 1537
  interfaces := #[]
  cf := some (fileOf pool7 2 #[] #[] 1537 4 #[] #[])
  fields := #[]
  methods := #[]
  instanceTypes := #[]
  staticTypes := #[]
  resolved := Array.replicate 8 none
  statics := none }

/-- the primitive byte -/
def k8 : Class := { plain "byte" none with kind := .primitive 'B', accessFlags := 0x411 }
/-- [B -/
def k9 : Class := { plain "[B" (some 0) with kind := .array 8 .byte, interfaces := #[7, 4], accessFlags := 1041 }

/-- the primitive int -/
def k10 : Class := { plain "int" none with kind := .primitive 'I', accessFlags := 0x411 }
/-- [I -/
def k11 : Class := { plain "[I" (some 0) with kind := .array 10 .int, interfaces := #[7, 4], accessFlags := 1041 }

def heap : Heap := #[{ cls := 6, slots := #[.ref 1, .ref 2, .ref 3, .ref 4, .ref 5, .ref 6, .ref 7, .ref 8, .ref 9, .ref 10, .ref 11, .ref 12, .ref 13, .int 0, .null], vm := .statics 6 },
  { cls := 6, slots := #[.null, .int 0, .int 0, .null, .int 0, .null], vm := .none },
  { cls := 6, slots := #[.null, .int 1, .int 0, .null, .int 0, .null], vm := .none },
  { cls := 6, slots := #[.null, .int 2, .int 0, .null, .int 0, .null], vm := .none },
  { cls := 6, slots := #[.null, .int 3, .int 0, .null, .int 0, .null], vm := .none },
  { cls := 6, slots := #[.null, .int 4, .int 0, .null, .int 0, .null], vm := .none },
  { cls := 6, slots := #[.null, .int 5, .int 0, .null, .int 0, .null], vm := .none },
  { cls := 6, slots := #[.null, .int 6, .int 0, .null, .int 0, .null], vm := .none },
  { cls := 6, slots := #[.null, .int 7, .int 0, .null, .int 0, .null], vm := .none },
  { cls := 6, slots := #[.null, .int 8, .int 0, .null, .int 0, .null], vm := .none },
  { cls := 6, slots := #[.null, .int 9, .int 0, .null, .int 0, .null], vm := .none },
  { cls := 6, slots := #[.null, .int 10, .int 0, .null, .int 0, .null], vm := .none },
  { cls := 6, slots := #[.null, .int 11, .int 0, .null, .int 0, .null], vm := .none },
  { cls := 6, slots := #[.null, .int 12, .int 0, .null, .int 0, .null], vm := .none }]
def classes : Array Class := #[k0, k1, k2, k3, k4, k5, k6, k7, k8, k9, k10, k11]
def interned : List (Array UInt16 × Addr) := []
def slotsUsed : Nat := 93
def theMethod : MethodId := ⟨1, 2⟩
def args0 : Array Value := #[.int 5]
def aboutOver (below : List Frame) : State where
  vm := { classes := classes, interned := interned.toArray }
  heap := heap
  slotsUsed := slotsUsed
  threads := #[{ frames := .invoking theMethod args0 :: below }]
def below0 : List Frame := [.native { method := ⟨0, 0⟩, args := #[] }]
def about1 : State := aboutOver below0
def p0 : Program := .bare "" "" ""
def e0 : Env := launch0.env 0 0 0
theorem w_frames : about1.frames = Frame.invoking theMethod args0 :: below0 := rfl
set_option maxRecDepth 65536 in
theorem w_args : argsFit about1.vm theMethod args0 = true := by decide +kernel
set_option maxRecDepth 65536 in
theorem w_heap : heapFits about1 = true := by decide +kernel
set_option maxRecDepth 65536 in
theorem w_runnable : about1.curStatus? = some .runnable := by decide +kernel
set_option maxRecDepth 65536 in
theorem w_alone : about1.alone = true := by decide +kernel
set_option maxRecDepth 65536 in
theorem w_named : about1.methodNamed? x = some theMethod := by decide +kernel
set_option maxRecDepth 65536 in
theorem w_hears : about1.hears theMethod below0 = true := by decide +kernel
set_option maxRecDepth 65536 in
theorem w_ripe : about1.ripe theMethod args0 below0 = true := by decide +kernel
theorem w_running : about1.status = .running := rfl
set_option maxRecDepth 65536 in
theorem w_room : about1.hasRoom e0.platform room_1 = true :=
  launch0.hasRoom_least _ room_1 (by decide +kernel) (by decide +kernel) (by decide +kernel) (by decide +kernel) (by decide +kernel) (by decide +kernel)
theorem allAtoms_all (ts : List Jvm.Cond) (a : Array Jvm.Value) (st : Jvm.State) : (allAtoms ts).before a st = ts.all (fun c => c.before a st) := by
  induction ts with
  | nil => rfl
  | cons c t ih =>
    show (Jvm.Cond.and c (allAtoms t)).before a st = _
    rw [Jvm.Cond.before_and, ih, List.all_cons]
def words1 : List Jvm.Cond := Jvm.Cond.code x code maxLocals ret :: tables_1
/-- a 'code' word, met by the world's own term for the bytes: nothing is compared byte by byte -/
theorem code_word {y : MethodName} {bytes : ByteArray} {mx : Nat} {rt : Option FieldType} {a : Array Value} {s : State} {m : MethodId} {meth : Method} {c : Code} (h1 : s.methodNamed? y = some m) (h2 : s.vm.method? m = some meth) (h3 : meth.code = some c) (h4 : c.code = bytes)
    (h5 : (c.maxLocals == mx && c.exceptionTable.isEmpty && decide (c.maxStack ≤ mostOperands) && decide (meth.sig.returnType = rt) && !meth.locks && decide (parseMethodDescriptor y.desc = some meth.sig)) = true) : (Jvm.Cond.code y bytes mx rt).before a s = true := by
  simp only [Bool.and_eq_true, beq_iff_eq, Bool.not_eq_true', decide_eq_true_eq] at h5
  obtain ⟨⟨⟨⟨⟨g1, g2⟩, g3⟩, g4⟩, g5⟩, g6⟩ := h5
  simp [Cond.before, Cond.holds, Cond.value, h1, h2, h3, h4, g1, g2, g3, g4, g5, g6]
def isCode : Jvm.Cond → Bool
  | .code _ _ _ _ => true
  | _ => false
theorem all_split {L : List Jvm.Cond} {P : Jvm.Cond → Bool} (h1 : L.all (fun c => isCode c || P c) = true) (h2 : ∀ c ∈ L.filter isCode, P c = true) : L.all P = true := by
  refine List.all_eq_true.mpr fun c hc => ?_
  have h := List.all_eq_true.mp h1 c hc
  rcases Bool.eq_false_or_eq_true (isCode c) with hi | hi
  · exact h2 c (List.mem_filter.mpr ⟨hc, hi⟩)
  · simpa [hi] using h
set_option maxRecDepth 65536 in
theorem w_c0 : (Jvm.Cond.code x code maxLocals ret).before args0 about1 = true := code_word (m := ⟨1, 2⟩) (meth := k1m2) (c := k1c2) (by decide +kernel) rfl rfl rfl (by decide +kernel)
set_option maxRecDepth 65536 in
theorem w_c1 : (Jvm.Cond.code ({ cls := "com/example/fouille/fouille/eval/MeasureIsPerQueryPinLaw", name := "pick", desc := "(I)Lcom/example/fouille/fouille/eval/Measure;" } : Jvm.MethodName) method_2_code (1 : Nat) (Option.some (Jvm.ClassFile.FieldType.object "com/example/fouille/fouille/eval/Measure"))).before args0 about1 = true := code_word (m := ⟨1, 1⟩) (meth := k1m1) (c := k1c1) (by decide +kernel) rfl rfl rfl (by decide +kernel)
set_option maxRecDepth 65536 in
theorem w_c2 : (Jvm.Cond.code ({ cls := "com/example/fouille/fouille/eval/Measure", name := "isPerQuery", desc := "()Z" } : Jvm.MethodName) prog_16_method_6_code (1 : Nat) (Option.some Jvm.ClassFile.FieldType.boolean)).before args0 about1 = true := code_word (m := ⟨6, 0⟩) (meth := k6m0) (c := k6c0) (by decide +kernel) rfl rfl rfl (by decide +kernel)
def codes1 : List Jvm.Cond := [Jvm.Cond.code x code maxLocals ret, Jvm.Cond.code ({ cls := "com/example/fouille/fouille/eval/MeasureIsPerQueryPinLaw", name := "pick", desc := "(I)Lcom/example/fouille/fouille/eval/Measure;" } : Jvm.MethodName) method_2_code (1 : Nat) (Option.some (Jvm.ClassFile.FieldType.object "com/example/fouille/fouille/eval/Measure")), Jvm.Cond.code ({ cls := "com/example/fouille/fouille/eval/Measure", name := "isPerQuery", desc := "()Z" } : Jvm.MethodName) prog_16_method_6_code (1 : Nat) (Option.some Jvm.ClassFile.FieldType.boolean)]
set_option maxRecDepth 65536 in
theorem codes_eq : words1.filter isCode = codes1 := rfl
theorem w_codes : ∀ c ∈ words1.filter isCode, c.before args0 about1 = true := by
  rw [codes_eq]
  intro c hc
  simp only [codes1, List.mem_cons, List.not_mem_nil, or_false] at hc
  rcases hc with rfl | rfl | rfl
  · exact w_c0
  · exact w_c1
  · exact w_c2
set_option maxRecDepth 65536 in
theorem w_t1 : (words1.take 24).all (fun c => isCode c || c.before args0 about1) = true := by decide +kernel
set_option maxRecDepth 65536 in
theorem w_t2 : (words1.drop 24).all (fun c => isCode c || c.before args0 about1) = true := by decide +kernel
theorem w_tables : (allAtoms (Jvm.Cond.code x code maxLocals ret :: tables_1)).before args0 about1 = true := by
  rw [allAtoms_all]
  show words1.all (fun c => c.before args0 about1) = true
  refine all_split ?_ w_codes
  rw [← List.take_append_drop 24 words1, List.all_append, w_t1, w_t2]
  rfl
set_option maxRecDepth 65536 in
theorem w_case : (Jvm.Cond.and given_1 narrow_1).before args0 about1 = true := by decide +kernel
theorem w_applies : (headSpec (Jvm.Cond.code x code maxLocals ret :: tables_1) room_1).applies x e0.platform about1 = true :=
  (Spec.applies_iff w_frames).mpr ⟨w_running, w_runnable, w_alone, w_named, w_hears, w_ripe, w_room, w_tables⟩
theorem atStart : AtStart classFile x code maxLocals ret World_1 tables_1 room_1 Calls_1 rest_1 Pre_1 launch0 p0 e0 about1 theMethod args0 below0 :=
  ⟨lists_1, trivial, launch0.admits_env _ _ _, launch0.least_env, fairChoices_fair.cas, fairChoices_fair.clock, w_frames, w_args, w_heap, w_applies, trivial, trivial, w_case⟩
end start1
theorem witness_1 : WitnessClaimed_1 := ⟨start1.p0, start1.e0, start1.about1, start1.theMethod, start1.args0, start1.below0, start1.atStart⟩
end Jvm.Pilot.@@N@@
