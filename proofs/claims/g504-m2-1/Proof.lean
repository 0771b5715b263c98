import JvmDerived
import JvmDerived.Pilot.@@N@@Statement
import JvmDerived.Pilot.@@N@@Code
set_option linter.unusedVariables false
set_option linter.unusedSimpArgs false
namespace Jvm.Pilot.@@N@@
open Jvm Jvm.ClassFile Sem Op Lib Jvm.Free Jvm.Stand Jvm.LawKit Jvm.RoadKit Bundle Jvm.Pilot.@@N@@.Jvm.D
section OwnKit
variable {p : Program} {l : Launch} {e : Env} {R : Room} {s : State} {m : MethodId} {args : Array Value} {below : List Frame} {meth : Method} {c : Code} {T : State} {locs : List Loc} {cells slots : Nat}
/-- from T the run comes to an end of which F holds -/
def own_Go (p : Program) (e : Env) (below : List Frame) (F : State → Outcome → Prop) (T : State) : Prop := ∃ t o, Steps p.tables e below T t ∧ t.status = .running ∧ Ended t below o ∧ F t o
theorem own_step {F : State → Outcome → Prop} {A B : State} (k : ∀ t, Steps p.tables e below A t → Steps p.tables e below B t) (h : own_Go p e below F A) : own_Go p e below F B := by
  obtain ⟨t, o, h1, h2⟩ := h
  exact ⟨t, o, k t h1, h2⟩
theorem own_in {F : State → Outcome → Prop} {A B : State} (k : ∀ {t}, Steps p.tables e below A t → Steps p.tables e below B t) (h : own_Go p e below F A) : ∃ t o, Steps p.tables e below B t ∧ t.status = .running ∧ Ended t below o ∧ F t o := by
  obtain ⟨t, o, h1, h2⟩ := h
  exact ⟨t, o, k h1, h2⟩
theorem own_retI (X : Stand p l e R s m args below meth c T locs cells slots) (hx : p.tables.exec = Jvm.exec) {pc : Nat} {Ls : Array Slot} {z : Int32} {rest : List Value} (hret : meth.sig.returnType = some .int) (hd : decode c.code pc = .ok (.ireturn, 1)) {fs : List Frame}
    (hl : ∀ (f : JFrame) (acts : List Action), f.method = m → f.locked = none → f.entered = [] → (doReturn e (T.setTop f) acts (some (.int z))).1 = T.setFrames fs) : Steps p.tables e below (T.setTop (mkF m pc Ls (.int z :: rest))) (T.setFrames fs) :=
  retOut X hx hret rfl (Or.inl ⟨rfl, Or.inl rfl, _, rfl⟩) hd hl
theorem own_join {α : Type} {F : State → Outcome → Prop} {B : State} {H : Heap} (X : Stand p l e R s m args below meth c T locs cells slots) (eT : T.heap = H) (A : State → α → State) (Pr : α → Prop)
    (h1 : ∀ T' a, Stand p l e R s m args below meth c T' locs cells slots → T'.heap = H → Pr a → own_Go p e below F (A T' a))
    (h2 : (∀ T' a, Stand p l e R s m args below meth c T' locs cells slots → T'.heap = H → Pr a → own_Go p e below F (A T' a)) → own_Go p e below F B) : own_Go p e below F B := h2 h1
theorem own_sta {args : Array Value} {s : State} {C n d K : String} (h : (Jvm.Cond.exactly (.static C n d) K).value args s none s [] = some true) (w1 : (Jvm.Cond.initialized C).before args s = true) (w2 : (Jvm.Cond.laysStatic C n d).before args s = true) :
    ∃ a, (Term.static C n d).eval args s none [] s = some (.ref a) ∧ Sta s s.heap C n d (.ref a) ∧ Exa s s.heap a K := by
  obtain ⟨a, ea⟩ := exa_v h
  exact ⟨a, ea, Sta.start ea (Or.inr ⟨w1, w2⟩), Exa.start ea h⟩
theorem own_staF {args : Array Value} {s : State} {t : Term} {C n d : String} {a : Addr} {k : Int32} (ea : t.eval args s none [] s = some (.ref a)) (h : (Jvm.Cond.eq (.field t C n d) (.int k)).value args s none s [] = some true) : Fld s s.heap a C n d (.int k) := by
  obtain ⟨x, y, e1, e2, -, -⟩ := cmp_v (Or.inl h)
  cases (Term.int_eval k).symm.trans e2
  have e3 : x = .int k := by
    cases x <;> simp [Cond.value, e1, Term.int_eval] at h
    rw [h]
  rw [fld_at ea, e3] at e1
  exact Fld.start e1
end OwnKit
theorem pn_0 : plainName "com/example/credit_clerk/creditclerk/service/Payment$Status" = true := by first | (simp [plainName, overriddenIn]; done) | decide +kernel
theorem pn_1 : plainName "com/example/credit_clerk/creditclerk/service/StatusPreparedPinLaw" = true := by first | (simp [plainName, overriddenIn]; done) | decide +kernel
theorem pd_0 : parseMethodDescriptor "()Z" = some ⟨[], some .boolean⟩ := by decide +kernel
theorem d1_0 : decode prog_45_method_4_code 0 = .ok (.aload_n 0, 1) := by decide +kernel
theorem d1_1 : decode prog_45_method_4_code 1 = .ok (.getstatic 3, 3) := by decide +kernel
theorem d1_4 : decode prog_45_method_4_code 4 = .ok (.if_acmp .eq 7, 3) := by decide +kernel
theorem d1_7 : decode prog_45_method_4_code 7 = .ok (.iconst 1, 1) := by decide +kernel
theorem d1_8 : decode prog_45_method_4_code 8 = .ok (.goto 4, 3) := by decide +kernel
theorem d1_11 : decode prog_45_method_4_code 11 = .ok (.iconst 0, 1) := by decide +kernel
theorem d1_12 : decode prog_45_method_4_code 12 = .ok (.ireturn, 1) := by decide +kernel
theorem ef_1 (m : MethodId) (a : Addr) : entryFrame m #[(.ref a)] 1 = mkF m 0 #[.val (.ref a)] [] := by first | (simp [entryFrame, mkF, argsToLocals, Value.category]; done) | rfl
def Q1 (Z : State) (a : Addr) (w : Addr) (h0 : Heap) (n0 : Nat) (v : Option Value) (h : Heap) (L : List Loc) : Prop := v = some (.int (if a = w then (0 : Int32) else (1 : Int32))) ∧ Fr n0 L ∧ h = h0
set_option maxRecDepth 65536 in
set_option maxHeartbeats 40000000 in
theorem rm1 (l : Launch) (Z : State) (a0 : Array Value) (hw : ∀ d ∈ tables_1, d.before a0 Z = true) (ws : List Jvm.Cond) (a : Addr) (w : Addr) (h0 : Heap) (n0 : Nat) (Z0 : n0 ≤ h0.size) (P0 : Old Z n0 h0) (P1 : Sta Z Z.heap "com/example/credit_clerk/creditclerk/service/Payment$Status" "PAID" "Lcom/example/credit_clerk/creditclerk/service/Payment$Status;" (.ref w)) :
    MetFree l (⟨"com/example/credit_clerk/creditclerk/service/Payment$Status", "prepared", "()Z"⟩ : MethodName) (head1 (Jvm.Cond.code (⟨"com/example/credit_clerk/creditclerk/service/Payment$Status", "prepared", "()Z"⟩ : MethodName) prog_45_method_4_code 1 (some .boolean) :: ws) ({ frames := 0, cells := 0, slots := 0, locals := 0 } : Room)) (fun ar_ U => ar_ = #[(.ref a)] ∧ Z.Warmed39 U.vm ∧ U.heap = h0) (fun _ _ _ _ _ => True) (fun _ U oo_ U' => ∃ v L, oo_ = .returned v ∧ Q1 Z a w h0 n0 v U'.heap L ∧ FrameEnd U oo_ U' L ({ frames := 0, cells := 0, slots := 0, locals := 0 } : Room).cells ({ frames := 0, cells := 0, slots := 0, locals := 0 } : Room).slots) := by
  refine MetFree.of_bodySF (plainFor_of_name pn_0) hisR ?_
  intro p e s m args below meth c s₁ Bd hml0 hP hK
  obtain ⟨rfl, hZ, hh⟩ := hP
  have hx := Bd.exec
  have hby := Bd.bytes
  have hml : c.maxLocals = 1 := hml0
  have hown : s.vm.findClass "com/example/credit_clerk/creditclerk/service/Payment$Status" = some m.cls := findClass_of_methodNamed Bd.named
  have hnm := (name_of_methodNamed Bd.named Bd.method).1
  have X0 : Stand p l e ({ frames := 0, cells := 0, slots := 0, locals := 0 } : Room) s m #[(.ref a)] below meth c s₁ [] 0 0 := Stand.of_body Bd
  have e0 : s₁.heap = h0 := by rw [← hh, Bd.state]; rfl
  have N0 := Fr.nil n0
  refine own_in (castTop (ef_1 m a)) ?_
  show own_Go _ _ _ _ (s₁.setTop (mkF m 0 #[.val (.ref a)] []))
  refine own_step (fun _ κ => XS.aloadN X0.here hx rfl (hb hby d1_0) rfl rfl κ) ?_
  show own_Go _ _ _ _ (s₁.setTop (mkF m 1 #[.val (.ref a)] [(.ref a)]))
  obtain ⟨T1, X1, e1, st1⟩ := getS2 X0 hx hZ hown (host := "") (Or.inl (hw _ (List.mem_of_getElem? (i := 8) rfl))) Via.refl e0 (P1.ext P0.2) (g := (mkF m 1 #[.val (.ref a)] [(.ref a)])) rfl (hb hby d1_1)
  refine own_step st1 ?_
  show own_Go _ _ _ _ (T1.setTop (mkF m 4 #[.val (.ref a)] [(.ref w), (.ref a)]))
  by_cases hc2 : a = w
  · refine own_step (fun _ κ => Jvm.RoadKit.acmp (g := (mkF m 4 #[.val (.ref a)] [(.ref w), (.ref a)])) X1 hx rfl rfl rfl (pc0 := 4) (pc' := 11) (same := true) rfl (hb hby d1_4) rfl (decide_eq_true (congrArg Value.ref hc2)) (by decide) (by decide) κ) ?_
    show own_Go _ _ _ _ (T1.setTop (mkF m 11 #[.val (.ref a)] []))
    refine own_step (fun _ κ => XS.iconst X1.here hx rfl (hb hby d1_11) κ) ?_
    show own_Go _ _ _ _ (T1.setTop (mkF m 12 #[.val (.ref a)] [(.int (0 : Int32))]))
    obtain ⟨fs, hr, hrun, hended, hW, hsame⟩ := X1.leave (v := some (.int (0 : Int32))) (fun h => by rw [Bd.returns] at h; cases h)
    refine ⟨_, _, retN X1 hx (t := .boolean) Bd.returns (by simp) (hb hby d1_12) hr, hrun, hended, _, _, rfl, ?_, ⟨_, rfl⟩, hW, hsame.mono (by decide) (by decide)⟩
    show Q1 Z a w h0 n0 _ T1.heap _
    rw [e1]
    exact ⟨(by rw [if_pos hc2]), N0, rfl⟩
  · refine own_step (fun _ κ => Jvm.RoadKit.acmp (g := (mkF m 4 #[.val (.ref a)] [(.ref w), (.ref a)])) X1 hx rfl rfl rfl (pc0 := 4) (pc' := 7) (same := false) rfl (hb hby d1_4) rfl (decide_eq_false fun q => hc2 (Value.ref.inj q)) (by decide) (by decide) κ) ?_
    show own_Go _ _ _ _ (T1.setTop (mkF m 7 #[.val (.ref a)] []))
    refine own_step (fun _ κ => XS.iconst X1.here hx rfl (hb hby d1_7) κ) ?_
    show own_Go _ _ _ _ (T1.setTop (mkF m 8 #[.val (.ref a)] [(.int (1 : Int32))]))
    refine own_step (fun _ κ => XS.goto X1.here hx rfl (pc0 := 8) (pc' := 12) rfl (hb hby d1_8) (by decide) (by decide) κ) ?_
    show own_Go _ _ _ _ (T1.setTop (mkF m 12 #[.val (.ref a)] [(.int (1 : Int32))]))
    obtain ⟨fs, hr, hrun, hended, hW, hsame⟩ := X1.leave (v := some (.int (1 : Int32))) (fun h => by rw [Bd.returns] at h; cases h)
    refine ⟨_, _, retN X1 hx (t := .boolean) Bd.returns (by simp) (hb hby d1_12) hr, hrun, hended, _, _, rfl, ?_, ⟨_, rfl⟩, hW, hsame.mono (by decide) (by decide)⟩
    show Q1 Z a w h0 n0 _ T1.heap _
    rw [e1]
    exact ⟨(by rw [if_neg hc2]), N0, rfl⟩
theorem ef_0 (m : MethodId) (k : Int32) : entryFrame m #[(.int k)] maxLocals = mkF m 0 #[.val (.int k), .unset, .unset, .unset] [] := by first | (simp [entryFrame, mkF, argsToLocals, Value.category, maxLocals]; done) | rfl
def Q0 (Z : State) (k : Int32) (s_PAID : Addr) (s_CANCELLED : Addr) (s_CONFIRMED : Addr) (s_RESERVED : Addr) (h0 : Heap) (n0 : Nat) (v : Option Value) (h : Heap) (L : List Loc) : Prop := v = some (.int (1 : Int32)) ∧ Fr n0 L
set_option maxRecDepth 65536 in
set_option maxHeartbeats 40000000 in
theorem rm0 (l : Launch) (Z : State) (a0 : Array Value) (hw : ∀ d ∈ tables_1, d.before a0 Z = true) (ws : List Jvm.Cond) (k : Int32) (s_PAID : Addr) (s_CANCELLED : Addr) (s_CONFIRMED : Addr) (s_RESERVED : Addr) (h0 : Heap) (n0 : Nat) (Z0 : n0 ≤ h0.size) (P0 : Old Z n0 h0) (P1 : Sta Z Z.heap "com/example/credit_clerk/creditclerk/service/Payment$Status" "PAID" "Lcom/example/credit_clerk/creditclerk/service/Payment$Status;" (.ref s_PAID)) (P2 : Exa Z Z.heap s_PAID "com/example/credit_clerk/creditclerk/service/Payment$Status") (P3 : Sta Z Z.heap "com/example/credit_clerk/creditclerk/service/Payment$Status" "CANCELLED" "Lcom/example/credit_clerk/creditclerk/service/Payment$Status;" (.ref s_CANCELLED)) (P4 : Exa Z Z.heap s_CANCELLED "com/example/credit_clerk/creditclerk/service/Payment$Status") (P5 : Sta Z Z.heap "com/example/credit_clerk/creditclerk/service/Payment$Status" "CONFIRMED" "Lcom/example/credit_clerk/creditclerk/service/Payment$Status;" (.ref s_CONFIRMED)) (P6 : Exa Z Z.heap s_CONFIRMED "com/example/credit_clerk/creditclerk/service/Payment$Status") (P7 : Sta Z Z.heap "com/example/credit_clerk/creditclerk/service/Payment$Status" "RESERVED" "Lcom/example/credit_clerk/creditclerk/service/Payment$Status;" (.ref s_RESERVED)) (P8 : Exa Z Z.heap s_RESERVED "com/example/credit_clerk/creditclerk/service/Payment$Status") (P9 : s_CANCELLED ≠ s_PAID) (P10 : s_CONFIRMED ≠ s_PAID) (P11 : s_RESERVED ≠ s_PAID) :
    MetFree l x (head1 (Jvm.Cond.code x code maxLocals ret :: ws) room_1) (fun ar_ U => ar_ = #[(.int k)] ∧ Z.Warmed39 U.vm ∧ U.heap = h0) (fun _ _ _ _ _ => True) (fun _ U oo_ U' => ∃ v L, oo_ = .returned v ∧ Q0 Z k s_PAID s_CANCELLED s_CONFIRMED s_RESERVED h0 n0 v U'.heap L ∧ FrameEnd U oo_ U' L room_1.cells room_1.slots) := by
  refine MetFree.of_bodySF (plainFor_of_name pn_1) hisR ?_
  intro p e s m args below meth c s₁ Bd hml0 hP hK
  obtain ⟨rfl, hZ, hh⟩ := hP
  have hx := Bd.exec
  have hby := Bd.bytes
  have hml : c.maxLocals = 4 := hml0
  have hown : s.vm.findClass "com/example/credit_clerk/creditclerk/service/StatusPreparedPinLaw" = some m.cls := findClass_of_methodNamed Bd.named
  have hnm := (name_of_methodNamed Bd.named Bd.method).1
  have X0 : Stand p l e room_1 s m #[(.int k)] below meth c s₁ [] 0 0 := Stand.of_body Bd
  have e0 : s₁.heap = h0 := by rw [← hh, Bd.state]; rfl
  have N0 := Fr.nil n0
  refine own_in (castTop (ef_0 m k)) ?_
  show own_Go _ _ _ _ (s₁.setTop (mkF m 0 #[.val (.int k), .unset, .unset, .unset] []))
  refine own_step (fun _ κ => XS.iloadN X0.here hx rfl (hb hby at_0) rfl κ) ?_
  show own_Go _ _ _ _ (s₁.setTop (mkF m 1 #[.val (.int k), .unset, .unset, .unset] [(.int k)]))
  refine own_step (fun _ κ => XS.iconst X0.here hx rfl (hb hby at_1) κ) ?_
  show own_Go _ _ _ _ (s₁.setTop (mkF m 2 #[.val (.int k), .unset, .unset, .unset] [(.int (3 : Int32)), (.int k)]))
  refine own_step (fun _ κ => XS.iand X0.here hx rfl (hb hby at_2) rfl κ) ?_
  show own_Go _ _ _ _ (s₁.setTop (mkF m 3 #[.val (.int k), .unset, .unset, .unset] [(.int (k &&& (3 : Int32)))]))
  refine own_step (fun _ κ => XS.istoreN X0.here hx rfl (hb hby at_3) rfl (l' := #[.val (.int k), .val (.int (k &&& (3 : Int32))), .unset, .unset]) rfl κ) ?_
  show own_Go _ _ _ _ (s₁.setTop (mkF m 4 #[.val (.int k), .val (.int (k &&& (3 : Int32))), .unset, .unset] []))
  refine own_step (fun _ κ => XS.iloadN X0.here hx rfl (hb hby at_4) rfl κ) ?_
  show own_Go _ _ _ _ (s₁.setTop (mkF m 5 #[.val (.int k), .val (.int (k &&& (3 : Int32))), .unset, .unset] [(.int (k &&& (3 : Int32)))]))
  by_cases hc1 : (k &&& (3 : Int32)) = (0 : Int32)
  · refine own_step (fun _ κ => XS.ifNo X0.here hx rfl (hb hby at_5) rfl ((if0 _ _).trans (teq hc1).2) κ) ?_
    show own_Go _ _ _ _ (s₁.setTop (mkF m 8 #[.val (.int k), .val (.int (k &&& (3 : Int32))), .unset, .unset] []))
    obtain ⟨T2, X2, e2, st2⟩ := getS2 X0 hx hZ hown (host := "") (Or.inl (hw _ (List.mem_of_getElem? (i := 0) rfl))) Via.refl e0 (P1.ext P0.2) (g := (mkF m 8 #[.val (.int k), .val (.int (k &&& (3 : Int32))), .unset, .unset] [])) rfl (hb hby at_8)
    refine own_step st2 ?_
    show own_Go _ _ _ _ (T2.setTop (mkF m 11 #[.val (.int k), .val (.int (k &&& (3 : Int32))), .unset, .unset] [(.ref s_PAID)]))
    refine own_step (fun _ κ => XS.astoreN X2.here hx rfl (hb hby at_11) rfl rfl (l' := #[.val (.int k), .val (.int (k &&& (3 : Int32))), .val (.ref s_PAID), .unset]) rfl κ) ?_
    show own_Go _ _ _ _ (T2.setTop (mkF m 12 #[.val (.int k), .val (.int (k &&& (3 : Int32))), .val (.ref s_PAID), .unset] []))
    refine own_step (fun _ κ => XS.iconst X2.here hx rfl (hb hby at_12) κ) ?_
    show own_Go _ _ _ _ (T2.setTop (mkF m 13 #[.val (.int k), .val (.int (k &&& (3 : Int32))), .val (.ref s_PAID), .unset] [(.int (0 : Int32))]))
    refine own_step (fun _ κ => XS.istoreN X2.here hx rfl (hb hby at_13) rfl (l' := #[.val (.int k), .val (.int (k &&& (3 : Int32))), .val (.ref s_PAID), .val (.int (0 : Int32))]) rfl κ) ?_
    show own_Go _ _ _ _ (T2.setTop (mkF m 14 #[.val (.int k), .val (.int (k &&& (3 : Int32))), .val (.ref s_PAID), .val (.int (0 : Int32))] []))
    refine own_step (fun _ κ => XS.goto X2.here hx rfl (pc0 := 14) (pc' := 51) rfl (hb hby at_14) (by decide) (by decide) κ) ?_
    show own_Go _ _ _ _ (T2.setTop (mkF m 51 #[.val (.int k), .val (.int (k &&& (3 : Int32))), .val (.ref s_PAID), .val (.int (0 : Int32))] []))
    refine own_step (fun _ κ => XS.aloadN X2.here hx rfl (hb hby at_51) rfl rfl κ) ?_
    show own_Go _ _ _ _ (T2.setTop (mkF m 52 #[.val (.int k), .val (.int (k &&& (3 : Int32))), .val (.ref s_PAID), .val (.int (0 : Int32))] [(.ref s_PAID)]))
    obtain ⟨cq3, kq3, q3a, q3b, q3c⟩ := isOf hZ e2 (P2.ext P0.2)
    obtain ⟨vr3, _, ⟨T3, L3, k3, n3⟩, -, X3, ⟨Lc3, hQ3, l3, y3, z3⟩, st3⟩ := X2.virtualBack hx (y := (⟨"com/example/credit_clerk/creditclerk/service/Payment$Status", "prepared", "()Z"⟩ : MethodName)) (z := (⟨"com/example/credit_clerk/creditclerk/service/Payment$Status", "prepared", "()Z"⟩ : MethodName)) hown (mvT hZ (hw _ (List.mem_of_getElem? (i := 3) rfl))) (mvT hZ (hw _ (List.mem_of_getElem? (i := 4) rfl))) (notFace_of_selects (args := #[]) (mvT hZ (hw _ (List.mem_of_getElem? (i := 6) rfl)))) (mvT hZ (hw _ (List.mem_of_getElem? (i := 6) rfl))) (mvT hZ (hw _ (List.mem_of_getElem? (i := 5) rfl))) (by decide) (backOf (W := 0) (rm1 l Z a0 hw [] s_PAID s_PAID h0 n0 Z0 P0 P1) hZ (hw _ (List.mem_of_getElem? (i := 7) rfl)) (hw _ (List.mem_of_getElem? (i := 1) rfl)) (by decide) (by decide)) q3a q3c (g := (mkF m 52 #[.val (.int k), .val (.int (k &&& (3 : Int32))), .val (.ref s_PAID), .val (.int (0 : Int32))] [(.ref s_PAID)])) rfl (by rw [hml]; rfl) (Steps.refl _) (argsL := []) (rest := []) (lenOf pd_0 rfl) rfl (by show 2 * 0 + _ ≤ _; exact Nat.le_of_eq rfl) (hb hby at_52) (fun _ _ => ⟨rfl, e2, (by decide : 0 + 0 ≤ _), (by decide : 0 + 0 ≤ _)⟩)
    dsimp only [Pt.U, Pt.locs, Pt.cells, Pt.slots] at X3 l3 y3 z3 st3 hQ3
    subst l3 y3 z3
    obtain ⟨hv3, Nq3, eq3⟩ := hQ3
    have N3 := Fr.app N0 Nq3
    rw [if_pos rfl] at hv3
    subst hv3
    refine own_step (fun _ κ => st3.trans κ) ?_
    show own_Go _ _ _ _ (T3.setTop (mkF m 55 #[.val (.int k), .val (.int (k &&& (3 : Int32))), .val (.ref s_PAID), .val (.int (0 : Int32))] [(.int (0 : Int32))]))
    refine own_step (fun _ κ => XS.iloadN X3.here hx rfl (hb hby at_55) rfl κ) ?_
    show own_Go _ _ _ _ (T3.setTop (mkF m 56 #[.val (.int k), .val (.int (k &&& (3 : Int32))), .val (.ref s_PAID), .val (.int (0 : Int32))] [(.int (0 : Int32)), (.int (0 : Int32))]))
    refine own_step (fun _ κ => XS.icmpNo X3.here hx rfl (hb hby at_56) rfl (teq rfl).2 κ) ?_
    show own_Go _ _ _ _ (T3.setTop (mkF m 59 #[.val (.int k), .val (.int (k &&& (3 : Int32))), .val (.ref s_PAID), .val (.int (0 : Int32))] []))
    refine own_step (fun _ κ => XS.iconst X3.here hx rfl (hb hby at_59) κ) ?_
    show own_Go _ _ _ _ (T3.setTop (mkF m 60 #[.val (.int k), .val (.int (k &&& (3 : Int32))), .val (.ref s_PAID), .val (.int (0 : Int32))] [(.int (1 : Int32))]))
    refine own_step (fun _ κ => XS.goto X3.here hx rfl (pc0 := 60) (pc' := 64) rfl (hb hby at_60) (by decide) (by decide) κ) ?_
    show own_Go _ _ _ _ (T3.setTop (mkF m 64 #[.val (.int k), .val (.int (k &&& (3 : Int32))), .val (.ref s_PAID), .val (.int (0 : Int32))] [(.int (1 : Int32))]))
    obtain ⟨fs, hr, hrun, hended, hW, hsame⟩ := X3.leave (v := some (.int (1 : Int32))) (fun h => by rw [Bd.returns] at h; cases h)
    refine ⟨_, _, retN X3 hx (t := .boolean) Bd.returns (by simp) (hb hby at_64) hr, hrun, hended, _, _, rfl, ?_, ⟨_, rfl⟩, hW, hsame.mono (by decide) (by decide)⟩
    show Q0 Z k s_PAID s_CANCELLED s_CONFIRMED s_RESERVED h0 n0 _ T3.heap _
    exact ⟨rfl, N3⟩
  · refine own_step (fun _ κ => XS.ifYes X0.here hx rfl (pc0 := 5) (pc' := 17) rfl (hb hby at_5) rfl ((if0 _ _).trans (feq hc1).2) (by decide) (by decide) κ) ?_
    show own_Go _ _ _ _ (s₁.setTop (mkF m 17 #[.val (.int k), .val (.int (k &&& (3 : Int32))), .unset, .unset] []))
    refine own_step (fun _ κ => XS.iloadN X0.here hx rfl (hb hby at_17) rfl κ) ?_
    show own_Go _ _ _ _ (s₁.setTop (mkF m 18 #[.val (.int k), .val (.int (k &&& (3 : Int32))), .unset, .unset] [(.int (k &&& (3 : Int32)))]))
    refine own_step (fun _ κ => XS.iconst X0.here hx rfl (hb hby at_18) κ) ?_
    show own_Go _ _ _ _ (s₁.setTop (mkF m 19 #[.val (.int k), .val (.int (k &&& (3 : Int32))), .unset, .unset] [(.int (1 : Int32)), (.int (k &&& (3 : Int32)))]))
    by_cases hc4 : (k &&& (3 : Int32)) = (1 : Int32)
    · refine own_step (fun _ κ => XS.icmpNo X0.here hx rfl (hb hby at_19) rfl (teq hc4).2 κ) ?_
      show own_Go _ _ _ _ (s₁.setTop (mkF m 22 #[.val (.int k), .val (.int (k &&& (3 : Int32))), .unset, .unset] []))
      obtain ⟨T5, X5, e5, st5⟩ := getS2 X0 hx hZ hown (host := "") (Or.inl (hw _ (List.mem_of_getElem? (i := 13) rfl))) Via.refl e0 (P7.ext P0.2) (g := (mkF m 22 #[.val (.int k), .val (.int (k &&& (3 : Int32))), .unset, .unset] [])) rfl (hb hby at_22)
      refine own_step st5 ?_
      show own_Go _ _ _ _ (T5.setTop (mkF m 25 #[.val (.int k), .val (.int (k &&& (3 : Int32))), .unset, .unset] [(.ref s_RESERVED)]))
      refine own_step (fun _ κ => XS.astoreN X5.here hx rfl (hb hby at_25) rfl rfl (l' := #[.val (.int k), .val (.int (k &&& (3 : Int32))), .val (.ref s_RESERVED), .unset]) rfl κ) ?_
      show own_Go _ _ _ _ (T5.setTop (mkF m 26 #[.val (.int k), .val (.int (k &&& (3 : Int32))), .val (.ref s_RESERVED), .unset] []))
      refine own_step (fun _ κ => XS.iconst X5.here hx rfl (hb hby at_26) κ) ?_
      show own_Go _ _ _ _ (T5.setTop (mkF m 27 #[.val (.int k), .val (.int (k &&& (3 : Int32))), .val (.ref s_RESERVED), .unset] [(.int (1 : Int32))]))
      refine own_step (fun _ κ => XS.istoreN X5.here hx rfl (hb hby at_27) rfl (l' := #[.val (.int k), .val (.int (k &&& (3 : Int32))), .val (.ref s_RESERVED), .val (.int (1 : Int32))]) rfl κ) ?_
      show own_Go _ _ _ _ (T5.setTop (mkF m 28 #[.val (.int k), .val (.int (k &&& (3 : Int32))), .val (.ref s_RESERVED), .val (.int (1 : Int32))] []))
      refine own_step (fun _ κ => XS.goto X5.here hx rfl (pc0 := 28) (pc' := 51) rfl (hb hby at_28) (by decide) (by decide) κ) ?_
      show own_Go _ _ _ _ (T5.setTop (mkF m 51 #[.val (.int k), .val (.int (k &&& (3 : Int32))), .val (.ref s_RESERVED), .val (.int (1 : Int32))] []))
      refine own_step (fun _ κ => XS.aloadN X5.here hx rfl (hb hby at_51) rfl rfl κ) ?_
      show own_Go _ _ _ _ (T5.setTop (mkF m 52 #[.val (.int k), .val (.int (k &&& (3 : Int32))), .val (.ref s_RESERVED), .val (.int (1 : Int32))] [(.ref s_RESERVED)]))
      obtain ⟨cq6, kq6, q6a, q6b, q6c⟩ := isOf hZ e5 (P8.ext P0.2)
      obtain ⟨vr6, _, ⟨T6, L6, k6, n6⟩, -, X6, ⟨Lc6, hQ6, l6, y6, z6⟩, st6⟩ := X5.virtualBack hx (y := (⟨"com/example/credit_clerk/creditclerk/service/Payment$Status", "prepared", "()Z"⟩ : MethodName)) (z := (⟨"com/example/credit_clerk/creditclerk/service/Payment$Status", "prepared", "()Z"⟩ : MethodName)) hown (mvT hZ (hw _ (List.mem_of_getElem? (i := 3) rfl))) (mvT hZ (hw _ (List.mem_of_getElem? (i := 4) rfl))) (notFace_of_selects (args := #[]) (mvT hZ (hw _ (List.mem_of_getElem? (i := 6) rfl)))) (mvT hZ (hw _ (List.mem_of_getElem? (i := 6) rfl))) (mvT hZ (hw _ (List.mem_of_getElem? (i := 5) rfl))) (by decide) (backOf (W := 0) (rm1 l Z a0 hw [] s_RESERVED s_PAID h0 n0 Z0 P0 P1) hZ (hw _ (List.mem_of_getElem? (i := 7) rfl)) (hw _ (List.mem_of_getElem? (i := 1) rfl)) (by decide) (by decide)) q6a q6c (g := (mkF m 52 #[.val (.int k), .val (.int (k &&& (3 : Int32))), .val (.ref s_RESERVED), .val (.int (1 : Int32))] [(.ref s_RESERVED)])) rfl (by rw [hml]; rfl) (Steps.refl _) (argsL := []) (rest := []) (lenOf pd_0 rfl) rfl (by show 2 * 0 + _ ≤ _; exact Nat.le_of_eq rfl) (hb hby at_52) (fun _ _ => ⟨rfl, e5, (by decide : 0 + 0 ≤ _), (by decide : 0 + 0 ≤ _)⟩)
      dsimp only [Pt.U, Pt.locs, Pt.cells, Pt.slots] at X6 l6 y6 z6 st6 hQ6
      subst l6 y6 z6
      obtain ⟨hv6, Nq6, eq6⟩ := hQ6
      have N6 := Fr.app N0 Nq6
      rw [if_neg P11] at hv6
      subst hv6
      refine own_step (fun _ κ => st6.trans κ) ?_
      show own_Go _ _ _ _ (T6.setTop (mkF m 55 #[.val (.int k), .val (.int (k &&& (3 : Int32))), .val (.ref s_RESERVED), .val (.int (1 : Int32))] [(.int (1 : Int32))]))
      refine own_step (fun _ κ => XS.iloadN X6.here hx rfl (hb hby at_55) rfl κ) ?_
      show own_Go _ _ _ _ (T6.setTop (mkF m 56 #[.val (.int k), .val (.int (k &&& (3 : Int32))), .val (.ref s_RESERVED), .val (.int (1 : Int32))] [(.int (1 : Int32)), (.int (1 : Int32))]))
      refine own_step (fun _ κ => XS.icmpNo X6.here hx rfl (hb hby at_56) rfl (teq rfl).2 κ) ?_
      show own_Go _ _ _ _ (T6.setTop (mkF m 59 #[.val (.int k), .val (.int (k &&& (3 : Int32))), .val (.ref s_RESERVED), .val (.int (1 : Int32))] []))
      refine own_step (fun _ κ => XS.iconst X6.here hx rfl (hb hby at_59) κ) ?_
      show own_Go _ _ _ _ (T6.setTop (mkF m 60 #[.val (.int k), .val (.int (k &&& (3 : Int32))), .val (.ref s_RESERVED), .val (.int (1 : Int32))] [(.int (1 : Int32))]))
      refine own_step (fun _ κ => XS.goto X6.here hx rfl (pc0 := 60) (pc' := 64) rfl (hb hby at_60) (by decide) (by decide) κ) ?_
      show own_Go _ _ _ _ (T6.setTop (mkF m 64 #[.val (.int k), .val (.int (k &&& (3 : Int32))), .val (.ref s_RESERVED), .val (.int (1 : Int32))] [(.int (1 : Int32))]))
      obtain ⟨fs, hr, hrun, hended, hW, hsame⟩ := X6.leave (v := some (.int (1 : Int32))) (fun h => by rw [Bd.returns] at h; cases h)
      refine ⟨_, _, retN X6 hx (t := .boolean) Bd.returns (by simp) (hb hby at_64) hr, hrun, hended, _, _, rfl, ?_, ⟨_, rfl⟩, hW, hsame.mono (by decide) (by decide)⟩
      show Q0 Z k s_PAID s_CANCELLED s_CONFIRMED s_RESERVED h0 n0 _ T6.heap _
      exact ⟨rfl, N6⟩
    · refine own_step (fun _ κ => XS.icmpYes X0.here hx rfl (pc0 := 19) (pc' := 31) rfl (hb hby at_19) rfl (feq hc4).2 (by decide) (by decide) κ) ?_
      show own_Go _ _ _ _ (s₁.setTop (mkF m 31 #[.val (.int k), .val (.int (k &&& (3 : Int32))), .unset, .unset] []))
      refine own_step (fun _ κ => XS.iloadN X0.here hx rfl (hb hby at_31) rfl κ) ?_
      show own_Go _ _ _ _ (s₁.setTop (mkF m 32 #[.val (.int k), .val (.int (k &&& (3 : Int32))), .unset, .unset] [(.int (k &&& (3 : Int32)))]))
      refine own_step (fun _ κ => XS.iconst X0.here hx rfl (hb hby at_32) κ) ?_
      show own_Go _ _ _ _ (s₁.setTop (mkF m 33 #[.val (.int k), .val (.int (k &&& (3 : Int32))), .unset, .unset] [(.int (2 : Int32)), (.int (k &&& (3 : Int32)))]))
      by_cases hc7 : (k &&& (3 : Int32)) = (2 : Int32)
      · refine own_step (fun _ κ => XS.icmpNo X0.here hx rfl (hb hby at_33) rfl (teq hc7).2 κ) ?_
        show own_Go _ _ _ _ (s₁.setTop (mkF m 36 #[.val (.int k), .val (.int (k &&& (3 : Int32))), .unset, .unset] []))
        obtain ⟨T8, X8, e8, st8⟩ := getS2 X0 hx hZ hown (host := "") (Or.inl (hw _ (List.mem_of_getElem? (i := 11) rfl))) Via.refl e0 (P5.ext P0.2) (g := (mkF m 36 #[.val (.int k), .val (.int (k &&& (3 : Int32))), .unset, .unset] [])) rfl (hb hby at_36)
        refine own_step st8 ?_
        show own_Go _ _ _ _ (T8.setTop (mkF m 39 #[.val (.int k), .val (.int (k &&& (3 : Int32))), .unset, .unset] [(.ref s_CONFIRMED)]))
        refine own_step (fun _ κ => XS.astoreN X8.here hx rfl (hb hby at_39) rfl rfl (l' := #[.val (.int k), .val (.int (k &&& (3 : Int32))), .val (.ref s_CONFIRMED), .unset]) rfl κ) ?_
        show own_Go _ _ _ _ (T8.setTop (mkF m 40 #[.val (.int k), .val (.int (k &&& (3 : Int32))), .val (.ref s_CONFIRMED), .unset] []))
        refine own_step (fun _ κ => XS.iconst X8.here hx rfl (hb hby at_40) κ) ?_
        show own_Go _ _ _ _ (T8.setTop (mkF m 41 #[.val (.int k), .val (.int (k &&& (3 : Int32))), .val (.ref s_CONFIRMED), .unset] [(.int (1 : Int32))]))
        refine own_step (fun _ κ => XS.istoreN X8.here hx rfl (hb hby at_41) rfl (l' := #[.val (.int k), .val (.int (k &&& (3 : Int32))), .val (.ref s_CONFIRMED), .val (.int (1 : Int32))]) rfl κ) ?_
        show own_Go _ _ _ _ (T8.setTop (mkF m 42 #[.val (.int k), .val (.int (k &&& (3 : Int32))), .val (.ref s_CONFIRMED), .val (.int (1 : Int32))] []))
        refine own_step (fun _ κ => XS.goto X8.here hx rfl (pc0 := 42) (pc' := 51) rfl (hb hby at_42) (by decide) (by decide) κ) ?_
        show own_Go _ _ _ _ (T8.setTop (mkF m 51 #[.val (.int k), .val (.int (k &&& (3 : Int32))), .val (.ref s_CONFIRMED), .val (.int (1 : Int32))] []))
        refine own_step (fun _ κ => XS.aloadN X8.here hx rfl (hb hby at_51) rfl rfl κ) ?_
        show own_Go _ _ _ _ (T8.setTop (mkF m 52 #[.val (.int k), .val (.int (k &&& (3 : Int32))), .val (.ref s_CONFIRMED), .val (.int (1 : Int32))] [(.ref s_CONFIRMED)]))
        obtain ⟨cq9, kq9, q9a, q9b, q9c⟩ := isOf hZ e8 (P6.ext P0.2)
        obtain ⟨vr9, _, ⟨T9, L9, k9, n9⟩, -, X9, ⟨Lc9, hQ9, l9, y9, z9⟩, st9⟩ := X8.virtualBack hx (y := (⟨"com/example/credit_clerk/creditclerk/service/Payment$Status", "prepared", "()Z"⟩ : MethodName)) (z := (⟨"com/example/credit_clerk/creditclerk/service/Payment$Status", "prepared", "()Z"⟩ : MethodName)) hown (mvT hZ (hw _ (List.mem_of_getElem? (i := 3) rfl))) (mvT hZ (hw _ (List.mem_of_getElem? (i := 4) rfl))) (notFace_of_selects (args := #[]) (mvT hZ (hw _ (List.mem_of_getElem? (i := 6) rfl)))) (mvT hZ (hw _ (List.mem_of_getElem? (i := 6) rfl))) (mvT hZ (hw _ (List.mem_of_getElem? (i := 5) rfl))) (by decide) (backOf (W := 0) (rm1 l Z a0 hw [] s_CONFIRMED s_PAID h0 n0 Z0 P0 P1) hZ (hw _ (List.mem_of_getElem? (i := 7) rfl)) (hw _ (List.mem_of_getElem? (i := 1) rfl)) (by decide) (by decide)) q9a q9c (g := (mkF m 52 #[.val (.int k), .val (.int (k &&& (3 : Int32))), .val (.ref s_CONFIRMED), .val (.int (1 : Int32))] [(.ref s_CONFIRMED)])) rfl (by rw [hml]; rfl) (Steps.refl _) (argsL := []) (rest := []) (lenOf pd_0 rfl) rfl (by show 2 * 0 + _ ≤ _; exact Nat.le_of_eq rfl) (hb hby at_52) (fun _ _ => ⟨rfl, e8, (by decide : 0 + 0 ≤ _), (by decide : 0 + 0 ≤ _)⟩)
        dsimp only [Pt.U, Pt.locs, Pt.cells, Pt.slots] at X9 l9 y9 z9 st9 hQ9
        subst l9 y9 z9
        obtain ⟨hv9, Nq9, eq9⟩ := hQ9
        have N9 := Fr.app N0 Nq9
        rw [if_neg P10] at hv9
        subst hv9
        refine own_step (fun _ κ => st9.trans κ) ?_
        show own_Go _ _ _ _ (T9.setTop (mkF m 55 #[.val (.int k), .val (.int (k &&& (3 : Int32))), .val (.ref s_CONFIRMED), .val (.int (1 : Int32))] [(.int (1 : Int32))]))
        refine own_step (fun _ κ => XS.iloadN X9.here hx rfl (hb hby at_55) rfl κ) ?_
        show own_Go _ _ _ _ (T9.setTop (mkF m 56 #[.val (.int k), .val (.int (k &&& (3 : Int32))), .val (.ref s_CONFIRMED), .val (.int (1 : Int32))] [(.int (1 : Int32)), (.int (1 : Int32))]))
        refine own_step (fun _ κ => XS.icmpNo X9.here hx rfl (hb hby at_56) rfl (teq rfl).2 κ) ?_
        show own_Go _ _ _ _ (T9.setTop (mkF m 59 #[.val (.int k), .val (.int (k &&& (3 : Int32))), .val (.ref s_CONFIRMED), .val (.int (1 : Int32))] []))
        refine own_step (fun _ κ => XS.iconst X9.here hx rfl (hb hby at_59) κ) ?_
        show own_Go _ _ _ _ (T9.setTop (mkF m 60 #[.val (.int k), .val (.int (k &&& (3 : Int32))), .val (.ref s_CONFIRMED), .val (.int (1 : Int32))] [(.int (1 : Int32))]))
        refine own_step (fun _ κ => XS.goto X9.here hx rfl (pc0 := 60) (pc' := 64) rfl (hb hby at_60) (by decide) (by decide) κ) ?_
        show own_Go _ _ _ _ (T9.setTop (mkF m 64 #[.val (.int k), .val (.int (k &&& (3 : Int32))), .val (.ref s_CONFIRMED), .val (.int (1 : Int32))] [(.int (1 : Int32))]))
        obtain ⟨fs, hr, hrun, hended, hW, hsame⟩ := X9.leave (v := some (.int (1 : Int32))) (fun h => by rw [Bd.returns] at h; cases h)
        refine ⟨_, _, retN X9 hx (t := .boolean) Bd.returns (by simp) (hb hby at_64) hr, hrun, hended, _, _, rfl, ?_, ⟨_, rfl⟩, hW, hsame.mono (by decide) (by decide)⟩
        show Q0 Z k s_PAID s_CANCELLED s_CONFIRMED s_RESERVED h0 n0 _ T9.heap _
        exact ⟨rfl, N9⟩
      · refine own_step (fun _ κ => XS.icmpYes X0.here hx rfl (pc0 := 33) (pc' := 45) rfl (hb hby at_33) rfl (feq hc7).2 (by decide) (by decide) κ) ?_
        show own_Go _ _ _ _ (s₁.setTop (mkF m 45 #[.val (.int k), .val (.int (k &&& (3 : Int32))), .unset, .unset] []))
        obtain ⟨T10, X10, e10, st10⟩ := getS2 X0 hx hZ hown (host := "") (Or.inl (hw _ (List.mem_of_getElem? (i := 9) rfl))) Via.refl e0 (P3.ext P0.2) (g := (mkF m 45 #[.val (.int k), .val (.int (k &&& (3 : Int32))), .unset, .unset] [])) rfl (hb hby at_45)
        refine own_step st10 ?_
        show own_Go _ _ _ _ (T10.setTop (mkF m 48 #[.val (.int k), .val (.int (k &&& (3 : Int32))), .unset, .unset] [(.ref s_CANCELLED)]))
        refine own_step (fun _ κ => XS.astoreN X10.here hx rfl (hb hby at_48) rfl rfl (l' := #[.val (.int k), .val (.int (k &&& (3 : Int32))), .val (.ref s_CANCELLED), .unset]) rfl κ) ?_
        show own_Go _ _ _ _ (T10.setTop (mkF m 49 #[.val (.int k), .val (.int (k &&& (3 : Int32))), .val (.ref s_CANCELLED), .unset] []))
        refine own_step (fun _ κ => XS.iconst X10.here hx rfl (hb hby at_49) κ) ?_
        show own_Go _ _ _ _ (T10.setTop (mkF m 50 #[.val (.int k), .val (.int (k &&& (3 : Int32))), .val (.ref s_CANCELLED), .unset] [(.int (1 : Int32))]))
        refine own_step (fun _ κ => XS.istoreN X10.here hx rfl (hb hby at_50) rfl (l' := #[.val (.int k), .val (.int (k &&& (3 : Int32))), .val (.ref s_CANCELLED), .val (.int (1 : Int32))]) rfl κ) ?_
        show own_Go _ _ _ _ (T10.setTop (mkF m 51 #[.val (.int k), .val (.int (k &&& (3 : Int32))), .val (.ref s_CANCELLED), .val (.int (1 : Int32))] []))
        refine own_step (fun _ κ => XS.aloadN X10.here hx rfl (hb hby at_51) rfl rfl κ) ?_
        show own_Go _ _ _ _ (T10.setTop (mkF m 52 #[.val (.int k), .val (.int (k &&& (3 : Int32))), .val (.ref s_CANCELLED), .val (.int (1 : Int32))] [(.ref s_CANCELLED)]))
        obtain ⟨cq11, kq11, q11a, q11b, q11c⟩ := isOf hZ e10 (P4.ext P0.2)
        obtain ⟨vr11, _, ⟨T11, L11, k11, n11⟩, -, X11, ⟨Lc11, hQ11, l11, y11, z11⟩, st11⟩ := X10.virtualBack hx (y := (⟨"com/example/credit_clerk/creditclerk/service/Payment$Status", "prepared", "()Z"⟩ : MethodName)) (z := (⟨"com/example/credit_clerk/creditclerk/service/Payment$Status", "prepared", "()Z"⟩ : MethodName)) hown (mvT hZ (hw _ (List.mem_of_getElem? (i := 3) rfl))) (mvT hZ (hw _ (List.mem_of_getElem? (i := 4) rfl))) (notFace_of_selects (args := #[]) (mvT hZ (hw _ (List.mem_of_getElem? (i := 6) rfl)))) (mvT hZ (hw _ (List.mem_of_getElem? (i := 6) rfl))) (mvT hZ (hw _ (List.mem_of_getElem? (i := 5) rfl))) (by decide) (backOf (W := 0) (rm1 l Z a0 hw [] s_CANCELLED s_PAID h0 n0 Z0 P0 P1) hZ (hw _ (List.mem_of_getElem? (i := 7) rfl)) (hw _ (List.mem_of_getElem? (i := 1) rfl)) (by decide) (by decide)) q11a q11c (g := (mkF m 52 #[.val (.int k), .val (.int (k &&& (3 : Int32))), .val (.ref s_CANCELLED), .val (.int (1 : Int32))] [(.ref s_CANCELLED)])) rfl (by rw [hml]; rfl) (Steps.refl _) (argsL := []) (rest := []) (lenOf pd_0 rfl) rfl (by show 2 * 0 + _ ≤ _; exact Nat.le_of_eq rfl) (hb hby at_52) (fun _ _ => ⟨rfl, e10, (by decide : 0 + 0 ≤ _), (by decide : 0 + 0 ≤ _)⟩)
        dsimp only [Pt.U, Pt.locs, Pt.cells, Pt.slots] at X11 l11 y11 z11 st11 hQ11
        subst l11 y11 z11
        obtain ⟨hv11, Nq11, eq11⟩ := hQ11
        have N11 := Fr.app N0 Nq11
        rw [if_neg P9] at hv11
        subst hv11
        refine own_step (fun _ κ => st11.trans κ) ?_
        show own_Go _ _ _ _ (T11.setTop (mkF m 55 #[.val (.int k), .val (.int (k &&& (3 : Int32))), .val (.ref s_CANCELLED), .val (.int (1 : Int32))] [(.int (1 : Int32))]))
        refine own_step (fun _ κ => XS.iloadN X11.here hx rfl (hb hby at_55) rfl κ) ?_
        show own_Go _ _ _ _ (T11.setTop (mkF m 56 #[.val (.int k), .val (.int (k &&& (3 : Int32))), .val (.ref s_CANCELLED), .val (.int (1 : Int32))] [(.int (1 : Int32)), (.int (1 : Int32))]))
        refine own_step (fun _ κ => XS.icmpNo X11.here hx rfl (hb hby at_56) rfl (teq rfl).2 κ) ?_
        show own_Go _ _ _ _ (T11.setTop (mkF m 59 #[.val (.int k), .val (.int (k &&& (3 : Int32))), .val (.ref s_CANCELLED), .val (.int (1 : Int32))] []))
        refine own_step (fun _ κ => XS.iconst X11.here hx rfl (hb hby at_59) κ) ?_
        show own_Go _ _ _ _ (T11.setTop (mkF m 60 #[.val (.int k), .val (.int (k &&& (3 : Int32))), .val (.ref s_CANCELLED), .val (.int (1 : Int32))] [(.int (1 : Int32))]))
        refine own_step (fun _ κ => XS.goto X11.here hx rfl (pc0 := 60) (pc' := 64) rfl (hb hby at_60) (by decide) (by decide) κ) ?_
        show own_Go _ _ _ _ (T11.setTop (mkF m 64 #[.val (.int k), .val (.int (k &&& (3 : Int32))), .val (.ref s_CANCELLED), .val (.int (1 : Int32))] [(.int (1 : Int32))]))
        obtain ⟨fs, hr, hrun, hended, hW, hsame⟩ := X11.leave (v := some (.int (1 : Int32))) (fun h => by rw [Bd.returns] at h; cases h)
        refine ⟨_, _, retN X11 hx (t := .boolean) Bd.returns (by simp) (hb hby at_64) hr, hrun, hended, _, _, rfl, ?_, ⟨_, rfl⟩, hW, hsame.mono (by decide) (by decide)⟩
        show Q0 Z k s_PAID s_CANCELLED s_CONFIRMED s_RESERVED h0 n0 _ T11.heap _
        exact ⟨rfl, N11⟩
set_option maxRecDepth 65536 in
set_option maxHeartbeats 40000000 in
theorem comes_1 {Post : Tables → Env → Array Value → State → Outcome → State → Prop} (hpost : ∀ tb e args s v u, (limb_1_1.after args s (.returned v) u = true ∧ limb_1_2.after args s (.returned v) u = true ∧ True) → FrameEnd s (.returned v) u (Jvm.fieldLocs frame_1_writes args s ++ Jvm.arrayLocs frame_1_arrays args s ++ Jvm.staticLocs frame_1_statics s) 0 0 → Post tb e args s (.returned v) u) :
    ArmFor flags0 classFile x code maxLocals ret World_1 tables_1 room_1 Calls_1 rest_1 Pre_1 Post := by
  intro l hfl _ _ p e ha hc hk s m args below hf hA hF happ hP
  obtain ⟨hcalls, hrest, hpre⟩ := hP
  obtain ⟨-, -, -, hnamed, -, -, -, hat⟩ := (Spec.applies_iff hf).mp happ
  obtain ⟨hg, hn⟩ := and_e (Cond.before_iff.mp (show (Jvm.Cond.and given_1 narrow_1).before args s = true from hpre))
  obtain ⟨g0, gr0⟩ := and_e hg
  obtain ⟨w0, rfl⟩ : ∃ w0 : Value, args = #[w0] := by
    have hs : args.size = 1 := by simpa [Cond.value, given_1] using g0
    obtain ⟨L⟩ := args
    match L, hs with
    | [w0], _ => exact ⟨w0, rfl⟩
  have hw := fun d (hd : d ∈ tables_1) => atoms_spec (ws := Jvm.Cond.code x code maxLocals ret :: tables_1) hat d (List.mem_cons_of_mem _ hd)
  have hfit : Fit s := fun {y c} hc i hi => by
    obtain ⟨ha, rfl⟩ := Array.getElem?_eq_some_iff.mp hc
    have q := List.all_eq_true.mp ((Array.all_eq_true_iff_forall_mem.mp hF) _ (Array.getElem_mem ha)) i (List.mem_range.mpr hi)
    simpa [Array.getElem?_eq_getElem hi] using q
  obtain ⟨i0, ei0⟩ := is_v gr0
  obtain rfl : w0 = (.int i0) := Option.some.inj ei0
  obtain ⟨nh0, nr0⟩ := and_e hn
  obtain ⟨nh1, nr1⟩ := and_e nr0
  obtain ⟨nh2, nr2⟩ := and_e nr1
  obtain ⟨nh3, nr3⟩ := and_e nr2
  obtain ⟨nh4, nr4⟩ := and_e nr3
  obtain ⟨nh5, nr5⟩ := and_e nr4
  obtain ⟨nh6, nr6⟩ := and_e nr5
  obtain ⟨s_PAID, ev_s_PAID, S_s_PAID, E_s_PAID⟩ := own_sta nh0 (hw _ (List.mem_of_getElem? (i := 1) rfl)) (hw _ (List.mem_of_getElem? (i := 2) rfl))
  obtain ⟨s_CANCELLED, ev_s_CANCELLED, S_s_CANCELLED, E_s_CANCELLED⟩ := own_sta nh1 (hw _ (List.mem_of_getElem? (i := 1) rfl)) (hw _ (List.mem_of_getElem? (i := 10) rfl))
  obtain ⟨s_CONFIRMED, ev_s_CONFIRMED, S_s_CONFIRMED, E_s_CONFIRMED⟩ := own_sta nh4 (hw _ (List.mem_of_getElem? (i := 1) rfl)) (hw _ (List.mem_of_getElem? (i := 12) rfl))
  obtain ⟨s_RESERVED, ev_s_RESERVED, S_s_RESERVED, E_s_RESERVED⟩ := own_sta nh6 (hw _ (List.mem_of_getElem? (i := 1) rfl)) (hw _ (List.mem_of_getElem? (i := 14) rfl))
  have F_s_CANCELLED_ordinal := own_staF ev_s_CANCELLED nh2
  have F_s_PAID_ordinal := own_staF ev_s_PAID nh3
  have F_s_CONFIRMED_ordinal := own_staF ev_s_CONFIRMED nh5
  have F_s_RESERVED_ordinal := own_staF ev_s_RESERVED nr6
  obtain ⟨n, o, h1, h2, h3, _, L, rfl, ⟨rfl, N⟩, hq⟩ := rm0 l s _ hw tables_1 i0 s_PAID s_CANCELLED s_CONFIRMED s_RESERVED s.heap s.heap.size (Nat.le_refl _) (Old.start s) S_s_PAID E_s_PAID S_s_CANCELLED E_s_CANCELLED S_s_CONFIRMED E_s_CONFIRMED S_s_RESERVED E_s_RESERVED (Fld.ne F_s_CANCELLED_ordinal F_s_PAID_ordinal (by simp)) (Fld.ne F_s_CONFIRMED_ordinal F_s_PAID_ordinal (by simp)) (Fld.ne F_s_RESERVED_ordinal F_s_PAID_ordinal (by simp)) p e ha hc hk s m _ below hf ((Spec.applies_iff_loose hf).mp happ).1 ⟨rfl, State.Warmed39.refl s, rfl⟩ trivial
  refine ⟨n, _, h1, h2, h3, hpost _ _ _ _ _ _ ⟨Cond.after_iff.mpr rfl, Cond.after_iff.mpr (eq_i res_at (Term.int_eval (1)) rfl), trivial⟩ ⟨hq.1, hq.2.1, (hq.2.2.sift fun y hy => Or.inr (N y hy)).mono (by decide) (by decide)⟩⟩
theorem main_1_1 : Claimed_1_1 := comes_1 fun _ _ _ _ _ _ h hF => ⟨h.1, hF⟩
theorem main_1_2 : Claimed_1_2 := comes_1 fun _ _ _ _ _ _ h hF => ⟨h.2.1, hF⟩
end Jvm.Pilot.@@N@@
namespace Jvm.Pilot.@@N@@
open Jvm Jvm.ClassFile Sem Op Lib Jvm.Free Jvm.Stand Jvm.Pilot.@@N@@.Jvm.D
/-! MADE BY PROGRAM (witnessworld.py) out of the Statement's table words and the real class files: 12 classes; the members and pool entries that the words name. The judged class is class 1, her method 1. -/
namespace start1
open Jvm.ClassFile
def u (s : String) : CpInfo := .utf8 (stringToUtf16 s)
/-- a pool by its gaps: so many unusable entries, then the entry; so many at the end -/
def gap : Nat → List CpInfo → List CpInfo
  | 0, r => r
  | n + 1, r => .unusable :: gap n r
def poolList (es : List (Nat × CpInfo)) (last : Nat) : List CpInfo := es.foldr (fun e r => gap e.1 (e.2 :: r)) (gap last [])
def pool (es : List (Nat × CpInfo)) (last : Nat) : Array CpInfo := ⟨poolList es last⟩
def fileOf (pool : Array CpInfo) (this : Nat) (attrs : Array Attribute := #[]) (ms : Array MethodInfo := #[]) (fl : Nat := 33) (sup : Nat := 0) (ifs : Array Nat := #[]) (fds : Array FieldInfo := #[]) : ClassFile where
  minorVersion := 0
  majorVersion := 65
  constantPool := pool
  accessFlags := fl
  thisClass := this
  superClass := sup
  interfaces := ifs
  fields := fds
  methods := ms
  attributes := attrs
def plain (name : String) (sup : Option ClassId) : Class where
  name := name
  kind := .ordinary
  loader := none
  accessFlags := 33
  super := sup
  interfaces := #[]
  cf := none
  fields := #[]
  methods := #[]
  instanceTypes := #[]
  staticTypes := #[]
  resolved := #[]
  callSites := []
  init := .initialized
  statics := none
  mirror := none

def pool0 : Array CpInfo := pool [(5, u "<init>"), (0, u "()V"), (1, .class_ 10), (1, u "java/lang/Object")] 113

def k0m0 : Method := { name := "<init>", desc := "()V", sig := { parameters := [], returnType := none }, accessFlags := 1, code := none }
/-- java/lang/Object -/
def k0 : Class := { plain "java/lang/Object" none with
  accessFlags := 33
  interfaces := #[]
  cf := some (fileOf pool0 8 #[] #[{ accessFlags := 1, nameIndex := 5, descriptorIndex := 6, attributes := #[] }] 33 0 #[] #[])
  fields := #[]
  methods := #[k0m0]
  instanceTypes := #[]
  staticTypes := #[]
  resolved := Array.replicate 124 none
  statics := none }

def pool1 : Array CpInfo := pool [(2, .class_ 4), (1, u "java/lang/Object"), (0, u "<init>"), (0, u "()V"), (0, .fieldref 8 9), (0, .class_ 10), (0, .nameAndType 11 12), (0, u "com/example/credit_clerk/creditclerk/service/Payment$Status"), (0, u "PAID"), (0, u "Lcom/example/credit_clerk/creditclerk/service/Payment$Status;"), (0, .fieldref 8 14), (0, .nameAndType 15 12), (0, u "RESERVED"), (0, .fieldref 8 17), (0, .nameAndType 18 12), (0, u "CONFIRMED"), (0, .fieldref 8 20), (0, .nameAndType 21 12), (0, u "CANCELLED"), (0, .methodref 8 23), (0, .nameAndType 24 25), (0, u "prepared"), (0, u "()Z"), (0, .class_ 27), (0, u "com/example/credit_clerk/creditclerk/service/StatusPreparedPinLaw"), (2, u "law"), (0, u "(I)Z")] 7

def k1m0 : Method := { name := "<init>", desc := "()V", sig := { parameters := [], returnType := none }, accessFlags := 1, code := none }
def k1c1 : Code := { maxStack := 2, maxLocals := 4, code := code, exceptionTable := #[], attributes := #[] }
def k1m1 : Method := { name := "law", desc := "(I)Z", sig := { parameters := [.int], returnType := some .boolean }, accessFlags := 9, code := some k1c1 }
/-- com/example/credit_clerk/creditclerk/service/StatusPreparedPinLaw -/
def k1 : Class := { plain "com/example/credit_clerk/creditclerk/service/StatusPreparedPinLaw" (some 0) with
  accessFlags := 49
  interfaces := #[]
  cf := some (fileOf pool1 26 #[] #[{ accessFlags := 1, nameIndex := 5, descriptorIndex := 6, attributes := #[] }, { accessFlags := 9, nameIndex := 30, descriptorIndex := 31, attributes := #[] }] 49 2 #[] #[])
  fields := #[]
  methods := #[k1m0, k1m1]
  instanceTypes := #[]
  staticTypes := #[]
  resolved := Array.replicate 39 none
  statics := none }

def pool2 : Array CpInfo := pool [(1, .class_ 2), (0, u "java/lang/constant/Constable"), (0, .class_ 4), (0, u "java/lang/Object")] 6

/-- java/lang/constant/Constable -/
def k2 : Class := { plain "java/lang/constant/Constable" (some 0) with
  accessFlags := 1537
  interfaces := #[]
  cf := some (fileOf pool2 1 #[] #[] 1537 3 #[] #[])
  fields := #[]
  methods := #[]
  instanceTypes := #[]
  staticTypes := #[]
  resolved := Array.replicate 11 none
  statics := none }

def pool3 : Array CpInfo := pool [(1, .class_ 2), (0, u "java/lang/Comparable"), (0, .class_ 4), (0, u "java/lang/Object")] 7

/-- java/lang/Comparable -/
def k3 : Class := { plain "java/lang/Comparable" (some 0) with
  accessFlags := 1537
  interfaces := #[]
  cf := some (fileOf pool3 1 #[] #[] 1537 3 #[] #[])
  fields := #[]
  methods := #[]
  instanceTypes := #[]
  staticTypes := #[]
  resolved := Array.replicate 12 none
  statics := none }

def pool4 : Array CpInfo := pool [(1, .class_ 2), (0, u "java/io/Serializable"), (0, .class_ 4), (0, u "java/lang/Object")] 2

/-- java/io/Serializable -/
def k4 : Class := { plain "java/io/Serializable" (some 0) with
  accessFlags := 1537
  interfaces := #[]
  cf := some (fileOf pool4 1 #[] #[] 1537 3 #[] #[])
  fields := #[]
  methods := #[]
  instanceTypes := #[]
  staticTypes := #[]
  resolved := Array.replicate 7 none
  statics := none }

def pool5 : Array CpInfo := pool [(2, .class_ 4), (1, u "java/lang/Enum"), (0, u "name"), (0, u "Ljava/lang/String;"), (2, u "ordinal"), (0, u "I"), (1, .class_ 14), (1, u "java/lang/Object"), (4, u "hash"), (86, .class_ 108), (1, u "java/lang/Enum$EnumDesc"), (2, .class_ 112), (0, u "java/lang/constant/Constable"), (0, .class_ 114), (0, u "java/lang/Comparable"), (0, .class_ 116), (0, u "java/io/Serializable")] 87

/-- java/lang/Enum -/
def k5 : Class := { plain "java/lang/Enum" (some 0) with
  accessFlags := 1057
  interfaces := #[2, 3, 4]
  cf := some (fileOf pool5 2 #[.nestMembers #[106]] #[] 1057 12 #[111, 113, 115] #[{ accessFlags := 18, nameIndex := 5, descriptorIndex := 6, attributes := #[] }, { accessFlags := 18, nameIndex := 9, descriptorIndex := 10, attributes := #[] }, { accessFlags := 2, nameIndex := 19, descriptorIndex := 10, attributes := #[] }])
  fields := #[{ name := "name", type := (.object "java/lang/String"), accessFlags := 18, slot := 0, constantValue := 0 }, { name := "ordinal", type := .int, accessFlags := 18, slot := 1, constantValue := 0 }, { name := "hash", type := .int, accessFlags := 2, slot := 2, constantValue := 0 }]
  methods := #[]
  instanceTypes := #[(.object "java/lang/String"), .int, .int]
  staticTypes := #[]
  resolved := Array.replicate 204 none
  statics := none }

def pool6 : Array CpInfo := pool [(1, .class_ 2), (0, u "com/example/credit_clerk/creditclerk/service/Payment$Status"), (0, .fieldref 1 4), (0, .nameAndType 5 6), (0, u "PAID"), (0, u "Lcom/example/credit_clerk/creditclerk/service/Payment$Status;"), (2, u "RESERVED"), (2, u "CONFIRMED"), (2, u "CANCELLED"), (2, u "$VALUES"), (0, u "[Lcom/example/credit_clerk/creditclerk/service/Payment$Status;"), (6, .class_ 28), (1, u "java/lang/Enum"), (22, u "prepared"), (0, u "()Z"), (6, .class_ 60), (0, u "com/example/credit_clerk/creditclerk/service/Payment")] 2

def k6c0 : Code := { maxStack := 2, maxLocals := 1, code := prog_45_method_4_code, exceptionTable := #[], attributes := #[] }
def k6m0 : Method := { name := "prepared", desc := "()Z", sig := { parameters := [], returnType := some .boolean }, accessFlags := 1, code := some k6c0 }
/-- com/example/credit_clerk/creditclerk/service/Payment$Status -/
def k6 : Class := { plain "com/example/credit_clerk/creditclerk/service/Payment$Status" (some 5) with
  accessFlags := 16433
  interfaces := #[]
  cf := some (fileOf pool6 1 #[.nestHost 59] #[{ accessFlags := 1, nameIndex := 51, descriptorIndex := 52, attributes := #[] }] 16433 26 #[] #[{ accessFlags := 16409, nameIndex := 5, descriptorIndex := 6, attributes := #[] }, { accessFlags := 16409, nameIndex := 9, descriptorIndex := 6, attributes := #[] }, { accessFlags := 16409, nameIndex := 12, descriptorIndex := 6, attributes := #[] }, { accessFlags := 16409, nameIndex := 15, descriptorIndex := 6, attributes := #[] }, { accessFlags := 4122, nameIndex := 18, descriptorIndex := 19, attributes := #[] }])
  fields := #[{ name := "PAID", type := (.object "com/example/credit_clerk/creditclerk/service/Payment$Status"), accessFlags := 16409, slot := 0, constantValue := 0 }, { name := "RESERVED", type := (.object "com/example/credit_clerk/creditclerk/service/Payment$Status"), accessFlags := 16409, slot := 1, constantValue := 0 }, { name := "CONFIRMED", type := (.object "com/example/credit_clerk/creditclerk/service/Payment$Status"), accessFlags := 16409, slot := 2, constantValue := 0 }, { name := "CANCELLED", type := (.object "com/example/credit_clerk/creditclerk/service/Payment$Status"), accessFlags := 16409, slot := 3, constantValue := 0 }, { name := "$VALUES", type := (.array (.object "com/example/credit_clerk/creditclerk/service/Payment$Status")), accessFlags := 4122, slot := 4, constantValue := 0 }]
  methods := #[k6m0]
  instanceTypes := #[(.object "java/lang/String"), .int, .int]
  staticTypes := #[(.object "com/example/credit_clerk/creditclerk/service/Payment$Status"), (.object "com/example/credit_clerk/creditclerk/service/Payment$Status"), (.object "com/example/credit_clerk/creditclerk/service/Payment$Status"), (.object "com/example/credit_clerk/creditclerk/service/Payment$Status"), (.array (.object "com/example/credit_clerk/creditclerk/service/Payment$Status"))]
  resolved := Array.replicate 63 none
  statics := some 0 }

def pool7 : Array CpInfo := pool [(1, u "java/lang/Cloneable"), (0, .class_ 1), (0, u "java/lang/Object"), (0, .class_ 3)] 3

/-- java/lang/Cloneable -/
def k7 : Class := { plain "java/lang/Cloneable" (some 0) with
  accessFlags := 1537
  interfaces := #[]
  cf := some (fileOf pool7 2 #[] #[] 1537 4 #[] #[])
  fields := #[]
  methods := #[]
  instanceTypes := #[]
  staticTypes := #[]
  resolved := Array.replicate 8 none
  statics := none }

/-- the primitive byte -/
def k8 : Class := { plain "byte" none with kind := .primitive 'B', accessFlags := 0x411 }
/-- [B -/
def k9 : Class := { plain "[B" (some 0) with kind := .array 8 .byte, interfaces := #[7, 4], accessFlags := 1041 }

/-- the primitive int -/
def k10 : Class := { plain "int" none with kind := .primitive 'I', accessFlags := 0x411 }
/-- [I -/
def k11 : Class := { plain "[I" (some 0) with kind := .array 10 .int, interfaces := #[7, 4], accessFlags := 1041 }

def heap : Heap := #[{ cls := 6, slots := #[.ref 1, .ref 2, .ref 3, .ref 4, .null], vm := .statics 6 },
  { cls := 6, slots := #[.null, .int 0, .int 0], vm := .none },
  { cls := 6, slots := #[.null, .int 1, .int 0], vm := .none },
  { cls := 6, slots := #[.null, .int 2, .int 0], vm := .none },
  { cls := 6, slots := #[.null, .int 3, .int 0], vm := .none }]
def classes : Array Class := #[k0, k1, k2, k3, k4, k5, k6, k7, k8, k9, k10, k11]
def interned : List (Array UInt16 × Addr) := []
def slotsUsed : Nat := 17
def theMethod : MethodId := ⟨1, 1⟩
def args0 : Array Value := #[.int 5]
def aboutOver (below : List Frame) : State where
  vm := { classes := classes, interned := interned.toArray }
  heap := heap
  slotsUsed := slotsUsed
  threads := #[{ frames := .invoking theMethod args0 :: below }]
def below0 : List Frame := [.native { method := ⟨0, 0⟩, args := #[] }]
def about1 : State := aboutOver below0
def p0 : Program := .bare "" "" ""
def e0 : Env := launch0.env 0 0 0
theorem w_frames : about1.frames = Frame.invoking theMethod args0 :: below0 := rfl
set_option maxRecDepth 65536 in
theorem w_args : argsFit about1.vm theMethod args0 = true := by decide +kernel
set_option maxRecDepth 65536 in
theorem w_heap : heapFits about1 = true := by decide +kernel
set_option maxRecDepth 65536 in
theorem w_runnable : about1.curStatus? = some .runnable := by decide +kernel
set_option maxRecDepth 65536 in
theorem w_alone : about1.alone = true := by decide +kernel
set_option maxRecDepth 65536 in
theorem w_named : about1.methodNamed? x = some theMethod := by decide +kernel
set_option maxRecDepth 65536 in
theorem w_hears : about1.hears theMethod below0 = true := by decide +kernel
set_option maxRecDepth 65536 in
theorem w_ripe : about1.ripe theMethod args0 below0 = true := by decide +kernel
theorem w_running : about1.status = .running := rfl
set_option maxRecDepth 65536 in
theorem w_room : about1.hasRoom e0.platform room_1 = true :=
  launch0.hasRoom_least _ room_1 (by decide +kernel) (by decide +kernel) (by decide +kernel) (by decide +kernel) (by decide +kernel) (by decide +kernel)
theorem allAtoms_all (ts : List Jvm.Cond) (a : Array Jvm.Value) (st : Jvm.State) : (allAtoms ts).before a st = ts.all (fun c => c.before a st) := by
  induction ts with
  | nil => rfl
  | cons c t ih =>
    show (Jvm.Cond.and c (allAtoms t)).before a st = _
    rw [Jvm.Cond.before_and, ih, List.all_cons]
def words1 : List Jvm.Cond := Jvm.Cond.code x code maxLocals ret :: tables_1
/-- a 'code' word, met by the world's own term for the bytes: nothing is compared byte by byte -/
theorem code_word {y : MethodName} {bytes : ByteArray} {mx : Nat} {rt : Option FieldType} {a : Array Value} {s : State} {m : MethodId} {meth : Method} {c : Code} (h1 : s.methodNamed? y = some m) (h2 : s.vm.method? m = some meth) (h3 : meth.code = some c) (h4 : c.code = bytes)
    (h5 : (c.maxLocals == mx && c.exceptionTable.isEmpty && decide (c.maxStack ≤ mostOperands) && decide (meth.sig.returnType = rt) && !meth.locks && decide (parseMethodDescriptor y.desc = some meth.sig)) = true) : (Jvm.Cond.code y bytes mx rt).before a s = true := by
  simp only [Bool.and_eq_true, beq_iff_eq, Bool.not_eq_true', decide_eq_true_eq] at h5
  obtain ⟨⟨⟨⟨⟨g1, g2⟩, g3⟩, g4⟩, g5⟩, g6⟩ := h5
  simp [Cond.before, Cond.holds, Cond.value, h1, h2, h3, h4, g1, g2, g3, g4, g5, g6]
def isCode : Jvm.Cond → Bool
  | .code _ _ _ _ => true
  | _ => false
theorem all_split {L : List Jvm.Cond} {P : Jvm.Cond → Bool} (h1 : L.all (fun c => isCode c || P c) = true) (h2 : ∀ c ∈ L.filter isCode, P c = true) : L.all P = true := by
  refine List.all_eq_true.mpr fun c hc => ?_
  have h := List.all_eq_true.mp h1 c hc
  rcases Bool.eq_false_or_eq_true (isCode c) with hi | hi
  · exact h2 c (List.mem_filter.mpr ⟨hc, hi⟩)
  · simpa [hi] using h
set_option maxRecDepth 65536 in
theorem w_c0 : (Jvm.Cond.code x code maxLocals ret).before args0 about1 = true := code_word (m := ⟨1, 1⟩) (meth := k1m1) (c := k1c1) (by decide +kernel) rfl rfl rfl (by decide +kernel)
set_option maxRecDepth 65536 in
theorem w_c1 : (Jvm.Cond.code ({ cls := "com/example/credit_clerk/creditclerk/service/Payment$Status", name := "prepared", desc := "()Z" } : Jvm.MethodName) prog_45_method_4_code (1 : Nat) (Option.some Jvm.ClassFile.FieldType.boolean)).before args0 about1 = true := code_word (m := ⟨6, 0⟩) (meth := k6m0) (c := k6c0) (by decide +kernel) rfl rfl rfl (by decide +kernel)
def codes1 : List Jvm.Cond := [Jvm.Cond.code x code maxLocals ret, Jvm.Cond.code ({ cls := "com/example/credit_clerk/creditclerk/service/Payment$Status", name := "prepared", desc := "()Z" } : Jvm.MethodName) prog_45_method_4_code (1 : Nat) (Option.some Jvm.ClassFile.FieldType.boolean)]
set_option maxRecDepth 65536 in
theorem codes_eq : words1.filter isCode = codes1 := rfl
theorem w_codes : ∀ c ∈ words1.filter isCode, c.before args0 about1 = true := by
  rw [codes_eq]
  intro c hc
  simp only [codes1, List.mem_cons, List.not_mem_nil, or_false] at hc
  rcases hc with rfl | rfl
  · exact w_c0
  · exact w_c1
set_option maxRecDepth 65536 in
theorem w_t1 : words1.all (fun c => isCode c || c.before args0 about1) = true := by decide +kernel
theorem w_tables : (allAtoms (Jvm.Cond.code x code maxLocals ret :: tables_1)).before args0 about1 = true := by
  rw [allAtoms_all]
  show words1.all (fun c => c.before args0 about1) = true
  refine all_split ?_ w_codes
  rw [w_t1]
set_option maxRecDepth 65536 in
theorem w_case : (Jvm.Cond.and given_1 narrow_1).before args0 about1 = true := by decide +kernel
theorem w_applies : (headSpec (Jvm.Cond.code x code maxLocals ret :: tables_1) room_1).applies x e0.platform about1 = true :=
  (Spec.applies_iff w_frames).mpr ⟨w_running, w_runnable, w_alone, w_named, w_hears, w_ripe, w_room, w_tables⟩
theorem atStart : AtStart classFile x code maxLocals ret World_1 tables_1 room_1 Calls_1 rest_1 Pre_1 launch0 p0 e0 about1 theMethod args0 below0 :=
  ⟨lists_1, trivial, launch0.admits_env _ _ _, launch0.least_env, fairChoices_fair.cas, fairChoices_fair.clock, w_frames, w_args, w_heap, w_applies, trivial, trivial, w_case⟩
end start1
theorem witness_1 : WitnessClaimed_1 := ⟨start1.p0, start1.e0, start1.about1, start1.theMethod, start1.args0, start1.below0, start1.atStart⟩
end Jvm.Pilot.@@N@@
