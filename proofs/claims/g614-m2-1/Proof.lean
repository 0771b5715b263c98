import JvmDerived
import JvmDerived.Pilot.@@N@@Statement
import JvmDerived.Pilot.@@N@@Code
set_option linter.unusedVariables false
set_option linter.unusedSimpArgs false
namespace Jvm.Pilot.@@N@@
open Jvm Jvm.ClassFile Sem Op Lib Jvm.Free Jvm.Stand Jvm.LawKit Jvm.RoadKit Bundle Jvm.Pilot.@@N@@.Jvm.D
section OwnKit
variable {p : Program} {l : Launch} {e : Env} {R : Room} {s : State} {m : MethodId} {args : Array Value} {below : List Frame} {meth : Method} {c : Code} {T : State} {locs : List Loc} {cells slots : Nat}
/-- from T the run comes to an end of which F holds -/
def own_Go (p : Program) (e : Env) (below : List Frame) (F : State → Outcome → Prop) (T : State) : Prop := ∃ t o, Steps p.tables e below T t ∧ t.status = .running ∧ Ended t below o ∧ F t o
theorem own_step {F : State → Outcome → Prop} {A B : State} (k : ∀ t, Steps p.tables e below A t → Steps p.tables e below B t) (h : own_Go p e below F A) : own_Go p e below F B := by
  obtain ⟨t, o, h1, h2⟩ := h
  exact ⟨t, o, k t h1, h2⟩
theorem own_in {F : State → Outcome → Prop} {A B : State} (k : ∀ {t}, Steps p.tables e below A t → Steps p.tables e below B t) (h : own_Go p e below F A) : ∃ t o, Steps p.tables e below B t ∧ t.status = .running ∧ Ended t below o ∧ F t o := by
  obtain ⟨t, o, h1, h2⟩ := h
  exact ⟨t, o, k h1, h2⟩
theorem own_retI (X : Stand p l e R s m args below meth c T locs cells slots) (hx : p.tables.exec = Jvm.exec) {pc : Nat} {Ls : Array Slot} {z : Int32} {rest : List Value} (hret : meth.sig.returnType = some .int) (hd : decode c.code pc = .ok (.ireturn, 1)) {fs : List Frame}
    (hl : ∀ (f : JFrame) (acts : List Action), f.method = m → f.locked = none → f.entered = [] → (doReturn e (T.setTop f) acts (some (.int z))).1 = T.setFrames fs) : Steps p.tables e below (T.setTop (mkF m pc Ls (.int z :: rest))) (T.setFrames fs) :=
  retOut X hx hret rfl (Or.inl ⟨rfl, Or.inl rfl, _, rfl⟩) hd hl
theorem own_join {α : Type} {F : State → Outcome → Prop} {B : State} {H : Heap} (X : Stand p l e R s m args below meth c T locs cells slots) (eT : T.heap = H) (A : State → α → State) (Pr : α → Prop)
    (h1 : ∀ T' a, Stand p l e R s m args below meth c T' locs cells slots → T'.heap = H → Pr a → own_Go p e below F (A T' a))
    (h2 : (∀ T' a, Stand p l e R s m args below meth c T' locs cells slots → T'.heap = H → Pr a → own_Go p e below F (A T' a)) → own_Go p e below F B) : own_Go p e below F B := h2 h1
theorem own_sta {args : Array Value} {s : State} {C n d K : String} (h : (Jvm.Cond.exactly (.static C n d) K).value args s none s [] = some true) (w1 : (Jvm.Cond.initialized C).before args s = true) (w2 : (Jvm.Cond.laysStatic C n d).before args s = true) :
    ∃ a, (Term.static C n d).eval args s none [] s = some (.ref a) ∧ Sta s s.heap C n d (.ref a) ∧ Exa s s.heap a K := by
  obtain ⟨a, ea⟩ := exa_v h
  exact ⟨a, ea, Sta.start ea (Or.inr ⟨w1, w2⟩), Exa.start ea h⟩
theorem own_staF {args : Array Value} {s : State} {t : Term} {C n d : String} {a : Addr} {k : Int32} (ea : t.eval args s none [] s = some (.ref a)) (h : (Jvm.Cond.eq (.field t C n d) (.int k)).value args s none s [] = some true) : Fld s s.heap a C n d (.int k) := by
  obtain ⟨x, y, e1, e2, -, -⟩ := cmp_v (Or.inl h)
  cases (Term.int_eval k).symm.trans e2
  have e3 : x = .int k := by
    cases x <;> simp [Cond.value, e1, Term.int_eval] at h
    rw [h]
  rw [fld_at ea, e3] at e1
  exact Fld.start e1
end OwnKit
theorem pn_0 : plainName "java/lang/Record" = true := by first | (simp [plainName, overriddenIn]; done) | decide +kernel
theorem pn_1 : plainName "com/example/forgecourt/forgecourt/negotiation/Sequence$Move" = true := by first | (simp [plainName, overriddenIn]; done) | decide +kernel
theorem pn_2 : plainName "com/example/forgecourt/forgecourt/negotiation/MoveBackPinLaw" = true := by first | (simp [plainName, overriddenIn]; done) | decide +kernel
theorem pd_0 : parseMethodDescriptor "()V" = some ⟨[], none⟩ := by decide +kernel
theorem pd_1 : parseMethodDescriptor "(II)V" = some ⟨[.int, .int], none⟩ := by decide +kernel
theorem pd_2 : parseMethodDescriptor "()Lcom/example/forgecourt/forgecourt/negotiation/Sequence$Move;" = some ⟨[], some (.object "com/example/forgecourt/forgecourt/negotiation/Sequence$Move")⟩ := by decide +kernel
theorem pd_3 : parseMethodDescriptor "()I" = some ⟨[], some .int⟩ := by decide +kernel
theorem d1_0 : decode jdk_30_method_1_code 0 = .ok (.aload_n 0, 1) := by decide +kernel
theorem d1_1 : decode jdk_30_method_1_code 1 = .ok (.invokespecial 1, 3) := by decide +kernel
theorem d1_4 : decode jdk_30_method_1_code 4 = .ok (.return_, 1) := by decide +kernel
theorem ef_1 (m : MethodId) (r : Addr) : entryFrame m #[(.ref r)] 1 = mkF m 0 #[.val (.ref r)] [] := by first | (simp [entryFrame, mkF, argsToLocals, Value.category]; done) | rfl
def Q1 (Z : State) (r : Addr) (h0 : Heap) (n0 : Nat) (v : Option Value) (h : Heap) (L : List Loc) : Prop := v = none ∧ Fr n0 L ∧ h = h0
set_option maxRecDepth 65536 in
set_option maxHeartbeats 40000000 in
theorem rm1 (l : Launch) (Z : State) (a0 : Array Value) (hw : ∀ d ∈ tables_1, d.before a0 Z = true) (ws : List Jvm.Cond) (r : Addr) (h0 : Heap) (n0 : Nat) (Z0 : n0 ≤ h0.size)  :
    MetFree l (⟨"java/lang/Record", "<init>", "()V"⟩ : MethodName) (head1 (Jvm.Cond.code (⟨"java/lang/Record", "<init>", "()V"⟩ : MethodName) jdk_30_method_1_code 1 none :: ws) ({ frames := 1, cells := 0, slots := 0, locals := 12 } : Room)) (fun ar_ U => ar_ = #[(.ref r)] ∧ Z.Warmed39 U.vm ∧ U.heap = h0) (fun _ _ _ _ _ => True) (fun _ U o U' => ∃ v L, o = .returned v ∧ Q1 Z r  h0 n0 v U'.heap L ∧ FrameEnd U o U' L ({ frames := 1, cells := 0, slots := 0, locals := 12 } : Room).cells ({ frames := 1, cells := 0, slots := 0, locals := 12 } : Room).slots) := by
  refine MetFree.of_bodySF (plainFor_of_name pn_0) hisR ?_
  intro p e s m args below meth c s₁ Bd hml0 hP hK
  obtain ⟨rfl, hZ, hh⟩ := hP
  have hx := Bd.exec
  have hby := Bd.bytes
  have hml : c.maxLocals = 1 := hml0
  have hown : s.vm.findClass "java/lang/Record" = some m.cls := findClass_of_methodNamed Bd.named
  have hnm := (name_of_methodNamed Bd.named Bd.method).1
  have X0 : Stand p l e ({ frames := 1, cells := 0, slots := 0, locals := 12 } : Room) s m #[(.ref r)] below meth c s₁ [] 0 0 := Stand.of_body Bd
  have e0 : s₁.heap = h0 := by rw [← hh, Bd.state]; rfl
  have N0 := Fr.nil n0
  refine own_in (castTop (ef_1 m r)) ?_
  show own_Go _ _ _ _ (s₁.setTop (mkF m 0 #[.val (.ref r)] []))
  refine own_step (fun _ κ => XS.aloadN X0.here hx rfl (hb hby d1_0) rfl rfl κ) ?_
  show own_Go _ _ _ _ (s₁.setTop (mkF m 1 #[.val (.ref r)] [(.ref r)]))
  obtain ⟨T1, X1, e1, st1⟩ := initO X0 hx hZ hown (hw _ (List.mem_of_getElem? (i := 11) rfl)) (hw _ (List.mem_of_getElem? (i := 12) rfl)) (hw _ (List.mem_of_getElem? (i := 13) rfl)) e0 (g := (mkF m 1 #[.val (.ref r)] [(.ref r)])) rfl (by rw [hml]; rfl) rfl (hb hby d1_1) (by decide) (W := 0) (by show 2 * 0 + _ ≤ _; exact Nat.le_of_eq rfl) (by decide)
  refine own_step st1 ?_
  show own_Go _ _ _ _ (T1.setTop (mkF m 4 #[.val (.ref r)] []))
  obtain ⟨fs, hr, hrun, hended, hW, hsame⟩ := X1.leave (v := none) (fun _ => rfl)
  refine ⟨_, _, X1.returnOut hx Bd.returns (hb hby d1_4) hr, hrun, hended, _, _, rfl, ?_, ⟨_, rfl⟩, hW, hsame.mono (by decide) (by decide)⟩
  show Q1 Z r  h0 n0 _ T1.heap _
  rw [e1]
  exact ⟨rfl, N0, rfl⟩
theorem d2_0 : decode prog_94_method_1_code 0 = .ok (.aload_n 0, 1) := by decide +kernel
theorem d2_1 : decode prog_94_method_1_code 1 = .ok (.invokespecial 1, 3) := by decide +kernel
theorem d2_4 : decode prog_94_method_1_code 4 = .ok (.aload_n 0, 1) := by decide +kernel
theorem d2_5 : decode prog_94_method_1_code 5 = .ok (.iload_n 1, 1) := by decide +kernel
theorem d2_6 : decode prog_94_method_1_code 6 = .ok (.putfield 7, 3) := by decide +kernel
theorem d2_9 : decode prog_94_method_1_code 9 = .ok (.aload_n 0, 1) := by decide +kernel
theorem d2_10 : decode prog_94_method_1_code 10 = .ok (.iload_n 2, 1) := by decide +kernel
theorem d2_11 : decode prog_94_method_1_code 11 = .ok (.putfield 13, 3) := by decide +kernel
theorem d2_14 : decode prog_94_method_1_code 14 = .ok (.return_, 1) := by decide +kernel
theorem ef_2 (m : MethodId) (a : Addr) (pf : Int32) (pt : Int32) : entryFrame m #[(.ref a), (.int pf), (.int pt)] 3 = mkF m 0 #[.val (.ref a), .val (.int pf), .val (.int pt)] [] := by first | (simp [entryFrame, mkF, argsToLocals, Value.category]; done) | rfl
def Q2 (Z : State) (a : Addr) (pf : Int32) (pt : Int32) (h0 : Heap) (n0 : Nat) (v : Option Value) (h : Heap) (L : List Loc) : Prop := v = none ∧ Fr n0 L ∧ Keep h0 h [a] ∧ (Exa Z h a "com/example/forgecourt/forgecourt/negotiation/Sequence$Move") ∧ (Fld Z h a "com/example/forgecourt/forgecourt/negotiation/Sequence$Move" "from" "I" (.int pf)) ∧ (Fld Z h a "com/example/forgecourt/forgecourt/negotiation/Sequence$Move" "to" "I" (.int pt))
set_option maxRecDepth 65536 in
set_option maxHeartbeats 40000000 in
theorem rm2 (l : Launch) (Z : State) (a0 : Array Value) (hw : ∀ d ∈ tables_1, d.before a0 Z = true) (ws : List Jvm.Cond) (a : Addr) (pf : Int32) (pt : Int32) (h0 : Heap) (n0 : Nat) (Z0 : n0 ≤ h0.size) (P0 : Exa Z h0 a "com/example/forgecourt/forgecourt/negotiation/Sequence$Move") (P1 : Fld Z h0 a "com/example/forgecourt/forgecourt/negotiation/Sequence$Move" "from" "I" (.int (0 : Int32))) (P2 : Fld Z h0 a "com/example/forgecourt/forgecourt/negotiation/Sequence$Move" "to" "I" (.int (0 : Int32))) (P3 : n0 ≤ a) :
    MetFree l (⟨"com/example/forgecourt/forgecourt/negotiation/Sequence$Move", "<init>", "(II)V"⟩ : MethodName) (head1 (Jvm.Cond.code (⟨"com/example/forgecourt/forgecourt/negotiation/Sequence$Move", "<init>", "(II)V"⟩ : MethodName) prog_94_method_1_code 3 none :: ws) ({ frames := 2, cells := 0, slots := 0, locals := 24 } : Room)) (fun ar_ U => ar_ = #[(.ref a), (.int pf), (.int pt)] ∧ Z.Warmed39 U.vm ∧ U.heap = h0) (fun _ _ _ _ _ => True) (fun _ U o U' => ∃ v L, o = .returned v ∧ Q2 Z a pf pt  h0 n0 v U'.heap L ∧ FrameEnd U o U' L ({ frames := 2, cells := 0, slots := 0, locals := 24 } : Room).cells ({ frames := 2, cells := 0, slots := 0, locals := 24 } : Room).slots) := by
  refine MetFree.of_bodySF (plainFor_of_name pn_1) hisR ?_
  intro p e s m args below meth c s₁ Bd hml0 hP hK
  obtain ⟨rfl, hZ, hh⟩ := hP
  have hx := Bd.exec
  have hby := Bd.bytes
  have hml : c.maxLocals = 3 := hml0
  have hown : s.vm.findClass "com/example/forgecourt/forgecourt/negotiation/Sequence$Move" = some m.cls := findClass_of_methodNamed Bd.named
  have hnm := (name_of_methodNamed Bd.named Bd.method).1
  have X0 : Stand p l e ({ frames := 2, cells := 0, slots := 0, locals := 24 } : Room) s m #[(.ref a), (.int pf), (.int pt)] below meth c s₁ [] 0 0 := Stand.of_body Bd
  have e0 : s₁.heap = h0 := by rw [← hh, Bd.state]; rfl
  have N0 := Fr.nil n0
  refine own_in (castTop (ef_2 m a pf pt)) ?_
  show own_Go _ _ _ _ (s₁.setTop (mkF m 0 #[.val (.ref a), .val (.int pf), .val (.int pt)] []))
  refine own_step (fun _ κ => XS.aloadN X0.here hx rfl (hb hby d2_0) rfl rfl κ) ?_
  show own_Go _ _ _ _ (s₁.setTop (mkF m 1 #[.val (.ref a), .val (.int pf), .val (.int pt)] [(.ref a)]))
  obtain ⟨vr1, _, ⟨T1, L1, k1, n1⟩, -, X1, ⟨Lc1, hQ1, l1, y1, z1⟩, st1⟩ := X0.specialBack hx (y := (⟨"java/lang/Record", "<init>", "()V"⟩ : MethodName)) rfl hown (mvT hZ (hw _ (List.mem_of_getElem? (i := 6) rfl))) (mvT hZ (hw _ (List.mem_of_getElem? (i := 7) rfl))) (mvT hZ (hw _ (List.mem_of_getElem? (i := 10) rfl))) (by decide) (backOf (W := 0) (rm1 l Z a0 hw [] a  h0 n0 Z0 ) hZ (hw _ (List.mem_of_getElem? (i := 10) rfl)) (hw _ (List.mem_of_getElem? (i := 9) rfl)) (by decide) (by decide)) (g := (mkF m 1 #[.val (.ref a), .val (.int pf), .val (.int pt)] [(.ref a)])) rfl (by rw [hml]; rfl) (Steps.refl _) (a := a) (argsL := []) (rest := []) (lenOf pd_0 rfl) rfl (by show 2 * 0 + _ ≤ _; exact Nat.le_of_eq rfl) (hb hby d2_1) (fun _ _ => ⟨rfl, e0, (by decide : 0 + 0 ≤ _), (by decide : 0 + 0 ≤ _)⟩)
  dsimp only [Pt.U, Pt.locs, Pt.cells, Pt.slots] at X1 l1 y1 z1 st1 hQ1
  subst l1 y1 z1
  obtain ⟨rfl, Nq1, eq1⟩ := hQ1
  have N1 := Fr.app N0 Nq1
  refine own_step (fun _ κ => st1.trans κ) ?_
  show own_Go _ _ _ _ (T1.setTop (mkF m 4 #[.val (.ref a), .val (.int pf), .val (.int pt)] []))
  refine own_step (fun _ κ => XS.aloadN X1.here hx rfl (hb hby d2_4) rfl rfl κ) ?_
  show own_Go _ _ _ _ (T1.setTop (mkF m 5 #[.val (.ref a), .val (.int pf), .val (.int pt)] [(.ref a)]))
  refine own_step (fun _ κ => XS.iloadN X1.here hx rfl (hb hby d2_5) rfl κ) ?_
  show own_Go _ _ _ _ (T1.setTop (mkF m 6 #[.val (.ref a), .val (.int pf), .val (.int pt)] [(.int pf), (.ref a)]))
  obtain ⟨T2, h2, X2, e2, W2, st2⟩ := putF X1 hx hZ hown (host := "") (Or.inl (hw _ (List.mem_of_getElem? (i := 14) rfl))) Via.refl eq1 P1 P0 (Or.inr ⟨(hw _ (List.mem_of_getElem? (i := 15) rfl)), rfl, hnm⟩) (hw _ (List.mem_of_getElem? (i := 1) rfl)) (ty := .int) (by decide) rfl rfl (g := (mkF m 6 #[.val (.ref a), .val (.int pf), .val (.int pt)] [(.int pf), (.ref a)])) rfl rfl (hb hby d2_6)
  refine own_step st2 ?_
  have N2 := Fr.snoc X2 N1 P3
  have Fw2 := P1.same W2
  have f3 := P0.wr W2
  have f4 := P2.other W2 (Or.inr (slot_ne (Or.inr (hw _ (List.mem_of_getElem? (i := 17) rfl))) (Or.inr (hw _ (List.mem_of_getElem? (i := 15) rfl))) (by decide) (t := .int) (t' := .int) (by decide) (by decide)))
  have K5 : Keep h0 h2 [a] := (Keep.refl h0 [a]).wr W2 (Or.inl (List.mem_of_getElem? (i := 0) rfl))
  have z6 : n0 ≤ h2.size := Nat.le_trans Z0 (Keep.of_wr W2).1
  show own_Go _ _ _ _ (T2.setTop (mkF m 9 #[.val (.ref a), .val (.int pf), .val (.int pt)] []))
  refine own_step (fun _ κ => XS.aloadN X2.here hx rfl (hb hby d2_9) rfl rfl κ) ?_
  show own_Go _ _ _ _ (T2.setTop (mkF m 10 #[.val (.ref a), .val (.int pf), .val (.int pt)] [(.ref a)]))
  refine own_step (fun _ κ => XS.iloadN X2.here hx rfl (hb hby d2_10) rfl κ) ?_
  show own_Go _ _ _ _ (T2.setTop (mkF m 11 #[.val (.ref a), .val (.int pf), .val (.int pt)] [(.int pt), (.ref a)]))
  obtain ⟨T7, h7, X7, e7, W7, st7⟩ := putF X2 hx hZ hown (host := "") (Or.inl (hw _ (List.mem_of_getElem? (i := 16) rfl))) Via.refl e2 f4 f3 (Or.inr ⟨(hw _ (List.mem_of_getElem? (i := 17) rfl)), rfl, hnm⟩) (hw _ (List.mem_of_getElem? (i := 1) rfl)) (ty := .int) (by decide) rfl rfl (g := (mkF m 11 #[.val (.ref a), .val (.int pf), .val (.int pt)] [(.int pt), (.ref a)])) rfl rfl (hb hby d2_11)
  refine own_step st7 ?_
  have N7 := Fr.snoc X7 N2 P3
  have Fw7 := f4.same W7
  have f8 := f3.wr W7
  have f9 := Fw2.other W7 (Or.inr (slot_ne (Or.inr (hw _ (List.mem_of_getElem? (i := 15) rfl))) (Or.inr (hw _ (List.mem_of_getElem? (i := 17) rfl))) (by decide) (t := .int) (t' := .int) (by decide) (by decide)))
  have K10 : Keep h0 h7 [a] := K5.wr W7 (Or.inl (List.mem_of_getElem? (i := 0) rfl))
  have z11 : n0 ≤ h7.size := Nat.le_trans z6 (Keep.of_wr W7).1
  show own_Go _ _ _ _ (T7.setTop (mkF m 14 #[.val (.ref a), .val (.int pf), .val (.int pt)] []))
  obtain ⟨fs, hr, hrun, hended, hW, hsame⟩ := X7.leave (v := none) (fun _ => rfl)
  refine ⟨_, _, X7.returnOut hx Bd.returns (hb hby d2_14) hr, hrun, hended, _, _, rfl, ?_, ⟨_, rfl⟩, hW, hsame.mono (by decide) (by decide)⟩
  show Q2 Z a pf pt  h0 n0 _ T7.heap _
  rw [e7]
  exact ⟨rfl, N7, K10, f8, f9, Fw7⟩
theorem d3_0 : decode prog_94_method_2_code 0 = .ok (.new 8, 3) := by decide +kernel
theorem d3_3 : decode prog_94_method_2_code 3 = .ok (.dup, 1) := by decide +kernel
theorem d3_4 : decode prog_94_method_2_code 4 = .ok (.aload_n 0, 1) := by decide +kernel
theorem d3_5 : decode prog_94_method_2_code 5 = .ok (.getfield 13, 3) := by decide +kernel
theorem d3_8 : decode prog_94_method_2_code 8 = .ok (.aload_n 0, 1) := by decide +kernel
theorem d3_9 : decode prog_94_method_2_code 9 = .ok (.getfield 7, 3) := by decide +kernel
theorem d3_12 : decode prog_94_method_2_code 12 = .ok (.invokespecial 16, 3) := by decide +kernel
theorem d3_15 : decode prog_94_method_2_code 15 = .ok (.areturn, 1) := by decide +kernel
theorem ef_3 (m : MethodId) (a : Addr) : entryFrame m #[(.ref a)] 1 = mkF m 0 #[.val (.ref a)] [] := by first | (simp [entryFrame, mkF, argsToLocals, Value.category]; done) | rfl
def Q3 (Z : State) (a : Addr) (pf : Int32) (pt : Int32) (h0 : Heap) (n0 : Nat) (v : Option Value) (h : Heap) (L : List Loc) : Prop := ∃ b : Addr, v = some (.ref b) ∧ Fr n0 L ∧ Keep h0 h [] ∧ (h0.size ≤ b) ∧ (Exa Z h b "com/example/forgecourt/forgecourt/negotiation/Sequence$Move") ∧ (Fld Z h b "com/example/forgecourt/forgecourt/negotiation/Sequence$Move" "from" "I" (.int pt)) ∧ (Fld Z h b "com/example/forgecourt/forgecourt/negotiation/Sequence$Move" "to" "I" (.int pf))
set_option maxRecDepth 65536 in
set_option maxHeartbeats 40000000 in
theorem rm3 (l : Launch) (Z : State) (a0 : Array Value) (hw : ∀ d ∈ tables_1, d.before a0 Z = true) (ws : List Jvm.Cond) (a : Addr) (pf : Int32) (pt : Int32) (h0 : Heap) (n0 : Nat) (Z0 : n0 ≤ h0.size) (P0 : Exa Z h0 a "com/example/forgecourt/forgecourt/negotiation/Sequence$Move") (P1 : Fld Z h0 a "com/example/forgecourt/forgecourt/negotiation/Sequence$Move" "from" "I" (.int pf)) (P2 : Fld Z h0 a "com/example/forgecourt/forgecourt/negotiation/Sequence$Move" "to" "I" (.int pt)) :
    MetFree l (⟨"com/example/forgecourt/forgecourt/negotiation/Sequence$Move", "back", "()Lcom/example/forgecourt/forgecourt/negotiation/Sequence$Move;"⟩ : MethodName) (head1 (Jvm.Cond.code (⟨"com/example/forgecourt/forgecourt/negotiation/Sequence$Move", "back", "()Lcom/example/forgecourt/forgecourt/negotiation/Sequence$Move;"⟩ : MethodName) prog_94_method_2_code 1 (some (.object "com/example/forgecourt/forgecourt/negotiation/Sequence$Move")) :: ws) ({ frames := 3, cells := 1, slots := 2, locals := 39 } : Room)) (fun ar_ U => ar_ = #[(.ref a)] ∧ Z.Warmed39 U.vm ∧ U.heap = h0) (fun _ _ _ _ _ => True) (fun _ U o U' => ∃ v L, o = .returned v ∧ Q3 Z a pf pt h0 n0 v U'.heap L ∧ FrameEnd U o U' L ({ frames := 3, cells := 1, slots := 2, locals := 39 } : Room).cells ({ frames := 3, cells := 1, slots := 2, locals := 39 } : Room).slots) := by
  refine MetFree.of_bodySF (plainFor_of_name pn_1) hisR ?_
  intro p e s m args below meth c s₁ Bd hml0 hP hK
  obtain ⟨rfl, hZ, hh⟩ := hP
  have hx := Bd.exec
  have hby := Bd.bytes
  have hml : c.maxLocals = 1 := hml0
  have hown : s.vm.findClass "com/example/forgecourt/forgecourt/negotiation/Sequence$Move" = some m.cls := findClass_of_methodNamed Bd.named
  have hnm := (name_of_methodNamed Bd.named Bd.method).1
  have X0 : Stand p l e ({ frames := 3, cells := 1, slots := 2, locals := 39 } : Room) s m #[(.ref a)] below meth c s₁ [] 0 0 := Stand.of_body Bd
  have e0 : s₁.heap = h0 := by rw [← hh, Bd.state]; rfl
  have N0 := Fr.nil n0
  refine own_in (castTop (ef_3 m a)) ?_
  show own_Go _ _ _ _ (s₁.setTop (mkF m 0 #[.val (.ref a)] []))
  obtain ⟨T1, h1, X1, e1, E1, A1, D1, U1, st1⟩ := newO X0 hx hZ hown (hw _ (List.mem_of_getElem? (i := 23) rfl)) (hw _ (List.mem_of_getElem? (i := 1) rfl)) (hw _ (List.mem_of_getElem? (i := 2) rfl)) e0 (g := (mkF m 0 #[.val (.ref a)] [])) rfl (hb hby d3_0) (by decide) (by decide)
  obtain ⟨b1, g1⟩ : ∃ z, z = h0.size := ⟨_, rfl⟩
  rw [← g1] at A1 D1 U1 st1
  refine own_step st1 ?_
  have ne2 : a ≠ b1 := Nat.ne_of_lt (Nat.lt_of_lt_of_le P0.lt (Nat.le_of_eq g1.symm))
  have ge3 : n0 ≤ b1 := Nat.le_trans Z0 (Nat.le_of_eq g1.symm)
  have sz4 : h0.size ≤ b1 := Nat.le_trans (Keep.refl h0 []).1 (Nat.le_of_eq g1.symm)
  have f5 := P0.ext E1
  have f6 := P1.ext E1
  have f7 := P2.ext E1
  have K8 : Keep h0 h1 [] := (Keep.refl h0 []).ext E1
  have z9 : n0 ≤ h1.size := Nat.le_trans Z0 E1.1
  have F1_from : Fld Z h1 b1 "com/example/forgecourt/forgecourt/negotiation/Sequence$Move" "from" "I" (.int (0 : Int32)) := D1 (Or.inr (hw _ (List.mem_of_getElem? (i := 15) rfl))) (ty := .int) (by decide)
  have F1_to : Fld Z h1 b1 "com/example/forgecourt/forgecourt/negotiation/Sequence$Move" "to" "I" (.int (0 : Int32)) := D1 (Or.inr (hw _ (List.mem_of_getElem? (i := 17) rfl))) (ty := .int) (by decide)
  show own_Go _ _ _ _ (T1.setTop (mkF m 3 #[.val (.ref a)] [(.ref b1)]))
  refine own_step (fun _ κ => XS.dup X1.here hx rfl (hb hby d3_3) rfl rfl κ) ?_
  show own_Go _ _ _ _ (T1.setTop (mkF m 4 #[.val (.ref a)] [(.ref b1), (.ref b1)]))
  refine own_step (fun _ κ => XS.aloadN X1.here hx rfl (hb hby d3_4) rfl rfl κ) ?_
  show own_Go _ _ _ _ (T1.setTop (mkF m 5 #[.val (.ref a)] [(.ref a), (.ref b1), (.ref b1)]))
  obtain ⟨T10, X10, e10, st10⟩ := getF X1 hx hZ hown (host := "") (Or.inl (hw _ (List.mem_of_getElem? (i := 16) rfl))) Via.refl e1 f7 (g := (mkF m 5 #[.val (.ref a)] [(.ref a), (.ref b1), (.ref b1)])) rfl rfl (hb hby d3_5)
  refine own_step st10 ?_
  show own_Go _ _ _ _ (T10.setTop (mkF m 8 #[.val (.ref a)] [(.int pt), (.ref b1), (.ref b1)]))
  refine own_step (fun _ κ => XS.aloadN X10.here hx rfl (hb hby d3_8) rfl rfl κ) ?_
  show own_Go _ _ _ _ (T10.setTop (mkF m 9 #[.val (.ref a)] [(.ref a), (.int pt), (.ref b1), (.ref b1)]))
  obtain ⟨T11, X11, e11, st11⟩ := getF X10 hx hZ hown (host := "") (Or.inl (hw _ (List.mem_of_getElem? (i := 14) rfl))) Via.refl e10 f6 (g := (mkF m 9 #[.val (.ref a)] [(.ref a), (.int pt), (.ref b1), (.ref b1)])) rfl rfl (hb hby d3_9)
  refine own_step st11 ?_
  show own_Go _ _ _ _ (T11.setTop (mkF m 12 #[.val (.ref a)] [(.int pf), (.int pt), (.ref b1), (.ref b1)]))
  obtain ⟨vr12, _, ⟨T12, L12, k12, n12⟩, -, X12, ⟨Lc12, hQ12, l12, y12, z12⟩, st12⟩ := X11.specialBack hx (y := (⟨"com/example/forgecourt/forgecourt/negotiation/Sequence$Move", "<init>", "(II)V"⟩ : MethodName)) rfl hown (mvT hZ (hw _ (List.mem_of_getElem? (i := 24) rfl))) (mvT hZ (hw _ (List.mem_of_getElem? (i := 4) rfl))) (mvT hZ (hw _ (List.mem_of_getElem? (i := 5) rfl))) (by decide) (backOf (W := 1) (rm2 l Z a0 hw [] b1 pt pf  h1 n0 z9 A1 F1_from F1_to ge3) hZ (hw _ (List.mem_of_getElem? (i := 5) rfl)) (hw _ (List.mem_of_getElem? (i := 2) rfl)) (by decide) (by decide)) (g := (mkF m 12 #[.val (.ref a)] [(.int pf), (.int pt), (.ref b1), (.ref b1)])) rfl (by rw [hml]; rfl) (Steps.refl _) (a := b1) (argsL := [(.int pt), (.int pf)]) (rest := [(.ref b1)]) (lenOf pd_1 rfl) rfl (by show 2 * 0 + _ ≤ _; exact Nat.le_of_eq rfl) (hb hby d3_12) (fun _ _ => ⟨rfl, e11, (by decide : 1 + 0 ≤ _), (by decide : 2 + 0 ≤ _)⟩)
  dsimp only [Pt.U, Pt.locs, Pt.cells, Pt.slots] at X12 l12 y12 z12 st12 hQ12
  subst l12 y12 z12
  obtain ⟨rfl, Nq12, Kq12, p12_0, p12_1, p12_2⟩ := hQ12
  have N12 := Fr.app N0 Nq12
  have f13 := f5.keep Kq12
  have f14 := f6.keep Kq12 (ninS ne2 nin0)
  have f15 := f7.keep Kq12 (ninS ne2 nin0)
  have f16 := A1.keep Kq12
  have K17 : Keep h0 T12.heap [] := K8.trans Kq12 (allS (Or.inr sz4) all0)
  have z18 : n0 ≤ T12.heap.size := Nat.le_trans z9 Kq12.1
  refine own_step (fun _ κ => st12.trans κ) ?_
  show own_Go _ _ _ _ (T12.setTop (mkF m 15 #[.val (.ref a)] [(.ref b1)]))
  obtain ⟨fs, hr, hrun, hended, hW, hsame⟩ := X12.leave (v := some (.ref b1)) (fun h => by rw [Bd.returns] at h; cases h)
  refine ⟨_, _, retOut X12 hx Bd.returns rfl (Or.inr (Or.inr (Or.inr (Or.inr ⟨rfl, rfl, rfl⟩)))) (hb hby d3_15) hr, hrun, hended, _, _, rfl, ?_, ⟨_, rfl⟩, hW, hsame.mono (by decide) (by decide)⟩
  show Q3 Z a pf pt h0 n0 _ T12.heap _
  skip
  exact ⟨b1, rfl, N12, K17, sz4, p12_0, p12_1, p12_2⟩
theorem d4_0 : decode prog_94_method_6_code 0 = .ok (.aload_n 0, 1) := by decide +kernel
theorem d4_1 : decode prog_94_method_6_code 1 = .ok (.getfield 7, 3) := by decide +kernel
theorem d4_4 : decode prog_94_method_6_code 4 = .ok (.ireturn, 1) := by decide +kernel
theorem ef_4 (m : MethodId) (a : Addr) : entryFrame m #[(.ref a)] 1 = mkF m 0 #[.val (.ref a)] [] := by first | (simp [entryFrame, mkF, argsToLocals, Value.category]; done) | rfl
def Q4 (Z : State) (a : Addr) (pf : Int32) (h0 : Heap) (n0 : Nat) (v : Option Value) (h : Heap) (L : List Loc) : Prop := v = some (.int pf) ∧ Fr n0 L ∧ h = h0
set_option maxRecDepth 65536 in
set_option maxHeartbeats 40000000 in
theorem rm4 (l : Launch) (Z : State) (a0 : Array Value) (hw : ∀ d ∈ tables_1, d.before a0 Z = true) (ws : List Jvm.Cond) (a : Addr) (pf : Int32) (h0 : Heap) (n0 : Nat) (Z0 : n0 ≤ h0.size) (P0 : Fld Z h0 a "com/example/forgecourt/forgecourt/negotiation/Sequence$Move" "from" "I" (.int pf)) :
    MetFree l (⟨"com/example/forgecourt/forgecourt/negotiation/Sequence$Move", "from", "()I"⟩ : MethodName) (head1 (Jvm.Cond.code (⟨"com/example/forgecourt/forgecourt/negotiation/Sequence$Move", "from", "()I"⟩ : MethodName) prog_94_method_6_code 1 (some .int) :: ws) ({ frames := 0, cells := 0, slots := 0, locals := 0 } : Room)) (fun ar_ U => ar_ = #[(.ref a)] ∧ Z.Warmed39 U.vm ∧ U.heap = h0) (fun _ _ _ _ _ => True) (fun _ U o U' => ∃ v L, o = .returned v ∧ Q4 Z a pf h0 n0 v U'.heap L ∧ FrameEnd U o U' L ({ frames := 0, cells := 0, slots := 0, locals := 0 } : Room).cells ({ frames := 0, cells := 0, slots := 0, locals := 0 } : Room).slots) := by
  refine MetFree.of_bodySF (plainFor_of_name pn_1) hisR ?_
  intro p e s m args below meth c s₁ Bd hml0 hP hK
  obtain ⟨rfl, hZ, hh⟩ := hP
  have hx := Bd.exec
  have hby := Bd.bytes
  have hml : c.maxLocals = 1 := hml0
  have hown : s.vm.findClass "com/example/forgecourt/forgecourt/negotiation/Sequence$Move" = some m.cls := findClass_of_methodNamed Bd.named
  have hnm := (name_of_methodNamed Bd.named Bd.method).1
  have X0 : Stand p l e ({ frames := 0, cells := 0, slots := 0, locals := 0 } : Room) s m #[(.ref a)] below meth c s₁ [] 0 0 := Stand.of_body Bd
  have e0 : s₁.heap = h0 := by rw [← hh, Bd.state]; rfl
  have N0 := Fr.nil n0
  refine own_in (castTop (ef_4 m a)) ?_
  show own_Go _ _ _ _ (s₁.setTop (mkF m 0 #[.val (.ref a)] []))
  refine own_step (fun _ κ => XS.aloadN X0.here hx rfl (hb hby d4_0) rfl rfl κ) ?_
  show own_Go _ _ _ _ (s₁.setTop (mkF m 1 #[.val (.ref a)] [(.ref a)]))
  obtain ⟨T1, X1, e1, st1⟩ := getF X0 hx hZ hown (host := "") (Or.inl (hw _ (List.mem_of_getElem? (i := 14) rfl))) Via.refl e0 P0 (g := (mkF m 1 #[.val (.ref a)] [(.ref a)])) rfl rfl (hb hby d4_1)
  refine own_step st1 ?_
  show own_Go _ _ _ _ (T1.setTop (mkF m 4 #[.val (.ref a)] [(.int pf)]))
  obtain ⟨fs, hr, hrun, hended, hW, hsame⟩ := X1.leave (v := some (.int pf)) (fun h => by rw [Bd.returns] at h; cases h)
  refine ⟨_, _, own_retI X1 hx Bd.returns (hb hby d4_4) hr, hrun, hended, _, _, rfl, ?_, ⟨_, rfl⟩, hW, hsame.mono (by decide) (by decide)⟩
  show Q4 Z a pf h0 n0 _ T1.heap _
  rw [e1]
  exact ⟨rfl, N0, rfl⟩
theorem d5_0 : decode prog_94_method_7_code 0 = .ok (.aload_n 0, 1) := by decide +kernel
theorem d5_1 : decode prog_94_method_7_code 1 = .ok (.getfield 13, 3) := by decide +kernel
theorem d5_4 : decode prog_94_method_7_code 4 = .ok (.ireturn, 1) := by decide +kernel
theorem ef_5 (m : MethodId) (a : Addr) : entryFrame m #[(.ref a)] 1 = mkF m 0 #[.val (.ref a)] [] := by first | (simp [entryFrame, mkF, argsToLocals, Value.category]; done) | rfl
def Q5 (Z : State) (a : Addr) (pt : Int32) (h0 : Heap) (n0 : Nat) (v : Option Value) (h : Heap) (L : List Loc) : Prop := v = some (.int pt) ∧ Fr n0 L ∧ h = h0
set_option maxRecDepth 65536 in
set_option maxHeartbeats 40000000 in
theorem rm5 (l : Launch) (Z : State) (a0 : Array Value) (hw : ∀ d ∈ tables_1, d.before a0 Z = true) (ws : List Jvm.Cond) (a : Addr) (pt : Int32) (h0 : Heap) (n0 : Nat) (Z0 : n0 ≤ h0.size) (P0 : Fld Z h0 a "com/example/forgecourt/forgecourt/negotiation/Sequence$Move" "to" "I" (.int pt)) :
    MetFree l (⟨"com/example/forgecourt/forgecourt/negotiation/Sequence$Move", "to", "()I"⟩ : MethodName) (head1 (Jvm.Cond.code (⟨"com/example/forgecourt/forgecourt/negotiation/Sequence$Move", "to", "()I"⟩ : MethodName) prog_94_method_7_code 1 (some .int) :: ws) ({ frames := 0, cells := 0, slots := 0, locals := 0 } : Room)) (fun ar_ U => ar_ = #[(.ref a)] ∧ Z.Warmed39 U.vm ∧ U.heap = h0) (fun _ _ _ _ _ => True) (fun _ U o U' => ∃ v L, o = .returned v ∧ Q5 Z a pt h0 n0 v U'.heap L ∧ FrameEnd U o U' L ({ frames := 0, cells := 0, slots := 0, locals := 0 } : Room).cells ({ frames := 0, cells := 0, slots := 0, locals := 0 } : Room).slots) := by
  refine MetFree.of_bodySF (plainFor_of_name pn_1) hisR ?_
  intro p e s m args below meth c s₁ Bd hml0 hP hK
  obtain ⟨rfl, hZ, hh⟩ := hP
  have hx := Bd.exec
  have hby := Bd.bytes
  have hml : c.maxLocals = 1 := hml0
  have hown : s.vm.findClass "com/example/forgecourt/forgecourt/negotiation/Sequence$Move" = some m.cls := findClass_of_methodNamed Bd.named
  have hnm := (name_of_methodNamed Bd.named Bd.method).1
  have X0 : Stand p l e ({ frames := 0, cells := 0, slots := 0, locals := 0 } : Room) s m #[(.ref a)] below meth c s₁ [] 0 0 := Stand.of_body Bd
  have e0 : s₁.heap = h0 := by rw [← hh, Bd.state]; rfl
  have N0 := Fr.nil n0
  refine own_in (castTop (ef_5 m a)) ?_
  show own_Go _ _ _ _ (s₁.setTop (mkF m 0 #[.val (.ref a)] []))
  refine own_step (fun _ κ => XS.aloadN X0.here hx rfl (hb hby d5_0) rfl rfl κ) ?_
  show own_Go _ _ _ _ (s₁.setTop (mkF m 1 #[.val (.ref a)] [(.ref a)]))
  obtain ⟨T1, X1, e1, st1⟩ := getF X0 hx hZ hown (host := "") (Or.inl (hw _ (List.mem_of_getElem? (i := 16) rfl))) Via.refl e0 P0 (g := (mkF m 1 #[.val (.ref a)] [(.ref a)])) rfl rfl (hb hby d5_1)
  refine own_step st1 ?_
  show own_Go _ _ _ _ (T1.setTop (mkF m 4 #[.val (.ref a)] [(.int pt)]))
  obtain ⟨fs, hr, hrun, hended, hW, hsame⟩ := X1.leave (v := some (.int pt)) (fun h => by rw [Bd.returns] at h; cases h)
  refine ⟨_, _, own_retI X1 hx Bd.returns (hb hby d5_4) hr, hrun, hended, _, _, rfl, ?_, ⟨_, rfl⟩, hW, hsame.mono (by decide) (by decide)⟩
  show Q5 Z a pt h0 n0 _ T1.heap _
  rw [e1]
  exact ⟨rfl, N0, rfl⟩
theorem ef_0 (m : MethodId) (pf : Int32) (pt : Int32) : entryFrame m #[(.int pf), (.int pt)] maxLocals = mkF m 0 #[.val (.int pf), .val (.int pt), .unset, .unset, .unset, .unset, .unset, .unset] [] := by first | (simp [entryFrame, mkF, argsToLocals, Value.category, maxLocals]; done) | rfl
def Q0 (Z : State) (pf : Int32) (pt : Int32) (h0 : Heap) (n0 : Nat) (v : Option Value) (h : Heap) (L : List Loc) : Prop := v = some (.int (1 : Int32)) ∧ Fr n0 L
set_option maxRecDepth 65536 in
set_option maxHeartbeats 40000000 in
theorem rm0 (l : Launch) (Z : State) (a0 : Array Value) (hw : ∀ d ∈ tables_1, d.before a0 Z = true) (ws : List Jvm.Cond) (pf : Int32) (pt : Int32) (h0 : Heap) (n0 : Nat) (Z0 : n0 ≤ h0.size)  :
    MetFree l x (head1 (Jvm.Cond.code x code maxLocals ret :: ws) room_1) (fun ar_ U => ar_ = #[(.int pf), (.int pt)] ∧ Z.Warmed39 U.vm ∧ U.heap = h0) (fun _ _ _ _ _ => True) (fun _ U o U' => ∃ v L, o = .returned v ∧ Q0 Z pf pt  h0 n0 v U'.heap L ∧ FrameEnd U o U' L room_1.cells room_1.slots) := by
  refine MetFree.of_bodySF (plainFor_of_name pn_2) hisR ?_
  intro p e s m args below meth c s₁ Bd hml0 hP hK
  obtain ⟨rfl, hZ, hh⟩ := hP
  have hx := Bd.exec
  have hby := Bd.bytes
  have hml : c.maxLocals = 8 := hml0
  have hown : s.vm.findClass "com/example/forgecourt/forgecourt/negotiation/MoveBackPinLaw" = some m.cls := findClass_of_methodNamed Bd.named
  have hnm := (name_of_methodNamed Bd.named Bd.method).1
  have X0 : Stand p l e room_1 s m #[(.int pf), (.int pt)] below meth c s₁ [] 0 0 := Stand.of_body Bd
  have e0 : s₁.heap = h0 := by rw [← hh, Bd.state]; rfl
  have N0 := Fr.nil n0
  refine own_in (castTop (ef_0 m pf pt)) ?_
  show own_Go _ _ _ _ (s₁.setTop (mkF m 0 #[.val (.int pf), .val (.int pt), .unset, .unset, .unset, .unset, .unset, .unset] []))
  obtain ⟨T1, h1, X1, e1, E1, A1, D1, U1, st1⟩ := newO X0 hx hZ hown (hw _ (List.mem_of_getElem? (i := 0) rfl)) (hw _ (List.mem_of_getElem? (i := 1) rfl)) (hw _ (List.mem_of_getElem? (i := 2) rfl)) e0 (g := (mkF m 0 #[.val (.int pf), .val (.int pt), .unset, .unset, .unset, .unset, .unset, .unset] [])) rfl (hb hby at_0) (by decide) (by decide)
  obtain ⟨b1, g1⟩ : ∃ z, z = h0.size := ⟨_, rfl⟩
  rw [← g1] at A1 D1 U1 st1
  refine own_step st1 ?_
  have ge2 : n0 ≤ b1 := Nat.le_trans Z0 (Nat.le_of_eq g1.symm)
  have z3 : n0 ≤ h1.size := Nat.le_trans Z0 E1.1
  have F1_from : Fld Z h1 b1 "com/example/forgecourt/forgecourt/negotiation/Sequence$Move" "from" "I" (.int (0 : Int32)) := D1 (Or.inr (hw _ (List.mem_of_getElem? (i := 15) rfl))) (ty := .int) (by decide)
  have F1_to : Fld Z h1 b1 "com/example/forgecourt/forgecourt/negotiation/Sequence$Move" "to" "I" (.int (0 : Int32)) := D1 (Or.inr (hw _ (List.mem_of_getElem? (i := 17) rfl))) (ty := .int) (by decide)
  show own_Go _ _ _ _ (T1.setTop (mkF m 3 #[.val (.int pf), .val (.int pt), .unset, .unset, .unset, .unset, .unset, .unset] [(.ref b1)]))
  refine own_step (fun _ κ => XS.dup X1.here hx rfl (hb hby at_3) rfl rfl κ) ?_
  show own_Go _ _ _ _ (T1.setTop (mkF m 4 #[.val (.int pf), .val (.int pt), .unset, .unset, .unset, .unset, .unset, .unset] [(.ref b1), (.ref b1)]))
  refine own_step (fun _ κ => XS.iloadN X1.here hx rfl (hb hby at_4) rfl κ) ?_
  show own_Go _ _ _ _ (T1.setTop (mkF m 5 #[.val (.int pf), .val (.int pt), .unset, .unset, .unset, .unset, .unset, .unset] [(.int pf), (.ref b1), (.ref b1)]))
  refine own_step (fun _ κ => XS.iloadN X1.here hx rfl (hb hby at_5) rfl κ) ?_
  show own_Go _ _ _ _ (T1.setTop (mkF m 6 #[.val (.int pf), .val (.int pt), .unset, .unset, .unset, .unset, .unset, .unset] [(.int pt), (.int pf), (.ref b1), (.ref b1)]))
  obtain ⟨vr4, _, ⟨T4, L4, k4, n4⟩, -, X4, ⟨Lc4, hQ4, l4, y4, z4⟩, st4⟩ := X1.specialBack hx (y := (⟨"com/example/forgecourt/forgecourt/negotiation/Sequence$Move", "<init>", "(II)V"⟩ : MethodName)) rfl hown (mvT hZ (hw _ (List.mem_of_getElem? (i := 3) rfl))) (mvT hZ (hw _ (List.mem_of_getElem? (i := 4) rfl))) (mvT hZ (hw _ (List.mem_of_getElem? (i := 5) rfl))) (by decide) (backOf (W := 1) (rm2 l Z a0 hw [] b1 pf pt  h1 n0 z3 A1 F1_from F1_to ge2) hZ (hw _ (List.mem_of_getElem? (i := 5) rfl)) (hw _ (List.mem_of_getElem? (i := 2) rfl)) (by decide) (by decide)) (g := (mkF m 6 #[.val (.int pf), .val (.int pt), .unset, .unset, .unset, .unset, .unset, .unset] [(.int pt), (.int pf), (.ref b1), (.ref b1)])) rfl (by rw [hml]; rfl) (Steps.refl _) (a := b1) (argsL := [(.int pf), (.int pt)]) (rest := [(.ref b1)]) (lenOf pd_1 rfl) rfl (by show 2 * 0 + _ ≤ _; exact Nat.le_of_eq rfl) (hb hby at_6) (fun _ _ => ⟨rfl, e1, (by decide : 1 + 0 ≤ _), (by decide : 2 + 0 ≤ _)⟩)
  dsimp only [Pt.U, Pt.locs, Pt.cells, Pt.slots] at X4 l4 y4 z4 st4 hQ4
  subst l4 y4 z4
  obtain ⟨rfl, Nq4, Kq4, p4_0, p4_1, p4_2⟩ := hQ4
  have N4 := Fr.app N0 Nq4
  have f5 := A1.keep Kq4
  have z6 : n0 ≤ T4.heap.size := Nat.le_trans z3 Kq4.1
  refine own_step (fun _ κ => st4.trans κ) ?_
  show own_Go _ _ _ _ (T4.setTop (mkF m 9 #[.val (.int pf), .val (.int pt), .unset, .unset, .unset, .unset, .unset, .unset] [(.ref b1)]))
  refine own_step (fun _ κ => XS.astoreN X4.here hx rfl (hb hby at_9) rfl rfl (l' := #[.val (.int pf), .val (.int pt), .val (.ref b1), .unset, .unset, .unset, .unset, .unset]) rfl κ) ?_
  show own_Go _ _ _ _ (T4.setTop (mkF m 10 #[.val (.int pf), .val (.int pt), .val (.ref b1), .unset, .unset, .unset, .unset, .unset] []))
  refine own_step (fun _ κ => XS.aloadN X4.here hx rfl (hb hby at_10) rfl rfl κ) ?_
  show own_Go _ _ _ _ (T4.setTop (mkF m 11 #[.val (.int pf), .val (.int pt), .val (.ref b1), .unset, .unset, .unset, .unset, .unset] [(.ref b1)]))
  obtain ⟨cq7, kq7, q7a, q7b, q7c⟩ := isOf hZ rfl p4_0
  obtain ⟨vr7, _, ⟨T7, L7, k7, n7⟩, -, X7, ⟨Lc7, hQ7, l7, y7, z7⟩, st7⟩ := X4.virtualBack hx (y := (⟨"com/example/forgecourt/forgecourt/negotiation/Sequence$Move", "back", "()Lcom/example/forgecourt/forgecourt/negotiation/Sequence$Move;"⟩ : MethodName)) (z := (⟨"com/example/forgecourt/forgecourt/negotiation/Sequence$Move", "back", "()Lcom/example/forgecourt/forgecourt/negotiation/Sequence$Move;"⟩ : MethodName)) hown (mvT hZ (hw _ (List.mem_of_getElem? (i := 18) rfl))) (mvT hZ (hw _ (List.mem_of_getElem? (i := 19) rfl))) (notFace_of_selects (args := #[]) (mvT hZ (hw _ (List.mem_of_getElem? (i := 21) rfl)))) (mvT hZ (hw _ (List.mem_of_getElem? (i := 21) rfl))) (mvT hZ (hw _ (List.mem_of_getElem? (i := 20) rfl))) (by decide) (backOf (W := 0) (rm3 l Z a0 hw [] b1 pf pt T4.heap n0 z6 p4_0 p4_1 p4_2) hZ (hw _ (List.mem_of_getElem? (i := 22) rfl)) (hw _ (List.mem_of_getElem? (i := 2) rfl)) (by decide) (by decide)) q7a q7c (g := (mkF m 11 #[.val (.int pf), .val (.int pt), .val (.ref b1), .unset, .unset, .unset, .unset, .unset] [(.ref b1)])) rfl (by rw [hml]; rfl) (Steps.refl _) (argsL := []) (rest := []) (lenOf pd_2 rfl) rfl (by show 2 * 0 + _ ≤ _; exact Nat.le_of_eq rfl) (hb hby at_11) (fun _ _ => ⟨rfl, rfl, (by decide : 1 + 1 ≤ _), (by decide : 2 + 2 ≤ _)⟩)
  dsimp only [Pt.U, Pt.locs, Pt.cells, Pt.slots] at X7 l7 y7 z7 st7 hQ7
  subst l7 y7 z7
  obtain ⟨b8, rfl, Nq7, Kq7, p7_0, p7_1, p7_2, p7_3⟩ := hQ7
  have N7 := Fr.app N4 Nq7
  have ne9 : b1 ≠ b8 := Nat.ne_of_lt (Nat.lt_of_lt_of_le p4_0.lt p7_0)
  have ge10 : n0 ≤ b8 := Nat.le_trans z6 p7_0
  have f11 := p4_0.keep Kq7
  have f12 := p4_1.keep Kq7 nin0
  have f13 := p4_2.keep Kq7 nin0
  have z14 : n0 ≤ T7.heap.size := Nat.le_trans z6 Kq7.1
  refine own_step (fun _ κ => st7.trans κ) ?_
  show own_Go _ _ _ _ (T7.setTop (mkF m 14 #[.val (.int pf), .val (.int pt), .val (.ref b1), .unset, .unset, .unset, .unset, .unset] [(.ref b8)]))
  refine own_step (fun _ κ => XS.astoreN X7.here hx rfl (hb hby at_14) rfl rfl (l' := #[.val (.int pf), .val (.int pt), .val (.ref b1), .val (.ref b8), .unset, .unset, .unset, .unset]) rfl κ) ?_
  show own_Go _ _ _ _ (T7.setTop (mkF m 15 #[.val (.int pf), .val (.int pt), .val (.ref b1), .val (.ref b8), .unset, .unset, .unset, .unset] []))
  refine own_step (fun _ κ => XS.aloadN X7.here hx rfl (hb hby at_15) rfl rfl κ) ?_
  show own_Go _ _ _ _ (T7.setTop (mkF m 16 #[.val (.int pf), .val (.int pt), .val (.ref b1), .val (.ref b8), .unset, .unset, .unset, .unset] [(.ref b8)]))
  obtain ⟨cq15, kq15, q15a, q15b, q15c⟩ := isOf hZ rfl p7_1
  obtain ⟨vr15, _, ⟨T15, L15, k15, n15⟩, -, X15, ⟨Lc15, hQ15, l15, y15, z15⟩, st15⟩ := X7.virtualBack hx (y := (⟨"com/example/forgecourt/forgecourt/negotiation/Sequence$Move", "from", "()I"⟩ : MethodName)) (z := (⟨"com/example/forgecourt/forgecourt/negotiation/Sequence$Move", "from", "()I"⟩ : MethodName)) hown (mvT hZ (hw _ (List.mem_of_getElem? (i := 25) rfl))) (mvT hZ (hw _ (List.mem_of_getElem? (i := 26) rfl))) (notFace_of_selects (args := #[]) (mvT hZ (hw _ (List.mem_of_getElem? (i := 28) rfl)))) (mvT hZ (hw _ (List.mem_of_getElem? (i := 28) rfl))) (mvT hZ (hw _ (List.mem_of_getElem? (i := 27) rfl))) (by decide) (backOf (W := 0) (rm4 l Z a0 hw [] b8 pt T7.heap n0 z14 p7_2) hZ (hw _ (List.mem_of_getElem? (i := 29) rfl)) (hw _ (List.mem_of_getElem? (i := 2) rfl)) (by decide) (by decide)) q15a q15c (g := (mkF m 16 #[.val (.int pf), .val (.int pt), .val (.ref b1), .val (.ref b8), .unset, .unset, .unset, .unset] [(.ref b8)])) rfl (by rw [hml]; rfl) (Steps.refl _) (argsL := []) (rest := []) (lenOf pd_3 rfl) rfl (by show 2 * 0 + _ ≤ _; exact Nat.le_of_eq rfl) (hb hby at_16) (fun _ _ => ⟨rfl, rfl, (by decide : 2 + 0 ≤ _), (by decide : 4 + 0 ≤ _)⟩)
  dsimp only [Pt.U, Pt.locs, Pt.cells, Pt.slots] at X15 l15 y15 z15 st15 hQ15
  subst l15 y15 z15
  obtain ⟨rfl, Nq15, eq15⟩ := hQ15
  have N15 := Fr.app N7 Nq15
  refine own_step (fun _ κ => st15.trans κ) ?_
  show own_Go _ _ _ _ (T15.setTop (mkF m 19 #[.val (.int pf), .val (.int pt), .val (.ref b1), .val (.ref b8), .unset, .unset, .unset, .unset] [(.int pt)]))
  refine own_step (fun _ κ => XS.iloadN X15.here hx rfl (hb hby at_19) rfl κ) ?_
  show own_Go _ _ _ _ (T15.setTop (mkF m 20 #[.val (.int pf), .val (.int pt), .val (.ref b1), .val (.ref b8), .unset, .unset, .unset, .unset] [(.int pt), (.int pt)]))
  refine own_step (fun _ κ => XS.icmpNo X15.here hx rfl (hb hby at_20) rfl (teq rfl).2 κ) ?_
  show own_Go _ _ _ _ (T15.setTop (mkF m 23 #[.val (.int pf), .val (.int pt), .val (.ref b1), .val (.ref b8), .unset, .unset, .unset, .unset] []))
  refine own_step (fun _ κ => XS.aloadN X15.here hx rfl (hb hby at_23) rfl rfl κ) ?_
  show own_Go _ _ _ _ (T15.setTop (mkF m 24 #[.val (.int pf), .val (.int pt), .val (.ref b1), .val (.ref b8), .unset, .unset, .unset, .unset] [(.ref b8)]))
  obtain ⟨cq16, kq16, q16a, q16b, q16c⟩ := isOf hZ eq15 p7_1
  obtain ⟨vr16, _, ⟨T16, L16, k16, n16⟩, -, X16, ⟨Lc16, hQ16, l16, y16, z16⟩, st16⟩ := X15.virtualBack hx (y := (⟨"com/example/forgecourt/forgecourt/negotiation/Sequence$Move", "to", "()I"⟩ : MethodName)) (z := (⟨"com/example/forgecourt/forgecourt/negotiation/Sequence$Move", "to", "()I"⟩ : MethodName)) hown (mvT hZ (hw _ (List.mem_of_getElem? (i := 30) rfl))) (mvT hZ (hw _ (List.mem_of_getElem? (i := 31) rfl))) (notFace_of_selects (args := #[]) (mvT hZ (hw _ (List.mem_of_getElem? (i := 33) rfl)))) (mvT hZ (hw _ (List.mem_of_getElem? (i := 33) rfl))) (mvT hZ (hw _ (List.mem_of_getElem? (i := 32) rfl))) (by decide) (backOf (W := 0) (rm5 l Z a0 hw [] b8 pf T7.heap n0 z14 p7_3) hZ (hw _ (List.mem_of_getElem? (i := 34) rfl)) (hw _ (List.mem_of_getElem? (i := 2) rfl)) (by decide) (by decide)) q16a q16c (g := (mkF m 24 #[.val (.int pf), .val (.int pt), .val (.ref b1), .val (.ref b8), .unset, .unset, .unset, .unset] [(.ref b8)])) rfl (by rw [hml]; rfl) (Steps.refl _) (argsL := []) (rest := []) (lenOf pd_3 rfl) rfl (by show 2 * 0 + _ ≤ _; exact Nat.le_of_eq rfl) (hb hby at_24) (fun _ _ => ⟨rfl, eq15, (by decide : 2 + 0 ≤ _), (by decide : 4 + 0 ≤ _)⟩)
  dsimp only [Pt.U, Pt.locs, Pt.cells, Pt.slots] at X16 l16 y16 z16 st16 hQ16
  subst l16 y16 z16
  obtain ⟨rfl, Nq16, eq16⟩ := hQ16
  have N16 := Fr.app N15 Nq16
  refine own_step (fun _ κ => st16.trans κ) ?_
  show own_Go _ _ _ _ (T16.setTop (mkF m 27 #[.val (.int pf), .val (.int pt), .val (.ref b1), .val (.ref b8), .unset, .unset, .unset, .unset] [(.int pf)]))
  refine own_step (fun _ κ => XS.iloadN X16.here hx rfl (hb hby at_27) rfl κ) ?_
  show own_Go _ _ _ _ (T16.setTop (mkF m 28 #[.val (.int pf), .val (.int pt), .val (.ref b1), .val (.ref b8), .unset, .unset, .unset, .unset] [(.int pf), (.int pf)]))
  refine own_step (fun _ κ => XS.icmpNo X16.here hx rfl (hb hby at_28) rfl (teq rfl).2 κ) ?_
  show own_Go _ _ _ _ (T16.setTop (mkF m 31 #[.val (.int pf), .val (.int pt), .val (.ref b1), .val (.ref b8), .unset, .unset, .unset, .unset] []))
  refine own_step (fun _ κ => XS.iconst X16.here hx rfl (hb hby at_31) κ) ?_
  show own_Go _ _ _ _ (T16.setTop (mkF m 32 #[.val (.int pf), .val (.int pt), .val (.ref b1), .val (.ref b8), .unset, .unset, .unset, .unset] [(.int (1 : Int32))]))
  refine own_step (fun _ κ => XS.goto X16.here hx rfl (pc0 := 32) (pc' := 36) rfl (hb hby at_32) (by decide) (by decide) κ) ?_
  show own_Go _ _ _ _ (T16.setTop (mkF m 36 #[.val (.int pf), .val (.int pt), .val (.ref b1), .val (.ref b8), .unset, .unset, .unset, .unset] [(.int (1 : Int32))]))
  refine own_step (fun _ κ => XS.istore X16.here hx rfl (hb hby at_36) rfl (l' := #[.val (.int pf), .val (.int pt), .val (.ref b1), .val (.ref b8), .val (.int (1 : Int32)), .unset, .unset, .unset]) rfl κ) ?_
  show own_Go _ _ _ _ (T16.setTop (mkF m 38 #[.val (.int pf), .val (.int pt), .val (.ref b1), .val (.ref b8), .val (.int (1 : Int32)), .unset, .unset, .unset] []))
  refine own_step (fun _ κ => XS.aloadN X16.here hx rfl (hb hby at_38) rfl rfl κ) ?_
  show own_Go _ _ _ _ (T16.setTop (mkF m 39 #[.val (.int pf), .val (.int pt), .val (.ref b1), .val (.ref b8), .val (.int (1 : Int32)), .unset, .unset, .unset] [(.ref b8)]))
  obtain ⟨cq17, kq17, q17a, q17b, q17c⟩ := isOf hZ eq16 p7_1
  obtain ⟨vr17, _, ⟨T17, L17, k17, n17⟩, -, X17, ⟨Lc17, hQ17, l17, y17, z17⟩, st17⟩ := X16.virtualBack hx (y := (⟨"com/example/forgecourt/forgecourt/negotiation/Sequence$Move", "back", "()Lcom/example/forgecourt/forgecourt/negotiation/Sequence$Move;"⟩ : MethodName)) (z := (⟨"com/example/forgecourt/forgecourt/negotiation/Sequence$Move", "back", "()Lcom/example/forgecourt/forgecourt/negotiation/Sequence$Move;"⟩ : MethodName)) hown (mvT hZ (hw _ (List.mem_of_getElem? (i := 18) rfl))) (mvT hZ (hw _ (List.mem_of_getElem? (i := 19) rfl))) (notFace_of_selects (args := #[]) (mvT hZ (hw _ (List.mem_of_getElem? (i := 21) rfl)))) (mvT hZ (hw _ (List.mem_of_getElem? (i := 21) rfl))) (mvT hZ (hw _ (List.mem_of_getElem? (i := 20) rfl))) (by decide) (backOf (W := 0) (rm3 l Z a0 hw [] b8 pt pf T7.heap n0 z14 p7_1 p7_2 p7_3) hZ (hw _ (List.mem_of_getElem? (i := 22) rfl)) (hw _ (List.mem_of_getElem? (i := 2) rfl)) (by decide) (by decide)) q17a q17c (g := (mkF m 39 #[.val (.int pf), .val (.int pt), .val (.ref b1), .val (.ref b8), .val (.int (1 : Int32)), .unset, .unset, .unset] [(.ref b8)])) rfl (by rw [hml]; rfl) (Steps.refl _) (argsL := []) (rest := []) (lenOf pd_2 rfl) rfl (by show 2 * 0 + _ ≤ _; exact Nat.le_of_eq rfl) (hb hby at_39) (fun _ _ => ⟨rfl, eq16, (by decide : 2 + 1 ≤ _), (by decide : 4 + 2 ≤ _)⟩)
  dsimp only [Pt.U, Pt.locs, Pt.cells, Pt.slots] at X17 l17 y17 z17 st17 hQ17
  subst l17 y17 z17
  obtain ⟨b18, rfl, Nq17, Kq17, p17_0, p17_1, p17_2, p17_3⟩ := hQ17
  have N17 := Fr.app N16 Nq17
  have ne19 : b1 ≠ b18 := Nat.ne_of_lt (Nat.lt_of_lt_of_le f11.lt p17_0)
  have ne20 : b8 ≠ b18 := Nat.ne_of_lt (Nat.lt_of_lt_of_le p7_1.lt p17_0)
  have ge21 : n0 ≤ b18 := Nat.le_trans z14 p17_0
  have f22 := f11.keep Kq17
  have f23 := f12.keep Kq17 nin0
  have f24 := f13.keep Kq17 nin0
  have f25 := p7_1.keep Kq17
  have f26 := p7_2.keep Kq17 nin0
  have f27 := p7_3.keep Kq17 nin0
  have z28 : n0 ≤ T17.heap.size := Nat.le_trans z14 Kq17.1
  refine own_step (fun _ κ => st17.trans κ) ?_
  show own_Go _ _ _ _ (T17.setTop (mkF m 42 #[.val (.int pf), .val (.int pt), .val (.ref b1), .val (.ref b8), .val (.int (1 : Int32)), .unset, .unset, .unset] [(.ref b18)]))
  refine own_step (fun _ κ => XS.astore X17.here hx rfl (hb hby at_42) rfl rfl (l' := #[.val (.int pf), .val (.int pt), .val (.ref b1), .val (.ref b8), .val (.int (1 : Int32)), .val (.ref b18), .unset, .unset]) rfl κ) ?_
  show own_Go _ _ _ _ (T17.setTop (mkF m 44 #[.val (.int pf), .val (.int pt), .val (.ref b1), .val (.ref b8), .val (.int (1 : Int32)), .val (.ref b18), .unset, .unset] []))
  refine own_step (fun _ κ => XS.aload X17.here hx rfl (hb hby at_44) rfl rfl κ) ?_
  show own_Go _ _ _ _ (T17.setTop (mkF m 46 #[.val (.int pf), .val (.int pt), .val (.ref b1), .val (.ref b8), .val (.int (1 : Int32)), .val (.ref b18), .unset, .unset] [(.ref b18)]))
  obtain ⟨cq29, kq29, q29a, q29b, q29c⟩ := isOf hZ rfl p17_1
  obtain ⟨vr29, _, ⟨T29, L29, k29, n29⟩, -, X29, ⟨Lc29, hQ29, l29, y29, z29⟩, st29⟩ := X17.virtualBack hx (y := (⟨"com/example/forgecourt/forgecourt/negotiation/Sequence$Move", "from", "()I"⟩ : MethodName)) (z := (⟨"com/example/forgecourt/forgecourt/negotiation/Sequence$Move", "from", "()I"⟩ : MethodName)) hown (mvT hZ (hw _ (List.mem_of_getElem? (i := 25) rfl))) (mvT hZ (hw _ (List.mem_of_getElem? (i := 26) rfl))) (notFace_of_selects (args := #[]) (mvT hZ (hw _ (List.mem_of_getElem? (i := 28) rfl)))) (mvT hZ (hw _ (List.mem_of_getElem? (i := 28) rfl))) (mvT hZ (hw _ (List.mem_of_getElem? (i := 27) rfl))) (by decide) (backOf (W := 0) (rm4 l Z a0 hw [] b18 pf T17.heap n0 z28 p17_2) hZ (hw _ (List.mem_of_getElem? (i := 29) rfl)) (hw _ (List.mem_of_getElem? (i := 2) rfl)) (by decide) (by decide)) q29a q29c (g := (mkF m 46 #[.val (.int pf), .val (.int pt), .val (.ref b1), .val (.ref b8), .val (.int (1 : Int32)), .val (.ref b18), .unset, .unset] [(.ref b18)])) rfl (by rw [hml]; rfl) (Steps.refl _) (argsL := []) (rest := []) (lenOf pd_3 rfl) rfl (by show 2 * 0 + _ ≤ _; exact Nat.le_of_eq rfl) (hb hby at_46) (fun _ _ => ⟨rfl, rfl, (by decide : 3 + 0 ≤ _), (by decide : 6 + 0 ≤ _)⟩)
  dsimp only [Pt.U, Pt.locs, Pt.cells, Pt.slots] at X29 l29 y29 z29 st29 hQ29
  subst l29 y29 z29
  obtain ⟨rfl, Nq29, eq29⟩ := hQ29
  have N29 := Fr.app N17 Nq29
  refine own_step (fun _ κ => st29.trans κ) ?_
  show own_Go _ _ _ _ (T29.setTop (mkF m 49 #[.val (.int pf), .val (.int pt), .val (.ref b1), .val (.ref b8), .val (.int (1 : Int32)), .val (.ref b18), .unset, .unset] [(.int pf)]))
  refine own_step (fun _ κ => XS.iloadN X29.here hx rfl (hb hby at_49) rfl κ) ?_
  show own_Go _ _ _ _ (T29.setTop (mkF m 50 #[.val (.int pf), .val (.int pt), .val (.ref b1), .val (.ref b8), .val (.int (1 : Int32)), .val (.ref b18), .unset, .unset] [(.int pf), (.int pf)]))
  refine own_step (fun _ κ => XS.icmpNo X29.here hx rfl (hb hby at_50) rfl (teq rfl).2 κ) ?_
  show own_Go _ _ _ _ (T29.setTop (mkF m 53 #[.val (.int pf), .val (.int pt), .val (.ref b1), .val (.ref b8), .val (.int (1 : Int32)), .val (.ref b18), .unset, .unset] []))
  refine own_step (fun _ κ => XS.aload X29.here hx rfl (hb hby at_53) rfl rfl κ) ?_
  show own_Go _ _ _ _ (T29.setTop (mkF m 55 #[.val (.int pf), .val (.int pt), .val (.ref b1), .val (.ref b8), .val (.int (1 : Int32)), .val (.ref b18), .unset, .unset] [(.ref b18)]))
  obtain ⟨cq30, kq30, q30a, q30b, q30c⟩ := isOf hZ eq29 p17_1
  obtain ⟨vr30, _, ⟨T30, L30, k30, n30⟩, -, X30, ⟨Lc30, hQ30, l30, y30, z30⟩, st30⟩ := X29.virtualBack hx (y := (⟨"com/example/forgecourt/forgecourt/negotiation/Sequence$Move", "to", "()I"⟩ : MethodName)) (z := (⟨"com/example/forgecourt/forgecourt/negotiation/Sequence$Move", "to", "()I"⟩ : MethodName)) hown (mvT hZ (hw _ (List.mem_of_getElem? (i := 30) rfl))) (mvT hZ (hw _ (List.mem_of_getElem? (i := 31) rfl))) (notFace_of_selects (args := #[]) (mvT hZ (hw _ (List.mem_of_getElem? (i := 33) rfl)))) (mvT hZ (hw _ (List.mem_of_getElem? (i := 33) rfl))) (mvT hZ (hw _ (List.mem_of_getElem? (i := 32) rfl))) (by decide) (backOf (W := 0) (rm5 l Z a0 hw [] b18 pt T17.heap n0 z28 p17_3) hZ (hw _ (List.mem_of_getElem? (i := 34) rfl)) (hw _ (List.mem_of_getElem? (i := 2) rfl)) (by decide) (by decide)) q30a q30c (g := (mkF m 55 #[.val (.int pf), .val (.int pt), .val (.ref b1), .val (.ref b8), .val (.int (1 : Int32)), .val (.ref b18), .unset, .unset] [(.ref b18)])) rfl (by rw [hml]; rfl) (Steps.refl _) (argsL := []) (rest := []) (lenOf pd_3 rfl) rfl (by show 2 * 0 + _ ≤ _; exact Nat.le_of_eq rfl) (hb hby at_55) (fun _ _ => ⟨rfl, eq29, (by decide : 3 + 0 ≤ _), (by decide : 6 + 0 ≤ _)⟩)
  dsimp only [Pt.U, Pt.locs, Pt.cells, Pt.slots] at X30 l30 y30 z30 st30 hQ30
  subst l30 y30 z30
  obtain ⟨rfl, Nq30, eq30⟩ := hQ30
  have N30 := Fr.app N29 Nq30
  refine own_step (fun _ κ => st30.trans κ) ?_
  show own_Go _ _ _ _ (T30.setTop (mkF m 58 #[.val (.int pf), .val (.int pt), .val (.ref b1), .val (.ref b8), .val (.int (1 : Int32)), .val (.ref b18), .unset, .unset] [(.int pt)]))
  refine own_step (fun _ κ => XS.iloadN X30.here hx rfl (hb hby at_58) rfl κ) ?_
  show own_Go _ _ _ _ (T30.setTop (mkF m 59 #[.val (.int pf), .val (.int pt), .val (.ref b1), .val (.ref b8), .val (.int (1 : Int32)), .val (.ref b18), .unset, .unset] [(.int pt), (.int pt)]))
  refine own_step (fun _ κ => XS.icmpNo X30.here hx rfl (hb hby at_59) rfl (teq rfl).2 κ) ?_
  show own_Go _ _ _ _ (T30.setTop (mkF m 62 #[.val (.int pf), .val (.int pt), .val (.ref b1), .val (.ref b8), .val (.int (1 : Int32)), .val (.ref b18), .unset, .unset] []))
  refine own_step (fun _ κ => XS.iconst X30.here hx rfl (hb hby at_62) κ) ?_
  show own_Go _ _ _ _ (T30.setTop (mkF m 63 #[.val (.int pf), .val (.int pt), .val (.ref b1), .val (.ref b8), .val (.int (1 : Int32)), .val (.ref b18), .unset, .unset] [(.int (1 : Int32))]))
  refine own_step (fun _ κ => XS.goto X30.here hx rfl (pc0 := 63) (pc' := 67) rfl (hb hby at_63) (by decide) (by decide) κ) ?_
  show own_Go _ _ _ _ (T30.setTop (mkF m 67 #[.val (.int pf), .val (.int pt), .val (.ref b1), .val (.ref b8), .val (.int (1 : Int32)), .val (.ref b18), .unset, .unset] [(.int (1 : Int32))]))
  refine own_step (fun _ κ => XS.istore X30.here hx rfl (hb hby at_67) rfl (l' := #[.val (.int pf), .val (.int pt), .val (.ref b1), .val (.ref b8), .val (.int (1 : Int32)), .val (.ref b18), .val (.int (1 : Int32)), .unset]) rfl κ) ?_
  show own_Go _ _ _ _ (T30.setTop (mkF m 69 #[.val (.int pf), .val (.int pt), .val (.ref b1), .val (.ref b8), .val (.int (1 : Int32)), .val (.ref b18), .val (.int (1 : Int32)), .unset] []))
  refine own_step (fun _ κ => XS.aloadN X30.here hx rfl (hb hby at_69) rfl rfl κ) ?_
  show own_Go _ _ _ _ (T30.setTop (mkF m 70 #[.val (.int pf), .val (.int pt), .val (.ref b1), .val (.ref b8), .val (.int (1 : Int32)), .val (.ref b18), .val (.int (1 : Int32)), .unset] [(.ref b1)]))
  obtain ⟨cq31, kq31, q31a, q31b, q31c⟩ := isOf hZ eq30 f22
  obtain ⟨vr31, _, ⟨T31, L31, k31, n31⟩, -, X31, ⟨Lc31, hQ31, l31, y31, z31⟩, st31⟩ := X30.virtualBack hx (y := (⟨"com/example/forgecourt/forgecourt/negotiation/Sequence$Move", "from", "()I"⟩ : MethodName)) (z := (⟨"com/example/forgecourt/forgecourt/negotiation/Sequence$Move", "from", "()I"⟩ : MethodName)) hown (mvT hZ (hw _ (List.mem_of_getElem? (i := 25) rfl))) (mvT hZ (hw _ (List.mem_of_getElem? (i := 26) rfl))) (notFace_of_selects (args := #[]) (mvT hZ (hw _ (List.mem_of_getElem? (i := 28) rfl)))) (mvT hZ (hw _ (List.mem_of_getElem? (i := 28) rfl))) (mvT hZ (hw _ (List.mem_of_getElem? (i := 27) rfl))) (by decide) (backOf (W := 0) (rm4 l Z a0 hw [] b1 pf T17.heap n0 z28 f23) hZ (hw _ (List.mem_of_getElem? (i := 29) rfl)) (hw _ (List.mem_of_getElem? (i := 2) rfl)) (by decide) (by decide)) q31a q31c (g := (mkF m 70 #[.val (.int pf), .val (.int pt), .val (.ref b1), .val (.ref b8), .val (.int (1 : Int32)), .val (.ref b18), .val (.int (1 : Int32)), .unset] [(.ref b1)])) rfl (by rw [hml]; rfl) (Steps.refl _) (argsL := []) (rest := []) (lenOf pd_3 rfl) rfl (by show 2 * 0 + _ ≤ _; exact Nat.le_of_eq rfl) (hb hby at_70) (fun _ _ => ⟨rfl, eq30, (by decide : 3 + 0 ≤ _), (by decide : 6 + 0 ≤ _)⟩)
  dsimp only [Pt.U, Pt.locs, Pt.cells, Pt.slots] at X31 l31 y31 z31 st31 hQ31
  subst l31 y31 z31
  obtain ⟨rfl, Nq31, eq31⟩ := hQ31
  have N31 := Fr.app N30 Nq31
  refine own_step (fun _ κ => st31.trans κ) ?_
  show own_Go _ _ _ _ (T31.setTop (mkF m 73 #[.val (.int pf), .val (.int pt), .val (.ref b1), .val (.ref b8), .val (.int (1 : Int32)), .val (.ref b18), .val (.int (1 : Int32)), .unset] [(.int pf)]))
  refine own_step (fun _ κ => XS.iloadN X31.here hx rfl (hb hby at_73) rfl κ) ?_
  show own_Go _ _ _ _ (T31.setTop (mkF m 74 #[.val (.int pf), .val (.int pt), .val (.ref b1), .val (.ref b8), .val (.int (1 : Int32)), .val (.ref b18), .val (.int (1 : Int32)), .unset] [(.int pf), (.int pf)]))
  refine own_step (fun _ κ => XS.icmpNo X31.here hx rfl (hb hby at_74) rfl (teq rfl).2 κ) ?_
  show own_Go _ _ _ _ (T31.setTop (mkF m 77 #[.val (.int pf), .val (.int pt), .val (.ref b1), .val (.ref b8), .val (.int (1 : Int32)), .val (.ref b18), .val (.int (1 : Int32)), .unset] []))
  refine own_step (fun _ κ => XS.aloadN X31.here hx rfl (hb hby at_77) rfl rfl κ) ?_
  show own_Go _ _ _ _ (T31.setTop (mkF m 78 #[.val (.int pf), .val (.int pt), .val (.ref b1), .val (.ref b8), .val (.int (1 : Int32)), .val (.ref b18), .val (.int (1 : Int32)), .unset] [(.ref b1)]))
  obtain ⟨cq32, kq32, q32a, q32b, q32c⟩ := isOf hZ eq31 f22
  obtain ⟨vr32, _, ⟨T32, L32, k32, n32⟩, -, X32, ⟨Lc32, hQ32, l32, y32, z32⟩, st32⟩ := X31.virtualBack hx (y := (⟨"com/example/forgecourt/forgecourt/negotiation/Sequence$Move", "to", "()I"⟩ : MethodName)) (z := (⟨"com/example/forgecourt/forgecourt/negotiation/Sequence$Move", "to", "()I"⟩ : MethodName)) hown (mvT hZ (hw _ (List.mem_of_getElem? (i := 30) rfl))) (mvT hZ (hw _ (List.mem_of_getElem? (i := 31) rfl))) (notFace_of_selects (args := #[]) (mvT hZ (hw _ (List.mem_of_getElem? (i := 33) rfl)))) (mvT hZ (hw _ (List.mem_of_getElem? (i := 33) rfl))) (mvT hZ (hw _ (List.mem_of_getElem? (i := 32) rfl))) (by decide) (backOf (W := 0) (rm5 l Z a0 hw [] b1 pt T17.heap n0 z28 f24) hZ (hw _ (List.mem_of_getElem? (i := 34) rfl)) (hw _ (List.mem_of_getElem? (i := 2) rfl)) (by decide) (by decide)) q32a q32c (g := (mkF m 78 #[.val (.int pf), .val (.int pt), .val (.ref b1), .val (.ref b8), .val (.int (1 : Int32)), .val (.ref b18), .val (.int (1 : Int32)), .unset] [(.ref b1)])) rfl (by rw [hml]; rfl) (Steps.refl _) (argsL := []) (rest := []) (lenOf pd_3 rfl) rfl (by show 2 * 0 + _ ≤ _; exact Nat.le_of_eq rfl) (hb hby at_78) (fun _ _ => ⟨rfl, eq31, (by decide : 3 + 0 ≤ _), (by decide : 6 + 0 ≤ _)⟩)
  dsimp only [Pt.U, Pt.locs, Pt.cells, Pt.slots] at X32 l32 y32 z32 st32 hQ32
  subst l32 y32 z32
  obtain ⟨rfl, Nq32, eq32⟩ := hQ32
  have N32 := Fr.app N31 Nq32
  refine own_step (fun _ κ => st32.trans κ) ?_
  show own_Go _ _ _ _ (T32.setTop (mkF m 81 #[.val (.int pf), .val (.int pt), .val (.ref b1), .val (.ref b8), .val (.int (1 : Int32)), .val (.ref b18), .val (.int (1 : Int32)), .unset] [(.int pt)]))
  refine own_step (fun _ κ => XS.iloadN X32.here hx rfl (hb hby at_81) rfl κ) ?_
  show own_Go _ _ _ _ (T32.setTop (mkF m 82 #[.val (.int pf), .val (.int pt), .val (.ref b1), .val (.ref b8), .val (.int (1 : Int32)), .val (.ref b18), .val (.int (1 : Int32)), .unset] [(.int pt), (.int pt)]))
  refine own_step (fun _ κ => XS.icmpNo X32.here hx rfl (hb hby at_82) rfl (teq rfl).2 κ) ?_
  show own_Go _ _ _ _ (T32.setTop (mkF m 85 #[.val (.int pf), .val (.int pt), .val (.ref b1), .val (.ref b8), .val (.int (1 : Int32)), .val (.ref b18), .val (.int (1 : Int32)), .unset] []))
  refine own_step (fun _ κ => XS.iconst X32.here hx rfl (hb hby at_85) κ) ?_
  show own_Go _ _ _ _ (T32.setTop (mkF m 86 #[.val (.int pf), .val (.int pt), .val (.ref b1), .val (.ref b8), .val (.int (1 : Int32)), .val (.ref b18), .val (.int (1 : Int32)), .unset] [(.int (1 : Int32))]))
  refine own_step (fun _ κ => XS.goto X32.here hx rfl (pc0 := 86) (pc' := 90) rfl (hb hby at_86) (by decide) (by decide) κ) ?_
  show own_Go _ _ _ _ (T32.setTop (mkF m 90 #[.val (.int pf), .val (.int pt), .val (.ref b1), .val (.ref b8), .val (.int (1 : Int32)), .val (.ref b18), .val (.int (1 : Int32)), .unset] [(.int (1 : Int32))]))
  refine own_step (fun _ κ => XS.istore X32.here hx rfl (hb hby at_90) rfl (l' := #[.val (.int pf), .val (.int pt), .val (.ref b1), .val (.ref b8), .val (.int (1 : Int32)), .val (.ref b18), .val (.int (1 : Int32)), .val (.int (1 : Int32))]) rfl κ) ?_
  show own_Go _ _ _ _ (T32.setTop (mkF m 92 #[.val (.int pf), .val (.int pt), .val (.ref b1), .val (.ref b8), .val (.int (1 : Int32)), .val (.ref b18), .val (.int (1 : Int32)), .val (.int (1 : Int32))] []))
  refine own_step (fun _ κ => XS.iload X32.here hx rfl (hb hby at_92) rfl κ) ?_
  show own_Go _ _ _ _ (T32.setTop (mkF m 94 #[.val (.int pf), .val (.int pt), .val (.ref b1), .val (.ref b8), .val (.int (1 : Int32)), .val (.ref b18), .val (.int (1 : Int32)), .val (.int (1 : Int32))] [(.int (1 : Int32))]))
  refine own_step (fun _ κ => XS.ifNo X32.here hx rfl (hb hby at_94) rfl ((if0 _ _).trans (feq (by decide)).1) κ) ?_
  show own_Go _ _ _ _ (T32.setTop (mkF m 97 #[.val (.int pf), .val (.int pt), .val (.ref b1), .val (.ref b8), .val (.int (1 : Int32)), .val (.ref b18), .val (.int (1 : Int32)), .val (.int (1 : Int32))] []))
  refine own_step (fun _ κ => XS.iload X32.here hx rfl (hb hby at_97) rfl κ) ?_
  show own_Go _ _ _ _ (T32.setTop (mkF m 99 #[.val (.int pf), .val (.int pt), .val (.ref b1), .val (.ref b8), .val (.int (1 : Int32)), .val (.ref b18), .val (.int (1 : Int32)), .val (.int (1 : Int32))] [(.int (1 : Int32))]))
  refine own_step (fun _ κ => XS.ifNo X32.here hx rfl (hb hby at_99) rfl ((if0 _ _).trans (feq (by decide)).1) κ) ?_
  show own_Go _ _ _ _ (T32.setTop (mkF m 102 #[.val (.int pf), .val (.int pt), .val (.ref b1), .val (.ref b8), .val (.int (1 : Int32)), .val (.ref b18), .val (.int (1 : Int32)), .val (.int (1 : Int32))] []))
  refine own_step (fun _ κ => XS.iload X32.here hx rfl (hb hby at_102) rfl κ) ?_
  show own_Go _ _ _ _ (T32.setTop (mkF m 104 #[.val (.int pf), .val (.int pt), .val (.ref b1), .val (.ref b8), .val (.int (1 : Int32)), .val (.ref b18), .val (.int (1 : Int32)), .val (.int (1 : Int32))] [(.int (1 : Int32))]))
  refine own_step (fun _ κ => XS.ifNo X32.here hx rfl (hb hby at_104) rfl ((if0 _ _).trans (feq (by decide)).1) κ) ?_
  show own_Go _ _ _ _ (T32.setTop (mkF m 107 #[.val (.int pf), .val (.int pt), .val (.ref b1), .val (.ref b8), .val (.int (1 : Int32)), .val (.ref b18), .val (.int (1 : Int32)), .val (.int (1 : Int32))] []))
  refine own_step (fun _ κ => XS.iconst X32.here hx rfl (hb hby at_107) κ) ?_
  show own_Go _ _ _ _ (T32.setTop (mkF m 108 #[.val (.int pf), .val (.int pt), .val (.ref b1), .val (.ref b8), .val (.int (1 : Int32)), .val (.ref b18), .val (.int (1 : Int32)), .val (.int (1 : Int32))] [(.int (1 : Int32))]))
  refine own_step (fun _ κ => XS.goto X32.here hx rfl (pc0 := 108) (pc' := 112) rfl (hb hby at_108) (by decide) (by decide) κ) ?_
  show own_Go _ _ _ _ (T32.setTop (mkF m 112 #[.val (.int pf), .val (.int pt), .val (.ref b1), .val (.ref b8), .val (.int (1 : Int32)), .val (.ref b18), .val (.int (1 : Int32)), .val (.int (1 : Int32))] [(.int (1 : Int32))]))
  obtain ⟨fs, hr, hrun, hended, hW, hsame⟩ := X32.leave (v := some (.int (1 : Int32))) (fun h => by rw [Bd.returns] at h; cases h)
  refine ⟨_, _, retN X32 hx (t := .boolean) Bd.returns (by simp) (hb hby at_112) hr, hrun, hended, _, _, rfl, ?_, ⟨_, rfl⟩, hW, hsame.mono (by decide) (by decide)⟩
  show Q0 Z pf pt  h0 n0 _ T32.heap _
  exact ⟨rfl, N32⟩
set_option maxRecDepth 65536 in
set_option maxHeartbeats 40000000 in
theorem comes_1 {Post : Tables → Env → Array Value → State → Outcome → State → Prop} (hpost : ∀ tb e args s v u, (limb_1_1.after args s (.returned v) u = true ∧ limb_1_2.after args s (.returned v) u = true ∧ True) → FrameEnd s (.returned v) u (Jvm.fieldLocs frame_1_writes args s ++ Jvm.arrayLocs frame_1_arrays args s ++ Jvm.staticLocs frame_1_statics s) 16 128 → Post tb e args s (.returned v) u) :
    ArmFor flags0 classFile x code maxLocals ret World_1 tables_1 room_1 Calls_1 rest_1 Pre_1 Post := by
  intro l hfl _ _ p e ha hc hk s m args below hf hA hF happ hP
  obtain ⟨hcalls, hrest, hpre⟩ := hP
  obtain ⟨-, -, -, hnamed, -, -, -, hat⟩ := (Spec.applies_iff hf).mp happ
  obtain ⟨hg, hn⟩ := and_e (Cond.before_iff.mp (show (Jvm.Cond.and given_1 narrow_1).before args s = true from hpre))
  obtain ⟨g0, gr0⟩ := and_e hg
  obtain ⟨w0, w1, rfl⟩ : ∃ w0 w1 : Value, args = #[w0, w1] := by
    have hs : args.size = 2 := by simpa [Cond.value, given_1] using g0
    obtain ⟨L⟩ := args
    match L, hs with
    | [w0, w1], _ => exact ⟨w0, w1, rfl⟩
  have hw := fun d (hd : d ∈ tables_1) => atoms_spec (ws := Jvm.Cond.code x code maxLocals ret :: tables_1) hat d (List.mem_cons_of_mem _ hd)
  have hfit : Fit s := fun {y c} hc i hi => by
    obtain ⟨ha, rfl⟩ := Array.getElem?_eq_some_iff.mp hc
    have q := List.all_eq_true.mp ((Array.all_eq_true_iff_forall_mem.mp hF) _ (Array.getElem_mem ha)) i (List.mem_range.mpr hi)
    simpa [Array.getElem?_eq_getElem hi] using q
  obtain ⟨ga0, gr1⟩ := and_e gr0
  obtain ⟨i0, ei0⟩ := is_v ga0
  obtain rfl : w0 = (.int i0) := Option.some.inj ei0
  obtain ⟨i1, ei1⟩ := is_v gr1
  obtain rfl : w1 = (.int i1) := Option.some.inj ei1
  obtain ⟨n, o, h1, h2, h3, _, L, rfl, ⟨rfl, N⟩, hq⟩ := rm0 l s _ hw tables_1 i0 i1 s.heap s.heap.size (Nat.le_refl _) p e ha hc hk s m _ below hf ((Spec.applies_iff_loose hf).mp happ).1 ⟨rfl, State.Warmed39.refl s, rfl⟩ trivial
  refine ⟨n, _, h1, h2, h3, hpost _ _ _ _ _ _ ⟨Cond.after_iff.mpr rfl, Cond.after_iff.mpr (eq_i res_at (Term.int_eval (1)) rfl), trivial⟩ ⟨hq.1, hq.2.1, (hq.2.2.sift fun y hy => Or.inr (N y hy)).mono (by decide) (by decide)⟩⟩
theorem main_1_1 : Claimed_1_1 := comes_1 fun _ _ _ _ _ _ h hF => ⟨h.1, hF⟩
theorem main_1_2 : Claimed_1_2 := comes_1 fun _ _ _ _ _ _ h hF => ⟨h.2.1, hF⟩
end Jvm.Pilot.@@N@@
namespace Jvm.Pilot.@@N@@
open Jvm Jvm.ClassFile Sem Op Lib Jvm.Free Jvm.Stand Jvm.Pilot.@@N@@.Jvm.D
/-! MADE BY PROGRAM (witnessworld.py) out of the Statement's table words and the real class files: 10 classes; the members and pool entries that the words name. The judged class is class 1, her method 1. -/
namespace start1
open Jvm.ClassFile
def u (s : String) : CpInfo := .utf8 (stringToUtf16 s)
/-- a pool by its gaps: so many unusable entries, then the entry; so many at the end -/
def gap : Nat → List CpInfo → List CpInfo
  | 0, r => r
  | n + 1, r => .unusable :: gap n r
def poolList (es : List (Nat × CpInfo)) (last : Nat) : List CpInfo := es.foldr (fun e r => gap e.1 (e.2 :: r)) (gap last [])
def pool (es : List (Nat × CpInfo)) (last : Nat) : Array CpInfo := ⟨poolList es last⟩
def fileOf (pool : Array CpInfo) (this : Nat) (attrs : Array Attribute := #[]) (ms : Array MethodInfo := #[]) (fl : Nat := 33) (sup : Nat := 0) (ifs : Array Nat := #[]) (fds : Array FieldInfo := #[]) : ClassFile where
  minorVersion := 0
  majorVersion := 65
  constantPool := pool
  accessFlags := fl
  thisClass := this
  superClass := sup
  interfaces := ifs
  fields := fds
  methods := ms
  attributes := attrs
def plain (name : String) (sup : Option ClassId) : Class where
  name := name
  kind := .ordinary
  loader := none
  accessFlags := 33
  super := sup
  interfaces := #[]
  cf := none
  fields := #[]
  methods := #[]
  instanceTypes := #[]
  staticTypes := #[]
  resolved := #[]
  callSites := []
  init := .initialized
  statics := none
  mirror := none

def pool0 : Array CpInfo := pool [(5, u "<init>"), (0, u "()V"), (1, .class_ 10), (1, u "java/lang/Object")] 113

def k0c0 : Code := { maxStack := 0, maxLocals := 1, code := object_method_1_code, exceptionTable := #[], attributes := #[] }
def k0m0 : Method := { name := "<init>", desc := "()V", sig := { parameters := [], returnType := none }, accessFlags := 1, code := some k0c0 }
/-- java/lang/Object -/
def k0 : Class := { plain "java/lang/Object" none with
  accessFlags := 33
  interfaces := #[]
  cf := some (fileOf pool0 8 #[] #[{ accessFlags := 1, nameIndex := 5, descriptorIndex := 6, attributes := #[] }] 33 0 #[] #[])
  fields := #[]
  methods := #[k0m0]
  instanceTypes := #[]
  staticTypes := #[]
  resolved := Array.replicate 124 none
  statics := none }

def pool1 : Array CpInfo := pool [(2, .class_ 4), (1, u "java/lang/Object"), (0, u "<init>"), (0, u "()V"), (0, .class_ 8), (0, u "com/example/forgecourt/forgecourt/negotiation/Sequence$Move"), (0, .methodref 7 10), (0, .nameAndType 5 11), (0, u "(II)V"), (0, .methodref 7 13), (0, .nameAndType 14 15), (0, u "back"), (0, u "()Lcom/example/forgecourt/forgecourt/negotiation/Sequence$Move;"), (0, .methodref 7 17), (0, .nameAndType 18 19), (0, u "from"), (0, u "()I"), (0, .methodref 7 21), (0, .nameAndType 22 19), (0, u "to"), (0, .class_ 24), (0, u "com/example/forgecourt/forgecourt/negotiation/MoveBackPinLaw"), (2, u "law"), (0, u "(II)Z")] 7

def k1m0 : Method := { name := "<init>", desc := "()V", sig := { parameters := [], returnType := none }, accessFlags := 2, code := none }
def k1c1 : Code := { maxStack := 4, maxLocals := 8, code := code, exceptionTable := #[], attributes := #[] }
def k1m1 : Method := { name := "law", desc := "(II)Z", sig := { parameters := [.int, .int], returnType := some .boolean }, accessFlags := 9, code := some k1c1 }
/-- com/example/forgecourt/forgecourt/negotiation/MoveBackPinLaw -/
def k1 : Class := { plain "com/example/forgecourt/forgecourt/negotiation/MoveBackPinLaw" (some 0) with
  accessFlags := 49
  interfaces := #[]
  cf := some (fileOf pool1 23 #[] #[{ accessFlags := 2, nameIndex := 5, descriptorIndex := 6, attributes := #[] }, { accessFlags := 9, nameIndex := 27, descriptorIndex := 28, attributes := #[] }] 49 2 #[] #[])
  fields := #[]
  methods := #[k1m0, k1m1]
  instanceTypes := #[]
  staticTypes := #[]
  resolved := Array.replicate 36 none
  statics := none }

def pool2 : Array CpInfo := pool [(1, .methodref 2 3), (0, .class_ 4), (0, .nameAndType 5 6), (0, u "java/lang/Object"), (0, u "<init>"), (0, u "()V"), (0, .class_ 8), (0, u "java/lang/Record")] 13

def k2c0 : Code := { maxStack := 1, maxLocals := 1, code := jdk_30_method_1_code, exceptionTable := #[], attributes := #[] }
def k2m0 : Method := { name := "<init>", desc := "()V", sig := { parameters := [], returnType := none }, accessFlags := 4, code := some k2c0 }
/-- java/lang/Record -/
def k2 : Class := { plain "java/lang/Record" (some 0) with
  accessFlags := 1057
  interfaces := #[]
  cf := some (fileOf pool2 7 #[] #[{ accessFlags := 4, nameIndex := 5, descriptorIndex := 6, attributes := #[] }] 1057 2 #[] #[])
  fields := #[]
  methods := #[k2m0]
  instanceTypes := #[]
  staticTypes := #[]
  resolved := Array.replicate 22 none
  statics := none }

def pool3 : Array CpInfo := pool [(1, .methodref 2 3), (0, .class_ 4), (0, .nameAndType 5 6), (0, u "java/lang/Record"), (0, u "<init>"), (0, u "()V"), (0, .fieldref 8 9), (0, .class_ 10), (0, .nameAndType 11 12), (0, u "com/example/forgecourt/forgecourt/negotiation/Sequence$Move"), (0, u "from"), (0, u "I"), (0, .fieldref 8 14), (0, .nameAndType 15 12), (0, u "to"), (0, .methodref 8 17), (0, .nameAndType 5 18), (0, u "(II)V"), (15, u "back"), (0, u "()Lcom/example/forgecourt/forgecourt/negotiation/Sequence$Move;"), (1, u "()I"), (4, .class_ 43), (0, u "com/example/forgecourt/forgecourt/negotiation/Sequence")] 20

def k3c0 : Code := { maxStack := 2, maxLocals := 3, code := prog_94_method_1_code, exceptionTable := #[], attributes := #[] }
def k3m0 : Method := { name := "<init>", desc := "(II)V", sig := { parameters := [.int, .int], returnType := none }, accessFlags := 0, code := some k3c0 }
def k3c1 : Code := { maxStack := 4, maxLocals := 1, code := prog_94_method_2_code, exceptionTable := #[], attributes := #[] }
def k3m1 : Method := { name := "back", desc := "()Lcom/example/forgecourt/forgecourt/negotiation/Sequence$Move;", sig := { parameters := [], returnType := some (.object "com/example/forgecourt/forgecourt/negotiation/Sequence$Move") }, accessFlags := 0, code := some k3c1 }
def k3c2 : Code := { maxStack := 1, maxLocals := 1, code := prog_94_method_6_code, exceptionTable := #[], attributes := #[] }
def k3m2 : Method := { name := "from", desc := "()I", sig := { parameters := [], returnType := some .int }, accessFlags := 1, code := some k3c2 }
def k3c3 : Code := { maxStack := 1, maxLocals := 1, code := prog_94_method_7_code, exceptionTable := #[], attributes := #[] }
def k3m3 : Method := { name := "to", desc := "()I", sig := { parameters := [], returnType := some .int }, accessFlags := 1, code := some k3c3 }
/-- com/example/forgecourt/forgecourt/negotiation/Sequence$Move -/
def k3 : Class := { plain "com/example/forgecourt/forgecourt/negotiation/Sequence$Move" (some 2) with
  accessFlags := 48
  interfaces := #[]
  cf := some (fileOf pool3 8 #[.nestHost 42] #[{ accessFlags := 0, nameIndex := 5, descriptorIndex := 18, attributes := #[] }, { accessFlags := 0, nameIndex := 34, descriptorIndex := 35, attributes := #[] }, { accessFlags := 1, nameIndex := 11, descriptorIndex := 37, attributes := #[] }, { accessFlags := 1, nameIndex := 15, descriptorIndex := 37, attributes := #[] }] 48 2 #[] #[{ accessFlags := 18, nameIndex := 11, descriptorIndex := 12, attributes := #[] }, { accessFlags := 18, nameIndex := 15, descriptorIndex := 12, attributes := #[] }])
  fields := #[{ name := "from", type := .int, accessFlags := 18, slot := 0, constantValue := 0 }, { name := "to", type := .int, accessFlags := 18, slot := 1, constantValue := 0 }]
  methods := #[k3m0, k3m1, k3m2, k3m3]
  instanceTypes := #[.int, .int]
  staticTypes := #[]
  resolved := Array.replicate 64 none
  statics := none }

def pool4 : Array CpInfo := pool [(1, u "java/lang/Cloneable"), (0, .class_ 1), (0, u "java/lang/Object"), (0, .class_ 3)] 3

/-- java/lang/Cloneable -/
def k4 : Class := { plain "java/lang/Cloneable" (some 0) with
  accessFlags := 1537
  interfaces := #[]
  cf := some (fileOf pool4 2 #[] #[] 1537 4 #[] #[])
  fields := #[]
  methods := #[]
  instanceTypes := #[]
  staticTypes := #[]
  resolved := Array.replicate 8 none
  statics := none }

def pool5 : Array CpInfo := pool [(1, u "java/io/Serializable"), (0, .class_ 1), (0, u "java/lang/Object"), (0, .class_ 3)] 3

/-- java/io/Serializable -/
def k5 : Class := { plain "java/io/Serializable" (some 0) with
  accessFlags := 1537
  interfaces := #[]
  cf := some (fileOf pool5 2 #[] #[] 1537 4 #[] #[])
  fields := #[]
  methods := #[]
  instanceTypes := #[]
  staticTypes := #[]
  resolved := Array.replicate 8 none
  statics := none }

/-- the primitive byte -/
def k6 : Class := { plain "byte" none with kind := .primitive 'B', accessFlags := 0x411 }
/-- [B -/
def k7 : Class := { plain "[B" (some 0) with kind := .array 6 .byte, interfaces := #[4, 5], accessFlags := 1041 }

/-- the primitive int -/
def k8 : Class := { plain "int" none with kind := .primitive 'I', accessFlags := 0x411 }
/-- [I -/
def k9 : Class := { plain "[I" (some 0) with kind := .array 8 .int, interfaces := #[4, 5], accessFlags := 1041 }

def heap : Heap := #[]
def classes : Array Class := #[k0, k1, k2, k3, k4, k5, k6, k7, k8, k9]
def interned : List (Array UInt16 × Addr) := []
def slotsUsed : Nat := 0
def theMethod : MethodId := ⟨1, 1⟩
def args0 : Array Value := #[.int 5, .int 7]
def aboutOver (below : List Frame) : State where
  vm := { classes := classes, interned := interned.toArray }
  heap := heap
  slotsUsed := slotsUsed
  threads := #[{ frames := .invoking theMethod args0 :: below }]
def below0 : List Frame := [.native { method := ⟨0, 0⟩, args := #[] }]
def about1 : State := aboutOver below0
def p0 : Program := .bare "" "" ""
def e0 : Env := launch0.env 0 0 0
theorem w_frames : about1.frames = Frame.invoking theMethod args0 :: below0 := rfl
set_option maxRecDepth 65536 in
theorem w_args : argsFit about1.vm theMethod args0 = true := by decide +kernel
set_option maxRecDepth 65536 in
theorem w_heap : heapFits about1 = true := by decide +kernel
set_option maxRecDepth 65536 in
theorem w_runnable : about1.curStatus? = some .runnable := by decide +kernel
set_option maxRecDepth 65536 in
theorem w_alone : about1.alone = true := by decide +kernel
set_option maxRecDepth 65536 in
theorem w_named : about1.methodNamed? x = some theMethod := by decide +kernel
set_option maxRecDepth 65536 in
theorem w_hears : about1.hears theMethod below0 = true := by decide +kernel
set_option maxRecDepth 65536 in
theorem w_ripe : about1.ripe theMethod args0 below0 = true := by decide +kernel
theorem w_running : about1.status = .running := rfl
set_option maxRecDepth 65536 in
theorem w_room : about1.hasRoom e0.platform room_1 = true :=
  launch0.hasRoom_least _ room_1 (by decide +kernel) (by decide +kernel) (by decide +kernel) (by decide +kernel) (by decide +kernel) (by decide +kernel)
theorem allAtoms_all (ts : List Jvm.Cond) (a : Array Jvm.Value) (st : Jvm.State) : (allAtoms ts).before a st = ts.all (fun c => c.before a st) := by
  induction ts with
  | nil => rfl
  | cons c t ih =>
    show (Jvm.Cond.and c (allAtoms t)).before a st = _
    rw [Jvm.Cond.before_and, ih, List.all_cons]
def words1 : List Jvm.Cond := Jvm.Cond.code x code maxLocals ret :: tables_1
/-- a 'code' word, met by the world's own term for the bytes: nothing is compared byte by byte -/
theorem code_word {y : MethodName} {bytes : ByteArray} {mx : Nat} {rt : Option FieldType} {a : Array Value} {s : State} {m : MethodId} {meth : Method} {c : Code} (h1 : s.methodNamed? y = some m) (h2 : s.vm.method? m = some meth) (h3 : meth.code = some c) (h4 : c.code = bytes)
    (h5 : (c.maxLocals == mx && c.exceptionTable.isEmpty && decide (c.maxStack ≤ mostOperands) && decide (meth.sig.returnType = rt) && !meth.locks && decide (parseMethodDescriptor y.desc = some meth.sig)) = true) : (Jvm.Cond.code y bytes mx rt).before a s = true := by
  simp only [Bool.and_eq_true, beq_iff_eq, Bool.not_eq_true', decide_eq_true_eq] at h5
  obtain ⟨⟨⟨⟨⟨g1, g2⟩, g3⟩, g4⟩, g5⟩, g6⟩ := h5
  simp [Cond.before, Cond.holds, Cond.value, h1, h2, h3, h4, g1, g2, g3, g4, g5, g6]
def isCode : Jvm.Cond → Bool
  | .code _ _ _ _ => true
  | _ => false
theorem all_split {L : List Jvm.Cond} {P : Jvm.Cond → Bool} (h1 : L.all (fun c => isCode c || P c) = true) (h2 : ∀ c ∈ L.filter isCode, P c = true) : L.all P = true := by
  refine List.all_eq_true.mpr fun c hc => ?_
  have h := List.all_eq_true.mp h1 c hc
  rcases Bool.eq_false_or_eq_true (isCode c) with hi | hi
  · exact h2 c (List.mem_filter.mpr ⟨hc, hi⟩)
  · simpa [hi] using h
set_option maxRecDepth 65536 in
theorem w_c0 : (Jvm.Cond.code x code maxLocals ret).before args0 about1 = true := code_word (m := ⟨1, 1⟩) (meth := k1m1) (c := k1c1) (by decide +kernel) rfl rfl rfl (by decide +kernel)
set_option maxRecDepth 65536 in
theorem w_c1 : (Jvm.Cond.code ({ cls := "com/example/forgecourt/forgecourt/negotiation/Sequence$Move", name := "<init>", desc := "(II)V" } : Jvm.MethodName) prog_94_method_1_code (3 : Nat) (Option.none : Option Jvm.ClassFile.FieldType)).before args0 about1 = true := code_word (m := ⟨3, 0⟩) (meth := k3m0) (c := k3c0) (by decide +kernel) rfl rfl rfl (by decide +kernel)
set_option maxRecDepth 65536 in
theorem w_c2 : (Jvm.Cond.code ({ cls := "java/lang/Record", name := "<init>", desc := "()V" } : Jvm.MethodName) jdk_30_method_1_code (1 : Nat) (Option.none : Option Jvm.ClassFile.FieldType)).before args0 about1 = true := code_word (m := ⟨2, 0⟩) (meth := k2m0) (c := k2c0) (by decide +kernel) rfl rfl rfl (by decide +kernel)
set_option maxRecDepth 65536 in
theorem w_c3 : (Jvm.Cond.code ({ cls := "java/lang/Object", name := "<init>", desc := "()V" } : Jvm.MethodName) object_method_1_code (1 : Nat) (Option.none : Option Jvm.ClassFile.FieldType)).before args0 about1 = true := code_word (m := ⟨0, 0⟩) (meth := k0m0) (c := k0c0) (by decide +kernel) rfl rfl rfl (by decide +kernel)
set_option maxRecDepth 65536 in
theorem w_c4 : (Jvm.Cond.code ({ cls := "com/example/forgecourt/forgecourt/negotiation/Sequence$Move", name := "back", desc := "()Lcom/example/forgecourt/forgecourt/negotiation/Sequence$Move;" } : Jvm.MethodName) prog_94_method_2_code (1 : Nat) (Option.some (Jvm.ClassFile.FieldType.object "com/example/forgecourt/forgecourt/negotiation/Sequence$Move"))).before args0 about1 = true := code_word (m := ⟨3, 1⟩) (meth := k3m1) (c := k3c1) (by decide +kernel) rfl rfl rfl (by decide +kernel)
set_option maxRecDepth 65536 in
theorem w_c5 : (Jvm.Cond.code ({ cls := "com/example/forgecourt/forgecourt/negotiation/Sequence$Move", name := "from", desc := "()I" } : Jvm.MethodName) prog_94_method_6_code (1 : Nat) (Option.some Jvm.ClassFile.FieldType.int)).before args0 about1 = true := code_word (m := ⟨3, 2⟩) (meth := k3m2) (c := k3c2) (by decide +kernel) rfl rfl rfl (by decide +kernel)
set_option maxRecDepth 65536 in
theorem w_c6 : (Jvm.Cond.code ({ cls := "com/example/forgecourt/forgecourt/negotiation/Sequence$Move", name := "to", desc := "()I" } : Jvm.MethodName) prog_94_method_7_code (1 : Nat) (Option.some Jvm.ClassFile.FieldType.int)).before args0 about1 = true := code_word (m := ⟨3, 3⟩) (meth := k3m3) (c := k3c3) (by decide +kernel) rfl rfl rfl (by decide +kernel)
def codes1 : List Jvm.Cond := [Jvm.Cond.code x code maxLocals ret, Jvm.Cond.code ({ cls := "com/example/forgecourt/forgecourt/negotiation/Sequence$Move", name := "<init>", desc := "(II)V" } : Jvm.MethodName) prog_94_method_1_code (3 : Nat) (Option.none : Option Jvm.ClassFile.FieldType), Jvm.Cond.code ({ cls := "java/lang/Record", name := "<init>", desc := "()V" } : Jvm.MethodName) jdk_30_method_1_code (1 : Nat) (Option.none : Option Jvm.ClassFile.FieldType), Jvm.Cond.code ({ cls := "java/lang/Object", name := "<init>", desc := "()V" } : Jvm.MethodName) object_method_1_code (1 : Nat) (Option.none : Option Jvm.ClassFile.FieldType), Jvm.Cond.code ({ cls := "com/example/forgecourt/forgecourt/negotiation/Sequence$Move", name := "back", desc := "()Lcom/example/forgecourt/forgecourt/negotiation/Sequence$Move;" } : Jvm.MethodName) prog_94_method_2_code (1 : Nat) (Option.some (Jvm.ClassFile.FieldType.object "com/example/forgecourt/forgecourt/negotiation/Sequence$Move")), Jvm.Cond.code ({ cls := "com/example/forgecourt/forgecourt/negotiation/Sequence$Move", name := "from", desc := "()I" } : Jvm.MethodName) prog_94_method_6_code (1 : Nat) (Option.some Jvm.ClassFile.FieldType.int), Jvm.Cond.code ({ cls := "com/example/forgecourt/forgecourt/negotiation/Sequence$Move", name := "to", desc := "()I" } : Jvm.MethodName) prog_94_method_7_code (1 : Nat) (Option.some Jvm.ClassFile.FieldType.int)]
set_option maxRecDepth 65536 in
theorem codes_eq : words1.filter isCode = codes1 := rfl
theorem w_codes : ∀ c ∈ words1.filter isCode, c.before args0 about1 = true := by
  rw [codes_eq]
  intro c hc
  simp only [codes1, List.mem_cons, List.not_mem_nil, or_false] at hc
  rcases hc with rfl | rfl | rfl | rfl | rfl | rfl | rfl
  · exact w_c0
  · exact w_c1
  · exact w_c2
  · exact w_c3
  · exact w_c4
  · exact w_c5
  · exact w_c6
set_option maxRecDepth 65536 in
theorem w_t1 : (words1.take 24).all (fun c => isCode c || c.before args0 about1) = true := by decide +kernel
set_option maxRecDepth 65536 in
theorem w_t2 : (words1.drop 24).all (fun c => isCode c || c.before args0 about1) = true := by decide +kernel
theorem w_tables : (allAtoms (Jvm.Cond.code x code maxLocals ret :: tables_1)).before args0 about1 = true := by
  rw [allAtoms_all]
  show words1.all (fun c => c.before args0 about1) = true
  refine all_split ?_ w_codes
  rw [← List.take_append_drop 24 words1, List.all_append, w_t1, w_t2]
  rfl
set_option maxRecDepth 65536 in
theorem w_case : (Jvm.Cond.and given_1 narrow_1).before args0 about1 = true := by decide +kernel
theorem w_applies : (headSpec (Jvm.Cond.code x code maxLocals ret :: tables_1) room_1).applies x e0.platform about1 = true :=
  (Spec.applies_iff w_frames).mpr ⟨w_running, w_runnable, w_alone, w_named, w_hears, w_ripe, w_room, w_tables⟩
theorem atStart : AtStart classFile x code maxLocals ret World_1 tables_1 room_1 Calls_1 rest_1 Pre_1 launch0 p0 e0 about1 theMethod args0 below0 :=
  ⟨lists_1, trivial, launch0.admits_env _ _ _, launch0.least_env, fairChoices_fair.cas, fairChoices_fair.clock, w_frames, w_args, w_heap, w_applies, trivial, trivial, w_case⟩
end start1
theorem witness_1 : WitnessClaimed_1 := ⟨start1.p0, start1.e0, start1.about1, start1.theMethod, start1.args0, start1.below0, start1.atStart⟩
end Jvm.Pilot.@@N@@
