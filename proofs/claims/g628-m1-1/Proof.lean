import JvmDerived
import JvmDerived.Pilot.@@N@@Statement
import JvmDerived.Pilot.@@N@@Code
set_option linter.unusedVariables false
set_option linter.unusedSimpArgs false
namespace Jvm.Pilot.@@N@@
open Jvm Jvm.ClassFile Sem Op Lib Jvm.Free Jvm.Stand Jvm.LawKit Jvm.RoadKit Bundle Jvm.Pilot.@@N@@.Jvm.D
section OwnKit
variable {p : Program} {l : Launch} {e : Env} {R : Room} {s : State} {m : MethodId} {args : Array Value} {below : List Frame} {meth : Method} {c : Code} {T : State} {locs : List Loc} {cells slots : Nat}
/-- from T the run comes to an end of which F holds -/
def own_Go (p : Program) (e : Env) (below : List Frame) (F : State → Outcome → Prop) (T : State) : Prop := ∃ t o, Steps p.tables e below T t ∧ t.status = .running ∧ Ended t below o ∧ F t o
theorem own_step {F : State → Outcome → Prop} {A B : State} (k : ∀ t, Steps p.tables e below A t → Steps p.tables e below B t) (h : own_Go p e below F A) : own_Go p e below F B := by
  obtain ⟨t, o, h1, h2⟩ := h
  exact ⟨t, o, k t h1, h2⟩
theorem own_in {F : State → Outcome → Prop} {A B : State} (k : ∀ {t}, Steps p.tables e below A t → Steps p.tables e below B t) (h : own_Go p e below F A) : ∃ t o, Steps p.tables e below B t ∧ t.status = .running ∧ Ended t below o ∧ F t o := by
  obtain ⟨t, o, h1, h2⟩ := h
  exact ⟨t, o, k h1, h2⟩
theorem own_retI (X : Stand p l e R s m args below meth c T locs cells slots) (hx : p.tables.exec = Jvm.exec) {pc : Nat} {Ls : Array Slot} {z : Int32} {rest : List Value} (hret : meth.sig.returnType = some .int) (hd : decode c.code pc = .ok (.ireturn, 1)) {fs : List Frame}
    (hl : ∀ (f : JFrame) (acts : List Action), f.method = m → f.locked = none → f.entered = [] → (doReturn e (T.setTop f) acts (some (.int z))).1 = T.setFrames fs) : Steps p.tables e below (T.setTop (mkF m pc Ls (.int z :: rest))) (T.setFrames fs) :=
  retOut X hx hret rfl (Or.inl ⟨rfl, Or.inl rfl, _, rfl⟩) hd hl
theorem own_join {α : Type} {F : State → Outcome → Prop} {B : State} {H : Heap} (X : Stand p l e R s m args below meth c T locs cells slots) (eT : T.heap = H) (A : State → α → State) (Pr : α → Prop)
    (h1 : ∀ T' a, Stand p l e R s m args below meth c T' locs cells slots → T'.heap = H → Pr a → own_Go p e below F (A T' a))
    (h2 : (∀ T' a, Stand p l e R s m args below meth c T' locs cells slots → T'.heap = H → Pr a → own_Go p e below F (A T' a)) → own_Go p e below F B) : own_Go p e below F B := h2 h1
theorem own_sta {args : Array Value} {s : State} {C n d K : String} (h : (Jvm.Cond.exactly (.static C n d) K).value args s none s [] = some true) (w1 : (Jvm.Cond.initialized C).before args s = true) (w2 : (Jvm.Cond.laysStatic C n d).before args s = true) :
    ∃ a, (Term.static C n d).eval args s none [] s = some (.ref a) ∧ Sta s s.heap C n d (.ref a) ∧ Exa s s.heap a K := by
  obtain ⟨a, ea⟩ := exa_v h
  exact ⟨a, ea, Sta.start ea (Or.inr ⟨w1, w2⟩), Exa.start ea h⟩
theorem own_staF {args : Array Value} {s : State} {t : Term} {C n d : String} {a : Addr} {k : Int32} (ea : t.eval args s none [] s = some (.ref a)) (h : (Jvm.Cond.eq (.field t C n d) (.int k)).value args s none s [] = some true) : Fld s s.heap a C n d (.int k) := by
  obtain ⟨x, y, e1, e2, -, -⟩ := cmp_v (Or.inl h)
  cases (Term.int_eval k).symm.trans e2
  have e3 : x = .int k := by
    cases x <;> simp [Cond.value, e1, Term.int_eval] at h
    rw [h]
  rw [fld_at ea, e3] at e1
  exact Fld.start e1
end OwnKit
theorem pn_0 : plainName "java/lang/Record" = true := by first | (simp [plainName, overriddenIn]; done) | decide +kernel
theorem pn_1 : plainName "com/example/cairn/cairn/model/ConnectResponse" = true := by first | (simp [plainName, overriddenIn]; done) | decide +kernel
theorem pn_2 : plainName "com/example/cairn/cairn/model/ConnectResponseRefusedPinLaw" = true := by first | (simp [plainName, overriddenIn]; done) | decide +kernel
theorem pd_0 : parseMethodDescriptor "()V" = some ⟨[], none⟩ := by decide +kernel
theorem pd_1 : parseMethodDescriptor "(IIJ[BLjava/util/Optional;)V" = some ⟨[.int, .int, .long, (.array .byte), (.object "java/util/Optional")], none⟩ := by decide +kernel
theorem pd_2 : parseMethodDescriptor "()Z" = some ⟨[], some .boolean⟩ := by decide +kernel
theorem d1_0 : decode jdk_30_method_1_code 0 = .ok (.aload_n 0, 1) := by decide +kernel
theorem d1_1 : decode jdk_30_method_1_code 1 = .ok (.invokespecial 1, 3) := by decide +kernel
theorem d1_4 : decode jdk_30_method_1_code 4 = .ok (.return_, 1) := by decide +kernel
theorem ef_1 (m : MethodId) (r : Addr) : entryFrame m #[(.ref r)] 1 = mkF m 0 #[.val (.ref r)] [] := by first | (simp [entryFrame, mkF, argsToLocals, Value.category]; done) | rfl
def Q1 (Z : State) (r : Addr) (h0 : Heap) (n0 : Nat) (v : Option Value) (h : Heap) (L : List Loc) : Prop := v = none ∧ Fr n0 L ∧ h = h0
set_option maxRecDepth 65536 in
set_option maxHeartbeats 40000000 in
theorem rm1 (l : Launch) (Z : State) (a0 : Array Value) (hw : ∀ d ∈ tables_1, d.before a0 Z = true) (ws : List Jvm.Cond) (r : Addr) (h0 : Heap) (n0 : Nat) (Z0 : n0 ≤ h0.size)  :
    MetFree l (⟨"java/lang/Record", "<init>", "()V"⟩ : MethodName) (head1 (Jvm.Cond.code (⟨"java/lang/Record", "<init>", "()V"⟩ : MethodName) jdk_30_method_1_code 1 none :: ws) ({ frames := 1, cells := 0, slots := 0, locals := 12 } : Room)) (fun ar_ U => ar_ = #[(.ref r)] ∧ Z.Warmed39 U.vm ∧ U.heap = h0) (fun _ _ _ _ _ => True) (fun _ U o U' => ∃ v L, o = .returned v ∧ Q1 Z r  h0 n0 v U'.heap L ∧ FrameEnd U o U' L ({ frames := 1, cells := 0, slots := 0, locals := 12 } : Room).cells ({ frames := 1, cells := 0, slots := 0, locals := 12 } : Room).slots) := by
  refine MetFree.of_bodySF (plainFor_of_name pn_0) hisR ?_
  intro p e s m args below meth c s₁ Bd hml0 hP hK
  obtain ⟨rfl, hZ, hh⟩ := hP
  have hx := Bd.exec
  have hby := Bd.bytes
  have hml : c.maxLocals = 1 := hml0
  have hown : s.vm.findClass "java/lang/Record" = some m.cls := findClass_of_methodNamed Bd.named
  have hnm := (name_of_methodNamed Bd.named Bd.method).1
  have X0 : Stand p l e ({ frames := 1, cells := 0, slots := 0, locals := 12 } : Room) s m #[(.ref r)] below meth c s₁ [] 0 0 := Stand.of_body Bd
  have e0 : s₁.heap = h0 := by rw [← hh, Bd.state]; rfl
  have N0 := Fr.nil n0
  refine own_in (castTop (ef_1 m r)) ?_
  show own_Go _ _ _ _ (s₁.setTop (mkF m 0 #[.val (.ref r)] []))
  refine own_step (fun _ κ => XS.aloadN X0.here hx rfl (hb hby d1_0) rfl rfl κ) ?_
  show own_Go _ _ _ _ (s₁.setTop (mkF m 1 #[.val (.ref r)] [(.ref r)]))
  obtain ⟨T1, X1, e1, st1⟩ := initO X0 hx hZ hown (hw _ (List.mem_of_getElem? (i := 12) rfl)) (hw _ (List.mem_of_getElem? (i := 13) rfl)) (hw _ (List.mem_of_getElem? (i := 14) rfl)) e0 (g := (mkF m 1 #[.val (.ref r)] [(.ref r)])) rfl (by rw [hml]; rfl) rfl (hb hby d1_1) (by decide) (W := 0) (by show 2 * 0 + _ ≤ _; exact Nat.le_of_eq rfl) (by decide)
  refine own_step st1 ?_
  show own_Go _ _ _ _ (T1.setTop (mkF m 4 #[.val (.ref r)] []))
  obtain ⟨fs, hr, hrun, hended, hW, hsame⟩ := X1.leave (v := none) (fun _ => rfl)
  refine ⟨_, _, X1.returnOut hx Bd.returns (hb hby d1_4) hr, hrun, hended, _, _, rfl, ?_, ⟨_, rfl⟩, hW, hsame.mono (by decide) (by decide)⟩
  show Q1 Z r  h0 n0 _ T1.heap _
  rw [e1]
  exact ⟨rfl, N0, rfl⟩
theorem d2_0 : decode prog_40_method_1_code 0 = .ok (.aload_n 0, 1) := by decide +kernel
theorem d2_1 : decode prog_40_method_1_code 1 = .ok (.invokespecial 1, 3) := by decide +kernel
theorem d2_4 : decode prog_40_method_1_code 4 = .ok (.aload_n 0, 1) := by decide +kernel
theorem d2_5 : decode prog_40_method_1_code 5 = .ok (.iload_n 1, 1) := by decide +kernel
theorem d2_6 : decode prog_40_method_1_code 6 = .ok (.putfield 7, 3) := by decide +kernel
theorem d2_9 : decode prog_40_method_1_code 9 = .ok (.aload_n 0, 1) := by decide +kernel
theorem d2_10 : decode prog_40_method_1_code 10 = .ok (.iload_n 2, 1) := by decide +kernel
theorem d2_11 : decode prog_40_method_1_code 11 = .ok (.putfield 13, 3) := by decide +kernel
theorem d2_14 : decode prog_40_method_1_code 14 = .ok (.aload_n 0, 1) := by decide +kernel
theorem d2_15 : decode prog_40_method_1_code 15 = .ok (.lload_n 3, 1) := by decide +kernel
theorem d2_16 : decode prog_40_method_1_code 16 = .ok (.putfield 16, 3) := by decide +kernel
theorem d2_19 : decode prog_40_method_1_code 19 = .ok (.aload_n 0, 1) := by decide +kernel
theorem d2_20 : decode prog_40_method_1_code 20 = .ok (.aload 5, 2) := by decide +kernel
theorem d2_22 : decode prog_40_method_1_code 22 = .ok (.putfield 20, 3) := by decide +kernel
theorem d2_25 : decode prog_40_method_1_code 25 = .ok (.aload_n 0, 1) := by decide +kernel
theorem d2_26 : decode prog_40_method_1_code 26 = .ok (.aload 6, 2) := by decide +kernel
theorem d2_28 : decode prog_40_method_1_code 28 = .ok (.putfield 24, 3) := by decide +kernel
theorem d2_31 : decode prog_40_method_1_code 31 = .ok (.return_, 1) := by decide +kernel
theorem ef_2 (m : MethodId) (a : Addr) (pv : Int32) (tm : Int32) (sid : Int64) (pw : Addr) : entryFrame m #[(.ref a), (.int pv), (.int tm), (.long sid), (.ref pw), .null] 7 = mkF m 0 #[.val (.ref a), .val (.int pv), .val (.int tm), .val (.long sid), .second, .val (.ref pw), .val .null] [] := by first | (simp [entryFrame, mkF, argsToLocals, Value.category]; done) | rfl
def Q2 (Z : State) (a : Addr) (pv : Int32) (tm : Int32) (sid : Int64) (pw : Addr) (h0 : Heap) (n0 : Nat) (v : Option Value) (h : Heap) (L : List Loc) : Prop := v = none ∧ Fr n0 L ∧ Keep h0 h [a] ∧ (Exa Z h a "com/example/cairn/cairn/model/ConnectResponse") ∧ (Fld Z h a "com/example/cairn/cairn/model/ConnectResponse" "sessionId" "J" (.long sid))
set_option maxRecDepth 65536 in
set_option maxHeartbeats 40000000 in
theorem rm2 (l : Launch) (Z : State) (a0 : Array Value) (hw : ∀ d ∈ tables_1, d.before a0 Z = true) (ws : List Jvm.Cond) (a : Addr) (pv : Int32) (tm : Int32) (sid : Int64) (pw : Addr) (h0 : Heap) (n0 : Nat) (Z0 : n0 ≤ h0.size) (P0 : Exa Z h0 a "com/example/cairn/cairn/model/ConnectResponse") (P1 : Fld Z h0 a "com/example/cairn/cairn/model/ConnectResponse" "protocolVersion" "I" (.int (0 : Int32))) (P2 : Fld Z h0 a "com/example/cairn/cairn/model/ConnectResponse" "timeoutMs" "I" (.int (0 : Int32))) (P3 : Fld Z h0 a "com/example/cairn/cairn/model/ConnectResponse" "sessionId" "J" (.long (0 : Int64))) (P4 : Fld Z h0 a "com/example/cairn/cairn/model/ConnectResponse" "password" "[B" .null) (P5 : Fld Z h0 a "com/example/cairn/cairn/model/ConnectResponse" "readOnly" "Ljava/util/Optional;" .null) (P6 : n0 ≤ a) :
    MetFree l (⟨"com/example/cairn/cairn/model/ConnectResponse", "<init>", "(IIJ[BLjava/util/Optional;)V"⟩ : MethodName) (head1 (Jvm.Cond.code (⟨"com/example/cairn/cairn/model/ConnectResponse", "<init>", "(IIJ[BLjava/util/Optional;)V"⟩ : MethodName) prog_40_method_1_code 7 none :: ws) ({ frames := 2, cells := 0, slots := 0, locals := 24 } : Room)) (fun ar_ U => ar_ = #[(.ref a), (.int pv), (.int tm), (.long sid), (.ref pw), .null] ∧ Z.Warmed39 U.vm ∧ U.heap = h0) (fun _ _ _ _ _ => True) (fun _ U o U' => ∃ v L, o = .returned v ∧ Q2 Z a pv tm sid pw  h0 n0 v U'.heap L ∧ FrameEnd U o U' L ({ frames := 2, cells := 0, slots := 0, locals := 24 } : Room).cells ({ frames := 2, cells := 0, slots := 0, locals := 24 } : Room).slots) := by
  refine MetFree.of_bodySF (plainFor_of_name pn_1) hisR ?_
  intro p e s m args below meth c s₁ Bd hml0 hP hK
  obtain ⟨rfl, hZ, hh⟩ := hP
  have hx := Bd.exec
  have hby := Bd.bytes
  have hml : c.maxLocals = 7 := hml0
  have hown : s.vm.findClass "com/example/cairn/cairn/model/ConnectResponse" = some m.cls := findClass_of_methodNamed Bd.named
  have hnm := (name_of_methodNamed Bd.named Bd.method).1
  have X0 : Stand p l e ({ frames := 2, cells := 0, slots := 0, locals := 24 } : Room) s m #[(.ref a), (.int pv), (.int tm), (.long sid), (.ref pw), .null] below meth c s₁ [] 0 0 := Stand.of_body Bd
  have e0 : s₁.heap = h0 := by rw [← hh, Bd.state]; rfl
  have N0 := Fr.nil n0
  refine own_in (castTop (ef_2 m a pv tm sid pw)) ?_
  show own_Go _ _ _ _ (s₁.setTop (mkF m 0 #[.val (.ref a), .val (.int pv), .val (.int tm), .val (.long sid), .second, .val (.ref pw), .val .null] []))
  refine own_step (fun _ κ => XS.aloadN X0.here hx rfl (hb hby d2_0) rfl rfl κ) ?_
  show own_Go _ _ _ _ (s₁.setTop (mkF m 1 #[.val (.ref a), .val (.int pv), .val (.int tm), .val (.long sid), .second, .val (.ref pw), .val .null] [(.ref a)]))
  obtain ⟨vr1, _, ⟨T1, L1, k1, n1⟩, -, X1, ⟨Lc1, hQ1, l1, y1, z1⟩, st1⟩ := X0.specialBack hx (y := (⟨"java/lang/Record", "<init>", "()V"⟩ : MethodName)) rfl hown (mvT hZ (hw _ (List.mem_of_getElem? (i := 7) rfl))) (mvT hZ (hw _ (List.mem_of_getElem? (i := 8) rfl))) (mvT hZ (hw _ (List.mem_of_getElem? (i := 11) rfl))) (by decide) (backOf (W := 0) (rm1 l Z a0 hw [] a  h0 n0 Z0 ) hZ (hw _ (List.mem_of_getElem? (i := 11) rfl)) (hw _ (List.mem_of_getElem? (i := 10) rfl)) (by decide) (by decide)) (g := (mkF m 1 #[.val (.ref a), .val (.int pv), .val (.int tm), .val (.long sid), .second, .val (.ref pw), .val .null] [(.ref a)])) rfl (by rw [hml]; rfl) (Steps.refl _) (a := a) (argsL := []) (rest := []) (lenOf pd_0 rfl) rfl (by show 2 * 0 + _ ≤ _; exact Nat.le_of_eq rfl) (hb hby d2_1) (fun _ _ => ⟨rfl, e0, (by decide : 0 + 0 ≤ _), (by decide : 0 + 0 ≤ _)⟩)
  dsimp only [Pt.U, Pt.locs, Pt.cells, Pt.slots] at X1 l1 y1 z1 st1 hQ1
  subst l1 y1 z1
  obtain ⟨rfl, Nq1, eq1⟩ := hQ1
  have N1 := Fr.app N0 Nq1
  refine own_step (fun _ κ => st1.trans κ) ?_
  show own_Go _ _ _ _ (T1.setTop (mkF m 4 #[.val (.ref a), .val (.int pv), .val (.int tm), .val (.long sid), .second, .val (.ref pw), .val .null] []))
  refine own_step (fun _ κ => XS.aloadN X1.here hx rfl (hb hby d2_4) rfl rfl κ) ?_
  show own_Go _ _ _ _ (T1.setTop (mkF m 5 #[.val (.ref a), .val (.int pv), .val (.int tm), .val (.long sid), .second, .val (.ref pw), .val .null] [(.ref a)]))
  refine own_step (fun _ κ => XS.iloadN X1.here hx rfl (hb hby d2_5) rfl κ) ?_
  show own_Go _ _ _ _ (T1.setTop (mkF m 6 #[.val (.ref a), .val (.int pv), .val (.int tm), .val (.long sid), .second, .val (.ref pw), .val .null] [(.int pv), (.ref a)]))
  obtain ⟨T2, h2, X2, e2, W2, st2⟩ := putF X1 hx hZ hown (host := "") (Or.inl (hw _ (List.mem_of_getElem? (i := 15) rfl))) Via.refl eq1 P1 P0 (Or.inr ⟨(hw _ (List.mem_of_getElem? (i := 16) rfl)), rfl, hnm⟩) (hw _ (List.mem_of_getElem? (i := 2) rfl)) (ty := .int) (by decide) rfl rfl (g := (mkF m 6 #[.val (.ref a), .val (.int pv), .val (.int tm), .val (.long sid), .second, .val (.ref pw), .val .null] [(.int pv), (.ref a)])) rfl rfl (hb hby d2_6)
  refine own_step st2 ?_
  have N2 := Fr.snoc X2 N1 P6
  have Fw2 := P1.same W2
  have f3 := P0.wr W2
  have f4 := P2.other W2 (Or.inr (slot_ne (Or.inr (hw _ (List.mem_of_getElem? (i := 18) rfl))) (Or.inr (hw _ (List.mem_of_getElem? (i := 16) rfl))) (by decide) (t := .int) (t' := .int) (by decide) (by decide)))
  have f5 := P3.other W2 (Or.inr (slot_ne (Or.inr (hw _ (List.mem_of_getElem? (i := 20) rfl))) (Or.inr (hw _ (List.mem_of_getElem? (i := 16) rfl))) (by decide) (t := .long) (t' := .int) (by decide) (by decide)))
  have f6 := P4.other W2 (Or.inr (slot_ne (Or.inr (hw _ (List.mem_of_getElem? (i := 22) rfl))) (Or.inr (hw _ (List.mem_of_getElem? (i := 16) rfl))) (by decide) (t := (.array .byte)) (t' := .int) (by decide) (by decide)))
  have f7 := P5.other W2 (Or.inr (slot_ne (Or.inr (hw _ (List.mem_of_getElem? (i := 24) rfl))) (Or.inr (hw _ (List.mem_of_getElem? (i := 16) rfl))) (by decide) (t := (.object "java/util/Optional")) (t' := .int) (by decide) (by decide)))
  have K8 : Keep h0 h2 [a] := (Keep.refl h0 [a]).wr W2 (Or.inl (List.mem_of_getElem? (i := 0) rfl))
  have z9 : n0 ≤ h2.size := Nat.le_trans Z0 (Keep.of_wr W2).1
  show own_Go _ _ _ _ (T2.setTop (mkF m 9 #[.val (.ref a), .val (.int pv), .val (.int tm), .val (.long sid), .second, .val (.ref pw), .val .null] []))
  refine own_step (fun _ κ => XS.aloadN X2.here hx rfl (hb hby d2_9) rfl rfl κ) ?_
  show own_Go _ _ _ _ (T2.setTop (mkF m 10 #[.val (.ref a), .val (.int pv), .val (.int tm), .val (.long sid), .second, .val (.ref pw), .val .null] [(.ref a)]))
  refine own_step (fun _ κ => XS.iloadN X2.here hx rfl (hb hby d2_10) rfl κ) ?_
  show own_Go _ _ _ _ (T2.setTop (mkF m 11 #[.val (.ref a), .val (.int pv), .val (.int tm), .val (.long sid), .second, .val (.ref pw), .val .null] [(.int tm), (.ref a)]))
  obtain ⟨T10, h10, X10, e10, W10, st10⟩ := putF X2 hx hZ hown (host := "") (Or.inl (hw _ (List.mem_of_getElem? (i := 17) rfl))) Via.refl e2 f4 f3 (Or.inr ⟨(hw _ (List.mem_of_getElem? (i := 18) rfl)), rfl, hnm⟩) (hw _ (List.mem_of_getElem? (i := 2) rfl)) (ty := .int) (by decide) rfl rfl (g := (mkF m 11 #[.val (.ref a), .val (.int pv), .val (.int tm), .val (.long sid), .second, .val (.ref pw), .val .null] [(.int tm), (.ref a)])) rfl rfl (hb hby d2_11)
  refine own_step st10 ?_
  have N10 := Fr.snoc X10 N2 P6
  have Fw10 := f4.same W10
  have f11 := f3.wr W10
  have f12 := f5.other W10 (Or.inr (slot_ne (Or.inr (hw _ (List.mem_of_getElem? (i := 20) rfl))) (Or.inr (hw _ (List.mem_of_getElem? (i := 18) rfl))) (by decide) (t := .long) (t' := .int) (by decide) (by decide)))
  have f13 := f6.other W10 (Or.inr (slot_ne (Or.inr (hw _ (List.mem_of_getElem? (i := 22) rfl))) (Or.inr (hw _ (List.mem_of_getElem? (i := 18) rfl))) (by decide) (t := (.array .byte)) (t' := .int) (by decide) (by decide)))
  have f14 := f7.other W10 (Or.inr (slot_ne (Or.inr (hw _ (List.mem_of_getElem? (i := 24) rfl))) (Or.inr (hw _ (List.mem_of_getElem? (i := 18) rfl))) (by decide) (t := (.object "java/util/Optional")) (t' := .int) (by decide) (by decide)))
  have f15 := Fw2.other W10 (Or.inr (slot_ne (Or.inr (hw _ (List.mem_of_getElem? (i := 16) rfl))) (Or.inr (hw _ (List.mem_of_getElem? (i := 18) rfl))) (by decide) (t := .int) (t' := .int) (by decide) (by decide)))
  have K16 : Keep h0 h10 [a] := K8.wr W10 (Or.inl (List.mem_of_getElem? (i := 0) rfl))
  have z17 : n0 ≤ h10.size := Nat.le_trans z9 (Keep.of_wr W10).1
  show own_Go _ _ _ _ (T10.setTop (mkF m 14 #[.val (.ref a), .val (.int pv), .val (.int tm), .val (.long sid), .second, .val (.ref pw), .val .null] []))
  refine own_step (fun _ κ => XS.aloadN X10.here hx rfl (hb hby d2_14) rfl rfl κ) ?_
  show own_Go _ _ _ _ (T10.setTop (mkF m 15 #[.val (.ref a), .val (.int pv), .val (.int tm), .val (.long sid), .second, .val (.ref pw), .val .null] [(.ref a)]))
  refine own_step (fun _ κ => XS.lloadN X10.here hx rfl (hb hby d2_15) rfl κ) ?_
  show own_Go _ _ _ _ (T10.setTop (mkF m 16 #[.val (.ref a), .val (.int pv), .val (.int tm), .val (.long sid), .second, .val (.ref pw), .val .null] [(.long sid), (.ref a)]))
  obtain ⟨T18, h18, X18, e18, W18, st18⟩ := putF X10 hx hZ hown (host := "") (Or.inl (hw _ (List.mem_of_getElem? (i := 19) rfl))) Via.refl e10 f12 f11 (Or.inr ⟨(hw _ (List.mem_of_getElem? (i := 20) rfl)), rfl, hnm⟩) (hw _ (List.mem_of_getElem? (i := 2) rfl)) (ty := .long) (by decide) rfl rfl (g := (mkF m 16 #[.val (.ref a), .val (.int pv), .val (.int tm), .val (.long sid), .second, .val (.ref pw), .val .null] [(.long sid), (.ref a)])) rfl rfl (hb hby d2_16)
  refine own_step st18 ?_
  have N18 := Fr.snoc X18 N10 P6
  have Fw18 := f12.same W18
  have f19 := f11.wr W18
  have f20 := f13.other W18 (Or.inr (slot_ne (Or.inr (hw _ (List.mem_of_getElem? (i := 22) rfl))) (Or.inr (hw _ (List.mem_of_getElem? (i := 20) rfl))) (by decide) (t := (.array .byte)) (t' := .long) (by decide) (by decide)))
  have f21 := f14.other W18 (Or.inr (slot_ne (Or.inr (hw _ (List.mem_of_getElem? (i := 24) rfl))) (Or.inr (hw _ (List.mem_of_getElem? (i := 20) rfl))) (by decide) (t := (.object "java/util/Optional")) (t' := .long) (by decide) (by decide)))
  have f22 := f15.other W18 (Or.inr (slot_ne (Or.inr (hw _ (List.mem_of_getElem? (i := 16) rfl))) (Or.inr (hw _ (List.mem_of_getElem? (i := 20) rfl))) (by decide) (t := .int) (t' := .long) (by decide) (by decide)))
  have f23 := Fw10.other W18 (Or.inr (slot_ne (Or.inr (hw _ (List.mem_of_getElem? (i := 18) rfl))) (Or.inr (hw _ (List.mem_of_getElem? (i := 20) rfl))) (by decide) (t := .int) (t' := .long) (by decide) (by decide)))
  have K24 : Keep h0 h18 [a] := K16.wr W18 (Or.inl (List.mem_of_getElem? (i := 0) rfl))
  have z25 : n0 ≤ h18.size := Nat.le_trans z17 (Keep.of_wr W18).1
  show own_Go _ _ _ _ (T18.setTop (mkF m 19 #[.val (.ref a), .val (.int pv), .val (.int tm), .val (.long sid), .second, .val (.ref pw), .val .null] []))
  refine own_step (fun _ κ => XS.aloadN X18.here hx rfl (hb hby d2_19) rfl rfl κ) ?_
  show own_Go _ _ _ _ (T18.setTop (mkF m 20 #[.val (.ref a), .val (.int pv), .val (.int tm), .val (.long sid), .second, .val (.ref pw), .val .null] [(.ref a)]))
  refine own_step (fun _ κ => XS.aload X18.here hx rfl (hb hby d2_20) rfl rfl κ) ?_
  show own_Go _ _ _ _ (T18.setTop (mkF m 22 #[.val (.ref a), .val (.int pv), .val (.int tm), .val (.long sid), .second, .val (.ref pw), .val .null] [(.ref pw), (.ref a)]))
  obtain ⟨T26, h26, X26, e26, W26, st26⟩ := putF X18 hx hZ hown (host := "") (Or.inl (hw _ (List.mem_of_getElem? (i := 21) rfl))) Via.refl e18 f20 f19 (Or.inr ⟨(hw _ (List.mem_of_getElem? (i := 22) rfl)), rfl, hnm⟩) (hw _ (List.mem_of_getElem? (i := 2) rfl)) (ty := (.array .byte)) (by decide) rfl rfl (g := (mkF m 22 #[.val (.ref a), .val (.int pv), .val (.int tm), .val (.long sid), .second, .val (.ref pw), .val .null] [(.ref pw), (.ref a)])) rfl rfl (hb hby d2_22)
  refine own_step st26 ?_
  have N26 := Fr.snoc X26 N18 P6
  have Fw26 := f20.same W26
  have f27 := f19.wr W26
  have f28 := f21.other W26 (Or.inr (slot_ne (Or.inr (hw _ (List.mem_of_getElem? (i := 24) rfl))) (Or.inr (hw _ (List.mem_of_getElem? (i := 22) rfl))) (by decide) (t := (.object "java/util/Optional")) (t' := (.array .byte)) (by decide) (by decide)))
  have f29 := f22.other W26 (Or.inr (slot_ne (Or.inr (hw _ (List.mem_of_getElem? (i := 16) rfl))) (Or.inr (hw _ (List.mem_of_getElem? (i := 22) rfl))) (by decide) (t := .int) (t' := (.array .byte)) (by decide) (by decide)))
  have f30 := f23.other W26 (Or.inr (slot_ne (Or.inr (hw _ (List.mem_of_getElem? (i := 18) rfl))) (Or.inr (hw _ (List.mem_of_getElem? (i := 22) rfl))) (by decide) (t := .int) (t' := (.array .byte)) (by decide) (by decide)))
  have f31 := Fw18.other W26 (Or.inr (slot_ne (Or.inr (hw _ (List.mem_of_getElem? (i := 20) rfl))) (Or.inr (hw _ (List.mem_of_getElem? (i := 22) rfl))) (by decide) (t := .long) (t' := (.array .byte)) (by decide) (by decide)))
  have K32 : Keep h0 h26 [a] := K24.wr W26 (Or.inl (List.mem_of_getElem? (i := 0) rfl))
  have z33 : n0 ≤ h26.size := Nat.le_trans z25 (Keep.of_wr W26).1
  show own_Go _ _ _ _ (T26.setTop (mkF m 25 #[.val (.ref a), .val (.int pv), .val (.int tm), .val (.long sid), .second, .val (.ref pw), .val .null] []))
  refine own_step (fun _ κ => XS.aloadN X26.here hx rfl (hb hby d2_25) rfl rfl κ) ?_
  show own_Go _ _ _ _ (T26.setTop (mkF m 26 #[.val (.ref a), .val (.int pv), .val (.int tm), .val (.long sid), .second, .val (.ref pw), .val .null] [(.ref a)]))
  refine own_step (fun _ κ => XS.aload X26.here hx rfl (hb hby d2_26) rfl rfl κ) ?_
  show own_Go _ _ _ _ (T26.setTop (mkF m 28 #[.val (.ref a), .val (.int pv), .val (.int tm), .val (.long sid), .second, .val (.ref pw), .val .null] [.null, (.ref a)]))
  obtain ⟨T34, h34, X34, e34, W34, st34⟩ := putF X26 hx hZ hown (host := "") (Or.inl (hw _ (List.mem_of_getElem? (i := 23) rfl))) Via.refl e26 f28 f27 (Or.inr ⟨(hw _ (List.mem_of_getElem? (i := 24) rfl)), rfl, hnm⟩) (hw _ (List.mem_of_getElem? (i := 2) rfl)) (ty := (.object "java/util/Optional")) (by decide) rfl rfl (g := (mkF m 28 #[.val (.ref a), .val (.int pv), .val (.int tm), .val (.long sid), .second, .val (.ref pw), .val .null] [.null, (.ref a)])) rfl rfl (hb hby d2_28)
  refine own_step st34 ?_
  have N34 := Fr.snoc X34 N26 P6
  have Fw34 := f28.same W34
  have f35 := f27.wr W34
  have f36 := f29.other W34 (Or.inr (slot_ne (Or.inr (hw _ (List.mem_of_getElem? (i := 16) rfl))) (Or.inr (hw _ (List.mem_of_getElem? (i := 24) rfl))) (by decide) (t := .int) (t' := (.object "java/util/Optional")) (by decide) (by decide)))
  have f37 := f30.other W34 (Or.inr (slot_ne (Or.inr (hw _ (List.mem_of_getElem? (i := 18) rfl))) (Or.inr (hw _ (List.mem_of_getElem? (i := 24) rfl))) (by decide) (t := .int) (t' := (.object "java/util/Optional")) (by decide) (by decide)))
  have f38 := f31.other W34 (Or.inr (slot_ne (Or.inr (hw _ (List.mem_of_getElem? (i := 20) rfl))) (Or.inr (hw _ (List.mem_of_getElem? (i := 24) rfl))) (by decide) (t := .long) (t' := (.object "java/util/Optional")) (by decide) (by decide)))
  have f39 := Fw26.other W34 (Or.inr (slot_ne (Or.inr (hw _ (List.mem_of_getElem? (i := 22) rfl))) (Or.inr (hw _ (List.mem_of_getElem? (i := 24) rfl))) (by decide) (t := (.array .byte)) (t' := (.object "java/util/Optional")) (by decide) (by decide)))
  have K40 : Keep h0 h34 [a] := K32.wr W34 (Or.inl (List.mem_of_getElem? (i := 0) rfl))
  have z41 : n0 ≤ h34.size := Nat.le_trans z33 (Keep.of_wr W34).1
  show own_Go _ _ _ _ (T34.setTop (mkF m 31 #[.val (.ref a), .val (.int pv), .val (.int tm), .val (.long sid), .second, .val (.ref pw), .val .null] []))
  obtain ⟨fs, hr, hrun, hended, hW, hsame⟩ := X34.leave (v := none) (fun _ => rfl)
  refine ⟨_, _, X34.returnOut hx Bd.returns (hb hby d2_31) hr, hrun, hended, _, _, rfl, ?_, ⟨_, rfl⟩, hW, hsame.mono (by decide) (by decide)⟩
  show Q2 Z a pv tm sid pw  h0 n0 _ T34.heap _
  rw [e34]
  exact ⟨rfl, N34, K40, f35, f38⟩
theorem d3_0 : decode prog_40_method_2_code 0 = .ok (.aload_n 0, 1) := by decide +kernel
theorem d3_1 : decode prog_40_method_2_code 1 = .ok (.getfield 16, 3) := by decide +kernel
theorem d3_4 : decode prog_40_method_2_code 4 = .ok (.lconst 0, 1) := by decide +kernel
theorem d3_5 : decode prog_40_method_2_code 5 = .ok (.lcmp, 1) := by decide +kernel
theorem d3_6 : decode prog_40_method_2_code 6 = .ok (.ifCond .ne 7, 3) := by decide +kernel
theorem d3_9 : decode prog_40_method_2_code 9 = .ok (.iconst 1, 1) := by decide +kernel
theorem d3_10 : decode prog_40_method_2_code 10 = .ok (.goto 4, 3) := by decide +kernel
theorem d3_13 : decode prog_40_method_2_code 13 = .ok (.iconst 0, 1) := by decide +kernel
theorem d3_14 : decode prog_40_method_2_code 14 = .ok (.ireturn, 1) := by decide +kernel
theorem ef_3 (m : MethodId) (a : Addr) : entryFrame m #[(.ref a)] 1 = mkF m 0 #[.val (.ref a)] [] := by first | (simp [entryFrame, mkF, argsToLocals, Value.category]; done) | rfl
def Q3 (Z : State) (a : Addr) (sid : Int64) (h0 : Heap) (n0 : Nat) (v : Option Value) (h : Heap) (L : List Loc) : Prop := v = some (.int (if sid = (0 : Int64) then (1 : Int32) else (0 : Int32))) ∧ Fr n0 L ∧ h = h0
set_option maxRecDepth 65536 in
set_option maxHeartbeats 40000000 in
theorem rm3 (l : Launch) (Z : State) (a0 : Array Value) (hw : ∀ d ∈ tables_1, d.before a0 Z = true) (ws : List Jvm.Cond) (a : Addr) (sid : Int64) (h0 : Heap) (n0 : Nat) (Z0 : n0 ≤ h0.size) (P0 : Fld Z h0 a "com/example/cairn/cairn/model/ConnectResponse" "sessionId" "J" (.long sid)) :
    MetFree l (⟨"com/example/cairn/cairn/model/ConnectResponse", "refused", "()Z"⟩ : MethodName) (head1 (Jvm.Cond.code (⟨"com/example/cairn/cairn/model/ConnectResponse", "refused", "()Z"⟩ : MethodName) prog_40_method_2_code 1 (some .boolean) :: ws) ({ frames := 0, cells := 0, slots := 0, locals := 0 } : Room)) (fun ar_ U => ar_ = #[(.ref a)] ∧ Z.Warmed39 U.vm ∧ U.heap = h0) (fun _ _ _ _ _ => True) (fun _ U o U' => ∃ v L, o = .returned v ∧ Q3 Z a sid h0 n0 v U'.heap L ∧ FrameEnd U o U' L ({ frames := 0, cells := 0, slots := 0, locals := 0 } : Room).cells ({ frames := 0, cells := 0, slots := 0, locals := 0 } : Room).slots) := by
  refine MetFree.of_bodySF (plainFor_of_name pn_1) hisR ?_
  intro p e s m args below meth c s₁ Bd hml0 hP hK
  obtain ⟨rfl, hZ, hh⟩ := hP
  have hx := Bd.exec
  have hby := Bd.bytes
  have hml : c.maxLocals = 1 := hml0
  have hown : s.vm.findClass "com/example/cairn/cairn/model/ConnectResponse" = some m.cls := findClass_of_methodNamed Bd.named
  have hnm := (name_of_methodNamed Bd.named Bd.method).1
  have X0 : Stand p l e ({ frames := 0, cells := 0, slots := 0, locals := 0 } : Room) s m #[(.ref a)] below meth c s₁ [] 0 0 := Stand.of_body Bd
  have e0 : s₁.heap = h0 := by rw [← hh, Bd.state]; rfl
  have N0 := Fr.nil n0
  refine own_in (castTop (ef_3 m a)) ?_
  show own_Go _ _ _ _ (s₁.setTop (mkF m 0 #[.val (.ref a)] []))
  refine own_step (fun _ κ => XS.aloadN X0.here hx rfl (hb hby d3_0) rfl rfl κ) ?_
  show own_Go _ _ _ _ (s₁.setTop (mkF m 1 #[.val (.ref a)] [(.ref a)]))
  obtain ⟨T1, X1, e1, st1⟩ := getF X0 hx hZ hown (host := "") (Or.inl (hw _ (List.mem_of_getElem? (i := 19) rfl))) Via.refl e0 P0 (g := (mkF m 1 #[.val (.ref a)] [(.ref a)])) rfl rfl (hb hby d3_1)
  refine own_step st1 ?_
  show own_Go _ _ _ _ (T1.setTop (mkF m 4 #[.val (.ref a)] [(.long sid)]))
  refine own_step (fun _ κ => XS.lconst X1.here hx rfl (hb hby d3_4) κ) ?_
  show own_Go _ _ _ _ (T1.setTop (mkF m 5 #[.val (.ref a)] [(.long (0 : Int64)), (.long sid)]))
  refine own_step (fun _ κ => XS.lcmp X1.here hx rfl (hb hby d3_5) rfl κ) ?_
  show own_Go _ _ _ _ (T1.setTop (mkF m 6 #[.val (.ref a)] [(.int (lcmpW sid (0 : Int64)))]))
  by_cases hc2 : sid = (0 : Int64)
  · refine own_step (fun _ κ => XS.ifNo X1.here hx rfl (hb hby d3_6) rfl ((if0 _ _).trans (teq ((lw_eq _ _).mpr hc2)).2) κ) ?_
    show own_Go _ _ _ _ (T1.setTop (mkF m 9 #[.val (.ref a)] []))
    refine own_step (fun _ κ => XS.iconst X1.here hx rfl (hb hby d3_9) κ) ?_
    show own_Go _ _ _ _ (T1.setTop (mkF m 10 #[.val (.ref a)] [(.int (1 : Int32))]))
    refine own_step (fun _ κ => XS.goto X1.here hx rfl (pc0 := 10) (pc' := 14) rfl (hb hby d3_10) (by decide) (by decide) κ) ?_
    show own_Go _ _ _ _ (T1.setTop (mkF m 14 #[.val (.ref a)] [(.int (1 : Int32))]))
    obtain ⟨fs, hr, hrun, hended, hW, hsame⟩ := X1.leave (v := some (.int (1 : Int32))) (fun h => by rw [Bd.returns] at h; cases h)
    refine ⟨_, _, retN X1 hx (t := .boolean) Bd.returns (by simp) (hb hby d3_14) hr, hrun, hended, _, _, rfl, ?_, ⟨_, rfl⟩, hW, hsame.mono (by decide) (by decide)⟩
    show Q3 Z a sid h0 n0 _ T1.heap _
    rw [e1]
    exact ⟨(by rw [if_pos hc2]), N0, rfl⟩
  · refine own_step (fun _ κ => XS.ifYes X1.here hx rfl (pc0 := 6) (pc' := 13) rfl (hb hby d3_6) rfl ((if0 _ _).trans (feq (fun q => hc2 ((lw_eq _ _).mp q))).2) (by decide) (by decide) κ) ?_
    show own_Go _ _ _ _ (T1.setTop (mkF m 13 #[.val (.ref a)] []))
    refine own_step (fun _ κ => XS.iconst X1.here hx rfl (hb hby d3_13) κ) ?_
    show own_Go _ _ _ _ (T1.setTop (mkF m 14 #[.val (.ref a)] [(.int (0 : Int32))]))
    obtain ⟨fs, hr, hrun, hended, hW, hsame⟩ := X1.leave (v := some (.int (0 : Int32))) (fun h => by rw [Bd.returns] at h; cases h)
    refine ⟨_, _, retN X1 hx (t := .boolean) Bd.returns (by simp) (hb hby d3_14) hr, hrun, hended, _, _, rfl, ?_, ⟨_, rfl⟩, hW, hsame.mono (by decide) (by decide)⟩
    show Q3 Z a sid h0 n0 _ T1.heap _
    rw [e1]
    exact ⟨(by rw [if_neg hc2]), N0, rfl⟩
theorem ef_0 (m : MethodId) (pv : Int32) (tm : Int32) (sid : Int64) (pw : Int32) : entryFrame m #[(.int pv), (.int tm), (.long sid), (.int pw)] maxLocals = mkF m 0 #[.val (.int pv), .val (.int tm), .val (.long sid), .second, .val (.int pw), .unset, .unset, .unset] [] := by first | (simp [entryFrame, mkF, argsToLocals, Value.category, maxLocals]; done) | rfl
def Q0 (Z : State) (pv : Int32) (tm : Int32) (sid : Int64) (pw : Int32) (h0 : Heap) (n0 : Nat) (v : Option Value) (h : Heap) (L : List Loc) : Prop := v = some (.int (1 : Int32)) ∧ Fr n0 L
set_option maxRecDepth 65536 in
set_option maxHeartbeats 40000000 in
theorem rm0 (l : Launch) (Z : State) (a0 : Array Value) (hw : ∀ d ∈ tables_1, d.before a0 Z = true) (ws : List Jvm.Cond) (pv : Int32) (tm : Int32) (sid : Int64) (pw : Int32) (h0 : Heap) (n0 : Nat) (Z0 : n0 ≤ h0.size)  :
    MetFree l x (head1 (Jvm.Cond.code x code maxLocals ret :: ws) room_1) (fun ar_ U => ar_ = #[(.int pv), (.int tm), (.long sid), (.int pw)] ∧ Z.Warmed39 U.vm ∧ U.heap = h0) (fun _ _ _ _ _ => True) (fun _ U o U' => ∃ v L, o = .returned v ∧ Q0 Z pv tm sid pw  h0 n0 v U'.heap L ∧ FrameEnd U o U' L room_1.cells room_1.slots) := by
  refine MetFree.of_bodySF (plainFor_of_name pn_2) hisR ?_
  intro p e s m args below meth c s₁ Bd hml0 hP hK
  obtain ⟨rfl, hZ, hh⟩ := hP
  have hx := Bd.exec
  have hby := Bd.bytes
  have hml : c.maxLocals = 8 := hml0
  have hown : s.vm.findClass "com/example/cairn/cairn/model/ConnectResponseRefusedPinLaw" = some m.cls := findClass_of_methodNamed Bd.named
  have hnm := (name_of_methodNamed Bd.named Bd.method).1
  have X0 : Stand p l e room_1 s m #[(.int pv), (.int tm), (.long sid), (.int pw)] below meth c s₁ [] 0 0 := Stand.of_body Bd
  have e0 : s₁.heap = h0 := by rw [← hh, Bd.state]; rfl
  have N0 := Fr.nil n0
  refine own_in (castTop (ef_0 m pv tm sid pw)) ?_
  show own_Go _ _ _ _ (s₁.setTop (mkF m 0 #[.val (.int pv), .val (.int tm), .val (.long sid), .second, .val (.int pw), .unset, .unset, .unset] []))
  refine own_step (fun _ κ => XS.bipush X0.here hx rfl (hb hby at_0) κ) ?_
  show own_Go _ _ _ _ (s₁.setTop (mkF m 2 #[.val (.int pv), .val (.int tm), .val (.long sid), .second, .val (.int pw), .unset, .unset, .unset] [(.int (16 : Int32))]))
  obtain ⟨T1, h1, k1, X1, e1, E1, A1, st1⟩ := newP X0 hx hZ (hw _ (List.mem_of_getElem? (i := 0) rfl)) e0 (g := (mkF m 2 #[.val (.int pv), .val (.int tm), .val (.long sid), .second, .val (.int pw), .unset, .unset, .unset] [(.int (16 : Int32))])) rfl (hb hby at_2) rfl (by decide) (cap := 16) (by decide) (by decide) (by decide) (by decide)
  obtain ⟨b1, g1⟩ : ∃ z, z = h0.size := ⟨_, rfl⟩
  rw [← g1] at A1 st1
  refine own_step st1 ?_
  have ge2 : n0 ≤ b1 := Nat.le_trans Z0 (Nat.le_of_eq g1.symm)
  have z3 : n0 ≤ h1.size := Nat.le_trans Z0 E1.1
  have V1 : Arv Z h1 b1 k1 .byte (16 : Int32) [(.int (0 : Int32)), (.int (0 : Int32)), (.int (0 : Int32)), (.int (0 : Int32)), (.int (0 : Int32)), (.int (0 : Int32)), (.int (0 : Int32)), (.int (0 : Int32)), (.int (0 : Int32)), (.int (0 : Int32)), (.int (0 : Int32)), (.int (0 : Int32)), (.int (0 : Int32)), (.int (0 : Int32)), (.int (0 : Int32)), (.int (0 : Int32))] (.int (0 : Int32)) := (Arv.new A1 (by decide)).pad (pad_rep [] (.int (0 : Int32)) 16)
  show own_Go _ _ _ _ (T1.setTop (mkF m 4 #[.val (.int pv), .val (.int tm), .val (.long sid), .second, .val (.int pw), .unset, .unset, .unset] [(.ref b1)]))
  refine own_step (fun _ κ => XS.astore X1.here hx rfl (hb hby at_4) rfl rfl (l' := #[.val (.int pv), .val (.int tm), .val (.long sid), .second, .val (.int pw), .val (.ref b1), .unset, .unset]) rfl κ) ?_
  show own_Go _ _ _ _ (T1.setTop (mkF m 6 #[.val (.int pv), .val (.int tm), .val (.long sid), .second, .val (.int pw), .val (.ref b1), .unset, .unset] []))
  refine own_step (fun _ κ => XS.aload X1.here hx rfl (hb hby at_6) rfl rfl κ) ?_
  show own_Go _ _ _ _ (T1.setTop (mkF m 8 #[.val (.int pv), .val (.int tm), .val (.long sid), .second, .val (.int pw), .val (.ref b1), .unset, .unset] [(.ref b1)]))
  refine own_step (fun _ κ => XS.iconst X1.here hx rfl (hb hby at_8) κ) ?_
  show own_Go _ _ _ _ (T1.setTop (mkF m 9 #[.val (.int pv), .val (.int tm), .val (.long sid), .second, .val (.int pw), .val (.ref b1), .unset, .unset] [(.int (0 : Int32)), (.ref b1)]))
  refine own_step (fun _ κ => XS.iload X1.here hx rfl (hb hby at_9) rfl κ) ?_
  show own_Go _ _ _ _ (T1.setTop (mkF m 11 #[.val (.int pv), .val (.int tm), .val (.long sid), .second, .val (.int pw), .val (.ref b1), .unset, .unset] [(.int pw), (.int (0 : Int32)), (.ref b1)]))
  refine own_step (fun _ κ => XS.i2b X1.here hx rfl (hb hby at_11) rfl κ) ?_
  show own_Go _ _ _ _ (T1.setTop (mkF m 12 #[.val (.int pv), .val (.int tm), .val (.long sid), .second, .val (.int pw), .val (.ref b1), .unset, .unset] [(.int (pw.toInt8.toInt32)), (.int (0 : Int32)), (.ref b1)]))
  obtain ⟨cl4, Ar4, q4, Sz4, Nz4, Hs4, Gs4⟩ := V1
  have hin4 := inb_of (j := (0 : Int32)) Sz4 ⟨by decide, by decide⟩
  obtain ⟨T4, h4, X4, e4, W4, st4⟩ := stB X1 hx hZ e1 Ar4 (j := (0 : Int32)) hin4 (g := (mkF m 12 #[.val (.int pv), .val (.int tm), .val (.long sid), .second, .val (.int pw), .val (.ref b1), .unset, .unset] [(.int (pw.toInt8.toInt32)), (.int (0 : Int32)), (.ref b1)])) rfl rfl (hb hby at_12)
  refine own_step st4 ?_
  have N4 := Fr.snoc X4 N0 ge2
  have V4 : Arv Z h4 b1 k1 .byte (16 : Int32) [(.int (pw.toInt8.toInt32).toInt8.toInt32), (.int (0 : Int32)), (.int (0 : Int32)), (.int (0 : Int32)), (.int (0 : Int32)), (.int (0 : Int32)), (.int (0 : Int32)), (.int (0 : Int32)), (.int (0 : Int32)), (.int (0 : Int32)), (.int (0 : Int32)), (.int (0 : Int32)), (.int (0 : Int32)), (.int (0 : Int32)), (.int (0 : Int32)), (.int (0 : Int32))] (.int (0 : Int32)) := Arv.set Ar4 q4 Sz4 Nz4 Hs4 Gs4 (fits_nar_byte _) W4 0 rfl (Nat.le_of_ble_eq_true rfl)
  have z5 : n0 ≤ h4.size := Nat.le_trans z3 (Keep.of_wr W4).1
  show own_Go _ _ _ _ (T4.setTop (mkF m 13 #[.val (.int pv), .val (.int tm), .val (.long sid), .second, .val (.int pw), .val (.ref b1), .unset, .unset] []))
  refine own_step (fun _ κ => XS.aload X4.here hx rfl (hb hby at_13) rfl rfl κ) ?_
  show own_Go _ _ _ _ (T4.setTop (mkF m 15 #[.val (.int pv), .val (.int tm), .val (.long sid), .second, .val (.int pw), .val (.ref b1), .unset, .unset] [(.ref b1)]))
  refine own_step (fun _ κ => XS.bipush X4.here hx rfl (hb hby at_15) κ) ?_
  show own_Go _ _ _ _ (T4.setTop (mkF m 17 #[.val (.int pv), .val (.int tm), .val (.long sid), .second, .val (.int pw), .val (.ref b1), .unset, .unset] [(.int (15 : Int32)), (.ref b1)]))
  refine own_step (fun _ κ => XS.iload X4.here hx rfl (hb hby at_17) rfl κ) ?_
  show own_Go _ _ _ _ (T4.setTop (mkF m 19 #[.val (.int pv), .val (.int tm), .val (.long sid), .second, .val (.int pw), .val (.ref b1), .unset, .unset] [(.int pw), (.int (15 : Int32)), (.ref b1)]))
  refine own_step (fun _ κ => XS.bipush X4.here hx rfl (hb hby at_19) κ) ?_
  show own_Go _ _ _ _ (T4.setTop (mkF m 21 #[.val (.int pv), .val (.int tm), .val (.long sid), .second, .val (.int pw), .val (.ref b1), .unset, .unset] [(.int (8 : Int32)), (.int pw), (.int (15 : Int32)), (.ref b1)]))
  refine own_step (fun _ κ => XS.iushr X4.here hx rfl (hb hby at_21) rfl κ) ?_
  show own_Go _ _ _ _ (T4.setTop (mkF m 22 #[.val (.int pv), .val (.int tm), .val (.long sid), .second, .val (.int pw), .val (.ref b1), .unset, .unset] [(.int ((pw.toUInt32 >>> ((8 : Int32) &&& 31).toUInt32).toInt32)), (.int (15 : Int32)), (.ref b1)]))
  refine own_step (fun _ κ => XS.i2b X4.here hx rfl (hb hby at_22) rfl κ) ?_
  show own_Go _ _ _ _ (T4.setTop (mkF m 23 #[.val (.int pv), .val (.int tm), .val (.long sid), .second, .val (.int pw), .val (.ref b1), .unset, .unset] [(.int (((pw.toUInt32 >>> ((8 : Int32) &&& 31).toUInt32).toInt32).toInt8.toInt32)), (.int (15 : Int32)), (.ref b1)]))
  obtain ⟨cl6, Ar6, q6, Sz6, Nz6, Hs6, Gs6⟩ := V4
  have hin6 := inb_of (j := (15 : Int32)) Sz6 ⟨by decide, by decide⟩
  obtain ⟨T6, h6, X6, e6, W6, st6⟩ := stB X4 hx hZ e4 Ar6 (j := (15 : Int32)) hin6 (g := (mkF m 23 #[.val (.int pv), .val (.int tm), .val (.long sid), .second, .val (.int pw), .val (.ref b1), .unset, .unset] [(.int (((pw.toUInt32 >>> ((8 : Int32) &&& 31).toUInt32).toInt32).toInt8.toInt32)), (.int (15 : Int32)), (.ref b1)])) rfl rfl (hb hby at_23)
  refine own_step st6 ?_
  have N6 := Fr.snoc X6 N4 ge2
  have V6 : Arv Z h6 b1 k1 .byte (16 : Int32) [(.int (pw.toInt8.toInt32).toInt8.toInt32), (.int (0 : Int32)), (.int (0 : Int32)), (.int (0 : Int32)), (.int (0 : Int32)), (.int (0 : Int32)), (.int (0 : Int32)), (.int (0 : Int32)), (.int (0 : Int32)), (.int (0 : Int32)), (.int (0 : Int32)), (.int (0 : Int32)), (.int (0 : Int32)), (.int (0 : Int32)), (.int (0 : Int32)), (.int (((pw.toUInt32 >>> ((8 : Int32) &&& 31).toUInt32).toInt32).toInt8.toInt32).toInt8.toInt32)] (.int (0 : Int32)) := Arv.set Ar6 q6 Sz6 Nz6 Hs6 Gs6 (fits_nar_byte _) W6 15 rfl (Nat.le_of_ble_eq_true rfl)
  have z7 : n0 ≤ h6.size := Nat.le_trans z5 (Keep.of_wr W6).1
  show own_Go _ _ _ _ (T6.setTop (mkF m 24 #[.val (.int pv), .val (.int tm), .val (.long sid), .second, .val (.int pw), .val (.ref b1), .unset, .unset] []))
  obtain ⟨T8, h8, X8, e8, E8, A8, D8, U8, st8⟩ := newO X6 hx hZ hown (hw _ (List.mem_of_getElem? (i := 1) rfl)) (hw _ (List.mem_of_getElem? (i := 2) rfl)) (hw _ (List.mem_of_getElem? (i := 3) rfl)) e6 (g := (mkF m 24 #[.val (.int pv), .val (.int tm), .val (.long sid), .second, .val (.int pw), .val (.ref b1), .unset, .unset] [])) rfl (hb hby at_24) (by decide) (by decide)
  obtain ⟨b8, g8⟩ : ∃ z, z = h6.size := ⟨_, rfl⟩
  rw [← g8] at A8 D8 U8 st8
  refine own_step st8 ?_
  have ne9 : b1 ≠ b8 := Nat.ne_of_lt (Nat.lt_of_lt_of_le V6.lt (Nat.le_of_eq g8.symm))
  have ge10 : n0 ≤ b8 := Nat.le_trans z7 (Nat.le_of_eq g8.symm)
  have f11 := V6.ext E8
  have z12 : n0 ≤ h8.size := Nat.le_trans z7 E8.1
  have F8_protocolVersion : Fld Z h8 b8 "com/example/cairn/cairn/model/ConnectResponse" "protocolVersion" "I" (.int (0 : Int32)) := D8 (Or.inr (hw _ (List.mem_of_getElem? (i := 16) rfl))) (ty := .int) (by decide)
  have F8_timeoutMs : Fld Z h8 b8 "com/example/cairn/cairn/model/ConnectResponse" "timeoutMs" "I" (.int (0 : Int32)) := D8 (Or.inr (hw _ (List.mem_of_getElem? (i := 18) rfl))) (ty := .int) (by decide)
  have F8_sessionId : Fld Z h8 b8 "com/example/cairn/cairn/model/ConnectResponse" "sessionId" "J" (.long (0 : Int64)) := D8 (Or.inr (hw _ (List.mem_of_getElem? (i := 20) rfl))) (ty := .long) (by decide)
  have F8_password : Fld Z h8 b8 "com/example/cairn/cairn/model/ConnectResponse" "password" "[B" .null := D8 (Or.inr (hw _ (List.mem_of_getElem? (i := 22) rfl))) (ty := (.array .byte)) (by decide)
  have F8_readOnly : Fld Z h8 b8 "com/example/cairn/cairn/model/ConnectResponse" "readOnly" "Ljava/util/Optional;" .null := D8 (Or.inr (hw _ (List.mem_of_getElem? (i := 24) rfl))) (ty := (.object "java/util/Optional")) (by decide)
  show own_Go _ _ _ _ (T8.setTop (mkF m 27 #[.val (.int pv), .val (.int tm), .val (.long sid), .second, .val (.int pw), .val (.ref b1), .unset, .unset] [(.ref b8)]))
  refine own_step (fun _ κ => XS.dup X8.here hx rfl (hb hby at_27) rfl rfl κ) ?_
  show own_Go _ _ _ _ (T8.setTop (mkF m 28 #[.val (.int pv), .val (.int tm), .val (.long sid), .second, .val (.int pw), .val (.ref b1), .unset, .unset] [(.ref b8), (.ref b8)]))
  refine own_step (fun _ κ => XS.iloadN X8.here hx rfl (hb hby at_28) rfl κ) ?_
  show own_Go _ _ _ _ (T8.setTop (mkF m 29 #[.val (.int pv), .val (.int tm), .val (.long sid), .second, .val (.int pw), .val (.ref b1), .unset, .unset] [(.int pv), (.ref b8), (.ref b8)]))
  refine own_step (fun _ κ => XS.iloadN X8.here hx rfl (hb hby at_29) rfl κ) ?_
  show own_Go _ _ _ _ (T8.setTop (mkF m 30 #[.val (.int pv), .val (.int tm), .val (.long sid), .second, .val (.int pw), .val (.ref b1), .unset, .unset] [(.int tm), (.int pv), (.ref b8), (.ref b8)]))
  refine own_step (fun _ κ => XS.lloadN X8.here hx rfl (hb hby at_30) rfl κ) ?_
  show own_Go _ _ _ _ (T8.setTop (mkF m 31 #[.val (.int pv), .val (.int tm), .val (.long sid), .second, .val (.int pw), .val (.ref b1), .unset, .unset] [(.long sid), (.int tm), (.int pv), (.ref b8), (.ref b8)]))
  refine own_step (fun _ κ => XS.aload X8.here hx rfl (hb hby at_31) rfl rfl κ) ?_
  show own_Go _ _ _ _ (T8.setTop (mkF m 33 #[.val (.int pv), .val (.int tm), .val (.long sid), .second, .val (.int pw), .val (.ref b1), .unset, .unset] [(.ref b1), (.long sid), (.int tm), (.int pv), (.ref b8), (.ref b8)]))
  refine own_step (fun _ κ => XS.aconstNull X8.here hx rfl (hb hby at_33) κ) ?_
  show own_Go _ _ _ _ (T8.setTop (mkF m 34 #[.val (.int pv), .val (.int tm), .val (.long sid), .second, .val (.int pw), .val (.ref b1), .unset, .unset] [.null, (.ref b1), (.long sid), (.int tm), (.int pv), (.ref b8), (.ref b8)]))
  obtain ⟨vr13, _, ⟨T13, L13, k13, n13⟩, -, X13, ⟨Lc13, hQ13, l13, y13, z13⟩, st13⟩ := X8.specialBack hx (y := (⟨"com/example/cairn/cairn/model/ConnectResponse", "<init>", "(IIJ[BLjava/util/Optional;)V"⟩ : MethodName)) rfl hown (mvT hZ (hw _ (List.mem_of_getElem? (i := 4) rfl))) (mvT hZ (hw _ (List.mem_of_getElem? (i := 5) rfl))) (mvT hZ (hw _ (List.mem_of_getElem? (i := 6) rfl))) (by decide) (backOf (W := 1) (rm2 l Z a0 hw [] b8 pv tm sid b1  h8 n0 z12 A8 F8_protocolVersion F8_timeoutMs F8_sessionId F8_password F8_readOnly ge10) hZ (hw _ (List.mem_of_getElem? (i := 6) rfl)) (hw _ (List.mem_of_getElem? (i := 3) rfl)) (by decide) (by decide)) (g := (mkF m 34 #[.val (.int pv), .val (.int tm), .val (.long sid), .second, .val (.int pw), .val (.ref b1), .unset, .unset] [.null, (.ref b1), (.long sid), (.int tm), (.int pv), (.ref b8), (.ref b8)])) rfl (by rw [hml]; rfl) (Steps.refl _) (a := b8) (argsL := [(.int pv), (.int tm), (.long sid), (.ref b1), .null]) (rest := [(.ref b8)]) (lenOf pd_1 rfl) rfl (by show 2 * 0 + _ ≤ _; exact Nat.le_of_eq rfl) (hb hby at_34) (fun _ _ => ⟨rfl, e8, (by decide : 2 + 0 ≤ _), (by decide : 21 + 0 ≤ _)⟩)
  dsimp only [Pt.U, Pt.locs, Pt.cells, Pt.slots] at X13 l13 y13 z13 st13 hQ13
  subst l13 y13 z13
  obtain ⟨rfl, Nq13, Kq13, p13_0, p13_1⟩ := hQ13
  have N13 := Fr.app N6 Nq13
  have f14 := f11.keep Kq13 (ninS ne9 nin0)
  have f15 := A8.keep Kq13
  have z16 : n0 ≤ T13.heap.size := Nat.le_trans z12 Kq13.1
  refine own_step (fun _ κ => st13.trans κ) ?_
  show own_Go _ _ _ _ (T13.setTop (mkF m 37 #[.val (.int pv), .val (.int tm), .val (.long sid), .second, .val (.int pw), .val (.ref b1), .unset, .unset] [(.ref b8)]))
  refine own_step (fun _ κ => XS.astore X13.here hx rfl (hb hby at_37) rfl rfl (l' := #[.val (.int pv), .val (.int tm), .val (.long sid), .second, .val (.int pw), .val (.ref b1), .val (.ref b8), .unset]) rfl κ) ?_
  show own_Go _ _ _ _ (T13.setTop (mkF m 39 #[.val (.int pv), .val (.int tm), .val (.long sid), .second, .val (.int pw), .val (.ref b1), .val (.ref b8), .unset] []))
  refine own_step (fun _ κ => XS.lloadN X13.here hx rfl (hb hby at_39) rfl κ) ?_
  show own_Go _ _ _ _ (T13.setTop (mkF m 40 #[.val (.int pv), .val (.int tm), .val (.long sid), .second, .val (.int pw), .val (.ref b1), .val (.ref b8), .unset] [(.long sid)]))
  refine own_step (fun _ κ => XS.lconst X13.here hx rfl (hb hby at_40) κ) ?_
  show own_Go _ _ _ _ (T13.setTop (mkF m 41 #[.val (.int pv), .val (.int tm), .val (.long sid), .second, .val (.int pw), .val (.ref b1), .val (.ref b8), .unset] [(.long (0 : Int64)), (.long sid)]))
  refine own_step (fun _ κ => XS.lcmp X13.here hx rfl (hb hby at_41) rfl κ) ?_
  show own_Go _ _ _ _ (T13.setTop (mkF m 42 #[.val (.int pv), .val (.int tm), .val (.long sid), .second, .val (.int pw), .val (.ref b1), .val (.ref b8), .unset] [(.int (lcmpW sid (0 : Int64)))]))
  by_cases hc17 : sid = (0 : Int64)
  · refine own_step (fun _ κ => XS.ifNo X13.here hx rfl (hb hby at_42) rfl ((if0 _ _).trans (teq ((lw_eq _ _).mpr hc17)).2) κ) ?_
    show own_Go _ _ _ _ (T13.setTop (mkF m 45 #[.val (.int pv), .val (.int tm), .val (.long sid), .second, .val (.int pw), .val (.ref b1), .val (.ref b8), .unset] []))
    refine own_step (fun _ κ => XS.iconst X13.here hx rfl (hb hby at_45) κ) ?_
    show own_Go _ _ _ _ (T13.setTop (mkF m 46 #[.val (.int pv), .val (.int tm), .val (.long sid), .second, .val (.int pw), .val (.ref b1), .val (.ref b8), .unset] [(.int (1 : Int32))]))
    refine own_step (fun _ κ => XS.goto X13.here hx rfl (pc0 := 46) (pc' := 50) rfl (hb hby at_46) (by decide) (by decide) κ) ?_
    show own_Go _ _ _ _ (T13.setTop (mkF m 50 #[.val (.int pv), .val (.int tm), .val (.long sid), .second, .val (.int pw), .val (.ref b1), .val (.ref b8), .unset] [(.int (1 : Int32))]))
    refine own_step (fun _ κ => XS.istore X13.here hx rfl (hb hby at_50) rfl (l' := #[.val (.int pv), .val (.int tm), .val (.long sid), .second, .val (.int pw), .val (.ref b1), .val (.ref b8), .val (.int (1 : Int32))]) rfl κ) ?_
    show own_Go _ _ _ _ (T13.setTop (mkF m 52 #[.val (.int pv), .val (.int tm), .val (.long sid), .second, .val (.int pw), .val (.ref b1), .val (.ref b8), .val (.int (1 : Int32))] []))
    refine own_step (fun _ κ => XS.aload X13.here hx rfl (hb hby at_52) rfl rfl κ) ?_
    show own_Go _ _ _ _ (T13.setTop (mkF m 54 #[.val (.int pv), .val (.int tm), .val (.long sid), .second, .val (.int pw), .val (.ref b1), .val (.ref b8), .val (.int (1 : Int32))] [(.ref b8)]))
    obtain ⟨cq18, kq18, q18a, q18b, q18c⟩ := isOf hZ rfl p13_0
    obtain ⟨vr18, _, ⟨T18, L18, k18, n18⟩, -, X18, ⟨Lc18, hQ18, l18, y18, z18⟩, st18⟩ := X13.virtualBack hx (y := (⟨"com/example/cairn/cairn/model/ConnectResponse", "refused", "()Z"⟩ : MethodName)) (z := (⟨"com/example/cairn/cairn/model/ConnectResponse", "refused", "()Z"⟩ : MethodName)) hown (mvT hZ (hw _ (List.mem_of_getElem? (i := 25) rfl))) (mvT hZ (hw _ (List.mem_of_getElem? (i := 26) rfl))) (notFace_of_selects (args := #[]) (mvT hZ (hw _ (List.mem_of_getElem? (i := 28) rfl)))) (mvT hZ (hw _ (List.mem_of_getElem? (i := 28) rfl))) (mvT hZ (hw _ (List.mem_of_getElem? (i := 27) rfl))) (by decide) (backOf (W := 0) (rm3 l Z a0 hw [] b8 sid T13.heap n0 z16 p13_1) hZ (hw _ (List.mem_of_getElem? (i := 29) rfl)) (hw _ (List.mem_of_getElem? (i := 3) rfl)) (by decide) (by decide)) q18a q18c (g := (mkF m 54 #[.val (.int pv), .val (.int tm), .val (.long sid), .second, .val (.int pw), .val (.ref b1), .val (.ref b8), .val (.int (1 : Int32))] [(.ref b8)])) rfl (by rw [hml]; rfl) (Steps.refl _) (argsL := []) (rest := []) (lenOf pd_2 rfl) rfl (by show 2 * 0 + _ ≤ _; exact Nat.le_of_eq rfl) (hb hby at_54) (fun _ _ => ⟨rfl, rfl, (by decide : 2 + 0 ≤ _), (by decide : 21 + 0 ≤ _)⟩)
    dsimp only [Pt.U, Pt.locs, Pt.cells, Pt.slots] at X18 l18 y18 z18 st18 hQ18
    subst l18 y18 z18
    obtain ⟨hv18, Nq18, eq18⟩ := hQ18
    have N18 := Fr.app N13 Nq18
    rw [if_pos hc17] at hv18
    subst hv18
    refine own_step (fun _ κ => st18.trans κ) ?_
    show own_Go _ _ _ _ (T18.setTop (mkF m 57 #[.val (.int pv), .val (.int tm), .val (.long sid), .second, .val (.int pw), .val (.ref b1), .val (.ref b8), .val (.int (1 : Int32))] [(.int (1 : Int32))]))
    refine own_step (fun _ κ => XS.iload X18.here hx rfl (hb hby at_57) rfl κ) ?_
    show own_Go _ _ _ _ (T18.setTop (mkF m 59 #[.val (.int pv), .val (.int tm), .val (.long sid), .second, .val (.int pw), .val (.ref b1), .val (.ref b8), .val (.int (1 : Int32))] [(.int (1 : Int32)), (.int (1 : Int32))]))
    refine own_step (fun _ κ => XS.icmpNo X18.here hx rfl (hb hby at_59) rfl (teq rfl).2 κ) ?_
    show own_Go _ _ _ _ (T18.setTop (mkF m 62 #[.val (.int pv), .val (.int tm), .val (.long sid), .second, .val (.int pw), .val (.ref b1), .val (.ref b8), .val (.int (1 : Int32))] []))
    refine own_step (fun _ κ => XS.iconst X18.here hx rfl (hb hby at_62) κ) ?_
    show own_Go _ _ _ _ (T18.setTop (mkF m 63 #[.val (.int pv), .val (.int tm), .val (.long sid), .second, .val (.int pw), .val (.ref b1), .val (.ref b8), .val (.int (1 : Int32))] [(.int (1 : Int32))]))
    refine own_step (fun _ κ => XS.goto X18.here hx rfl (pc0 := 63) (pc' := 67) rfl (hb hby at_63) (by decide) (by decide) κ) ?_
    show own_Go _ _ _ _ (T18.setTop (mkF m 67 #[.val (.int pv), .val (.int tm), .val (.long sid), .second, .val (.int pw), .val (.ref b1), .val (.ref b8), .val (.int (1 : Int32))] [(.int (1 : Int32))]))
    obtain ⟨fs, hr, hrun, hended, hW, hsame⟩ := X18.leave (v := some (.int (1 : Int32))) (fun h => by rw [Bd.returns] at h; cases h)
    refine ⟨_, _, retN X18 hx (t := .boolean) Bd.returns (by simp) (hb hby at_67) hr, hrun, hended, _, _, rfl, ?_, ⟨_, rfl⟩, hW, hsame.mono (by decide) (by decide)⟩
    show Q0 Z pv tm sid pw  h0 n0 _ T18.heap _
    exact ⟨rfl, N18⟩
  · refine own_step (fun _ κ => XS.ifYes X13.here hx rfl (pc0 := 42) (pc' := 49) rfl (hb hby at_42) rfl ((if0 _ _).trans (feq (fun q => hc17 ((lw_eq _ _).mp q))).2) (by decide) (by decide) κ) ?_
    show own_Go _ _ _ _ (T13.setTop (mkF m 49 #[.val (.int pv), .val (.int tm), .val (.long sid), .second, .val (.int pw), .val (.ref b1), .val (.ref b8), .unset] []))
    refine own_step (fun _ κ => XS.iconst X13.here hx rfl (hb hby at_49) κ) ?_
    show own_Go _ _ _ _ (T13.setTop (mkF m 50 #[.val (.int pv), .val (.int tm), .val (.long sid), .second, .val (.int pw), .val (.ref b1), .val (.ref b8), .unset] [(.int (0 : Int32))]))
    refine own_step (fun _ κ => XS.istore X13.here hx rfl (hb hby at_50) rfl (l' := #[.val (.int pv), .val (.int tm), .val (.long sid), .second, .val (.int pw), .val (.ref b1), .val (.ref b8), .val (.int (0 : Int32))]) rfl κ) ?_
    show own_Go _ _ _ _ (T13.setTop (mkF m 52 #[.val (.int pv), .val (.int tm), .val (.long sid), .second, .val (.int pw), .val (.ref b1), .val (.ref b8), .val (.int (0 : Int32))] []))
    refine own_step (fun _ κ => XS.aload X13.here hx rfl (hb hby at_52) rfl rfl κ) ?_
    show own_Go _ _ _ _ (T13.setTop (mkF m 54 #[.val (.int pv), .val (.int tm), .val (.long sid), .second, .val (.int pw), .val (.ref b1), .val (.ref b8), .val (.int (0 : Int32))] [(.ref b8)]))
    obtain ⟨cq19, kq19, q19a, q19b, q19c⟩ := isOf hZ rfl p13_0
    obtain ⟨vr19, _, ⟨T19, L19, k19, n19⟩, -, X19, ⟨Lc19, hQ19, l19, y19, z19⟩, st19⟩ := X13.virtualBack hx (y := (⟨"com/example/cairn/cairn/model/ConnectResponse", "refused", "()Z"⟩ : MethodName)) (z := (⟨"com/example/cairn/cairn/model/ConnectResponse", "refused", "()Z"⟩ : MethodName)) hown (mvT hZ (hw _ (List.mem_of_getElem? (i := 25) rfl))) (mvT hZ (hw _ (List.mem_of_getElem? (i := 26) rfl))) (notFace_of_selects (args := #[]) (mvT hZ (hw _ (List.mem_of_getElem? (i := 28) rfl)))) (mvT hZ (hw _ (List.mem_of_getElem? (i := 28) rfl))) (mvT hZ (hw _ (List.mem_of_getElem? (i := 27) rfl))) (by decide) (backOf (W := 0) (rm3 l Z a0 hw [] b8 sid T13.heap n0 z16 p13_1) hZ (hw _ (List.mem_of_getElem? (i := 29) rfl)) (hw _ (List.mem_of_getElem? (i := 3) rfl)) (by decide) (by decide)) q19a q19c (g := (mkF m 54 #[.val (.int pv), .val (.int tm), .val (.long sid), .second, .val (.int pw), .val (.ref b1), .val (.ref b8), .val (.int (0 : Int32))] [(.ref b8)])) rfl (by rw [hml]; rfl) (Steps.refl _) (argsL := []) (rest := []) (lenOf pd_2 rfl) rfl (by show 2 * 0 + _ ≤ _; exact Nat.le_of_eq rfl) (hb hby at_54) (fun _ _ => ⟨rfl, rfl, (by decide : 2 + 0 ≤ _), (by decide : 21 + 0 ≤ _)⟩)
    dsimp only [Pt.U, Pt.locs, Pt.cells, Pt.slots] at X19 l19 y19 z19 st19 hQ19
    subst l19 y19 z19
    obtain ⟨hv19, Nq19, eq19⟩ := hQ19
    have N19 := Fr.app N13 Nq19
    rw [if_neg hc17] at hv19
    subst hv19
    refine own_step (fun _ κ => st19.trans κ) ?_
    show own_Go _ _ _ _ (T19.setTop (mkF m 57 #[.val (.int pv), .val (.int tm), .val (.long sid), .second, .val (.int pw), .val (.ref b1), .val (.ref b8), .val (.int (0 : Int32))] [(.int (0 : Int32))]))
    refine own_step (fun _ κ => XS.iload X19.here hx rfl (hb hby at_57) rfl κ) ?_
    show own_Go _ _ _ _ (T19.setTop (mkF m 59 #[.val (.int pv), .val (.int tm), .val (.long sid), .second, .val (.int pw), .val (.ref b1), .val (.ref b8), .val (.int (0 : Int32))] [(.int (0 : Int32)), (.int (0 : Int32))]))
    refine own_step (fun _ κ => XS.icmpNo X19.here hx rfl (hb hby at_59) rfl (teq rfl).2 κ) ?_
    show own_Go _ _ _ _ (T19.setTop (mkF m 62 #[.val (.int pv), .val (.int tm), .val (.long sid), .second, .val (.int pw), .val (.ref b1), .val (.ref b8), .val (.int (0 : Int32))] []))
    refine own_step (fun _ κ => XS.iconst X19.here hx rfl (hb hby at_62) κ) ?_
    show own_Go _ _ _ _ (T19.setTop (mkF m 63 #[.val (.int pv), .val (.int tm), .val (.long sid), .second, .val (.int pw), .val (.ref b1), .val (.ref b8), .val (.int (0 : Int32))] [(.int (1 : Int32))]))
    refine own_step (fun _ κ => XS.goto X19.here hx rfl (pc0 := 63) (pc' := 67) rfl (hb hby at_63) (by decide) (by decide) κ) ?_
    show own_Go _ _ _ _ (T19.setTop (mkF m 67 #[.val (.int pv), .val (.int tm), .val (.long sid), .second, .val (.int pw), .val (.ref b1), .val (.ref b8), .val (.int (0 : Int32))] [(.int (1 : Int32))]))
    obtain ⟨fs, hr, hrun, hended, hW, hsame⟩ := X19.leave (v := some (.int (1 : Int32))) (fun h => by rw [Bd.returns] at h; cases h)
    refine ⟨_, _, retN X19 hx (t := .boolean) Bd.returns (by simp) (hb hby at_67) hr, hrun, hended, _, _, rfl, ?_, ⟨_, rfl⟩, hW, hsame.mono (by decide) (by decide)⟩
    show Q0 Z pv tm sid pw  h0 n0 _ T19.heap _
    exact ⟨rfl, N19⟩
set_option maxRecDepth 65536 in
set_option maxHeartbeats 40000000 in
theorem comes_1 {Post : Tables → Env → Array Value → State → Outcome → State → Prop} (hpost : ∀ tb e args s v u, (limb_1_1.after args s (.returned v) u = true ∧ limb_1_2.after args s (.returned v) u = true ∧ True) → FrameEnd s (.returned v) u (Jvm.fieldLocs frame_1_writes args s ++ Jvm.arrayLocs frame_1_arrays args s ++ Jvm.staticLocs frame_1_statics s) 16 128 → Post tb e args s (.returned v) u) :
    ArmFor flags0 classFile x code maxLocals ret World_1 tables_1 room_1 Calls_1 rest_1 Pre_1 Post := by
  intro l hfl _ _ p e ha hc hk s m args below hf hA hF happ hP
  obtain ⟨hcalls, hrest, hpre⟩ := hP
  obtain ⟨-, -, -, hnamed, -, -, -, hat⟩ := (Spec.applies_iff hf).mp happ
  obtain ⟨hg, hn⟩ := and_e (Cond.before_iff.mp (show (Jvm.Cond.and given_1 narrow_1).before args s = true from hpre))
  obtain ⟨g0, gr0⟩ := and_e hg
  obtain ⟨w0, w1, w2, w3, rfl⟩ : ∃ w0 w1 w2 w3 : Value, args = #[w0, w1, w2, w3] := by
    have hs : args.size = 4 := by simpa [Cond.value, given_1] using g0
    obtain ⟨L⟩ := args
    match L, hs with
    | [w0, w1, w2, w3], _ => exact ⟨w0, w1, w2, w3, rfl⟩
  have hw := fun d (hd : d ∈ tables_1) => atoms_spec (ws := Jvm.Cond.code x code maxLocals ret :: tables_1) hat d (List.mem_cons_of_mem _ hd)
  have hfit : Fit s := fun {y c} hc i hi => by
    obtain ⟨ha, rfl⟩ := Array.getElem?_eq_some_iff.mp hc
    have q := List.all_eq_true.mp ((Array.all_eq_true_iff_forall_mem.mp hF) _ (Array.getElem_mem ha)) i (List.mem_range.mpr hi)
    simpa [Array.getElem?_eq_getElem hi] using q
  obtain ⟨ga0, gr1⟩ := and_e gr0
  obtain ⟨i0, ei0⟩ := is_v ga0
  obtain rfl : w0 = (.int i0) := Option.some.inj ei0
  obtain ⟨ga1, gr2⟩ := and_e gr1
  obtain ⟨i1, ei1⟩ := is_v ga1
  obtain rfl : w1 = (.int i1) := Option.some.inj ei1
  obtain ⟨ga2, gr3⟩ := and_e gr2
  obtain ⟨i2, ei2⟩ := isL_v ga2
  obtain rfl : w2 = (.long i2) := Option.some.inj ei2
  obtain ⟨i3, ei3⟩ := is_v gr3
  obtain rfl : w3 = (.int i3) := Option.some.inj ei3
  obtain ⟨n, o, h1, h2, h3, _, L, rfl, ⟨rfl, N⟩, hq⟩ := rm0 l s _ hw tables_1 i0 i1 i2 i3 s.heap s.heap.size (Nat.le_refl _) p e ha hc hk s m _ below hf ((Spec.applies_iff_loose hf).mp happ).1 ⟨rfl, State.Warmed39.refl s, rfl⟩ trivial
  refine ⟨n, _, h1, h2, h3, hpost _ _ _ _ _ _ ⟨Cond.after_iff.mpr rfl, Cond.after_iff.mpr (eq_i res_at (Term.int_eval (1)) rfl), trivial⟩ ⟨hq.1, hq.2.1, (hq.2.2.sift fun y hy => Or.inr (N y hy)).mono (by decide) (by decide)⟩⟩
theorem main_1_1 : Claimed_1_1 := comes_1 fun _ _ _ _ _ _ h hF => ⟨h.1, hF⟩
theorem main_1_2 : Claimed_1_2 := comes_1 fun _ _ _ _ _ _ h hF => ⟨h.2.1, hF⟩
end Jvm.Pilot.@@N@@
namespace Jvm.Pilot.@@N@@
open Jvm Jvm.ClassFile Sem Op Lib Jvm.Free Jvm.Stand Jvm.Pilot.@@N@@.Jvm.D
/-! MADE BY PROGRAM (witnessworld.py) out of the Statement's table words and the real class files: 10 classes; the members and pool entries that the words name. The judged class is class 1, her method 1. -/
namespace start1
open Jvm.ClassFile
def u (s : String) : CpInfo := .utf8 (stringToUtf16 s)
/-- a pool by its gaps: so many unusable entries, then the entry; so many at the end -/
def gap : Nat → List CpInfo → List CpInfo
  | 0, r => r
  | n + 1, r => .unusable :: gap n r
def poolList (es : List (Nat × CpInfo)) (last : Nat) : List CpInfo := es.foldr (fun e r => gap e.1 (e.2 :: r)) (gap last [])
def pool (es : List (Nat × CpInfo)) (last : Nat) : Array CpInfo := ⟨poolList es last⟩
def fileOf (pool : Array CpInfo) (this : Nat) (attrs : Array Attribute := #[]) (ms : Array MethodInfo := #[]) (fl : Nat := 33) (sup : Nat := 0) (ifs : Array Nat := #[]) (fds : Array FieldInfo := #[]) : ClassFile where
  minorVersion := 0
  majorVersion := 65
  constantPool := pool
  accessFlags := fl
  thisClass := this
  superClass := sup
  interfaces := ifs
  fields := fds
  methods := ms
  attributes := attrs
def plain (name : String) (sup : Option ClassId) : Class where
  name := name
  kind := .ordinary
  loader := none
  accessFlags := 33
  super := sup
  interfaces := #[]
  cf := none
  fields := #[]
  methods := #[]
  instanceTypes := #[]
  staticTypes := #[]
  resolved := #[]
  callSites := []
  init := .initialized
  statics := none
  mirror := none

def pool0 : Array CpInfo := pool [(5, u "<init>"), (0, u "()V"), (1, .class_ 10), (1, u "java/lang/Object")] 113

def k0c0 : Code := { maxStack := 0, maxLocals := 1, code := object_method_1_code, exceptionTable := #[], attributes := #[] }
def k0m0 : Method := { name := "<init>", desc := "()V", sig := { parameters := [], returnType := none }, accessFlags := 1, code := some k0c0 }
/-- java/lang/Object -/
def k0 : Class := { plain "java/lang/Object" none with
  accessFlags := 33
  interfaces := #[]
  cf := some (fileOf pool0 8 #[] #[{ accessFlags := 1, nameIndex := 5, descriptorIndex := 6, attributes := #[] }] 33 0 #[] #[])
  fields := #[]
  methods := #[k0m0]
  instanceTypes := #[]
  staticTypes := #[]
  resolved := Array.replicate 124 none
  statics := none }

def pool1 : Array CpInfo := pool [(2, .class_ 4), (1, u "java/lang/Object"), (0, u "<init>"), (0, u "()V"), (0, .class_ 8), (0, u "com/example/cairn/cairn/model/ConnectResponse"), (0, .methodref 7 10), (0, .nameAndType 5 11), (0, u "(IIJ[BLjava/util/Optional;)V"), (0, .methodref 7 13), (0, .nameAndType 14 15), (0, u "refused"), (0, u "()Z"), (0, .class_ 17), (0, u "com/example/cairn/cairn/model/ConnectResponseRefusedPinLaw"), (2, u "law"), (0, u "(IIJI)Z")] 5

def k1m0 : Method := { name := "<init>", desc := "()V", sig := { parameters := [], returnType := none }, accessFlags := 1, code := none }
def k1c1 : Code := { maxStack := 8, maxLocals := 8, code := code, exceptionTable := #[], attributes := #[] }
def k1m1 : Method := { name := "law", desc := "(IIJI)Z", sig := { parameters := [.int, .int, .long, .int], returnType := some .boolean }, accessFlags := 9, code := some k1c1 }
/-- com/example/cairn/cairn/model/ConnectResponseRefusedPinLaw -/
def k1 : Class := { plain "com/example/cairn/cairn/model/ConnectResponseRefusedPinLaw" (some 0) with
  accessFlags := 49
  interfaces := #[]
  cf := some (fileOf pool1 16 #[] #[{ accessFlags := 1, nameIndex := 5, descriptorIndex := 6, attributes := #[] }, { accessFlags := 9, nameIndex := 20, descriptorIndex := 21, attributes := #[] }] 49 2 #[] #[])
  fields := #[]
  methods := #[k1m0, k1m1]
  instanceTypes := #[]
  staticTypes := #[]
  resolved := Array.replicate 27 none
  statics := none }

def pool2 : Array CpInfo := pool [(1, .methodref 2 3), (0, .class_ 4), (0, .nameAndType 5 6), (0, u "java/lang/Object"), (0, u "<init>"), (0, u "()V"), (0, .class_ 8), (0, u "java/lang/Record")] 13

def k2c0 : Code := { maxStack := 1, maxLocals := 1, code := jdk_30_method_1_code, exceptionTable := #[], attributes := #[] }
def k2m0 : Method := { name := "<init>", desc := "()V", sig := { parameters := [], returnType := none }, accessFlags := 4, code := some k2c0 }
/-- java/lang/Record -/
def k2 : Class := { plain "java/lang/Record" (some 0) with
  accessFlags := 1057
  interfaces := #[]
  cf := some (fileOf pool2 7 #[] #[{ accessFlags := 4, nameIndex := 5, descriptorIndex := 6, attributes := #[] }] 1057 2 #[] #[])
  fields := #[]
  methods := #[k2m0]
  instanceTypes := #[]
  staticTypes := #[]
  resolved := Array.replicate 22 none
  statics := none }

def pool3 : Array CpInfo := pool [(1, .methodref 2 3), (0, .class_ 4), (0, .nameAndType 5 6), (0, u "java/lang/Record"), (0, u "<init>"), (0, u "()V"), (0, .fieldref 8 9), (0, .class_ 10), (0, .nameAndType 11 12), (0, u "com/example/cairn/cairn/model/ConnectResponse"), (0, u "protocolVersion"), (0, u "I"), (0, .fieldref 8 14), (0, .nameAndType 15 12), (0, u "timeoutMs"), (0, .fieldref 8 17), (0, .nameAndType 18 19), (0, u "sessionId"), (0, u "J"), (0, .fieldref 8 21), (0, .nameAndType 22 23), (0, u "password"), (0, u "[B"), (0, .fieldref 8 25), (0, .nameAndType 26 27), (0, u "readOnly"), (0, u "Ljava/util/Optional;"), (14, u "PASSWORD_LENGTH"), (2, u "(IIJ[BLjava/util/Optional;)V"), (4, u "refused"), (0, u "()Z")] 32

def k3c0 : Code := { maxStack := 3, maxLocals := 7, code := prog_40_method_1_code, exceptionTable := #[], attributes := #[] }
def k3m0 : Method := { name := "<init>", desc := "(IIJ[BLjava/util/Optional;)V", sig := { parameters := [.int, .int, .long, (.array .byte), (.object "java/util/Optional")], returnType := none }, accessFlags := 1, code := some k3c0 }
def k3c1 : Code := { maxStack := 4, maxLocals := 1, code := prog_40_method_2_code, exceptionTable := #[], attributes := #[] }
def k3m1 : Method := { name := "refused", desc := "()Z", sig := { parameters := [], returnType := some .boolean }, accessFlags := 1, code := some k3c1 }
/-- com/example/cairn/cairn/model/ConnectResponse -/
def k3 : Class := { plain "com/example/cairn/cairn/model/ConnectResponse" (some 2) with
  accessFlags := 49
  interfaces := #[]
  cf := some (fileOf pool3 8 #[] #[{ accessFlags := 1, nameIndex := 5, descriptorIndex := 45, attributes := #[] }, { accessFlags := 1, nameIndex := 50, descriptorIndex := 51, attributes := #[] }] 49 2 #[] #[{ accessFlags := 18, nameIndex := 11, descriptorIndex := 12, attributes := #[] }, { accessFlags := 18, nameIndex := 15, descriptorIndex := 12, attributes := #[] }, { accessFlags := 18, nameIndex := 18, descriptorIndex := 19, attributes := #[] }, { accessFlags := 18, nameIndex := 22, descriptorIndex := 23, attributes := #[] }, { accessFlags := 18, nameIndex := 26, descriptorIndex := 27, attributes := #[] }, { accessFlags := 25, nameIndex := 42, descriptorIndex := 12, attributes := #[] }])
  fields := #[{ name := "protocolVersion", type := .int, accessFlags := 18, slot := 0, constantValue := 0 }, { name := "timeoutMs", type := .int, accessFlags := 18, slot := 1, constantValue := 0 }, { name := "sessionId", type := .long, accessFlags := 18, slot := 2, constantValue := 0 }, { name := "password", type := (.array .byte), accessFlags := 18, slot := 3, constantValue := 0 }, { name := "readOnly", type := (.object "java/util/Optional"), accessFlags := 18, slot := 4, constantValue := 0 }, { name := "PASSWORD_LENGTH", type := .int, accessFlags := 25, slot := 0, constantValue := 0 }]
  methods := #[k3m0, k3m1]
  instanceTypes := #[.int, .int, .long, (.array .byte), (.object "java/util/Optional")]
  staticTypes := #[.int]
  resolved := Array.replicate 84 none
  statics := none }

def pool4 : Array CpInfo := pool [(1, u "java/lang/Cloneable"), (0, .class_ 1), (0, u "java/lang/Object"), (0, .class_ 3)] 3

/-- java/lang/Cloneable -/
def k4 : Class := { plain "java/lang/Cloneable" (some 0) with
  accessFlags := 1537
  interfaces := #[]
  cf := some (fileOf pool4 2 #[] #[] 1537 4 #[] #[])
  fields := #[]
  methods := #[]
  instanceTypes := #[]
  staticTypes := #[]
  resolved := Array.replicate 8 none
  statics := none }

def pool5 : Array CpInfo := pool [(1, u "java/io/Serializable"), (0, .class_ 1), (0, u "java/lang/Object"), (0, .class_ 3)] 3

/-- java/io/Serializable -/
def k5 : Class := { plain "java/io/Serializable" (some 0) with
  accessFlags := 1537
  interfaces := #[]
  cf := some (fileOf pool5 2 #[] #[] 1537 4 #[] #[])
  fields := #[]
  methods := #[]
  instanceTypes := #[]
  staticTypes := #[]
  resolved := Array.replicate 8 none
  statics := none }

/-- the primitive byte -/
def k6 : Class := { plain "byte" none with kind := .primitive 'B', accessFlags := 0x411 }
/-- [B -/
def k7 : Class := { plain "[B" (some 0) with kind := .array 6 .byte, interfaces := #[4, 5], accessFlags := 1041 }

/-- the primitive int -/
def k8 : Class := { plain "int" none with kind := .primitive 'I', accessFlags := 0x411 }
/-- [I -/
def k9 : Class := { plain "[I" (some 0) with kind := .array 8 .int, interfaces := #[4, 5], accessFlags := 1041 }

def heap : Heap := #[]
def classes : Array Class := #[k0, k1, k2, k3, k4, k5, k6, k7, k8, k9]
def interned : List (Array UInt16 × Addr) := []
def slotsUsed : Nat := 0
def theMethod : MethodId := ⟨1, 1⟩
def args0 : Array Value := #[.int 5, .int 9, .long 1, .int 3]
def aboutOver (below : List Frame) : State where
  vm := { classes := classes, interned := interned.toArray }
  heap := heap
  slotsUsed := slotsUsed
  threads := #[{ frames := .invoking theMethod args0 :: below }]
def below0 : List Frame := [.native { method := ⟨0, 0⟩, args := #[] }]
def about1 : State := aboutOver below0
def p0 : Program := .bare "" "" ""
def e0 : Env := launch0.env 0 0 0
theorem w_frames : about1.frames = Frame.invoking theMethod args0 :: below0 := rfl
set_option maxRecDepth 65536 in
theorem w_args : argsFit about1.vm theMethod args0 = true := by decide +kernel
set_option maxRecDepth 65536 in
theorem w_heap : heapFits about1 = true := by decide +kernel
set_option maxRecDepth 65536 in
theorem w_runnable : about1.curStatus? = some .runnable := by decide +kernel
set_option maxRecDepth 65536 in
theorem w_alone : about1.alone = true := by decide +kernel
set_option maxRecDepth 65536 in
theorem w_named : about1.methodNamed? x = some theMethod := by decide +kernel
set_option maxRecDepth 65536 in
theorem w_hears : about1.hears theMethod below0 = true := by decide +kernel
set_option maxRecDepth 65536 in
theorem w_ripe : about1.ripe theMethod args0 below0 = true := by decide +kernel
theorem w_running : about1.status = .running := rfl
set_option maxRecDepth 65536 in
theorem w_room : about1.hasRoom e0.platform room_1 = true :=
  launch0.hasRoom_least _ room_1 (by decide +kernel) (by decide +kernel) (by decide +kernel) (by decide +kernel) (by decide +kernel) (by decide +kernel)
theorem allAtoms_all (ts : List Jvm.Cond) (a : Array Jvm.Value) (st : Jvm.State) : (allAtoms ts).before a st = ts.all (fun c => c.before a st) := by
  induction ts with
  | nil => rfl
  | cons c t ih =>
    show (Jvm.Cond.and c (allAtoms t)).before a st = _
    rw [Jvm.Cond.before_and, ih, List.all_cons]
def words1 : List Jvm.Cond := Jvm.Cond.code x code maxLocals ret :: tables_1
/-- a 'code' word, met by the world's own term for the bytes: nothing is compared byte by byte -/
theorem code_word {y : MethodName} {bytes : ByteArray} {mx : Nat} {rt : Option FieldType} {a : Array Value} {s : State} {m : MethodId} {meth : Method} {c : Code} (h1 : s.methodNamed? y = some m) (h2 : s.vm.method? m = some meth) (h3 : meth.code = some c) (h4 : c.code = bytes)
    (h5 : (c.maxLocals == mx && c.exceptionTable.isEmpty && decide (c.maxStack ≤ mostOperands) && decide (meth.sig.returnType = rt) && !meth.locks && decide (parseMethodDescriptor y.desc = some meth.sig)) = true) : (Jvm.Cond.code y bytes mx rt).before a s = true := by
  simp only [Bool.and_eq_true, beq_iff_eq, Bool.not_eq_true', decide_eq_true_eq] at h5
  obtain ⟨⟨⟨⟨⟨g1, g2⟩, g3⟩, g4⟩, g5⟩, g6⟩ := h5
  simp [Cond.before, Cond.holds, Cond.value, h1, h2, h3, h4, g1, g2, g3, g4, g5, g6]
def isCode : Jvm.Cond → Bool
  | .code _ _ _ _ => true
  | _ => false
theorem all_split {L : List Jvm.Cond} {P : Jvm.Cond → Bool} (h1 : L.all (fun c => isCode c || P c) = true) (h2 : ∀ c ∈ L.filter isCode, P c = true) : L.all P = true := by
  refine List.all_eq_true.mpr fun c hc => ?_
  have h := List.all_eq_true.mp h1 c hc
  rcases Bool.eq_false_or_eq_true (isCode c) with hi | hi
  · exact h2 c (List.mem_filter.mpr ⟨hc, hi⟩)
  · simpa [hi] using h
set_option maxRecDepth 65536 in
theorem w_c0 : (Jvm.Cond.code x code maxLocals ret).before args0 about1 = true := code_word (m := ⟨1, 1⟩) (meth := k1m1) (c := k1c1) (by decide +kernel) rfl rfl rfl (by decide +kernel)
set_option maxRecDepth 65536 in
theorem w_c1 : (Jvm.Cond.code ({ cls := "com/example/cairn/cairn/model/ConnectResponse", name := "<init>", desc := "(IIJ[BLjava/util/Optional;)V" } : Jvm.MethodName) prog_40_method_1_code (7 : Nat) (Option.none : Option Jvm.ClassFile.FieldType)).before args0 about1 = true := code_word (m := ⟨3, 0⟩) (meth := k3m0) (c := k3c0) (by decide +kernel) rfl rfl rfl (by decide +kernel)
set_option maxRecDepth 65536 in
theorem w_c2 : (Jvm.Cond.code ({ cls := "java/lang/Record", name := "<init>", desc := "()V" } : Jvm.MethodName) jdk_30_method_1_code (1 : Nat) (Option.none : Option Jvm.ClassFile.FieldType)).before args0 about1 = true := code_word (m := ⟨2, 0⟩) (meth := k2m0) (c := k2c0) (by decide +kernel) rfl rfl rfl (by decide +kernel)
set_option maxRecDepth 65536 in
theorem w_c3 : (Jvm.Cond.code ({ cls := "java/lang/Object", name := "<init>", desc := "()V" } : Jvm.MethodName) object_method_1_code (1 : Nat) (Option.none : Option Jvm.ClassFile.FieldType)).before args0 about1 = true := code_word (m := ⟨0, 0⟩) (meth := k0m0) (c := k0c0) (by decide +kernel) rfl rfl rfl (by decide +kernel)
set_option maxRecDepth 65536 in
theorem w_c4 : (Jvm.Cond.code ({ cls := "com/example/cairn/cairn/model/ConnectResponse", name := "refused", desc := "()Z" } : Jvm.MethodName) prog_40_method_2_code (1 : Nat) (Option.some Jvm.ClassFile.FieldType.boolean)).before args0 about1 = true := code_word (m := ⟨3, 1⟩) (meth := k3m1) (c := k3c1) (by decide +kernel) rfl rfl rfl (by decide +kernel)
def codes1 : List Jvm.Cond := [Jvm.Cond.code x code maxLocals ret, Jvm.Cond.code ({ cls := "com/example/cairn/cairn/model/ConnectResponse", name := "<init>", desc := "(IIJ[BLjava/util/Optional;)V" } : Jvm.MethodName) prog_40_method_1_code (7 : Nat) (Option.none : Option Jvm.ClassFile.FieldType), Jvm.Cond.code ({ cls := "java/lang/Record", name := "<init>", desc := "()V" } : Jvm.MethodName) jdk_30_method_1_code (1 : Nat) (Option.none : Option Jvm.ClassFile.FieldType), Jvm.Cond.code ({ cls := "java/lang/Object", name := "<init>", desc := "()V" } : Jvm.MethodName) object_method_1_code (1 : Nat) (Option.none : Option Jvm.ClassFile.FieldType), Jvm.Cond.code ({ cls := "com/example/cairn/cairn/model/ConnectResponse", name := "refused", desc := "()Z" } : Jvm.MethodName) prog_40_method_2_code (1 : Nat) (Option.some Jvm.ClassFile.FieldType.boolean)]
set_option maxRecDepth 65536 in
theorem codes_eq : words1.filter isCode = codes1 := rfl
theorem w_codes : ∀ c ∈ words1.filter isCode, c.before args0 about1 = true := by
  rw [codes_eq]
  intro c hc
  simp only [codes1, List.mem_cons, List.not_mem_nil, or_false] at hc
  rcases hc with rfl | rfl | rfl | rfl | rfl
  · exact w_c0
  · exact w_c1
  · exact w_c2
  · exact w_c3
  · exact w_c4
set_option maxRecDepth 65536 in
theorem w_t1 : (words1.take 24).all (fun c => isCode c || c.before args0 about1) = true := by decide +kernel
set_option maxRecDepth 65536 in
theorem w_t2 : (words1.drop 24).all (fun c => isCode c || c.before args0 about1) = true := by decide +kernel
theorem w_tables : (allAtoms (Jvm.Cond.code x code maxLocals ret :: tables_1)).before args0 about1 = true := by
  rw [allAtoms_all]
  show words1.all (fun c => c.before args0 about1) = true
  refine all_split ?_ w_codes
  rw [← List.take_append_drop 24 words1, List.all_append, w_t1, w_t2]
  rfl
set_option maxRecDepth 65536 in
theorem w_case : (Jvm.Cond.and given_1 narrow_1).before args0 about1 = true := by decide +kernel
theorem w_applies : (headSpec (Jvm.Cond.code x code maxLocals ret :: tables_1) room_1).applies x e0.platform about1 = true :=
  (Spec.applies_iff w_frames).mpr ⟨w_running, w_runnable, w_alone, w_named, w_hears, w_ripe, w_room, w_tables⟩
theorem atStart : AtStart classFile x code maxLocals ret World_1 tables_1 room_1 Calls_1 rest_1 Pre_1 launch0 p0 e0 about1 theMethod args0 below0 :=
  ⟨lists_1, trivial, launch0.admits_env _ _ _, launch0.least_env, fairChoices_fair.cas, fairChoices_fair.clock, w_frames, w_args, w_heap, w_applies, trivial, trivial, w_case⟩
end start1
theorem witness_1 : WitnessClaimed_1 := ⟨start1.p0, start1.e0, start1.about1, start1.theMethod, start1.args0, start1.below0, start1.atStart⟩
end Jvm.Pilot.@@N@@
