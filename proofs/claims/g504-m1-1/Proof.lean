import JvmDerived
import JvmDerived.Pilot.@@N@@Statement
import JvmDerived.Pilot.@@N@@Code
set_option linter.unusedVariables false
set_option linter.unusedSimpArgs false
namespace Jvm.Pilot.@@N@@
open Jvm Jvm.ClassFile Sem Op Lib Jvm.Free Jvm.Stand Jvm.LawKit Jvm.RoadKit Bundle Jvm.Pilot.@@N@@.Jvm.D
section OwnKit
variable {p : Program} {l : Launch} {e : Env} {R : Room} {s : State} {m : MethodId} {args : Array Value} {below : List Frame} {meth : Method} {c : Code} {T : State} {locs : List Loc} {cells slots : Nat}
/-- from T the run comes to an end of which F holds -/
def own_Go (p : Program) (e : Env) (below : List Frame) (F : State → Outcome → Prop) (T : State) : Prop := ∃ t o, Steps p.tables e below T t ∧ t.status = .running ∧ Ended t below o ∧ F t o
theorem own_step {F : State → Outcome → Prop} {A B : State} (k : ∀ t, Steps p.tables e below A t → Steps p.tables e below B t) (h : own_Go p e below F A) : own_Go p e below F B := by
  obtain ⟨t, o, h1, h2⟩ := h
  exact ⟨t, o, k t h1, h2⟩
theorem own_in {F : State → Outcome → Prop} {A B : State} (k : ∀ {t}, Steps p.tables e below A t → Steps p.tables e below B t) (h : own_Go p e below F A) : ∃ t o, Steps p.tables e below B t ∧ t.status = .running ∧ Ended t below o ∧ F t o := by
  obtain ⟨t, o, h1, h2⟩ := h
  exact ⟨t, o, k h1, h2⟩
theorem own_retI (X : Stand p l e R s m args below meth c T locs cells slots) (hx : p.tables.exec = Jvm.exec) {pc : Nat} {Ls : Array Slot} {z : Int32} {rest : List Value} (hret : meth.sig.returnType = some .int) (hd : decode c.code pc = .ok (.ireturn, 1)) {fs : List Frame}
    (hl : ∀ (f : JFrame) (acts : List Action), f.method = m → f.locked = none → f.entered = [] → (doReturn e (T.setTop f) acts (some (.int z))).1 = T.setFrames fs) : Steps p.tables e below (T.setTop (mkF m pc Ls (.int z :: rest))) (T.setFrames fs) :=
  retOut X hx hret rfl (Or.inl ⟨rfl, Or.inl rfl, _, rfl⟩) hd hl
theorem own_join {α : Type} {F : State → Outcome → Prop} {B : State} {H : Heap} (X : Stand p l e R s m args below meth c T locs cells slots) (eT : T.heap = H) (A : State → α → State) (Pr : α → Prop)
    (h1 : ∀ T' a, Stand p l e R s m args below meth c T' locs cells slots → T'.heap = H → Pr a → own_Go p e below F (A T' a))
    (h2 : (∀ T' a, Stand p l e R s m args below meth c T' locs cells slots → T'.heap = H → Pr a → own_Go p e below F (A T' a)) → own_Go p e below F B) : own_Go p e below F B := h2 h1
theorem own_sta {args : Array Value} {s : State} {C n d K : String} (h : (Jvm.Cond.exactly (.static C n d) K).value args s none s [] = some true) (w1 : (Jvm.Cond.initialized C).before args s = true) (w2 : (Jvm.Cond.laysStatic C n d).before args s = true) :
    ∃ a, (Term.static C n d).eval args s none [] s = some (.ref a) ∧ Sta s s.heap C n d (.ref a) ∧ Exa s s.heap a K := by
  obtain ⟨a, ea⟩ := exa_v h
  exact ⟨a, ea, Sta.start ea (Or.inr ⟨w1, w2⟩), Exa.start ea h⟩
theorem own_staF {args : Array Value} {s : State} {t : Term} {C n d : String} {a : Addr} {k : Int32} (ea : t.eval args s none [] s = some (.ref a)) (h : (Jvm.Cond.eq (.field t C n d) (.int k)).value args s none s [] = some true) : Fld s s.heap a C n d (.int k) := by
  obtain ⟨x, y, e1, e2, -, -⟩ := cmp_v (Or.inl h)
  cases (Term.int_eval k).symm.trans e2
  have e3 : x = .int k := by
    cases x <;> simp [Cond.value, e1, Term.int_eval] at h
    rw [h]
  rw [fld_at ea, e3] at e1
  exact Fld.start e1
end OwnKit

def own_min (a b : Int64) : Int64 := if b < a then b else a
def own_max (a b : Int64) : Int64 := if a < b then b else a
theorem own_pred {e : Int64} (h : ¬ e = (-9223372036854775808 : Int64)) : (e - (1 : Int64)) < e := by
  rw [Int64.lt_iff_toInt_lt]
  have h1 := c_lsub e 1
  have h2 := rng64 e
  have h3 := rng64 (e - 1)
  have h4 : (1 : Int64).toInt = 1 := by decide
  have h5 : e.toInt ≠ -9223372036854775808 := fun q => h (Int64.toInt_inj.mp (q.trans (by decide)))
  omega
theorem own_mono {a b e : Int64} (h : ¬ own_min a b < e) : ¬ own_max a b < e := by
  unfold own_min at h
  unfold own_max
  simp only [Int64.lt_iff_toInt_lt] at *
  split at h <;> split <;> omega
theorem pn_0 : plainName "java/lang/Record" = true := by first | (simp [plainName, overriddenIn]; done) | decide +kernel
theorem pn_1 : plainName "com/example/credit_clerk/creditclerk/service/Lifetime" = true := by first | (simp [plainName, overriddenIn]; done) | decide +kernel
theorem pn_2 : plainName "com/example/credit_clerk/creditclerk/service/LifetimeHasEndedPinLaw" = true := by first | (simp [plainName, overriddenIn]; done) | decide +kernel
theorem pd_0 : parseMethodDescriptor "()V" = some ⟨[], none⟩ := by decide +kernel
theorem pd_1 : parseMethodDescriptor "(JJ)V" = some ⟨[.long, .long], none⟩ := by decide +kernel
theorem pd_2 : parseMethodDescriptor "(J)Z" = some ⟨[.long], some .boolean⟩ := by decide +kernel
theorem pd_3 : parseMethodDescriptor "(JJ)J" = some ⟨[.long, .long], some .long⟩ := by decide +kernel
theorem d1_0 : decode jdk_30_method_1_code 0 = .ok (.aload_n 0, 1) := by decide +kernel
theorem d1_1 : decode jdk_30_method_1_code 1 = .ok (.invokespecial 1, 3) := by decide +kernel
theorem d1_4 : decode jdk_30_method_1_code 4 = .ok (.return_, 1) := by decide +kernel
theorem ef_1 (m : MethodId) (r : Addr) : entryFrame m #[(.ref r)] 1 = mkF m 0 #[.val (.ref r)] [] := by first | (simp [entryFrame, mkF, argsToLocals, Value.category]; done) | rfl
def Q1 (Z : State) (r : Addr) (h0 : Heap) (n0 : Nat) (v : Option Value) (h : Heap) (L : List Loc) : Prop := v = none ∧ Fr n0 L ∧ h = h0
set_option maxRecDepth 65536 in
set_option maxHeartbeats 40000000 in
theorem rm1 (l : Launch) (Z : State) (a0 : Array Value) (hw : ∀ d ∈ tables_1, d.before a0 Z = true) (ws : List Jvm.Cond) (r : Addr) (h0 : Heap) (n0 : Nat) (Z0 : n0 ≤ h0.size)  :
    MetFree l (⟨"java/lang/Record", "<init>", "()V"⟩ : MethodName) (head1 (Jvm.Cond.code (⟨"java/lang/Record", "<init>", "()V"⟩ : MethodName) jdk_30_method_1_code 1 none :: ws) ({ frames := 1, cells := 0, slots := 0, locals := 12 } : Room)) (fun ar_ U => ar_ = #[(.ref r)] ∧ Z.Warmed39 U.vm ∧ U.heap = h0) (fun _ _ _ _ _ => True) (fun _ U o U' => ∃ v L, o = .returned v ∧ Q1 Z r  h0 n0 v U'.heap L ∧ FrameEnd U o U' L ({ frames := 1, cells := 0, slots := 0, locals := 12 } : Room).cells ({ frames := 1, cells := 0, slots := 0, locals := 12 } : Room).slots) := by
  refine MetFree.of_bodySF (plainFor_of_name pn_0) hisR ?_
  intro p e s m args below meth c s₁ Bd hml0 hP hK
  obtain ⟨rfl, hZ, hh⟩ := hP
  have hx := Bd.exec
  have hby := Bd.bytes
  have hml : c.maxLocals = 1 := hml0
  have hown : s.vm.findClass "java/lang/Record" = some m.cls := findClass_of_methodNamed Bd.named
  have hnm := (name_of_methodNamed Bd.named Bd.method).1
  have X0 : Stand p l e ({ frames := 1, cells := 0, slots := 0, locals := 12 } : Room) s m #[(.ref r)] below meth c s₁ [] 0 0 := Stand.of_body Bd
  have e0 : s₁.heap = h0 := by rw [← hh, Bd.state]; rfl
  have N0 := Fr.nil n0
  refine own_in (castTop (ef_1 m r)) ?_
  show own_Go _ _ _ _ (s₁.setTop (mkF m 0 #[.val (.ref r)] []))
  refine own_step (fun _ κ => XS.aloadN X0.here hx rfl (hb hby d1_0) rfl rfl κ) ?_
  show own_Go _ _ _ _ (s₁.setTop (mkF m 1 #[.val (.ref r)] [(.ref r)]))
  obtain ⟨T1, X1, e1, st1⟩ := initO X0 hx hZ hown (hw _ (List.mem_of_getElem? (i := 11) rfl)) (hw _ (List.mem_of_getElem? (i := 12) rfl)) (hw _ (List.mem_of_getElem? (i := 13) rfl)) e0 (g := (mkF m 1 #[.val (.ref r)] [(.ref r)])) rfl (by rw [hml]; rfl) rfl (hb hby d1_1) (by decide) (W := 0) (by show 2 * 0 + _ ≤ _; exact Nat.le_of_eq rfl) (by decide)
  refine own_step st1 ?_
  show own_Go _ _ _ _ (T1.setTop (mkF m 4 #[.val (.ref r)] []))
  obtain ⟨fs, hr, hrun, hended, hW, hsame⟩ := X1.leave (v := none) (fun _ => rfl)
  refine ⟨_, _, X1.returnOut hx Bd.returns (hb hby d1_4) hr, hrun, hended, _, _, rfl, ?_, ⟨_, rfl⟩, hW, hsame.mono (by decide) (by decide)⟩
  show Q1 Z r  h0 n0 _ T1.heap _
  rw [e1]
  exact ⟨rfl, N0, rfl⟩
theorem d2_0 : decode prog_37_method_1_code 0 = .ok (.aload_n 0, 1) := by decide +kernel
theorem d2_1 : decode prog_37_method_1_code 1 = .ok (.invokespecial 1, 3) := by decide +kernel
theorem d2_4 : decode prog_37_method_1_code 4 = .ok (.aload_n 0, 1) := by decide +kernel
theorem d2_5 : decode prog_37_method_1_code 5 = .ok (.lload_n 1, 1) := by decide +kernel
theorem d2_6 : decode prog_37_method_1_code 6 = .ok (.putfield 7, 3) := by decide +kernel
theorem d2_9 : decode prog_37_method_1_code 9 = .ok (.aload_n 0, 1) := by decide +kernel
theorem d2_10 : decode prog_37_method_1_code 10 = .ok (.lload_n 3, 1) := by decide +kernel
theorem d2_11 : decode prog_37_method_1_code 11 = .ok (.putfield 13, 3) := by decide +kernel
theorem d2_14 : decode prog_37_method_1_code 14 = .ok (.return_, 1) := by decide +kernel
theorem ef_2 (m : MethodId) (a : Addr) (qs : Int64) (qe : Int64) : entryFrame m #[(.ref a), (.long qs), (.long qe)] 5 = mkF m 0 #[.val (.ref a), .val (.long qs), .second, .val (.long qe), .second] [] := by first | (simp [entryFrame, mkF, argsToLocals, Value.category]; done) | rfl
def Q2 (Z : State) (a : Addr) (qs : Int64) (qe : Int64) (h0 : Heap) (n0 : Nat) (v : Option Value) (h : Heap) (L : List Loc) : Prop := v = none ∧ Fr n0 L ∧ Keep h0 h [a] ∧ (Exa Z h a "com/example/credit_clerk/creditclerk/service/Lifetime") ∧ (Fld Z h a "com/example/credit_clerk/creditclerk/service/Lifetime" "end" "J" (.long qe))
set_option maxRecDepth 65536 in
set_option maxHeartbeats 40000000 in
theorem rm2 (l : Launch) (Z : State) (a0 : Array Value) (hw : ∀ d ∈ tables_1, d.before a0 Z = true) (ws : List Jvm.Cond) (a : Addr) (qs : Int64) (qe : Int64) (h0 : Heap) (n0 : Nat) (Z0 : n0 ≤ h0.size) (P0 : Exa Z h0 a "com/example/credit_clerk/creditclerk/service/Lifetime") (P1 : Fld Z h0 a "com/example/credit_clerk/creditclerk/service/Lifetime" "start" "J" (.long (0 : Int64))) (P2 : Fld Z h0 a "com/example/credit_clerk/creditclerk/service/Lifetime" "end" "J" (.long (0 : Int64))) (P3 : n0 ≤ a) :
    MetFree l (⟨"com/example/credit_clerk/creditclerk/service/Lifetime", "<init>", "(JJ)V"⟩ : MethodName) (head1 (Jvm.Cond.code (⟨"com/example/credit_clerk/creditclerk/service/Lifetime", "<init>", "(JJ)V"⟩ : MethodName) prog_37_method_1_code 5 none :: ws) ({ frames := 2, cells := 0, slots := 0, locals := 24 } : Room)) (fun ar_ U => ar_ = #[(.ref a), (.long qs), (.long qe)] ∧ Z.Warmed39 U.vm ∧ U.heap = h0) (fun _ _ _ _ _ => True) (fun _ U o U' => ∃ v L, o = .returned v ∧ Q2 Z a qs qe  h0 n0 v U'.heap L ∧ FrameEnd U o U' L ({ frames := 2, cells := 0, slots := 0, locals := 24 } : Room).cells ({ frames := 2, cells := 0, slots := 0, locals := 24 } : Room).slots) := by
  refine MetFree.of_bodySF (plainFor_of_name pn_1) hisR ?_
  intro p e s m args below meth c s₁ Bd hml0 hP hK
  obtain ⟨rfl, hZ, hh⟩ := hP
  have hx := Bd.exec
  have hby := Bd.bytes
  have hml : c.maxLocals = 5 := hml0
  have hown : s.vm.findClass "com/example/credit_clerk/creditclerk/service/Lifetime" = some m.cls := findClass_of_methodNamed Bd.named
  have hnm := (name_of_methodNamed Bd.named Bd.method).1
  have X0 : Stand p l e ({ frames := 2, cells := 0, slots := 0, locals := 24 } : Room) s m #[(.ref a), (.long qs), (.long qe)] below meth c s₁ [] 0 0 := Stand.of_body Bd
  have e0 : s₁.heap = h0 := by rw [← hh, Bd.state]; rfl
  have N0 := Fr.nil n0
  refine own_in (castTop (ef_2 m a qs qe)) ?_
  show own_Go _ _ _ _ (s₁.setTop (mkF m 0 #[.val (.ref a), .val (.long qs), .second, .val (.long qe), .second] []))
  refine own_step (fun _ κ => XS.aloadN X0.here hx rfl (hb hby d2_0) rfl rfl κ) ?_
  show own_Go _ _ _ _ (s₁.setTop (mkF m 1 #[.val (.ref a), .val (.long qs), .second, .val (.long qe), .second] [(.ref a)]))
  obtain ⟨vr1, _, ⟨T1, L1, k1, n1⟩, -, X1, ⟨Lc1, hQ1, l1, y1, z1⟩, st1⟩ := X0.specialBack hx (y := (⟨"java/lang/Record", "<init>", "()V"⟩ : MethodName)) rfl hown (mvT hZ (hw _ (List.mem_of_getElem? (i := 6) rfl))) (mvT hZ (hw _ (List.mem_of_getElem? (i := 7) rfl))) (mvT hZ (hw _ (List.mem_of_getElem? (i := 10) rfl))) (by decide) (backOf (W := 0) (rm1 l Z a0 hw [] a  h0 n0 Z0 ) hZ (hw _ (List.mem_of_getElem? (i := 10) rfl)) (hw _ (List.mem_of_getElem? (i := 9) rfl)) (by decide) (by decide)) (g := (mkF m 1 #[.val (.ref a), .val (.long qs), .second, .val (.long qe), .second] [(.ref a)])) rfl (by rw [hml]; rfl) (Steps.refl _) (a := a) (argsL := []) (rest := []) (lenOf pd_0 rfl) rfl (by show 2 * 0 + _ ≤ _; exact Nat.le_of_eq rfl) (hb hby d2_1) (fun _ _ => ⟨rfl, e0, (by decide : 0 + 0 ≤ _), (by decide : 0 + 0 ≤ _)⟩)
  dsimp only [Pt.U, Pt.locs, Pt.cells, Pt.slots] at X1 l1 y1 z1 st1 hQ1
  subst l1 y1 z1
  obtain ⟨rfl, Nq1, eq1⟩ := hQ1
  have N1 := Fr.app N0 Nq1
  refine own_step (fun _ κ => st1.trans κ) ?_
  show own_Go _ _ _ _ (T1.setTop (mkF m 4 #[.val (.ref a), .val (.long qs), .second, .val (.long qe), .second] []))
  refine own_step (fun _ κ => XS.aloadN X1.here hx rfl (hb hby d2_4) rfl rfl κ) ?_
  show own_Go _ _ _ _ (T1.setTop (mkF m 5 #[.val (.ref a), .val (.long qs), .second, .val (.long qe), .second] [(.ref a)]))
  refine own_step (fun _ κ => XS.lloadN X1.here hx rfl (hb hby d2_5) rfl κ) ?_
  show own_Go _ _ _ _ (T1.setTop (mkF m 6 #[.val (.ref a), .val (.long qs), .second, .val (.long qe), .second] [(.long qs), (.ref a)]))
  obtain ⟨T2, h2, X2, e2, W2, st2⟩ := putF X1 hx hZ hown (host := "") (Or.inl (hw _ (List.mem_of_getElem? (i := 14) rfl))) Via.refl eq1 P1 P0 (Or.inr ⟨(hw _ (List.mem_of_getElem? (i := 15) rfl)), rfl, hnm⟩) (hw _ (List.mem_of_getElem? (i := 1) rfl)) (ty := .long) (by decide) rfl rfl (g := (mkF m 6 #[.val (.ref a), .val (.long qs), .second, .val (.long qe), .second] [(.long qs), (.ref a)])) rfl rfl (hb hby d2_6)
  refine own_step st2 ?_
  have N2 := Fr.snoc X2 N1 P3
  have Fw2 := P1.same W2
  have f3 := P0.wr W2
  have f4 := P2.other W2 (Or.inr (slot_ne (Or.inr (hw _ (List.mem_of_getElem? (i := 17) rfl))) (Or.inr (hw _ (List.mem_of_getElem? (i := 15) rfl))) (by decide) (t := .long) (t' := .long) (by decide) (by decide)))
  have K5 : Keep h0 h2 [a] := (Keep.refl h0 [a]).wr W2 (Or.inl (List.mem_of_getElem? (i := 0) rfl))
  have z6 : n0 ≤ h2.size := Nat.le_trans Z0 (Keep.of_wr W2).1
  show own_Go _ _ _ _ (T2.setTop (mkF m 9 #[.val (.ref a), .val (.long qs), .second, .val (.long qe), .second] []))
  refine own_step (fun _ κ => XS.aloadN X2.here hx rfl (hb hby d2_9) rfl rfl κ) ?_
  show own_Go _ _ _ _ (T2.setTop (mkF m 10 #[.val (.ref a), .val (.long qs), .second, .val (.long qe), .second] [(.ref a)]))
  refine own_step (fun _ κ => XS.lloadN X2.here hx rfl (hb hby d2_10) rfl κ) ?_
  show own_Go _ _ _ _ (T2.setTop (mkF m 11 #[.val (.ref a), .val (.long qs), .second, .val (.long qe), .second] [(.long qe), (.ref a)]))
  obtain ⟨T7, h7, X7, e7, W7, st7⟩ := putF X2 hx hZ hown (host := "") (Or.inl (hw _ (List.mem_of_getElem? (i := 16) rfl))) Via.refl e2 f4 f3 (Or.inr ⟨(hw _ (List.mem_of_getElem? (i := 17) rfl)), rfl, hnm⟩) (hw _ (List.mem_of_getElem? (i := 1) rfl)) (ty := .long) (by decide) rfl rfl (g := (mkF m 11 #[.val (.ref a), .val (.long qs), .second, .val (.long qe), .second] [(.long qe), (.ref a)])) rfl rfl (hb hby d2_11)
  refine own_step st7 ?_
  have N7 := Fr.snoc X7 N2 P3
  have Fw7 := f4.same W7
  have f8 := f3.wr W7
  have f9 := Fw2.other W7 (Or.inr (slot_ne (Or.inr (hw _ (List.mem_of_getElem? (i := 15) rfl))) (Or.inr (hw _ (List.mem_of_getElem? (i := 17) rfl))) (by decide) (t := .long) (t' := .long) (by decide) (by decide)))
  have K10 : Keep h0 h7 [a] := K5.wr W7 (Or.inl (List.mem_of_getElem? (i := 0) rfl))
  have z11 : n0 ≤ h7.size := Nat.le_trans z6 (Keep.of_wr W7).1
  show own_Go _ _ _ _ (T7.setTop (mkF m 14 #[.val (.ref a), .val (.long qs), .second, .val (.long qe), .second] []))
  obtain ⟨fs, hr, hrun, hended, hW, hsame⟩ := X7.leave (v := none) (fun _ => rfl)
  refine ⟨_, _, X7.returnOut hx Bd.returns (hb hby d2_14) hr, hrun, hended, _, _, rfl, ?_, ⟨_, rfl⟩, hW, hsame.mono (by decide) (by decide)⟩
  show Q2 Z a qs qe  h0 n0 _ T7.heap _
  rw [e7]
  exact ⟨rfl, N7, K10, f8, Fw7⟩
theorem d3_0 : decode prog_37_method_3_code 0 = .ok (.lload_n 1, 1) := by decide +kernel
theorem d3_1 : decode prog_37_method_3_code 1 = .ok (.aload_n 0, 1) := by decide +kernel
theorem d3_2 : decode prog_37_method_3_code 2 = .ok (.getfield 13, 3) := by decide +kernel
theorem d3_5 : decode prog_37_method_3_code 5 = .ok (.lcmp, 1) := by decide +kernel
theorem d3_6 : decode prog_37_method_3_code 6 = .ok (.ifCond .lt 7, 3) := by decide +kernel
theorem d3_9 : decode prog_37_method_3_code 9 = .ok (.iconst 1, 1) := by decide +kernel
theorem d3_10 : decode prog_37_method_3_code 10 = .ok (.goto 4, 3) := by decide +kernel
theorem d3_13 : decode prog_37_method_3_code 13 = .ok (.iconst 0, 1) := by decide +kernel
theorem d3_14 : decode prog_37_method_3_code 14 = .ok (.ireturn, 1) := by decide +kernel
theorem ef_3 (m : MethodId) (a : Addr) (qt : Int64) : entryFrame m #[(.ref a), (.long qt)] 3 = mkF m 0 #[.val (.ref a), .val (.long qt), .second] [] := by first | (simp [entryFrame, mkF, argsToLocals, Value.category]; done) | rfl
def Q3 (Z : State) (a : Addr) (qt : Int64) (qe : Int64) (h0 : Heap) (n0 : Nat) (v : Option Value) (h : Heap) (L : List Loc) : Prop := v = some (.int (if qt < qe then (0 : Int32) else (1 : Int32))) ∧ Fr n0 L ∧ h = h0
set_option maxRecDepth 65536 in
set_option maxHeartbeats 40000000 in
theorem rm3 (l : Launch) (Z : State) (a0 : Array Value) (hw : ∀ d ∈ tables_1, d.before a0 Z = true) (ws : List Jvm.Cond) (a : Addr) (qt : Int64) (qe : Int64) (h0 : Heap) (n0 : Nat) (Z0 : n0 ≤ h0.size) (P0 : Fld Z h0 a "com/example/credit_clerk/creditclerk/service/Lifetime" "end" "J" (.long qe)) :
    MetFree l (⟨"com/example/credit_clerk/creditclerk/service/Lifetime", "hasEnded", "(J)Z"⟩ : MethodName) (head1 (Jvm.Cond.code (⟨"com/example/credit_clerk/creditclerk/service/Lifetime", "hasEnded", "(J)Z"⟩ : MethodName) prog_37_method_3_code 3 (some .boolean) :: ws) ({ frames := 0, cells := 0, slots := 0, locals := 0 } : Room)) (fun ar_ U => ar_ = #[(.ref a), (.long qt)] ∧ Z.Warmed39 U.vm ∧ U.heap = h0) (fun _ _ _ _ _ => True) (fun _ U o U' => ∃ v L, o = .returned v ∧ Q3 Z a qt qe h0 n0 v U'.heap L ∧ FrameEnd U o U' L ({ frames := 0, cells := 0, slots := 0, locals := 0 } : Room).cells ({ frames := 0, cells := 0, slots := 0, locals := 0 } : Room).slots) := by
  refine MetFree.of_bodySF (plainFor_of_name pn_1) hisR ?_
  intro p e s m args below meth c s₁ Bd hml0 hP hK
  obtain ⟨rfl, hZ, hh⟩ := hP
  have hx := Bd.exec
  have hby := Bd.bytes
  have hml : c.maxLocals = 3 := hml0
  have hown : s.vm.findClass "com/example/credit_clerk/creditclerk/service/Lifetime" = some m.cls := findClass_of_methodNamed Bd.named
  have hnm := (name_of_methodNamed Bd.named Bd.method).1
  have X0 : Stand p l e ({ frames := 0, cells := 0, slots := 0, locals := 0 } : Room) s m #[(.ref a), (.long qt)] below meth c s₁ [] 0 0 := Stand.of_body Bd
  have e0 : s₁.heap = h0 := by rw [← hh, Bd.state]; rfl
  have N0 := Fr.nil n0
  refine own_in (castTop (ef_3 m a qt)) ?_
  show own_Go _ _ _ _ (s₁.setTop (mkF m 0 #[.val (.ref a), .val (.long qt), .second] []))
  refine own_step (fun _ κ => XS.lloadN X0.here hx rfl (hb hby d3_0) rfl κ) ?_
  show own_Go _ _ _ _ (s₁.setTop (mkF m 1 #[.val (.ref a), .val (.long qt), .second] [(.long qt)]))
  refine own_step (fun _ κ => XS.aloadN X0.here hx rfl (hb hby d3_1) rfl rfl κ) ?_
  show own_Go _ _ _ _ (s₁.setTop (mkF m 2 #[.val (.ref a), .val (.long qt), .second] [(.ref a), (.long qt)]))
  obtain ⟨T1, X1, e1, st1⟩ := getF X0 hx hZ hown (host := "") (Or.inl (hw _ (List.mem_of_getElem? (i := 16) rfl))) Via.refl e0 P0 (g := (mkF m 2 #[.val (.ref a), .val (.long qt), .second] [(.ref a), (.long qt)])) rfl rfl (hb hby d3_2)
  refine own_step st1 ?_
  show own_Go _ _ _ _ (T1.setTop (mkF m 5 #[.val (.ref a), .val (.long qt), .second] [(.long qe), (.long qt)]))
  refine own_step (fun _ κ => XS.lcmp X1.here hx rfl (hb hby d3_5) rfl κ) ?_
  show own_Go _ _ _ _ (T1.setTop (mkF m 6 #[.val (.ref a), .val (.long qt), .second] [(.int (lcmpW qt qe))]))
  by_cases hc2 : qt < qe
  · refine own_step (fun _ κ => XS.ifYes X1.here hx rfl (pc0 := 6) (pc' := 13) rfl (hb hby d3_6) rfl ((if0 _ _).trans (tlt ((lw_lt _ _).mpr hc2)).1) (by decide) (by decide) κ) ?_
    show own_Go _ _ _ _ (T1.setTop (mkF m 13 #[.val (.ref a), .val (.long qt), .second] []))
    refine own_step (fun _ κ => XS.iconst X1.here hx rfl (hb hby d3_13) κ) ?_
    show own_Go _ _ _ _ (T1.setTop (mkF m 14 #[.val (.ref a), .val (.long qt), .second] [(.int (0 : Int32))]))
    obtain ⟨fs, hr, hrun, hended, hW, hsame⟩ := X1.leave (v := some (.int (0 : Int32))) (fun h => by rw [Bd.returns] at h; cases h)
    refine ⟨_, _, retN X1 hx (t := .boolean) Bd.returns (by simp) (hb hby d3_14) hr, hrun, hended, _, _, rfl, ?_, ⟨_, rfl⟩, hW, hsame.mono (by decide) (by decide)⟩
    show Q3 Z a qt qe h0 n0 _ T1.heap _
    rw [e1]
    exact ⟨(by rw [if_pos hc2]), N0, rfl⟩
  · refine own_step (fun _ κ => XS.ifNo X1.here hx rfl (hb hby d3_6) rfl ((if0 _ _).trans (flt (fun q => hc2 ((lw_lt _ _).mp q))).1) κ) ?_
    show own_Go _ _ _ _ (T1.setTop (mkF m 9 #[.val (.ref a), .val (.long qt), .second] []))
    refine own_step (fun _ κ => XS.iconst X1.here hx rfl (hb hby d3_9) κ) ?_
    show own_Go _ _ _ _ (T1.setTop (mkF m 10 #[.val (.ref a), .val (.long qt), .second] [(.int (1 : Int32))]))
    refine own_step (fun _ κ => XS.goto X1.here hx rfl (pc0 := 10) (pc' := 14) rfl (hb hby d3_10) (by decide) (by decide) κ) ?_
    show own_Go _ _ _ _ (T1.setTop (mkF m 14 #[.val (.ref a), .val (.long qt), .second] [(.int (1 : Int32))]))
    obtain ⟨fs, hr, hrun, hended, hW, hsame⟩ := X1.leave (v := some (.int (1 : Int32))) (fun h => by rw [Bd.returns] at h; cases h)
    refine ⟨_, _, retN X1 hx (t := .boolean) Bd.returns (by simp) (hb hby d3_14) hr, hrun, hended, _, _, rfl, ?_, ⟨_, rfl⟩, hW, hsame.mono (by decide) (by decide)⟩
    show Q3 Z a qt qe h0 n0 _ T1.heap _
    rw [e1]
    exact ⟨(by rw [if_neg hc2]), N0, rfl⟩
theorem d4_0 : decode jdk_29_method_70_code 0 = .ok (.lload_n 0, 1) := by decide +kernel
theorem d4_1 : decode jdk_29_method_70_code 1 = .ok (.lload_n 2, 1) := by decide +kernel
theorem d4_2 : decode jdk_29_method_70_code 2 = .ok (.lcmp, 1) := by decide +kernel
theorem d4_3 : decode jdk_29_method_70_code 3 = .ok (.ifCond .gt 7, 3) := by decide +kernel
theorem d4_6 : decode jdk_29_method_70_code 6 = .ok (.lload_n 0, 1) := by decide +kernel
theorem d4_7 : decode jdk_29_method_70_code 7 = .ok (.goto 4, 3) := by decide +kernel
theorem d4_10 : decode jdk_29_method_70_code 10 = .ok (.lload_n 2, 1) := by decide +kernel
theorem d4_11 : decode jdk_29_method_70_code 11 = .ok (.lreturn, 1) := by decide +kernel
theorem ef_4 (m : MethodId) (qa : Int64) (qb : Int64) : entryFrame m #[(.long qa), (.long qb)] 4 = mkF m 0 #[.val (.long qa), .second, .val (.long qb), .second] [] := by first | (simp [entryFrame, mkF, argsToLocals, Value.category]; done) | rfl
def Q4 (Z : State) (qa : Int64) (qb : Int64) (h0 : Heap) (n0 : Nat) (v : Option Value) (h : Heap) (L : List Loc) : Prop := v = some (.long (own_min qa qb)) ∧ Fr n0 L ∧ h = h0
set_option maxRecDepth 65536 in
set_option maxHeartbeats 40000000 in
theorem rm4 (l : Launch) (Z : State) (a0 : Array Value) (hw : ∀ d ∈ tables_1, d.before a0 Z = true) (ws : List Jvm.Cond) (qa : Int64) (qb : Int64) (h0 : Heap) (n0 : Nat) (Z0 : n0 ≤ h0.size)  :
    MetFree l (⟨"java/lang/Math", "min", "(JJ)J"⟩ : MethodName) (head1 (Jvm.Cond.code (⟨"java/lang/Math", "min", "(JJ)J"⟩ : MethodName) jdk_29_method_70_code 4 (some .long) :: ws) ({ frames := 0, cells := 0, slots := 0, locals := 0 } : Room)) (fun ar_ U => ar_ = #[(.long qa), (.long qb)] ∧ Z.Warmed39 U.vm ∧ U.heap = h0) (fun _ _ _ _ _ => True) (fun _ U o U' => ∃ v L, o = .returned v ∧ Q4 Z qa qb  h0 n0 v U'.heap L ∧ FrameEnd U o U' L ({ frames := 0, cells := 0, slots := 0, locals := 0 } : Room).cells ({ frames := 0, cells := 0, slots := 0, locals := 0 } : Room).slots) := by
  refine MetFree.of_bodySF (by decide +kernel) hisR ?_
  intro p e s m args below meth c s₁ Bd hml0 hP hK
  obtain ⟨rfl, hZ, hh⟩ := hP
  have hx := Bd.exec
  have hby := Bd.bytes
  have hml : c.maxLocals = 4 := hml0
  have hown : s.vm.findClass "java/lang/Math" = some m.cls := findClass_of_methodNamed Bd.named
  have hnm := (name_of_methodNamed Bd.named Bd.method).1
  have X0 : Stand p l e ({ frames := 0, cells := 0, slots := 0, locals := 0 } : Room) s m #[(.long qa), (.long qb)] below meth c s₁ [] 0 0 := Stand.of_body Bd
  have e0 : s₁.heap = h0 := by rw [← hh, Bd.state]; rfl
  have N0 := Fr.nil n0
  refine own_in (castTop (ef_4 m qa qb)) ?_
  show own_Go _ _ _ _ (s₁.setTop (mkF m 0 #[.val (.long qa), .second, .val (.long qb), .second] []))
  refine own_step (fun _ κ => XS.lloadN X0.here hx rfl (hb hby d4_0) rfl κ) ?_
  show own_Go _ _ _ _ (s₁.setTop (mkF m 1 #[.val (.long qa), .second, .val (.long qb), .second] [(.long qa)]))
  refine own_step (fun _ κ => XS.lloadN X0.here hx rfl (hb hby d4_1) rfl κ) ?_
  show own_Go _ _ _ _ (s₁.setTop (mkF m 2 #[.val (.long qa), .second, .val (.long qb), .second] [(.long qb), (.long qa)]))
  refine own_step (fun _ κ => XS.lcmp X0.here hx rfl (hb hby d4_2) rfl κ) ?_
  show own_Go _ _ _ _ (s₁.setTop (mkF m 3 #[.val (.long qa), .second, .val (.long qb), .second] [(.int (lcmpW qa qb))]))
  by_cases hc1 : qb < qa
  · refine own_step (fun _ κ => XS.ifYes X0.here hx rfl (pc0 := 3) (pc' := 10) rfl (hb hby d4_3) rfl ((if0 _ _).trans (tlt ((lw_gt _ _).mpr hc1)).2.2.1) (by decide) (by decide) κ) ?_
    show own_Go _ _ _ _ (s₁.setTop (mkF m 10 #[.val (.long qa), .second, .val (.long qb), .second] []))
    refine own_step (fun _ κ => XS.lloadN X0.here hx rfl (hb hby d4_10) rfl κ) ?_
    show own_Go _ _ _ _ (s₁.setTop (mkF m 11 #[.val (.long qa), .second, .val (.long qb), .second] [(.long qb)]))
    obtain ⟨fs, hr, hrun, hended, hW, hsame⟩ := X0.leave (v := some (.long qb)) (fun h => by rw [Bd.returns] at h; cases h)
    refine ⟨_, _, retOut X0 hx Bd.returns rfl (Or.inr (Or.inl ⟨rfl, rfl, _, rfl⟩)) (hb hby d4_11) hr, hrun, hended, _, _, rfl, ?_, ⟨_, rfl⟩, hW, hsame.mono (by decide) (by decide)⟩
    show Q4 Z qa qb  h0 n0 _ s₁.heap _
    rw [e0]
    exact ⟨by simp [own_min, hc1], N0, rfl⟩
  · refine own_step (fun _ κ => XS.ifNo X0.here hx rfl (hb hby d4_3) rfl ((if0 _ _).trans (flt (fun q => hc1 ((lw_gt _ _).mp q))).2.2.1) κ) ?_
    show own_Go _ _ _ _ (s₁.setTop (mkF m 6 #[.val (.long qa), .second, .val (.long qb), .second] []))
    refine own_step (fun _ κ => XS.lloadN X0.here hx rfl (hb hby d4_6) rfl κ) ?_
    show own_Go _ _ _ _ (s₁.setTop (mkF m 7 #[.val (.long qa), .second, .val (.long qb), .second] [(.long qa)]))
    refine own_step (fun _ κ => XS.goto X0.here hx rfl (pc0 := 7) (pc' := 11) rfl (hb hby d4_7) (by decide) (by decide) κ) ?_
    show own_Go _ _ _ _ (s₁.setTop (mkF m 11 #[.val (.long qa), .second, .val (.long qb), .second] [(.long qa)]))
    obtain ⟨fs, hr, hrun, hended, hW, hsame⟩ := X0.leave (v := some (.long qa)) (fun h => by rw [Bd.returns] at h; cases h)
    refine ⟨_, _, retOut X0 hx Bd.returns rfl (Or.inr (Or.inl ⟨rfl, rfl, _, rfl⟩)) (hb hby d4_11) hr, hrun, hended, _, _, rfl, ?_, ⟨_, rfl⟩, hW, hsame.mono (by decide) (by decide)⟩
    show Q4 Z qa qb  h0 n0 _ s₁.heap _
    rw [e0]
    exact ⟨by simp [own_min, hc1], N0, rfl⟩
theorem d5_0 : decode jdk_29_method_66_code 0 = .ok (.lload_n 0, 1) := by decide +kernel
theorem d5_1 : decode jdk_29_method_66_code 1 = .ok (.lload_n 2, 1) := by decide +kernel
theorem d5_2 : decode jdk_29_method_66_code 2 = .ok (.lcmp, 1) := by decide +kernel
theorem d5_3 : decode jdk_29_method_66_code 3 = .ok (.ifCond .lt 7, 3) := by decide +kernel
theorem d5_6 : decode jdk_29_method_66_code 6 = .ok (.lload_n 0, 1) := by decide +kernel
theorem d5_7 : decode jdk_29_method_66_code 7 = .ok (.goto 4, 3) := by decide +kernel
theorem d5_10 : decode jdk_29_method_66_code 10 = .ok (.lload_n 2, 1) := by decide +kernel
theorem d5_11 : decode jdk_29_method_66_code 11 = .ok (.lreturn, 1) := by decide +kernel
theorem ef_5 (m : MethodId) (qa : Int64) (qb : Int64) : entryFrame m #[(.long qa), (.long qb)] 4 = mkF m 0 #[.val (.long qa), .second, .val (.long qb), .second] [] := by first | (simp [entryFrame, mkF, argsToLocals, Value.category]; done) | rfl
def Q5 (Z : State) (qa : Int64) (qb : Int64) (h0 : Heap) (n0 : Nat) (v : Option Value) (h : Heap) (L : List Loc) : Prop := v = some (.long (own_max qa qb)) ∧ Fr n0 L ∧ h = h0
set_option maxRecDepth 65536 in
set_option maxHeartbeats 40000000 in
theorem rm5 (l : Launch) (Z : State) (a0 : Array Value) (hw : ∀ d ∈ tables_1, d.before a0 Z = true) (ws : List Jvm.Cond) (qa : Int64) (qb : Int64) (h0 : Heap) (n0 : Nat) (Z0 : n0 ≤ h0.size)  :
    MetFree l (⟨"java/lang/Math", "max", "(JJ)J"⟩ : MethodName) (head1 (Jvm.Cond.code (⟨"java/lang/Math", "max", "(JJ)J"⟩ : MethodName) jdk_29_method_66_code 4 (some .long) :: ws) ({ frames := 0, cells := 0, slots := 0, locals := 0 } : Room)) (fun ar_ U => ar_ = #[(.long qa), (.long qb)] ∧ Z.Warmed39 U.vm ∧ U.heap = h0) (fun _ _ _ _ _ => True) (fun _ U o U' => ∃ v L, o = .returned v ∧ Q5 Z qa qb  h0 n0 v U'.heap L ∧ FrameEnd U o U' L ({ frames := 0, cells := 0, slots := 0, locals := 0 } : Room).cells ({ frames := 0, cells := 0, slots := 0, locals := 0 } : Room).slots) := by
  refine MetFree.of_bodySF (by decide +kernel) hisR ?_
  intro p e s m args below meth c s₁ Bd hml0 hP hK
  obtain ⟨rfl, hZ, hh⟩ := hP
  have hx := Bd.exec
  have hby := Bd.bytes
  have hml : c.maxLocals = 4 := hml0
  have hown : s.vm.findClass "java/lang/Math" = some m.cls := findClass_of_methodNamed Bd.named
  have hnm := (name_of_methodNamed Bd.named Bd.method).1
  have X0 : Stand p l e ({ frames := 0, cells := 0, slots := 0, locals := 0 } : Room) s m #[(.long qa), (.long qb)] below meth c s₁ [] 0 0 := Stand.of_body Bd
  have e0 : s₁.heap = h0 := by rw [← hh, Bd.state]; rfl
  have N0 := Fr.nil n0
  refine own_in (castTop (ef_5 m qa qb)) ?_
  show own_Go _ _ _ _ (s₁.setTop (mkF m 0 #[.val (.long qa), .second, .val (.long qb), .second] []))
  refine own_step (fun _ κ => XS.lloadN X0.here hx rfl (hb hby d5_0) rfl κ) ?_
  show own_Go _ _ _ _ (s₁.setTop (mkF m 1 #[.val (.long qa), .second, .val (.long qb), .second] [(.long qa)]))
  refine own_step (fun _ κ => XS.lloadN X0.here hx rfl (hb hby d5_1) rfl κ) ?_
  show own_Go _ _ _ _ (s₁.setTop (mkF m 2 #[.val (.long qa), .second, .val (.long qb), .second] [(.long qb), (.long qa)]))
  refine own_step (fun _ κ => XS.lcmp X0.here hx rfl (hb hby d5_2) rfl κ) ?_
  show own_Go _ _ _ _ (s₁.setTop (mkF m 3 #[.val (.long qa), .second, .val (.long qb), .second] [(.int (lcmpW qa qb))]))
  by_cases hc1 : qa < qb
  · refine own_step (fun _ κ => XS.ifYes X0.here hx rfl (pc0 := 3) (pc' := 10) rfl (hb hby d5_3) rfl ((if0 _ _).trans (tlt ((lw_lt _ _).mpr hc1)).1) (by decide) (by decide) κ) ?_
    show own_Go _ _ _ _ (s₁.setTop (mkF m 10 #[.val (.long qa), .second, .val (.long qb), .second] []))
    refine own_step (fun _ κ => XS.lloadN X0.here hx rfl (hb hby d5_10) rfl κ) ?_
    show own_Go _ _ _ _ (s₁.setTop (mkF m 11 #[.val (.long qa), .second, .val (.long qb), .second] [(.long qb)]))
    obtain ⟨fs, hr, hrun, hended, hW, hsame⟩ := X0.leave (v := some (.long qb)) (fun h => by rw [Bd.returns] at h; cases h)
    refine ⟨_, _, retOut X0 hx Bd.returns rfl (Or.inr (Or.inl ⟨rfl, rfl, _, rfl⟩)) (hb hby d5_11) hr, hrun, hended, _, _, rfl, ?_, ⟨_, rfl⟩, hW, hsame.mono (by decide) (by decide)⟩
    show Q5 Z qa qb  h0 n0 _ s₁.heap _
    rw [e0]
    exact ⟨by simp [own_max, hc1], N0, rfl⟩
  · refine own_step (fun _ κ => XS.ifNo X0.here hx rfl (hb hby d5_3) rfl ((if0 _ _).trans (flt (fun q => hc1 ((lw_lt _ _).mp q))).1) κ) ?_
    show own_Go _ _ _ _ (s₁.setTop (mkF m 6 #[.val (.long qa), .second, .val (.long qb), .second] []))
    refine own_step (fun _ κ => XS.lloadN X0.here hx rfl (hb hby d5_6) rfl κ) ?_
    show own_Go _ _ _ _ (s₁.setTop (mkF m 7 #[.val (.long qa), .second, .val (.long qb), .second] [(.long qa)]))
    refine own_step (fun _ κ => XS.goto X0.here hx rfl (pc0 := 7) (pc' := 11) rfl (hb hby d5_7) (by decide) (by decide) κ) ?_
    show own_Go _ _ _ _ (s₁.setTop (mkF m 11 #[.val (.long qa), .second, .val (.long qb), .second] [(.long qa)]))
    obtain ⟨fs, hr, hrun, hended, hW, hsame⟩ := X0.leave (v := some (.long qa)) (fun h => by rw [Bd.returns] at h; cases h)
    refine ⟨_, _, retOut X0 hx Bd.returns rfl (Or.inr (Or.inl ⟨rfl, rfl, _, rfl⟩)) (hb hby d5_11) hr, hrun, hended, _, _, rfl, ?_, ⟨_, rfl⟩, hW, hsame.mono (by decide) (by decide)⟩
    show Q5 Z qa qb  h0 n0 _ s₁.heap _
    rw [e0]
    exact ⟨by simp [own_max, hc1], N0, rfl⟩
theorem ef_0 (m : MethodId) (q0 : Int64) (q1 : Int64) (q2 : Int64) (q3 : Int64) : entryFrame m #[(.long q0), (.long q1), (.long q2), (.long q3)] maxLocals = mkF m 0 #[.val (.long q0), .second, .val (.long q1), .second, .val (.long q2), .second, .val (.long q3), .second, .unset, .unset, .unset, .unset, .unset, .unset, .unset, .unset, .unset, .unset] [] := by first | (simp [entryFrame, mkF, argsToLocals, Value.category, maxLocals]; done) | rfl
def Q0 (Z : State) (q0 : Int64) (q1 : Int64) (q2 : Int64) (q3 : Int64) (h0 : Heap) (n0 : Nat) (v : Option Value) (h : Heap) (L : List Loc) : Prop := v = some (.int (1 : Int32)) ∧ Fr n0 L
set_option maxRecDepth 65536 in
set_option maxHeartbeats 40000000 in
theorem rm0 (l : Launch) (Z : State) (a0 : Array Value) (hw : ∀ d ∈ tables_1, d.before a0 Z = true) (ws : List Jvm.Cond) (q0 : Int64) (q1 : Int64) (q2 : Int64) (q3 : Int64) (h0 : Heap) (n0 : Nat) (Z0 : n0 ≤ h0.size)  :
    MetFree l x (head1 (Jvm.Cond.code x code maxLocals ret :: ws) room_1) (fun ar_ U => ar_ = #[(.long q0), (.long q1), (.long q2), (.long q3)] ∧ Z.Warmed39 U.vm ∧ U.heap = h0) (fun _ _ _ _ _ => True) (fun _ U o U' => ∃ v L, o = .returned v ∧ Q0 Z q0 q1 q2 q3  h0 n0 v U'.heap L ∧ FrameEnd U o U' L room_1.cells room_1.slots) := by
  refine MetFree.of_bodySF (plainFor_of_name pn_2) hisR ?_
  intro p e s m args below meth c s₁ Bd hml0 hP hK
  obtain ⟨rfl, hZ, hh⟩ := hP
  have hx := Bd.exec
  have hby := Bd.bytes
  have hml : c.maxLocals = 18 := hml0
  have hown : s.vm.findClass "com/example/credit_clerk/creditclerk/service/LifetimeHasEndedPinLaw" = some m.cls := findClass_of_methodNamed Bd.named
  have hnm := (name_of_methodNamed Bd.named Bd.method).1
  have X0 : Stand p l e room_1 s m #[(.long q0), (.long q1), (.long q2), (.long q3)] below meth c s₁ [] 0 0 := Stand.of_body Bd
  have e0 : s₁.heap = h0 := by rw [← hh, Bd.state]; rfl
  have N0 := Fr.nil n0
  refine own_in (castTop (ef_0 m q0 q1 q2 q3)) ?_
  show own_Go _ _ _ _ (s₁.setTop (mkF m 0 #[.val (.long q0), .second, .val (.long q1), .second, .val (.long q2), .second, .val (.long q3), .second, .unset, .unset, .unset, .unset, .unset, .unset, .unset, .unset, .unset, .unset] []))
  obtain ⟨T1, h1, X1, e1, E1, A1, D1, U1, st1⟩ := newO X0 hx hZ hown (hw _ (List.mem_of_getElem? (i := 0) rfl)) (hw _ (List.mem_of_getElem? (i := 1) rfl)) (hw _ (List.mem_of_getElem? (i := 2) rfl)) e0 (g := (mkF m 0 #[.val (.long q0), .second, .val (.long q1), .second, .val (.long q2), .second, .val (.long q3), .second, .unset, .unset, .unset, .unset, .unset, .unset, .unset, .unset, .unset, .unset] [])) rfl (hb hby at_0) (by decide) (by decide)
  obtain ⟨b1, g1⟩ : ∃ z, z = h0.size := ⟨_, rfl⟩
  rw [← g1] at A1 D1 U1 st1
  refine own_step st1 ?_
  have ge2 : n0 ≤ b1 := Nat.le_trans Z0 (Nat.le_of_eq g1.symm)
  have z3 : n0 ≤ h1.size := Nat.le_trans Z0 E1.1
  have F1_start : Fld Z h1 b1 "com/example/credit_clerk/creditclerk/service/Lifetime" "start" "J" (.long (0 : Int64)) := D1 (Or.inr (hw _ (List.mem_of_getElem? (i := 15) rfl))) (ty := .long) (by decide)
  have F1_end : Fld Z h1 b1 "com/example/credit_clerk/creditclerk/service/Lifetime" "end" "J" (.long (0 : Int64)) := D1 (Or.inr (hw _ (List.mem_of_getElem? (i := 17) rfl))) (ty := .long) (by decide)
  show own_Go _ _ _ _ (T1.setTop (mkF m 3 #[.val (.long q0), .second, .val (.long q1), .second, .val (.long q2), .second, .val (.long q3), .second, .unset, .unset, .unset, .unset, .unset, .unset, .unset, .unset, .unset, .unset] [(.ref b1)]))
  refine own_step (fun _ κ => XS.dup X1.here hx rfl (hb hby at_3) rfl rfl κ) ?_
  show own_Go _ _ _ _ (T1.setTop (mkF m 4 #[.val (.long q0), .second, .val (.long q1), .second, .val (.long q2), .second, .val (.long q3), .second, .unset, .unset, .unset, .unset, .unset, .unset, .unset, .unset, .unset, .unset] [(.ref b1), (.ref b1)]))
  refine own_step (fun _ κ => XS.lloadN X1.here hx rfl (hb hby at_4) rfl κ) ?_
  show own_Go _ _ _ _ (T1.setTop (mkF m 5 #[.val (.long q0), .second, .val (.long q1), .second, .val (.long q2), .second, .val (.long q3), .second, .unset, .unset, .unset, .unset, .unset, .unset, .unset, .unset, .unset, .unset] [(.long q0), (.ref b1), (.ref b1)]))
  refine own_step (fun _ κ => XS.lloadN X1.here hx rfl (hb hby at_5) rfl κ) ?_
  show own_Go _ _ _ _ (T1.setTop (mkF m 6 #[.val (.long q0), .second, .val (.long q1), .second, .val (.long q2), .second, .val (.long q3), .second, .unset, .unset, .unset, .unset, .unset, .unset, .unset, .unset, .unset, .unset] [(.long q1), (.long q0), (.ref b1), (.ref b1)]))
  obtain ⟨vr4, _, ⟨T4, L4, k4, n4⟩, -, X4, ⟨Lc4, hQ4, l4, y4, z4⟩, st4⟩ := X1.specialBack hx (y := (⟨"com/example/credit_clerk/creditclerk/service/Lifetime", "<init>", "(JJ)V"⟩ : MethodName)) rfl hown (mvT hZ (hw _ (List.mem_of_getElem? (i := 3) rfl))) (mvT hZ (hw _ (List.mem_of_getElem? (i := 4) rfl))) (mvT hZ (hw _ (List.mem_of_getElem? (i := 5) rfl))) (by decide) (backOf (W := 1) (rm2 l Z a0 hw [] b1 q0 q1  h1 n0 z3 A1 F1_start F1_end ge2) hZ (hw _ (List.mem_of_getElem? (i := 5) rfl)) (hw _ (List.mem_of_getElem? (i := 2) rfl)) (by decide) (by decide)) (g := (mkF m 6 #[.val (.long q0), .second, .val (.long q1), .second, .val (.long q2), .second, .val (.long q3), .second, .unset, .unset, .unset, .unset, .unset, .unset, .unset, .unset, .unset, .unset] [(.long q1), (.long q0), (.ref b1), (.ref b1)])) rfl (by rw [hml]; rfl) (Steps.refl _) (a := b1) (argsL := [(.long q0), (.long q1)]) (rest := [(.ref b1)]) (lenOf pd_1 rfl) rfl (by show 2 * 0 + _ ≤ _; exact Nat.le_of_eq rfl) (hb hby at_6) (fun _ _ => ⟨rfl, e1, (by decide : 1 + 0 ≤ _), (by decide : 2 + 0 ≤ _)⟩)
  dsimp only [Pt.U, Pt.locs, Pt.cells, Pt.slots] at X4 l4 y4 z4 st4 hQ4
  subst l4 y4 z4
  obtain ⟨rfl, Nq4, Kq4, p4_0, p4_1⟩ := hQ4
  have N4 := Fr.app N0 Nq4
  have f5 := A1.keep Kq4
  have z6 : n0 ≤ T4.heap.size := Nat.le_trans z3 Kq4.1
  refine own_step (fun _ κ => st4.trans κ) ?_
  show own_Go _ _ _ _ (T4.setTop (mkF m 9 #[.val (.long q0), .second, .val (.long q1), .second, .val (.long q2), .second, .val (.long q3), .second, .unset, .unset, .unset, .unset, .unset, .unset, .unset, .unset, .unset, .unset] [(.ref b1)]))
  refine own_step (fun _ κ => XS.astore X4.here hx rfl (hb hby at_9) rfl rfl (l' := #[.val (.long q0), .second, .val (.long q1), .second, .val (.long q2), .second, .val (.long q3), .second, .val (.ref b1), .unset, .unset, .unset, .unset, .unset, .unset, .unset, .unset, .unset]) rfl κ) ?_
  show own_Go _ _ _ _ (T4.setTop (mkF m 11 #[.val (.long q0), .second, .val (.long q1), .second, .val (.long q2), .second, .val (.long q3), .second, .val (.ref b1), .unset, .unset, .unset, .unset, .unset, .unset, .unset, .unset, .unset] []))
  obtain ⟨T7, h7, X7, e7, E7, A7, D7, U7, st7⟩ := newO X4 hx hZ hown (hw _ (List.mem_of_getElem? (i := 0) rfl)) (hw _ (List.mem_of_getElem? (i := 1) rfl)) (hw _ (List.mem_of_getElem? (i := 2) rfl)) rfl (g := (mkF m 11 #[.val (.long q0), .second, .val (.long q1), .second, .val (.long q2), .second, .val (.long q3), .second, .val (.ref b1), .unset, .unset, .unset, .unset, .unset, .unset, .unset, .unset, .unset] [])) rfl (hb hby at_11) (by decide) (by decide)
  obtain ⟨b7, g7⟩ : ∃ z, z = T4.heap.size := ⟨_, rfl⟩
  rw [← g7] at A7 D7 U7 st7
  refine own_step st7 ?_
  have ne8 : b1 ≠ b7 := Nat.ne_of_lt (Nat.lt_of_lt_of_le p4_0.lt (Nat.le_of_eq g7.symm))
  have ge9 : n0 ≤ b7 := Nat.le_trans z6 (Nat.le_of_eq g7.symm)
  have f10 := p4_0.ext E7
  have f11 := p4_1.ext E7
  have z12 : n0 ≤ h7.size := Nat.le_trans z6 E7.1
  have F7_start : Fld Z h7 b7 "com/example/credit_clerk/creditclerk/service/Lifetime" "start" "J" (.long (0 : Int64)) := D7 (Or.inr (hw _ (List.mem_of_getElem? (i := 15) rfl))) (ty := .long) (by decide)
  have F7_end : Fld Z h7 b7 "com/example/credit_clerk/creditclerk/service/Lifetime" "end" "J" (.long (0 : Int64)) := D7 (Or.inr (hw _ (List.mem_of_getElem? (i := 17) rfl))) (ty := .long) (by decide)
  show own_Go _ _ _ _ (T7.setTop (mkF m 14 #[.val (.long q0), .second, .val (.long q1), .second, .val (.long q2), .second, .val (.long q3), .second, .val (.ref b1), .unset, .unset, .unset, .unset, .unset, .unset, .unset, .unset, .unset] [(.ref b7)]))
  refine own_step (fun _ κ => XS.dup X7.here hx rfl (hb hby at_14) rfl rfl κ) ?_
  show own_Go _ _ _ _ (T7.setTop (mkF m 15 #[.val (.long q0), .second, .val (.long q1), .second, .val (.long q2), .second, .val (.long q3), .second, .val (.ref b1), .unset, .unset, .unset, .unset, .unset, .unset, .unset, .unset, .unset] [(.ref b7), (.ref b7)]))
  refine own_step (fun _ κ => XS.lload X7.here hx rfl (hb hby at_15) rfl κ) ?_
  show own_Go _ _ _ _ (T7.setTop (mkF m 17 #[.val (.long q0), .second, .val (.long q1), .second, .val (.long q2), .second, .val (.long q3), .second, .val (.ref b1), .unset, .unset, .unset, .unset, .unset, .unset, .unset, .unset, .unset] [(.long q3), (.ref b7), (.ref b7)]))
  refine own_step (fun _ κ => XS.lloadN X7.here hx rfl (hb hby at_17) rfl κ) ?_
  show own_Go _ _ _ _ (T7.setTop (mkF m 18 #[.val (.long q0), .second, .val (.long q1), .second, .val (.long q2), .second, .val (.long q3), .second, .val (.ref b1), .unset, .unset, .unset, .unset, .unset, .unset, .unset, .unset, .unset] [(.long q1), (.long q3), (.ref b7), (.ref b7)]))
  obtain ⟨vr13, _, ⟨T13, L13, k13, n13⟩, -, X13, ⟨Lc13, hQ13, l13, y13, z13⟩, st13⟩ := X7.specialBack hx (y := (⟨"com/example/credit_clerk/creditclerk/service/Lifetime", "<init>", "(JJ)V"⟩ : MethodName)) rfl hown (mvT hZ (hw _ (List.mem_of_getElem? (i := 3) rfl))) (mvT hZ (hw _ (List.mem_of_getElem? (i := 4) rfl))) (mvT hZ (hw _ (List.mem_of_getElem? (i := 5) rfl))) (by decide) (backOf (W := 1) (rm2 l Z a0 hw [] b7 q3 q1  h7 n0 z12 A7 F7_start F7_end ge9) hZ (hw _ (List.mem_of_getElem? (i := 5) rfl)) (hw _ (List.mem_of_getElem? (i := 2) rfl)) (by decide) (by decide)) (g := (mkF m 18 #[.val (.long q0), .second, .val (.long q1), .second, .val (.long q2), .second, .val (.long q3), .second, .val (.ref b1), .unset, .unset, .unset, .unset, .unset, .unset, .unset, .unset, .unset] [(.long q1), (.long q3), (.ref b7), (.ref b7)])) rfl (by rw [hml]; rfl) (Steps.refl _) (a := b7) (argsL := [(.long q3), (.long q1)]) (rest := [(.ref b7)]) (lenOf pd_1 rfl) rfl (by show 2 * 0 + _ ≤ _; exact Nat.le_of_eq rfl) (hb hby at_18) (fun _ _ => ⟨rfl, e7, (by decide : 2 + 0 ≤ _), (by decide : 4 + 0 ≤ _)⟩)
  dsimp only [Pt.U, Pt.locs, Pt.cells, Pt.slots] at X13 l13 y13 z13 st13 hQ13
  subst l13 y13 z13
  obtain ⟨rfl, Nq13, Kq13, p13_0, p13_1⟩ := hQ13
  have N13 := Fr.app N4 Nq13
  have f14 := f10.keep Kq13
  have f15 := f11.keep Kq13 (ninS ne8 nin0)
  have f16 := A7.keep Kq13
  have z17 : n0 ≤ T13.heap.size := Nat.le_trans z12 Kq13.1
  refine own_step (fun _ κ => st13.trans κ) ?_
  show own_Go _ _ _ _ (T13.setTop (mkF m 21 #[.val (.long q0), .second, .val (.long q1), .second, .val (.long q2), .second, .val (.long q3), .second, .val (.ref b1), .unset, .unset, .unset, .unset, .unset, .unset, .unset, .unset, .unset] [(.ref b7)]))
  refine own_step (fun _ κ => XS.astore X13.here hx rfl (hb hby at_21) rfl rfl (l' := #[.val (.long q0), .second, .val (.long q1), .second, .val (.long q2), .second, .val (.long q3), .second, .val (.ref b1), .val (.ref b7), .unset, .unset, .unset, .unset, .unset, .unset, .unset, .unset]) rfl κ) ?_
  show own_Go _ _ _ _ (T13.setTop (mkF m 23 #[.val (.long q0), .second, .val (.long q1), .second, .val (.long q2), .second, .val (.long q3), .second, .val (.ref b1), .val (.ref b7), .unset, .unset, .unset, .unset, .unset, .unset, .unset, .unset] []))
  refine own_step (fun _ κ => XS.aload X13.here hx rfl (hb hby at_23) rfl rfl κ) ?_
  show own_Go _ _ _ _ (T13.setTop (mkF m 25 #[.val (.long q0), .second, .val (.long q1), .second, .val (.long q2), .second, .val (.long q3), .second, .val (.ref b1), .val (.ref b7), .unset, .unset, .unset, .unset, .unset, .unset, .unset, .unset] [(.ref b1)]))
  refine own_step (fun _ κ => XS.lloadN X13.here hx rfl (hb hby at_25) rfl κ) ?_
  show own_Go _ _ _ _ (T13.setTop (mkF m 26 #[.val (.long q0), .second, .val (.long q1), .second, .val (.long q2), .second, .val (.long q3), .second, .val (.ref b1), .val (.ref b7), .unset, .unset, .unset, .unset, .unset, .unset, .unset, .unset] [(.long q1), (.ref b1)]))
  obtain ⟨cq18, kq18, q18a, q18b, q18c⟩ := isOf hZ rfl f14
  obtain ⟨vr18, _, ⟨T18, L18, k18, n18⟩, -, X18, ⟨Lc18, hQ18, l18, y18, z18⟩, st18⟩ := X13.virtualBack hx (y := (⟨"com/example/credit_clerk/creditclerk/service/Lifetime", "hasEnded", "(J)Z"⟩ : MethodName)) (z := (⟨"com/example/credit_clerk/creditclerk/service/Lifetime", "hasEnded", "(J)Z"⟩ : MethodName)) hown (mvT hZ (hw _ (List.mem_of_getElem? (i := 18) rfl))) (mvT hZ (hw _ (List.mem_of_getElem? (i := 19) rfl))) (notFace_of_selects (args := #[]) (mvT hZ (hw _ (List.mem_of_getElem? (i := 21) rfl)))) (mvT hZ (hw _ (List.mem_of_getElem? (i := 21) rfl))) (mvT hZ (hw _ (List.mem_of_getElem? (i := 20) rfl))) (by decide) (backOf (W := 0) (rm3 l Z a0 hw [] b1 q1 q1 T13.heap n0 z17 f15) hZ (hw _ (List.mem_of_getElem? (i := 22) rfl)) (hw _ (List.mem_of_getElem? (i := 2) rfl)) (by decide) (by decide)) q18a q18c (g := (mkF m 26 #[.val (.long q0), .second, .val (.long q1), .second, .val (.long q2), .second, .val (.long q3), .second, .val (.ref b1), .val (.ref b7), .unset, .unset, .unset, .unset, .unset, .unset, .unset, .unset] [(.long q1), (.ref b1)])) rfl (by rw [hml]; rfl) (Steps.refl _) (argsL := [(.long q1)]) (rest := []) (lenOf pd_2 rfl) rfl (by show 2 * 0 + _ ≤ _; exact Nat.le_of_eq rfl) (hb hby at_26) (fun _ _ => ⟨rfl, rfl, (by decide : 2 + 0 ≤ _), (by decide : 4 + 0 ≤ _)⟩)
  dsimp only [Pt.U, Pt.locs, Pt.cells, Pt.slots] at X18 l18 y18 z18 st18 hQ18
  subst l18 y18 z18
  obtain ⟨hv18, Nq18, eq18⟩ := hQ18
  have N18 := Fr.app N13 Nq18
  rw [if_neg (by simp)] at hv18
  subst hv18
  refine own_step (fun _ κ => st18.trans κ) ?_
  show own_Go _ _ _ _ (T18.setTop (mkF m 29 #[.val (.long q0), .second, .val (.long q1), .second, .val (.long q2), .second, .val (.long q3), .second, .val (.ref b1), .val (.ref b7), .unset, .unset, .unset, .unset, .unset, .unset, .unset, .unset] [(.int (1 : Int32))]))
  refine own_step (fun _ κ => XS.istore X18.here hx rfl (hb hby at_29) rfl (l' := #[.val (.long q0), .second, .val (.long q1), .second, .val (.long q2), .second, .val (.long q3), .second, .val (.ref b1), .val (.ref b7), .val (.int (1 : Int32)), .unset, .unset, .unset, .unset, .unset, .unset, .unset]) rfl κ) ?_
  show own_Go _ _ _ _ (T18.setTop (mkF m 31 #[.val (.long q0), .second, .val (.long q1), .second, .val (.long q2), .second, .val (.long q3), .second, .val (.ref b1), .val (.ref b7), .val (.int (1 : Int32)), .unset, .unset, .unset, .unset, .unset, .unset, .unset] []))
  refine own_step (fun _ κ => XS.lloadN X18.here hx rfl (hb hby at_31) rfl κ) ?_
  show own_Go _ _ _ _ (T18.setTop (mkF m 32 #[.val (.long q0), .second, .val (.long q1), .second, .val (.long q2), .second, .val (.long q3), .second, .val (.ref b1), .val (.ref b7), .val (.int (1 : Int32)), .unset, .unset, .unset, .unset, .unset, .unset, .unset] [(.long q1)]))
  refine own_step (fun _ κ => X18.ldc2Long hx hown (mvT hZ (hw _ (List.mem_of_getElem? (i := 23) rfl))) (g := (mkF m 32 #[.val (.long q0), .second, .val (.long q1), .second, .val (.long q2), .second, .val (.long q3), .second, .val (.ref b1), .val (.ref b7), .val (.int (1 : Int32)), .unset, .unset, .unset, .unset, .unset, .unset, .unset] [(.long q1)])) rfl (hb hby at_32) _ κ) ?_
  show own_Go _ _ _ _ (T18.setTop (mkF m 35 #[.val (.long q0), .second, .val (.long q1), .second, .val (.long q2), .second, .val (.long q3), .second, .val (.ref b1), .val (.ref b7), .val (.int (1 : Int32)), .unset, .unset, .unset, .unset, .unset, .unset, .unset] [(.long (-9223372036854775808 : Int64)), (.long q1)]))
  refine own_step (fun _ κ => XS.lcmp X18.here hx rfl (hb hby at_35) rfl κ) ?_
  show own_Go _ _ _ _ (T18.setTop (mkF m 36 #[.val (.long q0), .second, .val (.long q1), .second, .val (.long q2), .second, .val (.long q3), .second, .val (.ref b1), .val (.ref b7), .val (.int (1 : Int32)), .unset, .unset, .unset, .unset, .unset, .unset, .unset] [(.int (lcmpW q1 (-9223372036854775808 : Int64)))]))
  by_cases hc19 : q1 = (-9223372036854775808 : Int64)
  · refine own_step (fun _ κ => XS.ifYes X18.here hx rfl (pc0 := 36) (pc' := 50) rfl (hb hby at_36) rfl ((if0 _ _).trans (teq ((lw_eq _ _).mpr hc19)).1) (by decide) (by decide) κ) ?_
    show own_Go _ _ _ _ (T18.setTop (mkF m 50 #[.val (.long q0), .second, .val (.long q1), .second, .val (.long q2), .second, .val (.long q3), .second, .val (.ref b1), .val (.ref b7), .val (.int (1 : Int32)), .unset, .unset, .unset, .unset, .unset, .unset, .unset] []))
    refine own_step (fun _ κ => XS.iconst X18.here hx rfl (hb hby at_50) κ) ?_
    show own_Go _ _ _ _ (T18.setTop (mkF m 51 #[.val (.long q0), .second, .val (.long q1), .second, .val (.long q2), .second, .val (.long q3), .second, .val (.ref b1), .val (.ref b7), .val (.int (1 : Int32)), .unset, .unset, .unset, .unset, .unset, .unset, .unset] [(.int (1 : Int32))]))
    refine own_step (fun _ κ => XS.goto X18.here hx rfl (pc0 := 51) (pc' := 55) rfl (hb hby at_51) (by decide) (by decide) κ) ?_
    show own_Go _ _ _ _ (T18.setTop (mkF m 55 #[.val (.long q0), .second, .val (.long q1), .second, .val (.long q2), .second, .val (.long q3), .second, .val (.ref b1), .val (.ref b7), .val (.int (1 : Int32)), .unset, .unset, .unset, .unset, .unset, .unset, .unset] [(.int (1 : Int32))]))
    refine own_step (fun _ κ => XS.istore X18.here hx rfl (hb hby at_55) rfl (l' := #[.val (.long q0), .second, .val (.long q1), .second, .val (.long q2), .second, .val (.long q3), .second, .val (.ref b1), .val (.ref b7), .val (.int (1 : Int32)), .val (.int (1 : Int32)), .unset, .unset, .unset, .unset, .unset, .unset]) rfl κ) ?_
    show own_Go _ _ _ _ (T18.setTop (mkF m 57 #[.val (.long q0), .second, .val (.long q1), .second, .val (.long q2), .second, .val (.long q3), .second, .val (.ref b1), .val (.ref b7), .val (.int (1 : Int32)), .val (.int (1 : Int32)), .unset, .unset, .unset, .unset, .unset, .unset] []))
    refine own_step (fun _ κ => XS.lload X18.here hx rfl (hb hby at_57) rfl κ) ?_
    show own_Go _ _ _ _ (T18.setTop (mkF m 59 #[.val (.long q0), .second, .val (.long q1), .second, .val (.long q2), .second, .val (.long q3), .second, .val (.ref b1), .val (.ref b7), .val (.int (1 : Int32)), .val (.int (1 : Int32)), .unset, .unset, .unset, .unset, .unset, .unset] [(.long q2)]))
    refine own_step (fun _ κ => XS.lload X18.here hx rfl (hb hby at_59) rfl κ) ?_
    show own_Go _ _ _ _ (T18.setTop (mkF m 61 #[.val (.long q0), .second, .val (.long q1), .second, .val (.long q2), .second, .val (.long q3), .second, .val (.ref b1), .val (.ref b7), .val (.int (1 : Int32)), .val (.int (1 : Int32)), .unset, .unset, .unset, .unset, .unset, .unset] [(.long q3), (.long q2)]))
    obtain ⟨vr20, _, ⟨T20, L20, k20, n20⟩, -, X20, ⟨Lc20, hQ20, l20, y20, z20⟩, st20⟩ := Jvm.LawKit.callS X18 hx (y := (⟨"java/lang/Math", "min", "(JJ)J"⟩ : MethodName)) hown (mvT hZ (hw _ (List.mem_of_getElem? (i := 24) rfl))) (mvT hZ (hw _ (List.mem_of_getElem? (i := 25) rfl))) (mvT hZ (hw _ (List.mem_of_getElem? (i := 26) rfl))) (mvT hZ (hw _ (List.mem_of_getElem? (i := 27) rfl))) (by decide) (backOf (W := 0) (rm4 l Z a0 hw [] q2 q3  T13.heap n0 z17 ) hZ (hw _ (List.mem_of_getElem? (i := 27) rfl)) (hw _ (List.mem_of_getElem? (i := 26) rfl)) (by decide) (by decide)) (g := (mkF m 61 #[.val (.long q0), .second, .val (.long q1), .second, .val (.long q2), .second, .val (.long q3), .second, .val (.ref b1), .val (.ref b7), .val (.int (1 : Int32)), .val (.int (1 : Int32)), .unset, .unset, .unset, .unset, .unset, .unset] [(.long q3), (.long q2)])) rfl (by rw [hml]; rfl) (argsL := [(.long q2), (.long q3)]) (rest := []) (lenOf pd_3 rfl) rfl (by show 2 * 0 + _ ≤ _; exact Nat.le_of_eq rfl) (hb hby at_61) (fun _ _ => ⟨rfl, eq18, (by decide : 2 + 0 ≤ _), (by decide : 4 + 0 ≤ _)⟩)
    dsimp only [Pt.U, Pt.locs, Pt.cells, Pt.slots] at X20 l20 y20 z20 st20 hQ20
    subst l20 y20 z20
    obtain ⟨rfl, Nq20, eq20⟩ := hQ20
    have N20 := Fr.app N18 Nq20
    refine own_step st20 ?_
    show own_Go _ _ _ _ (T20.setTop (mkF m 64 #[.val (.long q0), .second, .val (.long q1), .second, .val (.long q2), .second, .val (.long q3), .second, .val (.ref b1), .val (.ref b7), .val (.int (1 : Int32)), .val (.int (1 : Int32)), .unset, .unset, .unset, .unset, .unset, .unset] [(.long (own_min q2 q3))]))
    refine own_step (fun _ κ => XS.lstore X20.here hx rfl (hb hby at_64) rfl (l' := #[.val (.long q0), .second, .val (.long q1), .second, .val (.long q2), .second, .val (.long q3), .second, .val (.ref b1), .val (.ref b7), .val (.int (1 : Int32)), .val (.int (1 : Int32)), .val (.long (own_min q2 q3)), .second, .unset, .unset, .unset, .unset]) rfl κ) ?_
    show own_Go _ _ _ _ (T20.setTop (mkF m 66 #[.val (.long q0), .second, .val (.long q1), .second, .val (.long q2), .second, .val (.long q3), .second, .val (.ref b1), .val (.ref b7), .val (.int (1 : Int32)), .val (.int (1 : Int32)), .val (.long (own_min q2 q3)), .second, .unset, .unset, .unset, .unset] []))
    refine own_step (fun _ κ => XS.lload X20.here hx rfl (hb hby at_66) rfl κ) ?_
    show own_Go _ _ _ _ (T20.setTop (mkF m 68 #[.val (.long q0), .second, .val (.long q1), .second, .val (.long q2), .second, .val (.long q3), .second, .val (.ref b1), .val (.ref b7), .val (.int (1 : Int32)), .val (.int (1 : Int32)), .val (.long (own_min q2 q3)), .second, .unset, .unset, .unset, .unset] [(.long q2)]))
    refine own_step (fun _ κ => XS.lload X20.here hx rfl (hb hby at_68) rfl κ) ?_
    show own_Go _ _ _ _ (T20.setTop (mkF m 70 #[.val (.long q0), .second, .val (.long q1), .second, .val (.long q2), .second, .val (.long q3), .second, .val (.ref b1), .val (.ref b7), .val (.int (1 : Int32)), .val (.int (1 : Int32)), .val (.long (own_min q2 q3)), .second, .unset, .unset, .unset, .unset] [(.long q3), (.long q2)]))
    obtain ⟨vr21, _, ⟨T21, L21, k21, n21⟩, -, X21, ⟨Lc21, hQ21, l21, y21, z21⟩, st21⟩ := Jvm.LawKit.callS X20 hx (y := (⟨"java/lang/Math", "max", "(JJ)J"⟩ : MethodName)) hown (mvT hZ (hw _ (List.mem_of_getElem? (i := 28) rfl))) (mvT hZ (hw _ (List.mem_of_getElem? (i := 29) rfl))) (mvT hZ (hw _ (List.mem_of_getElem? (i := 26) rfl))) (mvT hZ (hw _ (List.mem_of_getElem? (i := 30) rfl))) (by decide) (backOf (W := 0) (rm5 l Z a0 hw [] q2 q3  T13.heap n0 z17 ) hZ (hw _ (List.mem_of_getElem? (i := 30) rfl)) (hw _ (List.mem_of_getElem? (i := 26) rfl)) (by decide) (by decide)) (g := (mkF m 70 #[.val (.long q0), .second, .val (.long q1), .second, .val (.long q2), .second, .val (.long q3), .second, .val (.ref b1), .val (.ref b7), .val (.int (1 : Int32)), .val (.int (1 : Int32)), .val (.long (own_min q2 q3)), .second, .unset, .unset, .unset, .unset] [(.long q3), (.long q2)])) rfl (by rw [hml]; rfl) (argsL := [(.long q2), (.long q3)]) (rest := []) (lenOf pd_3 rfl) rfl (by show 2 * 0 + _ ≤ _; exact Nat.le_of_eq rfl) (hb hby at_70) (fun _ _ => ⟨rfl, eq20, (by decide : 2 + 0 ≤ _), (by decide : 4 + 0 ≤ _)⟩)
    dsimp only [Pt.U, Pt.locs, Pt.cells, Pt.slots] at X21 l21 y21 z21 st21 hQ21
    subst l21 y21 z21
    obtain ⟨rfl, Nq21, eq21⟩ := hQ21
    have N21 := Fr.app N20 Nq21
    refine own_step st21 ?_
    show own_Go _ _ _ _ (T21.setTop (mkF m 73 #[.val (.long q0), .second, .val (.long q1), .second, .val (.long q2), .second, .val (.long q3), .second, .val (.ref b1), .val (.ref b7), .val (.int (1 : Int32)), .val (.int (1 : Int32)), .val (.long (own_min q2 q3)), .second, .unset, .unset, .unset, .unset] [(.long (own_max q2 q3))]))
    refine own_step (fun _ κ => XS.lstore X21.here hx rfl (hb hby at_73) rfl (l' := #[.val (.long q0), .second, .val (.long q1), .second, .val (.long q2), .second, .val (.long q3), .second, .val (.ref b1), .val (.ref b7), .val (.int (1 : Int32)), .val (.int (1 : Int32)), .val (.long (own_min q2 q3)), .second, .val (.long (own_max q2 q3)), .second, .unset, .unset]) rfl κ) ?_
    show own_Go _ _ _ _ (T21.setTop (mkF m 75 #[.val (.long q0), .second, .val (.long q1), .second, .val (.long q2), .second, .val (.long q3), .second, .val (.ref b1), .val (.ref b7), .val (.int (1 : Int32)), .val (.int (1 : Int32)), .val (.long (own_min q2 q3)), .second, .val (.long (own_max q2 q3)), .second, .unset, .unset] []))
    refine own_step (fun _ κ => XS.aload X21.here hx rfl (hb hby at_75) rfl rfl κ) ?_
    show own_Go _ _ _ _ (T21.setTop (mkF m 77 #[.val (.long q0), .second, .val (.long q1), .second, .val (.long q2), .second, .val (.long q3), .second, .val (.ref b1), .val (.ref b7), .val (.int (1 : Int32)), .val (.int (1 : Int32)), .val (.long (own_min q2 q3)), .second, .val (.long (own_max q2 q3)), .second, .unset, .unset] [(.ref b1)]))
    refine own_step (fun _ κ => XS.lload X21.here hx rfl (hb hby at_77) rfl κ) ?_
    show own_Go _ _ _ _ (T21.setTop (mkF m 79 #[.val (.long q0), .second, .val (.long q1), .second, .val (.long q2), .second, .val (.long q3), .second, .val (.ref b1), .val (.ref b7), .val (.int (1 : Int32)), .val (.int (1 : Int32)), .val (.long (own_min q2 q3)), .second, .val (.long (own_max q2 q3)), .second, .unset, .unset] [(.long (own_min q2 q3)), (.ref b1)]))
    obtain ⟨cq22, kq22, q22a, q22b, q22c⟩ := isOf hZ eq21 f14
    obtain ⟨vr22, _, ⟨T22, L22, k22, n22⟩, -, X22, ⟨Lc22, hQ22, l22, y22, z22⟩, st22⟩ := X21.virtualBack hx (y := (⟨"com/example/credit_clerk/creditclerk/service/Lifetime", "hasEnded", "(J)Z"⟩ : MethodName)) (z := (⟨"com/example/credit_clerk/creditclerk/service/Lifetime", "hasEnded", "(J)Z"⟩ : MethodName)) hown (mvT hZ (hw _ (List.mem_of_getElem? (i := 18) rfl))) (mvT hZ (hw _ (List.mem_of_getElem? (i := 19) rfl))) (notFace_of_selects (args := #[]) (mvT hZ (hw _ (List.mem_of_getElem? (i := 21) rfl)))) (mvT hZ (hw _ (List.mem_of_getElem? (i := 21) rfl))) (mvT hZ (hw _ (List.mem_of_getElem? (i := 20) rfl))) (by decide) (backOf (W := 0) (rm3 l Z a0 hw [] b1 (own_min q2 q3) q1 T13.heap n0 z17 f15) hZ (hw _ (List.mem_of_getElem? (i := 22) rfl)) (hw _ (List.mem_of_getElem? (i := 2) rfl)) (by decide) (by decide)) q22a q22c (g := (mkF m 79 #[.val (.long q0), .second, .val (.long q1), .second, .val (.long q2), .second, .val (.long q3), .second, .val (.ref b1), .val (.ref b7), .val (.int (1 : Int32)), .val (.int (1 : Int32)), .val (.long (own_min q2 q3)), .second, .val (.long (own_max q2 q3)), .second, .unset, .unset] [(.long (own_min q2 q3)), (.ref b1)])) rfl (by rw [hml]; rfl) (Steps.refl _) (argsL := [(.long (own_min q2 q3))]) (rest := []) (lenOf pd_2 rfl) rfl (by show 2 * 0 + _ ≤ _; exact Nat.le_of_eq rfl) (hb hby at_79) (fun _ _ => ⟨rfl, eq21, (by decide : 2 + 0 ≤ _), (by decide : 4 + 0 ≤ _)⟩)
    dsimp only [Pt.U, Pt.locs, Pt.cells, Pt.slots] at X22 l22 y22 z22 st22 hQ22
    subst l22 y22 z22
    obtain ⟨hv22, Nq22, eq22⟩ := hQ22
    have N22 := Fr.app N21 Nq22
    by_cases hc23 : (own_min q2 q3) < q1
    · rw [if_pos hc23] at hv22
      subst hv22
      refine own_step (fun _ κ => st22.trans κ) ?_
      show own_Go _ _ _ _ (T22.setTop (mkF m 82 #[.val (.long q0), .second, .val (.long q1), .second, .val (.long q2), .second, .val (.long q3), .second, .val (.ref b1), .val (.ref b7), .val (.int (1 : Int32)), .val (.int (1 : Int32)), .val (.long (own_min q2 q3)), .second, .val (.long (own_max q2 q3)), .second, .unset, .unset] [(.int (0 : Int32))]))
      refine own_step (fun _ κ => XS.ifYes X22.here hx rfl (pc0 := 82) (pc' := 95) rfl (hb hby at_82) rfl ((if0 _ _).trans (teq rfl).1) (by decide) (by decide) κ) ?_
      show own_Go _ _ _ _ (T22.setTop (mkF m 95 #[.val (.long q0), .second, .val (.long q1), .second, .val (.long q2), .second, .val (.long q3), .second, .val (.ref b1), .val (.ref b7), .val (.int (1 : Int32)), .val (.int (1 : Int32)), .val (.long (own_min q2 q3)), .second, .val (.long (own_max q2 q3)), .second, .unset, .unset] []))
      refine own_step (fun _ κ => XS.iconst X22.here hx rfl (hb hby at_95) κ) ?_
      show own_Go _ _ _ _ (T22.setTop (mkF m 96 #[.val (.long q0), .second, .val (.long q1), .second, .val (.long q2), .second, .val (.long q3), .second, .val (.ref b1), .val (.ref b7), .val (.int (1 : Int32)), .val (.int (1 : Int32)), .val (.long (own_min q2 q3)), .second, .val (.long (own_max q2 q3)), .second, .unset, .unset] [(.int (1 : Int32))]))
      refine own_step (fun _ κ => XS.goto X22.here hx rfl (pc0 := 96) (pc' := 100) rfl (hb hby at_96) (by decide) (by decide) κ) ?_
      show own_Go _ _ _ _ (T22.setTop (mkF m 100 #[.val (.long q0), .second, .val (.long q1), .second, .val (.long q2), .second, .val (.long q3), .second, .val (.ref b1), .val (.ref b7), .val (.int (1 : Int32)), .val (.int (1 : Int32)), .val (.long (own_min q2 q3)), .second, .val (.long (own_max q2 q3)), .second, .unset, .unset] [(.int (1 : Int32))]))
      refine own_step (fun _ κ => XS.istore X22.here hx rfl (hb hby at_100) rfl (l' := #[.val (.long q0), .second, .val (.long q1), .second, .val (.long q2), .second, .val (.long q3), .second, .val (.ref b1), .val (.ref b7), .val (.int (1 : Int32)), .val (.int (1 : Int32)), .val (.long (own_min q2 q3)), .second, .val (.long (own_max q2 q3)), .second, .val (.int (1 : Int32)), .unset]) rfl κ) ?_
      show own_Go _ _ _ _ (T22.setTop (mkF m 102 #[.val (.long q0), .second, .val (.long q1), .second, .val (.long q2), .second, .val (.long q3), .second, .val (.ref b1), .val (.ref b7), .val (.int (1 : Int32)), .val (.int (1 : Int32)), .val (.long (own_min q2 q3)), .second, .val (.long (own_max q2 q3)), .second, .val (.int (1 : Int32)), .unset] []))
      refine own_step (fun _ κ => XS.aload X22.here hx rfl (hb hby at_102) rfl rfl κ) ?_
      show own_Go _ _ _ _ (T22.setTop (mkF m 104 #[.val (.long q0), .second, .val (.long q1), .second, .val (.long q2), .second, .val (.long q3), .second, .val (.ref b1), .val (.ref b7), .val (.int (1 : Int32)), .val (.int (1 : Int32)), .val (.long (own_min q2 q3)), .second, .val (.long (own_max q2 q3)), .second, .val (.int (1 : Int32)), .unset] [(.ref b1)]))
      refine own_step (fun _ κ => XS.lload X22.here hx rfl (hb hby at_104) rfl κ) ?_
      show own_Go _ _ _ _ (T22.setTop (mkF m 106 #[.val (.long q0), .second, .val (.long q1), .second, .val (.long q2), .second, .val (.long q3), .second, .val (.ref b1), .val (.ref b7), .val (.int (1 : Int32)), .val (.int (1 : Int32)), .val (.long (own_min q2 q3)), .second, .val (.long (own_max q2 q3)), .second, .val (.int (1 : Int32)), .unset] [(.long q2), (.ref b1)]))
      obtain ⟨cq24, kq24, q24a, q24b, q24c⟩ := isOf hZ eq22 f14
      obtain ⟨vr24, _, ⟨T24, L24, k24, n24⟩, -, X24, ⟨Lc24, hQ24, l24, y24, z24⟩, st24⟩ := X22.virtualBack hx (y := (⟨"com/example/credit_clerk/creditclerk/service/Lifetime", "hasEnded", "(J)Z"⟩ : MethodName)) (z := (⟨"com/example/credit_clerk/creditclerk/service/Lifetime", "hasEnded", "(J)Z"⟩ : MethodName)) hown (mvT hZ (hw _ (List.mem_of_getElem? (i := 18) rfl))) (mvT hZ (hw _ (List.mem_of_getElem? (i := 19) rfl))) (notFace_of_selects (args := #[]) (mvT hZ (hw _ (List.mem_of_getElem? (i := 21) rfl)))) (mvT hZ (hw _ (List.mem_of_getElem? (i := 21) rfl))) (mvT hZ (hw _ (List.mem_of_getElem? (i := 20) rfl))) (by decide) (backOf (W := 0) (rm3 l Z a0 hw [] b1 q2 q1 T13.heap n0 z17 f15) hZ (hw _ (List.mem_of_getElem? (i := 22) rfl)) (hw _ (List.mem_of_getElem? (i := 2) rfl)) (by decide) (by decide)) q24a q24c (g := (mkF m 106 #[.val (.long q0), .second, .val (.long q1), .second, .val (.long q2), .second, .val (.long q3), .second, .val (.ref b1), .val (.ref b7), .val (.int (1 : Int32)), .val (.int (1 : Int32)), .val (.long (own_min q2 q3)), .second, .val (.long (own_max q2 q3)), .second, .val (.int (1 : Int32)), .unset] [(.long q2), (.ref b1)])) rfl (by rw [hml]; rfl) (Steps.refl _) (argsL := [(.long q2)]) (rest := []) (lenOf pd_2 rfl) rfl (by show 2 * 0 + _ ≤ _; exact Nat.le_of_eq rfl) (hb hby at_106) (fun _ _ => ⟨rfl, eq22, (by decide : 2 + 0 ≤ _), (by decide : 4 + 0 ≤ _)⟩)
      dsimp only [Pt.U, Pt.locs, Pt.cells, Pt.slots] at X24 l24 y24 z24 st24 hQ24
      subst l24 y24 z24
      obtain ⟨hv24, Nq24, eq24⟩ := hQ24
      have N24 := Fr.app N22 Nq24
      by_cases hc25 : q2 < q1
      · rw [if_pos hc25] at hv24
        subst hv24
        refine own_step (fun _ κ => st24.trans κ) ?_
        show own_Go _ _ _ _ (T24.setTop (mkF m 109 #[.val (.long q0), .second, .val (.long q1), .second, .val (.long q2), .second, .val (.long q3), .second, .val (.ref b1), .val (.ref b7), .val (.int (1 : Int32)), .val (.int (1 : Int32)), .val (.long (own_min q2 q3)), .second, .val (.long (own_max q2 q3)), .second, .val (.int (1 : Int32)), .unset] [(.int (0 : Int32))]))
        refine own_step (fun _ κ => XS.aload X24.here hx rfl (hb hby at_109) rfl rfl κ) ?_
        show own_Go _ _ _ _ (T24.setTop (mkF m 111 #[.val (.long q0), .second, .val (.long q1), .second, .val (.long q2), .second, .val (.long q3), .second, .val (.ref b1), .val (.ref b7), .val (.int (1 : Int32)), .val (.int (1 : Int32)), .val (.long (own_min q2 q3)), .second, .val (.long (own_max q2 q3)), .second, .val (.int (1 : Int32)), .unset] [(.ref b7), (.int (0 : Int32))]))
        refine own_step (fun _ κ => XS.lload X24.here hx rfl (hb hby at_111) rfl κ) ?_
        show own_Go _ _ _ _ (T24.setTop (mkF m 113 #[.val (.long q0), .second, .val (.long q1), .second, .val (.long q2), .second, .val (.long q3), .second, .val (.ref b1), .val (.ref b7), .val (.int (1 : Int32)), .val (.int (1 : Int32)), .val (.long (own_min q2 q3)), .second, .val (.long (own_max q2 q3)), .second, .val (.int (1 : Int32)), .unset] [(.long q2), (.ref b7), (.int (0 : Int32))]))
        obtain ⟨cq26, kq26, q26a, q26b, q26c⟩ := isOf hZ eq24 p13_0
        obtain ⟨vr26, _, ⟨T26, L26, k26, n26⟩, -, X26, ⟨Lc26, hQ26, l26, y26, z26⟩, st26⟩ := X24.virtualBack hx (y := (⟨"com/example/credit_clerk/creditclerk/service/Lifetime", "hasEnded", "(J)Z"⟩ : MethodName)) (z := (⟨"com/example/credit_clerk/creditclerk/service/Lifetime", "hasEnded", "(J)Z"⟩ : MethodName)) hown (mvT hZ (hw _ (List.mem_of_getElem? (i := 18) rfl))) (mvT hZ (hw _ (List.mem_of_getElem? (i := 19) rfl))) (notFace_of_selects (args := #[]) (mvT hZ (hw _ (List.mem_of_getElem? (i := 21) rfl)))) (mvT hZ (hw _ (List.mem_of_getElem? (i := 21) rfl))) (mvT hZ (hw _ (List.mem_of_getElem? (i := 20) rfl))) (by decide) (backOf (W := 1) (rm3 l Z a0 hw [] b7 q2 q1 T13.heap n0 z17 p13_1) hZ (hw _ (List.mem_of_getElem? (i := 22) rfl)) (hw _ (List.mem_of_getElem? (i := 2) rfl)) (by decide) (by decide)) q26a q26c (g := (mkF m 113 #[.val (.long q0), .second, .val (.long q1), .second, .val (.long q2), .second, .val (.long q3), .second, .val (.ref b1), .val (.ref b7), .val (.int (1 : Int32)), .val (.int (1 : Int32)), .val (.long (own_min q2 q3)), .second, .val (.long (own_max q2 q3)), .second, .val (.int (1 : Int32)), .unset] [(.long q2), (.ref b7), (.int (0 : Int32))])) rfl (by rw [hml]; rfl) (Steps.refl _) (argsL := [(.long q2)]) (rest := [(.int (0 : Int32))]) (lenOf pd_2 rfl) rfl (by show 2 * 0 + _ ≤ _; exact Nat.le_of_eq rfl) (hb hby at_113) (fun _ _ => ⟨rfl, eq24, (by decide : 2 + 0 ≤ _), (by decide : 4 + 0 ≤ _)⟩)
        dsimp only [Pt.U, Pt.locs, Pt.cells, Pt.slots] at X26 l26 y26 z26 st26 hQ26
        subst l26 y26 z26
        obtain ⟨hv26, Nq26, eq26⟩ := hQ26
        have N26 := Fr.app N24 Nq26
        rw [if_pos hc25] at hv26
        subst hv26
        refine own_step (fun _ κ => st26.trans κ) ?_
        show own_Go _ _ _ _ (T26.setTop (mkF m 116 #[.val (.long q0), .second, .val (.long q1), .second, .val (.long q2), .second, .val (.long q3), .second, .val (.ref b1), .val (.ref b7), .val (.int (1 : Int32)), .val (.int (1 : Int32)), .val (.long (own_min q2 q3)), .second, .val (.long (own_max q2 q3)), .second, .val (.int (1 : Int32)), .unset] [(.int (0 : Int32)), (.int (0 : Int32))]))
        refine own_step (fun _ κ => XS.icmpNo X26.here hx rfl (hb hby at_116) rfl (teq rfl).2 κ) ?_
        show own_Go _ _ _ _ (T26.setTop (mkF m 119 #[.val (.long q0), .second, .val (.long q1), .second, .val (.long q2), .second, .val (.long q3), .second, .val (.ref b1), .val (.ref b7), .val (.int (1 : Int32)), .val (.int (1 : Int32)), .val (.long (own_min q2 q3)), .second, .val (.long (own_max q2 q3)), .second, .val (.int (1 : Int32)), .unset] []))
        refine own_step (fun _ κ => XS.iconst X26.here hx rfl (hb hby at_119) κ) ?_
        show own_Go _ _ _ _ (T26.setTop (mkF m 120 #[.val (.long q0), .second, .val (.long q1), .second, .val (.long q2), .second, .val (.long q3), .second, .val (.ref b1), .val (.ref b7), .val (.int (1 : Int32)), .val (.int (1 : Int32)), .val (.long (own_min q2 q3)), .second, .val (.long (own_max q2 q3)), .second, .val (.int (1 : Int32)), .unset] [(.int (1 : Int32))]))
        refine own_step (fun _ κ => XS.goto X26.here hx rfl (pc0 := 120) (pc' := 124) rfl (hb hby at_120) (by decide) (by decide) κ) ?_
        show own_Go _ _ _ _ (T26.setTop (mkF m 124 #[.val (.long q0), .second, .val (.long q1), .second, .val (.long q2), .second, .val (.long q3), .second, .val (.ref b1), .val (.ref b7), .val (.int (1 : Int32)), .val (.int (1 : Int32)), .val (.long (own_min q2 q3)), .second, .val (.long (own_max q2 q3)), .second, .val (.int (1 : Int32)), .unset] [(.int (1 : Int32))]))
        refine own_step (fun _ κ => XS.istore X26.here hx rfl (hb hby at_124) rfl (l' := #[.val (.long q0), .second, .val (.long q1), .second, .val (.long q2), .second, .val (.long q3), .second, .val (.ref b1), .val (.ref b7), .val (.int (1 : Int32)), .val (.int (1 : Int32)), .val (.long (own_min q2 q3)), .second, .val (.long (own_max q2 q3)), .second, .val (.int (1 : Int32)), .val (.int (1 : Int32))]) rfl κ) ?_
        show own_Go _ _ _ _ (T26.setTop (mkF m 126 #[.val (.long q0), .second, .val (.long q1), .second, .val (.long q2), .second, .val (.long q3), .second, .val (.ref b1), .val (.ref b7), .val (.int (1 : Int32)), .val (.int (1 : Int32)), .val (.long (own_min q2 q3)), .second, .val (.long (own_max q2 q3)), .second, .val (.int (1 : Int32)), .val (.int (1 : Int32))] []))
        refine own_step (fun _ κ => XS.iload X26.here hx rfl (hb hby at_126) rfl κ) ?_
        show own_Go _ _ _ _ (T26.setTop (mkF m 128 #[.val (.long q0), .second, .val (.long q1), .second, .val (.long q2), .second, .val (.long q3), .second, .val (.ref b1), .val (.ref b7), .val (.int (1 : Int32)), .val (.int (1 : Int32)), .val (.long (own_min q2 q3)), .second, .val (.long (own_max q2 q3)), .second, .val (.int (1 : Int32)), .val (.int (1 : Int32))] [(.int (1 : Int32))]))
        refine own_step (fun _ κ => XS.ifNo X26.here hx rfl (hb hby at_128) rfl ((if0 _ _).trans (feq (by decide)).1) κ) ?_
        show own_Go _ _ _ _ (T26.setTop (mkF m 131 #[.val (.long q0), .second, .val (.long q1), .second, .val (.long q2), .second, .val (.long q3), .second, .val (.ref b1), .val (.ref b7), .val (.int (1 : Int32)), .val (.int (1 : Int32)), .val (.long (own_min q2 q3)), .second, .val (.long (own_max q2 q3)), .second, .val (.int (1 : Int32)), .val (.int (1 : Int32))] []))
        refine own_step (fun _ κ => XS.iload X26.here hx rfl (hb hby at_131) rfl κ) ?_
        show own_Go _ _ _ _ (T26.setTop (mkF m 133 #[.val (.long q0), .second, .val (.long q1), .second, .val (.long q2), .second, .val (.long q3), .second, .val (.ref b1), .val (.ref b7), .val (.int (1 : Int32)), .val (.int (1 : Int32)), .val (.long (own_min q2 q3)), .second, .val (.long (own_max q2 q3)), .second, .val (.int (1 : Int32)), .val (.int (1 : Int32))] [(.int (1 : Int32))]))
        refine own_step (fun _ κ => XS.ifNo X26.here hx rfl (hb hby at_133) rfl ((if0 _ _).trans (feq (by decide)).1) κ) ?_
        show own_Go _ _ _ _ (T26.setTop (mkF m 136 #[.val (.long q0), .second, .val (.long q1), .second, .val (.long q2), .second, .val (.long q3), .second, .val (.ref b1), .val (.ref b7), .val (.int (1 : Int32)), .val (.int (1 : Int32)), .val (.long (own_min q2 q3)), .second, .val (.long (own_max q2 q3)), .second, .val (.int (1 : Int32)), .val (.int (1 : Int32))] []))
        refine own_step (fun _ κ => XS.iload X26.here hx rfl (hb hby at_136) rfl κ) ?_
        show own_Go _ _ _ _ (T26.setTop (mkF m 138 #[.val (.long q0), .second, .val (.long q1), .second, .val (.long q2), .second, .val (.long q3), .second, .val (.ref b1), .val (.ref b7), .val (.int (1 : Int32)), .val (.int (1 : Int32)), .val (.long (own_min q2 q3)), .second, .val (.long (own_max q2 q3)), .second, .val (.int (1 : Int32)), .val (.int (1 : Int32))] [(.int (1 : Int32))]))
        refine own_step (fun _ κ => XS.ifNo X26.here hx rfl (hb hby at_138) rfl ((if0 _ _).trans (feq (by decide)).1) κ) ?_
        show own_Go _ _ _ _ (T26.setTop (mkF m 141 #[.val (.long q0), .second, .val (.long q1), .second, .val (.long q2), .second, .val (.long q3), .second, .val (.ref b1), .val (.ref b7), .val (.int (1 : Int32)), .val (.int (1 : Int32)), .val (.long (own_min q2 q3)), .second, .val (.long (own_max q2 q3)), .second, .val (.int (1 : Int32)), .val (.int (1 : Int32))] []))
        refine own_step (fun _ κ => XS.iload X26.here hx rfl (hb hby at_141) rfl κ) ?_
        show own_Go _ _ _ _ (T26.setTop (mkF m 143 #[.val (.long q0), .second, .val (.long q1), .second, .val (.long q2), .second, .val (.long q3), .second, .val (.ref b1), .val (.ref b7), .val (.int (1 : Int32)), .val (.int (1 : Int32)), .val (.long (own_min q2 q3)), .second, .val (.long (own_max q2 q3)), .second, .val (.int (1 : Int32)), .val (.int (1 : Int32))] [(.int (1 : Int32))]))
        refine own_step (fun _ κ => XS.ifNo X26.here hx rfl (hb hby at_143) rfl ((if0 _ _).trans (feq (by decide)).1) κ) ?_
        show own_Go _ _ _ _ (T26.setTop (mkF m 146 #[.val (.long q0), .second, .val (.long q1), .second, .val (.long q2), .second, .val (.long q3), .second, .val (.ref b1), .val (.ref b7), .val (.int (1 : Int32)), .val (.int (1 : Int32)), .val (.long (own_min q2 q3)), .second, .val (.long (own_max q2 q3)), .second, .val (.int (1 : Int32)), .val (.int (1 : Int32))] []))
        refine own_step (fun _ κ => XS.iconst X26.here hx rfl (hb hby at_146) κ) ?_
        show own_Go _ _ _ _ (T26.setTop (mkF m 147 #[.val (.long q0), .second, .val (.long q1), .second, .val (.long q2), .second, .val (.long q3), .second, .val (.ref b1), .val (.ref b7), .val (.int (1 : Int32)), .val (.int (1 : Int32)), .val (.long (own_min q2 q3)), .second, .val (.long (own_max q2 q3)), .second, .val (.int (1 : Int32)), .val (.int (1 : Int32))] [(.int (1 : Int32))]))
        refine own_step (fun _ κ => XS.goto X26.here hx rfl (pc0 := 147) (pc' := 151) rfl (hb hby at_147) (by decide) (by decide) κ) ?_
        show own_Go _ _ _ _ (T26.setTop (mkF m 151 #[.val (.long q0), .second, .val (.long q1), .second, .val (.long q2), .second, .val (.long q3), .second, .val (.ref b1), .val (.ref b7), .val (.int (1 : Int32)), .val (.int (1 : Int32)), .val (.long (own_min q2 q3)), .second, .val (.long (own_max q2 q3)), .second, .val (.int (1 : Int32)), .val (.int (1 : Int32))] [(.int (1 : Int32))]))
        obtain ⟨fs, hr, hrun, hended, hW, hsame⟩ := X26.leave (v := some (.int (1 : Int32))) (fun h => by rw [Bd.returns] at h; cases h)
        refine ⟨_, _, retN X26 hx (t := .boolean) Bd.returns (by simp) (hb hby at_151) hr, hrun, hended, _, _, rfl, ?_, ⟨_, rfl⟩, hW, hsame.mono (by decide) (by decide)⟩
        show Q0 Z q0 q1 q2 q3  h0 n0 _ T26.heap _
        exact ⟨rfl, N26⟩
      · rw [if_neg hc25] at hv24
        subst hv24
        refine own_step (fun _ κ => st24.trans κ) ?_
        show own_Go _ _ _ _ (T24.setTop (mkF m 109 #[.val (.long q0), .second, .val (.long q1), .second, .val (.long q2), .second, .val (.long q3), .second, .val (.ref b1), .val (.ref b7), .val (.int (1 : Int32)), .val (.int (1 : Int32)), .val (.long (own_min q2 q3)), .second, .val (.long (own_max q2 q3)), .second, .val (.int (1 : Int32)), .unset] [(.int (1 : Int32))]))
        refine own_step (fun _ κ => XS.aload X24.here hx rfl (hb hby at_109) rfl rfl κ) ?_
        show own_Go _ _ _ _ (T24.setTop (mkF m 111 #[.val (.long q0), .second, .val (.long q1), .second, .val (.long q2), .second, .val (.long q3), .second, .val (.ref b1), .val (.ref b7), .val (.int (1 : Int32)), .val (.int (1 : Int32)), .val (.long (own_min q2 q3)), .second, .val (.long (own_max q2 q3)), .second, .val (.int (1 : Int32)), .unset] [(.ref b7), (.int (1 : Int32))]))
        refine own_step (fun _ κ => XS.lload X24.here hx rfl (hb hby at_111) rfl κ) ?_
        show own_Go _ _ _ _ (T24.setTop (mkF m 113 #[.val (.long q0), .second, .val (.long q1), .second, .val (.long q2), .second, .val (.long q3), .second, .val (.ref b1), .val (.ref b7), .val (.int (1 : Int32)), .val (.int (1 : Int32)), .val (.long (own_min q2 q3)), .second, .val (.long (own_max q2 q3)), .second, .val (.int (1 : Int32)), .unset] [(.long q2), (.ref b7), (.int (1 : Int32))]))
        obtain ⟨cq27, kq27, q27a, q27b, q27c⟩ := isOf hZ eq24 p13_0
        obtain ⟨vr27, _, ⟨T27, L27, k27, n27⟩, -, X27, ⟨Lc27, hQ27, l27, y27, z27⟩, st27⟩ := X24.virtualBack hx (y := (⟨"com/example/credit_clerk/creditclerk/service/Lifetime", "hasEnded", "(J)Z"⟩ : MethodName)) (z := (⟨"com/example/credit_clerk/creditclerk/service/Lifetime", "hasEnded", "(J)Z"⟩ : MethodName)) hown (mvT hZ (hw _ (List.mem_of_getElem? (i := 18) rfl))) (mvT hZ (hw _ (List.mem_of_getElem? (i := 19) rfl))) (notFace_of_selects (args := #[]) (mvT hZ (hw _ (List.mem_of_getElem? (i := 21) rfl)))) (mvT hZ (hw _ (List.mem_of_getElem? (i := 21) rfl))) (mvT hZ (hw _ (List.mem_of_getElem? (i := 20) rfl))) (by decide) (backOf (W := 1) (rm3 l Z a0 hw [] b7 q2 q1 T13.heap n0 z17 p13_1) hZ (hw _ (List.mem_of_getElem? (i := 22) rfl)) (hw _ (List.mem_of_getElem? (i := 2) rfl)) (by decide) (by decide)) q27a q27c (g := (mkF m 113 #[.val (.long q0), .second, .val (.long q1), .second, .val (.long q2), .second, .val (.long q3), .second, .val (.ref b1), .val (.ref b7), .val (.int (1 : Int32)), .val (.int (1 : Int32)), .val (.long (own_min q2 q3)), .second, .val (.long (own_max q2 q3)), .second, .val (.int (1 : Int32)), .unset] [(.long q2), (.ref b7), (.int (1 : Int32))])) rfl (by rw [hml]; rfl) (Steps.refl _) (argsL := [(.long q2)]) (rest := [(.int (1 : Int32))]) (lenOf pd_2 rfl) rfl (by show 2 * 0 + _ ≤ _; exact Nat.le_of_eq rfl) (hb hby at_113) (fun _ _ => ⟨rfl, eq24, (by decide : 2 + 0 ≤ _), (by decide : 4 + 0 ≤ _)⟩)
        dsimp only [Pt.U, Pt.locs, Pt.cells, Pt.slots] at X27 l27 y27 z27 st27 hQ27
        subst l27 y27 z27
        obtain ⟨hv27, Nq27, eq27⟩ := hQ27
        have N27 := Fr.app N24 Nq27
        rw [if_neg hc25] at hv27
        subst hv27
        refine own_step (fun _ κ => st27.trans κ) ?_
        show own_Go _ _ _ _ (T27.setTop (mkF m 116 #[.val (.long q0), .second, .val (.long q1), .second, .val (.long q2), .second, .val (.long q3), .second, .val (.ref b1), .val (.ref b7), .val (.int (1 : Int32)), .val (.int (1 : Int32)), .val (.long (own_min q2 q3)), .second, .val (.long (own_max q2 q3)), .second, .val (.int (1 : Int32)), .unset] [(.int (1 : Int32)), (.int (1 : Int32))]))
        refine own_step (fun _ κ => XS.icmpNo X27.here hx rfl (hb hby at_116) rfl (teq rfl).2 κ) ?_
        show own_Go _ _ _ _ (T27.setTop (mkF m 119 #[.val (.long q0), .second, .val (.long q1), .second, .val (.long q2), .second, .val (.long q3), .second, .val (.ref b1), .val (.ref b7), .val (.int (1 : Int32)), .val (.int (1 : Int32)), .val (.long (own_min q2 q3)), .second, .val (.long (own_max q2 q3)), .second, .val (.int (1 : Int32)), .unset] []))
        refine own_step (fun _ κ => XS.iconst X27.here hx rfl (hb hby at_119) κ) ?_
        show own_Go _ _ _ _ (T27.setTop (mkF m 120 #[.val (.long q0), .second, .val (.long q1), .second, .val (.long q2), .second, .val (.long q3), .second, .val (.ref b1), .val (.ref b7), .val (.int (1 : Int32)), .val (.int (1 : Int32)), .val (.long (own_min q2 q3)), .second, .val (.long (own_max q2 q3)), .second, .val (.int (1 : Int32)), .unset] [(.int (1 : Int32))]))
        refine own_step (fun _ κ => XS.goto X27.here hx rfl (pc0 := 120) (pc' := 124) rfl (hb hby at_120) (by decide) (by decide) κ) ?_
        show own_Go _ _ _ _ (T27.setTop (mkF m 124 #[.val (.long q0), .second, .val (.long q1), .second, .val (.long q2), .second, .val (.long q3), .second, .val (.ref b1), .val (.ref b7), .val (.int (1 : Int32)), .val (.int (1 : Int32)), .val (.long (own_min q2 q3)), .second, .val (.long (own_max q2 q3)), .second, .val (.int (1 : Int32)), .unset] [(.int (1 : Int32))]))
        refine own_step (fun _ κ => XS.istore X27.here hx rfl (hb hby at_124) rfl (l' := #[.val (.long q0), .second, .val (.long q1), .second, .val (.long q2), .second, .val (.long q3), .second, .val (.ref b1), .val (.ref b7), .val (.int (1 : Int32)), .val (.int (1 : Int32)), .val (.long (own_min q2 q3)), .second, .val (.long (own_max q2 q3)), .second, .val (.int (1 : Int32)), .val (.int (1 : Int32))]) rfl κ) ?_
        show own_Go _ _ _ _ (T27.setTop (mkF m 126 #[.val (.long q0), .second, .val (.long q1), .second, .val (.long q2), .second, .val (.long q3), .second, .val (.ref b1), .val (.ref b7), .val (.int (1 : Int32)), .val (.int (1 : Int32)), .val (.long (own_min q2 q3)), .second, .val (.long (own_max q2 q3)), .second, .val (.int (1 : Int32)), .val (.int (1 : Int32))] []))
        refine own_step (fun _ κ => XS.iload X27.here hx rfl (hb hby at_126) rfl κ) ?_
        show own_Go _ _ _ _ (T27.setTop (mkF m 128 #[.val (.long q0), .second, .val (.long q1), .second, .val (.long q2), .second, .val (.long q3), .second, .val (.ref b1), .val (.ref b7), .val (.int (1 : Int32)), .val (.int (1 : Int32)), .val (.long (own_min q2 q3)), .second, .val (.long (own_max q2 q3)), .second, .val (.int (1 : Int32)), .val (.int (1 : Int32))] [(.int (1 : Int32))]))
        refine own_step (fun _ κ => XS.ifNo X27.here hx rfl (hb hby at_128) rfl ((if0 _ _).trans (feq (by decide)).1) κ) ?_
        show own_Go _ _ _ _ (T27.setTop (mkF m 131 #[.val (.long q0), .second, .val (.long q1), .second, .val (.long q2), .second, .val (.long q3), .second, .val (.ref b1), .val (.ref b7), .val (.int (1 : Int32)), .val (.int (1 : Int32)), .val (.long (own_min q2 q3)), .second, .val (.long (own_max q2 q3)), .second, .val (.int (1 : Int32)), .val (.int (1 : Int32))] []))
        refine own_step (fun _ κ => XS.iload X27.here hx rfl (hb hby at_131) rfl κ) ?_
        show own_Go _ _ _ _ (T27.setTop (mkF m 133 #[.val (.long q0), .second, .val (.long q1), .second, .val (.long q2), .second, .val (.long q3), .second, .val (.ref b1), .val (.ref b7), .val (.int (1 : Int32)), .val (.int (1 : Int32)), .val (.long (own_min q2 q3)), .second, .val (.long (own_max q2 q3)), .second, .val (.int (1 : Int32)), .val (.int (1 : Int32))] [(.int (1 : Int32))]))
        refine own_step (fun _ κ => XS.ifNo X27.here hx rfl (hb hby at_133) rfl ((if0 _ _).trans (feq (by decide)).1) κ) ?_
        show own_Go _ _ _ _ (T27.setTop (mkF m 136 #[.val (.long q0), .second, .val (.long q1), .second, .val (.long q2), .second, .val (.long q3), .second, .val (.ref b1), .val (.ref b7), .val (.int (1 : Int32)), .val (.int (1 : Int32)), .val (.long (own_min q2 q3)), .second, .val (.long (own_max q2 q3)), .second, .val (.int (1 : Int32)), .val (.int (1 : Int32))] []))
        refine own_step (fun _ κ => XS.iload X27.here hx rfl (hb hby at_136) rfl κ) ?_
        show own_Go _ _ _ _ (T27.setTop (mkF m 138 #[.val (.long q0), .second, .val (.long q1), .second, .val (.long q2), .second, .val (.long q3), .second, .val (.ref b1), .val (.ref b7), .val (.int (1 : Int32)), .val (.int (1 : Int32)), .val (.long (own_min q2 q3)), .second, .val (.long (own_max q2 q3)), .second, .val (.int (1 : Int32)), .val (.int (1 : Int32))] [(.int (1 : Int32))]))
        refine own_step (fun _ κ => XS.ifNo X27.here hx rfl (hb hby at_138) rfl ((if0 _ _).trans (feq (by decide)).1) κ) ?_
        show own_Go _ _ _ _ (T27.setTop (mkF m 141 #[.val (.long q0), .second, .val (.long q1), .second, .val (.long q2), .second, .val (.long q3), .second, .val (.ref b1), .val (.ref b7), .val (.int (1 : Int32)), .val (.int (1 : Int32)), .val (.long (own_min q2 q3)), .second, .val (.long (own_max q2 q3)), .second, .val (.int (1 : Int32)), .val (.int (1 : Int32))] []))
        refine own_step (fun _ κ => XS.iload X27.here hx rfl (hb hby at_141) rfl κ) ?_
        show own_Go _ _ _ _ (T27.setTop (mkF m 143 #[.val (.long q0), .second, .val (.long q1), .second, .val (.long q2), .second, .val (.long q3), .second, .val (.ref b1), .val (.ref b7), .val (.int (1 : Int32)), .val (.int (1 : Int32)), .val (.long (own_min q2 q3)), .second, .val (.long (own_max q2 q3)), .second, .val (.int (1 : Int32)), .val (.int (1 : Int32))] [(.int (1 : Int32))]))
        refine own_step (fun _ κ => XS.ifNo X27.here hx rfl (hb hby at_143) rfl ((if0 _ _).trans (feq (by decide)).1) κ) ?_
        show own_Go _ _ _ _ (T27.setTop (mkF m 146 #[.val (.long q0), .second, .val (.long q1), .second, .val (.long q2), .second, .val (.long q3), .second, .val (.ref b1), .val (.ref b7), .val (.int (1 : Int32)), .val (.int (1 : Int32)), .val (.long (own_min q2 q3)), .second, .val (.long (own_max q2 q3)), .second, .val (.int (1 : Int32)), .val (.int (1 : Int32))] []))
        refine own_step (fun _ κ => XS.iconst X27.here hx rfl (hb hby at_146) κ) ?_
        show own_Go _ _ _ _ (T27.setTop (mkF m 147 #[.val (.long q0), .second, .val (.long q1), .second, .val (.long q2), .second, .val (.long q3), .second, .val (.ref b1), .val (.ref b7), .val (.int (1 : Int32)), .val (.int (1 : Int32)), .val (.long (own_min q2 q3)), .second, .val (.long (own_max q2 q3)), .second, .val (.int (1 : Int32)), .val (.int (1 : Int32))] [(.int (1 : Int32))]))
        refine own_step (fun _ κ => XS.goto X27.here hx rfl (pc0 := 147) (pc' := 151) rfl (hb hby at_147) (by decide) (by decide) κ) ?_
        show own_Go _ _ _ _ (T27.setTop (mkF m 151 #[.val (.long q0), .second, .val (.long q1), .second, .val (.long q2), .second, .val (.long q3), .second, .val (.ref b1), .val (.ref b7), .val (.int (1 : Int32)), .val (.int (1 : Int32)), .val (.long (own_min q2 q3)), .second, .val (.long (own_max q2 q3)), .second, .val (.int (1 : Int32)), .val (.int (1 : Int32))] [(.int (1 : Int32))]))
        obtain ⟨fs, hr, hrun, hended, hW, hsame⟩ := X27.leave (v := some (.int (1 : Int32))) (fun h => by rw [Bd.returns] at h; cases h)
        refine ⟨_, _, retN X27 hx (t := .boolean) Bd.returns (by simp) (hb hby at_151) hr, hrun, hended, _, _, rfl, ?_, ⟨_, rfl⟩, hW, hsame.mono (by decide) (by decide)⟩
        show Q0 Z q0 q1 q2 q3  h0 n0 _ T27.heap _
        exact ⟨rfl, N27⟩
    · rw [if_neg hc23] at hv22
      subst hv22
      refine own_step (fun _ κ => st22.trans κ) ?_
      show own_Go _ _ _ _ (T22.setTop (mkF m 82 #[.val (.long q0), .second, .val (.long q1), .second, .val (.long q2), .second, .val (.long q3), .second, .val (.ref b1), .val (.ref b7), .val (.int (1 : Int32)), .val (.int (1 : Int32)), .val (.long (own_min q2 q3)), .second, .val (.long (own_max q2 q3)), .second, .unset, .unset] [(.int (1 : Int32))]))
      refine own_step (fun _ κ => XS.ifNo X22.here hx rfl (hb hby at_82) rfl ((if0 _ _).trans (feq (by decide)).1) κ) ?_
      show own_Go _ _ _ _ (T22.setTop (mkF m 85 #[.val (.long q0), .second, .val (.long q1), .second, .val (.long q2), .second, .val (.long q3), .second, .val (.ref b1), .val (.ref b7), .val (.int (1 : Int32)), .val (.int (1 : Int32)), .val (.long (own_min q2 q3)), .second, .val (.long (own_max q2 q3)), .second, .unset, .unset] []))
      refine own_step (fun _ κ => XS.aload X22.here hx rfl (hb hby at_85) rfl rfl κ) ?_
      show own_Go _ _ _ _ (T22.setTop (mkF m 87 #[.val (.long q0), .second, .val (.long q1), .second, .val (.long q2), .second, .val (.long q3), .second, .val (.ref b1), .val (.ref b7), .val (.int (1 : Int32)), .val (.int (1 : Int32)), .val (.long (own_min q2 q3)), .second, .val (.long (own_max q2 q3)), .second, .unset, .unset] [(.ref b1)]))
      refine own_step (fun _ κ => XS.lload X22.here hx rfl (hb hby at_87) rfl κ) ?_
      show own_Go _ _ _ _ (T22.setTop (mkF m 89 #[.val (.long q0), .second, .val (.long q1), .second, .val (.long q2), .second, .val (.long q3), .second, .val (.ref b1), .val (.ref b7), .val (.int (1 : Int32)), .val (.int (1 : Int32)), .val (.long (own_min q2 q3)), .second, .val (.long (own_max q2 q3)), .second, .unset, .unset] [(.long (own_max q2 q3)), (.ref b1)]))
      obtain ⟨cq28, kq28, q28a, q28b, q28c⟩ := isOf hZ eq22 f14
      obtain ⟨vr28, _, ⟨T28, L28, k28, n28⟩, -, X28, ⟨Lc28, hQ28, l28, y28, z28⟩, st28⟩ := X22.virtualBack hx (y := (⟨"com/example/credit_clerk/creditclerk/service/Lifetime", "hasEnded", "(J)Z"⟩ : MethodName)) (z := (⟨"com/example/credit_clerk/creditclerk/service/Lifetime", "hasEnded", "(J)Z"⟩ : MethodName)) hown (mvT hZ (hw _ (List.mem_of_getElem? (i := 18) rfl))) (mvT hZ (hw _ (List.mem_of_getElem? (i := 19) rfl))) (notFace_of_selects (args := #[]) (mvT hZ (hw _ (List.mem_of_getElem? (i := 21) rfl)))) (mvT hZ (hw _ (List.mem_of_getElem? (i := 21) rfl))) (mvT hZ (hw _ (List.mem_of_getElem? (i := 20) rfl))) (by decide) (backOf (W := 0) (rm3 l Z a0 hw [] b1 (own_max q2 q3) q1 T13.heap n0 z17 f15) hZ (hw _ (List.mem_of_getElem? (i := 22) rfl)) (hw _ (List.mem_of_getElem? (i := 2) rfl)) (by decide) (by decide)) q28a q28c (g := (mkF m 89 #[.val (.long q0), .second, .val (.long q1), .second, .val (.long q2), .second, .val (.long q3), .second, .val (.ref b1), .val (.ref b7), .val (.int (1 : Int32)), .val (.int (1 : Int32)), .val (.long (own_min q2 q3)), .second, .val (.long (own_max q2 q3)), .second, .unset, .unset] [(.long (own_max q2 q3)), (.ref b1)])) rfl (by rw [hml]; rfl) (Steps.refl _) (argsL := [(.long (own_max q2 q3))]) (rest := []) (lenOf pd_2 rfl) rfl (by show 2 * 0 + _ ≤ _; exact Nat.le_of_eq rfl) (hb hby at_89) (fun _ _ => ⟨rfl, eq22, (by decide : 2 + 0 ≤ _), (by decide : 4 + 0 ≤ _)⟩)
      dsimp only [Pt.U, Pt.locs, Pt.cells, Pt.slots] at X28 l28 y28 z28 st28 hQ28
      subst l28 y28 z28
      obtain ⟨hv28, Nq28, eq28⟩ := hQ28
      have N28 := Fr.app N22 Nq28
      rw [if_neg (own_mono hc23)] at hv28
      subst hv28
      refine own_step (fun _ κ => st28.trans κ) ?_
      show own_Go _ _ _ _ (T28.setTop (mkF m 92 #[.val (.long q0), .second, .val (.long q1), .second, .val (.long q2), .second, .val (.long q3), .second, .val (.ref b1), .val (.ref b7), .val (.int (1 : Int32)), .val (.int (1 : Int32)), .val (.long (own_min q2 q3)), .second, .val (.long (own_max q2 q3)), .second, .unset, .unset] [(.int (1 : Int32))]))
      refine own_step (fun _ κ => XS.ifNo X28.here hx rfl (hb hby at_92) rfl ((if0 _ _).trans (feq (by decide)).1) κ) ?_
      show own_Go _ _ _ _ (T28.setTop (mkF m 95 #[.val (.long q0), .second, .val (.long q1), .second, .val (.long q2), .second, .val (.long q3), .second, .val (.ref b1), .val (.ref b7), .val (.int (1 : Int32)), .val (.int (1 : Int32)), .val (.long (own_min q2 q3)), .second, .val (.long (own_max q2 q3)), .second, .unset, .unset] []))
      refine own_step (fun _ κ => XS.iconst X28.here hx rfl (hb hby at_95) κ) ?_
      show own_Go _ _ _ _ (T28.setTop (mkF m 96 #[.val (.long q0), .second, .val (.long q1), .second, .val (.long q2), .second, .val (.long q3), .second, .val (.ref b1), .val (.ref b7), .val (.int (1 : Int32)), .val (.int (1 : Int32)), .val (.long (own_min q2 q3)), .second, .val (.long (own_max q2 q3)), .second, .unset, .unset] [(.int (1 : Int32))]))
      refine own_step (fun _ κ => XS.goto X28.here hx rfl (pc0 := 96) (pc' := 100) rfl (hb hby at_96) (by decide) (by decide) κ) ?_
      show own_Go _ _ _ _ (T28.setTop (mkF m 100 #[.val (.long q0), .second, .val (.long q1), .second, .val (.long q2), .second, .val (.long q3), .second, .val (.ref b1), .val (.ref b7), .val (.int (1 : Int32)), .val (.int (1 : Int32)), .val (.long (own_min q2 q3)), .second, .val (.long (own_max q2 q3)), .second, .unset, .unset] [(.int (1 : Int32))]))
      refine own_step (fun _ κ => XS.istore X28.here hx rfl (hb hby at_100) rfl (l' := #[.val (.long q0), .second, .val (.long q1), .second, .val (.long q2), .second, .val (.long q3), .second, .val (.ref b1), .val (.ref b7), .val (.int (1 : Int32)), .val (.int (1 : Int32)), .val (.long (own_min q2 q3)), .second, .val (.long (own_max q2 q3)), .second, .val (.int (1 : Int32)), .unset]) rfl κ) ?_
      show own_Go _ _ _ _ (T28.setTop (mkF m 102 #[.val (.long q0), .second, .val (.long q1), .second, .val (.long q2), .second, .val (.long q3), .second, .val (.ref b1), .val (.ref b7), .val (.int (1 : Int32)), .val (.int (1 : Int32)), .val (.long (own_min q2 q3)), .second, .val (.long (own_max q2 q3)), .second, .val (.int (1 : Int32)), .unset] []))
      refine own_step (fun _ κ => XS.aload X28.here hx rfl (hb hby at_102) rfl rfl κ) ?_
      show own_Go _ _ _ _ (T28.setTop (mkF m 104 #[.val (.long q0), .second, .val (.long q1), .second, .val (.long q2), .second, .val (.long q3), .second, .val (.ref b1), .val (.ref b7), .val (.int (1 : Int32)), .val (.int (1 : Int32)), .val (.long (own_min q2 q3)), .second, .val (.long (own_max q2 q3)), .second, .val (.int (1 : Int32)), .unset] [(.ref b1)]))
      refine own_step (fun _ κ => XS.lload X28.here hx rfl (hb hby at_104) rfl κ) ?_
      show own_Go _ _ _ _ (T28.setTop (mkF m 106 #[.val (.long q0), .second, .val (.long q1), .second, .val (.long q2), .second, .val (.long q3), .second, .val (.ref b1), .val (.ref b7), .val (.int (1 : Int32)), .val (.int (1 : Int32)), .val (.long (own_min q2 q3)), .second, .val (.long (own_max q2 q3)), .second, .val (.int (1 : Int32)), .unset] [(.long q2), (.ref b1)]))
      obtain ⟨cq29, kq29, q29a, q29b, q29c⟩ := isOf hZ eq28 f14
      obtain ⟨vr29, _, ⟨T29, L29, k29, n29⟩, -, X29, ⟨Lc29, hQ29, l29, y29, z29⟩, st29⟩ := X28.virtualBack hx (y := (⟨"com/example/credit_clerk/creditclerk/service/Lifetime", "hasEnded", "(J)Z"⟩ : MethodName)) (z := (⟨"com/example/credit_clerk/creditclerk/service/Lifetime", "hasEnded", "(J)Z"⟩ : MethodName)) hown (mvT hZ (hw _ (List.mem_of_getElem? (i := 18) rfl))) (mvT hZ (hw _ (List.mem_of_getElem? (i := 19) rfl))) (notFace_of_selects (args := #[]) (mvT hZ (hw _ (List.mem_of_getElem? (i := 21) rfl)))) (mvT hZ (hw _ (List.mem_of_getElem? (i := 21) rfl))) (mvT hZ (hw _ (List.mem_of_getElem? (i := 20) rfl))) (by decide) (backOf (W := 0) (rm3 l Z a0 hw [] b1 q2 q1 T13.heap n0 z17 f15) hZ (hw _ (List.mem_of_getElem? (i := 22) rfl)) (hw _ (List.mem_of_getElem? (i := 2) rfl)) (by decide) (by decide)) q29a q29c (g := (mkF m 106 #[.val (.long q0), .second, .val (.long q1), .second, .val (.long q2), .second, .val (.long q3), .second, .val (.ref b1), .val (.ref b7), .val (.int (1 : Int32)), .val (.int (1 : Int32)), .val (.long (own_min q2 q3)), .second, .val (.long (own_max q2 q3)), .second, .val (.int (1 : Int32)), .unset] [(.long q2), (.ref b1)])) rfl (by rw [hml]; rfl) (Steps.refl _) (argsL := [(.long q2)]) (rest := []) (lenOf pd_2 rfl) rfl (by show 2 * 0 + _ ≤ _; exact Nat.le_of_eq rfl) (hb hby at_106) (fun _ _ => ⟨rfl, eq28, (by decide : 2 + 0 ≤ _), (by decide : 4 + 0 ≤ _)⟩)
      dsimp only [Pt.U, Pt.locs, Pt.cells, Pt.slots] at X29 l29 y29 z29 st29 hQ29
      subst l29 y29 z29
      obtain ⟨hv29, Nq29, eq29⟩ := hQ29
      have N29 := Fr.app N28 Nq29
      by_cases hc30 : q2 < q1
      · rw [if_pos hc30] at hv29
        subst hv29
        refine own_step (fun _ κ => st29.trans κ) ?_
        show own_Go _ _ _ _ (T29.setTop (mkF m 109 #[.val (.long q0), .second, .val (.long q1), .second, .val (.long q2), .second, .val (.long q3), .second, .val (.ref b1), .val (.ref b7), .val (.int (1 : Int32)), .val (.int (1 : Int32)), .val (.long (own_min q2 q3)), .second, .val (.long (own_max q2 q3)), .second, .val (.int (1 : Int32)), .unset] [(.int (0 : Int32))]))
        refine own_step (fun _ κ => XS.aload X29.here hx rfl (hb hby at_109) rfl rfl κ) ?_
        show own_Go _ _ _ _ (T29.setTop (mkF m 111 #[.val (.long q0), .second, .val (.long q1), .second, .val (.long q2), .second, .val (.long q3), .second, .val (.ref b1), .val (.ref b7), .val (.int (1 : Int32)), .val (.int (1 : Int32)), .val (.long (own_min q2 q3)), .second, .val (.long (own_max q2 q3)), .second, .val (.int (1 : Int32)), .unset] [(.ref b7), (.int (0 : Int32))]))
        refine own_step (fun _ κ => XS.lload X29.here hx rfl (hb hby at_111) rfl κ) ?_
        show own_Go _ _ _ _ (T29.setTop (mkF m 113 #[.val (.long q0), .second, .val (.long q1), .second, .val (.long q2), .second, .val (.long q3), .second, .val (.ref b1), .val (.ref b7), .val (.int (1 : Int32)), .val (.int (1 : Int32)), .val (.long (own_min q2 q3)), .second, .val (.long (own_max q2 q3)), .second, .val (.int (1 : Int32)), .unset] [(.long q2), (.ref b7), (.int (0 : Int32))]))
        obtain ⟨cq31, kq31, q31a, q31b, q31c⟩ := isOf hZ eq29 p13_0
        obtain ⟨vr31, _, ⟨T31, L31, k31, n31⟩, -, X31, ⟨Lc31, hQ31, l31, y31, z31⟩, st31⟩ := X29.virtualBack hx (y := (⟨"com/example/credit_clerk/creditclerk/service/Lifetime", "hasEnded", "(J)Z"⟩ : MethodName)) (z := (⟨"com/example/credit_clerk/creditclerk/service/Lifetime", "hasEnded", "(J)Z"⟩ : MethodName)) hown (mvT hZ (hw _ (List.mem_of_getElem? (i := 18) rfl))) (mvT hZ (hw _ (List.mem_of_getElem? (i := 19) rfl))) (notFace_of_selects (args := #[]) (mvT hZ (hw _ (List.mem_of_getElem? (i := 21) rfl)))) (mvT hZ (hw _ (List.mem_of_getElem? (i := 21) rfl))) (mvT hZ (hw _ (List.mem_of_getElem? (i := 20) rfl))) (by decide) (backOf (W := 1) (rm3 l Z a0 hw [] b7 q2 q1 T13.heap n0 z17 p13_1) hZ (hw _ (List.mem_of_getElem? (i := 22) rfl)) (hw _ (List.mem_of_getElem? (i := 2) rfl)) (by decide) (by decide)) q31a q31c (g := (mkF m 113 #[.val (.long q0), .second, .val (.long q1), .second, .val (.long q2), .second, .val (.long q3), .second, .val (.ref b1), .val (.ref b7), .val (.int (1 : Int32)), .val (.int (1 : Int32)), .val (.long (own_min q2 q3)), .second, .val (.long (own_max q2 q3)), .second, .val (.int (1 : Int32)), .unset] [(.long q2), (.ref b7), (.int (0 : Int32))])) rfl (by rw [hml]; rfl) (Steps.refl _) (argsL := [(.long q2)]) (rest := [(.int (0 : Int32))]) (lenOf pd_2 rfl) rfl (by show 2 * 0 + _ ≤ _; exact Nat.le_of_eq rfl) (hb hby at_113) (fun _ _ => ⟨rfl, eq29, (by decide : 2 + 0 ≤ _), (by decide : 4 + 0 ≤ _)⟩)
        dsimp only [Pt.U, Pt.locs, Pt.cells, Pt.slots] at X31 l31 y31 z31 st31 hQ31
        subst l31 y31 z31
        obtain ⟨hv31, Nq31, eq31⟩ := hQ31
        have N31 := Fr.app N29 Nq31
        rw [if_pos hc30] at hv31
        subst hv31
        refine own_step (fun _ κ => st31.trans κ) ?_
        show own_Go _ _ _ _ (T31.setTop (mkF m 116 #[.val (.long q0), .second, .val (.long q1), .second, .val (.long q2), .second, .val (.long q3), .second, .val (.ref b1), .val (.ref b7), .val (.int (1 : Int32)), .val (.int (1 : Int32)), .val (.long (own_min q2 q3)), .second, .val (.long (own_max q2 q3)), .second, .val (.int (1 : Int32)), .unset] [(.int (0 : Int32)), (.int (0 : Int32))]))
        refine own_step (fun _ κ => XS.icmpNo X31.here hx rfl (hb hby at_116) rfl (teq rfl).2 κ) ?_
        show own_Go _ _ _ _ (T31.setTop (mkF m 119 #[.val (.long q0), .second, .val (.long q1), .second, .val (.long q2), .second, .val (.long q3), .second, .val (.ref b1), .val (.ref b7), .val (.int (1 : Int32)), .val (.int (1 : Int32)), .val (.long (own_min q2 q3)), .second, .val (.long (own_max q2 q3)), .second, .val (.int (1 : Int32)), .unset] []))
        refine own_step (fun _ κ => XS.iconst X31.here hx rfl (hb hby at_119) κ) ?_
        show own_Go _ _ _ _ (T31.setTop (mkF m 120 #[.val (.long q0), .second, .val (.long q1), .second, .val (.long q2), .second, .val (.long q3), .second, .val (.ref b1), .val (.ref b7), .val (.int (1 : Int32)), .val (.int (1 : Int32)), .val (.long (own_min q2 q3)), .second, .val (.long (own_max q2 q3)), .second, .val (.int (1 : Int32)), .unset] [(.int (1 : Int32))]))
        refine own_step (fun _ κ => XS.goto X31.here hx rfl (pc0 := 120) (pc' := 124) rfl (hb hby at_120) (by decide) (by decide) κ) ?_
        show own_Go _ _ _ _ (T31.setTop (mkF m 124 #[.val (.long q0), .second, .val (.long q1), .second, .val (.long q2), .second, .val (.long q3), .second, .val (.ref b1), .val (.ref b7), .val (.int (1 : Int32)), .val (.int (1 : Int32)), .val (.long (own_min q2 q3)), .second, .val (.long (own_max q2 q3)), .second, .val (.int (1 : Int32)), .unset] [(.int (1 : Int32))]))
        refine own_step (fun _ κ => XS.istore X31.here hx rfl (hb hby at_124) rfl (l' := #[.val (.long q0), .second, .val (.long q1), .second, .val (.long q2), .second, .val (.long q3), .second, .val (.ref b1), .val (.ref b7), .val (.int (1 : Int32)), .val (.int (1 : Int32)), .val (.long (own_min q2 q3)), .second, .val (.long (own_max q2 q3)), .second, .val (.int (1 : Int32)), .val (.int (1 : Int32))]) rfl κ) ?_
        show own_Go _ _ _ _ (T31.setTop (mkF m 126 #[.val (.long q0), .second, .val (.long q1), .second, .val (.long q2), .second, .val (.long q3), .second, .val (.ref b1), .val (.ref b7), .val (.int (1 : Int32)), .val (.int (1 : Int32)), .val (.long (own_min q2 q3)), .second, .val (.long (own_max q2 q3)), .second, .val (.int (1 : Int32)), .val (.int (1 : Int32))] []))
        refine own_step (fun _ κ => XS.iload X31.here hx rfl (hb hby at_126) rfl κ) ?_
        show own_Go _ _ _ _ (T31.setTop (mkF m 128 #[.val (.long q0), .second, .val (.long q1), .second, .val (.long q2), .second, .val (.long q3), .second, .val (.ref b1), .val (.ref b7), .val (.int (1 : Int32)), .val (.int (1 : Int32)), .val (.long (own_min q2 q3)), .second, .val (.long (own_max q2 q3)), .second, .val (.int (1 : Int32)), .val (.int (1 : Int32))] [(.int (1 : Int32))]))
        refine own_step (fun _ κ => XS.ifNo X31.here hx rfl (hb hby at_128) rfl ((if0 _ _).trans (feq (by decide)).1) κ) ?_
        show own_Go _ _ _ _ (T31.setTop (mkF m 131 #[.val (.long q0), .second, .val (.long q1), .second, .val (.long q2), .second, .val (.long q3), .second, .val (.ref b1), .val (.ref b7), .val (.int (1 : Int32)), .val (.int (1 : Int32)), .val (.long (own_min q2 q3)), .second, .val (.long (own_max q2 q3)), .second, .val (.int (1 : Int32)), .val (.int (1 : Int32))] []))
        refine own_step (fun _ κ => XS.iload X31.here hx rfl (hb hby at_131) rfl κ) ?_
        show own_Go _ _ _ _ (T31.setTop (mkF m 133 #[.val (.long q0), .second, .val (.long q1), .second, .val (.long q2), .second, .val (.long q3), .second, .val (.ref b1), .val (.ref b7), .val (.int (1 : Int32)), .val (.int (1 : Int32)), .val (.long (own_min q2 q3)), .second, .val (.long (own_max q2 q3)), .second, .val (.int (1 : Int32)), .val (.int (1 : Int32))] [(.int (1 : Int32))]))
        refine own_step (fun _ κ => XS.ifNo X31.here hx rfl (hb hby at_133) rfl ((if0 _ _).trans (feq (by decide)).1) κ) ?_
        show own_Go _ _ _ _ (T31.setTop (mkF m 136 #[.val (.long q0), .second, .val (.long q1), .second, .val (.long q2), .second, .val (.long q3), .second, .val (.ref b1), .val (.ref b7), .val (.int (1 : Int32)), .val (.int (1 : Int32)), .val (.long (own_min q2 q3)), .second, .val (.long (own_max q2 q3)), .second, .val (.int (1 : Int32)), .val (.int (1 : Int32))] []))
        refine own_step (fun _ κ => XS.iload X31.here hx rfl (hb hby at_136) rfl κ) ?_
        show own_Go _ _ _ _ (T31.setTop (mkF m 138 #[.val (.long q0), .second, .val (.long q1), .second, .val (.long q2), .second, .val (.long q3), .second, .val (.ref b1), .val (.ref b7), .val (.int (1 : Int32)), .val (.int (1 : Int32)), .val (.long (own_min q2 q3)), .second, .val (.long (own_max q2 q3)), .second, .val (.int (1 : Int32)), .val (.int (1 : Int32))] [(.int (1 : Int32))]))
        refine own_step (fun _ κ => XS.ifNo X31.here hx rfl (hb hby at_138) rfl ((if0 _ _).trans (feq (by decide)).1) κ) ?_
        show own_Go _ _ _ _ (T31.setTop (mkF m 141 #[.val (.long q0), .second, .val (.long q1), .second, .val (.long q2), .second, .val (.long q3), .second, .val (.ref b1), .val (.ref b7), .val (.int (1 : Int32)), .val (.int (1 : Int32)), .val (.long (own_min q2 q3)), .second, .val (.long (own_max q2 q3)), .second, .val (.int (1 : Int32)), .val (.int (1 : Int32))] []))
        refine own_step (fun _ κ => XS.iload X31.here hx rfl (hb hby at_141) rfl κ) ?_
        show own_Go _ _ _ _ (T31.setTop (mkF m 143 #[.val (.long q0), .second, .val (.long q1), .second, .val (.long q2), .second, .val (.long q3), .second, .val (.ref b1), .val (.ref b7), .val (.int (1 : Int32)), .val (.int (1 : Int32)), .val (.long (own_min q2 q3)), .second, .val (.long (own_max q2 q3)), .second, .val (.int (1 : Int32)), .val (.int (1 : Int32))] [(.int (1 : Int32))]))
        refine own_step (fun _ κ => XS.ifNo X31.here hx rfl (hb hby at_143) rfl ((if0 _ _).trans (feq (by decide)).1) κ) ?_
        show own_Go _ _ _ _ (T31.setTop (mkF m 146 #[.val (.long q0), .second, .val (.long q1), .second, .val (.long q2), .second, .val (.long q3), .second, .val (.ref b1), .val (.ref b7), .val (.int (1 : Int32)), .val (.int (1 : Int32)), .val (.long (own_min q2 q3)), .second, .val (.long (own_max q2 q3)), .second, .val (.int (1 : Int32)), .val (.int (1 : Int32))] []))
        refine own_step (fun _ κ => XS.iconst X31.here hx rfl (hb hby at_146) κ) ?_
        show own_Go _ _ _ _ (T31.setTop (mkF m 147 #[.val (.long q0), .second, .val (.long q1), .second, .val (.long q2), .second, .val (.long q3), .second, .val (.ref b1), .val (.ref b7), .val (.int (1 : Int32)), .val (.int (1 : Int32)), .val (.long (own_min q2 q3)), .second, .val (.long (own_max q2 q3)), .second, .val (.int (1 : Int32)), .val (.int (1 : Int32))] [(.int (1 : Int32))]))
        refine own_step (fun _ κ => XS.goto X31.here hx rfl (pc0 := 147) (pc' := 151) rfl (hb hby at_147) (by decide) (by decide) κ) ?_
        show own_Go _ _ _ _ (T31.setTop (mkF m 151 #[.val (.long q0), .second, .val (.long q1), .second, .val (.long q2), .second, .val (.long q3), .second, .val (.ref b1), .val (.ref b7), .val (.int (1 : Int32)), .val (.int (1 : Int32)), .val (.long (own_min q2 q3)), .second, .val (.long (own_max q2 q3)), .second, .val (.int (1 : Int32)), .val (.int (1 : Int32))] [(.int (1 : Int32))]))
        obtain ⟨fs, hr, hrun, hended, hW, hsame⟩ := X31.leave (v := some (.int (1 : Int32))) (fun h => by rw [Bd.returns] at h; cases h)
        refine ⟨_, _, retN X31 hx (t := .boolean) Bd.returns (by simp) (hb hby at_151) hr, hrun, hended, _, _, rfl, ?_, ⟨_, rfl⟩, hW, hsame.mono (by decide) (by decide)⟩
        show Q0 Z q0 q1 q2 q3  h0 n0 _ T31.heap _
        exact ⟨rfl, N31⟩
      · rw [if_neg hc30] at hv29
        subst hv29
        refine own_step (fun _ κ => st29.trans κ) ?_
        show own_Go _ _ _ _ (T29.setTop (mkF m 109 #[.val (.long q0), .second, .val (.long q1), .second, .val (.long q2), .second, .val (.long q3), .second, .val (.ref b1), .val (.ref b7), .val (.int (1 : Int32)), .val (.int (1 : Int32)), .val (.long (own_min q2 q3)), .second, .val (.long (own_max q2 q3)), .second, .val (.int (1 : Int32)), .unset] [(.int (1 : Int32))]))
        refine own_step (fun _ κ => XS.aload X29.here hx rfl (hb hby at_109) rfl rfl κ) ?_
        show own_Go _ _ _ _ (T29.setTop (mkF m 111 #[.val (.long q0), .second, .val (.long q1), .second, .val (.long q2), .second, .val (.long q3), .second, .val (.ref b1), .val (.ref b7), .val (.int (1 : Int32)), .val (.int (1 : Int32)), .val (.long (own_min q2 q3)), .second, .val (.long (own_max q2 q3)), .second, .val (.int (1 : Int32)), .unset] [(.ref b7), (.int (1 : Int32))]))
        refine own_step (fun _ κ => XS.lload X29.here hx rfl (hb hby at_111) rfl κ) ?_
        show own_Go _ _ _ _ (T29.setTop (mkF m 113 #[.val (.long q0), .second, .val (.long q1), .second, .val (.long q2), .second, .val (.long q3), .second, .val (.ref b1), .val (.ref b7), .val (.int (1 : Int32)), .val (.int (1 : Int32)), .val (.long (own_min q2 q3)), .second, .val (.long (own_max q2 q3)), .second, .val (.int (1 : Int32)), .unset] [(.long q2), (.ref b7), (.int (1 : Int32))]))
        obtain ⟨cq32, kq32, q32a, q32b, q32c⟩ := isOf hZ eq29 p13_0
        obtain ⟨vr32, _, ⟨T32, L32, k32, n32⟩, -, X32, ⟨Lc32, hQ32, l32, y32, z32⟩, st32⟩ := X29.virtualBack hx (y := (⟨"com/example/credit_clerk/creditclerk/service/Lifetime", "hasEnded", "(J)Z"⟩ : MethodName)) (z := (⟨"com/example/credit_clerk/creditclerk/service/Lifetime", "hasEnded", "(J)Z"⟩ : MethodName)) hown (mvT hZ (hw _ (List.mem_of_getElem? (i := 18) rfl))) (mvT hZ (hw _ (List.mem_of_getElem? (i := 19) rfl))) (notFace_of_selects (args := #[]) (mvT hZ (hw _ (List.mem_of_getElem? (i := 21) rfl)))) (mvT hZ (hw _ (List.mem_of_getElem? (i := 21) rfl))) (mvT hZ (hw _ (List.mem_of_getElem? (i := 20) rfl))) (by decide) (backOf (W := 1) (rm3 l Z a0 hw [] b7 q2 q1 T13.heap n0 z17 p13_1) hZ (hw _ (List.mem_of_getElem? (i := 22) rfl)) (hw _ (List.mem_of_getElem? (i := 2) rfl)) (by decide) (by decide)) q32a q32c (g := (mkF m 113 #[.val (.long q0), .second, .val (.long q1), .second, .val (.long q2), .second, .val (.long q3), .second, .val (.ref b1), .val (.ref b7), .val (.int (1 : Int32)), .val (.int (1 : Int32)), .val (.long (own_min q2 q3)), .second, .val (.long (own_max q2 q3)), .second, .val (.int (1 : Int32)), .unset] [(.long q2), (.ref b7), (.int (1 : Int32))])) rfl (by rw [hml]; rfl) (Steps.refl _) (argsL := [(.long q2)]) (rest := [(.int (1 : Int32))]) (lenOf pd_2 rfl) rfl (by show 2 * 0 + _ ≤ _; exact Nat.le_of_eq rfl) (hb hby at_113) (fun _ _ => ⟨rfl, eq29, (by decide : 2 + 0 ≤ _), (by decide : 4 + 0 ≤ _)⟩)
        dsimp only [Pt.U, Pt.locs, Pt.cells, Pt.slots] at X32 l32 y32 z32 st32 hQ32
        subst l32 y32 z32
        obtain ⟨hv32, Nq32, eq32⟩ := hQ32
        have N32 := Fr.app N29 Nq32
        rw [if_neg hc30] at hv32
        subst hv32
        refine own_step (fun _ κ => st32.trans κ) ?_
        show own_Go _ _ _ _ (T32.setTop (mkF m 116 #[.val (.long q0), .second, .val (.long q1), .second, .val (.long q2), .second, .val (.long q3), .second, .val (.ref b1), .val (.ref b7), .val (.int (1 : Int32)), .val (.int (1 : Int32)), .val (.long (own_min q2 q3)), .second, .val (.long (own_max q2 q3)), .second, .val (.int (1 : Int32)), .unset] [(.int (1 : Int32)), (.int (1 : Int32))]))
        refine own_step (fun _ κ => XS.icmpNo X32.here hx rfl (hb hby at_116) rfl (teq rfl).2 κ) ?_
        show own_Go _ _ _ _ (T32.setTop (mkF m 119 #[.val (.long q0), .second, .val (.long q1), .second, .val (.long q2), .second, .val (.long q3), .second, .val (.ref b1), .val (.ref b7), .val (.int (1 : Int32)), .val (.int (1 : Int32)), .val (.long (own_min q2 q3)), .second, .val (.long (own_max q2 q3)), .second, .val (.int (1 : Int32)), .unset] []))
        refine own_step (fun _ κ => XS.iconst X32.here hx rfl (hb hby at_119) κ) ?_
        show own_Go _ _ _ _ (T32.setTop (mkF m 120 #[.val (.long q0), .second, .val (.long q1), .second, .val (.long q2), .second, .val (.long q3), .second, .val (.ref b1), .val (.ref b7), .val (.int (1 : Int32)), .val (.int (1 : Int32)), .val (.long (own_min q2 q3)), .second, .val (.long (own_max q2 q3)), .second, .val (.int (1 : Int32)), .unset] [(.int (1 : Int32))]))
        refine own_step (fun _ κ => XS.goto X32.here hx rfl (pc0 := 120) (pc' := 124) rfl (hb hby at_120) (by decide) (by decide) κ) ?_
        show own_Go _ _ _ _ (T32.setTop (mkF m 124 #[.val (.long q0), .second, .val (.long q1), .second, .val (.long q2), .second, .val (.long q3), .second, .val (.ref b1), .val (.ref b7), .val (.int (1 : Int32)), .val (.int (1 : Int32)), .val (.long (own_min q2 q3)), .second, .val (.long (own_max q2 q3)), .second, .val (.int (1 : Int32)), .unset] [(.int (1 : Int32))]))
        refine own_step (fun _ κ => XS.istore X32.here hx rfl (hb hby at_124) rfl (l' := #[.val (.long q0), .second, .val (.long q1), .second, .val (.long q2), .second, .val (.long q3), .second, .val (.ref b1), .val (.ref b7), .val (.int (1 : Int32)), .val (.int (1 : Int32)), .val (.long (own_min q2 q3)), .second, .val (.long (own_max q2 q3)), .second, .val (.int (1 : Int32)), .val (.int (1 : Int32))]) rfl κ) ?_
        show own_Go _ _ _ _ (T32.setTop (mkF m 126 #[.val (.long q0), .second, .val (.long q1), .second, .val (.long q2), .second, .val (.long q3), .second, .val (.ref b1), .val (.ref b7), .val (.int (1 : Int32)), .val (.int (1 : Int32)), .val (.long (own_min q2 q3)), .second, .val (.long (own_max q2 q3)), .second, .val (.int (1 : Int32)), .val (.int (1 : Int32))] []))
        refine own_step (fun _ κ => XS.iload X32.here hx rfl (hb hby at_126) rfl κ) ?_
        show own_Go _ _ _ _ (T32.setTop (mkF m 128 #[.val (.long q0), .second, .val (.long q1), .second, .val (.long q2), .second, .val (.long q3), .second, .val (.ref b1), .val (.ref b7), .val (.int (1 : Int32)), .val (.int (1 : Int32)), .val (.long (own_min q2 q3)), .second, .val (.long (own_max q2 q3)), .second, .val (.int (1 : Int32)), .val (.int (1 : Int32))] [(.int (1 : Int32))]))
        refine own_step (fun _ κ => XS.ifNo X32.here hx rfl (hb hby at_128) rfl ((if0 _ _).trans (feq (by decide)).1) κ) ?_
        show own_Go _ _ _ _ (T32.setTop (mkF m 131 #[.val (.long q0), .second, .val (.long q1), .second, .val (.long q2), .second, .val (.long q3), .second, .val (.ref b1), .val (.ref b7), .val (.int (1 : Int32)), .val (.int (1 : Int32)), .val (.long (own_min q2 q3)), .second, .val (.long (own_max q2 q3)), .second, .val (.int (1 : Int32)), .val (.int (1 : Int32))] []))
        refine own_step (fun _ κ => XS.iload X32.here hx rfl (hb hby at_131) rfl κ) ?_
        show own_Go _ _ _ _ (T32.setTop (mkF m 133 #[.val (.long q0), .second, .val (.long q1), .second, .val (.long q2), .second, .val (.long q3), .second, .val (.ref b1), .val (.ref b7), .val (.int (1 : Int32)), .val (.int (1 : Int32)), .val (.long (own_min q2 q3)), .second, .val (.long (own_max q2 q3)), .second, .val (.int (1 : Int32)), .val (.int (1 : Int32))] [(.int (1 : Int32))]))
        refine own_step (fun _ κ => XS.ifNo X32.here hx rfl (hb hby at_133) rfl ((if0 _ _).trans (feq (by decide)).1) κ) ?_
        show own_Go _ _ _ _ (T32.setTop (mkF m 136 #[.val (.long q0), .second, .val (.long q1), .second, .val (.long q2), .second, .val (.long q3), .second, .val (.ref b1), .val (.ref b7), .val (.int (1 : Int32)), .val (.int (1 : Int32)), .val (.long (own_min q2 q3)), .second, .val (.long (own_max q2 q3)), .second, .val (.int (1 : Int32)), .val (.int (1 : Int32))] []))
        refine own_step (fun _ κ => XS.iload X32.here hx rfl (hb hby at_136) rfl κ) ?_
        show own_Go _ _ _ _ (T32.setTop (mkF m 138 #[.val (.long q0), .second, .val (.long q1), .second, .val (.long q2), .second, .val (.long q3), .second, .val (.ref b1), .val (.ref b7), .val (.int (1 : Int32)), .val (.int (1 : Int32)), .val (.long (own_min q2 q3)), .second, .val (.long (own_max q2 q3)), .second, .val (.int (1 : Int32)), .val (.int (1 : Int32))] [(.int (1 : Int32))]))
        refine own_step (fun _ κ => XS.ifNo X32.here hx rfl (hb hby at_138) rfl ((if0 _ _).trans (feq (by decide)).1) κ) ?_
        show own_Go _ _ _ _ (T32.setTop (mkF m 141 #[.val (.long q0), .second, .val (.long q1), .second, .val (.long q2), .second, .val (.long q3), .second, .val (.ref b1), .val (.ref b7), .val (.int (1 : Int32)), .val (.int (1 : Int32)), .val (.long (own_min q2 q3)), .second, .val (.long (own_max q2 q3)), .second, .val (.int (1 : Int32)), .val (.int (1 : Int32))] []))
        refine own_step (fun _ κ => XS.iload X32.here hx rfl (hb hby at_141) rfl κ) ?_
        show own_Go _ _ _ _ (T32.setTop (mkF m 143 #[.val (.long q0), .second, .val (.long q1), .second, .val (.long q2), .second, .val (.long q3), .second, .val (.ref b1), .val (.ref b7), .val (.int (1 : Int32)), .val (.int (1 : Int32)), .val (.long (own_min q2 q3)), .second, .val (.long (own_max q2 q3)), .second, .val (.int (1 : Int32)), .val (.int (1 : Int32))] [(.int (1 : Int32))]))
        refine own_step (fun _ κ => XS.ifNo X32.here hx rfl (hb hby at_143) rfl ((if0 _ _).trans (feq (by decide)).1) κ) ?_
        show own_Go _ _ _ _ (T32.setTop (mkF m 146 #[.val (.long q0), .second, .val (.long q1), .second, .val (.long q2), .second, .val (.long q3), .second, .val (.ref b1), .val (.ref b7), .val (.int (1 : Int32)), .val (.int (1 : Int32)), .val (.long (own_min q2 q3)), .second, .val (.long (own_max q2 q3)), .second, .val (.int (1 : Int32)), .val (.int (1 : Int32))] []))
        refine own_step (fun _ κ => XS.iconst X32.here hx rfl (hb hby at_146) κ) ?_
        show own_Go _ _ _ _ (T32.setTop (mkF m 147 #[.val (.long q0), .second, .val (.long q1), .second, .val (.long q2), .second, .val (.long q3), .second, .val (.ref b1), .val (.ref b7), .val (.int (1 : Int32)), .val (.int (1 : Int32)), .val (.long (own_min q2 q3)), .second, .val (.long (own_max q2 q3)), .second, .val (.int (1 : Int32)), .val (.int (1 : Int32))] [(.int (1 : Int32))]))
        refine own_step (fun _ κ => XS.goto X32.here hx rfl (pc0 := 147) (pc' := 151) rfl (hb hby at_147) (by decide) (by decide) κ) ?_
        show own_Go _ _ _ _ (T32.setTop (mkF m 151 #[.val (.long q0), .second, .val (.long q1), .second, .val (.long q2), .second, .val (.long q3), .second, .val (.ref b1), .val (.ref b7), .val (.int (1 : Int32)), .val (.int (1 : Int32)), .val (.long (own_min q2 q3)), .second, .val (.long (own_max q2 q3)), .second, .val (.int (1 : Int32)), .val (.int (1 : Int32))] [(.int (1 : Int32))]))
        obtain ⟨fs, hr, hrun, hended, hW, hsame⟩ := X32.leave (v := some (.int (1 : Int32))) (fun h => by rw [Bd.returns] at h; cases h)
        refine ⟨_, _, retN X32 hx (t := .boolean) Bd.returns (by simp) (hb hby at_151) hr, hrun, hended, _, _, rfl, ?_, ⟨_, rfl⟩, hW, hsame.mono (by decide) (by decide)⟩
        show Q0 Z q0 q1 q2 q3  h0 n0 _ T32.heap _
        exact ⟨rfl, N32⟩
  · refine own_step (fun _ κ => XS.ifNo X18.here hx rfl (hb hby at_36) rfl ((if0 _ _).trans (feq (fun q => hc19 ((lw_eq _ _).mp q))).1) κ) ?_
    show own_Go _ _ _ _ (T18.setTop (mkF m 39 #[.val (.long q0), .second, .val (.long q1), .second, .val (.long q2), .second, .val (.long q3), .second, .val (.ref b1), .val (.ref b7), .val (.int (1 : Int32)), .unset, .unset, .unset, .unset, .unset, .unset, .unset] []))
    refine own_step (fun _ κ => XS.aload X18.here hx rfl (hb hby at_39) rfl rfl κ) ?_
    show own_Go _ _ _ _ (T18.setTop (mkF m 41 #[.val (.long q0), .second, .val (.long q1), .second, .val (.long q2), .second, .val (.long q3), .second, .val (.ref b1), .val (.ref b7), .val (.int (1 : Int32)), .unset, .unset, .unset, .unset, .unset, .unset, .unset] [(.ref b1)]))
    refine own_step (fun _ κ => XS.lloadN X18.here hx rfl (hb hby at_41) rfl κ) ?_
    show own_Go _ _ _ _ (T18.setTop (mkF m 42 #[.val (.long q0), .second, .val (.long q1), .second, .val (.long q2), .second, .val (.long q3), .second, .val (.ref b1), .val (.ref b7), .val (.int (1 : Int32)), .unset, .unset, .unset, .unset, .unset, .unset, .unset] [(.long q1), (.ref b1)]))
    refine own_step (fun _ κ => XS.lconst X18.here hx rfl (hb hby at_42) κ) ?_
    show own_Go _ _ _ _ (T18.setTop (mkF m 43 #[.val (.long q0), .second, .val (.long q1), .second, .val (.long q2), .second, .val (.long q3), .second, .val (.ref b1), .val (.ref b7), .val (.int (1 : Int32)), .unset, .unset, .unset, .unset, .unset, .unset, .unset] [(.long (1 : Int64)), (.long q1), (.ref b1)]))
    refine own_step (fun _ κ => XS.lsub X18.here hx rfl (hb hby at_43) rfl κ) ?_
    show own_Go _ _ _ _ (T18.setTop (mkF m 44 #[.val (.long q0), .second, .val (.long q1), .second, .val (.long q2), .second, .val (.long q3), .second, .val (.ref b1), .val (.ref b7), .val (.int (1 : Int32)), .unset, .unset, .unset, .unset, .unset, .unset, .unset] [(.long (q1 - (1 : Int64))), (.ref b1)]))
    obtain ⟨cq33, kq33, q33a, q33b, q33c⟩ := isOf hZ eq18 f14
    obtain ⟨vr33, _, ⟨T33, L33, k33, n33⟩, -, X33, ⟨Lc33, hQ33, l33, y33, z33⟩, st33⟩ := X18.virtualBack hx (y := (⟨"com/example/credit_clerk/creditclerk/service/Lifetime", "hasEnded", "(J)Z"⟩ : MethodName)) (z := (⟨"com/example/credit_clerk/creditclerk/service/Lifetime", "hasEnded", "(J)Z"⟩ : MethodName)) hown (mvT hZ (hw _ (List.mem_of_getElem? (i := 18) rfl))) (mvT hZ (hw _ (List.mem_of_getElem? (i := 19) rfl))) (notFace_of_selects (args := #[]) (mvT hZ (hw _ (List.mem_of_getElem? (i := 21) rfl)))) (mvT hZ (hw _ (List.mem_of_getElem? (i := 21) rfl))) (mvT hZ (hw _ (List.mem_of_getElem? (i := 20) rfl))) (by decide) (backOf (W := 0) (rm3 l Z a0 hw [] b1 (q1 - (1 : Int64)) q1 T13.heap n0 z17 f15) hZ (hw _ (List.mem_of_getElem? (i := 22) rfl)) (hw _ (List.mem_of_getElem? (i := 2) rfl)) (by decide) (by decide)) q33a q33c (g := (mkF m 44 #[.val (.long q0), .second, .val (.long q1), .second, .val (.long q2), .second, .val (.long q3), .second, .val (.ref b1), .val (.ref b7), .val (.int (1 : Int32)), .unset, .unset, .unset, .unset, .unset, .unset, .unset] [(.long (q1 - (1 : Int64))), (.ref b1)])) rfl (by rw [hml]; rfl) (Steps.refl _) (argsL := [(.long (q1 - (1 : Int64)))]) (rest := []) (lenOf pd_2 rfl) rfl (by show 2 * 0 + _ ≤ _; exact Nat.le_of_eq rfl) (hb hby at_44) (fun _ _ => ⟨rfl, eq18, (by decide : 2 + 0 ≤ _), (by decide : 4 + 0 ≤ _)⟩)
    dsimp only [Pt.U, Pt.locs, Pt.cells, Pt.slots] at X33 l33 y33 z33 st33 hQ33
    subst l33 y33 z33
    obtain ⟨hv33, Nq33, eq33⟩ := hQ33
    have N33 := Fr.app N18 Nq33
    rw [if_pos (own_pred hc19)] at hv33
    subst hv33
    refine own_step (fun _ κ => st33.trans κ) ?_
    show own_Go _ _ _ _ (T33.setTop (mkF m 47 #[.val (.long q0), .second, .val (.long q1), .second, .val (.long q2), .second, .val (.long q3), .second, .val (.ref b1), .val (.ref b7), .val (.int (1 : Int32)), .unset, .unset, .unset, .unset, .unset, .unset, .unset] [(.int (0 : Int32))]))
    refine own_step (fun _ κ => XS.ifNo X33.here hx rfl (hb hby at_47) rfl ((if0 _ _).trans (teq rfl).2) κ) ?_
    show own_Go _ _ _ _ (T33.setTop (mkF m 50 #[.val (.long q0), .second, .val (.long q1), .second, .val (.long q2), .second, .val (.long q3), .second, .val (.ref b1), .val (.ref b7), .val (.int (1 : Int32)), .unset, .unset, .unset, .unset, .unset, .unset, .unset] []))
    refine own_step (fun _ κ => XS.iconst X33.here hx rfl (hb hby at_50) κ) ?_
    show own_Go _ _ _ _ (T33.setTop (mkF m 51 #[.val (.long q0), .second, .val (.long q1), .second, .val (.long q2), .second, .val (.long q3), .second, .val (.ref b1), .val (.ref b7), .val (.int (1 : Int32)), .unset, .unset, .unset, .unset, .unset, .unset, .unset] [(.int (1 : Int32))]))
    refine own_step (fun _ κ => XS.goto X33.here hx rfl (pc0 := 51) (pc' := 55) rfl (hb hby at_51) (by decide) (by decide) κ) ?_
    show own_Go _ _ _ _ (T33.setTop (mkF m 55 #[.val (.long q0), .second, .val (.long q1), .second, .val (.long q2), .second, .val (.long q3), .second, .val (.ref b1), .val (.ref b7), .val (.int (1 : Int32)), .unset, .unset, .unset, .unset, .unset, .unset, .unset] [(.int (1 : Int32))]))
    refine own_step (fun _ κ => XS.istore X33.here hx rfl (hb hby at_55) rfl (l' := #[.val (.long q0), .second, .val (.long q1), .second, .val (.long q2), .second, .val (.long q3), .second, .val (.ref b1), .val (.ref b7), .val (.int (1 : Int32)), .val (.int (1 : Int32)), .unset, .unset, .unset, .unset, .unset, .unset]) rfl κ) ?_
    show own_Go _ _ _ _ (T33.setTop (mkF m 57 #[.val (.long q0), .second, .val (.long q1), .second, .val (.long q2), .second, .val (.long q3), .second, .val (.ref b1), .val (.ref b7), .val (.int (1 : Int32)), .val (.int (1 : Int32)), .unset, .unset, .unset, .unset, .unset, .unset] []))
    refine own_step (fun _ κ => XS.lload X33.here hx rfl (hb hby at_57) rfl κ) ?_
    show own_Go _ _ _ _ (T33.setTop (mkF m 59 #[.val (.long q0), .second, .val (.long q1), .second, .val (.long q2), .second, .val (.long q3), .second, .val (.ref b1), .val (.ref b7), .val (.int (1 : Int32)), .val (.int (1 : Int32)), .unset, .unset, .unset, .unset, .unset, .unset] [(.long q2)]))
    refine own_step (fun _ κ => XS.lload X33.here hx rfl (hb hby at_59) rfl κ) ?_
    show own_Go _ _ _ _ (T33.setTop (mkF m 61 #[.val (.long q0), .second, .val (.long q1), .second, .val (.long q2), .second, .val (.long q3), .second, .val (.ref b1), .val (.ref b7), .val (.int (1 : Int32)), .val (.int (1 : Int32)), .unset, .unset, .unset, .unset, .unset, .unset] [(.long q3), (.long q2)]))
    obtain ⟨vr34, _, ⟨T34, L34, k34, n34⟩, -, X34, ⟨Lc34, hQ34, l34, y34, z34⟩, st34⟩ := Jvm.LawKit.callS X33 hx (y := (⟨"java/lang/Math", "min", "(JJ)J"⟩ : MethodName)) hown (mvT hZ (hw _ (List.mem_of_getElem? (i := 24) rfl))) (mvT hZ (hw _ (List.mem_of_getElem? (i := 25) rfl))) (mvT hZ (hw _ (List.mem_of_getElem? (i := 26) rfl))) (mvT hZ (hw _ (List.mem_of_getElem? (i := 27) rfl))) (by decide) (backOf (W := 0) (rm4 l Z a0 hw [] q2 q3  T13.heap n0 z17 ) hZ (hw _ (List.mem_of_getElem? (i := 27) rfl)) (hw _ (List.mem_of_getElem? (i := 26) rfl)) (by decide) (by decide)) (g := (mkF m 61 #[.val (.long q0), .second, .val (.long q1), .second, .val (.long q2), .second, .val (.long q3), .second, .val (.ref b1), .val (.ref b7), .val (.int (1 : Int32)), .val (.int (1 : Int32)), .unset, .unset, .unset, .unset, .unset, .unset] [(.long q3), (.long q2)])) rfl (by rw [hml]; rfl) (argsL := [(.long q2), (.long q3)]) (rest := []) (lenOf pd_3 rfl) rfl (by show 2 * 0 + _ ≤ _; exact Nat.le_of_eq rfl) (hb hby at_61) (fun _ _ => ⟨rfl, eq33, (by decide : 2 + 0 ≤ _), (by decide : 4 + 0 ≤ _)⟩)
    dsimp only [Pt.U, Pt.locs, Pt.cells, Pt.slots] at X34 l34 y34 z34 st34 hQ34
    subst l34 y34 z34
    obtain ⟨rfl, Nq34, eq34⟩ := hQ34
    have N34 := Fr.app N33 Nq34
    refine own_step st34 ?_
    show own_Go _ _ _ _ (T34.setTop (mkF m 64 #[.val (.long q0), .second, .val (.long q1), .second, .val (.long q2), .second, .val (.long q3), .second, .val (.ref b1), .val (.ref b7), .val (.int (1 : Int32)), .val (.int (1 : Int32)), .unset, .unset, .unset, .unset, .unset, .unset] [(.long (own_min q2 q3))]))
    refine own_step (fun _ κ => XS.lstore X34.here hx rfl (hb hby at_64) rfl (l' := #[.val (.long q0), .second, .val (.long q1), .second, .val (.long q2), .second, .val (.long q3), .second, .val (.ref b1), .val (.ref b7), .val (.int (1 : Int32)), .val (.int (1 : Int32)), .val (.long (own_min q2 q3)), .second, .unset, .unset, .unset, .unset]) rfl κ) ?_
    show own_Go _ _ _ _ (T34.setTop (mkF m 66 #[.val (.long q0), .second, .val (.long q1), .second, .val (.long q2), .second, .val (.long q3), .second, .val (.ref b1), .val (.ref b7), .val (.int (1 : Int32)), .val (.int (1 : Int32)), .val (.long (own_min q2 q3)), .second, .unset, .unset, .unset, .unset] []))
    refine own_step (fun _ κ => XS.lload X34.here hx rfl (hb hby at_66) rfl κ) ?_
    show own_Go _ _ _ _ (T34.setTop (mkF m 68 #[.val (.long q0), .second, .val (.long q1), .second, .val (.long q2), .second, .val (.long q3), .second, .val (.ref b1), .val (.ref b7), .val (.int (1 : Int32)), .val (.int (1 : Int32)), .val (.long (own_min q2 q3)), .second, .unset, .unset, .unset, .unset] [(.long q2)]))
    refine own_step (fun _ κ => XS.lload X34.here hx rfl (hb hby at_68) rfl κ) ?_
    show own_Go _ _ _ _ (T34.setTop (mkF m 70 #[.val (.long q0), .second, .val (.long q1), .second, .val (.long q2), .second, .val (.long q3), .second, .val (.ref b1), .val (.ref b7), .val (.int (1 : Int32)), .val (.int (1 : Int32)), .val (.long (own_min q2 q3)), .second, .unset, .unset, .unset, .unset] [(.long q3), (.long q2)]))
    obtain ⟨vr35, _, ⟨T35, L35, k35, n35⟩, -, X35, ⟨Lc35, hQ35, l35, y35, z35⟩, st35⟩ := Jvm.LawKit.callS X34 hx (y := (⟨"java/lang/Math", "max", "(JJ)J"⟩ : MethodName)) hown (mvT hZ (hw _ (List.mem_of_getElem? (i := 28) rfl))) (mvT hZ (hw _ (List.mem_of_getElem? (i := 29) rfl))) (mvT hZ (hw _ (List.mem_of_getElem? (i := 26) rfl))) (mvT hZ (hw _ (List.mem_of_getElem? (i := 30) rfl))) (by decide) (backOf (W := 0) (rm5 l Z a0 hw [] q2 q3  T13.heap n0 z17 ) hZ (hw _ (List.mem_of_getElem? (i := 30) rfl)) (hw _ (List.mem_of_getElem? (i := 26) rfl)) (by decide) (by decide)) (g := (mkF m 70 #[.val (.long q0), .second, .val (.long q1), .second, .val (.long q2), .second, .val (.long q3), .second, .val (.ref b1), .val (.ref b7), .val (.int (1 : Int32)), .val (.int (1 : Int32)), .val (.long (own_min q2 q3)), .second, .unset, .unset, .unset, .unset] [(.long q3), (.long q2)])) rfl (by rw [hml]; rfl) (argsL := [(.long q2), (.long q3)]) (rest := []) (lenOf pd_3 rfl) rfl (by show 2 * 0 + _ ≤ _; exact Nat.le_of_eq rfl) (hb hby at_70) (fun _ _ => ⟨rfl, eq34, (by decide : 2 + 0 ≤ _), (by decide : 4 + 0 ≤ _)⟩)
    dsimp only [Pt.U, Pt.locs, Pt.cells, Pt.slots] at X35 l35 y35 z35 st35 hQ35
    subst l35 y35 z35
    obtain ⟨rfl, Nq35, eq35⟩ := hQ35
    have N35 := Fr.app N34 Nq35
    refine own_step st35 ?_
    show own_Go _ _ _ _ (T35.setTop (mkF m 73 #[.val (.long q0), .second, .val (.long q1), .second, .val (.long q2), .second, .val (.long q3), .second, .val (.ref b1), .val (.ref b7), .val (.int (1 : Int32)), .val (.int (1 : Int32)), .val (.long (own_min q2 q3)), .second, .unset, .unset, .unset, .unset] [(.long (own_max q2 q3))]))
    refine own_step (fun _ κ => XS.lstore X35.here hx rfl (hb hby at_73) rfl (l' := #[.val (.long q0), .second, .val (.long q1), .second, .val (.long q2), .second, .val (.long q3), .second, .val (.ref b1), .val (.ref b7), .val (.int (1 : Int32)), .val (.int (1 : Int32)), .val (.long (own_min q2 q3)), .second, .val (.long (own_max q2 q3)), .second, .unset, .unset]) rfl κ) ?_
    show own_Go _ _ _ _ (T35.setTop (mkF m 75 #[.val (.long q0), .second, .val (.long q1), .second, .val (.long q2), .second, .val (.long q3), .second, .val (.ref b1), .val (.ref b7), .val (.int (1 : Int32)), .val (.int (1 : Int32)), .val (.long (own_min q2 q3)), .second, .val (.long (own_max q2 q3)), .second, .unset, .unset] []))
    refine own_step (fun _ κ => XS.aload X35.here hx rfl (hb hby at_75) rfl rfl κ) ?_
    show own_Go _ _ _ _ (T35.setTop (mkF m 77 #[.val (.long q0), .second, .val (.long q1), .second, .val (.long q2), .second, .val (.long q3), .second, .val (.ref b1), .val (.ref b7), .val (.int (1 : Int32)), .val (.int (1 : Int32)), .val (.long (own_min q2 q3)), .second, .val (.long (own_max q2 q3)), .second, .unset, .unset] [(.ref b1)]))
    refine own_step (fun _ κ => XS.lload X35.here hx rfl (hb hby at_77) rfl κ) ?_
    show own_Go _ _ _ _ (T35.setTop (mkF m 79 #[.val (.long q0), .second, .val (.long q1), .second, .val (.long q2), .second, .val (.long q3), .second, .val (.ref b1), .val (.ref b7), .val (.int (1 : Int32)), .val (.int (1 : Int32)), .val (.long (own_min q2 q3)), .second, .val (.long (own_max q2 q3)), .second, .unset, .unset] [(.long (own_min q2 q3)), (.ref b1)]))
    obtain ⟨cq36, kq36, q36a, q36b, q36c⟩ := isOf hZ eq35 f14
    obtain ⟨vr36, _, ⟨T36, L36, k36, n36⟩, -, X36, ⟨Lc36, hQ36, l36, y36, z36⟩, st36⟩ := X35.virtualBack hx (y := (⟨"com/example/credit_clerk/creditclerk/service/Lifetime", "hasEnded", "(J)Z"⟩ : MethodName)) (z := (⟨"com/example/credit_clerk/creditclerk/service/Lifetime", "hasEnded", "(J)Z"⟩ : MethodName)) hown (mvT hZ (hw _ (List.mem_of_getElem? (i := 18) rfl))) (mvT hZ (hw _ (List.mem_of_getElem? (i := 19) rfl))) (notFace_of_selects (args := #[]) (mvT hZ (hw _ (List.mem_of_getElem? (i := 21) rfl)))) (mvT hZ (hw _ (List.mem_of_getElem? (i := 21) rfl))) (mvT hZ (hw _ (List.mem_of_getElem? (i := 20) rfl))) (by decide) (backOf (W := 0) (rm3 l Z a0 hw [] b1 (own_min q2 q3) q1 T13.heap n0 z17 f15) hZ (hw _ (List.mem_of_getElem? (i := 22) rfl)) (hw _ (List.mem_of_getElem? (i := 2) rfl)) (by decide) (by decide)) q36a q36c (g := (mkF m 79 #[.val (.long q0), .second, .val (.long q1), .second, .val (.long q2), .second, .val (.long q3), .second, .val (.ref b1), .val (.ref b7), .val (.int (1 : Int32)), .val (.int (1 : Int32)), .val (.long (own_min q2 q3)), .second, .val (.long (own_max q2 q3)), .second, .unset, .unset] [(.long (own_min q2 q3)), (.ref b1)])) rfl (by rw [hml]; rfl) (Steps.refl _) (argsL := [(.long (own_min q2 q3))]) (rest := []) (lenOf pd_2 rfl) rfl (by show 2 * 0 + _ ≤ _; exact Nat.le_of_eq rfl) (hb hby at_79) (fun _ _ => ⟨rfl, eq35, (by decide : 2 + 0 ≤ _), (by decide : 4 + 0 ≤ _)⟩)
    dsimp only [Pt.U, Pt.locs, Pt.cells, Pt.slots] at X36 l36 y36 z36 st36 hQ36
    subst l36 y36 z36
    obtain ⟨hv36, Nq36, eq36⟩ := hQ36
    have N36 := Fr.app N35 Nq36
    by_cases hc37 : (own_min q2 q3) < q1
    · rw [if_pos hc37] at hv36
      subst hv36
      refine own_step (fun _ κ => st36.trans κ) ?_
      show own_Go _ _ _ _ (T36.setTop (mkF m 82 #[.val (.long q0), .second, .val (.long q1), .second, .val (.long q2), .second, .val (.long q3), .second, .val (.ref b1), .val (.ref b7), .val (.int (1 : Int32)), .val (.int (1 : Int32)), .val (.long (own_min q2 q3)), .second, .val (.long (own_max q2 q3)), .second, .unset, .unset] [(.int (0 : Int32))]))
      refine own_step (fun _ κ => XS.ifYes X36.here hx rfl (pc0 := 82) (pc' := 95) rfl (hb hby at_82) rfl ((if0 _ _).trans (teq rfl).1) (by decide) (by decide) κ) ?_
      show own_Go _ _ _ _ (T36.setTop (mkF m 95 #[.val (.long q0), .second, .val (.long q1), .second, .val (.long q2), .second, .val (.long q3), .second, .val (.ref b1), .val (.ref b7), .val (.int (1 : Int32)), .val (.int (1 : Int32)), .val (.long (own_min q2 q3)), .second, .val (.long (own_max q2 q3)), .second, .unset, .unset] []))
      refine own_step (fun _ κ => XS.iconst X36.here hx rfl (hb hby at_95) κ) ?_
      show own_Go _ _ _ _ (T36.setTop (mkF m 96 #[.val (.long q0), .second, .val (.long q1), .second, .val (.long q2), .second, .val (.long q3), .second, .val (.ref b1), .val (.ref b7), .val (.int (1 : Int32)), .val (.int (1 : Int32)), .val (.long (own_min q2 q3)), .second, .val (.long (own_max q2 q3)), .second, .unset, .unset] [(.int (1 : Int32))]))
      refine own_step (fun _ κ => XS.goto X36.here hx rfl (pc0 := 96) (pc' := 100) rfl (hb hby at_96) (by decide) (by decide) κ) ?_
      show own_Go _ _ _ _ (T36.setTop (mkF m 100 #[.val (.long q0), .second, .val (.long q1), .second, .val (.long q2), .second, .val (.long q3), .second, .val (.ref b1), .val (.ref b7), .val (.int (1 : Int32)), .val (.int (1 : Int32)), .val (.long (own_min q2 q3)), .second, .val (.long (own_max q2 q3)), .second, .unset, .unset] [(.int (1 : Int32))]))
      refine own_step (fun _ κ => XS.istore X36.here hx rfl (hb hby at_100) rfl (l' := #[.val (.long q0), .second, .val (.long q1), .second, .val (.long q2), .second, .val (.long q3), .second, .val (.ref b1), .val (.ref b7), .val (.int (1 : Int32)), .val (.int (1 : Int32)), .val (.long (own_min q2 q3)), .second, .val (.long (own_max q2 q3)), .second, .val (.int (1 : Int32)), .unset]) rfl κ) ?_
      show own_Go _ _ _ _ (T36.setTop (mkF m 102 #[.val (.long q0), .second, .val (.long q1), .second, .val (.long q2), .second, .val (.long q3), .second, .val (.ref b1), .val (.ref b7), .val (.int (1 : Int32)), .val (.int (1 : Int32)), .val (.long (own_min q2 q3)), .second, .val (.long (own_max q2 q3)), .second, .val (.int (1 : Int32)), .unset] []))
      refine own_step (fun _ κ => XS.aload X36.here hx rfl (hb hby at_102) rfl rfl κ) ?_
      show own_Go _ _ _ _ (T36.setTop (mkF m 104 #[.val (.long q0), .second, .val (.long q1), .second, .val (.long q2), .second, .val (.long q3), .second, .val (.ref b1), .val (.ref b7), .val (.int (1 : Int32)), .val (.int (1 : Int32)), .val (.long (own_min q2 q3)), .second, .val (.long (own_max q2 q3)), .second, .val (.int (1 : Int32)), .unset] [(.ref b1)]))
      refine own_step (fun _ κ => XS.lload X36.here hx rfl (hb hby at_104) rfl κ) ?_
      show own_Go _ _ _ _ (T36.setTop (mkF m 106 #[.val (.long q0), .second, .val (.long q1), .second, .val (.long q2), .second, .val (.long q3), .second, .val (.ref b1), .val (.ref b7), .val (.int (1 : Int32)), .val (.int (1 : Int32)), .val (.long (own_min q2 q3)), .second, .val (.long (own_max q2 q3)), .second, .val (.int (1 : Int32)), .unset] [(.long q2), (.ref b1)]))
      obtain ⟨cq38, kq38, q38a, q38b, q38c⟩ := isOf hZ eq36 f14
      obtain ⟨vr38, _, ⟨T38, L38, k38, n38⟩, -, X38, ⟨Lc38, hQ38, l38, y38, z38⟩, st38⟩ := X36.virtualBack hx (y := (⟨"com/example/credit_clerk/creditclerk/service/Lifetime", "hasEnded", "(J)Z"⟩ : MethodName)) (z := (⟨"com/example/credit_clerk/creditclerk/service/Lifetime", "hasEnded", "(J)Z"⟩ : MethodName)) hown (mvT hZ (hw _ (List.mem_of_getElem? (i := 18) rfl))) (mvT hZ (hw _ (List.mem_of_getElem? (i := 19) rfl))) (notFace_of_selects (args := #[]) (mvT hZ (hw _ (List.mem_of_getElem? (i := 21) rfl)))) (mvT hZ (hw _ (List.mem_of_getElem? (i := 21) rfl))) (mvT hZ (hw _ (List.mem_of_getElem? (i := 20) rfl))) (by decide) (backOf (W := 0) (rm3 l Z a0 hw [] b1 q2 q1 T13.heap n0 z17 f15) hZ (hw _ (List.mem_of_getElem? (i := 22) rfl)) (hw _ (List.mem_of_getElem? (i := 2) rfl)) (by decide) (by decide)) q38a q38c (g := (mkF m 106 #[.val (.long q0), .second, .val (.long q1), .second, .val (.long q2), .second, .val (.long q3), .second, .val (.ref b1), .val (.ref b7), .val (.int (1 : Int32)), .val (.int (1 : Int32)), .val (.long (own_min q2 q3)), .second, .val (.long (own_max q2 q3)), .second, .val (.int (1 : Int32)), .unset] [(.long q2), (.ref b1)])) rfl (by rw [hml]; rfl) (Steps.refl _) (argsL := [(.long q2)]) (rest := []) (lenOf pd_2 rfl) rfl (by show 2 * 0 + _ ≤ _; exact Nat.le_of_eq rfl) (hb hby at_106) (fun _ _ => ⟨rfl, eq36, (by decide : 2 + 0 ≤ _), (by decide : 4 + 0 ≤ _)⟩)
      dsimp only [Pt.U, Pt.locs, Pt.cells, Pt.slots] at X38 l38 y38 z38 st38 hQ38
      subst l38 y38 z38
      obtain ⟨hv38, Nq38, eq38⟩ := hQ38
      have N38 := Fr.app N36 Nq38
      by_cases hc39 : q2 < q1
      · rw [if_pos hc39] at hv38
        subst hv38
        refine own_step (fun _ κ => st38.trans κ) ?_
        show own_Go _ _ _ _ (T38.setTop (mkF m 109 #[.val (.long q0), .second, .val (.long q1), .second, .val (.long q2), .second, .val (.long q3), .second, .val (.ref b1), .val (.ref b7), .val (.int (1 : Int32)), .val (.int (1 : Int32)), .val (.long (own_min q2 q3)), .second, .val (.long (own_max q2 q3)), .second, .val (.int (1 : Int32)), .unset] [(.int (0 : Int32))]))
        refine own_step (fun _ κ => XS.aload X38.here hx rfl (hb hby at_109) rfl rfl κ) ?_
        show own_Go _ _ _ _ (T38.setTop (mkF m 111 #[.val (.long q0), .second, .val (.long q1), .second, .val (.long q2), .second, .val (.long q3), .second, .val (.ref b1), .val (.ref b7), .val (.int (1 : Int32)), .val (.int (1 : Int32)), .val (.long (own_min q2 q3)), .second, .val (.long (own_max q2 q3)), .second, .val (.int (1 : Int32)), .unset] [(.ref b7), (.int (0 : Int32))]))
        refine own_step (fun _ κ => XS.lload X38.here hx rfl (hb hby at_111) rfl κ) ?_
        show own_Go _ _ _ _ (T38.setTop (mkF m 113 #[.val (.long q0), .second, .val (.long q1), .second, .val (.long q2), .second, .val (.long q3), .second, .val (.ref b1), .val (.ref b7), .val (.int (1 : Int32)), .val (.int (1 : Int32)), .val (.long (own_min q2 q3)), .second, .val (.long (own_max q2 q3)), .second, .val (.int (1 : Int32)), .unset] [(.long q2), (.ref b7), (.int (0 : Int32))]))
        obtain ⟨cq40, kq40, q40a, q40b, q40c⟩ := isOf hZ eq38 p13_0
        obtain ⟨vr40, _, ⟨T40, L40, k40, n40⟩, -, X40, ⟨Lc40, hQ40, l40, y40, z40⟩, st40⟩ := X38.virtualBack hx (y := (⟨"com/example/credit_clerk/creditclerk/service/Lifetime", "hasEnded", "(J)Z"⟩ : MethodName)) (z := (⟨"com/example/credit_clerk/creditclerk/service/Lifetime", "hasEnded", "(J)Z"⟩ : MethodName)) hown (mvT hZ (hw _ (List.mem_of_getElem? (i := 18) rfl))) (mvT hZ (hw _ (List.mem_of_getElem? (i := 19) rfl))) (notFace_of_selects (args := #[]) (mvT hZ (hw _ (List.mem_of_getElem? (i := 21) rfl)))) (mvT hZ (hw _ (List.mem_of_getElem? (i := 21) rfl))) (mvT hZ (hw _ (List.mem_of_getElem? (i := 20) rfl))) (by decide) (backOf (W := 1) (rm3 l Z a0 hw [] b7 q2 q1 T13.heap n0 z17 p13_1) hZ (hw _ (List.mem_of_getElem? (i := 22) rfl)) (hw _ (List.mem_of_getElem? (i := 2) rfl)) (by decide) (by decide)) q40a q40c (g := (mkF m 113 #[.val (.long q0), .second, .val (.long q1), .second, .val (.long q2), .second, .val (.long q3), .second, .val (.ref b1), .val (.ref b7), .val (.int (1 : Int32)), .val (.int (1 : Int32)), .val (.long (own_min q2 q3)), .second, .val (.long (own_max q2 q3)), .second, .val (.int (1 : Int32)), .unset] [(.long q2), (.ref b7), (.int (0 : Int32))])) rfl (by rw [hml]; rfl) (Steps.refl _) (argsL := [(.long q2)]) (rest := [(.int (0 : Int32))]) (lenOf pd_2 rfl) rfl (by show 2 * 0 + _ ≤ _; exact Nat.le_of_eq rfl) (hb hby at_113) (fun _ _ => ⟨rfl, eq38, (by decide : 2 + 0 ≤ _), (by decide : 4 + 0 ≤ _)⟩)
        dsimp only [Pt.U, Pt.locs, Pt.cells, Pt.slots] at X40 l40 y40 z40 st40 hQ40
        subst l40 y40 z40
        obtain ⟨hv40, Nq40, eq40⟩ := hQ40
        have N40 := Fr.app N38 Nq40
        rw [if_pos hc39] at hv40
        subst hv40
        refine own_step (fun _ κ => st40.trans κ) ?_
        show own_Go _ _ _ _ (T40.setTop (mkF m 116 #[.val (.long q0), .second, .val (.long q1), .second, .val (.long q2), .second, .val (.long q3), .second, .val (.ref b1), .val (.ref b7), .val (.int (1 : Int32)), .val (.int (1 : Int32)), .val (.long (own_min q2 q3)), .second, .val (.long (own_max q2 q3)), .second, .val (.int (1 : Int32)), .unset] [(.int (0 : Int32)), (.int (0 : Int32))]))
        refine own_step (fun _ κ => XS.icmpNo X40.here hx rfl (hb hby at_116) rfl (teq rfl).2 κ) ?_
        show own_Go _ _ _ _ (T40.setTop (mkF m 119 #[.val (.long q0), .second, .val (.long q1), .second, .val (.long q2), .second, .val (.long q3), .second, .val (.ref b1), .val (.ref b7), .val (.int (1 : Int32)), .val (.int (1 : Int32)), .val (.long (own_min q2 q3)), .second, .val (.long (own_max q2 q3)), .second, .val (.int (1 : Int32)), .unset] []))
        refine own_step (fun _ κ => XS.iconst X40.here hx rfl (hb hby at_119) κ) ?_
        show own_Go _ _ _ _ (T40.setTop (mkF m 120 #[.val (.long q0), .second, .val (.long q1), .second, .val (.long q2), .second, .val (.long q3), .second, .val (.ref b1), .val (.ref b7), .val (.int (1 : Int32)), .val (.int (1 : Int32)), .val (.long (own_min q2 q3)), .second, .val (.long (own_max q2 q3)), .second, .val (.int (1 : Int32)), .unset] [(.int (1 : Int32))]))
        refine own_step (fun _ κ => XS.goto X40.here hx rfl (pc0 := 120) (pc' := 124) rfl (hb hby at_120) (by decide) (by decide) κ) ?_
        show own_Go _ _ _ _ (T40.setTop (mkF m 124 #[.val (.long q0), .second, .val (.long q1), .second, .val (.long q2), .second, .val (.long q3), .second, .val (.ref b1), .val (.ref b7), .val (.int (1 : Int32)), .val (.int (1 : Int32)), .val (.long (own_min q2 q3)), .second, .val (.long (own_max q2 q3)), .second, .val (.int (1 : Int32)), .unset] [(.int (1 : Int32))]))
        refine own_step (fun _ κ => XS.istore X40.here hx rfl (hb hby at_124) rfl (l' := #[.val (.long q0), .second, .val (.long q1), .second, .val (.long q2), .second, .val (.long q3), .second, .val (.ref b1), .val (.ref b7), .val (.int (1 : Int32)), .val (.int (1 : Int32)), .val (.long (own_min q2 q3)), .second, .val (.long (own_max q2 q3)), .second, .val (.int (1 : Int32)), .val (.int (1 : Int32))]) rfl κ) ?_
        show own_Go _ _ _ _ (T40.setTop (mkF m 126 #[.val (.long q0), .second, .val (.long q1), .second, .val (.long q2), .second, .val (.long q3), .second, .val (.ref b1), .val (.ref b7), .val (.int (1 : Int32)), .val (.int (1 : Int32)), .val (.long (own_min q2 q3)), .second, .val (.long (own_max q2 q3)), .second, .val (.int (1 : Int32)), .val (.int (1 : Int32))] []))
        refine own_step (fun _ κ => XS.iload X40.here hx rfl (hb hby at_126) rfl κ) ?_
        show own_Go _ _ _ _ (T40.setTop (mkF m 128 #[.val (.long q0), .second, .val (.long q1), .second, .val (.long q2), .second, .val (.long q3), .second, .val (.ref b1), .val (.ref b7), .val (.int (1 : Int32)), .val (.int (1 : Int32)), .val (.long (own_min q2 q3)), .second, .val (.long (own_max q2 q3)), .second, .val (.int (1 : Int32)), .val (.int (1 : Int32))] [(.int (1 : Int32))]))
        refine own_step (fun _ κ => XS.ifNo X40.here hx rfl (hb hby at_128) rfl ((if0 _ _).trans (feq (by decide)).1) κ) ?_
        show own_Go _ _ _ _ (T40.setTop (mkF m 131 #[.val (.long q0), .second, .val (.long q1), .second, .val (.long q2), .second, .val (.long q3), .second, .val (.ref b1), .val (.ref b7), .val (.int (1 : Int32)), .val (.int (1 : Int32)), .val (.long (own_min q2 q3)), .second, .val (.long (own_max q2 q3)), .second, .val (.int (1 : Int32)), .val (.int (1 : Int32))] []))
        refine own_step (fun _ κ => XS.iload X40.here hx rfl (hb hby at_131) rfl κ) ?_
        show own_Go _ _ _ _ (T40.setTop (mkF m 133 #[.val (.long q0), .second, .val (.long q1), .second, .val (.long q2), .second, .val (.long q3), .second, .val (.ref b1), .val (.ref b7), .val (.int (1 : Int32)), .val (.int (1 : Int32)), .val (.long (own_min q2 q3)), .second, .val (.long (own_max q2 q3)), .second, .val (.int (1 : Int32)), .val (.int (1 : Int32))] [(.int (1 : Int32))]))
        refine own_step (fun _ κ => XS.ifNo X40.here hx rfl (hb hby at_133) rfl ((if0 _ _).trans (feq (by decide)).1) κ) ?_
        show own_Go _ _ _ _ (T40.setTop (mkF m 136 #[.val (.long q0), .second, .val (.long q1), .second, .val (.long q2), .second, .val (.long q3), .second, .val (.ref b1), .val (.ref b7), .val (.int (1 : Int32)), .val (.int (1 : Int32)), .val (.long (own_min q2 q3)), .second, .val (.long (own_max q2 q3)), .second, .val (.int (1 : Int32)), .val (.int (1 : Int32))] []))
        refine own_step (fun _ κ => XS.iload X40.here hx rfl (hb hby at_136) rfl κ) ?_
        show own_Go _ _ _ _ (T40.setTop (mkF m 138 #[.val (.long q0), .second, .val (.long q1), .second, .val (.long q2), .second, .val (.long q3), .second, .val (.ref b1), .val (.ref b7), .val (.int (1 : Int32)), .val (.int (1 : Int32)), .val (.long (own_min q2 q3)), .second, .val (.long (own_max q2 q3)), .second, .val (.int (1 : Int32)), .val (.int (1 : Int32))] [(.int (1 : Int32))]))
        refine own_step (fun _ κ => XS.ifNo X40.here hx rfl (hb hby at_138) rfl ((if0 _ _).trans (feq (by decide)).1) κ) ?_
        show own_Go _ _ _ _ (T40.setTop (mkF m 141 #[.val (.long q0), .second, .val (.long q1), .second, .val (.long q2), .second, .val (.long q3), .second, .val (.ref b1), .val (.ref b7), .val (.int (1 : Int32)), .val (.int (1 : Int32)), .val (.long (own_min q2 q3)), .second, .val (.long (own_max q2 q3)), .second, .val (.int (1 : Int32)), .val (.int (1 : Int32))] []))
        refine own_step (fun _ κ => XS.iload X40.here hx rfl (hb hby at_141) rfl κ) ?_
        show own_Go _ _ _ _ (T40.setTop (mkF m 143 #[.val (.long q0), .second, .val (.long q1), .second, .val (.long q2), .second, .val (.long q3), .second, .val (.ref b1), .val (.ref b7), .val (.int (1 : Int32)), .val (.int (1 : Int32)), .val (.long (own_min q2 q3)), .second, .val (.long (own_max q2 q3)), .second, .val (.int (1 : Int32)), .val (.int (1 : Int32))] [(.int (1 : Int32))]))
        refine own_step (fun _ κ => XS.ifNo X40.here hx rfl (hb hby at_143) rfl ((if0 _ _).trans (feq (by decide)).1) κ) ?_
        show own_Go _ _ _ _ (T40.setTop (mkF m 146 #[.val (.long q0), .second, .val (.long q1), .second, .val (.long q2), .second, .val (.long q3), .second, .val (.ref b1), .val (.ref b7), .val (.int (1 : Int32)), .val (.int (1 : Int32)), .val (.long (own_min q2 q3)), .second, .val (.long (own_max q2 q3)), .second, .val (.int (1 : Int32)), .val (.int (1 : Int32))] []))
        refine own_step (fun _ κ => XS.iconst X40.here hx rfl (hb hby at_146) κ) ?_
        show own_Go _ _ _ _ (T40.setTop (mkF m 147 #[.val (.long q0), .second, .val (.long q1), .second, .val (.long q2), .second, .val (.long q3), .second, .val (.ref b1), .val (.ref b7), .val (.int (1 : Int32)), .val (.int (1 : Int32)), .val (.long (own_min q2 q3)), .second, .val (.long (own_max q2 q3)), .second, .val (.int (1 : Int32)), .val (.int (1 : Int32))] [(.int (1 : Int32))]))
        refine own_step (fun _ κ => XS.goto X40.here hx rfl (pc0 := 147) (pc' := 151) rfl (hb hby at_147) (by decide) (by decide) κ) ?_
        show own_Go _ _ _ _ (T40.setTop (mkF m 151 #[.val (.long q0), .second, .val (.long q1), .second, .val (.long q2), .second, .val (.long q3), .second, .val (.ref b1), .val (.ref b7), .val (.int (1 : Int32)), .val (.int (1 : Int32)), .val (.long (own_min q2 q3)), .second, .val (.long (own_max q2 q3)), .second, .val (.int (1 : Int32)), .val (.int (1 : Int32))] [(.int (1 : Int32))]))
        obtain ⟨fs, hr, hrun, hended, hW, hsame⟩ := X40.leave (v := some (.int (1 : Int32))) (fun h => by rw [Bd.returns] at h; cases h)
        refine ⟨_, _, retN X40 hx (t := .boolean) Bd.returns (by simp) (hb hby at_151) hr, hrun, hended, _, _, rfl, ?_, ⟨_, rfl⟩, hW, hsame.mono (by decide) (by decide)⟩
        show Q0 Z q0 q1 q2 q3  h0 n0 _ T40.heap _
        exact ⟨rfl, N40⟩
      · rw [if_neg hc39] at hv38
        subst hv38
        refine own_step (fun _ κ => st38.trans κ) ?_
        show own_Go _ _ _ _ (T38.setTop (mkF m 109 #[.val (.long q0), .second, .val (.long q1), .second, .val (.long q2), .second, .val (.long q3), .second, .val (.ref b1), .val (.ref b7), .val (.int (1 : Int32)), .val (.int (1 : Int32)), .val (.long (own_min q2 q3)), .second, .val (.long (own_max q2 q3)), .second, .val (.int (1 : Int32)), .unset] [(.int (1 : Int32))]))
        refine own_step (fun _ κ => XS.aload X38.here hx rfl (hb hby at_109) rfl rfl κ) ?_
        show own_Go _ _ _ _ (T38.setTop (mkF m 111 #[.val (.long q0), .second, .val (.long q1), .second, .val (.long q2), .second, .val (.long q3), .second, .val (.ref b1), .val (.ref b7), .val (.int (1 : Int32)), .val (.int (1 : Int32)), .val (.long (own_min q2 q3)), .second, .val (.long (own_max q2 q3)), .second, .val (.int (1 : Int32)), .unset] [(.ref b7), (.int (1 : Int32))]))
        refine own_step (fun _ κ => XS.lload X38.here hx rfl (hb hby at_111) rfl κ) ?_
        show own_Go _ _ _ _ (T38.setTop (mkF m 113 #[.val (.long q0), .second, .val (.long q1), .second, .val (.long q2), .second, .val (.long q3), .second, .val (.ref b1), .val (.ref b7), .val (.int (1 : Int32)), .val (.int (1 : Int32)), .val (.long (own_min q2 q3)), .second, .val (.long (own_max q2 q3)), .second, .val (.int (1 : Int32)), .unset] [(.long q2), (.ref b7), (.int (1 : Int32))]))
        obtain ⟨cq41, kq41, q41a, q41b, q41c⟩ := isOf hZ eq38 p13_0
        obtain ⟨vr41, _, ⟨T41, L41, k41, n41⟩, -, X41, ⟨Lc41, hQ41, l41, y41, z41⟩, st41⟩ := X38.virtualBack hx (y := (⟨"com/example/credit_clerk/creditclerk/service/Lifetime", "hasEnded", "(J)Z"⟩ : MethodName)) (z := (⟨"com/example/credit_clerk/creditclerk/service/Lifetime", "hasEnded", "(J)Z"⟩ : MethodName)) hown (mvT hZ (hw _ (List.mem_of_getElem? (i := 18) rfl))) (mvT hZ (hw _ (List.mem_of_getElem? (i := 19) rfl))) (notFace_of_selects (args := #[]) (mvT hZ (hw _ (List.mem_of_getElem? (i := 21) rfl)))) (mvT hZ (hw _ (List.mem_of_getElem? (i := 21) rfl))) (mvT hZ (hw _ (List.mem_of_getElem? (i := 20) rfl))) (by decide) (backOf (W := 1) (rm3 l Z a0 hw [] b7 q2 q1 T13.heap n0 z17 p13_1) hZ (hw _ (List.mem_of_getElem? (i := 22) rfl)) (hw _ (List.mem_of_getElem? (i := 2) rfl)) (by decide) (by decide)) q41a q41c (g := (mkF m 113 #[.val (.long q0), .second, .val (.long q1), .second, .val (.long q2), .second, .val (.long q3), .second, .val (.ref b1), .val (.ref b7), .val (.int (1 : Int32)), .val (.int (1 : Int32)), .val (.long (own_min q2 q3)), .second, .val (.long (own_max q2 q3)), .second, .val (.int (1 : Int32)), .unset] [(.long q2), (.ref b7), (.int (1 : Int32))])) rfl (by rw [hml]; rfl) (Steps.refl _) (argsL := [(.long q2)]) (rest := [(.int (1 : Int32))]) (lenOf pd_2 rfl) rfl (by show 2 * 0 + _ ≤ _; exact Nat.le_of_eq rfl) (hb hby at_113) (fun _ _ => ⟨rfl, eq38, (by decide : 2 + 0 ≤ _), (by decide : 4 + 0 ≤ _)⟩)
        dsimp only [Pt.U, Pt.locs, Pt.cells, Pt.slots] at X41 l41 y41 z41 st41 hQ41
        subst l41 y41 z41
        obtain ⟨hv41, Nq41, eq41⟩ := hQ41
        have N41 := Fr.app N38 Nq41
        rw [if_neg hc39] at hv41
        subst hv41
        refine own_step (fun _ κ => st41.trans κ) ?_
        show own_Go _ _ _ _ (T41.setTop (mkF m 116 #[.val (.long q0), .second, .val (.long q1), .second, .val (.long q2), .second, .val (.long q3), .second, .val (.ref b1), .val (.ref b7), .val (.int (1 : Int32)), .val (.int (1 : Int32)), .val (.long (own_min q2 q3)), .second, .val (.long (own_max q2 q3)), .second, .val (.int (1 : Int32)), .unset] [(.int (1 : Int32)), (.int (1 : Int32))]))
        refine own_step (fun _ κ => XS.icmpNo X41.here hx rfl (hb hby at_116) rfl (teq rfl).2 κ) ?_
        show own_Go _ _ _ _ (T41.setTop (mkF m 119 #[.val (.long q0), .second, .val (.long q1), .second, .val (.long q2), .second, .val (.long q3), .second, .val (.ref b1), .val (.ref b7), .val (.int (1 : Int32)), .val (.int (1 : Int32)), .val (.long (own_min q2 q3)), .second, .val (.long (own_max q2 q3)), .second, .val (.int (1 : Int32)), .unset] []))
        refine own_step (fun _ κ => XS.iconst X41.here hx rfl (hb hby at_119) κ) ?_
        show own_Go _ _ _ _ (T41.setTop (mkF m 120 #[.val (.long q0), .second, .val (.long q1), .second, .val (.long q2), .second, .val (.long q3), .second, .val (.ref b1), .val (.ref b7), .val (.int (1 : Int32)), .val (.int (1 : Int32)), .val (.long (own_min q2 q3)), .second, .val (.long (own_max q2 q3)), .second, .val (.int (1 : Int32)), .unset] [(.int (1 : Int32))]))
        refine own_step (fun _ κ => XS.goto X41.here hx rfl (pc0 := 120) (pc' := 124) rfl (hb hby at_120) (by decide) (by decide) κ) ?_
        show own_Go _ _ _ _ (T41.setTop (mkF m 124 #[.val (.long q0), .second, .val (.long q1), .second, .val (.long q2), .second, .val (.long q3), .second, .val (.ref b1), .val (.ref b7), .val (.int (1 : Int32)), .val (.int (1 : Int32)), .val (.long (own_min q2 q3)), .second, .val (.long (own_max q2 q3)), .second, .val (.int (1 : Int32)), .unset] [(.int (1 : Int32))]))
        refine own_step (fun _ κ => XS.istore X41.here hx rfl (hb hby at_124) rfl (l' := #[.val (.long q0), .second, .val (.long q1), .second, .val (.long q2), .second, .val (.long q3), .second, .val (.ref b1), .val (.ref b7), .val (.int (1 : Int32)), .val (.int (1 : Int32)), .val (.long (own_min q2 q3)), .second, .val (.long (own_max q2 q3)), .second, .val (.int (1 : Int32)), .val (.int (1 : Int32))]) rfl κ) ?_
        show own_Go _ _ _ _ (T41.setTop (mkF m 126 #[.val (.long q0), .second, .val (.long q1), .second, .val (.long q2), .second, .val (.long q3), .second, .val (.ref b1), .val (.ref b7), .val (.int (1 : Int32)), .val (.int (1 : Int32)), .val (.long (own_min q2 q3)), .second, .val (.long (own_max q2 q3)), .second, .val (.int (1 : Int32)), .val (.int (1 : Int32))] []))
        refine own_step (fun _ κ => XS.iload X41.here hx rfl (hb hby at_126) rfl κ) ?_
        show own_Go _ _ _ _ (T41.setTop (mkF m 128 #[.val (.long q0), .second, .val (.long q1), .second, .val (.long q2), .second, .val (.long q3), .second, .val (.ref b1), .val (.ref b7), .val (.int (1 : Int32)), .val (.int (1 : Int32)), .val (.long (own_min q2 q3)), .second, .val (.long (own_max q2 q3)), .second, .val (.int (1 : Int32)), .val (.int (1 : Int32))] [(.int (1 : Int32))]))
        refine own_step (fun _ κ => XS.ifNo X41.here hx rfl (hb hby at_128) rfl ((if0 _ _).trans (feq (by decide)).1) κ) ?_
        show own_Go _ _ _ _ (T41.setTop (mkF m 131 #[.val (.long q0), .second, .val (.long q1), .second, .val (.long q2), .second, .val (.long q3), .second, .val (.ref b1), .val (.ref b7), .val (.int (1 : Int32)), .val (.int (1 : Int32)), .val (.long (own_min q2 q3)), .second, .val (.long (own_max q2 q3)), .second, .val (.int (1 : Int32)), .val (.int (1 : Int32))] []))
        refine own_step (fun _ κ => XS.iload X41.here hx rfl (hb hby at_131) rfl κ) ?_
        show own_Go _ _ _ _ (T41.setTop (mkF m 133 #[.val (.long q0), .second, .val (.long q1), .second, .val (.long q2), .second, .val (.long q3), .second, .val (.ref b1), .val (.ref b7), .val (.int (1 : Int32)), .val (.int (1 : Int32)), .val (.long (own_min q2 q3)), .second, .val (.long (own_max q2 q3)), .second, .val (.int (1 : Int32)), .val (.int (1 : Int32))] [(.int (1 : Int32))]))
        refine own_step (fun _ κ => XS.ifNo X41.here hx rfl (hb hby at_133) rfl ((if0 _ _).trans (feq (by decide)).1) κ) ?_
        show own_Go _ _ _ _ (T41.setTop (mkF m 136 #[.val (.long q0), .second, .val (.long q1), .second, .val (.long q2), .second, .val (.long q3), .second, .val (.ref b1), .val (.ref b7), .val (.int (1 : Int32)), .val (.int (1 : Int32)), .val (.long (own_min q2 q3)), .second, .val (.long (own_max q2 q3)), .second, .val (.int (1 : Int32)), .val (.int (1 : Int32))] []))
        refine own_step (fun _ κ => XS.iload X41.here hx rfl (hb hby at_136) rfl κ) ?_
        show own_Go _ _ _ _ (T41.setTop (mkF m 138 #[.val (.long q0), .second, .val (.long q1), .second, .val (.long q2), .second, .val (.long q3), .second, .val (.ref b1), .val (.ref b7), .val (.int (1 : Int32)), .val (.int (1 : Int32)), .val (.long (own_min q2 q3)), .second, .val (.long (own_max q2 q3)), .second, .val (.int (1 : Int32)), .val (.int (1 : Int32))] [(.int (1 : Int32))]))
        refine own_step (fun _ κ => XS.ifNo X41.here hx rfl (hb hby at_138) rfl ((if0 _ _).trans (feq (by decide)).1) κ) ?_
        show own_Go _ _ _ _ (T41.setTop (mkF m 141 #[.val (.long q0), .second, .val (.long q1), .second, .val (.long q2), .second, .val (.long q3), .second, .val (.ref b1), .val (.ref b7), .val (.int (1 : Int32)), .val (.int (1 : Int32)), .val (.long (own_min q2 q3)), .second, .val (.long (own_max q2 q3)), .second, .val (.int (1 : Int32)), .val (.int (1 : Int32))] []))
        refine own_step (fun _ κ => XS.iload X41.here hx rfl (hb hby at_141) rfl κ) ?_
        show own_Go _ _ _ _ (T41.setTop (mkF m 143 #[.val (.long q0), .second, .val (.long q1), .second, .val (.long q2), .second, .val (.long q3), .second, .val (.ref b1), .val (.ref b7), .val (.int (1 : Int32)), .val (.int (1 : Int32)), .val (.long (own_min q2 q3)), .second, .val (.long (own_max q2 q3)), .second, .val (.int (1 : Int32)), .val (.int (1 : Int32))] [(.int (1 : Int32))]))
        refine own_step (fun _ κ => XS.ifNo X41.here hx rfl (hb hby at_143) rfl ((if0 _ _).trans (feq (by decide)).1) κ) ?_
        show own_Go _ _ _ _ (T41.setTop (mkF m 146 #[.val (.long q0), .second, .val (.long q1), .second, .val (.long q2), .second, .val (.long q3), .second, .val (.ref b1), .val (.ref b7), .val (.int (1 : Int32)), .val (.int (1 : Int32)), .val (.long (own_min q2 q3)), .second, .val (.long (own_max q2 q3)), .second, .val (.int (1 : Int32)), .val (.int (1 : Int32))] []))
        refine own_step (fun _ κ => XS.iconst X41.here hx rfl (hb hby at_146) κ) ?_
        show own_Go _ _ _ _ (T41.setTop (mkF m 147 #[.val (.long q0), .second, .val (.long q1), .second, .val (.long q2), .second, .val (.long q3), .second, .val (.ref b1), .val (.ref b7), .val (.int (1 : Int32)), .val (.int (1 : Int32)), .val (.long (own_min q2 q3)), .second, .val (.long (own_max q2 q3)), .second, .val (.int (1 : Int32)), .val (.int (1 : Int32))] [(.int (1 : Int32))]))
        refine own_step (fun _ κ => XS.goto X41.here hx rfl (pc0 := 147) (pc' := 151) rfl (hb hby at_147) (by decide) (by decide) κ) ?_
        show own_Go _ _ _ _ (T41.setTop (mkF m 151 #[.val (.long q0), .second, .val (.long q1), .second, .val (.long q2), .second, .val (.long q3), .second, .val (.ref b1), .val (.ref b7), .val (.int (1 : Int32)), .val (.int (1 : Int32)), .val (.long (own_min q2 q3)), .second, .val (.long (own_max q2 q3)), .second, .val (.int (1 : Int32)), .val (.int (1 : Int32))] [(.int (1 : Int32))]))
        obtain ⟨fs, hr, hrun, hended, hW, hsame⟩ := X41.leave (v := some (.int (1 : Int32))) (fun h => by rw [Bd.returns] at h; cases h)
        refine ⟨_, _, retN X41 hx (t := .boolean) Bd.returns (by simp) (hb hby at_151) hr, hrun, hended, _, _, rfl, ?_, ⟨_, rfl⟩, hW, hsame.mono (by decide) (by decide)⟩
        show Q0 Z q0 q1 q2 q3  h0 n0 _ T41.heap _
        exact ⟨rfl, N41⟩
    · rw [if_neg hc37] at hv36
      subst hv36
      refine own_step (fun _ κ => st36.trans κ) ?_
      show own_Go _ _ _ _ (T36.setTop (mkF m 82 #[.val (.long q0), .second, .val (.long q1), .second, .val (.long q2), .second, .val (.long q3), .second, .val (.ref b1), .val (.ref b7), .val (.int (1 : Int32)), .val (.int (1 : Int32)), .val (.long (own_min q2 q3)), .second, .val (.long (own_max q2 q3)), .second, .unset, .unset] [(.int (1 : Int32))]))
      refine own_step (fun _ κ => XS.ifNo X36.here hx rfl (hb hby at_82) rfl ((if0 _ _).trans (feq (by decide)).1) κ) ?_
      show own_Go _ _ _ _ (T36.setTop (mkF m 85 #[.val (.long q0), .second, .val (.long q1), .second, .val (.long q2), .second, .val (.long q3), .second, .val (.ref b1), .val (.ref b7), .val (.int (1 : Int32)), .val (.int (1 : Int32)), .val (.long (own_min q2 q3)), .second, .val (.long (own_max q2 q3)), .second, .unset, .unset] []))
      refine own_step (fun _ κ => XS.aload X36.here hx rfl (hb hby at_85) rfl rfl κ) ?_
      show own_Go _ _ _ _ (T36.setTop (mkF m 87 #[.val (.long q0), .second, .val (.long q1), .second, .val (.long q2), .second, .val (.long q3), .second, .val (.ref b1), .val (.ref b7), .val (.int (1 : Int32)), .val (.int (1 : Int32)), .val (.long (own_min q2 q3)), .second, .val (.long (own_max q2 q3)), .second, .unset, .unset] [(.ref b1)]))
      refine own_step (fun _ κ => XS.lload X36.here hx rfl (hb hby at_87) rfl κ) ?_
      show own_Go _ _ _ _ (T36.setTop (mkF m 89 #[.val (.long q0), .second, .val (.long q1), .second, .val (.long q2), .second, .val (.long q3), .second, .val (.ref b1), .val (.ref b7), .val (.int (1 : Int32)), .val (.int (1 : Int32)), .val (.long (own_min q2 q3)), .second, .val (.long (own_max q2 q3)), .second, .unset, .unset] [(.long (own_max q2 q3)), (.ref b1)]))
      obtain ⟨cq42, kq42, q42a, q42b, q42c⟩ := isOf hZ eq36 f14
      obtain ⟨vr42, _, ⟨T42, L42, k42, n42⟩, -, X42, ⟨Lc42, hQ42, l42, y42, z42⟩, st42⟩ := X36.virtualBack hx (y := (⟨"com/example/credit_clerk/creditclerk/service/Lifetime", "hasEnded", "(J)Z"⟩ : MethodName)) (z := (⟨"com/example/credit_clerk/creditclerk/service/Lifetime", "hasEnded", "(J)Z"⟩ : MethodName)) hown (mvT hZ (hw _ (List.mem_of_getElem? (i := 18) rfl))) (mvT hZ (hw _ (List.mem_of_getElem? (i := 19) rfl))) (notFace_of_selects (args := #[]) (mvT hZ (hw _ (List.mem_of_getElem? (i := 21) rfl)))) (mvT hZ (hw _ (List.mem_of_getElem? (i := 21) rfl))) (mvT hZ (hw _ (List.mem_of_getElem? (i := 20) rfl))) (by decide) (backOf (W := 0) (rm3 l Z a0 hw [] b1 (own_max q2 q3) q1 T13.heap n0 z17 f15) hZ (hw _ (List.mem_of_getElem? (i := 22) rfl)) (hw _ (List.mem_of_getElem? (i := 2) rfl)) (by decide) (by decide)) q42a q42c (g := (mkF m 89 #[.val (.long q0), .second, .val (.long q1), .second, .val (.long q2), .second, .val (.long q3), .second, .val (.ref b1), .val (.ref b7), .val (.int (1 : Int32)), .val (.int (1 : Int32)), .val (.long (own_min q2 q3)), .second, .val (.long (own_max q2 q3)), .second, .unset, .unset] [(.long (own_max q2 q3)), (.ref b1)])) rfl (by rw [hml]; rfl) (Steps.refl _) (argsL := [(.long (own_max q2 q3))]) (rest := []) (lenOf pd_2 rfl) rfl (by show 2 * 0 + _ ≤ _; exact Nat.le_of_eq rfl) (hb hby at_89) (fun _ _ => ⟨rfl, eq36, (by decide : 2 + 0 ≤ _), (by decide : 4 + 0 ≤ _)⟩)
      dsimp only [Pt.U, Pt.locs, Pt.cells, Pt.slots] at X42 l42 y42 z42 st42 hQ42
      subst l42 y42 z42
      obtain ⟨hv42, Nq42, eq42⟩ := hQ42
      have N42 := Fr.app N36 Nq42
      rw [if_neg (own_mono hc37)] at hv42
      subst hv42
      refine own_step (fun _ κ => st42.trans κ) ?_
      show own_Go _ _ _ _ (T42.setTop (mkF m 92 #[.val (.long q0), .second, .val (.long q1), .second, .val (.long q2), .second, .val (.long q3), .second, .val (.ref b1), .val (.ref b7), .val (.int (1 : Int32)), .val (.int (1 : Int32)), .val (.long (own_min q2 q3)), .second, .val (.long (own_max q2 q3)), .second, .unset, .unset] [(.int (1 : Int32))]))
      refine own_step (fun _ κ => XS.ifNo X42.here hx rfl (hb hby at_92) rfl ((if0 _ _).trans (feq (by decide)).1) κ) ?_
      show own_Go _ _ _ _ (T42.setTop (mkF m 95 #[.val (.long q0), .second, .val (.long q1), .second, .val (.long q2), .second, .val (.long q3), .second, .val (.ref b1), .val (.ref b7), .val (.int (1 : Int32)), .val (.int (1 : Int32)), .val (.long (own_min q2 q3)), .second, .val (.long (own_max q2 q3)), .second, .unset, .unset] []))
      refine own_step (fun _ κ => XS.iconst X42.here hx rfl (hb hby at_95) κ) ?_
      show own_Go _ _ _ _ (T42.setTop (mkF m 96 #[.val (.long q0), .second, .val (.long q1), .second, .val (.long q2), .second, .val (.long q3), .second, .val (.ref b1), .val (.ref b7), .val (.int (1 : Int32)), .val (.int (1 : Int32)), .val (.long (own_min q2 q3)), .second, .val (.long (own_max q2 q3)), .second, .unset, .unset] [(.int (1 : Int32))]))
      refine own_step (fun _ κ => XS.goto X42.here hx rfl (pc0 := 96) (pc' := 100) rfl (hb hby at_96) (by decide) (by decide) κ) ?_
      show own_Go _ _ _ _ (T42.setTop (mkF m 100 #[.val (.long q0), .second, .val (.long q1), .second, .val (.long q2), .second, .val (.long q3), .second, .val (.ref b1), .val (.ref b7), .val (.int (1 : Int32)), .val (.int (1 : Int32)), .val (.long (own_min q2 q3)), .second, .val (.long (own_max q2 q3)), .second, .unset, .unset] [(.int (1 : Int32))]))
      refine own_step (fun _ κ => XS.istore X42.here hx rfl (hb hby at_100) rfl (l' := #[.val (.long q0), .second, .val (.long q1), .second, .val (.long q2), .second, .val (.long q3), .second, .val (.ref b1), .val (.ref b7), .val (.int (1 : Int32)), .val (.int (1 : Int32)), .val (.long (own_min q2 q3)), .second, .val (.long (own_max q2 q3)), .second, .val (.int (1 : Int32)), .unset]) rfl κ) ?_
      show own_Go _ _ _ _ (T42.setTop (mkF m 102 #[.val (.long q0), .second, .val (.long q1), .second, .val (.long q2), .second, .val (.long q3), .second, .val (.ref b1), .val (.ref b7), .val (.int (1 : Int32)), .val (.int (1 : Int32)), .val (.long (own_min q2 q3)), .second, .val (.long (own_max q2 q3)), .second, .val (.int (1 : Int32)), .unset] []))
      refine own_step (fun _ κ => XS.aload X42.here hx rfl (hb hby at_102) rfl rfl κ) ?_
      show own_Go _ _ _ _ (T42.setTop (mkF m 104 #[.val (.long q0), .second, .val (.long q1), .second, .val (.long q2), .second, .val (.long q3), .second, .val (.ref b1), .val (.ref b7), .val (.int (1 : Int32)), .val (.int (1 : Int32)), .val (.long (own_min q2 q3)), .second, .val (.long (own_max q2 q3)), .second, .val (.int (1 : Int32)), .unset] [(.ref b1)]))
      refine own_step (fun _ κ => XS.lload X42.here hx rfl (hb hby at_104) rfl κ) ?_
      show own_Go _ _ _ _ (T42.setTop (mkF m 106 #[.val (.long q0), .second, .val (.long q1), .second, .val (.long q2), .second, .val (.long q3), .second, .val (.ref b1), .val (.ref b7), .val (.int (1 : Int32)), .val (.int (1 : Int32)), .val (.long (own_min q2 q3)), .second, .val (.long (own_max q2 q3)), .second, .val (.int (1 : Int32)), .unset] [(.long q2), (.ref b1)]))
      obtain ⟨cq43, kq43, q43a, q43b, q43c⟩ := isOf hZ eq42 f14
      obtain ⟨vr43, _, ⟨T43, L43, k43, n43⟩, -, X43, ⟨Lc43, hQ43, l43, y43, z43⟩, st43⟩ := X42.virtualBack hx (y := (⟨"com/example/credit_clerk/creditclerk/service/Lifetime", "hasEnded", "(J)Z"⟩ : MethodName)) (z := (⟨"com/example/credit_clerk/creditclerk/service/Lifetime", "hasEnded", "(J)Z"⟩ : MethodName)) hown (mvT hZ (hw _ (List.mem_of_getElem? (i := 18) rfl))) (mvT hZ (hw _ (List.mem_of_getElem? (i := 19) rfl))) (notFace_of_selects (args := #[]) (mvT hZ (hw _ (List.mem_of_getElem? (i := 21) rfl)))) (mvT hZ (hw _ (List.mem_of_getElem? (i := 21) rfl))) (mvT hZ (hw _ (List.mem_of_getElem? (i := 20) rfl))) (by decide) (backOf (W := 0) (rm3 l Z a0 hw [] b1 q2 q1 T13.heap n0 z17 f15) hZ (hw _ (List.mem_of_getElem? (i := 22) rfl)) (hw _ (List.mem_of_getElem? (i := 2) rfl)) (by decide) (by decide)) q43a q43c (g := (mkF m 106 #[.val (.long q0), .second, .val (.long q1), .second, .val (.long q2), .second, .val (.long q3), .second, .val (.ref b1), .val (.ref b7), .val (.int (1 : Int32)), .val (.int (1 : Int32)), .val (.long (own_min q2 q3)), .second, .val (.long (own_max q2 q3)), .second, .val (.int (1 : Int32)), .unset] [(.long q2), (.ref b1)])) rfl (by rw [hml]; rfl) (Steps.refl _) (argsL := [(.long q2)]) (rest := []) (lenOf pd_2 rfl) rfl (by show 2 * 0 + _ ≤ _; exact Nat.le_of_eq rfl) (hb hby at_106) (fun _ _ => ⟨rfl, eq42, (by decide : 2 + 0 ≤ _), (by decide : 4 + 0 ≤ _)⟩)
      dsimp only [Pt.U, Pt.locs, Pt.cells, Pt.slots] at X43 l43 y43 z43 st43 hQ43
      subst l43 y43 z43
      obtain ⟨hv43, Nq43, eq43⟩ := hQ43
      have N43 := Fr.app N42 Nq43
      by_cases hc44 : q2 < q1
      · rw [if_pos hc44] at hv43
        subst hv43
        refine own_step (fun _ κ => st43.trans κ) ?_
        show own_Go _ _ _ _ (T43.setTop (mkF m 109 #[.val (.long q0), .second, .val (.long q1), .second, .val (.long q2), .second, .val (.long q3), .second, .val (.ref b1), .val (.ref b7), .val (.int (1 : Int32)), .val (.int (1 : Int32)), .val (.long (own_min q2 q3)), .second, .val (.long (own_max q2 q3)), .second, .val (.int (1 : Int32)), .unset] [(.int (0 : Int32))]))
        refine own_step (fun _ κ => XS.aload X43.here hx rfl (hb hby at_109) rfl rfl κ) ?_
        show own_Go _ _ _ _ (T43.setTop (mkF m 111 #[.val (.long q0), .second, .val (.long q1), .second, .val (.long q2), .second, .val (.long q3), .second, .val (.ref b1), .val (.ref b7), .val (.int (1 : Int32)), .val (.int (1 : Int32)), .val (.long (own_min q2 q3)), .second, .val (.long (own_max q2 q3)), .second, .val (.int (1 : Int32)), .unset] [(.ref b7), (.int (0 : Int32))]))
        refine own_step (fun _ κ => XS.lload X43.here hx rfl (hb hby at_111) rfl κ) ?_
        show own_Go _ _ _ _ (T43.setTop (mkF m 113 #[.val (.long q0), .second, .val (.long q1), .second, .val (.long q2), .second, .val (.long q3), .second, .val (.ref b1), .val (.ref b7), .val (.int (1 : Int32)), .val (.int (1 : Int32)), .val (.long (own_min q2 q3)), .second, .val (.long (own_max q2 q3)), .second, .val (.int (1 : Int32)), .unset] [(.long q2), (.ref b7), (.int (0 : Int32))]))
        obtain ⟨cq45, kq45, q45a, q45b, q45c⟩ := isOf hZ eq43 p13_0
        obtain ⟨vr45, _, ⟨T45, L45, k45, n45⟩, -, X45, ⟨Lc45, hQ45, l45, y45, z45⟩, st45⟩ := X43.virtualBack hx (y := (⟨"com/example/credit_clerk/creditclerk/service/Lifetime", "hasEnded", "(J)Z"⟩ : MethodName)) (z := (⟨"com/example/credit_clerk/creditclerk/service/Lifetime", "hasEnded", "(J)Z"⟩ : MethodName)) hown (mvT hZ (hw _ (List.mem_of_getElem? (i := 18) rfl))) (mvT hZ (hw _ (List.mem_of_getElem? (i := 19) rfl))) (notFace_of_selects (args := #[]) (mvT hZ (hw _ (List.mem_of_getElem? (i := 21) rfl)))) (mvT hZ (hw _ (List.mem_of_getElem? (i := 21) rfl))) (mvT hZ (hw _ (List.mem_of_getElem? (i := 20) rfl))) (by decide) (backOf (W := 1) (rm3 l Z a0 hw [] b7 q2 q1 T13.heap n0 z17 p13_1) hZ (hw _ (List.mem_of_getElem? (i := 22) rfl)) (hw _ (List.mem_of_getElem? (i := 2) rfl)) (by decide) (by decide)) q45a q45c (g := (mkF m 113 #[.val (.long q0), .second, .val (.long q1), .second, .val (.long q2), .second, .val (.long q3), .second, .val (.ref b1), .val (.ref b7), .val (.int (1 : Int32)), .val (.int (1 : Int32)), .val (.long (own_min q2 q3)), .second, .val (.long (own_max q2 q3)), .second, .val (.int (1 : Int32)), .unset] [(.long q2), (.ref b7), (.int (0 : Int32))])) rfl (by rw [hml]; rfl) (Steps.refl _) (argsL := [(.long q2)]) (rest := [(.int (0 : Int32))]) (lenOf pd_2 rfl) rfl (by show 2 * 0 + _ ≤ _; exact Nat.le_of_eq rfl) (hb hby at_113) (fun _ _ => ⟨rfl, eq43, (by decide : 2 + 0 ≤ _), (by decide : 4 + 0 ≤ _)⟩)
        dsimp only [Pt.U, Pt.locs, Pt.cells, Pt.slots] at X45 l45 y45 z45 st45 hQ45
        subst l45 y45 z45
        obtain ⟨hv45, Nq45, eq45⟩ := hQ45
        have N45 := Fr.app N43 Nq45
        rw [if_pos hc44] at hv45
        subst hv45
        refine own_step (fun _ κ => st45.trans κ) ?_
        show own_Go _ _ _ _ (T45.setTop (mkF m 116 #[.val (.long q0), .second, .val (.long q1), .second, .val (.long q2), .second, .val (.long q3), .second, .val (.ref b1), .val (.ref b7), .val (.int (1 : Int32)), .val (.int (1 : Int32)), .val (.long (own_min q2 q3)), .second, .val (.long (own_max q2 q3)), .second, .val (.int (1 : Int32)), .unset] [(.int (0 : Int32)), (.int (0 : Int32))]))
        refine own_step (fun _ κ => XS.icmpNo X45.here hx rfl (hb hby at_116) rfl (teq rfl).2 κ) ?_
        show own_Go _ _ _ _ (T45.setTop (mkF m 119 #[.val (.long q0), .second, .val (.long q1), .second, .val (.long q2), .second, .val (.long q3), .second, .val (.ref b1), .val (.ref b7), .val (.int (1 : Int32)), .val (.int (1 : Int32)), .val (.long (own_min q2 q3)), .second, .val (.long (own_max q2 q3)), .second, .val (.int (1 : Int32)), .unset] []))
        refine own_step (fun _ κ => XS.iconst X45.here hx rfl (hb hby at_119) κ) ?_
        show own_Go _ _ _ _ (T45.setTop (mkF m 120 #[.val (.long q0), .second, .val (.long q1), .second, .val (.long q2), .second, .val (.long q3), .second, .val (.ref b1), .val (.ref b7), .val (.int (1 : Int32)), .val (.int (1 : Int32)), .val (.long (own_min q2 q3)), .second, .val (.long (own_max q2 q3)), .second, .val (.int (1 : Int32)), .unset] [(.int (1 : Int32))]))
        refine own_step (fun _ κ => XS.goto X45.here hx rfl (pc0 := 120) (pc' := 124) rfl (hb hby at_120) (by decide) (by decide) κ) ?_
        show own_Go _ _ _ _ (T45.setTop (mkF m 124 #[.val (.long q0), .second, .val (.long q1), .second, .val (.long q2), .second, .val (.long q3), .second, .val (.ref b1), .val (.ref b7), .val (.int (1 : Int32)), .val (.int (1 : Int32)), .val (.long (own_min q2 q3)), .second, .val (.long (own_max q2 q3)), .second, .val (.int (1 : Int32)), .unset] [(.int (1 : Int32))]))
        refine own_step (fun _ κ => XS.istore X45.here hx rfl (hb hby at_124) rfl (l' := #[.val (.long q0), .second, .val (.long q1), .second, .val (.long q2), .second, .val (.long q3), .second, .val (.ref b1), .val (.ref b7), .val (.int (1 : Int32)), .val (.int (1 : Int32)), .val (.long (own_min q2 q3)), .second, .val (.long (own_max q2 q3)), .second, .val (.int (1 : Int32)), .val (.int (1 : Int32))]) rfl κ) ?_
        show own_Go _ _ _ _ (T45.setTop (mkF m 126 #[.val (.long q0), .second, .val (.long q1), .second, .val (.long q2), .second, .val (.long q3), .second, .val (.ref b1), .val (.ref b7), .val (.int (1 : Int32)), .val (.int (1 : Int32)), .val (.long (own_min q2 q3)), .second, .val (.long (own_max q2 q3)), .second, .val (.int (1 : Int32)), .val (.int (1 : Int32))] []))
        refine own_step (fun _ κ => XS.iload X45.here hx rfl (hb hby at_126) rfl κ) ?_
        show own_Go _ _ _ _ (T45.setTop (mkF m 128 #[.val (.long q0), .second, .val (.long q1), .second, .val (.long q2), .second, .val (.long q3), .second, .val (.ref b1), .val (.ref b7), .val (.int (1 : Int32)), .val (.int (1 : Int32)), .val (.long (own_min q2 q3)), .second, .val (.long (own_max q2 q3)), .second, .val (.int (1 : Int32)), .val (.int (1 : Int32))] [(.int (1 : Int32))]))
        refine own_step (fun _ κ => XS.ifNo X45.here hx rfl (hb hby at_128) rfl ((if0 _ _).trans (feq (by decide)).1) κ) ?_
        show own_Go _ _ _ _ (T45.setTop (mkF m 131 #[.val (.long q0), .second, .val (.long q1), .second, .val (.long q2), .second, .val (.long q3), .second, .val (.ref b1), .val (.ref b7), .val (.int (1 : Int32)), .val (.int (1 : Int32)), .val (.long (own_min q2 q3)), .second, .val (.long (own_max q2 q3)), .second, .val (.int (1 : Int32)), .val (.int (1 : Int32))] []))
        refine own_step (fun _ κ => XS.iload X45.here hx rfl (hb hby at_131) rfl κ) ?_
        show own_Go _ _ _ _ (T45.setTop (mkF m 133 #[.val (.long q0), .second, .val (.long q1), .second, .val (.long q2), .second, .val (.long q3), .second, .val (.ref b1), .val (.ref b7), .val (.int (1 : Int32)), .val (.int (1 : Int32)), .val (.long (own_min q2 q3)), .second, .val (.long (own_max q2 q3)), .second, .val (.int (1 : Int32)), .val (.int (1 : Int32))] [(.int (1 : Int32))]))
        refine own_step (fun _ κ => XS.ifNo X45.here hx rfl (hb hby at_133) rfl ((if0 _ _).trans (feq (by decide)).1) κ) ?_
        show own_Go _ _ _ _ (T45.setTop (mkF m 136 #[.val (.long q0), .second, .val (.long q1), .second, .val (.long q2), .second, .val (.long q3), .second, .val (.ref b1), .val (.ref b7), .val (.int (1 : Int32)), .val (.int (1 : Int32)), .val (.long (own_min q2 q3)), .second, .val (.long (own_max q2 q3)), .second, .val (.int (1 : Int32)), .val (.int (1 : Int32))] []))
        refine own_step (fun _ κ => XS.iload X45.here hx rfl (hb hby at_136) rfl κ) ?_
        show own_Go _ _ _ _ (T45.setTop (mkF m 138 #[.val (.long q0), .second, .val (.long q1), .second, .val (.long q2), .second, .val (.long q3), .second, .val (.ref b1), .val (.ref b7), .val (.int (1 : Int32)), .val (.int (1 : Int32)), .val (.long (own_min q2 q3)), .second, .val (.long (own_max q2 q3)), .second, .val (.int (1 : Int32)), .val (.int (1 : Int32))] [(.int (1 : Int32))]))
        refine own_step (fun _ κ => XS.ifNo X45.here hx rfl (hb hby at_138) rfl ((if0 _ _).trans (feq (by decide)).1) κ) ?_
        show own_Go _ _ _ _ (T45.setTop (mkF m 141 #[.val (.long q0), .second, .val (.long q1), .second, .val (.long q2), .second, .val (.long q3), .second, .val (.ref b1), .val (.ref b7), .val (.int (1 : Int32)), .val (.int (1 : Int32)), .val (.long (own_min q2 q3)), .second, .val (.long (own_max q2 q3)), .second, .val (.int (1 : Int32)), .val (.int (1 : Int32))] []))
        refine own_step (fun _ κ => XS.iload X45.here hx rfl (hb hby at_141) rfl κ) ?_
        show own_Go _ _ _ _ (T45.setTop (mkF m 143 #[.val (.long q0), .second, .val (.long q1), .second, .val (.long q2), .second, .val (.long q3), .second, .val (.ref b1), .val (.ref b7), .val (.int (1 : Int32)), .val (.int (1 : Int32)), .val (.long (own_min q2 q3)), .second, .val (.long (own_max q2 q3)), .second, .val (.int (1 : Int32)), .val (.int (1 : Int32))] [(.int (1 : Int32))]))
        refine own_step (fun _ κ => XS.ifNo X45.here hx rfl (hb hby at_143) rfl ((if0 _ _).trans (feq (by decide)).1) κ) ?_
        show own_Go _ _ _ _ (T45.setTop (mkF m 146 #[.val (.long q0), .second, .val (.long q1), .second, .val (.long q2), .second, .val (.long q3), .second, .val (.ref b1), .val (.ref b7), .val (.int (1 : Int32)), .val (.int (1 : Int32)), .val (.long (own_min q2 q3)), .second, .val (.long (own_max q2 q3)), .second, .val (.int (1 : Int32)), .val (.int (1 : Int32))] []))
        refine own_step (fun _ κ => XS.iconst X45.here hx rfl (hb hby at_146) κ) ?_
        show own_Go _ _ _ _ (T45.setTop (mkF m 147 #[.val (.long q0), .second, .val (.long q1), .second, .val (.long q2), .second, .val (.long q3), .second, .val (.ref b1), .val (.ref b7), .val (.int (1 : Int32)), .val (.int (1 : Int32)), .val (.long (own_min q2 q3)), .second, .val (.long (own_max q2 q3)), .second, .val (.int (1 : Int32)), .val (.int (1 : Int32))] [(.int (1 : Int32))]))
        refine own_step (fun _ κ => XS.goto X45.here hx rfl (pc0 := 147) (pc' := 151) rfl (hb hby at_147) (by decide) (by decide) κ) ?_
        show own_Go _ _ _ _ (T45.setTop (mkF m 151 #[.val (.long q0), .second, .val (.long q1), .second, .val (.long q2), .second, .val (.long q3), .second, .val (.ref b1), .val (.ref b7), .val (.int (1 : Int32)), .val (.int (1 : Int32)), .val (.long (own_min q2 q3)), .second, .val (.long (own_max q2 q3)), .second, .val (.int (1 : Int32)), .val (.int (1 : Int32))] [(.int (1 : Int32))]))
        obtain ⟨fs, hr, hrun, hended, hW, hsame⟩ := X45.leave (v := some (.int (1 : Int32))) (fun h => by rw [Bd.returns] at h; cases h)
        refine ⟨_, _, retN X45 hx (t := .boolean) Bd.returns (by simp) (hb hby at_151) hr, hrun, hended, _, _, rfl, ?_, ⟨_, rfl⟩, hW, hsame.mono (by decide) (by decide)⟩
        show Q0 Z q0 q1 q2 q3  h0 n0 _ T45.heap _
        exact ⟨rfl, N45⟩
      · rw [if_neg hc44] at hv43
        subst hv43
        refine own_step (fun _ κ => st43.trans κ) ?_
        show own_Go _ _ _ _ (T43.setTop (mkF m 109 #[.val (.long q0), .second, .val (.long q1), .second, .val (.long q2), .second, .val (.long q3), .second, .val (.ref b1), .val (.ref b7), .val (.int (1 : Int32)), .val (.int (1 : Int32)), .val (.long (own_min q2 q3)), .second, .val (.long (own_max q2 q3)), .second, .val (.int (1 : Int32)), .unset] [(.int (1 : Int32))]))
        refine own_step (fun _ κ => XS.aload X43.here hx rfl (hb hby at_109) rfl rfl κ) ?_
        show own_Go _ _ _ _ (T43.setTop (mkF m 111 #[.val (.long q0), .second, .val (.long q1), .second, .val (.long q2), .second, .val (.long q3), .second, .val (.ref b1), .val (.ref b7), .val (.int (1 : Int32)), .val (.int (1 : Int32)), .val (.long (own_min q2 q3)), .second, .val (.long (own_max q2 q3)), .second, .val (.int (1 : Int32)), .unset] [(.ref b7), (.int (1 : Int32))]))
        refine own_step (fun _ κ => XS.lload X43.here hx rfl (hb hby at_111) rfl κ) ?_
        show own_Go _ _ _ _ (T43.setTop (mkF m 113 #[.val (.long q0), .second, .val (.long q1), .second, .val (.long q2), .second, .val (.long q3), .second, .val (.ref b1), .val (.ref b7), .val (.int (1 : Int32)), .val (.int (1 : Int32)), .val (.long (own_min q2 q3)), .second, .val (.long (own_max q2 q3)), .second, .val (.int (1 : Int32)), .unset] [(.long q2), (.ref b7), (.int (1 : Int32))]))
        obtain ⟨cq46, kq46, q46a, q46b, q46c⟩ := isOf hZ eq43 p13_0
        obtain ⟨vr46, _, ⟨T46, L46, k46, n46⟩, -, X46, ⟨Lc46, hQ46, l46, y46, z46⟩, st46⟩ := X43.virtualBack hx (y := (⟨"com/example/credit_clerk/creditclerk/service/Lifetime", "hasEnded", "(J)Z"⟩ : MethodName)) (z := (⟨"com/example/credit_clerk/creditclerk/service/Lifetime", "hasEnded", "(J)Z"⟩ : MethodName)) hown (mvT hZ (hw _ (List.mem_of_getElem? (i := 18) rfl))) (mvT hZ (hw _ (List.mem_of_getElem? (i := 19) rfl))) (notFace_of_selects (args := #[]) (mvT hZ (hw _ (List.mem_of_getElem? (i := 21) rfl)))) (mvT hZ (hw _ (List.mem_of_getElem? (i := 21) rfl))) (mvT hZ (hw _ (List.mem_of_getElem? (i := 20) rfl))) (by decide) (backOf (W := 1) (rm3 l Z a0 hw [] b7 q2 q1 T13.heap n0 z17 p13_1) hZ (hw _ (List.mem_of_getElem? (i := 22) rfl)) (hw _ (List.mem_of_getElem? (i := 2) rfl)) (by decide) (by decide)) q46a q46c (g := (mkF m 113 #[.val (.long q0), .second, .val (.long q1), .second, .val (.long q2), .second, .val (.long q3), .second, .val (.ref b1), .val (.ref b7), .val (.int (1 : Int32)), .val (.int (1 : Int32)), .val (.long (own_min q2 q3)), .second, .val (.long (own_max q2 q3)), .second, .val (.int (1 : Int32)), .unset] [(.long q2), (.ref b7), (.int (1 : Int32))])) rfl (by rw [hml]; rfl) (Steps.refl _) (argsL := [(.long q2)]) (rest := [(.int (1 : Int32))]) (lenOf pd_2 rfl) rfl (by show 2 * 0 + _ ≤ _; exact Nat.le_of_eq rfl) (hb hby at_113) (fun _ _ => ⟨rfl, eq43, (by decide : 2 + 0 ≤ _), (by decide : 4 + 0 ≤ _)⟩)
        dsimp only [Pt.U, Pt.locs, Pt.cells, Pt.slots] at X46 l46 y46 z46 st46 hQ46
        subst l46 y46 z46
        obtain ⟨hv46, Nq46, eq46⟩ := hQ46
        have N46 := Fr.app N43 Nq46
        rw [if_neg hc44] at hv46
        subst hv46
        refine own_step (fun _ κ => st46.trans κ) ?_
        show own_Go _ _ _ _ (T46.setTop (mkF m 116 #[.val (.long q0), .second, .val (.long q1), .second, .val (.long q2), .second, .val (.long q3), .second, .val (.ref b1), .val (.ref b7), .val (.int (1 : Int32)), .val (.int (1 : Int32)), .val (.long (own_min q2 q3)), .second, .val (.long (own_max q2 q3)), .second, .val (.int (1 : Int32)), .unset] [(.int (1 : Int32)), (.int (1 : Int32))]))
        refine own_step (fun _ κ => XS.icmpNo X46.here hx rfl (hb hby at_116) rfl (teq rfl).2 κ) ?_
        show own_Go _ _ _ _ (T46.setTop (mkF m 119 #[.val (.long q0), .second, .val (.long q1), .second, .val (.long q2), .second, .val (.long q3), .second, .val (.ref b1), .val (.ref b7), .val (.int (1 : Int32)), .val (.int (1 : Int32)), .val (.long (own_min q2 q3)), .second, .val (.long (own_max q2 q3)), .second, .val (.int (1 : Int32)), .unset] []))
        refine own_step (fun _ κ => XS.iconst X46.here hx rfl (hb hby at_119) κ) ?_
        show own_Go _ _ _ _ (T46.setTop (mkF m 120 #[.val (.long q0), .second, .val (.long q1), .second, .val (.long q2), .second, .val (.long q3), .second, .val (.ref b1), .val (.ref b7), .val (.int (1 : Int32)), .val (.int (1 : Int32)), .val (.long (own_min q2 q3)), .second, .val (.long (own_max q2 q3)), .second, .val (.int (1 : Int32)), .unset] [(.int (1 : Int32))]))
        refine own_step (fun _ κ => XS.goto X46.here hx rfl (pc0 := 120) (pc' := 124) rfl (hb hby at_120) (by decide) (by decide) κ) ?_
        show own_Go _ _ _ _ (T46.setTop (mkF m 124 #[.val (.long q0), .second, .val (.long q1), .second, .val (.long q2), .second, .val (.long q3), .second, .val (.ref b1), .val (.ref b7), .val (.int (1 : Int32)), .val (.int (1 : Int32)), .val (.long (own_min q2 q3)), .second, .val (.long (own_max q2 q3)), .second, .val (.int (1 : Int32)), .unset] [(.int (1 : Int32))]))
        refine own_step (fun _ κ => XS.istore X46.here hx rfl (hb hby at_124) rfl (l' := #[.val (.long q0), .second, .val (.long q1), .second, .val (.long q2), .second, .val (.long q3), .second, .val (.ref b1), .val (.ref b7), .val (.int (1 : Int32)), .val (.int (1 : Int32)), .val (.long (own_min q2 q3)), .second, .val (.long (own_max q2 q3)), .second, .val (.int (1 : Int32)), .val (.int (1 : Int32))]) rfl κ) ?_
        show own_Go _ _ _ _ (T46.setTop (mkF m 126 #[.val (.long q0), .second, .val (.long q1), .second, .val (.long q2), .second, .val (.long q3), .second, .val (.ref b1), .val (.ref b7), .val (.int (1 : Int32)), .val (.int (1 : Int32)), .val (.long (own_min q2 q3)), .second, .val (.long (own_max q2 q3)), .second, .val (.int (1 : Int32)), .val (.int (1 : Int32))] []))
        refine own_step (fun _ κ => XS.iload X46.here hx rfl (hb hby at_126) rfl κ) ?_
        show own_Go _ _ _ _ (T46.setTop (mkF m 128 #[.val (.long q0), .second, .val (.long q1), .second, .val (.long q2), .second, .val (.long q3), .second, .val (.ref b1), .val (.ref b7), .val (.int (1 : Int32)), .val (.int (1 : Int32)), .val (.long (own_min q2 q3)), .second, .val (.long (own_max q2 q3)), .second, .val (.int (1 : Int32)), .val (.int (1 : Int32))] [(.int (1 : Int32))]))
        refine own_step (fun _ κ => XS.ifNo X46.here hx rfl (hb hby at_128) rfl ((if0 _ _).trans (feq (by decide)).1) κ) ?_
        show own_Go _ _ _ _ (T46.setTop (mkF m 131 #[.val (.long q0), .second, .val (.long q1), .second, .val (.long q2), .second, .val (.long q3), .second, .val (.ref b1), .val (.ref b7), .val (.int (1 : Int32)), .val (.int (1 : Int32)), .val (.long (own_min q2 q3)), .second, .val (.long (own_max q2 q3)), .second, .val (.int (1 : Int32)), .val (.int (1 : Int32))] []))
        refine own_step (fun _ κ => XS.iload X46.here hx rfl (hb hby at_131) rfl κ) ?_
        show own_Go _ _ _ _ (T46.setTop (mkF m 133 #[.val (.long q0), .second, .val (.long q1), .second, .val (.long q2), .second, .val (.long q3), .second, .val (.ref b1), .val (.ref b7), .val (.int (1 : Int32)), .val (.int (1 : Int32)), .val (.long (own_min q2 q3)), .second, .val (.long (own_max q2 q3)), .second, .val (.int (1 : Int32)), .val (.int (1 : Int32))] [(.int (1 : Int32))]))
        refine own_step (fun _ κ => XS.ifNo X46.here hx rfl (hb hby at_133) rfl ((if0 _ _).trans (feq (by decide)).1) κ) ?_
        show own_Go _ _ _ _ (T46.setTop (mkF m 136 #[.val (.long q0), .second, .val (.long q1), .second, .val (.long q2), .second, .val (.long q3), .second, .val (.ref b1), .val (.ref b7), .val (.int (1 : Int32)), .val (.int (1 : Int32)), .val (.long (own_min q2 q3)), .second, .val (.long (own_max q2 q3)), .second, .val (.int (1 : Int32)), .val (.int (1 : Int32))] []))
        refine own_step (fun _ κ => XS.iload X46.here hx rfl (hb hby at_136) rfl κ) ?_
        show own_Go _ _ _ _ (T46.setTop (mkF m 138 #[.val (.long q0), .second, .val (.long q1), .second, .val (.long q2), .second, .val (.long q3), .second, .val (.ref b1), .val (.ref b7), .val (.int (1 : Int32)), .val (.int (1 : Int32)), .val (.long (own_min q2 q3)), .second, .val (.long (own_max q2 q3)), .second, .val (.int (1 : Int32)), .val (.int (1 : Int32))] [(.int (1 : Int32))]))
        refine own_step (fun _ κ => XS.ifNo X46.here hx rfl (hb hby at_138) rfl ((if0 _ _).trans (feq (by decide)).1) κ) ?_
        show own_Go _ _ _ _ (T46.setTop (mkF m 141 #[.val (.long q0), .second, .val (.long q1), .second, .val (.long q2), .second, .val (.long q3), .second, .val (.ref b1), .val (.ref b7), .val (.int (1 : Int32)), .val (.int (1 : Int32)), .val (.long (own_min q2 q3)), .second, .val (.long (own_max q2 q3)), .second, .val (.int (1 : Int32)), .val (.int (1 : Int32))] []))
        refine own_step (fun _ κ => XS.iload X46.here hx rfl (hb hby at_141) rfl κ) ?_
        show own_Go _ _ _ _ (T46.setTop (mkF m 143 #[.val (.long q0), .second, .val (.long q1), .second, .val (.long q2), .second, .val (.long q3), .second, .val (.ref b1), .val (.ref b7), .val (.int (1 : Int32)), .val (.int (1 : Int32)), .val (.long (own_min q2 q3)), .second, .val (.long (own_max q2 q3)), .second, .val (.int (1 : Int32)), .val (.int (1 : Int32))] [(.int (1 : Int32))]))
        refine own_step (fun _ κ => XS.ifNo X46.here hx rfl (hb hby at_143) rfl ((if0 _ _).trans (feq (by decide)).1) κ) ?_
        show own_Go _ _ _ _ (T46.setTop (mkF m 146 #[.val (.long q0), .second, .val (.long q1), .second, .val (.long q2), .second, .val (.long q3), .second, .val (.ref b1), .val (.ref b7), .val (.int (1 : Int32)), .val (.int (1 : Int32)), .val (.long (own_min q2 q3)), .second, .val (.long (own_max q2 q3)), .second, .val (.int (1 : Int32)), .val (.int (1 : Int32))] []))
        refine own_step (fun _ κ => XS.iconst X46.here hx rfl (hb hby at_146) κ) ?_
        show own_Go _ _ _ _ (T46.setTop (mkF m 147 #[.val (.long q0), .second, .val (.long q1), .second, .val (.long q2), .second, .val (.long q3), .second, .val (.ref b1), .val (.ref b7), .val (.int (1 : Int32)), .val (.int (1 : Int32)), .val (.long (own_min q2 q3)), .second, .val (.long (own_max q2 q3)), .second, .val (.int (1 : Int32)), .val (.int (1 : Int32))] [(.int (1 : Int32))]))
        refine own_step (fun _ κ => XS.goto X46.here hx rfl (pc0 := 147) (pc' := 151) rfl (hb hby at_147) (by decide) (by decide) κ) ?_
        show own_Go _ _ _ _ (T46.setTop (mkF m 151 #[.val (.long q0), .second, .val (.long q1), .second, .val (.long q2), .second, .val (.long q3), .second, .val (.ref b1), .val (.ref b7), .val (.int (1 : Int32)), .val (.int (1 : Int32)), .val (.long (own_min q2 q3)), .second, .val (.long (own_max q2 q3)), .second, .val (.int (1 : Int32)), .val (.int (1 : Int32))] [(.int (1 : Int32))]))
        obtain ⟨fs, hr, hrun, hended, hW, hsame⟩ := X46.leave (v := some (.int (1 : Int32))) (fun h => by rw [Bd.returns] at h; cases h)
        refine ⟨_, _, retN X46 hx (t := .boolean) Bd.returns (by simp) (hb hby at_151) hr, hrun, hended, _, _, rfl, ?_, ⟨_, rfl⟩, hW, hsame.mono (by decide) (by decide)⟩
        show Q0 Z q0 q1 q2 q3  h0 n0 _ T46.heap _
        exact ⟨rfl, N46⟩
set_option maxRecDepth 65536 in
set_option maxHeartbeats 40000000 in
theorem comes_1 {Post : Tables → Env → Array Value → State → Outcome → State → Prop} (hpost : ∀ tb e args s v u, (limb_1_1.after args s (.returned v) u = true ∧ limb_1_2.after args s (.returned v) u = true ∧ True) → FrameEnd s (.returned v) u (Jvm.fieldLocs frame_1_writes args s ++ Jvm.arrayLocs frame_1_arrays args s ++ Jvm.staticLocs frame_1_statics s) 16 128 → Post tb e args s (.returned v) u) :
    ArmFor flags0 classFile x code maxLocals ret World_1 tables_1 room_1 Calls_1 rest_1 Pre_1 Post := by
  intro l hfl _ _ p e ha hc hk s m args below hf hA hF happ hP
  obtain ⟨hcalls, hrest, hpre⟩ := hP
  obtain ⟨-, -, -, hnamed, -, -, -, hat⟩ := (Spec.applies_iff hf).mp happ
  obtain ⟨hg, hn⟩ := and_e (Cond.before_iff.mp (show (Jvm.Cond.and given_1 narrow_1).before args s = true from hpre))
  obtain ⟨g0, gr0⟩ := and_e hg
  obtain ⟨w0, w1, w2, w3, rfl⟩ : ∃ w0 w1 w2 w3 : Value, args = #[w0, w1, w2, w3] := by
    have hs : args.size = 4 := by simpa [Cond.value, given_1] using g0
    obtain ⟨L⟩ := args
    match L, hs with
    | [w0, w1, w2, w3], _ => exact ⟨w0, w1, w2, w3, rfl⟩
  have hw := fun d (hd : d ∈ tables_1) => atoms_spec (ws := Jvm.Cond.code x code maxLocals ret :: tables_1) hat d (List.mem_cons_of_mem _ hd)
  have hfit : Fit s := fun {y c} hc i hi => by
    obtain ⟨ha, rfl⟩ := Array.getElem?_eq_some_iff.mp hc
    have q := List.all_eq_true.mp ((Array.all_eq_true_iff_forall_mem.mp hF) _ (Array.getElem_mem ha)) i (List.mem_range.mpr hi)
    simpa [Array.getElem?_eq_getElem hi] using q
  obtain ⟨ga0, gr1⟩ := and_e gr0
  obtain ⟨i0, ei0⟩ := isL_v ga0
  obtain rfl : w0 = (.long i0) := Option.some.inj ei0
  obtain ⟨ga1, gr2⟩ := and_e gr1
  obtain ⟨i1, ei1⟩ := isL_v ga1
  obtain rfl : w1 = (.long i1) := Option.some.inj ei1
  obtain ⟨ga2, gr3⟩ := and_e gr2
  obtain ⟨i2, ei2⟩ := isL_v ga2
  obtain rfl : w2 = (.long i2) := Option.some.inj ei2
  obtain ⟨i3, ei3⟩ := isL_v gr3
  obtain rfl : w3 = (.long i3) := Option.some.inj ei3
  obtain ⟨n, o, h1, h2, h3, _, L, rfl, ⟨rfl, N⟩, hq⟩ := rm0 l s _ hw tables_1 i0 i1 i2 i3 s.heap s.heap.size (Nat.le_refl _) p e ha hc hk s m _ below hf ((Spec.applies_iff_loose hf).mp happ).1 ⟨rfl, State.Warmed39.refl s, rfl⟩ trivial
  refine ⟨n, _, h1, h2, h3, hpost _ _ _ _ _ _ ⟨Cond.after_iff.mpr rfl, Cond.after_iff.mpr (eq_i res_at (Term.int_eval (1)) rfl), trivial⟩ ⟨hq.1, hq.2.1, (hq.2.2.sift fun y hy => Or.inr (N y hy)).mono (by decide) (by decide)⟩⟩
theorem main_1_1 : Claimed_1_1 := comes_1 fun _ _ _ _ _ _ h hF => ⟨h.1, hF⟩
theorem main_1_2 : Claimed_1_2 := comes_1 fun _ _ _ _ _ _ h hF => ⟨h.2.1, hF⟩
end Jvm.Pilot.@@N@@
namespace Jvm.Pilot.@@N@@
open Jvm Jvm.ClassFile Sem Op Lib Jvm.Free Jvm.Stand Jvm.Pilot.@@N@@.Jvm.D
/-! MADE BY PROGRAM (witnessworld.py) out of the Statement's table words and the real class files: 11 classes; the members and pool entries that the words name. The judged class is class 1, her method 1. -/
namespace start1
open Jvm.ClassFile
def u (s : String) : CpInfo := .utf8 (stringToUtf16 s)
/-- a pool by its gaps: so many unusable entries, then the entry; so many at the end -/
def gap : Nat → List CpInfo → List CpInfo
  | 0, r => r
  | n + 1, r => .unusable :: gap n r
def poolList (es : List (Nat × CpInfo)) (last : Nat) : List CpInfo := es.foldr (fun e r => gap e.1 (e.2 :: r)) (gap last [])
def pool (es : List (Nat × CpInfo)) (last : Nat) : Array CpInfo := ⟨poolList es last⟩
def fileOf (pool : Array CpInfo) (this : Nat) (attrs : Array Attribute := #[]) (ms : Array MethodInfo := #[]) (fl : Nat := 33) (sup : Nat := 0) (ifs : Array Nat := #[]) (fds : Array FieldInfo := #[]) : ClassFile where
  minorVersion := 0
  majorVersion := 65
  constantPool := pool
  accessFlags := fl
  thisClass := this
  superClass := sup
  interfaces := ifs
  fields := fds
  methods := ms
  attributes := attrs
def plain (name : String) (sup : Option ClassId) : Class where
  name := name
  kind := .ordinary
  loader := none
  accessFlags := 33
  super := sup
  interfaces := #[]
  cf := none
  fields := #[]
  methods := #[]
  instanceTypes := #[]
  staticTypes := #[]
  resolved := #[]
  callSites := []
  init := .initialized
  statics := none
  mirror := none

def pool0 : Array CpInfo := pool [(5, u "<init>"), (0, u "()V"), (1, .class_ 10), (1, u "java/lang/Object")] 113

def k0c0 : Code := { maxStack := 0, maxLocals := 1, code := object_method_1_code, exceptionTable := #[], attributes := #[] }
def k0m0 : Method := { name := "<init>", desc := "()V", sig := { parameters := [], returnType := none }, accessFlags := 1, code := some k0c0 }
/-- java/lang/Object -/
def k0 : Class := { plain "java/lang/Object" none with
  accessFlags := 33
  interfaces := #[]
  cf := some (fileOf pool0 8 #[] #[{ accessFlags := 1, nameIndex := 5, descriptorIndex := 6, attributes := #[] }] 33 0 #[] #[])
  fields := #[]
  methods := #[k0m0]
  instanceTypes := #[]
  staticTypes := #[]
  resolved := Array.replicate 124 none
  statics := none }

def pool1 : Array CpInfo := pool [(2, .class_ 4), (1, u "java/lang/Object"), (0, u "<init>"), (0, u "()V"), (0, .class_ 8), (0, u "com/example/credit_clerk/creditclerk/service/Lifetime"), (0, .methodref 7 10), (0, .nameAndType 5 11), (0, u "(JJ)V"), (0, .methodref 7 13), (0, .nameAndType 14 15), (0, u "hasEnded"), (0, u "(J)Z"), (2, .long 9223372036854775808), (1, .methodref 21 22), (0, .class_ 23), (0, .nameAndType 24 25), (0, u "java/lang/Math"), (0, u "min"), (0, u "(JJ)J"), (0, .methodref 21 27), (0, .nameAndType 28 25), (0, u "max"), (0, .class_ 30), (0, u "com/example/credit_clerk/creditclerk/service/LifetimeHasEndedPinLaw"), (2, u "law"), (0, u "(JJJJ)Z")] 3

def k1m0 : Method := { name := "<init>", desc := "()V", sig := { parameters := [], returnType := none }, accessFlags := 1, code := none }
def k1c1 : Code := { maxStack := 6, maxLocals := 18, code := code, exceptionTable := #[], attributes := #[] }
def k1m1 : Method := { name := "law", desc := "(JJJJ)Z", sig := { parameters := [.long, .long, .long, .long], returnType := some .boolean }, accessFlags := 9, code := some k1c1 }
/-- com/example/credit_clerk/creditclerk/service/LifetimeHasEndedPinLaw -/
def k1 : Class := { plain "com/example/credit_clerk/creditclerk/service/LifetimeHasEndedPinLaw" (some 0) with
  accessFlags := 49
  interfaces := #[]
  cf := some (fileOf pool1 29 #[] #[{ accessFlags := 1, nameIndex := 5, descriptorIndex := 6, attributes := #[] }, { accessFlags := 9, nameIndex := 33, descriptorIndex := 34, attributes := #[] }] 49 2 #[] #[])
  fields := #[]
  methods := #[k1m0, k1m1]
  instanceTypes := #[]
  staticTypes := #[]
  resolved := Array.replicate 38 none
  statics := none }

def pool2 : Array CpInfo := pool [(1, .methodref 2 3), (0, .class_ 4), (0, .nameAndType 5 6), (0, u "java/lang/Object"), (0, u "<init>"), (0, u "()V"), (0, .class_ 8), (0, u "java/lang/Record")] 13

def k2c0 : Code := { maxStack := 1, maxLocals := 1, code := jdk_30_method_1_code, exceptionTable := #[], attributes := #[] }
def k2m0 : Method := { name := "<init>", desc := "()V", sig := { parameters := [], returnType := none }, accessFlags := 4, code := some k2c0 }
/-- java/lang/Record -/
def k2 : Class := { plain "java/lang/Record" (some 0) with
  accessFlags := 1057
  interfaces := #[]
  cf := some (fileOf pool2 7 #[] #[{ accessFlags := 4, nameIndex := 5, descriptorIndex := 6, attributes := #[] }] 1057 2 #[] #[])
  fields := #[]
  methods := #[k2m0]
  instanceTypes := #[]
  staticTypes := #[]
  resolved := Array.replicate 22 none
  statics := none }

def pool3 : Array CpInfo := pool [(1, .methodref 2 3), (0, .class_ 4), (0, .nameAndType 5 6), (0, u "java/lang/Record"), (0, u "<init>"), (0, u "()V"), (0, .fieldref 8 9), (0, .class_ 10), (0, .nameAndType 11 12), (0, u "com/example/credit_clerk/creditclerk/service/Lifetime"), (0, u "start"), (0, u "J"), (0, .fieldref 8 14), (0, .nameAndType 15 12), (0, u "end"), (8, u "(JJ)V"), (33, u "hasEnded"), (0, u "(J)Z")] 30

def k3c0 : Code := { maxStack := 3, maxLocals := 5, code := prog_37_method_1_code, exceptionTable := #[], attributes := #[] }
def k3m0 : Method := { name := "<init>", desc := "(JJ)V", sig := { parameters := [.long, .long], returnType := none }, accessFlags := 1, code := some k3c0 }
def k3c1 : Code := { maxStack := 4, maxLocals := 3, code := prog_37_method_3_code, exceptionTable := #[], attributes := #[] }
def k3m1 : Method := { name := "hasEnded", desc := "(J)Z", sig := { parameters := [.long], returnType := some .boolean }, accessFlags := 0, code := some k3c1 }
/-- com/example/credit_clerk/creditclerk/service/Lifetime -/
def k3 : Class := { plain "com/example/credit_clerk/creditclerk/service/Lifetime" (some 2) with
  accessFlags := 49
  interfaces := #[]
  cf := some (fileOf pool3 8 #[] #[{ accessFlags := 1, nameIndex := 5, descriptorIndex := 24, attributes := #[] }, { accessFlags := 0, nameIndex := 58, descriptorIndex := 59, attributes := #[] }] 49 2 #[] #[{ accessFlags := 18, nameIndex := 11, descriptorIndex := 12, attributes := #[] }, { accessFlags := 18, nameIndex := 15, descriptorIndex := 12, attributes := #[] }])
  fields := #[{ name := "start", type := .long, accessFlags := 18, slot := 0, constantValue := 0 }, { name := "end", type := .long, accessFlags := 18, slot := 1, constantValue := 0 }]
  methods := #[k3m0, k3m1]
  instanceTypes := #[.long, .long]
  staticTypes := #[]
  resolved := Array.replicate 90 none
  statics := none }

def pool4 : Array CpInfo := pool [(1, .class_ 2), (0, u "java/lang/Math"), (1, .class_ 6), (1, u "java/lang/Object"), (0, u "<init>"), (0, u "()V"), (89, .class_ 100), (1, u "java/lang/Math$RandomNumberGeneratorHolder"), (20, u "(JJ)J"), (50, u "negativeZeroFloatBits"), (0, u "J"), (2, u "negativeZeroDoubleBits"), (21, u "max"), (2, u "min"), (43, u "$assertionsDisabled"), (0, u "Z"), (91, u "twoToTheDoubleScaleDown"), (0, u "D"), (4, u "twoToTheDoubleScaleUp"), (9, u "E"), (3, u "PI"), (2, u "TAU"), (2, u "DEGREES_TO_RADIANS"), (0, u "RADIANS_TO_DEGREES")] 94

def k4m0 : Method := { name := "<init>", desc := "()V", sig := { parameters := [], returnType := none }, accessFlags := 2, code := none }
def k4c1 : Code := { maxStack := 4, maxLocals := 4, code := jdk_29_method_66_code, exceptionTable := #[], attributes := #[] }
def k4m1 : Method := { name := "max", desc := "(JJ)J", sig := { parameters := [.long, .long], returnType := some .long }, accessFlags := 9, code := some k4c1 }
def k4c2 : Code := { maxStack := 4, maxLocals := 4, code := jdk_29_method_70_code, exceptionTable := #[], attributes := #[] }
def k4m2 : Method := { name := "min", desc := "(JJ)J", sig := { parameters := [.long, .long], returnType := some .long }, accessFlags := 9, code := some k4c2 }
/-- java/lang/Math -/
def k4 : Class := { plain "java/lang/Math" (some 0) with
  accessFlags := 49
  interfaces := #[]
  cf := some (fileOf pool4 1 #[.nestMembers #[98]] #[{ accessFlags := 2, nameIndex := 7, descriptorIndex := 8, attributes := #[] }, { accessFlags := 9, nameIndex := 198, descriptorIndex := 121, attributes := #[] }, { accessFlags := 9, nameIndex := 201, descriptorIndex := 121, attributes := #[] }] 49 4 #[] #[{ accessFlags := 25, nameIndex := 354, descriptorIndex := 339, attributes := #[] }, { accessFlags := 25, nameIndex := 358, descriptorIndex := 339, attributes := #[] }, { accessFlags := 25, nameIndex := 361, descriptorIndex := 339, attributes := #[] }, { accessFlags := 26, nameIndex := 364, descriptorIndex := 339, attributes := #[] }, { accessFlags := 26, nameIndex := 365, descriptorIndex := 339, attributes := #[] }, { accessFlags := 26, nameIndex := 172, descriptorIndex := 173, attributes := #[] }, { accessFlags := 26, nameIndex := 176, descriptorIndex := 173, attributes := #[] }, { accessFlags := 8, nameIndex := 344, descriptorIndex := 339, attributes := #[] }, { accessFlags := 8, nameIndex := 338, descriptorIndex := 339, attributes := #[] }, { accessFlags := 4120, nameIndex := 245, descriptorIndex := 246, attributes := #[] }])
  fields := #[{ name := "E", type := .double, accessFlags := 25, slot := 0, constantValue := 0 }, { name := "PI", type := .double, accessFlags := 25, slot := 1, constantValue := 0 }, { name := "TAU", type := .double, accessFlags := 25, slot := 2, constantValue := 0 }, { name := "DEGREES_TO_RADIANS", type := .double, accessFlags := 26, slot := 3, constantValue := 0 }, { name := "RADIANS_TO_DEGREES", type := .double, accessFlags := 26, slot := 4, constantValue := 0 }, { name := "negativeZeroFloatBits", type := .long, accessFlags := 26, slot := 5, constantValue := 0 }, { name := "negativeZeroDoubleBits", type := .long, accessFlags := 26, slot := 6, constantValue := 0 }, { name := "twoToTheDoubleScaleUp", type := .double, accessFlags := 8, slot := 7, constantValue := 0 }, { name := "twoToTheDoubleScaleDown", type := .double, accessFlags := 8, slot := 8, constantValue := 0 }, { name := "$assertionsDisabled", type := .boolean, accessFlags := 4120, slot := 9, constantValue := 0 }]
  methods := #[k4m0, k4m1, k4m2]
  instanceTypes := #[]
  staticTypes := #[.double, .double, .double, .double, .double, .long, .long, .double, .double, .boolean]
  resolved := Array.replicate 460 none
  statics := none }

def pool5 : Array CpInfo := pool [(1, u "java/lang/Cloneable"), (0, .class_ 1), (0, u "java/lang/Object"), (0, .class_ 3)] 3

/-- java/lang/Cloneable -/
def k5 : Class := { plain "java/lang/Cloneable" (some 0) with
  accessFlags := 1537
  interfaces := #[]
  cf := some (fileOf pool5 2 #[] #[] 1537 4 #[] #[])
  fields := #[]
  methods := #[]
  instanceTypes := #[]
  staticTypes := #[]
  resolved := Array.replicate 8 none
  statics := none }

def pool6 : Array CpInfo := pool [(1, u "java/io/Serializable"), (0, .class_ 1), (0, u "java/lang/Object"), (0, .class_ 3)] 3

/-- java/io/Serializable -/
def k6 : Class := { plain "java/io/Serializable" (some 0) with
  accessFlags := 1537
  interfaces := #[]
  cf := some (fileOf pool6 2 #[] #[] 1537 4 #[] #[])
  fields := #[]
  methods := #[]
  instanceTypes := #[]
  staticTypes := #[]
  resolved := Array.replicate 8 none
  statics := none }

/-- the primitive byte -/
def k7 : Class := { plain "byte" none with kind := .primitive 'B', accessFlags := 0x411 }
/-- [B -/
def k8 : Class := { plain "[B" (some 0) with kind := .array 7 .byte, interfaces := #[5, 6], accessFlags := 1041 }

/-- the primitive int -/
def k9 : Class := { plain "int" none with kind := .primitive 'I', accessFlags := 0x411 }
/-- [I -/
def k10 : Class := { plain "[I" (some 0) with kind := .array 9 .int, interfaces := #[5, 6], accessFlags := 1041 }

def heap : Heap := #[]
def classes : Array Class := #[k0, k1, k2, k3, k4, k5, k6, k7, k8, k9, k10]
def interned : List (Array UInt16 × Addr) := []
def slotsUsed : Nat := 0
def theMethod : MethodId := ⟨1, 1⟩
def args0 : Array Value := #[.long 5, .long 9, .long 1, .long 3]
def aboutOver (below : List Frame) : State where
  vm := { classes := classes, interned := interned.toArray }
  heap := heap
  slotsUsed := slotsUsed
  threads := #[{ frames := .invoking theMethod args0 :: below }]
def below0 : List Frame := [.native { method := ⟨0, 0⟩, args := #[] }]
def about1 : State := aboutOver below0
def p0 : Program := .bare "" "" ""
def e0 : Env := launch0.env 0 0 0
theorem w_frames : about1.frames = Frame.invoking theMethod args0 :: below0 := rfl
set_option maxRecDepth 65536 in
theorem w_args : argsFit about1.vm theMethod args0 = true := by decide +kernel
set_option maxRecDepth 65536 in
theorem w_heap : heapFits about1 = true := by decide +kernel
set_option maxRecDepth 65536 in
theorem w_runnable : about1.curStatus? = some .runnable := by decide +kernel
set_option maxRecDepth 65536 in
theorem w_alone : about1.alone = true := by decide +kernel
set_option maxRecDepth 65536 in
theorem w_named : about1.methodNamed? x = some theMethod := by decide +kernel
set_option maxRecDepth 65536 in
theorem w_hears : about1.hears theMethod below0 = true := by decide +kernel
set_option maxRecDepth 65536 in
theorem w_ripe : about1.ripe theMethod args0 below0 = true := by decide +kernel
theorem w_running : about1.status = .running := rfl
set_option maxRecDepth 65536 in
theorem w_room : about1.hasRoom e0.platform room_1 = true :=
  launch0.hasRoom_least _ room_1 (by decide +kernel) (by decide +kernel) (by decide +kernel) (by decide +kernel) (by decide +kernel) (by decide +kernel)
theorem allAtoms_all (ts : List Jvm.Cond) (a : Array Jvm.Value) (st : Jvm.State) : (allAtoms ts).before a st = ts.all (fun c => c.before a st) := by
  induction ts with
  | nil => rfl
  | cons c t ih =>
    show (Jvm.Cond.and c (allAtoms t)).before a st = _
    rw [Jvm.Cond.before_and, ih, List.all_cons]
def words1 : List Jvm.Cond := Jvm.Cond.code x code maxLocals ret :: tables_1
/-- a 'code' word, met by the world's own term for the bytes: nothing is compared byte by byte -/
theorem code_word {y : MethodName} {bytes : ByteArray} {mx : Nat} {rt : Option FieldType} {a : Array Value} {s : State} {m : MethodId} {meth : Method} {c : Code} (h1 : s.methodNamed? y = some m) (h2 : s.vm.method? m = some meth) (h3 : meth.code = some c) (h4 : c.code = bytes)
    (h5 : (c.maxLocals == mx && c.exceptionTable.isEmpty && decide (c.maxStack ≤ mostOperands) && decide (meth.sig.returnType = rt) && !meth.locks && decide (parseMethodDescriptor y.desc = some meth.sig)) = true) : (Jvm.Cond.code y bytes mx rt).before a s = true := by
  simp only [Bool.and_eq_true, beq_iff_eq, Bool.not_eq_true', decide_eq_true_eq] at h5
  obtain ⟨⟨⟨⟨⟨g1, g2⟩, g3⟩, g4⟩, g5⟩, g6⟩ := h5
  simp [Cond.before, Cond.holds, Cond.value, h1, h2, h3, h4, g1, g2, g3, g4, g5, g6]
def isCode : Jvm.Cond → Bool
  | .code _ _ _ _ => true
  | _ => false
theorem all_split {L : List Jvm.Cond} {P : Jvm.Cond → Bool} (h1 : L.all (fun c => isCode c || P c) = true) (h2 : ∀ c ∈ L.filter isCode, P c = true) : L.all P = true := by
  refine List.all_eq_true.mpr fun c hc => ?_
  have h := List.all_eq_true.mp h1 c hc
  rcases Bool.eq_false_or_eq_true (isCode c) with hi | hi
  · exact h2 c (List.mem_filter.mpr ⟨hc, hi⟩)
  · simpa [hi] using h
set_option maxRecDepth 65536 in
theorem w_c0 : (Jvm.Cond.code x code maxLocals ret).before args0 about1 = true := code_word (m := ⟨1, 1⟩) (meth := k1m1) (c := k1c1) (by decide +kernel) rfl rfl rfl (by decide +kernel)
set_option maxRecDepth 65536 in
theorem w_c1 : (Jvm.Cond.code ({ cls := "com/example/credit_clerk/creditclerk/service/Lifetime", name := "<init>", desc := "(JJ)V" } : Jvm.MethodName) prog_37_method_1_code (5 : Nat) (Option.none : Option Jvm.ClassFile.FieldType)).before args0 about1 = true := code_word (m := ⟨3, 0⟩) (meth := k3m0) (c := k3c0) (by decide +kernel) rfl rfl rfl (by decide +kernel)
set_option maxRecDepth 65536 in
theorem w_c2 : (Jvm.Cond.code ({ cls := "java/lang/Record", name := "<init>", desc := "()V" } : Jvm.MethodName) jdk_30_method_1_code (1 : Nat) (Option.none : Option Jvm.ClassFile.FieldType)).before args0 about1 = true := code_word (m := ⟨2, 0⟩) (meth := k2m0) (c := k2c0) (by decide +kernel) rfl rfl rfl (by decide +kernel)
set_option maxRecDepth 65536 in
theorem w_c3 : (Jvm.Cond.code ({ cls := "java/lang/Object", name := "<init>", desc := "()V" } : Jvm.MethodName) object_method_1_code (1 : Nat) (Option.none : Option Jvm.ClassFile.FieldType)).before args0 about1 = true := code_word (m := ⟨0, 0⟩) (meth := k0m0) (c := k0c0) (by decide +kernel) rfl rfl rfl (by decide +kernel)
set_option maxRecDepth 65536 in
theorem w_c4 : (Jvm.Cond.code ({ cls := "com/example/credit_clerk/creditclerk/service/Lifetime", name := "hasEnded", desc := "(J)Z" } : Jvm.MethodName) prog_37_method_3_code (3 : Nat) (Option.some Jvm.ClassFile.FieldType.boolean)).before args0 about1 = true := code_word (m := ⟨3, 1⟩) (meth := k3m1) (c := k3c1) (by decide +kernel) rfl rfl rfl (by decide +kernel)
set_option maxRecDepth 65536 in
theorem w_c5 : (Jvm.Cond.code ({ cls := "java/lang/Math", name := "min", desc := "(JJ)J" } : Jvm.MethodName) jdk_29_method_70_code (4 : Nat) (Option.some Jvm.ClassFile.FieldType.long)).before args0 about1 = true := code_word (m := ⟨4, 2⟩) (meth := k4m2) (c := k4c2) (by decide +kernel) rfl rfl rfl (by decide +kernel)
set_option maxRecDepth 65536 in
theorem w_c6 : (Jvm.Cond.code ({ cls := "java/lang/Math", name := "max", desc := "(JJ)J" } : Jvm.MethodName) jdk_29_method_66_code (4 : Nat) (Option.some Jvm.ClassFile.FieldType.long)).before args0 about1 = true := code_word (m := ⟨4, 1⟩) (meth := k4m1) (c := k4c1) (by decide +kernel) rfl rfl rfl (by decide +kernel)
def codes1 : List Jvm.Cond := [Jvm.Cond.code x code maxLocals ret, Jvm.Cond.code ({ cls := "com/example/credit_clerk/creditclerk/service/Lifetime", name := "<init>", desc := "(JJ)V" } : Jvm.MethodName) prog_37_method_1_code (5 : Nat) (Option.none : Option Jvm.ClassFile.FieldType), Jvm.Cond.code ({ cls := "java/lang/Record", name := "<init>", desc := "()V" } : Jvm.MethodName) jdk_30_method_1_code (1 : Nat) (Option.none : Option Jvm.ClassFile.FieldType), Jvm.Cond.code ({ cls := "java/lang/Object", name := "<init>", desc := "()V" } : Jvm.MethodName) object_method_1_code (1 : Nat) (Option.none : Option Jvm.ClassFile.FieldType), Jvm.Cond.code ({ cls := "com/example/credit_clerk/creditclerk/service/Lifetime", name := "hasEnded", desc := "(J)Z" } : Jvm.MethodName) prog_37_method_3_code (3 : Nat) (Option.some Jvm.ClassFile.FieldType.boolean), Jvm.Cond.code ({ cls := "java/lang/Math", name := "min", desc := "(JJ)J" } : Jvm.MethodName) jdk_29_method_70_code (4 : Nat) (Option.some Jvm.ClassFile.FieldType.long), Jvm.Cond.code ({ cls := "java/lang/Math", name := "max", desc := "(JJ)J" } : Jvm.MethodName) jdk_29_method_66_code (4 : Nat) (Option.some Jvm.ClassFile.FieldType.long)]
set_option maxRecDepth 65536 in
theorem codes_eq : words1.filter isCode = codes1 := rfl
theorem w_codes : ∀ c ∈ words1.filter isCode, c.before args0 about1 = true := by
  rw [codes_eq]
  intro c hc
  simp only [codes1, List.mem_cons, List.not_mem_nil, or_false] at hc
  rcases hc with rfl | rfl | rfl | rfl | rfl | rfl | rfl
  · exact w_c0
  · exact w_c1
  · exact w_c2
  · exact w_c3
  · exact w_c4
  · exact w_c5
  · exact w_c6
set_option maxRecDepth 65536 in
theorem w_t1 : (words1.take 24).all (fun c => isCode c || c.before args0 about1) = true := by decide +kernel
set_option maxRecDepth 65536 in
theorem w_t2 : (words1.drop 24).all (fun c => isCode c || c.before args0 about1) = true := by decide +kernel
theorem w_tables : (allAtoms (Jvm.Cond.code x code maxLocals ret :: tables_1)).before args0 about1 = true := by
  rw [allAtoms_all]
  show words1.all (fun c => c.before args0 about1) = true
  refine all_split ?_ w_codes
  rw [← List.take_append_drop 24 words1, List.all_append, w_t1, w_t2]
  rfl
set_option maxRecDepth 65536 in
theorem w_case : (Jvm.Cond.and given_1 narrow_1).before args0 about1 = true := by decide +kernel
theorem w_applies : (headSpec (Jvm.Cond.code x code maxLocals ret :: tables_1) room_1).applies x e0.platform about1 = true :=
  (Spec.applies_iff w_frames).mpr ⟨w_running, w_runnable, w_alone, w_named, w_hears, w_ripe, w_room, w_tables⟩
theorem atStart : AtStart classFile x code maxLocals ret World_1 tables_1 room_1 Calls_1 rest_1 Pre_1 launch0 p0 e0 about1 theMethod args0 below0 :=
  ⟨lists_1, trivial, launch0.admits_env _ _ _, launch0.least_env, fairChoices_fair.cas, fairChoices_fair.clock, w_frames, w_args, w_heap, w_applies, trivial, trivial, w_case⟩
end start1
theorem witness_1 : WitnessClaimed_1 := ⟨start1.p0, start1.e0, start1.about1, start1.theMethod, start1.args0, start1.below0, start1.atStart⟩
end Jvm.Pilot.@@N@@
