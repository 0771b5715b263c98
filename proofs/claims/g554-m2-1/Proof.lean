import JvmDerived
import JvmDerived.Pilot.@@N@@Statement
import JvmDerived.Pilot.@@N@@Code
set_option linter.unusedVariables false
set_option linter.unusedSimpArgs false
namespace Jvm.Pilot.@@N@@
open Jvm Jvm.ClassFile Sem Op Lib Jvm.Free Jvm.Stand Jvm.LawKit Jvm.RoadKit Bundle Jvm.Pilot.@@N@@.Jvm.D
section OwnKit
variable {p : Program} {l : Launch} {e : Env} {R : Room} {s : State} {m : MethodId} {args : Array Value} {below : List Frame} {meth : Method} {c : Code} {T : State} {locs : List Loc} {cells slots : Nat}
/-- from T the run comes to an end of which F holds -/
def own_Go (p : Program) (e : Env) (below : List Frame) (F : State → Outcome → Prop) (T : State) : Prop := ∃ t o, Steps p.tables e below T t ∧ t.status = .running ∧ Ended t below o ∧ F t o
theorem own_step {F : State → Outcome → Prop} {A B : State} (k : ∀ t, Steps p.tables e below A t → Steps p.tables e below B t) (h : own_Go p e below F A) : own_Go p e below F B := by
  obtain ⟨t, o, h1, h2⟩ := h
  exact ⟨t, o, k t h1, h2⟩
theorem own_in {F : State → Outcome → Prop} {A B : State} (k : ∀ {t}, Steps p.tables e below A t → Steps p.tables e below B t) (h : own_Go p e below F A) : ∃ t o, Steps p.tables e below B t ∧ t.status = .running ∧ Ended t below o ∧ F t o := by
  obtain ⟨t, o, h1, h2⟩ := h
  exact ⟨t, o, k h1, h2⟩
theorem own_retI (X : Stand p l e R s m args below meth c T locs cells slots) (hx : p.tables.exec = Jvm.exec) {pc : Nat} {Ls : Array Slot} {z : Int32} {rest : List Value} (hret : meth.sig.returnType = some .int) (hd : decode c.code pc = .ok (.ireturn, 1)) {fs : List Frame}
    (hl : ∀ (f : JFrame) (acts : List Action), f.method = m → f.locked = none → f.entered = [] → (doReturn e (T.setTop f) acts (some (.int z))).1 = T.setFrames fs) : Steps p.tables e below (T.setTop (mkF m pc Ls (.int z :: rest))) (T.setFrames fs) :=
  retOut X hx hret rfl (Or.inl ⟨rfl, Or.inl rfl, _, rfl⟩) hd hl
theorem own_join {α : Type} {F : State → Outcome → Prop} {B : State} {H : Heap} (X : Stand p l e R s m args below meth c T locs cells slots) (eT : T.heap = H) (A : State → α → State) (Pr : α → Prop)
    (h1 : ∀ T' a, Stand p l e R s m args below meth c T' locs cells slots → T'.heap = H → Pr a → own_Go p e below F (A T' a))
    (h2 : (∀ T' a, Stand p l e R s m args below meth c T' locs cells slots → T'.heap = H → Pr a → own_Go p e below F (A T' a)) → own_Go p e below F B) : own_Go p e below F B := h2 h1
theorem own_sta {args : Array Value} {s : State} {C n d K : String} (h : (Jvm.Cond.exactly (.static C n d) K).value args s none s [] = some true) (w1 : (Jvm.Cond.initialized C).before args s = true) (w2 : (Jvm.Cond.laysStatic C n d).before args s = true) :
    ∃ a, (Term.static C n d).eval args s none [] s = some (.ref a) ∧ Sta s s.heap C n d (.ref a) ∧ Exa s s.heap a K := by
  obtain ⟨a, ea⟩ := exa_v h
  exact ⟨a, ea, Sta.start ea (Or.inr ⟨w1, w2⟩), Exa.start ea h⟩
theorem own_staF {args : Array Value} {s : State} {t : Term} {C n d : String} {a : Addr} {k : Int32} (ea : t.eval args s none [] s = some (.ref a)) (h : (Jvm.Cond.eq (.field t C n d) (.int k)).value args s none s [] = some true) : Fld s s.heap a C n d (.int k) := by
  obtain ⟨x, y, e1, e2, -, -⟩ := cmp_v (Or.inl h)
  cases (Term.int_eval k).symm.trans e2
  have e3 : x = .int k := by
    cases x <;> simp [Cond.value, e1, Term.int_eval] at h
    rw [h]
  rw [fld_at ea, e3] at e1
  exact Fld.start e1
end OwnKit
theorem own_lsw {tb : Tables} [Ours tb] {e : Env} {below : List Frame} {T target : State} {m : MethodId} {c : Code} {g : JFrame} (h : At T m c below) (hx : tb.exec = Jvm.exec) (hg : g.method = m) {dflt : Int} {ps : Array (Int × Int)} {len : Nat} {x : Int32} {rest : List Value} {pc0 pc' : Nat} (hpc : g.pc = pc0)
    (hd : decode c.code g.pc = .ok (.lookupswitch dflt ps, len)) (hs : g.stack = .int x :: rest) (ho : 0 ≤ (pc0 : Int) + lookupswitch.offset ps.toList dflt x.toInt) (hp : ((pc0 : Int) + lookupswitch.offset ps.toList dflt x.toInt).toNat = pc')
    (hord : ∀ (a b a_1 b_1 : Int), ((a, b), a_1, b_1) ∈ ps.toList.zip ps.toList.tail → a < a_1)
    (hr : Steps tb e below (T.setTop { g with pc := pc', stack := rest }) target) : Steps tb e below (T.setTop g) target := by
  subst hg hpc hp
  jvm_step h [h.top, hx, hd, hs, lookupswitch.wp_chain, ho]
  exact ⟨hord, hr⟩

theorem own_sub0 {q m : Int32} (h : m = q) : (q - m) = (0 : Int32) := by subst h; exact Int32.sub_self _
theorem own_sub1 {q m : Int32} (h : ¬ m = q) : ¬ (q - m) = (0 : Int32) := fun e => h (by
  rw [← Int32.toInt_inj] at e ⊢
  have h1 := c_isub q m
  have h2 := rng32 q
  have h3 := rng32 m
  have h4 : (0 : Int32).toInt = 0 := by decide
  omega)
theorem own_pos {m : Int32} (h : (0 : Int32) < m) : ¬ m < (1 : Int32) := by
  rw [Int32.lt_iff_toInt_lt] at *
  have h4 : (0 : Int32).toInt = 0 := by decide
  have h5 : (1 : Int32).toInt = 1 := by decide
  omega
theorem own_npos {m : Int32} (h : ¬ (0 : Int32) < m) : m < (1 : Int32) := by
  rw [Int32.lt_iff_toInt_lt] at *
  have h4 : (0 : Int32).toInt = 0 := by decide
  have h5 : (1 : Int32).toInt = 1 := by decide
  omega
theorem pn_0 : plainName "java/lang/Enum" = true := by first | (simp [plainName, overriddenIn]; done) | decide +kernel
theorem pn_1 : plainName "com/example/lens_on_archives/lensonarchives/Semantics" = true := by first | (simp [plainName, overriddenIn]; done) | decide +kernel
theorem pn_2 : plainName "com/example/lens_on_archives/lensonarchives/SemanticsMatchesPinLaw" = true := by first | (simp [plainName, overriddenIn]; done) | decide +kernel
theorem pd_0 : parseMethodDescriptor "()I" = some ⟨[], some .int⟩ := by decide +kernel
theorem pd_1 : parseMethodDescriptor "(II)Z" = some ⟨[.int, .int], some .boolean⟩ := by decide +kernel
theorem d1_0 : decode jdk_37_method_2_code 0 = .ok (.aload_n 0, 1) := by decide +kernel
theorem d1_1 : decode jdk_37_method_2_code 1 = .ok (.getfield 7, 3) := by decide +kernel
theorem d1_4 : decode jdk_37_method_2_code 4 = .ok (.ireturn, 1) := by decide +kernel
theorem ef_1 (m : MethodId) (a : Addr) : entryFrame m #[(.ref a)] 1 = mkF m 0 #[.val (.ref a)] [] := by first | (simp [entryFrame, mkF, argsToLocals, Value.category]; done) | rfl
def Q1 (Z : State) (a : Addr) (k : Int32) (h0 : Heap) (n0 : Nat) (v : Option Value) (h : Heap) (L : List Loc) : Prop := v = some (.int k) ∧ Fr n0 L ∧ h = h0
set_option maxRecDepth 65536 in
set_option maxHeartbeats 40000000 in
theorem rm1 (l : Launch) (Z : State) (a0 : Array Value) (hw : ∀ d ∈ tables_1, d.before a0 Z = true) (ws : List Jvm.Cond) (a : Addr) (k : Int32) (h0 : Heap) (n0 : Nat) (Z0 : n0 ≤ h0.size) (P0 : Fld Z h0 a "java/lang/Enum" "ordinal" "I" (.int k)) :
    MetFree l (⟨"java/lang/Enum", "ordinal", "()I"⟩ : MethodName) (head1 (Jvm.Cond.code (⟨"java/lang/Enum", "ordinal", "()I"⟩ : MethodName) jdk_37_method_2_code 1 (some .int) :: ws) ({ frames := 0, cells := 0, slots := 0, locals := 0 } : Room)) (fun ar_ U => ar_ = #[(.ref a)] ∧ Z.Warmed39 U.vm ∧ U.heap = h0) (fun _ _ _ _ _ => True) (fun _ U oo_ U' => ∃ v L, oo_ = .returned v ∧ Q1 Z a k h0 n0 v U'.heap L ∧ FrameEnd U oo_ U' L ({ frames := 0, cells := 0, slots := 0, locals := 0 } : Room).cells ({ frames := 0, cells := 0, slots := 0, locals := 0 } : Room).slots) := by
  refine MetFree.of_bodySF (plainFor_of_name pn_0) hisR ?_
  intro p e s m args below meth c s₁ Bd hml0 hP hK
  obtain ⟨rfl, hZ, hh⟩ := hP
  have hx := Bd.exec
  have hby := Bd.bytes
  have hml : c.maxLocals = 1 := hml0
  have hown : s.vm.findClass "java/lang/Enum" = some m.cls := findClass_of_methodNamed Bd.named
  have hnm := (name_of_methodNamed Bd.named Bd.method).1
  have X0 : Stand p l e ({ frames := 0, cells := 0, slots := 0, locals := 0 } : Room) s m #[(.ref a)] below meth c s₁ [] 0 0 := Stand.of_body Bd
  have e0 : s₁.heap = h0 := by rw [← hh, Bd.state]; rfl
  have N0 := Fr.nil n0
  refine own_in (castTop (ef_1 m a)) ?_
  show own_Go _ _ _ _ (s₁.setTop (mkF m 0 #[.val (.ref a)] []))
  refine own_step (fun _ κ => XS.aloadN X0.here hx rfl (hb hby d1_0) rfl rfl κ) ?_
  show own_Go _ _ _ _ (s₁.setTop (mkF m 1 #[.val (.ref a)] [(.ref a)]))
  obtain ⟨T1, X1, e1, st1⟩ := getF X0 hx hZ hown (host := "") (Or.inl (hw _ (List.mem_of_getElem? (i := 16) rfl))) Via.refl e0 P0 (g := (mkF m 1 #[.val (.ref a)] [(.ref a)])) rfl rfl (hb hby d1_1)
  refine own_step st1 ?_
  show own_Go _ _ _ _ (T1.setTop (mkF m 4 #[.val (.ref a)] [(.int k)]))
  obtain ⟨fs, hr, hrun, hended, hW, hsame⟩ := X1.leave (v := some (.int k)) (fun h => by rw [Bd.returns] at h; cases h)
  refine ⟨_, _, own_retI X1 hx Bd.returns (hb hby d1_4) hr, hrun, hended, _, _, rfl, ?_, ⟨_, rfl⟩, hW, hsame.mono (by decide) (by decide)⟩
  show Q1 Z a k h0 n0 _ T1.heap _
  rw [e1]
  exact ⟨rfl, N0, rfl⟩
theorem d2_0 : decode prog_31_method_4_code 0 = .ok (.aload_n 0, 1) := by decide +kernel
theorem d2_1 : decode prog_31_method_4_code 1 = .ok (.invokevirtual 29, 3) := by decide +kernel
theorem d2_4 : decode prog_31_method_4_code 4 = .ok (.lookupswitch 28 #[(0, 38), (1, 51)], 28) := by decide +kernel
theorem d2_42 : decode prog_31_method_4_code 42 = .ok (.iload_n 1, 1) := by decide +kernel
theorem d2_43 : decode prog_31_method_4_code 43 = .ok (.iload_n 2, 1) := by decide +kernel
theorem d2_44 : decode prog_31_method_4_code 44 = .ok (.if_icmp .ne 7, 3) := by decide +kernel
theorem d2_47 : decode prog_31_method_4_code 47 = .ok (.iconst 1, 1) := by decide +kernel
theorem d2_48 : decode prog_31_method_4_code 48 = .ok (.goto 16, 3) := by decide +kernel
theorem d2_51 : decode prog_31_method_4_code 51 = .ok (.iconst 0, 1) := by decide +kernel
theorem d2_52 : decode prog_31_method_4_code 52 = .ok (.goto 12, 3) := by decide +kernel
theorem d2_64 : decode prog_31_method_4_code 64 = .ok (.ireturn, 1) := by decide +kernel
theorem ef_2 (m : MethodId) (a : Addr) (pm : Int32) (pq : Int32) : entryFrame m #[(.ref a), (.int pm), (.int pq)] 3 = mkF m 0 #[.val (.ref a), .val (.int pm), .val (.int pq)] [] := by first | (simp [entryFrame, mkF, argsToLocals, Value.category]; done) | rfl
def Q2 (Z : State) (a : Addr) (pm : Int32) (pq : Int32) (h0 : Heap) (n0 : Nat) (v : Option Value) (h : Heap) (L : List Loc) : Prop := v = some (.int (if pm = pq then (1 : Int32) else (0 : Int32))) ∧ Fr n0 L ∧ h = h0
set_option maxRecDepth 65536 in
set_option maxHeartbeats 40000000 in
theorem rm2 (l : Launch) (Z : State) (a0 : Array Value) (hw : ∀ d ∈ tables_1, d.before a0 Z = true) (ws : List Jvm.Cond) (a : Addr) (pm : Int32) (pq : Int32) (h0 : Heap) (n0 : Nat) (Z0 : n0 ≤ h0.size) (P0 : Exa Z h0 a "com/example/lens_on_archives/lensonarchives/Semantics") (P1 : Fld Z h0 a "java/lang/Enum" "ordinal" "I" (.int (0 : Int32))) :
    MetFree l (⟨"com/example/lens_on_archives/lensonarchives/Semantics", "matches", "(II)Z"⟩ : MethodName) (head1 (Jvm.Cond.code (⟨"com/example/lens_on_archives/lensonarchives/Semantics", "matches", "(II)Z"⟩ : MethodName) prog_31_method_4_code 3 (some .boolean) :: ws) ({ frames := 1, cells := 0, slots := 0, locals := 12 } : Room)) (fun ar_ U => ar_ = #[(.ref a), (.int pm), (.int pq)] ∧ Z.Warmed39 U.vm ∧ U.heap = h0) (fun _ _ _ _ _ => True) (fun _ U oo_ U' => ∃ v L, oo_ = .returned v ∧ Q2 Z a pm pq  h0 n0 v U'.heap L ∧ FrameEnd U oo_ U' L ({ frames := 1, cells := 0, slots := 0, locals := 12 } : Room).cells ({ frames := 1, cells := 0, slots := 0, locals := 12 } : Room).slots) := by
  refine MetFree.of_bodySF (plainFor_of_name pn_1) hisR ?_
  intro p e s m args below meth c s₁ Bd hml0 hP hK
  obtain ⟨rfl, hZ, hh⟩ := hP
  have hx := Bd.exec
  have hby := Bd.bytes
  have hml : c.maxLocals = 3 := hml0
  have hown : s.vm.findClass "com/example/lens_on_archives/lensonarchives/Semantics" = some m.cls := findClass_of_methodNamed Bd.named
  have hnm := (name_of_methodNamed Bd.named Bd.method).1
  have X0 : Stand p l e ({ frames := 1, cells := 0, slots := 0, locals := 12 } : Room) s m #[(.ref a), (.int pm), (.int pq)] below meth c s₁ [] 0 0 := Stand.of_body Bd
  have e0 : s₁.heap = h0 := by rw [← hh, Bd.state]; rfl
  have N0 := Fr.nil n0
  refine own_in (castTop (ef_2 m a pm pq)) ?_
  show own_Go _ _ _ _ (s₁.setTop (mkF m 0 #[.val (.ref a), .val (.int pm), .val (.int pq)] []))
  refine own_step (fun _ κ => XS.aloadN X0.here hx rfl (hb hby d2_0) rfl rfl κ) ?_
  show own_Go _ _ _ _ (s₁.setTop (mkF m 1 #[.val (.ref a), .val (.int pm), .val (.int pq)] [(.ref a)]))
  obtain ⟨cq1, kq1, q1a, q1b, q1c⟩ := isOf hZ e0 P0
  obtain ⟨vr1, _, ⟨T1, L1, k1, n1⟩, -, X1, ⟨Lc1, hQ1, l1, y1, z1⟩, st1⟩ := X0.virtualBackUp hx (owner := "java/lang/Enum") (x := (⟨"com/example/lens_on_archives/lensonarchives/Semantics", "ordinal", "()I"⟩ : MethodName)) (y := (⟨"java/lang/Enum", "ordinal", "()I"⟩ : MethodName)) hown (mvT hZ (hw _ (List.mem_of_getElem? (i := 9) rfl))) (mvT hZ (hw _ (List.mem_of_getElem? (i := 10) rfl))) (mvT hZ (hw _ (List.mem_of_getElem? (i := 11) rfl))) (by decide) (mvT hZ (hw _ (List.mem_of_getElem? (i := 13) rfl))) (mvT hZ (hw _ (List.mem_of_getElem? (i := 12) rfl))) (backOf (W := 0) (rm1 l Z a0 hw [] a (0 : Int32) h0 n0 Z0 P1) hZ (hw _ (List.mem_of_getElem? (i := 15) rfl)) (hw _ (List.mem_of_getElem? (i := 14) rfl)) (by decide) (by decide)) q1a q1c (g := (mkF m 1 #[.val (.ref a), .val (.int pm), .val (.int pq)] [(.ref a)])) rfl (by rw [hml]; rfl) (Steps.refl _) (argsL := []) (rest := []) (lenOf pd_0 rfl) rfl (by show 2 * 0 + _ ≤ _; exact Nat.le_of_eq rfl) (hb hby d2_1) (fun _ _ => ⟨rfl, e0, (by decide : 0 + 0 ≤ _), (by decide : 0 + 0 ≤ _)⟩)
  dsimp only [Pt.U, Pt.locs, Pt.cells, Pt.slots] at X1 l1 y1 z1 st1 hQ1
  subst l1 y1 z1
  obtain ⟨rfl, Nq1, eq1⟩ := hQ1
  have N1 := Fr.app N0 Nq1
  refine own_step (fun _ κ => st1.trans κ) ?_
  show own_Go _ _ _ _ (T1.setTop (mkF m 4 #[.val (.ref a), .val (.int pm), .val (.int pq)] [(.int (0 : Int32))]))
  refine own_step (fun _ κ => own_lsw X1.here hx rfl (pc0 := 4) (pc' := 42) rfl (hb hby d2_4) rfl (by decide) (by decide) (by intro a b a' b' h; simp at h; omega) κ) ?_
  show own_Go _ _ _ _ (T1.setTop (mkF m 42 #[.val (.ref a), .val (.int pm), .val (.int pq)] []))
  refine own_step (fun _ κ => XS.iloadN X1.here hx rfl (hb hby d2_42) rfl κ) ?_
  show own_Go _ _ _ _ (T1.setTop (mkF m 43 #[.val (.ref a), .val (.int pm), .val (.int pq)] [(.int pm)]))
  refine own_step (fun _ κ => XS.iloadN X1.here hx rfl (hb hby d2_43) rfl κ) ?_
  show own_Go _ _ _ _ (T1.setTop (mkF m 44 #[.val (.ref a), .val (.int pm), .val (.int pq)] [(.int pq), (.int pm)]))
  by_cases hc2 : pm = pq
  · refine own_step (fun _ κ => XS.icmpNo X1.here hx rfl (hb hby d2_44) rfl (teq hc2).2 κ) ?_
    show own_Go _ _ _ _ (T1.setTop (mkF m 47 #[.val (.ref a), .val (.int pm), .val (.int pq)] []))
    refine own_step (fun _ κ => XS.iconst X1.here hx rfl (hb hby d2_47) κ) ?_
    show own_Go _ _ _ _ (T1.setTop (mkF m 48 #[.val (.ref a), .val (.int pm), .val (.int pq)] [(.int (1 : Int32))]))
    refine own_step (fun _ κ => XS.goto X1.here hx rfl (pc0 := 48) (pc' := 64) rfl (hb hby d2_48) (by decide) (by decide) κ) ?_
    show own_Go _ _ _ _ (T1.setTop (mkF m 64 #[.val (.ref a), .val (.int pm), .val (.int pq)] [(.int (1 : Int32))]))
    obtain ⟨fs, hr, hrun, hended, hW, hsame⟩ := X1.leave (v := some (.int (1 : Int32))) (fun h => by rw [Bd.returns] at h; cases h)
    refine ⟨_, _, retN X1 hx (t := .boolean) Bd.returns (by simp) (hb hby d2_64) hr, hrun, hended, _, _, rfl, ?_, ⟨_, rfl⟩, hW, hsame.mono (by decide) (by decide)⟩
    show Q2 Z a pm pq  h0 n0 _ T1.heap _
    rw [eq1]
    exact ⟨(by rw [if_pos hc2]), N1, rfl⟩
  · refine own_step (fun _ κ => XS.icmpYes X1.here hx rfl (pc0 := 44) (pc' := 51) rfl (hb hby d2_44) rfl (feq hc2).2 (by decide) (by decide) κ) ?_
    show own_Go _ _ _ _ (T1.setTop (mkF m 51 #[.val (.ref a), .val (.int pm), .val (.int pq)] []))
    refine own_step (fun _ κ => XS.iconst X1.here hx rfl (hb hby d2_51) κ) ?_
    show own_Go _ _ _ _ (T1.setTop (mkF m 52 #[.val (.ref a), .val (.int pm), .val (.int pq)] [(.int (0 : Int32))]))
    refine own_step (fun _ κ => XS.goto X1.here hx rfl (pc0 := 52) (pc' := 64) rfl (hb hby d2_52) (by decide) (by decide) κ) ?_
    show own_Go _ _ _ _ (T1.setTop (mkF m 64 #[.val (.ref a), .val (.int pm), .val (.int pq)] [(.int (0 : Int32))]))
    obtain ⟨fs, hr, hrun, hended, hW, hsame⟩ := X1.leave (v := some (.int (0 : Int32))) (fun h => by rw [Bd.returns] at h; cases h)
    refine ⟨_, _, retN X1 hx (t := .boolean) Bd.returns (by simp) (hb hby d2_64) hr, hrun, hended, _, _, rfl, ?_, ⟨_, rfl⟩, hW, hsame.mono (by decide) (by decide)⟩
    show Q2 Z a pm pq  h0 n0 _ T1.heap _
    rw [eq1]
    exact ⟨(by rw [if_neg hc2]), N1, rfl⟩
theorem d3_0 : decode prog_31_method_4_code 0 = .ok (.aload_n 0, 1) := by decide +kernel
theorem d3_1 : decode prog_31_method_4_code 1 = .ok (.invokevirtual 29, 3) := by decide +kernel
theorem d3_4 : decode prog_31_method_4_code 4 = .ok (.lookupswitch 28 #[(0, 38), (1, 51)], 28) := by decide +kernel
theorem d3_55 : decode prog_31_method_4_code 55 = .ok (.iload_n 1, 1) := by decide +kernel
theorem d3_56 : decode prog_31_method_4_code 56 = .ok (.ifCond .le 7, 3) := by decide +kernel
theorem d3_59 : decode prog_31_method_4_code 59 = .ok (.iconst 1, 1) := by decide +kernel
theorem d3_60 : decode prog_31_method_4_code 60 = .ok (.goto 4, 3) := by decide +kernel
theorem d3_63 : decode prog_31_method_4_code 63 = .ok (.iconst 0, 1) := by decide +kernel
theorem d3_64 : decode prog_31_method_4_code 64 = .ok (.ireturn, 1) := by decide +kernel
theorem ef_3 (m : MethodId) (a : Addr) (pm : Int32) (pq : Int32) : entryFrame m #[(.ref a), (.int pm), (.int pq)] 3 = mkF m 0 #[.val (.ref a), .val (.int pm), .val (.int pq)] [] := by first | (simp [entryFrame, mkF, argsToLocals, Value.category]; done) | rfl
def Q3 (Z : State) (a : Addr) (pm : Int32) (pq : Int32) (h0 : Heap) (n0 : Nat) (v : Option Value) (h : Heap) (L : List Loc) : Prop := v = some (.int (if (0 : Int32) < pm then (1 : Int32) else (0 : Int32))) ∧ Fr n0 L ∧ h = h0
set_option maxRecDepth 65536 in
set_option maxHeartbeats 40000000 in
theorem rm3 (l : Launch) (Z : State) (a0 : Array Value) (hw : ∀ d ∈ tables_1, d.before a0 Z = true) (ws : List Jvm.Cond) (a : Addr) (pm : Int32) (pq : Int32) (h0 : Heap) (n0 : Nat) (Z0 : n0 ≤ h0.size) (P0 : Exa Z h0 a "com/example/lens_on_archives/lensonarchives/Semantics") (P1 : Fld Z h0 a "java/lang/Enum" "ordinal" "I" (.int (1 : Int32))) :
    MetFree l (⟨"com/example/lens_on_archives/lensonarchives/Semantics", "matches", "(II)Z"⟩ : MethodName) (head1 (Jvm.Cond.code (⟨"com/example/lens_on_archives/lensonarchives/Semantics", "matches", "(II)Z"⟩ : MethodName) prog_31_method_4_code 3 (some .boolean) :: ws) ({ frames := 1, cells := 0, slots := 0, locals := 12 } : Room)) (fun ar_ U => ar_ = #[(.ref a), (.int pm), (.int pq)] ∧ Z.Warmed39 U.vm ∧ U.heap = h0) (fun _ _ _ _ _ => True) (fun _ U oo_ U' => ∃ v L, oo_ = .returned v ∧ Q3 Z a pm pq  h0 n0 v U'.heap L ∧ FrameEnd U oo_ U' L ({ frames := 1, cells := 0, slots := 0, locals := 12 } : Room).cells ({ frames := 1, cells := 0, slots := 0, locals := 12 } : Room).slots) := by
  refine MetFree.of_bodySF (plainFor_of_name pn_1) hisR ?_
  intro p e s m args below meth c s₁ Bd hml0 hP hK
  obtain ⟨rfl, hZ, hh⟩ := hP
  have hx := Bd.exec
  have hby := Bd.bytes
  have hml : c.maxLocals = 3 := hml0
  have hown : s.vm.findClass "com/example/lens_on_archives/lensonarchives/Semantics" = some m.cls := findClass_of_methodNamed Bd.named
  have hnm := (name_of_methodNamed Bd.named Bd.method).1
  have X0 : Stand p l e ({ frames := 1, cells := 0, slots := 0, locals := 12 } : Room) s m #[(.ref a), (.int pm), (.int pq)] below meth c s₁ [] 0 0 := Stand.of_body Bd
  have e0 : s₁.heap = h0 := by rw [← hh, Bd.state]; rfl
  have N0 := Fr.nil n0
  refine own_in (castTop (ef_3 m a pm pq)) ?_
  show own_Go _ _ _ _ (s₁.setTop (mkF m 0 #[.val (.ref a), .val (.int pm), .val (.int pq)] []))
  refine own_step (fun _ κ => XS.aloadN X0.here hx rfl (hb hby d3_0) rfl rfl κ) ?_
  show own_Go _ _ _ _ (s₁.setTop (mkF m 1 #[.val (.ref a), .val (.int pm), .val (.int pq)] [(.ref a)]))
  obtain ⟨cq1, kq1, q1a, q1b, q1c⟩ := isOf hZ e0 P0
  obtain ⟨vr1, _, ⟨T1, L1, k1, n1⟩, -, X1, ⟨Lc1, hQ1, l1, y1, z1⟩, st1⟩ := X0.virtualBackUp hx (owner := "java/lang/Enum") (x := (⟨"com/example/lens_on_archives/lensonarchives/Semantics", "ordinal", "()I"⟩ : MethodName)) (y := (⟨"java/lang/Enum", "ordinal", "()I"⟩ : MethodName)) hown (mvT hZ (hw _ (List.mem_of_getElem? (i := 9) rfl))) (mvT hZ (hw _ (List.mem_of_getElem? (i := 10) rfl))) (mvT hZ (hw _ (List.mem_of_getElem? (i := 11) rfl))) (by decide) (mvT hZ (hw _ (List.mem_of_getElem? (i := 13) rfl))) (mvT hZ (hw _ (List.mem_of_getElem? (i := 12) rfl))) (backOf (W := 0) (rm1 l Z a0 hw [] a (1 : Int32) h0 n0 Z0 P1) hZ (hw _ (List.mem_of_getElem? (i := 15) rfl)) (hw _ (List.mem_of_getElem? (i := 14) rfl)) (by decide) (by decide)) q1a q1c (g := (mkF m 1 #[.val (.ref a), .val (.int pm), .val (.int pq)] [(.ref a)])) rfl (by rw [hml]; rfl) (Steps.refl _) (argsL := []) (rest := []) (lenOf pd_0 rfl) rfl (by show 2 * 0 + _ ≤ _; exact Nat.le_of_eq rfl) (hb hby d3_1) (fun _ _ => ⟨rfl, e0, (by decide : 0 + 0 ≤ _), (by decide : 0 + 0 ≤ _)⟩)
  dsimp only [Pt.U, Pt.locs, Pt.cells, Pt.slots] at X1 l1 y1 z1 st1 hQ1
  subst l1 y1 z1
  obtain ⟨rfl, Nq1, eq1⟩ := hQ1
  have N1 := Fr.app N0 Nq1
  refine own_step (fun _ κ => st1.trans κ) ?_
  show own_Go _ _ _ _ (T1.setTop (mkF m 4 #[.val (.ref a), .val (.int pm), .val (.int pq)] [(.int (1 : Int32))]))
  refine own_step (fun _ κ => own_lsw X1.here hx rfl (pc0 := 4) (pc' := 55) rfl (hb hby d3_4) rfl (by decide) (by decide) (by intro a b a' b' h; simp at h; omega) κ) ?_
  show own_Go _ _ _ _ (T1.setTop (mkF m 55 #[.val (.ref a), .val (.int pm), .val (.int pq)] []))
  refine own_step (fun _ κ => XS.iloadN X1.here hx rfl (hb hby d3_55) rfl κ) ?_
  show own_Go _ _ _ _ (T1.setTop (mkF m 56 #[.val (.ref a), .val (.int pm), .val (.int pq)] [(.int pm)]))
  by_cases hc2 : (0 : Int32) < pm
  · refine own_step (fun _ κ => XS.ifNo X1.here hx rfl (hb hby d3_56) rfl ((if0 _ _).trans (tlt hc2).2.2.2) κ) ?_
    show own_Go _ _ _ _ (T1.setTop (mkF m 59 #[.val (.ref a), .val (.int pm), .val (.int pq)] []))
    refine own_step (fun _ κ => XS.iconst X1.here hx rfl (hb hby d3_59) κ) ?_
    show own_Go _ _ _ _ (T1.setTop (mkF m 60 #[.val (.ref a), .val (.int pm), .val (.int pq)] [(.int (1 : Int32))]))
    refine own_step (fun _ κ => XS.goto X1.here hx rfl (pc0 := 60) (pc' := 64) rfl (hb hby d3_60) (by decide) (by decide) κ) ?_
    show own_Go _ _ _ _ (T1.setTop (mkF m 64 #[.val (.ref a), .val (.int pm), .val (.int pq)] [(.int (1 : Int32))]))
    obtain ⟨fs, hr, hrun, hended, hW, hsame⟩ := X1.leave (v := some (.int (1 : Int32))) (fun h => by rw [Bd.returns] at h; cases h)
    refine ⟨_, _, retN X1 hx (t := .boolean) Bd.returns (by simp) (hb hby d3_64) hr, hrun, hended, _, _, rfl, ?_, ⟨_, rfl⟩, hW, hsame.mono (by decide) (by decide)⟩
    show Q3 Z a pm pq  h0 n0 _ T1.heap _
    rw [eq1]
    exact ⟨(by rw [if_pos hc2]), N1, rfl⟩
  · refine own_step (fun _ κ => XS.ifYes X1.here hx rfl (pc0 := 56) (pc' := 63) rfl (hb hby d3_56) rfl ((if0 _ _).trans (flt hc2).2.2.2) (by decide) (by decide) κ) ?_
    show own_Go _ _ _ _ (T1.setTop (mkF m 63 #[.val (.ref a), .val (.int pm), .val (.int pq)] []))
    refine own_step (fun _ κ => XS.iconst X1.here hx rfl (hb hby d3_63) κ) ?_
    show own_Go _ _ _ _ (T1.setTop (mkF m 64 #[.val (.ref a), .val (.int pm), .val (.int pq)] [(.int (0 : Int32))]))
    obtain ⟨fs, hr, hrun, hended, hW, hsame⟩ := X1.leave (v := some (.int (0 : Int32))) (fun h => by rw [Bd.returns] at h; cases h)
    refine ⟨_, _, retN X1 hx (t := .boolean) Bd.returns (by simp) (hb hby d3_64) hr, hrun, hended, _, _, rfl, ?_, ⟨_, rfl⟩, hW, hsame.mono (by decide) (by decide)⟩
    show Q3 Z a pm pq  h0 n0 _ T1.heap _
    rw [eq1]
    exact ⟨(by rw [if_neg hc2]), N1, rfl⟩
theorem ef_0 (m : MethodId) (pa : Int32) (pb : Int32) (fg : Int32) : entryFrame m #[(.int pa), (.int pb), (.int fg)] maxLocals = mkF m 0 #[.val (.int pa), .val (.int pb), .val (.int fg), .unset, .unset, .unset, .unset, .unset, .unset, .unset] [] := by first | (simp [entryFrame, mkF, argsToLocals, Value.category, maxLocals]; done) | rfl
def Q0 (Z : State) (pa : Int32) (pb : Int32) (fg : Int32) (s_AND : Addr) (s_OR : Addr) (h0 : Heap) (n0 : Nat) (v : Option Value) (h : Heap) (L : List Loc) : Prop := v = some (.int (1 : Int32)) ∧ Fr n0 L
set_option maxRecDepth 65536 in
set_option maxHeartbeats 40000000 in
theorem rm0 (l : Launch) (Z : State) (a0 : Array Value) (hw : ∀ d ∈ tables_1, d.before a0 Z = true) (ws : List Jvm.Cond) (pa : Int32) (pb : Int32) (fg : Int32) (s_AND : Addr) (s_OR : Addr) (h0 : Heap) (n0 : Nat) (Z0 : n0 ≤ h0.size) (P0 : Old Z n0 h0) (P1 : Sta Z Z.heap "com/example/lens_on_archives/lensonarchives/Semantics" "AND" "Lcom/example/lens_on_archives/lensonarchives/Semantics;" (.ref s_AND)) (P2 : Exa Z Z.heap s_AND "com/example/lens_on_archives/lensonarchives/Semantics") (P3 : Sta Z Z.heap "com/example/lens_on_archives/lensonarchives/Semantics" "OR" "Lcom/example/lens_on_archives/lensonarchives/Semantics;" (.ref s_OR)) (P4 : Exa Z Z.heap s_OR "com/example/lens_on_archives/lensonarchives/Semantics") (P5 : Fld Z Z.heap s_AND "java/lang/Enum" "ordinal" "I" (.int (0 : Int32))) (P6 : Fld Z Z.heap s_OR "java/lang/Enum" "ordinal" "I" (.int (1 : Int32))) :
    MetFree l x (head1 (Jvm.Cond.code x code maxLocals ret :: ws) room_1) (fun ar_ U => ar_ = #[(.int pa), (.int pb), (.int fg)] ∧ Z.Warmed39 U.vm ∧ U.heap = h0) (fun _ _ _ _ _ => True) (fun _ U oo_ U' => ∃ v L, oo_ = .returned v ∧ Q0 Z pa pb fg s_AND s_OR h0 n0 v U'.heap L ∧ FrameEnd U oo_ U' L room_1.cells room_1.slots) := by
  refine MetFree.of_bodySF (plainFor_of_name pn_2) hisR ?_
  intro p e s m args below meth c s₁ Bd hml0 hP hK
  obtain ⟨rfl, hZ, hh⟩ := hP
  have hx := Bd.exec
  have hby := Bd.bytes
  have hml : c.maxLocals = 10 := hml0
  have hown : s.vm.findClass "com/example/lens_on_archives/lensonarchives/SemanticsMatchesPinLaw" = some m.cls := findClass_of_methodNamed Bd.named
  have hnm := (name_of_methodNamed Bd.named Bd.method).1
  have X0 : Stand p l e room_1 s m #[(.int pa), (.int pb), (.int fg)] below meth c s₁ [] 0 0 := Stand.of_body Bd
  have e0 : s₁.heap = h0 := by rw [← hh, Bd.state]; rfl
  have N0 := Fr.nil n0
  refine own_in (castTop (ef_0 m pa pb fg)) ?_
  show own_Go _ _ _ _ (s₁.setTop (mkF m 0 #[.val (.int pa), .val (.int pb), .val (.int fg), .unset, .unset, .unset, .unset, .unset, .unset, .unset] []))
  refine own_step (fun _ κ => XS.iloadN X0.here hx rfl (hb hby at_0) rfl κ) ?_
  show own_Go _ _ _ _ (s₁.setTop (mkF m 1 #[.val (.int pa), .val (.int pb), .val (.int fg), .unset, .unset, .unset, .unset, .unset, .unset, .unset] [(.int pa)]))
  refine own_step (fun _ κ => X0.ldcInt hx hown (mvT hZ (hw _ (List.mem_of_getElem? (i := 0) rfl))) (g := (mkF m 1 #[.val (.int pa), .val (.int pb), .val (.int fg), .unset, .unset, .unset, .unset, .unset, .unset, .unset] [(.int pa)])) rfl (hb hby at_1) _ κ) ?_
  show own_Go _ _ _ _ (s₁.setTop (mkF m 3 #[.val (.int pa), .val (.int pb), .val (.int fg), .unset, .unset, .unset, .unset, .unset, .unset, .unset] [(.int (2147483647 : Int32)), (.int pa)]))
  refine own_step (fun _ κ => XS.iand X0.here hx rfl (hb hby at_3) rfl κ) ?_
  show own_Go _ _ _ _ (s₁.setTop (mkF m 4 #[.val (.int pa), .val (.int pb), .val (.int fg), .unset, .unset, .unset, .unset, .unset, .unset, .unset] [(.int (pa &&& (2147483647 : Int32)))]))
  refine own_step (fun _ κ => XS.istoreN X0.here hx rfl (hb hby at_4) rfl (l' := #[.val (.int pa), .val (.int pb), .val (.int fg), .val (.int (pa &&& (2147483647 : Int32))), .unset, .unset, .unset, .unset, .unset, .unset]) rfl κ) ?_
  show own_Go _ _ _ _ (s₁.setTop (mkF m 5 #[.val (.int pa), .val (.int pb), .val (.int fg), .val (.int (pa &&& (2147483647 : Int32))), .unset, .unset, .unset, .unset, .unset, .unset] []))
  refine own_step (fun _ κ => XS.iloadN X0.here hx rfl (hb hby at_5) rfl κ) ?_
  show own_Go _ _ _ _ (s₁.setTop (mkF m 6 #[.val (.int pa), .val (.int pb), .val (.int fg), .val (.int (pa &&& (2147483647 : Int32))), .unset, .unset, .unset, .unset, .unset, .unset] [(.int fg)]))
  refine own_step (fun _ κ => XS.iconst X0.here hx rfl (hb hby at_6) κ) ?_
  show own_Go _ _ _ _ (s₁.setTop (mkF m 7 #[.val (.int pa), .val (.int pb), .val (.int fg), .val (.int (pa &&& (2147483647 : Int32))), .unset, .unset, .unset, .unset, .unset, .unset] [(.int (1 : Int32)), (.int fg)]))
  refine own_step (fun _ κ => XS.iand X0.here hx rfl (hb hby at_7) rfl κ) ?_
  show own_Go _ _ _ _ (s₁.setTop (mkF m 8 #[.val (.int pa), .val (.int pb), .val (.int fg), .val (.int (pa &&& (2147483647 : Int32))), .unset, .unset, .unset, .unset, .unset, .unset] [(.int (fg &&& (1 : Int32)))]))
  by_cases hc1 : (fg &&& (1 : Int32)) = (0 : Int32)
  · refine own_step (fun _ κ => XS.ifYes X0.here hx rfl (pc0 := 8) (pc' := 17) rfl (hb hby at_8) rfl ((if0 _ _).trans (teq hc1).1) (by decide) (by decide) κ) ?_
    show own_Go _ _ _ _ (s₁.setTop (mkF m 17 #[.val (.int pa), .val (.int pb), .val (.int fg), .val (.int (pa &&& (2147483647 : Int32))), .unset, .unset, .unset, .unset, .unset, .unset] []))
    refine own_step (fun _ κ => XS.iloadN X0.here hx rfl (hb hby at_17) rfl κ) ?_
    show own_Go _ _ _ _ (s₁.setTop (mkF m 18 #[.val (.int pa), .val (.int pb), .val (.int fg), .val (.int (pa &&& (2147483647 : Int32))), .unset, .unset, .unset, .unset, .unset, .unset] [(.int pb)]))
    refine own_step (fun _ κ => X0.ldcInt hx hown (mvT hZ (hw _ (List.mem_of_getElem? (i := 0) rfl))) (g := (mkF m 18 #[.val (.int pa), .val (.int pb), .val (.int fg), .val (.int (pa &&& (2147483647 : Int32))), .unset, .unset, .unset, .unset, .unset, .unset] [(.int pb)])) rfl (hb hby at_18) _ κ) ?_
    show own_Go _ _ _ _ (s₁.setTop (mkF m 20 #[.val (.int pa), .val (.int pb), .val (.int fg), .val (.int (pa &&& (2147483647 : Int32))), .unset, .unset, .unset, .unset, .unset, .unset] [(.int (2147483647 : Int32)), (.int pb)]))
    refine own_step (fun _ κ => XS.iand X0.here hx rfl (hb hby at_20) rfl κ) ?_
    show own_Go _ _ _ _ (s₁.setTop (mkF m 21 #[.val (.int pa), .val (.int pb), .val (.int fg), .val (.int (pa &&& (2147483647 : Int32))), .unset, .unset, .unset, .unset, .unset, .unset] [(.int (pb &&& (2147483647 : Int32)))]))
    refine own_step (fun _ κ => XS.iloadN X0.here hx rfl (hb hby at_21) rfl κ) ?_
    show own_Go _ _ _ _ (s₁.setTop (mkF m 22 #[.val (.int pa), .val (.int pb), .val (.int fg), .val (.int (pa &&& (2147483647 : Int32))), .unset, .unset, .unset, .unset, .unset, .unset] [(.int (pa &&& (2147483647 : Int32))), (.int (pb &&& (2147483647 : Int32)))]))
    by_cases hc2 : (pa &&& (2147483647 : Int32)) = (0 : Int32)
    · refine own_step (fun _ κ => XS.ifNo X0.here hx rfl (hb hby at_22) rfl ((if0 _ _).trans (teq hc2).2) κ) ?_
      show own_Go _ _ _ _ (s₁.setTop (mkF m 25 #[.val (.int pa), .val (.int pb), .val (.int fg), .val (.int (pa &&& (2147483647 : Int32))), .unset, .unset, .unset, .unset, .unset, .unset] [(.int (pb &&& (2147483647 : Int32)))]))
      refine own_step (fun _ κ => XS.iconst X0.here hx rfl (hb hby at_25) κ) ?_
      show own_Go _ _ _ _ (s₁.setTop (mkF m 26 #[.val (.int pa), .val (.int pb), .val (.int fg), .val (.int (pa &&& (2147483647 : Int32))), .unset, .unset, .unset, .unset, .unset, .unset] [(.int (1 : Int32)), (.int (pb &&& (2147483647 : Int32)))]))
      refine own_step (fun _ κ => XS.goto X0.here hx rfl (pc0 := 26) (pc' := 30) rfl (hb hby at_26) (by decide) (by decide) κ) ?_
      show own_Go _ _ _ _ (s₁.setTop (mkF m 30 #[.val (.int pa), .val (.int pb), .val (.int fg), .val (.int (pa &&& (2147483647 : Int32))), .unset, .unset, .unset, .unset, .unset, .unset] [(.int (1 : Int32)), (.int (pb &&& (2147483647 : Int32)))]))
      refine own_step (fun _ κ => iremM X0 hx rfl (hb hby at_30) rfl (by decide) κ) ?_
      show own_Go _ _ _ _ (s₁.setTop (mkF m 31 #[.val (.int pa), .val (.int pb), .val (.int fg), .val (.int (pa &&& (2147483647 : Int32))), .unset, .unset, .unset, .unset, .unset, .unset] [(.int ((pb &&& (2147483647 : Int32)) % (1 : Int32)))]))
      refine own_step (fun _ κ => XS.istore X0.here hx rfl (hb hby at_31) rfl (l' := #[.val (.int pa), .val (.int pb), .val (.int fg), .val (.int (pa &&& (2147483647 : Int32))), .val (.int ((pb &&& (2147483647 : Int32)) % (1 : Int32))), .unset, .unset, .unset, .unset, .unset]) rfl κ) ?_
      show own_Go _ _ _ _ (s₁.setTop (mkF m 33 #[.val (.int pa), .val (.int pb), .val (.int fg), .val (.int (pa &&& (2147483647 : Int32))), .val (.int ((pb &&& (2147483647 : Int32)) % (1 : Int32))), .unset, .unset, .unset, .unset, .unset] []))
      obtain ⟨T3, X3, e3, st3⟩ := getS2 X0 hx hZ hown (host := "") (Or.inl (hw _ (List.mem_of_getElem? (i := 1) rfl))) Via.refl e0 (P1.ext P0.2) (g := (mkF m 33 #[.val (.int pa), .val (.int pb), .val (.int fg), .val (.int (pa &&& (2147483647 : Int32))), .val (.int ((pb &&& (2147483647 : Int32)) % (1 : Int32))), .unset, .unset, .unset, .unset, .unset] [])) rfl (hb hby at_33)
      refine own_step st3 ?_
      show own_Go _ _ _ _ (T3.setTop (mkF m 36 #[.val (.int pa), .val (.int pb), .val (.int fg), .val (.int (pa &&& (2147483647 : Int32))), .val (.int ((pb &&& (2147483647 : Int32)) % (1 : Int32))), .unset, .unset, .unset, .unset, .unset] [(.ref s_AND)]))
      refine own_step (fun _ κ => XS.iload X3.here hx rfl (hb hby at_36) rfl κ) ?_
      show own_Go _ _ _ _ (T3.setTop (mkF m 38 #[.val (.int pa), .val (.int pb), .val (.int fg), .val (.int (pa &&& (2147483647 : Int32))), .val (.int ((pb &&& (2147483647 : Int32)) % (1 : Int32))), .unset, .unset, .unset, .unset, .unset] [(.int ((pb &&& (2147483647 : Int32)) % (1 : Int32))), (.ref s_AND)]))
      refine own_step (fun _ κ => XS.iloadN X3.here hx rfl (hb hby at_38) rfl κ) ?_
      show own_Go _ _ _ _ (T3.setTop (mkF m 39 #[.val (.int pa), .val (.int pb), .val (.int fg), .val (.int (pa &&& (2147483647 : Int32))), .val (.int ((pb &&& (2147483647 : Int32)) % (1 : Int32))), .unset, .unset, .unset, .unset, .unset] [(.int (pa &&& (2147483647 : Int32))), (.int ((pb &&& (2147483647 : Int32)) % (1 : Int32))), (.ref s_AND)]))
      obtain ⟨cq4, kq4, q4a, q4b, q4c⟩ := isOf hZ e3 (P2.ext P0.2)
      obtain ⟨vr4, _, ⟨T4, L4, k4, n4⟩, -, X4, ⟨Lc4, hQ4, l4, y4, z4⟩, st4⟩ := X3.virtualBack hx (y := (⟨"com/example/lens_on_archives/lensonarchives/Semantics", "matches", "(II)Z"⟩ : MethodName)) (z := (⟨"com/example/lens_on_archives/lensonarchives/Semantics", "matches", "(II)Z"⟩ : MethodName)) hown (mvT hZ (hw _ (List.mem_of_getElem? (i := 4) rfl))) (mvT hZ (hw _ (List.mem_of_getElem? (i := 5) rfl))) (notFace_of_selects (args := #[]) (mvT hZ (hw _ (List.mem_of_getElem? (i := 7) rfl)))) (mvT hZ (hw _ (List.mem_of_getElem? (i := 7) rfl))) (mvT hZ (hw _ (List.mem_of_getElem? (i := 6) rfl))) (by decide) (backOf (W := 0) (rm2 l Z a0 hw [] s_AND ((pb &&& (2147483647 : Int32)) % (1 : Int32)) (pa &&& (2147483647 : Int32))  h0 n0 Z0 (P2.ext P0.2) (P5.ext P0.2)) hZ (hw _ (List.mem_of_getElem? (i := 8) rfl)) (hw _ (List.mem_of_getElem? (i := 2) rfl)) (by decide) (by decide)) q4a q4c (g := (mkF m 39 #[.val (.int pa), .val (.int pb), .val (.int fg), .val (.int (pa &&& (2147483647 : Int32))), .val (.int ((pb &&& (2147483647 : Int32)) % (1 : Int32))), .unset, .unset, .unset, .unset, .unset] [(.int (pa &&& (2147483647 : Int32))), (.int ((pb &&& (2147483647 : Int32)) % (1 : Int32))), (.ref s_AND)])) rfl (by rw [hml]; rfl) (Steps.refl _) (argsL := [(.int ((pb &&& (2147483647 : Int32)) % (1 : Int32))), (.int (pa &&& (2147483647 : Int32)))]) (rest := []) (lenOf pd_1 rfl) rfl (by show 2 * 0 + _ ≤ _; exact Nat.le_of_eq rfl) (hb hby at_39) (fun _ _ => ⟨rfl, e3, (by decide : 0 + 0 ≤ _), (by decide : 0 + 0 ≤ _)⟩)
      dsimp only [Pt.U, Pt.locs, Pt.cells, Pt.slots] at X4 l4 y4 z4 st4 hQ4
      subst l4 y4 z4
      obtain ⟨hv4, Nq4, eq4⟩ := hQ4
      have N4 := Fr.app N0 Nq4
      by_cases hc5 : ((pb &&& (2147483647 : Int32)) % (1 : Int32)) = (pa &&& (2147483647 : Int32))
      · rw [if_pos hc5] at hv4
        subst hv4
        refine own_step (fun _ κ => st4.trans κ) ?_
        show own_Go _ _ _ _ (T4.setTop (mkF m 42 #[.val (.int pa), .val (.int pb), .val (.int fg), .val (.int (pa &&& (2147483647 : Int32))), .val (.int ((pb &&& (2147483647 : Int32)) % (1 : Int32))), .unset, .unset, .unset, .unset, .unset] [(.int (1 : Int32))]))
        refine own_step (fun _ κ => XS.istore X4.here hx rfl (hb hby at_42) rfl (l' := #[.val (.int pa), .val (.int pb), .val (.int fg), .val (.int (pa &&& (2147483647 : Int32))), .val (.int ((pb &&& (2147483647 : Int32)) % (1 : Int32))), .val (.int (1 : Int32)), .unset, .unset, .unset, .unset]) rfl κ) ?_
        show own_Go _ _ _ _ (T4.setTop (mkF m 44 #[.val (.int pa), .val (.int pb), .val (.int fg), .val (.int (pa &&& (2147483647 : Int32))), .val (.int ((pb &&& (2147483647 : Int32)) % (1 : Int32))), .val (.int (1 : Int32)), .unset, .unset, .unset, .unset] []))
        obtain ⟨T6, X6, e6, st6⟩ := getS2 X4 hx hZ hown (host := "") (Or.inl (hw _ (List.mem_of_getElem? (i := 18) rfl))) Via.refl eq4 (P3.ext P0.2) (g := (mkF m 44 #[.val (.int pa), .val (.int pb), .val (.int fg), .val (.int (pa &&& (2147483647 : Int32))), .val (.int ((pb &&& (2147483647 : Int32)) % (1 : Int32))), .val (.int (1 : Int32)), .unset, .unset, .unset, .unset] [])) rfl (hb hby at_44)
        refine own_step st6 ?_
        show own_Go _ _ _ _ (T6.setTop (mkF m 47 #[.val (.int pa), .val (.int pb), .val (.int fg), .val (.int (pa &&& (2147483647 : Int32))), .val (.int ((pb &&& (2147483647 : Int32)) % (1 : Int32))), .val (.int (1 : Int32)), .unset, .unset, .unset, .unset] [(.ref s_OR)]))
        refine own_step (fun _ κ => XS.iload X6.here hx rfl (hb hby at_47) rfl κ) ?_
        show own_Go _ _ _ _ (T6.setTop (mkF m 49 #[.val (.int pa), .val (.int pb), .val (.int fg), .val (.int (pa &&& (2147483647 : Int32))), .val (.int ((pb &&& (2147483647 : Int32)) % (1 : Int32))), .val (.int (1 : Int32)), .unset, .unset, .unset, .unset] [(.int ((pb &&& (2147483647 : Int32)) % (1 : Int32))), (.ref s_OR)]))
        refine own_step (fun _ κ => XS.iloadN X6.here hx rfl (hb hby at_49) rfl κ) ?_
        show own_Go _ _ _ _ (T6.setTop (mkF m 50 #[.val (.int pa), .val (.int pb), .val (.int fg), .val (.int (pa &&& (2147483647 : Int32))), .val (.int ((pb &&& (2147483647 : Int32)) % (1 : Int32))), .val (.int (1 : Int32)), .unset, .unset, .unset, .unset] [(.int (pa &&& (2147483647 : Int32))), (.int ((pb &&& (2147483647 : Int32)) % (1 : Int32))), (.ref s_OR)]))
        obtain ⟨cq7, kq7, q7a, q7b, q7c⟩ := isOf hZ e6 (P4.ext P0.2)
        obtain ⟨vr7, _, ⟨T7, L7, k7, n7⟩, -, X7, ⟨Lc7, hQ7, l7, y7, z7⟩, st7⟩ := X6.virtualBack hx (y := (⟨"com/example/lens_on_archives/lensonarchives/Semantics", "matches", "(II)Z"⟩ : MethodName)) (z := (⟨"com/example/lens_on_archives/lensonarchives/Semantics", "matches", "(II)Z"⟩ : MethodName)) hown (mvT hZ (hw _ (List.mem_of_getElem? (i := 4) rfl))) (mvT hZ (hw _ (List.mem_of_getElem? (i := 5) rfl))) (notFace_of_selects (args := #[]) (mvT hZ (hw _ (List.mem_of_getElem? (i := 7) rfl)))) (mvT hZ (hw _ (List.mem_of_getElem? (i := 7) rfl))) (mvT hZ (hw _ (List.mem_of_getElem? (i := 6) rfl))) (by decide) (backOf (W := 0) (rm3 l Z a0 hw [] s_OR ((pb &&& (2147483647 : Int32)) % (1 : Int32)) (pa &&& (2147483647 : Int32))  h0 n0 Z0 (P4.ext P0.2) (P6.ext P0.2)) hZ (hw _ (List.mem_of_getElem? (i := 8) rfl)) (hw _ (List.mem_of_getElem? (i := 2) rfl)) (by decide) (by decide)) q7a q7c (g := (mkF m 50 #[.val (.int pa), .val (.int pb), .val (.int fg), .val (.int (pa &&& (2147483647 : Int32))), .val (.int ((pb &&& (2147483647 : Int32)) % (1 : Int32))), .val (.int (1 : Int32)), .unset, .unset, .unset, .unset] [(.int (pa &&& (2147483647 : Int32))), (.int ((pb &&& (2147483647 : Int32)) % (1 : Int32))), (.ref s_OR)])) rfl (by rw [hml]; rfl) (Steps.refl _) (argsL := [(.int ((pb &&& (2147483647 : Int32)) % (1 : Int32))), (.int (pa &&& (2147483647 : Int32)))]) (rest := []) (lenOf pd_1 rfl) rfl (by show 2 * 0 + _ ≤ _; exact Nat.le_of_eq rfl) (hb hby at_50) (fun _ _ => ⟨rfl, e6, (by decide : 0 + 0 ≤ _), (by decide : 0 + 0 ≤ _)⟩)
        dsimp only [Pt.U, Pt.locs, Pt.cells, Pt.slots] at X7 l7 y7 z7 st7 hQ7
        subst l7 y7 z7
        obtain ⟨hv7, Nq7, eq7⟩ := hQ7
        have N7 := Fr.app N4 Nq7
        by_cases hc8 : (0 : Int32) < ((pb &&& (2147483647 : Int32)) % (1 : Int32))
        · rw [if_pos hc8] at hv7
          subst hv7
          refine own_step (fun _ κ => st7.trans κ) ?_
          show own_Go _ _ _ _ (T7.setTop (mkF m 53 #[.val (.int pa), .val (.int pb), .val (.int fg), .val (.int (pa &&& (2147483647 : Int32))), .val (.int ((pb &&& (2147483647 : Int32)) % (1 : Int32))), .val (.int (1 : Int32)), .unset, .unset, .unset, .unset] [(.int (1 : Int32))]))
          refine own_step (fun _ κ => XS.istore X7.here hx rfl (hb hby at_53) rfl (l' := #[.val (.int pa), .val (.int pb), .val (.int fg), .val (.int (pa &&& (2147483647 : Int32))), .val (.int ((pb &&& (2147483647 : Int32)) % (1 : Int32))), .val (.int (1 : Int32)), .val (.int (1 : Int32)), .unset, .unset, .unset]) rfl κ) ?_
          show own_Go _ _ _ _ (T7.setTop (mkF m 55 #[.val (.int pa), .val (.int pb), .val (.int fg), .val (.int (pa &&& (2147483647 : Int32))), .val (.int ((pb &&& (2147483647 : Int32)) % (1 : Int32))), .val (.int (1 : Int32)), .val (.int (1 : Int32)), .unset, .unset, .unset] []))
          refine own_step (fun _ κ => XS.iloadN X7.here hx rfl (hb hby at_55) rfl κ) ?_
          show own_Go _ _ _ _ (T7.setTop (mkF m 56 #[.val (.int pa), .val (.int pb), .val (.int fg), .val (.int (pa &&& (2147483647 : Int32))), .val (.int ((pb &&& (2147483647 : Int32)) % (1 : Int32))), .val (.int (1 : Int32)), .val (.int (1 : Int32)), .unset, .unset, .unset] [(.int (pa &&& (2147483647 : Int32)))]))
          refine own_step (fun _ κ => XS.iload X7.here hx rfl (hb hby at_56) rfl κ) ?_
          show own_Go _ _ _ _ (T7.setTop (mkF m 58 #[.val (.int pa), .val (.int pb), .val (.int fg), .val (.int (pa &&& (2147483647 : Int32))), .val (.int ((pb &&& (2147483647 : Int32)) % (1 : Int32))), .val (.int (1 : Int32)), .val (.int (1 : Int32)), .unset, .unset, .unset] [(.int ((pb &&& (2147483647 : Int32)) % (1 : Int32))), (.int (pa &&& (2147483647 : Int32)))]))
          refine own_step (fun _ κ => XS.isub X7.here hx rfl (hb hby at_58) rfl κ) ?_
          show own_Go _ _ _ _ (T7.setTop (mkF m 59 #[.val (.int pa), .val (.int pb), .val (.int fg), .val (.int (pa &&& (2147483647 : Int32))), .val (.int ((pb &&& (2147483647 : Int32)) % (1 : Int32))), .val (.int (1 : Int32)), .val (.int (1 : Int32)), .unset, .unset, .unset] [(.int ((pa &&& (2147483647 : Int32)) - ((pb &&& (2147483647 : Int32)) % (1 : Int32))))]))
          refine own_step (fun _ κ => XS.ifYes X7.here hx rfl (pc0 := 59) (pc' := 66) rfl (hb hby at_59) rfl ((if0 _ _).trans (teq (own_sub0 hc5)).1) (by decide) (by decide) κ) ?_
          show own_Go _ _ _ _ (T7.setTop (mkF m 66 #[.val (.int pa), .val (.int pb), .val (.int fg), .val (.int (pa &&& (2147483647 : Int32))), .val (.int ((pb &&& (2147483647 : Int32)) % (1 : Int32))), .val (.int (1 : Int32)), .val (.int (1 : Int32)), .unset, .unset, .unset] []))
          refine own_step (fun _ κ => XS.iconst X7.here hx rfl (hb hby at_66) κ) ?_
          show own_Go _ _ _ _ (T7.setTop (mkF m 67 #[.val (.int pa), .val (.int pb), .val (.int fg), .val (.int (pa &&& (2147483647 : Int32))), .val (.int ((pb &&& (2147483647 : Int32)) % (1 : Int32))), .val (.int (1 : Int32)), .val (.int (1 : Int32)), .unset, .unset, .unset] [(.int (0 : Int32))]))
          refine own_step (fun _ κ => XS.istore X7.here hx rfl (hb hby at_67) rfl (l' := #[.val (.int pa), .val (.int pb), .val (.int fg), .val (.int (pa &&& (2147483647 : Int32))), .val (.int ((pb &&& (2147483647 : Int32)) % (1 : Int32))), .val (.int (1 : Int32)), .val (.int (1 : Int32)), .val (.int (0 : Int32)), .unset, .unset]) rfl κ) ?_
          show own_Go _ _ _ _ (T7.setTop (mkF m 69 #[.val (.int pa), .val (.int pb), .val (.int fg), .val (.int (pa &&& (2147483647 : Int32))), .val (.int ((pb &&& (2147483647 : Int32)) % (1 : Int32))), .val (.int (1 : Int32)), .val (.int (1 : Int32)), .val (.int (0 : Int32)), .unset, .unset] []))
          refine own_step (fun _ κ => XS.iload X7.here hx rfl (hb hby at_69) rfl κ) ?_
          show own_Go _ _ _ _ (T7.setTop (mkF m 71 #[.val (.int pa), .val (.int pb), .val (.int fg), .val (.int (pa &&& (2147483647 : Int32))), .val (.int ((pb &&& (2147483647 : Int32)) % (1 : Int32))), .val (.int (1 : Int32)), .val (.int (1 : Int32)), .val (.int (0 : Int32)), .unset, .unset] [(.int (0 : Int32))]))
          refine own_step (fun _ κ => XS.ifNo X7.here hx rfl (hb hby at_71) rfl ((if0 _ _).trans (teq rfl).2) κ) ?_
          show own_Go _ _ _ _ (T7.setTop (mkF m 74 #[.val (.int pa), .val (.int pb), .val (.int fg), .val (.int (pa &&& (2147483647 : Int32))), .val (.int ((pb &&& (2147483647 : Int32)) % (1 : Int32))), .val (.int (1 : Int32)), .val (.int (1 : Int32)), .val (.int (0 : Int32)), .unset, .unset] []))
          refine own_step (fun _ κ => XS.iconst X7.here hx rfl (hb hby at_74) κ) ?_
          show own_Go _ _ _ _ (T7.setTop (mkF m 75 #[.val (.int pa), .val (.int pb), .val (.int fg), .val (.int (pa &&& (2147483647 : Int32))), .val (.int ((pb &&& (2147483647 : Int32)) % (1 : Int32))), .val (.int (1 : Int32)), .val (.int (1 : Int32)), .val (.int (0 : Int32)), .unset, .unset] [(.int (1 : Int32))]))
          refine own_step (fun _ κ => XS.goto X7.here hx rfl (pc0 := 75) (pc' := 79) rfl (hb hby at_75) (by decide) (by decide) κ) ?_
          show own_Go _ _ _ _ (T7.setTop (mkF m 79 #[.val (.int pa), .val (.int pb), .val (.int fg), .val (.int (pa &&& (2147483647 : Int32))), .val (.int ((pb &&& (2147483647 : Int32)) % (1 : Int32))), .val (.int (1 : Int32)), .val (.int (1 : Int32)), .val (.int (0 : Int32)), .unset, .unset] [(.int (1 : Int32))]))
          refine own_step (fun _ κ => XS.istore X7.here hx rfl (hb hby at_79) rfl (l' := #[.val (.int pa), .val (.int pb), .val (.int fg), .val (.int (pa &&& (2147483647 : Int32))), .val (.int ((pb &&& (2147483647 : Int32)) % (1 : Int32))), .val (.int (1 : Int32)), .val (.int (1 : Int32)), .val (.int (0 : Int32)), .val (.int (1 : Int32)), .unset]) rfl κ) ?_
          show own_Go _ _ _ _ (T7.setTop (mkF m 81 #[.val (.int pa), .val (.int pb), .val (.int fg), .val (.int (pa &&& (2147483647 : Int32))), .val (.int ((pb &&& (2147483647 : Int32)) % (1 : Int32))), .val (.int (1 : Int32)), .val (.int (1 : Int32)), .val (.int (0 : Int32)), .val (.int (1 : Int32)), .unset] []))
          refine own_step (fun _ κ => XS.iload X7.here hx rfl (hb hby at_81) rfl κ) ?_
          show own_Go _ _ _ _ (T7.setTop (mkF m 83 #[.val (.int pa), .val (.int pb), .val (.int fg), .val (.int (pa &&& (2147483647 : Int32))), .val (.int ((pb &&& (2147483647 : Int32)) % (1 : Int32))), .val (.int (1 : Int32)), .val (.int (1 : Int32)), .val (.int (0 : Int32)), .val (.int (1 : Int32)), .unset] [(.int ((pb &&& (2147483647 : Int32)) % (1 : Int32)))]))
          refine own_step (fun _ κ => XS.iconst X7.here hx rfl (hb hby at_83) κ) ?_
          show own_Go _ _ _ _ (T7.setTop (mkF m 84 #[.val (.int pa), .val (.int pb), .val (.int fg), .val (.int (pa &&& (2147483647 : Int32))), .val (.int ((pb &&& (2147483647 : Int32)) % (1 : Int32))), .val (.int (1 : Int32)), .val (.int (1 : Int32)), .val (.int (0 : Int32)), .val (.int (1 : Int32)), .unset] [(.int (1 : Int32)), (.int ((pb &&& (2147483647 : Int32)) % (1 : Int32)))]))
          refine own_step (fun _ κ => XS.icmpNo X7.here hx rfl (hb hby at_84) rfl (flt (own_pos hc8)).1 κ) ?_
          show own_Go _ _ _ _ (T7.setTop (mkF m 87 #[.val (.int pa), .val (.int pb), .val (.int fg), .val (.int (pa &&& (2147483647 : Int32))), .val (.int ((pb &&& (2147483647 : Int32)) % (1 : Int32))), .val (.int (1 : Int32)), .val (.int (1 : Int32)), .val (.int (0 : Int32)), .val (.int (1 : Int32)), .unset] []))
          refine own_step (fun _ κ => XS.iconst X7.here hx rfl (hb hby at_87) κ) ?_
          show own_Go _ _ _ _ (T7.setTop (mkF m 88 #[.val (.int pa), .val (.int pb), .val (.int fg), .val (.int (pa &&& (2147483647 : Int32))), .val (.int ((pb &&& (2147483647 : Int32)) % (1 : Int32))), .val (.int (1 : Int32)), .val (.int (1 : Int32)), .val (.int (0 : Int32)), .val (.int (1 : Int32)), .unset] [(.int (1 : Int32))]))
          refine own_step (fun _ κ => XS.goto X7.here hx rfl (pc0 := 88) (pc' := 92) rfl (hb hby at_88) (by decide) (by decide) κ) ?_
          show own_Go _ _ _ _ (T7.setTop (mkF m 92 #[.val (.int pa), .val (.int pb), .val (.int fg), .val (.int (pa &&& (2147483647 : Int32))), .val (.int ((pb &&& (2147483647 : Int32)) % (1 : Int32))), .val (.int (1 : Int32)), .val (.int (1 : Int32)), .val (.int (0 : Int32)), .val (.int (1 : Int32)), .unset] [(.int (1 : Int32))]))
          refine own_step (fun _ κ => XS.istore X7.here hx rfl (hb hby at_92) rfl (l' := #[.val (.int pa), .val (.int pb), .val (.int fg), .val (.int (pa &&& (2147483647 : Int32))), .val (.int ((pb &&& (2147483647 : Int32)) % (1 : Int32))), .val (.int (1 : Int32)), .val (.int (1 : Int32)), .val (.int (0 : Int32)), .val (.int (1 : Int32)), .val (.int (1 : Int32))]) rfl κ) ?_
          show own_Go _ _ _ _ (T7.setTop (mkF m 94 #[.val (.int pa), .val (.int pb), .val (.int fg), .val (.int (pa &&& (2147483647 : Int32))), .val (.int ((pb &&& (2147483647 : Int32)) % (1 : Int32))), .val (.int (1 : Int32)), .val (.int (1 : Int32)), .val (.int (0 : Int32)), .val (.int (1 : Int32)), .val (.int (1 : Int32))] []))
          refine own_step (fun _ κ => XS.iload X7.here hx rfl (hb hby at_94) rfl κ) ?_
          show own_Go _ _ _ _ (T7.setTop (mkF m 96 #[.val (.int pa), .val (.int pb), .val (.int fg), .val (.int (pa &&& (2147483647 : Int32))), .val (.int ((pb &&& (2147483647 : Int32)) % (1 : Int32))), .val (.int (1 : Int32)), .val (.int (1 : Int32)), .val (.int (0 : Int32)), .val (.int (1 : Int32)), .val (.int (1 : Int32))] [(.int (1 : Int32))]))
          refine own_step (fun _ κ => XS.iload X7.here hx rfl (hb hby at_96) rfl κ) ?_
          show own_Go _ _ _ _ (T7.setTop (mkF m 98 #[.val (.int pa), .val (.int pb), .val (.int fg), .val (.int (pa &&& (2147483647 : Int32))), .val (.int ((pb &&& (2147483647 : Int32)) % (1 : Int32))), .val (.int (1 : Int32)), .val (.int (1 : Int32)), .val (.int (0 : Int32)), .val (.int (1 : Int32)), .val (.int (1 : Int32))] [(.int (1 : Int32)), (.int (1 : Int32))]))
          refine own_step (fun _ κ => XS.icmpNo X7.here hx rfl (hb hby at_98) rfl (teq rfl).2 κ) ?_
          show own_Go _ _ _ _ (T7.setTop (mkF m 101 #[.val (.int pa), .val (.int pb), .val (.int fg), .val (.int (pa &&& (2147483647 : Int32))), .val (.int ((pb &&& (2147483647 : Int32)) % (1 : Int32))), .val (.int (1 : Int32)), .val (.int (1 : Int32)), .val (.int (0 : Int32)), .val (.int (1 : Int32)), .val (.int (1 : Int32))] []))
          refine own_step (fun _ κ => XS.iload X7.here hx rfl (hb hby at_101) rfl κ) ?_
          show own_Go _ _ _ _ (T7.setTop (mkF m 103 #[.val (.int pa), .val (.int pb), .val (.int fg), .val (.int (pa &&& (2147483647 : Int32))), .val (.int ((pb &&& (2147483647 : Int32)) % (1 : Int32))), .val (.int (1 : Int32)), .val (.int (1 : Int32)), .val (.int (0 : Int32)), .val (.int (1 : Int32)), .val (.int (1 : Int32))] [(.int (1 : Int32))]))
          refine own_step (fun _ κ => XS.iload X7.here hx rfl (hb hby at_103) rfl κ) ?_
          show own_Go _ _ _ _ (T7.setTop (mkF m 105 #[.val (.int pa), .val (.int pb), .val (.int fg), .val (.int (pa &&& (2147483647 : Int32))), .val (.int ((pb &&& (2147483647 : Int32)) % (1 : Int32))), .val (.int (1 : Int32)), .val (.int (1 : Int32)), .val (.int (0 : Int32)), .val (.int (1 : Int32)), .val (.int (1 : Int32))] [(.int (1 : Int32)), (.int (1 : Int32))]))
          refine own_step (fun _ κ => XS.icmpNo X7.here hx rfl (hb hby at_105) rfl (teq rfl).2 κ) ?_
          show own_Go _ _ _ _ (T7.setTop (mkF m 108 #[.val (.int pa), .val (.int pb), .val (.int fg), .val (.int (pa &&& (2147483647 : Int32))), .val (.int ((pb &&& (2147483647 : Int32)) % (1 : Int32))), .val (.int (1 : Int32)), .val (.int (1 : Int32)), .val (.int (0 : Int32)), .val (.int (1 : Int32)), .val (.int (1 : Int32))] []))
          refine own_step (fun _ κ => XS.iconst X7.here hx rfl (hb hby at_108) κ) ?_
          show own_Go _ _ _ _ (T7.setTop (mkF m 109 #[.val (.int pa), .val (.int pb), .val (.int fg), .val (.int (pa &&& (2147483647 : Int32))), .val (.int ((pb &&& (2147483647 : Int32)) % (1 : Int32))), .val (.int (1 : Int32)), .val (.int (1 : Int32)), .val (.int (0 : Int32)), .val (.int (1 : Int32)), .val (.int (1 : Int32))] [(.int (1 : Int32))]))
          refine own_step (fun _ κ => XS.goto X7.here hx rfl (pc0 := 109) (pc' := 113) rfl (hb hby at_109) (by decide) (by decide) κ) ?_
          show own_Go _ _ _ _ (T7.setTop (mkF m 113 #[.val (.int pa), .val (.int pb), .val (.int fg), .val (.int (pa &&& (2147483647 : Int32))), .val (.int ((pb &&& (2147483647 : Int32)) % (1 : Int32))), .val (.int (1 : Int32)), .val (.int (1 : Int32)), .val (.int (0 : Int32)), .val (.int (1 : Int32)), .val (.int (1 : Int32))] [(.int (1 : Int32))]))
          obtain ⟨fs, hr, hrun, hended, hW, hsame⟩ := X7.leave (v := some (.int (1 : Int32))) (fun h => by rw [Bd.returns] at h; cases h)
          refine ⟨_, _, retN X7 hx (t := .boolean) Bd.returns (by simp) (hb hby at_113) hr, hrun, hended, _, _, rfl, ?_, ⟨_, rfl⟩, hW, hsame.mono (by decide) (by decide)⟩
          show Q0 Z pa pb fg s_AND s_OR h0 n0 _ T7.heap _
          exact ⟨rfl, N7⟩
        · rw [if_neg hc8] at hv7
          subst hv7
          refine own_step (fun _ κ => st7.trans κ) ?_
          show own_Go _ _ _ _ (T7.setTop (mkF m 53 #[.val (.int pa), .val (.int pb), .val (.int fg), .val (.int (pa &&& (2147483647 : Int32))), .val (.int ((pb &&& (2147483647 : Int32)) % (1 : Int32))), .val (.int (1 : Int32)), .unset, .unset, .unset, .unset] [(.int (0 : Int32))]))
          refine own_step (fun _ κ => XS.istore X7.here hx rfl (hb hby at_53) rfl (l' := #[.val (.int pa), .val (.int pb), .val (.int fg), .val (.int (pa &&& (2147483647 : Int32))), .val (.int ((pb &&& (2147483647 : Int32)) % (1 : Int32))), .val (.int (1 : Int32)), .val (.int (0 : Int32)), .unset, .unset, .unset]) rfl κ) ?_
          show own_Go _ _ _ _ (T7.setTop (mkF m 55 #[.val (.int pa), .val (.int pb), .val (.int fg), .val (.int (pa &&& (2147483647 : Int32))), .val (.int ((pb &&& (2147483647 : Int32)) % (1 : Int32))), .val (.int (1 : Int32)), .val (.int (0 : Int32)), .unset, .unset, .unset] []))
          refine own_step (fun _ κ => XS.iloadN X7.here hx rfl (hb hby at_55) rfl κ) ?_
          show own_Go _ _ _ _ (T7.setTop (mkF m 56 #[.val (.int pa), .val (.int pb), .val (.int fg), .val (.int (pa &&& (2147483647 : Int32))), .val (.int ((pb &&& (2147483647 : Int32)) % (1 : Int32))), .val (.int (1 : Int32)), .val (.int (0 : Int32)), .unset, .unset, .unset] [(.int (pa &&& (2147483647 : Int32)))]))
          refine own_step (fun _ κ => XS.iload X7.here hx rfl (hb hby at_56) rfl κ) ?_
          show own_Go _ _ _ _ (T7.setTop (mkF m 58 #[.val (.int pa), .val (.int pb), .val (.int fg), .val (.int (pa &&& (2147483647 : Int32))), .val (.int ((pb &&& (2147483647 : Int32)) % (1 : Int32))), .val (.int (1 : Int32)), .val (.int (0 : Int32)), .unset, .unset, .unset] [(.int ((pb &&& (2147483647 : Int32)) % (1 : Int32))), (.int (pa &&& (2147483647 : Int32)))]))
          refine own_step (fun _ κ => XS.isub X7.here hx rfl (hb hby at_58) rfl κ) ?_
          show own_Go _ _ _ _ (T7.setTop (mkF m 59 #[.val (.int pa), .val (.int pb), .val (.int fg), .val (.int (pa &&& (2147483647 : Int32))), .val (.int ((pb &&& (2147483647 : Int32)) % (1 : Int32))), .val (.int (1 : Int32)), .val (.int (0 : Int32)), .unset, .unset, .unset] [(.int ((pa &&& (2147483647 : Int32)) - ((pb &&& (2147483647 : Int32)) % (1 : Int32))))]))
          refine own_step (fun _ κ => XS.ifYes X7.here hx rfl (pc0 := 59) (pc' := 66) rfl (hb hby at_59) rfl ((if0 _ _).trans (teq (own_sub0 hc5)).1) (by decide) (by decide) κ) ?_
          show own_Go _ _ _ _ (T7.setTop (mkF m 66 #[.val (.int pa), .val (.int pb), .val (.int fg), .val (.int (pa &&& (2147483647 : Int32))), .val (.int ((pb &&& (2147483647 : Int32)) % (1 : Int32))), .val (.int (1 : Int32)), .val (.int (0 : Int32)), .unset, .unset, .unset] []))
          refine own_step (fun _ κ => XS.iconst X7.here hx rfl (hb hby at_66) κ) ?_
          show own_Go _ _ _ _ (T7.setTop (mkF m 67 #[.val (.int pa), .val (.int pb), .val (.int fg), .val (.int (pa &&& (2147483647 : Int32))), .val (.int ((pb &&& (2147483647 : Int32)) % (1 : Int32))), .val (.int (1 : Int32)), .val (.int (0 : Int32)), .unset, .unset, .unset] [(.int (0 : Int32))]))
          refine own_step (fun _ κ => XS.istore X7.here hx rfl (hb hby at_67) rfl (l' := #[.val (.int pa), .val (.int pb), .val (.int fg), .val (.int (pa &&& (2147483647 : Int32))), .val (.int ((pb &&& (2147483647 : Int32)) % (1 : Int32))), .val (.int (1 : Int32)), .val (.int (0 : Int32)), .val (.int (0 : Int32)), .unset, .unset]) rfl κ) ?_
          show own_Go _ _ _ _ (T7.setTop (mkF m 69 #[.val (.int pa), .val (.int pb), .val (.int fg), .val (.int (pa &&& (2147483647 : Int32))), .val (.int ((pb &&& (2147483647 : Int32)) % (1 : Int32))), .val (.int (1 : Int32)), .val (.int (0 : Int32)), .val (.int (0 : Int32)), .unset, .unset] []))
          refine own_step (fun _ κ => XS.iload X7.here hx rfl (hb hby at_69) rfl κ) ?_
          show own_Go _ _ _ _ (T7.setTop (mkF m 71 #[.val (.int pa), .val (.int pb), .val (.int fg), .val (.int (pa &&& (2147483647 : Int32))), .val (.int ((pb &&& (2147483647 : Int32)) % (1 : Int32))), .val (.int (1 : Int32)), .val (.int (0 : Int32)), .val (.int (0 : Int32)), .unset, .unset] [(.int (0 : Int32))]))
          refine own_step (fun _ κ => XS.ifNo X7.here hx rfl (hb hby at_71) rfl ((if0 _ _).trans (teq rfl).2) κ) ?_
          show own_Go _ _ _ _ (T7.setTop (mkF m 74 #[.val (.int pa), .val (.int pb), .val (.int fg), .val (.int (pa &&& (2147483647 : Int32))), .val (.int ((pb &&& (2147483647 : Int32)) % (1 : Int32))), .val (.int (1 : Int32)), .val (.int (0 : Int32)), .val (.int (0 : Int32)), .unset, .unset] []))
          refine own_step (fun _ κ => XS.iconst X7.here hx rfl (hb hby at_74) κ) ?_
          show own_Go _ _ _ _ (T7.setTop (mkF m 75 #[.val (.int pa), .val (.int pb), .val (.int fg), .val (.int (pa &&& (2147483647 : Int32))), .val (.int ((pb &&& (2147483647 : Int32)) % (1 : Int32))), .val (.int (1 : Int32)), .val (.int (0 : Int32)), .val (.int (0 : Int32)), .unset, .unset] [(.int (1 : Int32))]))
          refine own_step (fun _ κ => XS.goto X7.here hx rfl (pc0 := 75) (pc' := 79) rfl (hb hby at_75) (by decide) (by decide) κ) ?_
          show own_Go _ _ _ _ (T7.setTop (mkF m 79 #[.val (.int pa), .val (.int pb), .val (.int fg), .val (.int (pa &&& (2147483647 : Int32))), .val (.int ((pb &&& (2147483647 : Int32)) % (1 : Int32))), .val (.int (1 : Int32)), .val (.int (0 : Int32)), .val (.int (0 : Int32)), .unset, .unset] [(.int (1 : Int32))]))
          refine own_step (fun _ κ => XS.istore X7.here hx rfl (hb hby at_79) rfl (l' := #[.val (.int pa), .val (.int pb), .val (.int fg), .val (.int (pa &&& (2147483647 : Int32))), .val (.int ((pb &&& (2147483647 : Int32)) % (1 : Int32))), .val (.int (1 : Int32)), .val (.int (0 : Int32)), .val (.int (0 : Int32)), .val (.int (1 : Int32)), .unset]) rfl κ) ?_
          show own_Go _ _ _ _ (T7.setTop (mkF m 81 #[.val (.int pa), .val (.int pb), .val (.int fg), .val (.int (pa &&& (2147483647 : Int32))), .val (.int ((pb &&& (2147483647 : Int32)) % (1 : Int32))), .val (.int (1 : Int32)), .val (.int (0 : Int32)), .val (.int (0 : Int32)), .val (.int (1 : Int32)), .unset] []))
          refine own_step (fun _ κ => XS.iload X7.here hx rfl (hb hby at_81) rfl κ) ?_
          show own_Go _ _ _ _ (T7.setTop (mkF m 83 #[.val (.int pa), .val (.int pb), .val (.int fg), .val (.int (pa &&& (2147483647 : Int32))), .val (.int ((pb &&& (2147483647 : Int32)) % (1 : Int32))), .val (.int (1 : Int32)), .val (.int (0 : Int32)), .val (.int (0 : Int32)), .val (.int (1 : Int32)), .unset] [(.int ((pb &&& (2147483647 : Int32)) % (1 : Int32)))]))
          refine own_step (fun _ κ => XS.iconst X7.here hx rfl (hb hby at_83) κ) ?_
          show own_Go _ _ _ _ (T7.setTop (mkF m 84 #[.val (.int pa), .val (.int pb), .val (.int fg), .val (.int (pa &&& (2147483647 : Int32))), .val (.int ((pb &&& (2147483647 : Int32)) % (1 : Int32))), .val (.int (1 : Int32)), .val (.int (0 : Int32)), .val (.int (0 : Int32)), .val (.int (1 : Int32)), .unset] [(.int (1 : Int32)), (.int ((pb &&& (2147483647 : Int32)) % (1 : Int32)))]))
          refine own_step (fun _ κ => XS.icmpYes X7.here hx rfl (pc0 := 84) (pc' := 91) rfl (hb hby at_84) rfl (tlt (own_npos hc8)).1 (by decide) (by decide) κ) ?_
          show own_Go _ _ _ _ (T7.setTop (mkF m 91 #[.val (.int pa), .val (.int pb), .val (.int fg), .val (.int (pa &&& (2147483647 : Int32))), .val (.int ((pb &&& (2147483647 : Int32)) % (1 : Int32))), .val (.int (1 : Int32)), .val (.int (0 : Int32)), .val (.int (0 : Int32)), .val (.int (1 : Int32)), .unset] []))
          refine own_step (fun _ κ => XS.iconst X7.here hx rfl (hb hby at_91) κ) ?_
          show own_Go _ _ _ _ (T7.setTop (mkF m 92 #[.val (.int pa), .val (.int pb), .val (.int fg), .val (.int (pa &&& (2147483647 : Int32))), .val (.int ((pb &&& (2147483647 : Int32)) % (1 : Int32))), .val (.int (1 : Int32)), .val (.int (0 : Int32)), .val (.int (0 : Int32)), .val (.int (1 : Int32)), .unset] [(.int (0 : Int32))]))
          refine own_step (fun _ κ => XS.istore X7.here hx rfl (hb hby at_92) rfl (l' := #[.val (.int pa), .val (.int pb), .val (.int fg), .val (.int (pa &&& (2147483647 : Int32))), .val (.int ((pb &&& (2147483647 : Int32)) % (1 : Int32))), .val (.int (1 : Int32)), .val (.int (0 : Int32)), .val (.int (0 : Int32)), .val (.int (1 : Int32)), .val (.int (0 : Int32))]) rfl κ) ?_
          show own_Go _ _ _ _ (T7.setTop (mkF m 94 #[.val (.int pa), .val (.int pb), .val (.int fg), .val (.int (pa &&& (2147483647 : Int32))), .val (.int ((pb &&& (2147483647 : Int32)) % (1 : Int32))), .val (.int (1 : Int32)), .val (.int (0 : Int32)), .val (.int (0 : Int32)), .val (.int (1 : Int32)), .val (.int (0 : Int32))] []))
          refine own_step (fun _ κ => XS.iload X7.here hx rfl (hb hby at_94) rfl κ) ?_
          show own_Go _ _ _ _ (T7.setTop (mkF m 96 #[.val (.int pa), .val (.int pb), .val (.int fg), .val (.int (pa &&& (2147483647 : Int32))), .val (.int ((pb &&& (2147483647 : Int32)) % (1 : Int32))), .val (.int (1 : Int32)), .val (.int (0 : Int32)), .val (.int (0 : Int32)), .val (.int (1 : Int32)), .val (.int (0 : Int32))] [(.int (1 : Int32))]))
          refine own_step (fun _ κ => XS.iload X7.here hx rfl (hb hby at_96) rfl κ) ?_
          show own_Go _ _ _ _ (T7.setTop (mkF m 98 #[.val (.int pa), .val (.int pb), .val (.int fg), .val (.int (pa &&& (2147483647 : Int32))), .val (.int ((pb &&& (2147483647 : Int32)) % (1 : Int32))), .val (.int (1 : Int32)), .val (.int (0 : Int32)), .val (.int (0 : Int32)), .val (.int (1 : Int32)), .val (.int (0 : Int32))] [(.int (1 : Int32)), (.int (1 : Int32))]))
          refine own_step (fun _ κ => XS.icmpNo X7.here hx rfl (hb hby at_98) rfl (teq rfl).2 κ) ?_
          show own_Go _ _ _ _ (T7.setTop (mkF m 101 #[.val (.int pa), .val (.int pb), .val (.int fg), .val (.int (pa &&& (2147483647 : Int32))), .val (.int ((pb &&& (2147483647 : Int32)) % (1 : Int32))), .val (.int (1 : Int32)), .val (.int (0 : Int32)), .val (.int (0 : Int32)), .val (.int (1 : Int32)), .val (.int (0 : Int32))] []))
          refine own_step (fun _ κ => XS.iload X7.here hx rfl (hb hby at_101) rfl κ) ?_
          show own_Go _ _ _ _ (T7.setTop (mkF m 103 #[.val (.int pa), .val (.int pb), .val (.int fg), .val (.int (pa &&& (2147483647 : Int32))), .val (.int ((pb &&& (2147483647 : Int32)) % (1 : Int32))), .val (.int (1 : Int32)), .val (.int (0 : Int32)), .val (.int (0 : Int32)), .val (.int (1 : Int32)), .val (.int (0 : Int32))] [(.int (0 : Int32))]))
          refine own_step (fun _ κ => XS.iload X7.here hx rfl (hb hby at_103) rfl κ) ?_
          show own_Go _ _ _ _ (T7.setTop (mkF m 105 #[.val (.int pa), .val (.int pb), .val (.int fg), .val (.int (pa &&& (2147483647 : Int32))), .val (.int ((pb &&& (2147483647 : Int32)) % (1 : Int32))), .val (.int (1 : Int32)), .val (.int (0 : Int32)), .val (.int (0 : Int32)), .val (.int (1 : Int32)), .val (.int (0 : Int32))] [(.int (0 : Int32)), (.int (0 : Int32))]))
          refine own_step (fun _ κ => XS.icmpNo X7.here hx rfl (hb hby at_105) rfl (teq rfl).2 κ) ?_
          show own_Go _ _ _ _ (T7.setTop (mkF m 108 #[.val (.int pa), .val (.int pb), .val (.int fg), .val (.int (pa &&& (2147483647 : Int32))), .val (.int ((pb &&& (2147483647 : Int32)) % (1 : Int32))), .val (.int (1 : Int32)), .val (.int (0 : Int32)), .val (.int (0 : Int32)), .val (.int (1 : Int32)), .val (.int (0 : Int32))] []))
          refine own_step (fun _ κ => XS.iconst X7.here hx rfl (hb hby at_108) κ) ?_
          show own_Go _ _ _ _ (T7.setTop (mkF m 109 #[.val (.int pa), .val (.int pb), .val (.int fg), .val (.int (pa &&& (2147483647 : Int32))), .val (.int ((pb &&& (2147483647 : Int32)) % (1 : Int32))), .val (.int (1 : Int32)), .val (.int (0 : Int32)), .val (.int (0 : Int32)), .val (.int (1 : Int32)), .val (.int (0 : Int32))] [(.int (1 : Int32))]))
          refine own_step (fun _ κ => XS.goto X7.here hx rfl (pc0 := 109) (pc' := 113) rfl (hb hby at_109) (by decide) (by decide) κ) ?_
          show own_Go _ _ _ _ (T7.setTop (mkF m 113 #[.val (.int pa), .val (.int pb), .val (.int fg), .val (.int (pa &&& (2147483647 : Int32))), .val (.int ((pb &&& (2147483647 : Int32)) % (1 : Int32))), .val (.int (1 : Int32)), .val (.int (0 : Int32)), .val (.int (0 : Int32)), .val (.int (1 : Int32)), .val (.int (0 : Int32))] [(.int (1 : Int32))]))
          obtain ⟨fs, hr, hrun, hended, hW, hsame⟩ := X7.leave (v := some (.int (1 : Int32))) (fun h => by rw [Bd.returns] at h; cases h)
          refine ⟨_, _, retN X7 hx (t := .boolean) Bd.returns (by simp) (hb hby at_113) hr, hrun, hended, _, _, rfl, ?_, ⟨_, rfl⟩, hW, hsame.mono (by decide) (by decide)⟩
          show Q0 Z pa pb fg s_AND s_OR h0 n0 _ T7.heap _
          exact ⟨rfl, N7⟩
      · rw [if_neg hc5] at hv4
        subst hv4
        refine own_step (fun _ κ => st4.trans κ) ?_
        show own_Go _ _ _ _ (T4.setTop (mkF m 42 #[.val (.int pa), .val (.int pb), .val (.int fg), .val (.int (pa &&& (2147483647 : Int32))), .val (.int ((pb &&& (2147483647 : Int32)) % (1 : Int32))), .unset, .unset, .unset, .unset, .unset] [(.int (0 : Int32))]))
        refine own_step (fun _ κ => XS.istore X4.here hx rfl (hb hby at_42) rfl (l' := #[.val (.int pa), .val (.int pb), .val (.int fg), .val (.int (pa &&& (2147483647 : Int32))), .val (.int ((pb &&& (2147483647 : Int32)) % (1 : Int32))), .val (.int (0 : Int32)), .unset, .unset, .unset, .unset]) rfl κ) ?_
        show own_Go _ _ _ _ (T4.setTop (mkF m 44 #[.val (.int pa), .val (.int pb), .val (.int fg), .val (.int (pa &&& (2147483647 : Int32))), .val (.int ((pb &&& (2147483647 : Int32)) % (1 : Int32))), .val (.int (0 : Int32)), .unset, .unset, .unset, .unset] []))
        obtain ⟨T9, X9, e9, st9⟩ := getS2 X4 hx hZ hown (host := "") (Or.inl (hw _ (List.mem_of_getElem? (i := 18) rfl))) Via.refl eq4 (P3.ext P0.2) (g := (mkF m 44 #[.val (.int pa), .val (.int pb), .val (.int fg), .val (.int (pa &&& (2147483647 : Int32))), .val (.int ((pb &&& (2147483647 : Int32)) % (1 : Int32))), .val (.int (0 : Int32)), .unset, .unset, .unset, .unset] [])) rfl (hb hby at_44)
        refine own_step st9 ?_
        show own_Go _ _ _ _ (T9.setTop (mkF m 47 #[.val (.int pa), .val (.int pb), .val (.int fg), .val (.int (pa &&& (2147483647 : Int32))), .val (.int ((pb &&& (2147483647 : Int32)) % (1 : Int32))), .val (.int (0 : Int32)), .unset, .unset, .unset, .unset] [(.ref s_OR)]))
        refine own_step (fun _ κ => XS.iload X9.here hx rfl (hb hby at_47) rfl κ) ?_
        show own_Go _ _ _ _ (T9.setTop (mkF m 49 #[.val (.int pa), .val (.int pb), .val (.int fg), .val (.int (pa &&& (2147483647 : Int32))), .val (.int ((pb &&& (2147483647 : Int32)) % (1 : Int32))), .val (.int (0 : Int32)), .unset, .unset, .unset, .unset] [(.int ((pb &&& (2147483647 : Int32)) % (1 : Int32))), (.ref s_OR)]))
        refine own_step (fun _ κ => XS.iloadN X9.here hx rfl (hb hby at_49) rfl κ) ?_
        show own_Go _ _ _ _ (T9.setTop (mkF m 50 #[.val (.int pa), .val (.int pb), .val (.int fg), .val (.int (pa &&& (2147483647 : Int32))), .val (.int ((pb &&& (2147483647 : Int32)) % (1 : Int32))), .val (.int (0 : Int32)), .unset, .unset, .unset, .unset] [(.int (pa &&& (2147483647 : Int32))), (.int ((pb &&& (2147483647 : Int32)) % (1 : Int32))), (.ref s_OR)]))
        obtain ⟨cq10, kq10, q10a, q10b, q10c⟩ := isOf hZ e9 (P4.ext P0.2)
        obtain ⟨vr10, _, ⟨T10, L10, k10, n10⟩, -, X10, ⟨Lc10, hQ10, l10, y10, z10⟩, st10⟩ := X9.virtualBack hx (y := (⟨"com/example/lens_on_archives/lensonarchives/Semantics", "matches", "(II)Z"⟩ : MethodName)) (z := (⟨"com/example/lens_on_archives/lensonarchives/Semantics", "matches", "(II)Z"⟩ : MethodName)) hown (mvT hZ (hw _ (List.mem_of_getElem? (i := 4) rfl))) (mvT hZ (hw _ (List.mem_of_getElem? (i := 5) rfl))) (notFace_of_selects (args := #[]) (mvT hZ (hw _ (List.mem_of_getElem? (i := 7) rfl)))) (mvT hZ (hw _ (List.mem_of_getElem? (i := 7) rfl))) (mvT hZ (hw _ (List.mem_of_getElem? (i := 6) rfl))) (by decide) (backOf (W := 0) (rm3 l Z a0 hw [] s_OR ((pb &&& (2147483647 : Int32)) % (1 : Int32)) (pa &&& (2147483647 : Int32))  h0 n0 Z0 (P4.ext P0.2) (P6.ext P0.2)) hZ (hw _ (List.mem_of_getElem? (i := 8) rfl)) (hw _ (List.mem_of_getElem? (i := 2) rfl)) (by decide) (by decide)) q10a q10c (g := (mkF m 50 #[.val (.int pa), .val (.int pb), .val (.int fg), .val (.int (pa &&& (2147483647 : Int32))), .val (.int ((pb &&& (2147483647 : Int32)) % (1 : Int32))), .val (.int (0 : Int32)), .unset, .unset, .unset, .unset] [(.int (pa &&& (2147483647 : Int32))), (.int ((pb &&& (2147483647 : Int32)) % (1 : Int32))), (.ref s_OR)])) rfl (by rw [hml]; rfl) (Steps.refl _) (argsL := [(.int ((pb &&& (2147483647 : Int32)) % (1 : Int32))), (.int (pa &&& (2147483647 : Int32)))]) (rest := []) (lenOf pd_1 rfl) rfl (by show 2 * 0 + _ ≤ _; exact Nat.le_of_eq rfl) (hb hby at_50) (fun _ _ => ⟨rfl, e9, (by decide : 0 + 0 ≤ _), (by decide : 0 + 0 ≤ _)⟩)
        dsimp only [Pt.U, Pt.locs, Pt.cells, Pt.slots] at X10 l10 y10 z10 st10 hQ10
        subst l10 y10 z10
        obtain ⟨hv10, Nq10, eq10⟩ := hQ10
        have N10 := Fr.app N4 Nq10
        by_cases hc11 : (0 : Int32) < ((pb &&& (2147483647 : Int32)) % (1 : Int32))
        · rw [if_pos hc11] at hv10
          subst hv10
          refine own_step (fun _ κ => st10.trans κ) ?_
          show own_Go _ _ _ _ (T10.setTop (mkF m 53 #[.val (.int pa), .val (.int pb), .val (.int fg), .val (.int (pa &&& (2147483647 : Int32))), .val (.int ((pb &&& (2147483647 : Int32)) % (1 : Int32))), .val (.int (0 : Int32)), .unset, .unset, .unset, .unset] [(.int (1 : Int32))]))
          refine own_step (fun _ κ => XS.istore X10.here hx rfl (hb hby at_53) rfl (l' := #[.val (.int pa), .val (.int pb), .val (.int fg), .val (.int (pa &&& (2147483647 : Int32))), .val (.int ((pb &&& (2147483647 : Int32)) % (1 : Int32))), .val (.int (0 : Int32)), .val (.int (1 : Int32)), .unset, .unset, .unset]) rfl κ) ?_
          show own_Go _ _ _ _ (T10.setTop (mkF m 55 #[.val (.int pa), .val (.int pb), .val (.int fg), .val (.int (pa &&& (2147483647 : Int32))), .val (.int ((pb &&& (2147483647 : Int32)) % (1 : Int32))), .val (.int (0 : Int32)), .val (.int (1 : Int32)), .unset, .unset, .unset] []))
          refine own_step (fun _ κ => XS.iloadN X10.here hx rfl (hb hby at_55) rfl κ) ?_
          show own_Go _ _ _ _ (T10.setTop (mkF m 56 #[.val (.int pa), .val (.int pb), .val (.int fg), .val (.int (pa &&& (2147483647 : Int32))), .val (.int ((pb &&& (2147483647 : Int32)) % (1 : Int32))), .val (.int (0 : Int32)), .val (.int (1 : Int32)), .unset, .unset, .unset] [(.int (pa &&& (2147483647 : Int32)))]))
          refine own_step (fun _ κ => XS.iload X10.here hx rfl (hb hby at_56) rfl κ) ?_
          show own_Go _ _ _ _ (T10.setTop (mkF m 58 #[.val (.int pa), .val (.int pb), .val (.int fg), .val (.int (pa &&& (2147483647 : Int32))), .val (.int ((pb &&& (2147483647 : Int32)) % (1 : Int32))), .val (.int (0 : Int32)), .val (.int (1 : Int32)), .unset, .unset, .unset] [(.int ((pb &&& (2147483647 : Int32)) % (1 : Int32))), (.int (pa &&& (2147483647 : Int32)))]))
          refine own_step (fun _ κ => XS.isub X10.here hx rfl (hb hby at_58) rfl κ) ?_
          show own_Go _ _ _ _ (T10.setTop (mkF m 59 #[.val (.int pa), .val (.int pb), .val (.int fg), .val (.int (pa &&& (2147483647 : Int32))), .val (.int ((pb &&& (2147483647 : Int32)) % (1 : Int32))), .val (.int (0 : Int32)), .val (.int (1 : Int32)), .unset, .unset, .unset] [(.int ((pa &&& (2147483647 : Int32)) - ((pb &&& (2147483647 : Int32)) % (1 : Int32))))]))
          refine own_step (fun _ κ => XS.ifNo X10.here hx rfl (hb hby at_59) rfl ((if0 _ _).trans (feq (own_sub1 hc5)).1) κ) ?_
          show own_Go _ _ _ _ (T10.setTop (mkF m 62 #[.val (.int pa), .val (.int pb), .val (.int fg), .val (.int (pa &&& (2147483647 : Int32))), .val (.int ((pb &&& (2147483647 : Int32)) % (1 : Int32))), .val (.int (0 : Int32)), .val (.int (1 : Int32)), .unset, .unset, .unset] []))
          refine own_step (fun _ κ => XS.iconst X10.here hx rfl (hb hby at_62) κ) ?_
          show own_Go _ _ _ _ (T10.setTop (mkF m 63 #[.val (.int pa), .val (.int pb), .val (.int fg), .val (.int (pa &&& (2147483647 : Int32))), .val (.int ((pb &&& (2147483647 : Int32)) % (1 : Int32))), .val (.int (0 : Int32)), .val (.int (1 : Int32)), .unset, .unset, .unset] [(.int (1 : Int32))]))
          refine own_step (fun _ κ => XS.goto X10.here hx rfl (pc0 := 63) (pc' := 67) rfl (hb hby at_63) (by decide) (by decide) κ) ?_
          show own_Go _ _ _ _ (T10.setTop (mkF m 67 #[.val (.int pa), .val (.int pb), .val (.int fg), .val (.int (pa &&& (2147483647 : Int32))), .val (.int ((pb &&& (2147483647 : Int32)) % (1 : Int32))), .val (.int (0 : Int32)), .val (.int (1 : Int32)), .unset, .unset, .unset] [(.int (1 : Int32))]))
          refine own_step (fun _ κ => XS.istore X10.here hx rfl (hb hby at_67) rfl (l' := #[.val (.int pa), .val (.int pb), .val (.int fg), .val (.int (pa &&& (2147483647 : Int32))), .val (.int ((pb &&& (2147483647 : Int32)) % (1 : Int32))), .val (.int (0 : Int32)), .val (.int (1 : Int32)), .val (.int (1 : Int32)), .unset, .unset]) rfl κ) ?_
          show own_Go _ _ _ _ (T10.setTop (mkF m 69 #[.val (.int pa), .val (.int pb), .val (.int fg), .val (.int (pa &&& (2147483647 : Int32))), .val (.int ((pb &&& (2147483647 : Int32)) % (1 : Int32))), .val (.int (0 : Int32)), .val (.int (1 : Int32)), .val (.int (1 : Int32)), .unset, .unset] []))
          refine own_step (fun _ κ => XS.iload X10.here hx rfl (hb hby at_69) rfl κ) ?_
          show own_Go _ _ _ _ (T10.setTop (mkF m 71 #[.val (.int pa), .val (.int pb), .val (.int fg), .val (.int (pa &&& (2147483647 : Int32))), .val (.int ((pb &&& (2147483647 : Int32)) % (1 : Int32))), .val (.int (0 : Int32)), .val (.int (1 : Int32)), .val (.int (1 : Int32)), .unset, .unset] [(.int (1 : Int32))]))
          refine own_step (fun _ κ => XS.ifYes X10.here hx rfl (pc0 := 71) (pc' := 78) rfl (hb hby at_71) rfl ((if0 _ _).trans (feq (by decide)).2) (by decide) (by decide) κ) ?_
          show own_Go _ _ _ _ (T10.setTop (mkF m 78 #[.val (.int pa), .val (.int pb), .val (.int fg), .val (.int (pa &&& (2147483647 : Int32))), .val (.int ((pb &&& (2147483647 : Int32)) % (1 : Int32))), .val (.int (0 : Int32)), .val (.int (1 : Int32)), .val (.int (1 : Int32)), .unset, .unset] []))
          refine own_step (fun _ κ => XS.iconst X10.here hx rfl (hb hby at_78) κ) ?_
          show own_Go _ _ _ _ (T10.setTop (mkF m 79 #[.val (.int pa), .val (.int pb), .val (.int fg), .val (.int (pa &&& (2147483647 : Int32))), .val (.int ((pb &&& (2147483647 : Int32)) % (1 : Int32))), .val (.int (0 : Int32)), .val (.int (1 : Int32)), .val (.int (1 : Int32)), .unset, .unset] [(.int (0 : Int32))]))
          refine own_step (fun _ κ => XS.istore X10.here hx rfl (hb hby at_79) rfl (l' := #[.val (.int pa), .val (.int pb), .val (.int fg), .val (.int (pa &&& (2147483647 : Int32))), .val (.int ((pb &&& (2147483647 : Int32)) % (1 : Int32))), .val (.int (0 : Int32)), .val (.int (1 : Int32)), .val (.int (1 : Int32)), .val (.int (0 : Int32)), .unset]) rfl κ) ?_
          show own_Go _ _ _ _ (T10.setTop (mkF m 81 #[.val (.int pa), .val (.int pb), .val (.int fg), .val (.int (pa &&& (2147483647 : Int32))), .val (.int ((pb &&& (2147483647 : Int32)) % (1 : Int32))), .val (.int (0 : Int32)), .val (.int (1 : Int32)), .val (.int (1 : Int32)), .val (.int (0 : Int32)), .unset] []))
          refine own_step (fun _ κ => XS.iload X10.here hx rfl (hb hby at_81) rfl κ) ?_
          show own_Go _ _ _ _ (T10.setTop (mkF m 83 #[.val (.int pa), .val (.int pb), .val (.int fg), .val (.int (pa &&& (2147483647 : Int32))), .val (.int ((pb &&& (2147483647 : Int32)) % (1 : Int32))), .val (.int (0 : Int32)), .val (.int (1 : Int32)), .val (.int (1 : Int32)), .val (.int (0 : Int32)), .unset] [(.int ((pb &&& (2147483647 : Int32)) % (1 : Int32)))]))
          refine own_step (fun _ κ => XS.iconst X10.here hx rfl (hb hby at_83) κ) ?_
          show own_Go _ _ _ _ (T10.setTop (mkF m 84 #[.val (.int pa), .val (.int pb), .val (.int fg), .val (.int (pa &&& (2147483647 : Int32))), .val (.int ((pb &&& (2147483647 : Int32)) % (1 : Int32))), .val (.int (0 : Int32)), .val (.int (1 : Int32)), .val (.int (1 : Int32)), .val (.int (0 : Int32)), .unset] [(.int (1 : Int32)), (.int ((pb &&& (2147483647 : Int32)) % (1 : Int32)))]))
          refine own_step (fun _ κ => XS.icmpNo X10.here hx rfl (hb hby at_84) rfl (flt (own_pos hc11)).1 κ) ?_
          show own_Go _ _ _ _ (T10.setTop (mkF m 87 #[.val (.int pa), .val (.int pb), .val (.int fg), .val (.int (pa &&& (2147483647 : Int32))), .val (.int ((pb &&& (2147483647 : Int32)) % (1 : Int32))), .val (.int (0 : Int32)), .val (.int (1 : Int32)), .val (.int (1 : Int32)), .val (.int (0 : Int32)), .unset] []))
          refine own_step (fun _ κ => XS.iconst X10.here hx rfl (hb hby at_87) κ) ?_
          show own_Go _ _ _ _ (T10.setTop (mkF m 88 #[.val (.int pa), .val (.int pb), .val (.int fg), .val (.int (pa &&& (2147483647 : Int32))), .val (.int ((pb &&& (2147483647 : Int32)) % (1 : Int32))), .val (.int (0 : Int32)), .val (.int (1 : Int32)), .val (.int (1 : Int32)), .val (.int (0 : Int32)), .unset] [(.int (1 : Int32))]))
          refine own_step (fun _ κ => XS.goto X10.here hx rfl (pc0 := 88) (pc' := 92) rfl (hb hby at_88) (by decide) (by decide) κ) ?_
          show own_Go _ _ _ _ (T10.setTop (mkF m 92 #[.val (.int pa), .val (.int pb), .val (.int fg), .val (.int (pa &&& (2147483647 : Int32))), .val (.int ((pb &&& (2147483647 : Int32)) % (1 : Int32))), .val (.int (0 : Int32)), .val (.int (1 : Int32)), .val (.int (1 : Int32)), .val (.int (0 : Int32)), .unset] [(.int (1 : Int32))]))
          refine own_step (fun _ κ => XS.istore X10.here hx rfl (hb hby at_92) rfl (l' := #[.val (.int pa), .val (.int pb), .val (.int fg), .val (.int (pa &&& (2147483647 : Int32))), .val (.int ((pb &&& (2147483647 : Int32)) % (1 : Int32))), .val (.int (0 : Int32)), .val (.int (1 : Int32)), .val (.int (1 : Int32)), .val (.int (0 : Int32)), .val (.int (1 : Int32))]) rfl κ) ?_
          show own_Go _ _ _ _ (T10.setTop (mkF m 94 #[.val (.int pa), .val (.int pb), .val (.int fg), .val (.int (pa &&& (2147483647 : Int32))), .val (.int ((pb &&& (2147483647 : Int32)) % (1 : Int32))), .val (.int (0 : Int32)), .val (.int (1 : Int32)), .val (.int (1 : Int32)), .val (.int (0 : Int32)), .val (.int (1 : Int32))] []))
          refine own_step (fun _ κ => XS.iload X10.here hx rfl (hb hby at_94) rfl κ) ?_
          show own_Go _ _ _ _ (T10.setTop (mkF m 96 #[.val (.int pa), .val (.int pb), .val (.int fg), .val (.int (pa &&& (2147483647 : Int32))), .val (.int ((pb &&& (2147483647 : Int32)) % (1 : Int32))), .val (.int (0 : Int32)), .val (.int (1 : Int32)), .val (.int (1 : Int32)), .val (.int (0 : Int32)), .val (.int (1 : Int32))] [(.int (0 : Int32))]))
          refine own_step (fun _ κ => XS.iload X10.here hx rfl (hb hby at_96) rfl κ) ?_
          show own_Go _ _ _ _ (T10.setTop (mkF m 98 #[.val (.int pa), .val (.int pb), .val (.int fg), .val (.int (pa &&& (2147483647 : Int32))), .val (.int ((pb &&& (2147483647 : Int32)) % (1 : Int32))), .val (.int (0 : Int32)), .val (.int (1 : Int32)), .val (.int (1 : Int32)), .val (.int (0 : Int32)), .val (.int (1 : Int32))] [(.int (0 : Int32)), (.int (0 : Int32))]))
          refine own_step (fun _ κ => XS.icmpNo X10.here hx rfl (hb hby at_98) rfl (teq rfl).2 κ) ?_
          show own_Go _ _ _ _ (T10.setTop (mkF m 101 #[.val (.int pa), .val (.int pb), .val (.int fg), .val (.int (pa &&& (2147483647 : Int32))), .val (.int ((pb &&& (2147483647 : Int32)) % (1 : Int32))), .val (.int (0 : Int32)), .val (.int (1 : Int32)), .val (.int (1 : Int32)), .val (.int (0 : Int32)), .val (.int (1 : Int32))] []))
          refine own_step (fun _ κ => XS.iload X10.here hx rfl (hb hby at_101) rfl κ) ?_
          show own_Go _ _ _ _ (T10.setTop (mkF m 103 #[.val (.int pa), .val (.int pb), .val (.int fg), .val (.int (pa &&& (2147483647 : Int32))), .val (.int ((pb &&& (2147483647 : Int32)) % (1 : Int32))), .val (.int (0 : Int32)), .val (.int (1 : Int32)), .val (.int (1 : Int32)), .val (.int (0 : Int32)), .val (.int (1 : Int32))] [(.int (1 : Int32))]))
          refine own_step (fun _ κ => XS.iload X10.here hx rfl (hb hby at_103) rfl κ) ?_
          show own_Go _ _ _ _ (T10.setTop (mkF m 105 #[.val (.int pa), .val (.int pb), .val (.int fg), .val (.int (pa &&& (2147483647 : Int32))), .val (.int ((pb &&& (2147483647 : Int32)) % (1 : Int32))), .val (.int (0 : Int32)), .val (.int (1 : Int32)), .val (.int (1 : Int32)), .val (.int (0 : Int32)), .val (.int (1 : Int32))] [(.int (1 : Int32)), (.int (1 : Int32))]))
          refine own_step (fun _ κ => XS.icmpNo X10.here hx rfl (hb hby at_105) rfl (teq rfl).2 κ) ?_
          show own_Go _ _ _ _ (T10.setTop (mkF m 108 #[.val (.int pa), .val (.int pb), .val (.int fg), .val (.int (pa &&& (2147483647 : Int32))), .val (.int ((pb &&& (2147483647 : Int32)) % (1 : Int32))), .val (.int (0 : Int32)), .val (.int (1 : Int32)), .val (.int (1 : Int32)), .val (.int (0 : Int32)), .val (.int (1 : Int32))] []))
          refine own_step (fun _ κ => XS.iconst X10.here hx rfl (hb hby at_108) κ) ?_
          show own_Go _ _ _ _ (T10.setTop (mkF m 109 #[.val (.int pa), .val (.int pb), .val (.int fg), .val (.int (pa &&& (2147483647 : Int32))), .val (.int ((pb &&& (2147483647 : Int32)) % (1 : Int32))), .val (.int (0 : Int32)), .val (.int (1 : Int32)), .val (.int (1 : Int32)), .val (.int (0 : Int32)), .val (.int (1 : Int32))] [(.int (1 : Int32))]))
          refine own_step (fun _ κ => XS.goto X10.here hx rfl (pc0 := 109) (pc' := 113) rfl (hb hby at_109) (by decide) (by decide) κ) ?_
          show own_Go _ _ _ _ (T10.setTop (mkF m 113 #[.val (.int pa), .val (.int pb), .val (.int fg), .val (.int (pa &&& (2147483647 : Int32))), .val (.int ((pb &&& (2147483647 : Int32)) % (1 : Int32))), .val (.int (0 : Int32)), .val (.int (1 : Int32)), .val (.int (1 : Int32)), .val (.int (0 : Int32)), .val (.int (1 : Int32))] [(.int (1 : Int32))]))
          obtain ⟨fs, hr, hrun, hended, hW, hsame⟩ := X10.leave (v := some (.int (1 : Int32))) (fun h => by rw [Bd.returns] at h; cases h)
          refine ⟨_, _, retN X10 hx (t := .boolean) Bd.returns (by simp) (hb hby at_113) hr, hrun, hended, _, _, rfl, ?_, ⟨_, rfl⟩, hW, hsame.mono (by decide) (by decide)⟩
          show Q0 Z pa pb fg s_AND s_OR h0 n0 _ T10.heap _
          exact ⟨rfl, N10⟩
        · rw [if_neg hc11] at hv10
          subst hv10
          refine own_step (fun _ κ => st10.trans κ) ?_
          show own_Go _ _ _ _ (T10.setTop (mkF m 53 #[.val (.int pa), .val (.int pb), .val (.int fg), .val (.int (pa &&& (2147483647 : Int32))), .val (.int ((pb &&& (2147483647 : Int32)) % (1 : Int32))), .val (.int (0 : Int32)), .unset, .unset, .unset, .unset] [(.int (0 : Int32))]))
          refine own_step (fun _ κ => XS.istore X10.here hx rfl (hb hby at_53) rfl (l' := #[.val (.int pa), .val (.int pb), .val (.int fg), .val (.int (pa &&& (2147483647 : Int32))), .val (.int ((pb &&& (2147483647 : Int32)) % (1 : Int32))), .val (.int (0 : Int32)), .val (.int (0 : Int32)), .unset, .unset, .unset]) rfl κ) ?_
          show own_Go _ _ _ _ (T10.setTop (mkF m 55 #[.val (.int pa), .val (.int pb), .val (.int fg), .val (.int (pa &&& (2147483647 : Int32))), .val (.int ((pb &&& (2147483647 : Int32)) % (1 : Int32))), .val (.int (0 : Int32)), .val (.int (0 : Int32)), .unset, .unset, .unset] []))
          refine own_step (fun _ κ => XS.iloadN X10.here hx rfl (hb hby at_55) rfl κ) ?_
          show own_Go _ _ _ _ (T10.setTop (mkF m 56 #[.val (.int pa), .val (.int pb), .val (.int fg), .val (.int (pa &&& (2147483647 : Int32))), .val (.int ((pb &&& (2147483647 : Int32)) % (1 : Int32))), .val (.int (0 : Int32)), .val (.int (0 : Int32)), .unset, .unset, .unset] [(.int (pa &&& (2147483647 : Int32)))]))
          refine own_step (fun _ κ => XS.iload X10.here hx rfl (hb hby at_56) rfl κ) ?_
          show own_Go _ _ _ _ (T10.setTop (mkF m 58 #[.val (.int pa), .val (.int pb), .val (.int fg), .val (.int (pa &&& (2147483647 : Int32))), .val (.int ((pb &&& (2147483647 : Int32)) % (1 : Int32))), .val (.int (0 : Int32)), .val (.int (0 : Int32)), .unset, .unset, .unset] [(.int ((pb &&& (2147483647 : Int32)) % (1 : Int32))), (.int (pa &&& (2147483647 : Int32)))]))
          refine own_step (fun _ κ => XS.isub X10.here hx rfl (hb hby at_58) rfl κ) ?_
          show own_Go _ _ _ _ (T10.setTop (mkF m 59 #[.val (.int pa), .val (.int pb), .val (.int fg), .val (.int (pa &&& (2147483647 : Int32))), .val (.int ((pb &&& (2147483647 : Int32)) % (1 : Int32))), .val (.int (0 : Int32)), .val (.int (0 : Int32)), .unset, .unset, .unset] [(.int ((pa &&& (2147483647 : Int32)) - ((pb &&& (2147483647 : Int32)) % (1 : Int32))))]))
          refine own_step (fun _ κ => XS.ifNo X10.here hx rfl (hb hby at_59) rfl ((if0 _ _).trans (feq (own_sub1 hc5)).1) κ) ?_
          show own_Go _ _ _ _ (T10.setTop (mkF m 62 #[.val (.int pa), .val (.int pb), .val (.int fg), .val (.int (pa &&& (2147483647 : Int32))), .val (.int ((pb &&& (2147483647 : Int32)) % (1 : Int32))), .val (.int (0 : Int32)), .val (.int (0 : Int32)), .unset, .unset, .unset] []))
          refine own_step (fun _ κ => XS.iconst X10.here hx rfl (hb hby at_62) κ) ?_
          show own_Go _ _ _ _ (T10.setTop (mkF m 63 #[.val (.int pa), .val (.int pb), .val (.int fg), .val (.int (pa &&& (2147483647 : Int32))), .val (.int ((pb &&& (2147483647 : Int32)) % (1 : Int32))), .val (.int (0 : Int32)), .val (.int (0 : Int32)), .unset, .unset, .unset] [(.int (1 : Int32))]))
          refine own_step (fun _ κ => XS.goto X10.here hx rfl (pc0 := 63) (pc' := 67) rfl (hb hby at_63) (by decide) (by decide) κ) ?_
          show own_Go _ _ _ _ (T10.setTop (mkF m 67 #[.val (.int pa), .val (.int pb), .val (.int fg), .val (.int (pa &&& (2147483647 : Int32))), .val (.int ((pb &&& (2147483647 : Int32)) % (1 : Int32))), .val (.int (0 : Int32)), .val (.int (0 : Int32)), .unset, .unset, .unset] [(.int (1 : Int32))]))
          refine own_step (fun _ κ => XS.istore X10.here hx rfl (hb hby at_67) rfl (l' := #[.val (.int pa), .val (.int pb), .val (.int fg), .val (.int (pa &&& (2147483647 : Int32))), .val (.int ((pb &&& (2147483647 : Int32)) % (1 : Int32))), .val (.int (0 : Int32)), .val (.int (0 : Int32)), .val (.int (1 : Int32)), .unset, .unset]) rfl κ) ?_
          show own_Go _ _ _ _ (T10.setTop (mkF m 69 #[.val (.int pa), .val (.int pb), .val (.int fg), .val (.int (pa &&& (2147483647 : Int32))), .val (.int ((pb &&& (2147483647 : Int32)) % (1 : Int32))), .val (.int (0 : Int32)), .val (.int (0 : Int32)), .val (.int (1 : Int32)), .unset, .unset] []))
          refine own_step (fun _ κ => XS.iload X10.here hx rfl (hb hby at_69) rfl κ) ?_
          show own_Go _ _ _ _ (T10.setTop (mkF m 71 #[.val (.int pa), .val (.int pb), .val (.int fg), .val (.int (pa &&& (2147483647 : Int32))), .val (.int ((pb &&& (2147483647 : Int32)) % (1 : Int32))), .val (.int (0 : Int32)), .val (.int (0 : Int32)), .val (.int (1 : Int32)), .unset, .unset] [(.int (1 : Int32))]))
          refine own_step (fun _ κ => XS.ifYes X10.here hx rfl (pc0 := 71) (pc' := 78) rfl (hb hby at_71) rfl ((if0 _ _).trans (feq (by decide)).2) (by decide) (by decide) κ) ?_
          show own_Go _ _ _ _ (T10.setTop (mkF m 78 #[.val (.int pa), .val (.int pb), .val (.int fg), .val (.int (pa &&& (2147483647 : Int32))), .val (.int ((pb &&& (2147483647 : Int32)) % (1 : Int32))), .val (.int (0 : Int32)), .val (.int (0 : Int32)), .val (.int (1 : Int32)), .unset, .unset] []))
          refine own_step (fun _ κ => XS.iconst X10.here hx rfl (hb hby at_78) κ) ?_
          show own_Go _ _ _ _ (T10.setTop (mkF m 79 #[.val (.int pa), .val (.int pb), .val (.int fg), .val (.int (pa &&& (2147483647 : Int32))), .val (.int ((pb &&& (2147483647 : Int32)) % (1 : Int32))), .val (.int (0 : Int32)), .val (.int (0 : Int32)), .val (.int (1 : Int32)), .unset, .unset] [(.int (0 : Int32))]))
          refine own_step (fun _ κ => XS.istore X10.here hx rfl (hb hby at_79) rfl (l' := #[.val (.int pa), .val (.int pb), .val (.int fg), .val (.int (pa &&& (2147483647 : Int32))), .val (.int ((pb &&& (2147483647 : Int32)) % (1 : Int32))), .val (.int (0 : Int32)), .val (.int (0 : Int32)), .val (.int (1 : Int32)), .val (.int (0 : Int32)), .unset]) rfl κ) ?_
          show own_Go _ _ _ _ (T10.setTop (mkF m 81 #[.val (.int pa), .val (.int pb), .val (.int fg), .val (.int (pa &&& (2147483647 : Int32))), .val (.int ((pb &&& (2147483647 : Int32)) % (1 : Int32))), .val (.int (0 : Int32)), .val (.int (0 : Int32)), .val (.int (1 : Int32)), .val (.int (0 : Int32)), .unset] []))
          refine own_step (fun _ κ => XS.iload X10.here hx rfl (hb hby at_81) rfl κ) ?_
          show own_Go _ _ _ _ (T10.setTop (mkF m 83 #[.val (.int pa), .val (.int pb), .val (.int fg), .val (.int (pa &&& (2147483647 : Int32))), .val (.int ((pb &&& (2147483647 : Int32)) % (1 : Int32))), .val (.int (0 : Int32)), .val (.int (0 : Int32)), .val (.int (1 : Int32)), .val (.int (0 : Int32)), .unset] [(.int ((pb &&& (2147483647 : Int32)) % (1 : Int32)))]))
          refine own_step (fun _ κ => XS.iconst X10.here hx rfl (hb hby at_83) κ) ?_
          show own_Go _ _ _ _ (T10.setTop (mkF m 84 #[.val (.int pa), .val (.int pb), .val (.int fg), .val (.int (pa &&& (2147483647 : Int32))), .val (.int ((pb &&& (2147483647 : Int32)) % (1 : Int32))), .val (.int (0 : Int32)), .val (.int (0 : Int32)), .val (.int (1 : Int32)), .val (.int (0 : Int32)), .unset] [(.int (1 : Int32)), (.int ((pb &&& (2147483647 : Int32)) % (1 : Int32)))]))
          refine own_step (fun _ κ => XS.icmpYes X10.here hx rfl (pc0 := 84) (pc' := 91) rfl (hb hby at_84) rfl (tlt (own_npos hc11)).1 (by decide) (by decide) κ) ?_
          show own_Go _ _ _ _ (T10.setTop (mkF m 91 #[.val (.int pa), .val (.int pb), .val (.int fg), .val (.int (pa &&& (2147483647 : Int32))), .val (.int ((pb &&& (2147483647 : Int32)) % (1 : Int32))), .val (.int (0 : Int32)), .val (.int (0 : Int32)), .val (.int (1 : Int32)), .val (.int (0 : Int32)), .unset] []))
          refine own_step (fun _ κ => XS.iconst X10.here hx rfl (hb hby at_91) κ) ?_
          show own_Go _ _ _ _ (T10.setTop (mkF m 92 #[.val (.int pa), .val (.int pb), .val (.int fg), .val (.int (pa &&& (2147483647 : Int32))), .val (.int ((pb &&& (2147483647 : Int32)) % (1 : Int32))), .val (.int (0 : Int32)), .val (.int (0 : Int32)), .val (.int (1 : Int32)), .val (.int (0 : Int32)), .unset] [(.int (0 : Int32))]))
          refine own_step (fun _ κ => XS.istore X10.here hx rfl (hb hby at_92) rfl (l' := #[.val (.int pa), .val (.int pb), .val (.int fg), .val (.int (pa &&& (2147483647 : Int32))), .val (.int ((pb &&& (2147483647 : Int32)) % (1 : Int32))), .val (.int (0 : Int32)), .val (.int (0 : Int32)), .val (.int (1 : Int32)), .val (.int (0 : Int32)), .val (.int (0 : Int32))]) rfl κ) ?_
          show own_Go _ _ _ _ (T10.setTop (mkF m 94 #[.val (.int pa), .val (.int pb), .val (.int fg), .val (.int (pa &&& (2147483647 : Int32))), .val (.int ((pb &&& (2147483647 : Int32)) % (1 : Int32))), .val (.int (0 : Int32)), .val (.int (0 : Int32)), .val (.int (1 : Int32)), .val (.int (0 : Int32)), .val (.int (0 : Int32))] []))
          refine own_step (fun _ κ => XS.iload X10.here hx rfl (hb hby at_94) rfl κ) ?_
          show own_Go _ _ _ _ (T10.setTop (mkF m 96 #[.val (.int pa), .val (.int pb), .val (.int fg), .val (.int (pa &&& (2147483647 : Int32))), .val (.int ((pb &&& (2147483647 : Int32)) % (1 : Int32))), .val (.int (0 : Int32)), .val (.int (0 : Int32)), .val (.int (1 : Int32)), .val (.int (0 : Int32)), .val (.int (0 : Int32))] [(.int (0 : Int32))]))
          refine own_step (fun _ κ => XS.iload X10.here hx rfl (hb hby at_96) rfl κ) ?_
          show own_Go _ _ _ _ (T10.setTop (mkF m 98 #[.val (.int pa), .val (.int pb), .val (.int fg), .val (.int (pa &&& (2147483647 : Int32))), .val (.int ((pb &&& (2147483647 : Int32)) % (1 : Int32))), .val (.int (0 : Int32)), .val (.int (0 : Int32)), .val (.int (1 : Int32)), .val (.int (0 : Int32)), .val (.int (0 : Int32))] [(.int (0 : Int32)), (.int (0 : Int32))]))
          refine own_step (fun _ κ => XS.icmpNo X10.here hx rfl (hb hby at_98) rfl (teq rfl).2 κ) ?_
          show own_Go _ _ _ _ (T10.setTop (mkF m 101 #[.val (.int pa), .val (.int pb), .val (.int fg), .val (.int (pa &&& (2147483647 : Int32))), .val (.int ((pb &&& (2147483647 : Int32)) % (1 : Int32))), .val (.int (0 : Int32)), .val (.int (0 : Int32)), .val (.int (1 : Int32)), .val (.int (0 : Int32)), .val (.int (0 : Int32))] []))
          refine own_step (fun _ κ => XS.iload X10.here hx rfl (hb hby at_101) rfl κ) ?_
          show own_Go _ _ _ _ (T10.setTop (mkF m 103 #[.val (.int pa), .val (.int pb), .val (.int fg), .val (.int (pa &&& (2147483647 : Int32))), .val (.int ((pb &&& (2147483647 : Int32)) % (1 : Int32))), .val (.int (0 : Int32)), .val (.int (0 : Int32)), .val (.int (1 : Int32)), .val (.int (0 : Int32)), .val (.int (0 : Int32))] [(.int (0 : Int32))]))
          refine own_step (fun _ κ => XS.iload X10.here hx rfl (hb hby at_103) rfl κ) ?_
          show own_Go _ _ _ _ (T10.setTop (mkF m 105 #[.val (.int pa), .val (.int pb), .val (.int fg), .val (.int (pa &&& (2147483647 : Int32))), .val (.int ((pb &&& (2147483647 : Int32)) % (1 : Int32))), .val (.int (0 : Int32)), .val (.int (0 : Int32)), .val (.int (1 : Int32)), .val (.int (0 : Int32)), .val (.int (0 : Int32))] [(.int (0 : Int32)), (.int (0 : Int32))]))
          refine own_step (fun _ κ => XS.icmpNo X10.here hx rfl (hb hby at_105) rfl (teq rfl).2 κ) ?_
          show own_Go _ _ _ _ (T10.setTop (mkF m 108 #[.val (.int pa), .val (.int pb), .val (.int fg), .val (.int (pa &&& (2147483647 : Int32))), .val (.int ((pb &&& (2147483647 : Int32)) % (1 : Int32))), .val (.int (0 : Int32)), .val (.int (0 : Int32)), .val (.int (1 : Int32)), .val (.int (0 : Int32)), .val (.int (0 : Int32))] []))
          refine own_step (fun _ κ => XS.iconst X10.here hx rfl (hb hby at_108) κ) ?_
          show own_Go _ _ _ _ (T10.setTop (mkF m 109 #[.val (.int pa), .val (.int pb), .val (.int fg), .val (.int (pa &&& (2147483647 : Int32))), .val (.int ((pb &&& (2147483647 : Int32)) % (1 : Int32))), .val (.int (0 : Int32)), .val (.int (0 : Int32)), .val (.int (1 : Int32)), .val (.int (0 : Int32)), .val (.int (0 : Int32))] [(.int (1 : Int32))]))
          refine own_step (fun _ κ => XS.goto X10.here hx rfl (pc0 := 109) (pc' := 113) rfl (hb hby at_109) (by decide) (by decide) κ) ?_
          show own_Go _ _ _ _ (T10.setTop (mkF m 113 #[.val (.int pa), .val (.int pb), .val (.int fg), .val (.int (pa &&& (2147483647 : Int32))), .val (.int ((pb &&& (2147483647 : Int32)) % (1 : Int32))), .val (.int (0 : Int32)), .val (.int (0 : Int32)), .val (.int (1 : Int32)), .val (.int (0 : Int32)), .val (.int (0 : Int32))] [(.int (1 : Int32))]))
          obtain ⟨fs, hr, hrun, hended, hW, hsame⟩ := X10.leave (v := some (.int (1 : Int32))) (fun h => by rw [Bd.returns] at h; cases h)
          refine ⟨_, _, retN X10 hx (t := .boolean) Bd.returns (by simp) (hb hby at_113) hr, hrun, hended, _, _, rfl, ?_, ⟨_, rfl⟩, hW, hsame.mono (by decide) (by decide)⟩
          show Q0 Z pa pb fg s_AND s_OR h0 n0 _ T10.heap _
          exact ⟨rfl, N10⟩
    · refine own_step (fun _ κ => XS.ifYes X0.here hx rfl (pc0 := 22) (pc' := 29) rfl (hb hby at_22) rfl ((if0 _ _).trans (feq hc2).2) (by decide) (by decide) κ) ?_
      show own_Go _ _ _ _ (s₁.setTop (mkF m 29 #[.val (.int pa), .val (.int pb), .val (.int fg), .val (.int (pa &&& (2147483647 : Int32))), .unset, .unset, .unset, .unset, .unset, .unset] [(.int (pb &&& (2147483647 : Int32)))]))
      refine own_step (fun _ κ => XS.iloadN X0.here hx rfl (hb hby at_29) rfl κ) ?_
      show own_Go _ _ _ _ (s₁.setTop (mkF m 30 #[.val (.int pa), .val (.int pb), .val (.int fg), .val (.int (pa &&& (2147483647 : Int32))), .unset, .unset, .unset, .unset, .unset, .unset] [(.int (pa &&& (2147483647 : Int32))), (.int (pb &&& (2147483647 : Int32)))]))
      refine own_step (fun _ κ => iremM X0 hx rfl (hb hby at_30) rfl hc2 κ) ?_
      show own_Go _ _ _ _ (s₁.setTop (mkF m 31 #[.val (.int pa), .val (.int pb), .val (.int fg), .val (.int (pa &&& (2147483647 : Int32))), .unset, .unset, .unset, .unset, .unset, .unset] [(.int ((pb &&& (2147483647 : Int32)) % (pa &&& (2147483647 : Int32))))]))
      refine own_step (fun _ κ => XS.istore X0.here hx rfl (hb hby at_31) rfl (l' := #[.val (.int pa), .val (.int pb), .val (.int fg), .val (.int (pa &&& (2147483647 : Int32))), .val (.int ((pb &&& (2147483647 : Int32)) % (pa &&& (2147483647 : Int32)))), .unset, .unset, .unset, .unset, .unset]) rfl κ) ?_
      show own_Go _ _ _ _ (s₁.setTop (mkF m 33 #[.val (.int pa), .val (.int pb), .val (.int fg), .val (.int (pa &&& (2147483647 : Int32))), .val (.int ((pb &&& (2147483647 : Int32)) % (pa &&& (2147483647 : Int32)))), .unset, .unset, .unset, .unset, .unset] []))
      obtain ⟨T12, X12, e12, st12⟩ := getS2 X0 hx hZ hown (host := "") (Or.inl (hw _ (List.mem_of_getElem? (i := 1) rfl))) Via.refl e0 (P1.ext P0.2) (g := (mkF m 33 #[.val (.int pa), .val (.int pb), .val (.int fg), .val (.int (pa &&& (2147483647 : Int32))), .val (.int ((pb &&& (2147483647 : Int32)) % (pa &&& (2147483647 : Int32)))), .unset, .unset, .unset, .unset, .unset] [])) rfl (hb hby at_33)
      refine own_step st12 ?_
      show own_Go _ _ _ _ (T12.setTop (mkF m 36 #[.val (.int pa), .val (.int pb), .val (.int fg), .val (.int (pa &&& (2147483647 : Int32))), .val (.int ((pb &&& (2147483647 : Int32)) % (pa &&& (2147483647 : Int32)))), .unset, .unset, .unset, .unset, .unset] [(.ref s_AND)]))
      refine own_step (fun _ κ => XS.iload X12.here hx rfl (hb hby at_36) rfl κ) ?_
      show own_Go _ _ _ _ (T12.setTop (mkF m 38 #[.val (.int pa), .val (.int pb), .val (.int fg), .val (.int (pa &&& (2147483647 : Int32))), .val (.int ((pb &&& (2147483647 : Int32)) % (pa &&& (2147483647 : Int32)))), .unset, .unset, .unset, .unset, .unset] [(.int ((pb &&& (2147483647 : Int32)) % (pa &&& (2147483647 : Int32)))), (.ref s_AND)]))
      refine own_step (fun _ κ => XS.iloadN X12.here hx rfl (hb hby at_38) rfl κ) ?_
      show own_Go _ _ _ _ (T12.setTop (mkF m 39 #[.val (.int pa), .val (.int pb), .val (.int fg), .val (.int (pa &&& (2147483647 : Int32))), .val (.int ((pb &&& (2147483647 : Int32)) % (pa &&& (2147483647 : Int32)))), .unset, .unset, .unset, .unset, .unset] [(.int (pa &&& (2147483647 : Int32))), (.int ((pb &&& (2147483647 : Int32)) % (pa &&& (2147483647 : Int32)))), (.ref s_AND)]))
      obtain ⟨cq13, kq13, q13a, q13b, q13c⟩ := isOf hZ e12 (P2.ext P0.2)
      obtain ⟨vr13, _, ⟨T13, L13, k13, n13⟩, -, X13, ⟨Lc13, hQ13, l13, y13, z13⟩, st13⟩ := X12.virtualBack hx (y := (⟨"com/example/lens_on_archives/lensonarchives/Semantics", "matches", "(II)Z"⟩ : MethodName)) (z := (⟨"com/example/lens_on_archives/lensonarchives/Semantics", "matches", "(II)Z"⟩ : MethodName)) hown (mvT hZ (hw _ (List.mem_of_getElem? (i := 4) rfl))) (mvT hZ (hw _ (List.mem_of_getElem? (i := 5) rfl))) (notFace_of_selects (args := #[]) (mvT hZ (hw _ (List.mem_of_getElem? (i := 7) rfl)))) (mvT hZ (hw _ (List.mem_of_getElem? (i := 7) rfl))) (mvT hZ (hw _ (List.mem_of_getElem? (i := 6) rfl))) (by decide) (backOf (W := 0) (rm2 l Z a0 hw [] s_AND ((pb &&& (2147483647 : Int32)) % (pa &&& (2147483647 : Int32))) (pa &&& (2147483647 : Int32))  h0 n0 Z0 (P2.ext P0.2) (P5.ext P0.2)) hZ (hw _ (List.mem_of_getElem? (i := 8) rfl)) (hw _ (List.mem_of_getElem? (i := 2) rfl)) (by decide) (by decide)) q13a q13c (g := (mkF m 39 #[.val (.int pa), .val (.int pb), .val (.int fg), .val (.int (pa &&& (2147483647 : Int32))), .val (.int ((pb &&& (2147483647 : Int32)) % (pa &&& (2147483647 : Int32)))), .unset, .unset, .unset, .unset, .unset] [(.int (pa &&& (2147483647 : Int32))), (.int ((pb &&& (2147483647 : Int32)) % (pa &&& (2147483647 : Int32)))), (.ref s_AND)])) rfl (by rw [hml]; rfl) (Steps.refl _) (argsL := [(.int ((pb &&& (2147483647 : Int32)) % (pa &&& (2147483647 : Int32)))), (.int (pa &&& (2147483647 : Int32)))]) (rest := []) (lenOf pd_1 rfl) rfl (by show 2 * 0 + _ ≤ _; exact Nat.le_of_eq rfl) (hb hby at_39) (fun _ _ => ⟨rfl, e12, (by decide : 0 + 0 ≤ _), (by decide : 0 + 0 ≤ _)⟩)
      dsimp only [Pt.U, Pt.locs, Pt.cells, Pt.slots] at X13 l13 y13 z13 st13 hQ13
      subst l13 y13 z13
      obtain ⟨hv13, Nq13, eq13⟩ := hQ13
      have N13 := Fr.app N0 Nq13
      by_cases hc14 : ((pb &&& (2147483647 : Int32)) % (pa &&& (2147483647 : Int32))) = (pa &&& (2147483647 : Int32))
      · rw [if_pos hc14] at hv13
        subst hv13
        refine own_step (fun _ κ => st13.trans κ) ?_
        show own_Go _ _ _ _ (T13.setTop (mkF m 42 #[.val (.int pa), .val (.int pb), .val (.int fg), .val (.int (pa &&& (2147483647 : Int32))), .val (.int ((pb &&& (2147483647 : Int32)) % (pa &&& (2147483647 : Int32)))), .unset, .unset, .unset, .unset, .unset] [(.int (1 : Int32))]))
        refine own_step (fun _ κ => XS.istore X13.here hx rfl (hb hby at_42) rfl (l' := #[.val (.int pa), .val (.int pb), .val (.int fg), .val (.int (pa &&& (2147483647 : Int32))), .val (.int ((pb &&& (2147483647 : Int32)) % (pa &&& (2147483647 : Int32)))), .val (.int (1 : Int32)), .unset, .unset, .unset, .unset]) rfl κ) ?_
        show own_Go _ _ _ _ (T13.setTop (mkF m 44 #[.val (.int pa), .val (.int pb), .val (.int fg), .val (.int (pa &&& (2147483647 : Int32))), .val (.int ((pb &&& (2147483647 : Int32)) % (pa &&& (2147483647 : Int32)))), .val (.int (1 : Int32)), .unset, .unset, .unset, .unset] []))
        obtain ⟨T15, X15, e15, st15⟩ := getS2 X13 hx hZ hown (host := "") (Or.inl (hw _ (List.mem_of_getElem? (i := 18) rfl))) Via.refl eq13 (P3.ext P0.2) (g := (mkF m 44 #[.val (.int pa), .val (.int pb), .val (.int fg), .val (.int (pa &&& (2147483647 : Int32))), .val (.int ((pb &&& (2147483647 : Int32)) % (pa &&& (2147483647 : Int32)))), .val (.int (1 : Int32)), .unset, .unset, .unset, .unset] [])) rfl (hb hby at_44)
        refine own_step st15 ?_
        show own_Go _ _ _ _ (T15.setTop (mkF m 47 #[.val (.int pa), .val (.int pb), .val (.int fg), .val (.int (pa &&& (2147483647 : Int32))), .val (.int ((pb &&& (2147483647 : Int32)) % (pa &&& (2147483647 : Int32)))), .val (.int (1 : Int32)), .unset, .unset, .unset, .unset] [(.ref s_OR)]))
        refine own_step (fun _ κ => XS.iload X15.here hx rfl (hb hby at_47) rfl κ) ?_
        show own_Go _ _ _ _ (T15.setTop (mkF m 49 #[.val (.int pa), .val (.int pb), .val (.int fg), .val (.int (pa &&& (2147483647 : Int32))), .val (.int ((pb &&& (2147483647 : Int32)) % (pa &&& (2147483647 : Int32)))), .val (.int (1 : Int32)), .unset, .unset, .unset, .unset] [(.int ((pb &&& (2147483647 : Int32)) % (pa &&& (2147483647 : Int32)))), (.ref s_OR)]))
        refine own_step (fun _ κ => XS.iloadN X15.here hx rfl (hb hby at_49) rfl κ) ?_
        show own_Go _ _ _ _ (T15.setTop (mkF m 50 #[.val (.int pa), .val (.int pb), .val (.int fg), .val (.int (pa &&& (2147483647 : Int32))), .val (.int ((pb &&& (2147483647 : Int32)) % (pa &&& (2147483647 : Int32)))), .val (.int (1 : Int32)), .unset, .unset, .unset, .unset] [(.int (pa &&& (2147483647 : Int32))), (.int ((pb &&& (2147483647 : Int32)) % (pa &&& (2147483647 : Int32)))), (.ref s_OR)]))
        obtain ⟨cq16, kq16, q16a, q16b, q16c⟩ := isOf hZ e15 (P4.ext P0.2)
        obtain ⟨vr16, _, ⟨T16, L16, k16, n16⟩, -, X16, ⟨Lc16, hQ16, l16, y16, z16⟩, st16⟩ := X15.virtualBack hx (y := (⟨"com/example/lens_on_archives/lensonarchives/Semantics", "matches", "(II)Z"⟩ : MethodName)) (z := (⟨"com/example/lens_on_archives/lensonarchives/Semantics", "matches", "(II)Z"⟩ : MethodName)) hown (mvT hZ (hw _ (List.mem_of_getElem? (i := 4) rfl))) (mvT hZ (hw _ (List.mem_of_getElem? (i := 5) rfl))) (notFace_of_selects (args := #[]) (mvT hZ (hw _ (List.mem_of_getElem? (i := 7) rfl)))) (mvT hZ (hw _ (List.mem_of_getElem? (i := 7) rfl))) (mvT hZ (hw _ (List.mem_of_getElem? (i := 6) rfl))) (by decide) (backOf (W := 0) (rm3 l Z a0 hw [] s_OR ((pb &&& (2147483647 : Int32)) % (pa &&& (2147483647 : Int32))) (pa &&& (2147483647 : Int32))  h0 n0 Z0 (P4.ext P0.2) (P6.ext P0.2)) hZ (hw _ (List.mem_of_getElem? (i := 8) rfl)) (hw _ (List.mem_of_getElem? (i := 2) rfl)) (by decide) (by decide)) q16a q16c (g := (mkF m 50 #[.val (.int pa), .val (.int pb), .val (.int fg), .val (.int (pa &&& (2147483647 : Int32))), .val (.int ((pb &&& (2147483647 : Int32)) % (pa &&& (2147483647 : Int32)))), .val (.int (1 : Int32)), .unset, .unset, .unset, .unset] [(.int (pa &&& (2147483647 : Int32))), (.int ((pb &&& (2147483647 : Int32)) % (pa &&& (2147483647 : Int32)))), (.ref s_OR)])) rfl (by rw [hml]; rfl) (Steps.refl _) (argsL := [(.int ((pb &&& (2147483647 : Int32)) % (pa &&& (2147483647 : Int32)))), (.int (pa &&& (2147483647 : Int32)))]) (rest := []) (lenOf pd_1 rfl) rfl (by show 2 * 0 + _ ≤ _; exact Nat.le_of_eq rfl) (hb hby at_50) (fun _ _ => ⟨rfl, e15, (by decide : 0 + 0 ≤ _), (by decide : 0 + 0 ≤ _)⟩)
        dsimp only [Pt.U, Pt.locs, Pt.cells, Pt.slots] at X16 l16 y16 z16 st16 hQ16
        subst l16 y16 z16
        obtain ⟨hv16, Nq16, eq16⟩ := hQ16
        have N16 := Fr.app N13 Nq16
        by_cases hc17 : (0 : Int32) < ((pb &&& (2147483647 : Int32)) % (pa &&& (2147483647 : Int32)))
        · rw [if_pos hc17] at hv16
          subst hv16
          refine own_step (fun _ κ => st16.trans κ) ?_
          show own_Go _ _ _ _ (T16.setTop (mkF m 53 #[.val (.int pa), .val (.int pb), .val (.int fg), .val (.int (pa &&& (2147483647 : Int32))), .val (.int ((pb &&& (2147483647 : Int32)) % (pa &&& (2147483647 : Int32)))), .val (.int (1 : Int32)), .unset, .unset, .unset, .unset] [(.int (1 : Int32))]))
          refine own_step (fun _ κ => XS.istore X16.here hx rfl (hb hby at_53) rfl (l' := #[.val (.int pa), .val (.int pb), .val (.int fg), .val (.int (pa &&& (2147483647 : Int32))), .val (.int ((pb &&& (2147483647 : Int32)) % (pa &&& (2147483647 : Int32)))), .val (.int (1 : Int32)), .val (.int (1 : Int32)), .unset, .unset, .unset]) rfl κ) ?_
          show own_Go _ _ _ _ (T16.setTop (mkF m 55 #[.val (.int pa), .val (.int pb), .val (.int fg), .val (.int (pa &&& (2147483647 : Int32))), .val (.int ((pb &&& (2147483647 : Int32)) % (pa &&& (2147483647 : Int32)))), .val (.int (1 : Int32)), .val (.int (1 : Int32)), .unset, .unset, .unset] []))
          refine own_step (fun _ κ => XS.iloadN X16.here hx rfl (hb hby at_55) rfl κ) ?_
          show own_Go _ _ _ _ (T16.setTop (mkF m 56 #[.val (.int pa), .val (.int pb), .val (.int fg), .val (.int (pa &&& (2147483647 : Int32))), .val (.int ((pb &&& (2147483647 : Int32)) % (pa &&& (2147483647 : Int32)))), .val (.int (1 : Int32)), .val (.int (1 : Int32)), .unset, .unset, .unset] [(.int (pa &&& (2147483647 : Int32)))]))
          refine own_step (fun _ κ => XS.iload X16.here hx rfl (hb hby at_56) rfl κ) ?_
          show own_Go _ _ _ _ (T16.setTop (mkF m 58 #[.val (.int pa), .val (.int pb), .val (.int fg), .val (.int (pa &&& (2147483647 : Int32))), .val (.int ((pb &&& (2147483647 : Int32)) % (pa &&& (2147483647 : Int32)))), .val (.int (1 : Int32)), .val (.int (1 : Int32)), .unset, .unset, .unset] [(.int ((pb &&& (2147483647 : Int32)) % (pa &&& (2147483647 : Int32)))), (.int (pa &&& (2147483647 : Int32)))]))
          refine own_step (fun _ κ => XS.isub X16.here hx rfl (hb hby at_58) rfl κ) ?_
          show own_Go _ _ _ _ (T16.setTop (mkF m 59 #[.val (.int pa), .val (.int pb), .val (.int fg), .val (.int (pa &&& (2147483647 : Int32))), .val (.int ((pb &&& (2147483647 : Int32)) % (pa &&& (2147483647 : Int32)))), .val (.int (1 : Int32)), .val (.int (1 : Int32)), .unset, .unset, .unset] [(.int ((pa &&& (2147483647 : Int32)) - ((pb &&& (2147483647 : Int32)) % (pa &&& (2147483647 : Int32)))))]))
          refine own_step (fun _ κ => XS.ifYes X16.here hx rfl (pc0 := 59) (pc' := 66) rfl (hb hby at_59) rfl ((if0 _ _).trans (teq (own_sub0 hc14)).1) (by decide) (by decide) κ) ?_
          show own_Go _ _ _ _ (T16.setTop (mkF m 66 #[.val (.int pa), .val (.int pb), .val (.int fg), .val (.int (pa &&& (2147483647 : Int32))), .val (.int ((pb &&& (2147483647 : Int32)) % (pa &&& (2147483647 : Int32)))), .val (.int (1 : Int32)), .val (.int (1 : Int32)), .unset, .unset, .unset] []))
          refine own_step (fun _ κ => XS.iconst X16.here hx rfl (hb hby at_66) κ) ?_
          show own_Go _ _ _ _ (T16.setTop (mkF m 67 #[.val (.int pa), .val (.int pb), .val (.int fg), .val (.int (pa &&& (2147483647 : Int32))), .val (.int ((pb &&& (2147483647 : Int32)) % (pa &&& (2147483647 : Int32)))), .val (.int (1 : Int32)), .val (.int (1 : Int32)), .unset, .unset, .unset] [(.int (0 : Int32))]))
          refine own_step (fun _ κ => XS.istore X16.here hx rfl (hb hby at_67) rfl (l' := #[.val (.int pa), .val (.int pb), .val (.int fg), .val (.int (pa &&& (2147483647 : Int32))), .val (.int ((pb &&& (2147483647 : Int32)) % (pa &&& (2147483647 : Int32)))), .val (.int (1 : Int32)), .val (.int (1 : Int32)), .val (.int (0 : Int32)), .unset, .unset]) rfl κ) ?_
          show own_Go _ _ _ _ (T16.setTop (mkF m 69 #[.val (.int pa), .val (.int pb), .val (.int fg), .val (.int (pa &&& (2147483647 : Int32))), .val (.int ((pb &&& (2147483647 : Int32)) % (pa &&& (2147483647 : Int32)))), .val (.int (1 : Int32)), .val (.int (1 : Int32)), .val (.int (0 : Int32)), .unset, .unset] []))
          refine own_step (fun _ κ => XS.iload X16.here hx rfl (hb hby at_69) rfl κ) ?_
          show own_Go _ _ _ _ (T16.setTop (mkF m 71 #[.val (.int pa), .val (.int pb), .val (.int fg), .val (.int (pa &&& (2147483647 : Int32))), .val (.int ((pb &&& (2147483647 : Int32)) % (pa &&& (2147483647 : Int32)))), .val (.int (1 : Int32)), .val (.int (1 : Int32)), .val (.int (0 : Int32)), .unset, .unset] [(.int (0 : Int32))]))
          refine own_step (fun _ κ => XS.ifNo X16.here hx rfl (hb hby at_71) rfl ((if0 _ _).trans (teq rfl).2) κ) ?_
          show own_Go _ _ _ _ (T16.setTop (mkF m 74 #[.val (.int pa), .val (.int pb), .val (.int fg), .val (.int (pa &&& (2147483647 : Int32))), .val (.int ((pb &&& (2147483647 : Int32)) % (pa &&& (2147483647 : Int32)))), .val (.int (1 : Int32)), .val (.int (1 : Int32)), .val (.int (0 : Int32)), .unset, .unset] []))
          refine own_step (fun _ κ => XS.iconst X16.here hx rfl (hb hby at_74) κ) ?_
          show own_Go _ _ _ _ (T16.setTop (mkF m 75 #[.val (.int pa), .val (.int pb), .val (.int fg), .val (.int (pa &&& (2147483647 : Int32))), .val (.int ((pb &&& (2147483647 : Int32)) % (pa &&& (2147483647 : Int32)))), .val (.int (1 : Int32)), .val (.int (1 : Int32)), .val (.int (0 : Int32)), .unset, .unset] [(.int (1 : Int32))]))
          refine own_step (fun _ κ => XS.goto X16.here hx rfl (pc0 := 75) (pc' := 79) rfl (hb hby at_75) (by decide) (by decide) κ) ?_
          show own_Go _ _ _ _ (T16.setTop (mkF m 79 #[.val (.int pa), .val (.int pb), .val (.int fg), .val (.int (pa &&& (2147483647 : Int32))), .val (.int ((pb &&& (2147483647 : Int32)) % (pa &&& (2147483647 : Int32)))), .val (.int (1 : Int32)), .val (.int (1 : Int32)), .val (.int (0 : Int32)), .unset, .unset] [(.int (1 : Int32))]))
          refine own_step (fun _ κ => XS.istore X16.here hx rfl (hb hby at_79) rfl (l' := #[.val (.int pa), .val (.int pb), .val (.int fg), .val (.int (pa &&& (2147483647 : Int32))), .val (.int ((pb &&& (2147483647 : Int32)) % (pa &&& (2147483647 : Int32)))), .val (.int (1 : Int32)), .val (.int (1 : Int32)), .val (.int (0 : Int32)), .val (.int (1 : Int32)), .unset]) rfl κ) ?_
          show own_Go _ _ _ _ (T16.setTop (mkF m 81 #[.val (.int pa), .val (.int pb), .val (.int fg), .val (.int (pa &&& (2147483647 : Int32))), .val (.int ((pb &&& (2147483647 : Int32)) % (pa &&& (2147483647 : Int32)))), .val (.int (1 : Int32)), .val (.int (1 : Int32)), .val (.int (0 : Int32)), .val (.int (1 : Int32)), .unset] []))
          refine own_step (fun _ κ => XS.iload X16.here hx rfl (hb hby at_81) rfl κ) ?_
          show own_Go _ _ _ _ (T16.setTop (mkF m 83 #[.val (.int pa), .val (.int pb), .val (.int fg), .val (.int (pa &&& (2147483647 : Int32))), .val (.int ((pb &&& (2147483647 : Int32)) % (pa &&& (2147483647 : Int32)))), .val (.int (1 : Int32)), .val (.int (1 : Int32)), .val (.int (0 : Int32)), .val (.int (1 : Int32)), .unset] [(.int ((pb &&& (2147483647 : Int32)) % (pa &&& (2147483647 : Int32))))]))
          refine own_step (fun _ κ => XS.iconst X16.here hx rfl (hb hby at_83) κ) ?_
          show own_Go _ _ _ _ (T16.setTop (mkF m 84 #[.val (.int pa), .val (.int pb), .val (.int fg), .val (.int (pa &&& (2147483647 : Int32))), .val (.int ((pb &&& (2147483647 : Int32)) % (pa &&& (2147483647 : Int32)))), .val (.int (1 : Int32)), .val (.int (1 : Int32)), .val (.int (0 : Int32)), .val (.int (1 : Int32)), .unset] [(.int (1 : Int32)), (.int ((pb &&& (2147483647 : Int32)) % (pa &&& (2147483647 : Int32))))]))
          refine own_step (fun _ κ => XS.icmpNo X16.here hx rfl (hb hby at_84) rfl (flt (own_pos hc17)).1 κ) ?_
          show own_Go _ _ _ _ (T16.setTop (mkF m 87 #[.val (.int pa), .val (.int pb), .val (.int fg), .val (.int (pa &&& (2147483647 : Int32))), .val (.int ((pb &&& (2147483647 : Int32)) % (pa &&& (2147483647 : Int32)))), .val (.int (1 : Int32)), .val (.int (1 : Int32)), .val (.int (0 : Int32)), .val (.int (1 : Int32)), .unset] []))
          refine own_step (fun _ κ => XS.iconst X16.here hx rfl (hb hby at_87) κ) ?_
          show own_Go _ _ _ _ (T16.setTop (mkF m 88 #[.val (.int pa), .val (.int pb), .val (.int fg), .val (.int (pa &&& (2147483647 : Int32))), .val (.int ((pb &&& (2147483647 : Int32)) % (pa &&& (2147483647 : Int32)))), .val (.int (1 : Int32)), .val (.int (1 : Int32)), .val (.int (0 : Int32)), .val (.int (1 : Int32)), .unset] [(.int (1 : Int32))]))
          refine own_step (fun _ κ => XS.goto X16.here hx rfl (pc0 := 88) (pc' := 92) rfl (hb hby at_88) (by decide) (by decide) κ) ?_
          show own_Go _ _ _ _ (T16.setTop (mkF m 92 #[.val (.int pa), .val (.int pb), .val (.int fg), .val (.int (pa &&& (2147483647 : Int32))), .val (.int ((pb &&& (2147483647 : Int32)) % (pa &&& (2147483647 : Int32)))), .val (.int (1 : Int32)), .val (.int (1 : Int32)), .val (.int (0 : Int32)), .val (.int (1 : Int32)), .unset] [(.int (1 : Int32))]))
          refine own_step (fun _ κ => XS.istore X16.here hx rfl (hb hby at_92) rfl (l' := #[.val (.int pa), .val (.int pb), .val (.int fg), .val (.int (pa &&& (2147483647 : Int32))), .val (.int ((pb &&& (2147483647 : Int32)) % (pa &&& (2147483647 : Int32)))), .val (.int (1 : Int32)), .val (.int (1 : Int32)), .val (.int (0 : Int32)), .val (.int (1 : Int32)), .val (.int (1 : Int32))]) rfl κ) ?_
          show own_Go _ _ _ _ (T16.setTop (mkF m 94 #[.val (.int pa), .val (.int pb), .val (.int fg), .val (.int (pa &&& (2147483647 : Int32))), .val (.int ((pb &&& (2147483647 : Int32)) % (pa &&& (2147483647 : Int32)))), .val (.int (1 : Int32)), .val (.int (1 : Int32)), .val (.int (0 : Int32)), .val (.int (1 : Int32)), .val (.int (1 : Int32))] []))
          refine own_step (fun _ κ => XS.iload X16.here hx rfl (hb hby at_94) rfl κ) ?_
          show own_Go _ _ _ _ (T16.setTop (mkF m 96 #[.val (.int pa), .val (.int pb), .val (.int fg), .val (.int (pa &&& (2147483647 : Int32))), .val (.int ((pb &&& (2147483647 : Int32)) % (pa &&& (2147483647 : Int32)))), .val (.int (1 : Int32)), .val (.int (1 : Int32)), .val (.int (0 : Int32)), .val (.int (1 : Int32)), .val (.int (1 : Int32))] [(.int (1 : Int32))]))
          refine own_step (fun _ κ => XS.iload X16.here hx rfl (hb hby at_96) rfl κ) ?_
          show own_Go _ _ _ _ (T16.setTop (mkF m 98 #[.val (.int pa), .val (.int pb), .val (.int fg), .val (.int (pa &&& (2147483647 : Int32))), .val (.int ((pb &&& (2147483647 : Int32)) % (pa &&& (2147483647 : Int32)))), .val (.int (1 : Int32)), .val (.int (1 : Int32)), .val (.int (0 : Int32)), .val (.int (1 : Int32)), .val (.int (1 : Int32))] [(.int (1 : Int32)), (.int (1 : Int32))]))
          refine own_step (fun _ κ => XS.icmpNo X16.here hx rfl (hb hby at_98) rfl (teq rfl).2 κ) ?_
          show own_Go _ _ _ _ (T16.setTop (mkF m 101 #[.val (.int pa), .val (.int pb), .val (.int fg), .val (.int (pa &&& (2147483647 : Int32))), .val (.int ((pb &&& (2147483647 : Int32)) % (pa &&& (2147483647 : Int32)))), .val (.int (1 : Int32)), .val (.int (1 : Int32)), .val (.int (0 : Int32)), .val (.int (1 : Int32)), .val (.int (1 : Int32))] []))
          refine own_step (fun _ κ => XS.iload X16.here hx rfl (hb hby at_101) rfl κ) ?_
          show own_Go _ _ _ _ (T16.setTop (mkF m 103 #[.val (.int pa), .val (.int pb), .val (.int fg), .val (.int (pa &&& (2147483647 : Int32))), .val (.int ((pb &&& (2147483647 : Int32)) % (pa &&& (2147483647 : Int32)))), .val (.int (1 : Int32)), .val (.int (1 : Int32)), .val (.int (0 : Int32)), .val (.int (1 : Int32)), .val (.int (1 : Int32))] [(.int (1 : Int32))]))
          refine own_step (fun _ κ => XS.iload X16.here hx rfl (hb hby at_103) rfl κ) ?_
          show own_Go _ _ _ _ (T16.setTop (mkF m 105 #[.val (.int pa), .val (.int pb), .val (.int fg), .val (.int (pa &&& (2147483647 : Int32))), .val (.int ((pb &&& (2147483647 : Int32)) % (pa &&& (2147483647 : Int32)))), .val (.int (1 : Int32)), .val (.int (1 : Int32)), .val (.int (0 : Int32)), .val (.int (1 : Int32)), .val (.int (1 : Int32))] [(.int (1 : Int32)), (.int (1 : Int32))]))
          refine own_step (fun _ κ => XS.icmpNo X16.here hx rfl (hb hby at_105) rfl (teq rfl).2 κ) ?_
          show own_Go _ _ _ _ (T16.setTop (mkF m 108 #[.val (.int pa), .val (.int pb), .val (.int fg), .val (.int (pa &&& (2147483647 : Int32))), .val (.int ((pb &&& (2147483647 : Int32)) % (pa &&& (2147483647 : Int32)))), .val (.int (1 : Int32)), .val (.int (1 : Int32)), .val (.int (0 : Int32)), .val (.int (1 : Int32)), .val (.int (1 : Int32))] []))
          refine own_step (fun _ κ => XS.iconst X16.here hx rfl (hb hby at_108) κ) ?_
          show own_Go _ _ _ _ (T16.setTop (mkF m 109 #[.val (.int pa), .val (.int pb), .val (.int fg), .val (.int (pa &&& (2147483647 : Int32))), .val (.int ((pb &&& (2147483647 : Int32)) % (pa &&& (2147483647 : Int32)))), .val (.int (1 : Int32)), .val (.int (1 : Int32)), .val (.int (0 : Int32)), .val (.int (1 : Int32)), .val (.int (1 : Int32))] [(.int (1 : Int32))]))
          refine own_step (fun _ κ => XS.goto X16.here hx rfl (pc0 := 109) (pc' := 113) rfl (hb hby at_109) (by decide) (by decide) κ) ?_
          show own_Go _ _ _ _ (T16.setTop (mkF m 113 #[.val (.int pa), .val (.int pb), .val (.int fg), .val (.int (pa &&& (2147483647 : Int32))), .val (.int ((pb &&& (2147483647 : Int32)) % (pa &&& (2147483647 : Int32)))), .val (.int (1 : Int32)), .val (.int (1 : Int32)), .val (.int (0 : Int32)), .val (.int (1 : Int32)), .val (.int (1 : Int32))] [(.int (1 : Int32))]))
          obtain ⟨fs, hr, hrun, hended, hW, hsame⟩ := X16.leave (v := some (.int (1 : Int32))) (fun h => by rw [Bd.returns] at h; cases h)
          refine ⟨_, _, retN X16 hx (t := .boolean) Bd.returns (by simp) (hb hby at_113) hr, hrun, hended, _, _, rfl, ?_, ⟨_, rfl⟩, hW, hsame.mono (by decide) (by decide)⟩
          show Q0 Z pa pb fg s_AND s_OR h0 n0 _ T16.heap _
          exact ⟨rfl, N16⟩
        · rw [if_neg hc17] at hv16
          subst hv16
          refine own_step (fun _ κ => st16.trans κ) ?_
          show own_Go _ _ _ _ (T16.setTop (mkF m 53 #[.val (.int pa), .val (.int pb), .val (.int fg), .val (.int (pa &&& (2147483647 : Int32))), .val (.int ((pb &&& (2147483647 : Int32)) % (pa &&& (2147483647 : Int32)))), .val (.int (1 : Int32)), .unset, .unset, .unset, .unset] [(.int (0 : Int32))]))
          refine own_step (fun _ κ => XS.istore X16.here hx rfl (hb hby at_53) rfl (l' := #[.val (.int pa), .val (.int pb), .val (.int fg), .val (.int (pa &&& (2147483647 : Int32))), .val (.int ((pb &&& (2147483647 : Int32)) % (pa &&& (2147483647 : Int32)))), .val (.int (1 : Int32)), .val (.int (0 : Int32)), .unset, .unset, .unset]) rfl κ) ?_
          show own_Go _ _ _ _ (T16.setTop (mkF m 55 #[.val (.int pa), .val (.int pb), .val (.int fg), .val (.int (pa &&& (2147483647 : Int32))), .val (.int ((pb &&& (2147483647 : Int32)) % (pa &&& (2147483647 : Int32)))), .val (.int (1 : Int32)), .val (.int (0 : Int32)), .unset, .unset, .unset] []))
          refine own_step (fun _ κ => XS.iloadN X16.here hx rfl (hb hby at_55) rfl κ) ?_
          show own_Go _ _ _ _ (T16.setTop (mkF m 56 #[.val (.int pa), .val (.int pb), .val (.int fg), .val (.int (pa &&& (2147483647 : Int32))), .val (.int ((pb &&& (2147483647 : Int32)) % (pa &&& (2147483647 : Int32)))), .val (.int (1 : Int32)), .val (.int (0 : Int32)), .unset, .unset, .unset] [(.int (pa &&& (2147483647 : Int32)))]))
          refine own_step (fun _ κ => XS.iload X16.here hx rfl (hb hby at_56) rfl κ) ?_
          show own_Go _ _ _ _ (T16.setTop (mkF m 58 #[.val (.int pa), .val (.int pb), .val (.int fg), .val (.int (pa &&& (2147483647 : Int32))), .val (.int ((pb &&& (2147483647 : Int32)) % (pa &&& (2147483647 : Int32)))), .val (.int (1 : Int32)), .val (.int (0 : Int32)), .unset, .unset, .unset] [(.int ((pb &&& (2147483647 : Int32)) % (pa &&& (2147483647 : Int32)))), (.int (pa &&& (2147483647 : Int32)))]))
          refine own_step (fun _ κ => XS.isub X16.here hx rfl (hb hby at_58) rfl κ) ?_
          show own_Go _ _ _ _ (T16.setTop (mkF m 59 #[.val (.int pa), .val (.int pb), .val (.int fg), .val (.int (pa &&& (2147483647 : Int32))), .val (.int ((pb &&& (2147483647 : Int32)) % (pa &&& (2147483647 : Int32)))), .val (.int (1 : Int32)), .val (.int (0 : Int32)), .unset, .unset, .unset] [(.int ((pa &&& (2147483647 : Int32)) - ((pb &&& (2147483647 : Int32)) % (pa &&& (2147483647 : Int32)))))]))
          refine own_step (fun _ κ => XS.ifYes X16.here hx rfl (pc0 := 59) (pc' := 66) rfl (hb hby at_59) rfl ((if0 _ _).trans (teq (own_sub0 hc14)).1) (by decide) (by decide) κ) ?_
          show own_Go _ _ _ _ (T16.setTop (mkF m 66 #[.val (.int pa), .val (.int pb), .val (.int fg), .val (.int (pa &&& (2147483647 : Int32))), .val (.int ((pb &&& (2147483647 : Int32)) % (pa &&& (2147483647 : Int32)))), .val (.int (1 : Int32)), .val (.int (0 : Int32)), .unset, .unset, .unset] []))
          refine own_step (fun _ κ => XS.iconst X16.here hx rfl (hb hby at_66) κ) ?_
          show own_Go _ _ _ _ (T16.setTop (mkF m 67 #[.val (.int pa), .val (.int pb), .val (.int fg), .val (.int (pa &&& (2147483647 : Int32))), .val (.int ((pb &&& (2147483647 : Int32)) % (pa &&& (2147483647 : Int32)))), .val (.int (1 : Int32)), .val (.int (0 : Int32)), .unset, .unset, .unset] [(.int (0 : Int32))]))
          refine own_step (fun _ κ => XS.istore X16.here hx rfl (hb hby at_67) rfl (l' := #[.val (.int pa), .val (.int pb), .val (.int fg), .val (.int (pa &&& (2147483647 : Int32))), .val (.int ((pb &&& (2147483647 : Int32)) % (pa &&& (2147483647 : Int32)))), .val (.int (1 : Int32)), .val (.int (0 : Int32)), .val (.int (0 : Int32)), .unset, .unset]) rfl κ) ?_
          show own_Go _ _ _ _ (T16.setTop (mkF m 69 #[.val (.int pa), .val (.int pb), .val (.int fg), .val (.int (pa &&& (2147483647 : Int32))), .val (.int ((pb &&& (2147483647 : Int32)) % (pa &&& (2147483647 : Int32)))), .val (.int (1 : Int32)), .val (.int (0 : Int32)), .val (.int (0 : Int32)), .unset, .unset] []))
          refine own_step (fun _ κ => XS.iload X16.here hx rfl (hb hby at_69) rfl κ) ?_
          show own_Go _ _ _ _ (T16.setTop (mkF m 71 #[.val (.int pa), .val (.int pb), .val (.int fg), .val (.int (pa &&& (2147483647 : Int32))), .val (.int ((pb &&& (2147483647 : Int32)) % (pa &&& (2147483647 : Int32)))), .val (.int (1 : Int32)), .val (.int (0 : Int32)), .val (.int (0 : Int32)), .unset, .unset] [(.int (0 : Int32))]))
          refine own_step (fun _ κ => XS.ifNo X16.here hx rfl (hb hby at_71) rfl ((if0 _ _).trans (teq rfl).2) κ) ?_
          show own_Go _ _ _ _ (T16.setTop (mkF m 74 #[.val (.int pa), .val (.int pb), .val (.int fg), .val (.int (pa &&& (2147483647 : Int32))), .val (.int ((pb &&& (2147483647 : Int32)) % (pa &&& (2147483647 : Int32)))), .val (.int (1 : Int32)), .val (.int (0 : Int32)), .val (.int (0 : Int32)), .unset, .unset] []))
          refine own_step (fun _ κ => XS.iconst X16.here hx rfl (hb hby at_74) κ) ?_
          show own_Go _ _ _ _ (T16.setTop (mkF m 75 #[.val (.int pa), .val (.int pb), .val (.int fg), .val (.int (pa &&& (2147483647 : Int32))), .val (.int ((pb &&& (2147483647 : Int32)) % (pa &&& (2147483647 : Int32)))), .val (.int (1 : Int32)), .val (.int (0 : Int32)), .val (.int (0 : Int32)), .unset, .unset] [(.int (1 : Int32))]))
          refine own_step (fun _ κ => XS.goto X16.here hx rfl (pc0 := 75) (pc' := 79) rfl (hb hby at_75) (by decide) (by decide) κ) ?_
          show own_Go _ _ _ _ (T16.setTop (mkF m 79 #[.val (.int pa), .val (.int pb), .val (.int fg), .val (.int (pa &&& (2147483647 : Int32))), .val (.int ((pb &&& (2147483647 : Int32)) % (pa &&& (2147483647 : Int32)))), .val (.int (1 : Int32)), .val (.int (0 : Int32)), .val (.int (0 : Int32)), .unset, .unset] [(.int (1 : Int32))]))
          refine own_step (fun _ κ => XS.istore X16.here hx rfl (hb hby at_79) rfl (l' := #[.val (.int pa), .val (.int pb), .val (.int fg), .val (.int (pa &&& (2147483647 : Int32))), .val (.int ((pb &&& (2147483647 : Int32)) % (pa &&& (2147483647 : Int32)))), .val (.int (1 : Int32)), .val (.int (0 : Int32)), .val (.int (0 : Int32)), .val (.int (1 : Int32)), .unset]) rfl κ) ?_
          show own_Go _ _ _ _ (T16.setTop (mkF m 81 #[.val (.int pa), .val (.int pb), .val (.int fg), .val (.int (pa &&& (2147483647 : Int32))), .val (.int ((pb &&& (2147483647 : Int32)) % (pa &&& (2147483647 : Int32)))), .val (.int (1 : Int32)), .val (.int (0 : Int32)), .val (.int (0 : Int32)), .val (.int (1 : Int32)), .unset] []))
          refine own_step (fun _ κ => XS.iload X16.here hx rfl (hb hby at_81) rfl κ) ?_
          show own_Go _ _ _ _ (T16.setTop (mkF m 83 #[.val (.int pa), .val (.int pb), .val (.int fg), .val (.int (pa &&& (2147483647 : Int32))), .val (.int ((pb &&& (2147483647 : Int32)) % (pa &&& (2147483647 : Int32)))), .val (.int (1 : Int32)), .val (.int (0 : Int32)), .val (.int (0 : Int32)), .val (.int (1 : Int32)), .unset] [(.int ((pb &&& (2147483647 : Int32)) % (pa &&& (2147483647 : Int32))))]))
          refine own_step (fun _ κ => XS.iconst X16.here hx rfl (hb hby at_83) κ) ?_
          show own_Go _ _ _ _ (T16.setTop (mkF m 84 #[.val (.int pa), .val (.int pb), .val (.int fg), .val (.int (pa &&& (2147483647 : Int32))), .val (.int ((pb &&& (2147483647 : Int32)) % (pa &&& (2147483647 : Int32)))), .val (.int (1 : Int32)), .val (.int (0 : Int32)), .val (.int (0 : Int32)), .val (.int (1 : Int32)), .unset] [(.int (1 : Int32)), (.int ((pb &&& (2147483647 : Int32)) % (pa &&& (2147483647 : Int32))))]))
          refine own_step (fun _ κ => XS.icmpYes X16.here hx rfl (pc0 := 84) (pc' := 91) rfl (hb hby at_84) rfl (tlt (own_npos hc17)).1 (by decide) (by decide) κ) ?_
          show own_Go _ _ _ _ (T16.setTop (mkF m 91 #[.val (.int pa), .val (.int pb), .val (.int fg), .val (.int (pa &&& (2147483647 : Int32))), .val (.int ((pb &&& (2147483647 : Int32)) % (pa &&& (2147483647 : Int32)))), .val (.int (1 : Int32)), .val (.int (0 : Int32)), .val (.int (0 : Int32)), .val (.int (1 : Int32)), .unset] []))
          refine own_step (fun _ κ => XS.iconst X16.here hx rfl (hb hby at_91) κ) ?_
          show own_Go _ _ _ _ (T16.setTop (mkF m 92 #[.val (.int pa), .val (.int pb), .val (.int fg), .val (.int (pa &&& (2147483647 : Int32))), .val (.int ((pb &&& (2147483647 : Int32)) % (pa &&& (2147483647 : Int32)))), .val (.int (1 : Int32)), .val (.int (0 : Int32)), .val (.int (0 : Int32)), .val (.int (1 : Int32)), .unset] [(.int (0 : Int32))]))
          refine own_step (fun _ κ => XS.istore X16.here hx rfl (hb hby at_92) rfl (l' := #[.val (.int pa), .val (.int pb), .val (.int fg), .val (.int (pa &&& (2147483647 : Int32))), .val (.int ((pb &&& (2147483647 : Int32)) % (pa &&& (2147483647 : Int32)))), .val (.int (1 : Int32)), .val (.int (0 : Int32)), .val (.int (0 : Int32)), .val (.int (1 : Int32)), .val (.int (0 : Int32))]) rfl κ) ?_
          show own_Go _ _ _ _ (T16.setTop (mkF m 94 #[.val (.int pa), .val (.int pb), .val (.int fg), .val (.int (pa &&& (2147483647 : Int32))), .val (.int ((pb &&& (2147483647 : Int32)) % (pa &&& (2147483647 : Int32)))), .val (.int (1 : Int32)), .val (.int (0 : Int32)), .val (.int (0 : Int32)), .val (.int (1 : Int32)), .val (.int (0 : Int32))] []))
          refine own_step (fun _ κ => XS.iload X16.here hx rfl (hb hby at_94) rfl κ) ?_
          show own_Go _ _ _ _ (T16.setTop (mkF m 96 #[.val (.int pa), .val (.int pb), .val (.int fg), .val (.int (pa &&& (2147483647 : Int32))), .val (.int ((pb &&& (2147483647 : Int32)) % (pa &&& (2147483647 : Int32)))), .val (.int (1 : Int32)), .val (.int (0 : Int32)), .val (.int (0 : Int32)), .val (.int (1 : Int32)), .val (.int (0 : Int32))] [(.int (1 : Int32))]))
          refine own_step (fun _ κ => XS.iload X16.here hx rfl (hb hby at_96) rfl κ) ?_
          show own_Go _ _ _ _ (T16.setTop (mkF m 98 #[.val (.int pa), .val (.int pb), .val (.int fg), .val (.int (pa &&& (2147483647 : Int32))), .val (.int ((pb &&& (2147483647 : Int32)) % (pa &&& (2147483647 : Int32)))), .val (.int (1 : Int32)), .val (.int (0 : Int32)), .val (.int (0 : Int32)), .val (.int (1 : Int32)), .val (.int (0 : Int32))] [(.int (1 : Int32)), (.int (1 : Int32))]))
          refine own_step (fun _ κ => XS.icmpNo X16.here hx rfl (hb hby at_98) rfl (teq rfl).2 κ) ?_
          show own_Go _ _ _ _ (T16.setTop (mkF m 101 #[.val (.int pa), .val (.int pb), .val (.int fg), .val (.int (pa &&& (2147483647 : Int32))), .val (.int ((pb &&& (2147483647 : Int32)) % (pa &&& (2147483647 : Int32)))), .val (.int (1 : Int32)), .val (.int (0 : Int32)), .val (.int (0 : Int32)), .val (.int (1 : Int32)), .val (.int (0 : Int32))] []))
          refine own_step (fun _ κ => XS.iload X16.here hx rfl (hb hby at_101) rfl κ) ?_
          show own_Go _ _ _ _ (T16.setTop (mkF m 103 #[.val (.int pa), .val (.int pb), .val (.int fg), .val (.int (pa &&& (2147483647 : Int32))), .val (.int ((pb &&& (2147483647 : Int32)) % (pa &&& (2147483647 : Int32)))), .val (.int (1 : Int32)), .val (.int (0 : Int32)), .val (.int (0 : Int32)), .val (.int (1 : Int32)), .val (.int (0 : Int32))] [(.int (0 : Int32))]))
          refine own_step (fun _ κ => XS.iload X16.here hx rfl (hb hby at_103) rfl κ) ?_
          show own_Go _ _ _ _ (T16.setTop (mkF m 105 #[.val (.int pa), .val (.int pb), .val (.int fg), .val (.int (pa &&& (2147483647 : Int32))), .val (.int ((pb &&& (2147483647 : Int32)) % (pa &&& (2147483647 : Int32)))), .val (.int (1 : Int32)), .val (.int (0 : Int32)), .val (.int (0 : Int32)), .val (.int (1 : Int32)), .val (.int (0 : Int32))] [(.int (0 : Int32)), (.int (0 : Int32))]))
          refine own_step (fun _ κ => XS.icmpNo X16.here hx rfl (hb hby at_105) rfl (teq rfl).2 κ) ?_
          show own_Go _ _ _ _ (T16.setTop (mkF m 108 #[.val (.int pa), .val (.int pb), .val (.int fg), .val (.int (pa &&& (2147483647 : Int32))), .val (.int ((pb &&& (2147483647 : Int32)) % (pa &&& (2147483647 : Int32)))), .val (.int (1 : Int32)), .val (.int (0 : Int32)), .val (.int (0 : Int32)), .val (.int (1 : Int32)), .val (.int (0 : Int32))] []))
          refine own_step (fun _ κ => XS.iconst X16.here hx rfl (hb hby at_108) κ) ?_
          show own_Go _ _ _ _ (T16.setTop (mkF m 109 #[.val (.int pa), .val (.int pb), .val (.int fg), .val (.int (pa &&& (2147483647 : Int32))), .val (.int ((pb &&& (2147483647 : Int32)) % (pa &&& (2147483647 : Int32)))), .val (.int (1 : Int32)), .val (.int (0 : Int32)), .val (.int (0 : Int32)), .val (.int (1 : Int32)), .val (.int (0 : Int32))] [(.int (1 : Int32))]))
          refine own_step (fun _ κ => XS.goto X16.here hx rfl (pc0 := 109) (pc' := 113) rfl (hb hby at_109) (by decide) (by decide) κ) ?_
          show own_Go _ _ _ _ (T16.setTop (mkF m 113 #[.val (.int pa), .val (.int pb), .val (.int fg), .val (.int (pa &&& (2147483647 : Int32))), .val (.int ((pb &&& (2147483647 : Int32)) % (pa &&& (2147483647 : Int32)))), .val (.int (1 : Int32)), .val (.int (0 : Int32)), .val (.int (0 : Int32)), .val (.int (1 : Int32)), .val (.int (0 : Int32))] [(.int (1 : Int32))]))
          obtain ⟨fs, hr, hrun, hended, hW, hsame⟩ := X16.leave (v := some (.int (1 : Int32))) (fun h => by rw [Bd.returns] at h; cases h)
          refine ⟨_, _, retN X16 hx (t := .boolean) Bd.returns (by simp) (hb hby at_113) hr, hrun, hended, _, _, rfl, ?_, ⟨_, rfl⟩, hW, hsame.mono (by decide) (by decide)⟩
          show Q0 Z pa pb fg s_AND s_OR h0 n0 _ T16.heap _
          exact ⟨rfl, N16⟩
      · rw [if_neg hc14] at hv13
        subst hv13
        refine own_step (fun _ κ => st13.trans κ) ?_
        show own_Go _ _ _ _ (T13.setTop (mkF m 42 #[.val (.int pa), .val (.int pb), .val (.int fg), .val (.int (pa &&& (2147483647 : Int32))), .val (.int ((pb &&& (2147483647 : Int32)) % (pa &&& (2147483647 : Int32)))), .unset, .unset, .unset, .unset, .unset] [(.int (0 : Int32))]))
        refine own_step (fun _ κ => XS.istore X13.here hx rfl (hb hby at_42) rfl (l' := #[.val (.int pa), .val (.int pb), .val (.int fg), .val (.int (pa &&& (2147483647 : Int32))), .val (.int ((pb &&& (2147483647 : Int32)) % (pa &&& (2147483647 : Int32)))), .val (.int (0 : Int32)), .unset, .unset, .unset, .unset]) rfl κ) ?_
        show own_Go _ _ _ _ (T13.setTop (mkF m 44 #[.val (.int pa), .val (.int pb), .val (.int fg), .val (.int (pa &&& (2147483647 : Int32))), .val (.int ((pb &&& (2147483647 : Int32)) % (pa &&& (2147483647 : Int32)))), .val (.int (0 : Int32)), .unset, .unset, .unset, .unset] []))
        obtain ⟨T18, X18, e18, st18⟩ := getS2 X13 hx hZ hown (host := "") (Or.inl (hw _ (List.mem_of_getElem? (i := 18) rfl))) Via.refl eq13 (P3.ext P0.2) (g := (mkF m 44 #[.val (.int pa), .val (.int pb), .val (.int fg), .val (.int (pa &&& (2147483647 : Int32))), .val (.int ((pb &&& (2147483647 : Int32)) % (pa &&& (2147483647 : Int32)))), .val (.int (0 : Int32)), .unset, .unset, .unset, .unset] [])) rfl (hb hby at_44)
        refine own_step st18 ?_
        show own_Go _ _ _ _ (T18.setTop (mkF m 47 #[.val (.int pa), .val (.int pb), .val (.int fg), .val (.int (pa &&& (2147483647 : Int32))), .val (.int ((pb &&& (2147483647 : Int32)) % (pa &&& (2147483647 : Int32)))), .val (.int (0 : Int32)), .unset, .unset, .unset, .unset] [(.ref s_OR)]))
        refine own_step (fun _ κ => XS.iload X18.here hx rfl (hb hby at_47) rfl κ) ?_
        show own_Go _ _ _ _ (T18.setTop (mkF m 49 #[.val (.int pa), .val (.int pb), .val (.int fg), .val (.int (pa &&& (2147483647 : Int32))), .val (.int ((pb &&& (2147483647 : Int32)) % (pa &&& (2147483647 : Int32)))), .val (.int (0 : Int32)), .unset, .unset, .unset, .unset] [(.int ((pb &&& (2147483647 : Int32)) % (pa &&& (2147483647 : Int32)))), (.ref s_OR)]))
        refine own_step (fun _ κ => XS.iloadN X18.here hx rfl (hb hby at_49) rfl κ) ?_
        show own_Go _ _ _ _ (T18.setTop (mkF m 50 #[.val (.int pa), .val (.int pb), .val (.int fg), .val (.int (pa &&& (2147483647 : Int32))), .val (.int ((pb &&& (2147483647 : Int32)) % (pa &&& (2147483647 : Int32)))), .val (.int (0 : Int32)), .unset, .unset, .unset, .unset] [(.int (pa &&& (2147483647 : Int32))), (.int ((pb &&& (2147483647 : Int32)) % (pa &&& (2147483647 : Int32)))), (.ref s_OR)]))
        obtain ⟨cq19, kq19, q19a, q19b, q19c⟩ := isOf hZ e18 (P4.ext P0.2)
        obtain ⟨vr19, _, ⟨T19, L19, k19, n19⟩, -, X19, ⟨Lc19, hQ19, l19, y19, z19⟩, st19⟩ := X18.virtualBack hx (y := (⟨"com/example/lens_on_archives/lensonarchives/Semantics", "matches", "(II)Z"⟩ : MethodName)) (z := (⟨"com/example/lens_on_archives/lensonarchives/Semantics", "matches", "(II)Z"⟩ : MethodName)) hown (mvT hZ (hw _ (List.mem_of_getElem? (i := 4) rfl))) (mvT hZ (hw _ (List.mem_of_getElem? (i := 5) rfl))) (notFace_of_selects (args := #[]) (mvT hZ (hw _ (List.mem_of_getElem? (i := 7) rfl)))) (mvT hZ (hw _ (List.mem_of_getElem? (i := 7) rfl))) (mvT hZ (hw _ (List.mem_of_getElem? (i := 6) rfl))) (by decide) (backOf (W := 0) (rm3 l Z a0 hw [] s_OR ((pb &&& (2147483647 : Int32)) % (pa &&& (2147483647 : Int32))) (pa &&& (2147483647 : Int32))  h0 n0 Z0 (P4.ext P0.2) (P6.ext P0.2)) hZ (hw _ (List.mem_of_getElem? (i := 8) rfl)) (hw _ (List.mem_of_getElem? (i := 2) rfl)) (by decide) (by decide)) q19a q19c (g := (mkF m 50 #[.val (.int pa), .val (.int pb), .val (.int fg), .val (.int (pa &&& (2147483647 : Int32))), .val (.int ((pb &&& (2147483647 : Int32)) % (pa &&& (2147483647 : Int32)))), .val (.int (0 : Int32)), .unset, .unset, .unset, .unset] [(.int (pa &&& (2147483647 : Int32))), (.int ((pb &&& (2147483647 : Int32)) % (pa &&& (2147483647 : Int32)))), (.ref s_OR)])) rfl (by rw [hml]; rfl) (Steps.refl _) (argsL := [(.int ((pb &&& (2147483647 : Int32)) % (pa &&& (2147483647 : Int32)))), (.int (pa &&& (2147483647 : Int32)))]) (rest := []) (lenOf pd_1 rfl) rfl (by show 2 * 0 + _ ≤ _; exact Nat.le_of_eq rfl) (hb hby at_50) (fun _ _ => ⟨rfl, e18, (by decide : 0 + 0 ≤ _), (by decide : 0 + 0 ≤ _)⟩)
        dsimp only [Pt.U, Pt.locs, Pt.cells, Pt.slots] at X19 l19 y19 z19 st19 hQ19
        subst l19 y19 z19
        obtain ⟨hv19, Nq19, eq19⟩ := hQ19
        have N19 := Fr.app N13 Nq19
        by_cases hc20 : (0 : Int32) < ((pb &&& (2147483647 : Int32)) % (pa &&& (2147483647 : Int32)))
        · rw [if_pos hc20] at hv19
          subst hv19
          refine own_step (fun _ κ => st19.trans κ) ?_
          show own_Go _ _ _ _ (T19.setTop (mkF m 53 #[.val (.int pa), .val (.int pb), .val (.int fg), .val (.int (pa &&& (2147483647 : Int32))), .val (.int ((pb &&& (2147483647 : Int32)) % (pa &&& (2147483647 : Int32)))), .val (.int (0 : Int32)), .unset, .unset, .unset, .unset] [(.int (1 : Int32))]))
          refine own_step (fun _ κ => XS.istore X19.here hx rfl (hb hby at_53) rfl (l' := #[.val (.int pa), .val (.int pb), .val (.int fg), .val (.int (pa &&& (2147483647 : Int32))), .val (.int ((pb &&& (2147483647 : Int32)) % (pa &&& (2147483647 : Int32)))), .val (.int (0 : Int32)), .val (.int (1 : Int32)), .unset, .unset, .unset]) rfl κ) ?_
          show own_Go _ _ _ _ (T19.setTop (mkF m 55 #[.val (.int pa), .val (.int pb), .val (.int fg), .val (.int (pa &&& (2147483647 : Int32))), .val (.int ((pb &&& (2147483647 : Int32)) % (pa &&& (2147483647 : Int32)))), .val (.int (0 : Int32)), .val (.int (1 : Int32)), .unset, .unset, .unset] []))
          refine own_step (fun _ κ => XS.iloadN X19.here hx rfl (hb hby at_55) rfl κ) ?_
          show own_Go _ _ _ _ (T19.setTop (mkF m 56 #[.val (.int pa), .val (.int pb), .val (.int fg), .val (.int (pa &&& (2147483647 : Int32))), .val (.int ((pb &&& (2147483647 : Int32)) % (pa &&& (2147483647 : Int32)))), .val (.int (0 : Int32)), .val (.int (1 : Int32)), .unset, .unset, .unset] [(.int (pa &&& (2147483647 : Int32)))]))
          refine own_step (fun _ κ => XS.iload X19.here hx rfl (hb hby at_56) rfl κ) ?_
          show own_Go _ _ _ _ (T19.setTop (mkF m 58 #[.val (.int pa), .val (.int pb), .val (.int fg), .val (.int (pa &&& (2147483647 : Int32))), .val (.int ((pb &&& (2147483647 : Int32)) % (pa &&& (2147483647 : Int32)))), .val (.int (0 : Int32)), .val (.int (1 : Int32)), .unset, .unset, .unset] [(.int ((pb &&& (2147483647 : Int32)) % (pa &&& (2147483647 : Int32)))), (.int (pa &&& (2147483647 : Int32)))]))
          refine own_step (fun _ κ => XS.isub X19.here hx rfl (hb hby at_58) rfl κ) ?_
          show own_Go _ _ _ _ (T19.setTop (mkF m 59 #[.val (.int pa), .val (.int pb), .val (.int fg), .val (.int (pa &&& (2147483647 : Int32))), .val (.int ((pb &&& (2147483647 : Int32)) % (pa &&& (2147483647 : Int32)))), .val (.int (0 : Int32)), .val (.int (1 : Int32)), .unset, .unset, .unset] [(.int ((pa &&& (2147483647 : Int32)) - ((pb &&& (2147483647 : Int32)) % (pa &&& (2147483647 : Int32)))))]))
          refine own_step (fun _ κ => XS.ifNo X19.here hx rfl (hb hby at_59) rfl ((if0 _ _).trans (feq (own_sub1 hc14)).1) κ) ?_
          show own_Go _ _ _ _ (T19.setTop (mkF m 62 #[.val (.int pa), .val (.int pb), .val (.int fg), .val (.int (pa &&& (2147483647 : Int32))), .val (.int ((pb &&& (2147483647 : Int32)) % (pa &&& (2147483647 : Int32)))), .val (.int (0 : Int32)), .val (.int (1 : Int32)), .unset, .unset, .unset] []))
          refine own_step (fun _ κ => XS.iconst X19.here hx rfl (hb hby at_62) κ) ?_
          show own_Go _ _ _ _ (T19.setTop (mkF m 63 #[.val (.int pa), .val (.int pb), .val (.int fg), .val (.int (pa &&& (2147483647 : Int32))), .val (.int ((pb &&& (2147483647 : Int32)) % (pa &&& (2147483647 : Int32)))), .val (.int (0 : Int32)), .val (.int (1 : Int32)), .unset, .unset, .unset] [(.int (1 : Int32))]))
          refine own_step (fun _ κ => XS.goto X19.here hx rfl (pc0 := 63) (pc' := 67) rfl (hb hby at_63) (by decide) (by decide) κ) ?_
          show own_Go _ _ _ _ (T19.setTop (mkF m 67 #[.val (.int pa), .val (.int pb), .val (.int fg), .val (.int (pa &&& (2147483647 : Int32))), .val (.int ((pb &&& (2147483647 : Int32)) % (pa &&& (2147483647 : Int32)))), .val (.int (0 : Int32)), .val (.int (1 : Int32)), .unset, .unset, .unset] [(.int (1 : Int32))]))
          refine own_step (fun _ κ => XS.istore X19.here hx rfl (hb hby at_67) rfl (l' := #[.val (.int pa), .val (.int pb), .val (.int fg), .val (.int (pa &&& (2147483647 : Int32))), .val (.int ((pb &&& (2147483647 : Int32)) % (pa &&& (2147483647 : Int32)))), .val (.int (0 : Int32)), .val (.int (1 : Int32)), .val (.int (1 : Int32)), .unset, .unset]) rfl κ) ?_
          show own_Go _ _ _ _ (T19.setTop (mkF m 69 #[.val (.int pa), .val (.int pb), .val (.int fg), .val (.int (pa &&& (2147483647 : Int32))), .val (.int ((pb &&& (2147483647 : Int32)) % (pa &&& (2147483647 : Int32)))), .val (.int (0 : Int32)), .val (.int (1 : Int32)), .val (.int (1 : Int32)), .unset, .unset] []))
          refine own_step (fun _ κ => XS.iload X19.here hx rfl (hb hby at_69) rfl κ) ?_
          show own_Go _ _ _ _ (T19.setTop (mkF m 71 #[.val (.int pa), .val (.int pb), .val (.int fg), .val (.int (pa &&& (2147483647 : Int32))), .val (.int ((pb &&& (2147483647 : Int32)) % (pa &&& (2147483647 : Int32)))), .val (.int (0 : Int32)), .val (.int (1 : Int32)), .val (.int (1 : Int32)), .unset, .unset] [(.int (1 : Int32))]))
          refine own_step (fun _ κ => XS.ifYes X19.here hx rfl (pc0 := 71) (pc' := 78) rfl (hb hby at_71) rfl ((if0 _ _).trans (feq (by decide)).2) (by decide) (by decide) κ) ?_
          show own_Go _ _ _ _ (T19.setTop (mkF m 78 #[.val (.int pa), .val (.int pb), .val (.int fg), .val (.int (pa &&& (2147483647 : Int32))), .val (.int ((pb &&& (2147483647 : Int32)) % (pa &&& (2147483647 : Int32)))), .val (.int (0 : Int32)), .val (.int (1 : Int32)), .val (.int (1 : Int32)), .unset, .unset] []))
          refine own_step (fun _ κ => XS.iconst X19.here hx rfl (hb hby at_78) κ) ?_
          show own_Go _ _ _ _ (T19.setTop (mkF m 79 #[.val (.int pa), .val (.int pb), .val (.int fg), .val (.int (pa &&& (2147483647 : Int32))), .val (.int ((pb &&& (2147483647 : Int32)) % (pa &&& (2147483647 : Int32)))), .val (.int (0 : Int32)), .val (.int (1 : Int32)), .val (.int (1 : Int32)), .unset, .unset] [(.int (0 : Int32))]))
          refine own_step (fun _ κ => XS.istore X19.here hx rfl (hb hby at_79) rfl (l' := #[.val (.int pa), .val (.int pb), .val (.int fg), .val (.int (pa &&& (2147483647 : Int32))), .val (.int ((pb &&& (2147483647 : Int32)) % (pa &&& (2147483647 : Int32)))), .val (.int (0 : Int32)), .val (.int (1 : Int32)), .val (.int (1 : Int32)), .val (.int (0 : Int32)), .unset]) rfl κ) ?_
          show own_Go _ _ _ _ (T19.setTop (mkF m 81 #[.val (.int pa), .val (.int pb), .val (.int fg), .val (.int (pa &&& (2147483647 : Int32))), .val (.int ((pb &&& (2147483647 : Int32)) % (pa &&& (2147483647 : Int32)))), .val (.int (0 : Int32)), .val (.int (1 : Int32)), .val (.int (1 : Int32)), .val (.int (0 : Int32)), .unset] []))
          refine own_step (fun _ κ => XS.iload X19.here hx rfl (hb hby at_81) rfl κ) ?_
          show own_Go _ _ _ _ (T19.setTop (mkF m 83 #[.val (.int pa), .val (.int pb), .val (.int fg), .val (.int (pa &&& (2147483647 : Int32))), .val (.int ((pb &&& (2147483647 : Int32)) % (pa &&& (2147483647 : Int32)))), .val (.int (0 : Int32)), .val (.int (1 : Int32)), .val (.int (1 : Int32)), .val (.int (0 : Int32)), .unset] [(.int ((pb &&& (2147483647 : Int32)) % (pa &&& (2147483647 : Int32))))]))
          refine own_step (fun _ κ => XS.iconst X19.here hx rfl (hb hby at_83) κ) ?_
          show own_Go _ _ _ _ (T19.setTop (mkF m 84 #[.val (.int pa), .val (.int pb), .val (.int fg), .val (.int (pa &&& (2147483647 : Int32))), .val (.int ((pb &&& (2147483647 : Int32)) % (pa &&& (2147483647 : Int32)))), .val (.int (0 : Int32)), .val (.int (1 : Int32)), .val (.int (1 : Int32)), .val (.int (0 : Int32)), .unset] [(.int (1 : Int32)), (.int ((pb &&& (2147483647 : Int32)) % (pa &&& (2147483647 : Int32))))]))
          refine own_step (fun _ κ => XS.icmpNo X19.here hx rfl (hb hby at_84) rfl (flt (own_pos hc20)).1 κ) ?_
          show own_Go _ _ _ _ (T19.setTop (mkF m 87 #[.val (.int pa), .val (.int pb), .val (.int fg), .val (.int (pa &&& (2147483647 : Int32))), .val (.int ((pb &&& (2147483647 : Int32)) % (pa &&& (2147483647 : Int32)))), .val (.int (0 : Int32)), .val (.int (1 : Int32)), .val (.int (1 : Int32)), .val (.int (0 : Int32)), .unset] []))
          refine own_step (fun _ κ => XS.iconst X19.here hx rfl (hb hby at_87) κ) ?_
          show own_Go _ _ _ _ (T19.setTop (mkF m 88 #[.val (.int pa), .val (.int pb), .val (.int fg), .val (.int (pa &&& (2147483647 : Int32))), .val (.int ((pb &&& (2147483647 : Int32)) % (pa &&& (2147483647 : Int32)))), .val (.int (0 : Int32)), .val (.int (1 : Int32)), .val (.int (1 : Int32)), .val (.int (0 : Int32)), .unset] [(.int (1 : Int32))]))
          refine own_step (fun _ κ => XS.goto X19.here hx rfl (pc0 := 88) (pc' := 92) rfl (hb hby at_88) (by decide) (by decide) κ) ?_
          show own_Go _ _ _ _ (T19.setTop (mkF m 92 #[.val (.int pa), .val (.int pb), .val (.int fg), .val (.int (pa &&& (2147483647 : Int32))), .val (.int ((pb &&& (2147483647 : Int32)) % (pa &&& (2147483647 : Int32)))), .val (.int (0 : Int32)), .val (.int (1 : Int32)), .val (.int (1 : Int32)), .val (.int (0 : Int32)), .unset] [(.int (1 : Int32))]))
          refine own_step (fun _ κ => XS.istore X19.here hx rfl (hb hby at_92) rfl (l' := #[.val (.int pa), .val (.int pb), .val (.int fg), .val (.int (pa &&& (2147483647 : Int32))), .val (.int ((pb &&& (2147483647 : Int32)) % (pa &&& (2147483647 : Int32)))), .val (.int (0 : Int32)), .val (.int (1 : Int32)), .val (.int (1 : Int32)), .val (.int (0 : Int32)), .val (.int (1 : Int32))]) rfl κ) ?_
          show own_Go _ _ _ _ (T19.setTop (mkF m 94 #[.val (.int pa), .val (.int pb), .val (.int fg), .val (.int (pa &&& (2147483647 : Int32))), .val (.int ((pb &&& (2147483647 : Int32)) % (pa &&& (2147483647 : Int32)))), .val (.int (0 : Int32)), .val (.int (1 : Int32)), .val (.int (1 : Int32)), .val (.int (0 : Int32)), .val (.int (1 : Int32))] []))
          refine own_step (fun _ κ => XS.iload X19.here hx rfl (hb hby at_94) rfl κ) ?_
          show own_Go _ _ _ _ (T19.setTop (mkF m 96 #[.val (.int pa), .val (.int pb), .val (.int fg), .val (.int (pa &&& (2147483647 : Int32))), .val (.int ((pb &&& (2147483647 : Int32)) % (pa &&& (2147483647 : Int32)))), .val (.int (0 : Int32)), .val (.int (1 : Int32)), .val (.int (1 : Int32)), .val (.int (0 : Int32)), .val (.int (1 : Int32))] [(.int (0 : Int32))]))
          refine own_step (fun _ κ => XS.iload X19.here hx rfl (hb hby at_96) rfl κ) ?_
          show own_Go _ _ _ _ (T19.setTop (mkF m 98 #[.val (.int pa), .val (.int pb), .val (.int fg), .val (.int (pa &&& (2147483647 : Int32))), .val (.int ((pb &&& (2147483647 : Int32)) % (pa &&& (2147483647 : Int32)))), .val (.int (0 : Int32)), .val (.int (1 : Int32)), .val (.int (1 : Int32)), .val (.int (0 : Int32)), .val (.int (1 : Int32))] [(.int (0 : Int32)), (.int (0 : Int32))]))
          refine own_step (fun _ κ => XS.icmpNo X19.here hx rfl (hb hby at_98) rfl (teq rfl).2 κ) ?_
          show own_Go _ _ _ _ (T19.setTop (mkF m 101 #[.val (.int pa), .val (.int pb), .val (.int fg), .val (.int (pa &&& (2147483647 : Int32))), .val (.int ((pb &&& (2147483647 : Int32)) % (pa &&& (2147483647 : Int32)))), .val (.int (0 : Int32)), .val (.int (1 : Int32)), .val (.int (1 : Int32)), .val (.int (0 : Int32)), .val (.int (1 : Int32))] []))
          refine own_step (fun _ κ => XS.iload X19.here hx rfl (hb hby at_101) rfl κ) ?_
          show own_Go _ _ _ _ (T19.setTop (mkF m 103 #[.val (.int pa), .val (.int pb), .val (.int fg), .val (.int (pa &&& (2147483647 : Int32))), .val (.int ((pb &&& (2147483647 : Int32)) % (pa &&& (2147483647 : Int32)))), .val (.int (0 : Int32)), .val (.int (1 : Int32)), .val (.int (1 : Int32)), .val (.int (0 : Int32)), .val (.int (1 : Int32))] [(.int (1 : Int32))]))
          refine own_step (fun _ κ => XS.iload X19.here hx rfl (hb hby at_103) rfl κ) ?_
          show own_Go _ _ _ _ (T19.setTop (mkF m 105 #[.val (.int pa), .val (.int pb), .val (.int fg), .val (.int (pa &&& (2147483647 : Int32))), .val (.int ((pb &&& (2147483647 : Int32)) % (pa &&& (2147483647 : Int32)))), .val (.int (0 : Int32)), .val (.int (1 : Int32)), .val (.int (1 : Int32)), .val (.int (0 : Int32)), .val (.int (1 : Int32))] [(.int (1 : Int32)), (.int (1 : Int32))]))
          refine own_step (fun _ κ => XS.icmpNo X19.here hx rfl (hb hby at_105) rfl (teq rfl).2 κ) ?_
          show own_Go _ _ _ _ (T19.setTop (mkF m 108 #[.val (.int pa), .val (.int pb), .val (.int fg), .val (.int (pa &&& (2147483647 : Int32))), .val (.int ((pb &&& (2147483647 : Int32)) % (pa &&& (2147483647 : Int32)))), .val (.int (0 : Int32)), .val (.int (1 : Int32)), .val (.int (1 : Int32)), .val (.int (0 : Int32)), .val (.int (1 : Int32))] []))
          refine own_step (fun _ κ => XS.iconst X19.here hx rfl (hb hby at_108) κ) ?_
          show own_Go _ _ _ _ (T19.setTop (mkF m 109 #[.val (.int pa), .val (.int pb), .val (.int fg), .val (.int (pa &&& (2147483647 : Int32))), .val (.int ((pb &&& (2147483647 : Int32)) % (pa &&& (2147483647 : Int32)))), .val (.int (0 : Int32)), .val (.int (1 : Int32)), .val (.int (1 : Int32)), .val (.int (0 : Int32)), .val (.int (1 : Int32))] [(.int (1 : Int32))]))
          refine own_step (fun _ κ => XS.goto X19.here hx rfl (pc0 := 109) (pc' := 113) rfl (hb hby at_109) (by decide) (by decide) κ) ?_
          show own_Go _ _ _ _ (T19.setTop (mkF m 113 #[.val (.int pa), .val (.int pb), .val (.int fg), .val (.int (pa &&& (2147483647 : Int32))), .val (.int ((pb &&& (2147483647 : Int32)) % (pa &&& (2147483647 : Int32)))), .val (.int (0 : Int32)), .val (.int (1 : Int32)), .val (.int (1 : Int32)), .val (.int (0 : Int32)), .val (.int (1 : Int32))] [(.int (1 : Int32))]))
          obtain ⟨fs, hr, hrun, hended, hW, hsame⟩ := X19.leave (v := some (.int (1 : Int32))) (fun h => by rw [Bd.returns] at h; cases h)
          refine ⟨_, _, retN X19 hx (t := .boolean) Bd.returns (by simp) (hb hby at_113) hr, hrun, hended, _, _, rfl, ?_, ⟨_, rfl⟩, hW, hsame.mono (by decide) (by decide)⟩
          show Q0 Z pa pb fg s_AND s_OR h0 n0 _ T19.heap _
          exact ⟨rfl, N19⟩
        · rw [if_neg hc20] at hv19
          subst hv19
          refine own_step (fun _ κ => st19.trans κ) ?_
          show own_Go _ _ _ _ (T19.setTop (mkF m 53 #[.val (.int pa), .val (.int pb), .val (.int fg), .val (.int (pa &&& (2147483647 : Int32))), .val (.int ((pb &&& (2147483647 : Int32)) % (pa &&& (2147483647 : Int32)))), .val (.int (0 : Int32)), .unset, .unset, .unset, .unset] [(.int (0 : Int32))]))
          refine own_step (fun _ κ => XS.istore X19.here hx rfl (hb hby at_53) rfl (l' := #[.val (.int pa), .val (.int pb), .val (.int fg), .val (.int (pa &&& (2147483647 : Int32))), .val (.int ((pb &&& (2147483647 : Int32)) % (pa &&& (2147483647 : Int32)))), .val (.int (0 : Int32)), .val (.int (0 : Int32)), .unset, .unset, .unset]) rfl κ) ?_
          show own_Go _ _ _ _ (T19.setTop (mkF m 55 #[.val (.int pa), .val (.int pb), .val (.int fg), .val (.int (pa &&& (2147483647 : Int32))), .val (.int ((pb &&& (2147483647 : Int32)) % (pa &&& (2147483647 : Int32)))), .val (.int (0 : Int32)), .val (.int (0 : Int32)), .unset, .unset, .unset] []))
          refine own_step (fun _ κ => XS.iloadN X19.here hx rfl (hb hby at_55) rfl κ) ?_
          show own_Go _ _ _ _ (T19.setTop (mkF m 56 #[.val (.int pa), .val (.int pb), .val (.int fg), .val (.int (pa &&& (2147483647 : Int32))), .val (.int ((pb &&& (2147483647 : Int32)) % (pa &&& (2147483647 : Int32)))), .val (.int (0 : Int32)), .val (.int (0 : Int32)), .unset, .unset, .unset] [(.int (pa &&& (2147483647 : Int32)))]))
          refine own_step (fun _ κ => XS.iload X19.here hx rfl (hb hby at_56) rfl κ) ?_
          show own_Go _ _ _ _ (T19.setTop (mkF m 58 #[.val (.int pa), .val (.int pb), .val (.int fg), .val (.int (pa &&& (2147483647 : Int32))), .val (.int ((pb &&& (2147483647 : Int32)) % (pa &&& (2147483647 : Int32)))), .val (.int (0 : Int32)), .val (.int (0 : Int32)), .unset, .unset, .unset] [(.int ((pb &&& (2147483647 : Int32)) % (pa &&& (2147483647 : Int32)))), (.int (pa &&& (2147483647 : Int32)))]))
          refine own_step (fun _ κ => XS.isub X19.here hx rfl (hb hby at_58) rfl κ) ?_
          show own_Go _ _ _ _ (T19.setTop (mkF m 59 #[.val (.int pa), .val (.int pb), .val (.int fg), .val (.int (pa &&& (2147483647 : Int32))), .val (.int ((pb &&& (2147483647 : Int32)) % (pa &&& (2147483647 : Int32)))), .val (.int (0 : Int32)), .val (.int (0 : Int32)), .unset, .unset, .unset] [(.int ((pa &&& (2147483647 : Int32)) - ((pb &&& (2147483647 : Int32)) % (pa &&& (2147483647 : Int32)))))]))
          refine own_step (fun _ κ => XS.ifNo X19.here hx rfl (hb hby at_59) rfl ((if0 _ _).trans (feq (own_sub1 hc14)).1) κ) ?_
          show own_Go _ _ _ _ (T19.setTop (mkF m 62 #[.val (.int pa), .val (.int pb), .val (.int fg), .val (.int (pa &&& (2147483647 : Int32))), .val (.int ((pb &&& (2147483647 : Int32)) % (pa &&& (2147483647 : Int32)))), .val (.int (0 : Int32)), .val (.int (0 : Int32)), .unset, .unset, .unset] []))
          refine own_step (fun _ κ => XS.iconst X19.here hx rfl (hb hby at_62) κ) ?_
          show own_Go _ _ _ _ (T19.setTop (mkF m 63 #[.val (.int pa), .val (.int pb), .val (.int fg), .val (.int (pa &&& (2147483647 : Int32))), .val (.int ((pb &&& (2147483647 : Int32)) % (pa &&& (2147483647 : Int32)))), .val (.int (0 : Int32)), .val (.int (0 : Int32)), .unset, .unset, .unset] [(.int (1 : Int32))]))
          refine own_step (fun _ κ => XS.goto X19.here hx rfl (pc0 := 63) (pc' := 67) rfl (hb hby at_63) (by decide) (by decide) κ) ?_
          show own_Go _ _ _ _ (T19.setTop (mkF m 67 #[.val (.int pa), .val (.int pb), .val (.int fg), .val (.int (pa &&& (2147483647 : Int32))), .val (.int ((pb &&& (2147483647 : Int32)) % (pa &&& (2147483647 : Int32)))), .val (.int (0 : Int32)), .val (.int (0 : Int32)), .unset, .unset, .unset] [(.int (1 : Int32))]))
          refine own_step (fun _ κ => XS.istore X19.here hx rfl (hb hby at_67) rfl (l' := #[.val (.int pa), .val (.int pb), .val (.int fg), .val (.int (pa &&& (2147483647 : Int32))), .val (.int ((pb &&& (2147483647 : Int32)) % (pa &&& (2147483647 : Int32)))), .val (.int (0 : Int32)), .val (.int (0 : Int32)), .val (.int (1 : Int32)), .unset, .unset]) rfl κ) ?_
          show own_Go _ _ _ _ (T19.setTop (mkF m 69 #[.val (.int pa), .val (.int pb), .val (.int fg), .val (.int (pa &&& (2147483647 : Int32))), .val (.int ((pb &&& (2147483647 : Int32)) % (pa &&& (2147483647 : Int32)))), .val (.int (0 : Int32)), .val (.int (0 : Int32)), .val (.int (1 : Int32)), .unset, .unset] []))
          refine own_step (fun _ κ => XS.iload X19.here hx rfl (hb hby at_69) rfl κ) ?_
          show own_Go _ _ _ _ (T19.setTop (mkF m 71 #[.val (.int pa), .val (.int pb), .val (.int fg), .val (.int (pa &&& (2147483647 : Int32))), .val (.int ((pb &&& (2147483647 : Int32)) % (pa &&& (2147483647 : Int32)))), .val (.int (0 : Int32)), .val (.int (0 : Int32)), .val (.int (1 : Int32)), .unset, .unset] [(.int (1 : Int32))]))
          refine own_step (fun _ κ => XS.ifYes X19.here hx rfl (pc0 := 71) (pc' := 78) rfl (hb hby at_71) rfl ((if0 _ _).trans (feq (by decide)).2) (by decide) (by decide) κ) ?_
          show own_Go _ _ _ _ (T19.setTop (mkF m 78 #[.val (.int pa), .val (.int pb), .val (.int fg), .val (.int (pa &&& (2147483647 : Int32))), .val (.int ((pb &&& (2147483647 : Int32)) % (pa &&& (2147483647 : Int32)))), .val (.int (0 : Int32)), .val (.int (0 : Int32)), .val (.int (1 : Int32)), .unset, .unset] []))
          refine own_step (fun _ κ => XS.iconst X19.here hx rfl (hb hby at_78) κ) ?_
          show own_Go _ _ _ _ (T19.setTop (mkF m 79 #[.val (.int pa), .val (.int pb), .val (.int fg), .val (.int (pa &&& (2147483647 : Int32))), .val (.int ((pb &&& (2147483647 : Int32)) % (pa &&& (2147483647 : Int32)))), .val (.int (0 : Int32)), .val (.int (0 : Int32)), .val (.int (1 : Int32)), .unset, .unset] [(.int (0 : Int32))]))
          refine own_step (fun _ κ => XS.istore X19.here hx rfl (hb hby at_79) rfl (l' := #[.val (.int pa), .val (.int pb), .val (.int fg), .val (.int (pa &&& (2147483647 : Int32))), .val (.int ((pb &&& (2147483647 : Int32)) % (pa &&& (2147483647 : Int32)))), .val (.int (0 : Int32)), .val (.int (0 : Int32)), .val (.int (1 : Int32)), .val (.int (0 : Int32)), .unset]) rfl κ) ?_
          show own_Go _ _ _ _ (T19.setTop (mkF m 81 #[.val (.int pa), .val (.int pb), .val (.int fg), .val (.int (pa &&& (2147483647 : Int32))), .val (.int ((pb &&& (2147483647 : Int32)) % (pa &&& (2147483647 : Int32)))), .val (.int (0 : Int32)), .val (.int (0 : Int32)), .val (.int (1 : Int32)), .val (.int (0 : Int32)), .unset] []))
          refine own_step (fun _ κ => XS.iload X19.here hx rfl (hb hby at_81) rfl κ) ?_
          show own_Go _ _ _ _ (T19.setTop (mkF m 83 #[.val (.int pa), .val (.int pb), .val (.int fg), .val (.int (pa &&& (2147483647 : Int32))), .val (.int ((pb &&& (2147483647 : Int32)) % (pa &&& (2147483647 : Int32)))), .val (.int (0 : Int32)), .val (.int (0 : Int32)), .val (.int (1 : Int32)), .val (.int (0 : Int32)), .unset] [(.int ((pb &&& (2147483647 : Int32)) % (pa &&& (2147483647 : Int32))))]))
          refine own_step (fun _ κ => XS.iconst X19.here hx rfl (hb hby at_83) κ) ?_
          show own_Go _ _ _ _ (T19.setTop (mkF m 84 #[.val (.int pa), .val (.int pb), .val (.int fg), .val (.int (pa &&& (2147483647 : Int32))), .val (.int ((pb &&& (2147483647 : Int32)) % (pa &&& (2147483647 : Int32)))), .val (.int (0 : Int32)), .val (.int (0 : Int32)), .val (.int (1 : Int32)), .val (.int (0 : Int32)), .unset] [(.int (1 : Int32)), (.int ((pb &&& (2147483647 : Int32)) % (pa &&& (2147483647 : Int32))))]))
          refine own_step (fun _ κ => XS.icmpYes X19.here hx rfl (pc0 := 84) (pc' := 91) rfl (hb hby at_84) rfl (tlt (own_npos hc20)).1 (by decide) (by decide) κ) ?_
          show own_Go _ _ _ _ (T19.setTop (mkF m 91 #[.val (.int pa), .val (.int pb), .val (.int fg), .val (.int (pa &&& (2147483647 : Int32))), .val (.int ((pb &&& (2147483647 : Int32)) % (pa &&& (2147483647 : Int32)))), .val (.int (0 : Int32)), .val (.int (0 : Int32)), .val (.int (1 : Int32)), .val (.int (0 : Int32)), .unset] []))
          refine own_step (fun _ κ => XS.iconst X19.here hx rfl (hb hby at_91) κ) ?_
          show own_Go _ _ _ _ (T19.setTop (mkF m 92 #[.val (.int pa), .val (.int pb), .val (.int fg), .val (.int (pa &&& (2147483647 : Int32))), .val (.int ((pb &&& (2147483647 : Int32)) % (pa &&& (2147483647 : Int32)))), .val (.int (0 : Int32)), .val (.int (0 : Int32)), .val (.int (1 : Int32)), .val (.int (0 : Int32)), .unset] [(.int (0 : Int32))]))
          refine own_step (fun _ κ => XS.istore X19.here hx rfl (hb hby at_92) rfl (l' := #[.val (.int pa), .val (.int pb), .val (.int fg), .val (.int (pa &&& (2147483647 : Int32))), .val (.int ((pb &&& (2147483647 : Int32)) % (pa &&& (2147483647 : Int32)))), .val (.int (0 : Int32)), .val (.int (0 : Int32)), .val (.int (1 : Int32)), .val (.int (0 : Int32)), .val (.int (0 : Int32))]) rfl κ) ?_
          show own_Go _ _ _ _ (T19.setTop (mkF m 94 #[.val (.int pa), .val (.int pb), .val (.int fg), .val (.int (pa &&& (2147483647 : Int32))), .val (.int ((pb &&& (2147483647 : Int32)) % (pa &&& (2147483647 : Int32)))), .val (.int (0 : Int32)), .val (.int (0 : Int32)), .val (.int (1 : Int32)), .val (.int (0 : Int32)), .val (.int (0 : Int32))] []))
          refine own_step (fun _ κ => XS.iload X19.here hx rfl (hb hby at_94) rfl κ) ?_
          show own_Go _ _ _ _ (T19.setTop (mkF m 96 #[.val (.int pa), .val (.int pb), .val (.int fg), .val (.int (pa &&& (2147483647 : Int32))), .val (.int ((pb &&& (2147483647 : Int32)) % (pa &&& (2147483647 : Int32)))), .val (.int (0 : Int32)), .val (.int (0 : Int32)), .val (.int (1 : Int32)), .val (.int (0 : Int32)), .val (.int (0 : Int32))] [(.int (0 : Int32))]))
          refine own_step (fun _ κ => XS.iload X19.here hx rfl (hb hby at_96) rfl κ) ?_
          show own_Go _ _ _ _ (T19.setTop (mkF m 98 #[.val (.int pa), .val (.int pb), .val (.int fg), .val (.int (pa &&& (2147483647 : Int32))), .val (.int ((pb &&& (2147483647 : Int32)) % (pa &&& (2147483647 : Int32)))), .val (.int (0 : Int32)), .val (.int (0 : Int32)), .val (.int (1 : Int32)), .val (.int (0 : Int32)), .val (.int (0 : Int32))] [(.int (0 : Int32)), (.int (0 : Int32))]))
          refine own_step (fun _ κ => XS.icmpNo X19.here hx rfl (hb hby at_98) rfl (teq rfl).2 κ) ?_
          show own_Go _ _ _ _ (T19.setTop (mkF m 101 #[.val (.int pa), .val (.int pb), .val (.int fg), .val (.int (pa &&& (2147483647 : Int32))), .val (.int ((pb &&& (2147483647 : Int32)) % (pa &&& (2147483647 : Int32)))), .val (.int (0 : Int32)), .val (.int (0 : Int32)), .val (.int (1 : Int32)), .val (.int (0 : Int32)), .val (.int (0 : Int32))] []))
          refine own_step (fun _ κ => XS.iload X19.here hx rfl (hb hby at_101) rfl κ) ?_
          show own_Go _ _ _ _ (T19.setTop (mkF m 103 #[.val (.int pa), .val (.int pb), .val (.int fg), .val (.int (pa &&& (2147483647 : Int32))), .val (.int ((pb &&& (2147483647 : Int32)) % (pa &&& (2147483647 : Int32)))), .val (.int (0 : Int32)), .val (.int (0 : Int32)), .val (.int (1 : Int32)), .val (.int (0 : Int32)), .val (.int (0 : Int32))] [(.int (0 : Int32))]))
          refine own_step (fun _ κ => XS.iload X19.here hx rfl (hb hby at_103) rfl κ) ?_
          show own_Go _ _ _ _ (T19.setTop (mkF m 105 #[.val (.int pa), .val (.int pb), .val (.int fg), .val (.int (pa &&& (2147483647 : Int32))), .val (.int ((pb &&& (2147483647 : Int32)) % (pa &&& (2147483647 : Int32)))), .val (.int (0 : Int32)), .val (.int (0 : Int32)), .val (.int (1 : Int32)), .val (.int (0 : Int32)), .val (.int (0 : Int32))] [(.int (0 : Int32)), (.int (0 : Int32))]))
          refine own_step (fun _ κ => XS.icmpNo X19.here hx rfl (hb hby at_105) rfl (teq rfl).2 κ) ?_
          show own_Go _ _ _ _ (T19.setTop (mkF m 108 #[.val (.int pa), .val (.int pb), .val (.int fg), .val (.int (pa &&& (2147483647 : Int32))), .val (.int ((pb &&& (2147483647 : Int32)) % (pa &&& (2147483647 : Int32)))), .val (.int (0 : Int32)), .val (.int (0 : Int32)), .val (.int (1 : Int32)), .val (.int (0 : Int32)), .val (.int (0 : Int32))] []))
          refine own_step (fun _ κ => XS.iconst X19.here hx rfl (hb hby at_108) κ) ?_
          show own_Go _ _ _ _ (T19.setTop (mkF m 109 #[.val (.int pa), .val (.int pb), .val (.int fg), .val (.int (pa &&& (2147483647 : Int32))), .val (.int ((pb &&& (2147483647 : Int32)) % (pa &&& (2147483647 : Int32)))), .val (.int (0 : Int32)), .val (.int (0 : Int32)), .val (.int (1 : Int32)), .val (.int (0 : Int32)), .val (.int (0 : Int32))] [(.int (1 : Int32))]))
          refine own_step (fun _ κ => XS.goto X19.here hx rfl (pc0 := 109) (pc' := 113) rfl (hb hby at_109) (by decide) (by decide) κ) ?_
          show own_Go _ _ _ _ (T19.setTop (mkF m 113 #[.val (.int pa), .val (.int pb), .val (.int fg), .val (.int (pa &&& (2147483647 : Int32))), .val (.int ((pb &&& (2147483647 : Int32)) % (pa &&& (2147483647 : Int32)))), .val (.int (0 : Int32)), .val (.int (0 : Int32)), .val (.int (1 : Int32)), .val (.int (0 : Int32)), .val (.int (0 : Int32))] [(.int (1 : Int32))]))
          obtain ⟨fs, hr, hrun, hended, hW, hsame⟩ := X19.leave (v := some (.int (1 : Int32))) (fun h => by rw [Bd.returns] at h; cases h)
          refine ⟨_, _, retN X19 hx (t := .boolean) Bd.returns (by simp) (hb hby at_113) hr, hrun, hended, _, _, rfl, ?_, ⟨_, rfl⟩, hW, hsame.mono (by decide) (by decide)⟩
          show Q0 Z pa pb fg s_AND s_OR h0 n0 _ T19.heap _
          exact ⟨rfl, N19⟩
  · refine own_step (fun _ κ => XS.ifNo X0.here hx rfl (hb hby at_8) rfl ((if0 _ _).trans (feq hc1).1) κ) ?_
    show own_Go _ _ _ _ (s₁.setTop (mkF m 11 #[.val (.int pa), .val (.int pb), .val (.int fg), .val (.int (pa &&& (2147483647 : Int32))), .unset, .unset, .unset, .unset, .unset, .unset] []))
    refine own_step (fun _ κ => XS.iloadN X0.here hx rfl (hb hby at_11) rfl κ) ?_
    show own_Go _ _ _ _ (s₁.setTop (mkF m 12 #[.val (.int pa), .val (.int pb), .val (.int fg), .val (.int (pa &&& (2147483647 : Int32))), .unset, .unset, .unset, .unset, .unset, .unset] [(.int (pa &&& (2147483647 : Int32)))]))
    refine own_step (fun _ κ => XS.istore X0.here hx rfl (hb hby at_12) rfl (l' := #[.val (.int pa), .val (.int pb), .val (.int fg), .val (.int (pa &&& (2147483647 : Int32))), .val (.int (pa &&& (2147483647 : Int32))), .unset, .unset, .unset, .unset, .unset]) rfl κ) ?_
    show own_Go _ _ _ _ (s₁.setTop (mkF m 14 #[.val (.int pa), .val (.int pb), .val (.int fg), .val (.int (pa &&& (2147483647 : Int32))), .val (.int (pa &&& (2147483647 : Int32))), .unset, .unset, .unset, .unset, .unset] []))
    refine own_step (fun _ κ => XS.goto X0.here hx rfl (pc0 := 14) (pc' := 33) rfl (hb hby at_14) (by decide) (by decide) κ) ?_
    show own_Go _ _ _ _ (s₁.setTop (mkF m 33 #[.val (.int pa), .val (.int pb), .val (.int fg), .val (.int (pa &&& (2147483647 : Int32))), .val (.int (pa &&& (2147483647 : Int32))), .unset, .unset, .unset, .unset, .unset] []))
    obtain ⟨T21, X21, e21, st21⟩ := getS2 X0 hx hZ hown (host := "") (Or.inl (hw _ (List.mem_of_getElem? (i := 1) rfl))) Via.refl e0 (P1.ext P0.2) (g := (mkF m 33 #[.val (.int pa), .val (.int pb), .val (.int fg), .val (.int (pa &&& (2147483647 : Int32))), .val (.int (pa &&& (2147483647 : Int32))), .unset, .unset, .unset, .unset, .unset] [])) rfl (hb hby at_33)
    refine own_step st21 ?_
    show own_Go _ _ _ _ (T21.setTop (mkF m 36 #[.val (.int pa), .val (.int pb), .val (.int fg), .val (.int (pa &&& (2147483647 : Int32))), .val (.int (pa &&& (2147483647 : Int32))), .unset, .unset, .unset, .unset, .unset] [(.ref s_AND)]))
    refine own_step (fun _ κ => XS.iload X21.here hx rfl (hb hby at_36) rfl κ) ?_
    show own_Go _ _ _ _ (T21.setTop (mkF m 38 #[.val (.int pa), .val (.int pb), .val (.int fg), .val (.int (pa &&& (2147483647 : Int32))), .val (.int (pa &&& (2147483647 : Int32))), .unset, .unset, .unset, .unset, .unset] [(.int (pa &&& (2147483647 : Int32))), (.ref s_AND)]))
    refine own_step (fun _ κ => XS.iloadN X21.here hx rfl (hb hby at_38) rfl κ) ?_
    show own_Go _ _ _ _ (T21.setTop (mkF m 39 #[.val (.int pa), .val (.int pb), .val (.int fg), .val (.int (pa &&& (2147483647 : Int32))), .val (.int (pa &&& (2147483647 : Int32))), .unset, .unset, .unset, .unset, .unset] [(.int (pa &&& (2147483647 : Int32))), (.int (pa &&& (2147483647 : Int32))), (.ref s_AND)]))
    obtain ⟨cq22, kq22, q22a, q22b, q22c⟩ := isOf hZ e21 (P2.ext P0.2)
    obtain ⟨vr22, _, ⟨T22, L22, k22, n22⟩, -, X22, ⟨Lc22, hQ22, l22, y22, z22⟩, st22⟩ := X21.virtualBack hx (y := (⟨"com/example/lens_on_archives/lensonarchives/Semantics", "matches", "(II)Z"⟩ : MethodName)) (z := (⟨"com/example/lens_on_archives/lensonarchives/Semantics", "matches", "(II)Z"⟩ : MethodName)) hown (mvT hZ (hw _ (List.mem_of_getElem? (i := 4) rfl))) (mvT hZ (hw _ (List.mem_of_getElem? (i := 5) rfl))) (notFace_of_selects (args := #[]) (mvT hZ (hw _ (List.mem_of_getElem? (i := 7) rfl)))) (mvT hZ (hw _ (List.mem_of_getElem? (i := 7) rfl))) (mvT hZ (hw _ (List.mem_of_getElem? (i := 6) rfl))) (by decide) (backOf (W := 0) (rm2 l Z a0 hw [] s_AND (pa &&& (2147483647 : Int32)) (pa &&& (2147483647 : Int32))  h0 n0 Z0 (P2.ext P0.2) (P5.ext P0.2)) hZ (hw _ (List.mem_of_getElem? (i := 8) rfl)) (hw _ (List.mem_of_getElem? (i := 2) rfl)) (by decide) (by decide)) q22a q22c (g := (mkF m 39 #[.val (.int pa), .val (.int pb), .val (.int fg), .val (.int (pa &&& (2147483647 : Int32))), .val (.int (pa &&& (2147483647 : Int32))), .unset, .unset, .unset, .unset, .unset] [(.int (pa &&& (2147483647 : Int32))), (.int (pa &&& (2147483647 : Int32))), (.ref s_AND)])) rfl (by rw [hml]; rfl) (Steps.refl _) (argsL := [(.int (pa &&& (2147483647 : Int32))), (.int (pa &&& (2147483647 : Int32)))]) (rest := []) (lenOf pd_1 rfl) rfl (by show 2 * 0 + _ ≤ _; exact Nat.le_of_eq rfl) (hb hby at_39) (fun _ _ => ⟨rfl, e21, (by decide : 0 + 0 ≤ _), (by decide : 0 + 0 ≤ _)⟩)
    dsimp only [Pt.U, Pt.locs, Pt.cells, Pt.slots] at X22 l22 y22 z22 st22 hQ22
    subst l22 y22 z22
    obtain ⟨hv22, Nq22, eq22⟩ := hQ22
    have N22 := Fr.app N0 Nq22
    rw [if_pos rfl] at hv22
    subst hv22
    refine own_step (fun _ κ => st22.trans κ) ?_
    show own_Go _ _ _ _ (T22.setTop (mkF m 42 #[.val (.int pa), .val (.int pb), .val (.int fg), .val (.int (pa &&& (2147483647 : Int32))), .val (.int (pa &&& (2147483647 : Int32))), .unset, .unset, .unset, .unset, .unset] [(.int (1 : Int32))]))
    refine own_step (fun _ κ => XS.istore X22.here hx rfl (hb hby at_42) rfl (l' := #[.val (.int pa), .val (.int pb), .val (.int fg), .val (.int (pa &&& (2147483647 : Int32))), .val (.int (pa &&& (2147483647 : Int32))), .val (.int (1 : Int32)), .unset, .unset, .unset, .unset]) rfl κ) ?_
    show own_Go _ _ _ _ (T22.setTop (mkF m 44 #[.val (.int pa), .val (.int pb), .val (.int fg), .val (.int (pa &&& (2147483647 : Int32))), .val (.int (pa &&& (2147483647 : Int32))), .val (.int (1 : Int32)), .unset, .unset, .unset, .unset] []))
    obtain ⟨T23, X23, e23, st23⟩ := getS2 X22 hx hZ hown (host := "") (Or.inl (hw _ (List.mem_of_getElem? (i := 18) rfl))) Via.refl eq22 (P3.ext P0.2) (g := (mkF m 44 #[.val (.int pa), .val (.int pb), .val (.int fg), .val (.int (pa &&& (2147483647 : Int32))), .val (.int (pa &&& (2147483647 : Int32))), .val (.int (1 : Int32)), .unset, .unset, .unset, .unset] [])) rfl (hb hby at_44)
    refine own_step st23 ?_
    show own_Go _ _ _ _ (T23.setTop (mkF m 47 #[.val (.int pa), .val (.int pb), .val (.int fg), .val (.int (pa &&& (2147483647 : Int32))), .val (.int (pa &&& (2147483647 : Int32))), .val (.int (1 : Int32)), .unset, .unset, .unset, .unset] [(.ref s_OR)]))
    refine own_step (fun _ κ => XS.iload X23.here hx rfl (hb hby at_47) rfl κ) ?_
    show own_Go _ _ _ _ (T23.setTop (mkF m 49 #[.val (.int pa), .val (.int pb), .val (.int fg), .val (.int (pa &&& (2147483647 : Int32))), .val (.int (pa &&& (2147483647 : Int32))), .val (.int (1 : Int32)), .unset, .unset, .unset, .unset] [(.int (pa &&& (2147483647 : Int32))), (.ref s_OR)]))
    refine own_step (fun _ κ => XS.iloadN X23.here hx rfl (hb hby at_49) rfl κ) ?_
    show own_Go _ _ _ _ (T23.setTop (mkF m 50 #[.val (.int pa), .val (.int pb), .val (.int fg), .val (.int (pa &&& (2147483647 : Int32))), .val (.int (pa &&& (2147483647 : Int32))), .val (.int (1 : Int32)), .unset, .unset, .unset, .unset] [(.int (pa &&& (2147483647 : Int32))), (.int (pa &&& (2147483647 : Int32))), (.ref s_OR)]))
    obtain ⟨cq24, kq24, q24a, q24b, q24c⟩ := isOf hZ e23 (P4.ext P0.2)
    obtain ⟨vr24, _, ⟨T24, L24, k24, n24⟩, -, X24, ⟨Lc24, hQ24, l24, y24, z24⟩, st24⟩ := X23.virtualBack hx (y := (⟨"com/example/lens_on_archives/lensonarchives/Semantics", "matches", "(II)Z"⟩ : MethodName)) (z := (⟨"com/example/lens_on_archives/lensonarchives/Semantics", "matches", "(II)Z"⟩ : MethodName)) hown (mvT hZ (hw _ (List.mem_of_getElem? (i := 4) rfl))) (mvT hZ (hw _ (List.mem_of_getElem? (i := 5) rfl))) (notFace_of_selects (args := #[]) (mvT hZ (hw _ (List.mem_of_getElem? (i := 7) rfl)))) (mvT hZ (hw _ (List.mem_of_getElem? (i := 7) rfl))) (mvT hZ (hw _ (List.mem_of_getElem? (i := 6) rfl))) (by decide) (backOf (W := 0) (rm3 l Z a0 hw [] s_OR (pa &&& (2147483647 : Int32)) (pa &&& (2147483647 : Int32))  h0 n0 Z0 (P4.ext P0.2) (P6.ext P0.2)) hZ (hw _ (List.mem_of_getElem? (i := 8) rfl)) (hw _ (List.mem_of_getElem? (i := 2) rfl)) (by decide) (by decide)) q24a q24c (g := (mkF m 50 #[.val (.int pa), .val (.int pb), .val (.int fg), .val (.int (pa &&& (2147483647 : Int32))), .val (.int (pa &&& (2147483647 : Int32))), .val (.int (1 : Int32)), .unset, .unset, .unset, .unset] [(.int (pa &&& (2147483647 : Int32))), (.int (pa &&& (2147483647 : Int32))), (.ref s_OR)])) rfl (by rw [hml]; rfl) (Steps.refl _) (argsL := [(.int (pa &&& (2147483647 : Int32))), (.int (pa &&& (2147483647 : Int32)))]) (rest := []) (lenOf pd_1 rfl) rfl (by show 2 * 0 + _ ≤ _; exact Nat.le_of_eq rfl) (hb hby at_50) (fun _ _ => ⟨rfl, e23, (by decide : 0 + 0 ≤ _), (by decide : 0 + 0 ≤ _)⟩)
    dsimp only [Pt.U, Pt.locs, Pt.cells, Pt.slots] at X24 l24 y24 z24 st24 hQ24
    subst l24 y24 z24
    obtain ⟨hv24, Nq24, eq24⟩ := hQ24
    have N24 := Fr.app N22 Nq24
    by_cases hc25 : (0 : Int32) < (pa &&& (2147483647 : Int32))
    · rw [if_pos hc25] at hv24
      subst hv24
      refine own_step (fun _ κ => st24.trans κ) ?_
      show own_Go _ _ _ _ (T24.setTop (mkF m 53 #[.val (.int pa), .val (.int pb), .val (.int fg), .val (.int (pa &&& (2147483647 : Int32))), .val (.int (pa &&& (2147483647 : Int32))), .val (.int (1 : Int32)), .unset, .unset, .unset, .unset] [(.int (1 : Int32))]))
      refine own_step (fun _ κ => XS.istore X24.here hx rfl (hb hby at_53) rfl (l' := #[.val (.int pa), .val (.int pb), .val (.int fg), .val (.int (pa &&& (2147483647 : Int32))), .val (.int (pa &&& (2147483647 : Int32))), .val (.int (1 : Int32)), .val (.int (1 : Int32)), .unset, .unset, .unset]) rfl κ) ?_
      show own_Go _ _ _ _ (T24.setTop (mkF m 55 #[.val (.int pa), .val (.int pb), .val (.int fg), .val (.int (pa &&& (2147483647 : Int32))), .val (.int (pa &&& (2147483647 : Int32))), .val (.int (1 : Int32)), .val (.int (1 : Int32)), .unset, .unset, .unset] []))
      refine own_step (fun _ κ => XS.iloadN X24.here hx rfl (hb hby at_55) rfl κ) ?_
      show own_Go _ _ _ _ (T24.setTop (mkF m 56 #[.val (.int pa), .val (.int pb), .val (.int fg), .val (.int (pa &&& (2147483647 : Int32))), .val (.int (pa &&& (2147483647 : Int32))), .val (.int (1 : Int32)), .val (.int (1 : Int32)), .unset, .unset, .unset] [(.int (pa &&& (2147483647 : Int32)))]))
      refine own_step (fun _ κ => XS.iload X24.here hx rfl (hb hby at_56) rfl κ) ?_
      show own_Go _ _ _ _ (T24.setTop (mkF m 58 #[.val (.int pa), .val (.int pb), .val (.int fg), .val (.int (pa &&& (2147483647 : Int32))), .val (.int (pa &&& (2147483647 : Int32))), .val (.int (1 : Int32)), .val (.int (1 : Int32)), .unset, .unset, .unset] [(.int (pa &&& (2147483647 : Int32))), (.int (pa &&& (2147483647 : Int32)))]))
      refine own_step (fun _ κ => XS.isub X24.here hx rfl (hb hby at_58) rfl κ) ?_
      show own_Go _ _ _ _ (T24.setTop (mkF m 59 #[.val (.int pa), .val (.int pb), .val (.int fg), .val (.int (pa &&& (2147483647 : Int32))), .val (.int (pa &&& (2147483647 : Int32))), .val (.int (1 : Int32)), .val (.int (1 : Int32)), .unset, .unset, .unset] [(.int ((pa &&& (2147483647 : Int32)) - (pa &&& (2147483647 : Int32))))]))
      refine own_step (fun _ κ => XS.ifYes X24.here hx rfl (pc0 := 59) (pc' := 66) rfl (hb hby at_59) rfl ((if0 _ _).trans (teq (own_sub0 rfl)).1) (by decide) (by decide) κ) ?_
      show own_Go _ _ _ _ (T24.setTop (mkF m 66 #[.val (.int pa), .val (.int pb), .val (.int fg), .val (.int (pa &&& (2147483647 : Int32))), .val (.int (pa &&& (2147483647 : Int32))), .val (.int (1 : Int32)), .val (.int (1 : Int32)), .unset, .unset, .unset] []))
      refine own_step (fun _ κ => XS.iconst X24.here hx rfl (hb hby at_66) κ) ?_
      show own_Go _ _ _ _ (T24.setTop (mkF m 67 #[.val (.int pa), .val (.int pb), .val (.int fg), .val (.int (pa &&& (2147483647 : Int32))), .val (.int (pa &&& (2147483647 : Int32))), .val (.int (1 : Int32)), .val (.int (1 : Int32)), .unset, .unset, .unset] [(.int (0 : Int32))]))
      refine own_step (fun _ κ => XS.istore X24.here hx rfl (hb hby at_67) rfl (l' := #[.val (.int pa), .val (.int pb), .val (.int fg), .val (.int (pa &&& (2147483647 : Int32))), .val (.int (pa &&& (2147483647 : Int32))), .val (.int (1 : Int32)), .val (.int (1 : Int32)), .val (.int (0 : Int32)), .unset, .unset]) rfl κ) ?_
      show own_Go _ _ _ _ (T24.setTop (mkF m 69 #[.val (.int pa), .val (.int pb), .val (.int fg), .val (.int (pa &&& (2147483647 : Int32))), .val (.int (pa &&& (2147483647 : Int32))), .val (.int (1 : Int32)), .val (.int (1 : Int32)), .val (.int (0 : Int32)), .unset, .unset] []))
      refine own_step (fun _ κ => XS.iload X24.here hx rfl (hb hby at_69) rfl κ) ?_
      show own_Go _ _ _ _ (T24.setTop (mkF m 71 #[.val (.int pa), .val (.int pb), .val (.int fg), .val (.int (pa &&& (2147483647 : Int32))), .val (.int (pa &&& (2147483647 : Int32))), .val (.int (1 : Int32)), .val (.int (1 : Int32)), .val (.int (0 : Int32)), .unset, .unset] [(.int (0 : Int32))]))
      refine own_step (fun _ κ => XS.ifNo X24.here hx rfl (hb hby at_71) rfl ((if0 _ _).trans (teq rfl).2) κ) ?_
      show own_Go _ _ _ _ (T24.setTop (mkF m 74 #[.val (.int pa), .val (.int pb), .val (.int fg), .val (.int (pa &&& (2147483647 : Int32))), .val (.int (pa &&& (2147483647 : Int32))), .val (.int (1 : Int32)), .val (.int (1 : Int32)), .val (.int (0 : Int32)), .unset, .unset] []))
      refine own_step (fun _ κ => XS.iconst X24.here hx rfl (hb hby at_74) κ) ?_
      show own_Go _ _ _ _ (T24.setTop (mkF m 75 #[.val (.int pa), .val (.int pb), .val (.int fg), .val (.int (pa &&& (2147483647 : Int32))), .val (.int (pa &&& (2147483647 : Int32))), .val (.int (1 : Int32)), .val (.int (1 : Int32)), .val (.int (0 : Int32)), .unset, .unset] [(.int (1 : Int32))]))
      refine own_step (fun _ κ => XS.goto X24.here hx rfl (pc0 := 75) (pc' := 79) rfl (hb hby at_75) (by decide) (by decide) κ) ?_
      show own_Go _ _ _ _ (T24.setTop (mkF m 79 #[.val (.int pa), .val (.int pb), .val (.int fg), .val (.int (pa &&& (2147483647 : Int32))), .val (.int (pa &&& (2147483647 : Int32))), .val (.int (1 : Int32)), .val (.int (1 : Int32)), .val (.int (0 : Int32)), .unset, .unset] [(.int (1 : Int32))]))
      refine own_step (fun _ κ => XS.istore X24.here hx rfl (hb hby at_79) rfl (l' := #[.val (.int pa), .val (.int pb), .val (.int fg), .val (.int (pa &&& (2147483647 : Int32))), .val (.int (pa &&& (2147483647 : Int32))), .val (.int (1 : Int32)), .val (.int (1 : Int32)), .val (.int (0 : Int32)), .val (.int (1 : Int32)), .unset]) rfl κ) ?_
      show own_Go _ _ _ _ (T24.setTop (mkF m 81 #[.val (.int pa), .val (.int pb), .val (.int fg), .val (.int (pa &&& (2147483647 : Int32))), .val (.int (pa &&& (2147483647 : Int32))), .val (.int (1 : Int32)), .val (.int (1 : Int32)), .val (.int (0 : Int32)), .val (.int (1 : Int32)), .unset] []))
      refine own_step (fun _ κ => XS.iload X24.here hx rfl (hb hby at_81) rfl κ) ?_
      show own_Go _ _ _ _ (T24.setTop (mkF m 83 #[.val (.int pa), .val (.int pb), .val (.int fg), .val (.int (pa &&& (2147483647 : Int32))), .val (.int (pa &&& (2147483647 : Int32))), .val (.int (1 : Int32)), .val (.int (1 : Int32)), .val (.int (0 : Int32)), .val (.int (1 : Int32)), .unset] [(.int (pa &&& (2147483647 : Int32)))]))
      refine own_step (fun _ κ => XS.iconst X24.here hx rfl (hb hby at_83) κ) ?_
      show own_Go _ _ _ _ (T24.setTop (mkF m 84 #[.val (.int pa), .val (.int pb), .val (.int fg), .val (.int (pa &&& (2147483647 : Int32))), .val (.int (pa &&& (2147483647 : Int32))), .val (.int (1 : Int32)), .val (.int (1 : Int32)), .val (.int (0 : Int32)), .val (.int (1 : Int32)), .unset] [(.int (1 : Int32)), (.int (pa &&& (2147483647 : Int32)))]))
      refine own_step (fun _ κ => XS.icmpNo X24.here hx rfl (hb hby at_84) rfl (flt (own_pos hc25)).1 κ) ?_
      show own_Go _ _ _ _ (T24.setTop (mkF m 87 #[.val (.int pa), .val (.int pb), .val (.int fg), .val (.int (pa &&& (2147483647 : Int32))), .val (.int (pa &&& (2147483647 : Int32))), .val (.int (1 : Int32)), .val (.int (1 : Int32)), .val (.int (0 : Int32)), .val (.int (1 : Int32)), .unset] []))
      refine own_step (fun _ κ => XS.iconst X24.here hx rfl (hb hby at_87) κ) ?_
      show own_Go _ _ _ _ (T24.setTop (mkF m 88 #[.val (.int pa), .val (.int pb), .val (.int fg), .val (.int (pa &&& (2147483647 : Int32))), .val (.int (pa &&& (2147483647 : Int32))), .val (.int (1 : Int32)), .val (.int (1 : Int32)), .val (.int (0 : Int32)), .val (.int (1 : Int32)), .unset] [(.int (1 : Int32))]))
      refine own_step (fun _ κ => XS.goto X24.here hx rfl (pc0 := 88) (pc' := 92) rfl (hb hby at_88) (by decide) (by decide) κ) ?_
      show own_Go _ _ _ _ (T24.setTop (mkF m 92 #[.val (.int pa), .val (.int pb), .val (.int fg), .val (.int (pa &&& (2147483647 : Int32))), .val (.int (pa &&& (2147483647 : Int32))), .val (.int (1 : Int32)), .val (.int (1 : Int32)), .val (.int (0 : Int32)), .val (.int (1 : Int32)), .unset] [(.int (1 : Int32))]))
      refine own_step (fun _ κ => XS.istore X24.here hx rfl (hb hby at_92) rfl (l' := #[.val (.int pa), .val (.int pb), .val (.int fg), .val (.int (pa &&& (2147483647 : Int32))), .val (.int (pa &&& (2147483647 : Int32))), .val (.int (1 : Int32)), .val (.int (1 : Int32)), .val (.int (0 : Int32)), .val (.int (1 : Int32)), .val (.int (1 : Int32))]) rfl κ) ?_
      show own_Go _ _ _ _ (T24.setTop (mkF m 94 #[.val (.int pa), .val (.int pb), .val (.int fg), .val (.int (pa &&& (2147483647 : Int32))), .val (.int (pa &&& (2147483647 : Int32))), .val (.int (1 : Int32)), .val (.int (1 : Int32)), .val (.int (0 : Int32)), .val (.int (1 : Int32)), .val (.int (1 : Int32))] []))
      refine own_step (fun _ κ => XS.iload X24.here hx rfl (hb hby at_94) rfl κ) ?_
      show own_Go _ _ _ _ (T24.setTop (mkF m 96 #[.val (.int pa), .val (.int pb), .val (.int fg), .val (.int (pa &&& (2147483647 : Int32))), .val (.int (pa &&& (2147483647 : Int32))), .val (.int (1 : Int32)), .val (.int (1 : Int32)), .val (.int (0 : Int32)), .val (.int (1 : Int32)), .val (.int (1 : Int32))] [(.int (1 : Int32))]))
      refine own_step (fun _ κ => XS.iload X24.here hx rfl (hb hby at_96) rfl κ) ?_
      show own_Go _ _ _ _ (T24.setTop (mkF m 98 #[.val (.int pa), .val (.int pb), .val (.int fg), .val (.int (pa &&& (2147483647 : Int32))), .val (.int (pa &&& (2147483647 : Int32))), .val (.int (1 : Int32)), .val (.int (1 : Int32)), .val (.int (0 : Int32)), .val (.int (1 : Int32)), .val (.int (1 : Int32))] [(.int (1 : Int32)), (.int (1 : Int32))]))
      refine own_step (fun _ κ => XS.icmpNo X24.here hx rfl (hb hby at_98) rfl (teq rfl).2 κ) ?_
      show own_Go _ _ _ _ (T24.setTop (mkF m 101 #[.val (.int pa), .val (.int pb), .val (.int fg), .val (.int (pa &&& (2147483647 : Int32))), .val (.int (pa &&& (2147483647 : Int32))), .val (.int (1 : Int32)), .val (.int (1 : Int32)), .val (.int (0 : Int32)), .val (.int (1 : Int32)), .val (.int (1 : Int32))] []))
      refine own_step (fun _ κ => XS.iload X24.here hx rfl (hb hby at_101) rfl κ) ?_
      show own_Go _ _ _ _ (T24.setTop (mkF m 103 #[.val (.int pa), .val (.int pb), .val (.int fg), .val (.int (pa &&& (2147483647 : Int32))), .val (.int (pa &&& (2147483647 : Int32))), .val (.int (1 : Int32)), .val (.int (1 : Int32)), .val (.int (0 : Int32)), .val (.int (1 : Int32)), .val (.int (1 : Int32))] [(.int (1 : Int32))]))
      refine own_step (fun _ κ => XS.iload X24.here hx rfl (hb hby at_103) rfl κ) ?_
      show own_Go _ _ _ _ (T24.setTop (mkF m 105 #[.val (.int pa), .val (.int pb), .val (.int fg), .val (.int (pa &&& (2147483647 : Int32))), .val (.int (pa &&& (2147483647 : Int32))), .val (.int (1 : Int32)), .val (.int (1 : Int32)), .val (.int (0 : Int32)), .val (.int (1 : Int32)), .val (.int (1 : Int32))] [(.int (1 : Int32)), (.int (1 : Int32))]))
      refine own_step (fun _ κ => XS.icmpNo X24.here hx rfl (hb hby at_105) rfl (teq rfl).2 κ) ?_
      show own_Go _ _ _ _ (T24.setTop (mkF m 108 #[.val (.int pa), .val (.int pb), .val (.int fg), .val (.int (pa &&& (2147483647 : Int32))), .val (.int (pa &&& (2147483647 : Int32))), .val (.int (1 : Int32)), .val (.int (1 : Int32)), .val (.int (0 : Int32)), .val (.int (1 : Int32)), .val (.int (1 : Int32))] []))
      refine own_step (fun _ κ => XS.iconst X24.here hx rfl (hb hby at_108) κ) ?_
      show own_Go _ _ _ _ (T24.setTop (mkF m 109 #[.val (.int pa), .val (.int pb), .val (.int fg), .val (.int (pa &&& (2147483647 : Int32))), .val (.int (pa &&& (2147483647 : Int32))), .val (.int (1 : Int32)), .val (.int (1 : Int32)), .val (.int (0 : Int32)), .val (.int (1 : Int32)), .val (.int (1 : Int32))] [(.int (1 : Int32))]))
      refine own_step (fun _ κ => XS.goto X24.here hx rfl (pc0 := 109) (pc' := 113) rfl (hb hby at_109) (by decide) (by decide) κ) ?_
      show own_Go _ _ _ _ (T24.setTop (mkF m 113 #[.val (.int pa), .val (.int pb), .val (.int fg), .val (.int (pa &&& (2147483647 : Int32))), .val (.int (pa &&& (2147483647 : Int32))), .val (.int (1 : Int32)), .val (.int (1 : Int32)), .val (.int (0 : Int32)), .val (.int (1 : Int32)), .val (.int (1 : Int32))] [(.int (1 : Int32))]))
      obtain ⟨fs, hr, hrun, hended, hW, hsame⟩ := X24.leave (v := some (.int (1 : Int32))) (fun h => by rw [Bd.returns] at h; cases h)
      refine ⟨_, _, retN X24 hx (t := .boolean) Bd.returns (by simp) (hb hby at_113) hr, hrun, hended, _, _, rfl, ?_, ⟨_, rfl⟩, hW, hsame.mono (by decide) (by decide)⟩
      show Q0 Z pa pb fg s_AND s_OR h0 n0 _ T24.heap _
      exact ⟨rfl, N24⟩
    · rw [if_neg hc25] at hv24
      subst hv24
      refine own_step (fun _ κ => st24.trans κ) ?_
      show own_Go _ _ _ _ (T24.setTop (mkF m 53 #[.val (.int pa), .val (.int pb), .val (.int fg), .val (.int (pa &&& (2147483647 : Int32))), .val (.int (pa &&& (2147483647 : Int32))), .val (.int (1 : Int32)), .unset, .unset, .unset, .unset] [(.int (0 : Int32))]))
      refine own_step (fun _ κ => XS.istore X24.here hx rfl (hb hby at_53) rfl (l' := #[.val (.int pa), .val (.int pb), .val (.int fg), .val (.int (pa &&& (2147483647 : Int32))), .val (.int (pa &&& (2147483647 : Int32))), .val (.int (1 : Int32)), .val (.int (0 : Int32)), .unset, .unset, .unset]) rfl κ) ?_
      show own_Go _ _ _ _ (T24.setTop (mkF m 55 #[.val (.int pa), .val (.int pb), .val (.int fg), .val (.int (pa &&& (2147483647 : Int32))), .val (.int (pa &&& (2147483647 : Int32))), .val (.int (1 : Int32)), .val (.int (0 : Int32)), .unset, .unset, .unset] []))
      refine own_step (fun _ κ => XS.iloadN X24.here hx rfl (hb hby at_55) rfl κ) ?_
      show own_Go _ _ _ _ (T24.setTop (mkF m 56 #[.val (.int pa), .val (.int pb), .val (.int fg), .val (.int (pa &&& (2147483647 : Int32))), .val (.int (pa &&& (2147483647 : Int32))), .val (.int (1 : Int32)), .val (.int (0 : Int32)), .unset, .unset, .unset] [(.int (pa &&& (2147483647 : Int32)))]))
      refine own_step (fun _ κ => XS.iload X24.here hx rfl (hb hby at_56) rfl κ) ?_
      show own_Go _ _ _ _ (T24.setTop (mkF m 58 #[.val (.int pa), .val (.int pb), .val (.int fg), .val (.int (pa &&& (2147483647 : Int32))), .val (.int (pa &&& (2147483647 : Int32))), .val (.int (1 : Int32)), .val (.int (0 : Int32)), .unset, .unset, .unset] [(.int (pa &&& (2147483647 : Int32))), (.int (pa &&& (2147483647 : Int32)))]))
      refine own_step (fun _ κ => XS.isub X24.here hx rfl (hb hby at_58) rfl κ) ?_
      show own_Go _ _ _ _ (T24.setTop (mkF m 59 #[.val (.int pa), .val (.int pb), .val (.int fg), .val (.int (pa &&& (2147483647 : Int32))), .val (.int (pa &&& (2147483647 : Int32))), .val (.int (1 : Int32)), .val (.int (0 : Int32)), .unset, .unset, .unset] [(.int ((pa &&& (2147483647 : Int32)) - (pa &&& (2147483647 : Int32))))]))
      refine own_step (fun _ κ => XS.ifYes X24.here hx rfl (pc0 := 59) (pc' := 66) rfl (hb hby at_59) rfl ((if0 _ _).trans (teq (own_sub0 rfl)).1) (by decide) (by decide) κ) ?_
      show own_Go _ _ _ _ (T24.setTop (mkF m 66 #[.val (.int pa), .val (.int pb), .val (.int fg), .val (.int (pa &&& (2147483647 : Int32))), .val (.int (pa &&& (2147483647 : Int32))), .val (.int (1 : Int32)), .val (.int (0 : Int32)), .unset, .unset, .unset] []))
      refine own_step (fun _ κ => XS.iconst X24.here hx rfl (hb hby at_66) κ) ?_
      show own_Go _ _ _ _ (T24.setTop (mkF m 67 #[.val (.int pa), .val (.int pb), .val (.int fg), .val (.int (pa &&& (2147483647 : Int32))), .val (.int (pa &&& (2147483647 : Int32))), .val (.int (1 : Int32)), .val (.int (0 : Int32)), .unset, .unset, .unset] [(.int (0 : Int32))]))
      refine own_step (fun _ κ => XS.istore X24.here hx rfl (hb hby at_67) rfl (l' := #[.val (.int pa), .val (.int pb), .val (.int fg), .val (.int (pa &&& (2147483647 : Int32))), .val (.int (pa &&& (2147483647 : Int32))), .val (.int (1 : Int32)), .val (.int (0 : Int32)), .val (.int (0 : Int32)), .unset, .unset]) rfl κ) ?_
      show own_Go _ _ _ _ (T24.setTop (mkF m 69 #[.val (.int pa), .val (.int pb), .val (.int fg), .val (.int (pa &&& (2147483647 : Int32))), .val (.int (pa &&& (2147483647 : Int32))), .val (.int (1 : Int32)), .val (.int (0 : Int32)), .val (.int (0 : Int32)), .unset, .unset] []))
      refine own_step (fun _ κ => XS.iload X24.here hx rfl (hb hby at_69) rfl κ) ?_
      show own_Go _ _ _ _ (T24.setTop (mkF m 71 #[.val (.int pa), .val (.int pb), .val (.int fg), .val (.int (pa &&& (2147483647 : Int32))), .val (.int (pa &&& (2147483647 : Int32))), .val (.int (1 : Int32)), .val (.int (0 : Int32)), .val (.int (0 : Int32)), .unset, .unset] [(.int (0 : Int32))]))
      refine own_step (fun _ κ => XS.ifNo X24.here hx rfl (hb hby at_71) rfl ((if0 _ _).trans (teq rfl).2) κ) ?_
      show own_Go _ _ _ _ (T24.setTop (mkF m 74 #[.val (.int pa), .val (.int pb), .val (.int fg), .val (.int (pa &&& (2147483647 : Int32))), .val (.int (pa &&& (2147483647 : Int32))), .val (.int (1 : Int32)), .val (.int (0 : Int32)), .val (.int (0 : Int32)), .unset, .unset] []))
      refine own_step (fun _ κ => XS.iconst X24.here hx rfl (hb hby at_74) κ) ?_
      show own_Go _ _ _ _ (T24.setTop (mkF m 75 #[.val (.int pa), .val (.int pb), .val (.int fg), .val (.int (pa &&& (2147483647 : Int32))), .val (.int (pa &&& (2147483647 : Int32))), .val (.int (1 : Int32)), .val (.int (0 : Int32)), .val (.int (0 : Int32)), .unset, .unset] [(.int (1 : Int32))]))
      refine own_step (fun _ κ => XS.goto X24.here hx rfl (pc0 := 75) (pc' := 79) rfl (hb hby at_75) (by decide) (by decide) κ) ?_
      show own_Go _ _ _ _ (T24.setTop (mkF m 79 #[.val (.int pa), .val (.int pb), .val (.int fg), .val (.int (pa &&& (2147483647 : Int32))), .val (.int (pa &&& (2147483647 : Int32))), .val (.int (1 : Int32)), .val (.int (0 : Int32)), .val (.int (0 : Int32)), .unset, .unset] [(.int (1 : Int32))]))
      refine own_step (fun _ κ => XS.istore X24.here hx rfl (hb hby at_79) rfl (l' := #[.val (.int pa), .val (.int pb), .val (.int fg), .val (.int (pa &&& (2147483647 : Int32))), .val (.int (pa &&& (2147483647 : Int32))), .val (.int (1 : Int32)), .val (.int (0 : Int32)), .val (.int (0 : Int32)), .val (.int (1 : Int32)), .unset]) rfl κ) ?_
      show own_Go _ _ _ _ (T24.setTop (mkF m 81 #[.val (.int pa), .val (.int pb), .val (.int fg), .val (.int (pa &&& (2147483647 : Int32))), .val (.int (pa &&& (2147483647 : Int32))), .val (.int (1 : Int32)), .val (.int (0 : Int32)), .val (.int (0 : Int32)), .val (.int (1 : Int32)), .unset] []))
      refine own_step (fun _ κ => XS.iload X24.here hx rfl (hb hby at_81) rfl κ) ?_
      show own_Go _ _ _ _ (T24.setTop (mkF m 83 #[.val (.int pa), .val (.int pb), .val (.int fg), .val (.int (pa &&& (2147483647 : Int32))), .val (.int (pa &&& (2147483647 : Int32))), .val (.int (1 : Int32)), .val (.int (0 : Int32)), .val (.int (0 : Int32)), .val (.int (1 : Int32)), .unset] [(.int (pa &&& (2147483647 : Int32)))]))
      refine own_step (fun _ κ => XS.iconst X24.here hx rfl (hb hby at_83) κ) ?_
      show own_Go _ _ _ _ (T24.setTop (mkF m 84 #[.val (.int pa), .val (.int pb), .val (.int fg), .val (.int (pa &&& (2147483647 : Int32))), .val (.int (pa &&& (2147483647 : Int32))), .val (.int (1 : Int32)), .val (.int (0 : Int32)), .val (.int (0 : Int32)), .val (.int (1 : Int32)), .unset] [(.int (1 : Int32)), (.int (pa &&& (2147483647 : Int32)))]))
      refine own_step (fun _ κ => XS.icmpYes X24.here hx rfl (pc0 := 84) (pc' := 91) rfl (hb hby at_84) rfl (tlt (own_npos hc25)).1 (by decide) (by decide) κ) ?_
      show own_Go _ _ _ _ (T24.setTop (mkF m 91 #[.val (.int pa), .val (.int pb), .val (.int fg), .val (.int (pa &&& (2147483647 : Int32))), .val (.int (pa &&& (2147483647 : Int32))), .val (.int (1 : Int32)), .val (.int (0 : Int32)), .val (.int (0 : Int32)), .val (.int (1 : Int32)), .unset] []))
      refine own_step (fun _ κ => XS.iconst X24.here hx rfl (hb hby at_91) κ) ?_
      show own_Go _ _ _ _ (T24.setTop (mkF m 92 #[.val (.int pa), .val (.int pb), .val (.int fg), .val (.int (pa &&& (2147483647 : Int32))), .val (.int (pa &&& (2147483647 : Int32))), .val (.int (1 : Int32)), .val (.int (0 : Int32)), .val (.int (0 : Int32)), .val (.int (1 : Int32)), .unset] [(.int (0 : Int32))]))
      refine own_step (fun _ κ => XS.istore X24.here hx rfl (hb hby at_92) rfl (l' := #[.val (.int pa), .val (.int pb), .val (.int fg), .val (.int (pa &&& (2147483647 : Int32))), .val (.int (pa &&& (2147483647 : Int32))), .val (.int (1 : Int32)), .val (.int (0 : Int32)), .val (.int (0 : Int32)), .val (.int (1 : Int32)), .val (.int (0 : Int32))]) rfl κ) ?_
      show own_Go _ _ _ _ (T24.setTop (mkF m 94 #[.val (.int pa), .val (.int pb), .val (.int fg), .val (.int (pa &&& (2147483647 : Int32))), .val (.int (pa &&& (2147483647 : Int32))), .val (.int (1 : Int32)), .val (.int (0 : Int32)), .val (.int (0 : Int32)), .val (.int (1 : Int32)), .val (.int (0 : Int32))] []))
      refine own_step (fun _ κ => XS.iload X24.here hx rfl (hb hby at_94) rfl κ) ?_
      show own_Go _ _ _ _ (T24.setTop (mkF m 96 #[.val (.int pa), .val (.int pb), .val (.int fg), .val (.int (pa &&& (2147483647 : Int32))), .val (.int (pa &&& (2147483647 : Int32))), .val (.int (1 : Int32)), .val (.int (0 : Int32)), .val (.int (0 : Int32)), .val (.int (1 : Int32)), .val (.int (0 : Int32))] [(.int (1 : Int32))]))
      refine own_step (fun _ κ => XS.iload X24.here hx rfl (hb hby at_96) rfl κ) ?_
      show own_Go _ _ _ _ (T24.setTop (mkF m 98 #[.val (.int pa), .val (.int pb), .val (.int fg), .val (.int (pa &&& (2147483647 : Int32))), .val (.int (pa &&& (2147483647 : Int32))), .val (.int (1 : Int32)), .val (.int (0 : Int32)), .val (.int (0 : Int32)), .val (.int (1 : Int32)), .val (.int (0 : Int32))] [(.int (1 : Int32)), (.int (1 : Int32))]))
      refine own_step (fun _ κ => XS.icmpNo X24.here hx rfl (hb hby at_98) rfl (teq rfl).2 κ) ?_
      show own_Go _ _ _ _ (T24.setTop (mkF m 101 #[.val (.int pa), .val (.int pb), .val (.int fg), .val (.int (pa &&& (2147483647 : Int32))), .val (.int (pa &&& (2147483647 : Int32))), .val (.int (1 : Int32)), .val (.int (0 : Int32)), .val (.int (0 : Int32)), .val (.int (1 : Int32)), .val (.int (0 : Int32))] []))
      refine own_step (fun _ κ => XS.iload X24.here hx rfl (hb hby at_101) rfl κ) ?_
      show own_Go _ _ _ _ (T24.setTop (mkF m 103 #[.val (.int pa), .val (.int pb), .val (.int fg), .val (.int (pa &&& (2147483647 : Int32))), .val (.int (pa &&& (2147483647 : Int32))), .val (.int (1 : Int32)), .val (.int (0 : Int32)), .val (.int (0 : Int32)), .val (.int (1 : Int32)), .val (.int (0 : Int32))] [(.int (0 : Int32))]))
      refine own_step (fun _ κ => XS.iload X24.here hx rfl (hb hby at_103) rfl κ) ?_
      show own_Go _ _ _ _ (T24.setTop (mkF m 105 #[.val (.int pa), .val (.int pb), .val (.int fg), .val (.int (pa &&& (2147483647 : Int32))), .val (.int (pa &&& (2147483647 : Int32))), .val (.int (1 : Int32)), .val (.int (0 : Int32)), .val (.int (0 : Int32)), .val (.int (1 : Int32)), .val (.int (0 : Int32))] [(.int (0 : Int32)), (.int (0 : Int32))]))
      refine own_step (fun _ κ => XS.icmpNo X24.here hx rfl (hb hby at_105) rfl (teq rfl).2 κ) ?_
      show own_Go _ _ _ _ (T24.setTop (mkF m 108 #[.val (.int pa), .val (.int pb), .val (.int fg), .val (.int (pa &&& (2147483647 : Int32))), .val (.int (pa &&& (2147483647 : Int32))), .val (.int (1 : Int32)), .val (.int (0 : Int32)), .val (.int (0 : Int32)), .val (.int (1 : Int32)), .val (.int (0 : Int32))] []))
      refine own_step (fun _ κ => XS.iconst X24.here hx rfl (hb hby at_108) κ) ?_
      show own_Go _ _ _ _ (T24.setTop (mkF m 109 #[.val (.int pa), .val (.int pb), .val (.int fg), .val (.int (pa &&& (2147483647 : Int32))), .val (.int (pa &&& (2147483647 : Int32))), .val (.int (1 : Int32)), .val (.int (0 : Int32)), .val (.int (0 : Int32)), .val (.int (1 : Int32)), .val (.int (0 : Int32))] [(.int (1 : Int32))]))
      refine own_step (fun _ κ => XS.goto X24.here hx rfl (pc0 := 109) (pc' := 113) rfl (hb hby at_109) (by decide) (by decide) κ) ?_
      show own_Go _ _ _ _ (T24.setTop (mkF m 113 #[.val (.int pa), .val (.int pb), .val (.int fg), .val (.int (pa &&& (2147483647 : Int32))), .val (.int (pa &&& (2147483647 : Int32))), .val (.int (1 : Int32)), .val (.int (0 : Int32)), .val (.int (0 : Int32)), .val (.int (1 : Int32)), .val (.int (0 : Int32))] [(.int (1 : Int32))]))
      obtain ⟨fs, hr, hrun, hended, hW, hsame⟩ := X24.leave (v := some (.int (1 : Int32))) (fun h => by rw [Bd.returns] at h; cases h)
      refine ⟨_, _, retN X24 hx (t := .boolean) Bd.returns (by simp) (hb hby at_113) hr, hrun, hended, _, _, rfl, ?_, ⟨_, rfl⟩, hW, hsame.mono (by decide) (by decide)⟩
      show Q0 Z pa pb fg s_AND s_OR h0 n0 _ T24.heap _
      exact ⟨rfl, N24⟩
set_option maxRecDepth 65536 in
set_option maxHeartbeats 40000000 in
theorem comes_1 {Post : Tables → Env → Array Value → State → Outcome → State → Prop} (hpost : ∀ tb e args s v u, (limb_1_1.after args s (.returned v) u = true ∧ limb_1_2.after args s (.returned v) u = true ∧ True) → FrameEnd s (.returned v) u (Jvm.fieldLocs frame_1_writes args s ++ Jvm.arrayLocs frame_1_arrays args s ++ Jvm.staticLocs frame_1_statics s) 0 0 → Post tb e args s (.returned v) u) :
    ArmFor flags0 classFile x code maxLocals ret World_1 tables_1 room_1 Calls_1 rest_1 Pre_1 Post := by
  intro l hfl _ _ p e ha hc hk s m args below hf hA hF happ hP
  obtain ⟨hcalls, hrest, hpre⟩ := hP
  obtain ⟨-, -, -, hnamed, -, -, -, hat⟩ := (Spec.applies_iff hf).mp happ
  obtain ⟨hg, hn⟩ := and_e (Cond.before_iff.mp (show (Jvm.Cond.and given_1 narrow_1).before args s = true from hpre))
  obtain ⟨g0, gr0⟩ := and_e hg
  obtain ⟨w0, w1, w2, rfl⟩ : ∃ w0 w1 w2 : Value, args = #[w0, w1, w2] := by
    have hs : args.size = 3 := by simpa [Cond.value, given_1] using g0
    obtain ⟨L⟩ := args
    match L, hs with
    | [w0, w1, w2], _ => exact ⟨w0, w1, w2, rfl⟩
  have hw := fun d (hd : d ∈ tables_1) => atoms_spec (ws := Jvm.Cond.code x code maxLocals ret :: tables_1) hat d (List.mem_cons_of_mem _ hd)
  have hfit : Fit s := fun {y c} hc i hi => by
    obtain ⟨ha, rfl⟩ := Array.getElem?_eq_some_iff.mp hc
    have q := List.all_eq_true.mp ((Array.all_eq_true_iff_forall_mem.mp hF) _ (Array.getElem_mem ha)) i (List.mem_range.mpr hi)
    simpa [Array.getElem?_eq_getElem hi] using q
  obtain ⟨ga0, gr1⟩ := and_e gr0
  obtain ⟨i0, ei0⟩ := is_v ga0
  obtain rfl : w0 = (.int i0) := Option.some.inj ei0
  obtain ⟨ga1, gr2⟩ := and_e gr1
  obtain ⟨i1, ei1⟩ := is_v ga1
  obtain rfl : w1 = (.int i1) := Option.some.inj ei1
  obtain ⟨i2, ei2⟩ := is_v gr2
  obtain rfl : w2 = (.int i2) := Option.some.inj ei2
  obtain ⟨nh0, nr0⟩ := and_e hn
  obtain ⟨nh1, nr1⟩ := and_e nr0
  obtain ⟨nh2, nr2⟩ := and_e nr1
  obtain ⟨s_AND, ev_s_AND, S_s_AND, E_s_AND⟩ := own_sta nh0 (hw _ (List.mem_of_getElem? (i := 2) rfl)) (hw _ (List.mem_of_getElem? (i := 3) rfl))
  obtain ⟨s_OR, ev_s_OR, S_s_OR, E_s_OR⟩ := own_sta nh2 (hw _ (List.mem_of_getElem? (i := 2) rfl)) (hw _ (List.mem_of_getElem? (i := 19) rfl))
  have F_s_AND_ordinal := own_staF ev_s_AND nh1
  have F_s_OR_ordinal := own_staF ev_s_OR nr2
  obtain ⟨n, o, h1, h2, h3, _, L, rfl, ⟨rfl, N⟩, hq⟩ := rm0 l s _ hw tables_1 i0 i1 i2 s_AND s_OR s.heap s.heap.size (Nat.le_refl _) (Old.start s) S_s_AND E_s_AND S_s_OR E_s_OR F_s_AND_ordinal F_s_OR_ordinal p e ha hc hk s m _ below hf ((Spec.applies_iff_loose hf).mp happ).1 ⟨rfl, State.Warmed39.refl s, rfl⟩ trivial
  refine ⟨n, _, h1, h2, h3, hpost _ _ _ _ _ _ ⟨Cond.after_iff.mpr rfl, Cond.after_iff.mpr (eq_i res_at (Term.int_eval (1)) rfl), trivial⟩ ⟨hq.1, hq.2.1, (hq.2.2.sift fun y hy => Or.inr (N y hy)).mono (by decide) (by decide)⟩⟩
theorem main_1_1 : Claimed_1_1 := comes_1 fun _ _ _ _ _ _ h hF => ⟨h.1, hF⟩
theorem main_1_2 : Claimed_1_2 := comes_1 fun _ _ _ _ _ _ h hF => ⟨h.2.1, hF⟩
end Jvm.Pilot.@@N@@
namespace Jvm.Pilot.@@N@@
open Jvm Jvm.ClassFile Sem Op Lib Jvm.Free Jvm.Stand Jvm.Pilot.@@N@@.Jvm.D
/-! MADE BY PROGRAM (witnessworld.py) out of the Statement's table words and the real class files: 12 classes; the members and pool entries that the words name. The judged class is class 1, her method 1. -/
namespace start1
open Jvm.ClassFile
def u (s : String) : CpInfo := .utf8 (stringToUtf16 s)
/-- a pool by its gaps: so many unusable entries, then the entry; so many at the end -/
def gap : Nat → List CpInfo → List CpInfo
  | 0, r => r
  | n + 1, r => .unusable :: gap n r
def poolList (es : List (Nat × CpInfo)) (last : Nat) : List CpInfo := es.foldr (fun e r => gap e.1 (e.2 :: r)) (gap last [])
def pool (es : List (Nat × CpInfo)) (last : Nat) : Array CpInfo := ⟨poolList es last⟩
def fileOf (pool : Array CpInfo) (this : Nat) (attrs : Array Attribute := #[]) (ms : Array MethodInfo := #[]) (fl : Nat := 33) (sup : Nat := 0) (ifs : Array Nat := #[]) (fds : Array FieldInfo := #[]) : ClassFile where
  minorVersion := 0
  majorVersion := 65
  constantPool := pool
  accessFlags := fl
  thisClass := this
  superClass := sup
  interfaces := ifs
  fields := fds
  methods := ms
  attributes := attrs
def plain (name : String) (sup : Option ClassId) : Class where
  name := name
  kind := .ordinary
  loader := none
  accessFlags := 33
  super := sup
  interfaces := #[]
  cf := none
  fields := #[]
  methods := #[]
  instanceTypes := #[]
  staticTypes := #[]
  resolved := #[]
  callSites := []
  init := .initialized
  statics := none
  mirror := none

def pool0 : Array CpInfo := pool [(5, u "<init>"), (0, u "()V"), (1, .class_ 10), (1, u "java/lang/Object")] 113

def k0m0 : Method := { name := "<init>", desc := "()V", sig := { parameters := [], returnType := none }, accessFlags := 1, code := none }
/-- java/lang/Object -/
def k0 : Class := { plain "java/lang/Object" none with
  accessFlags := 33
  interfaces := #[]
  cf := some (fileOf pool0 8 #[] #[{ accessFlags := 1, nameIndex := 5, descriptorIndex := 6, attributes := #[] }] 33 0 #[] #[])
  fields := #[]
  methods := #[k0m0]
  instanceTypes := #[]
  staticTypes := #[]
  resolved := Array.replicate 124 none
  statics := none }

def pool1 : Array CpInfo := pool [(2, .class_ 4), (1, u "java/lang/Object"), (0, u "<init>"), (0, u "()V"), (0, .integer 2147483647), (0, .fieldref 9 10), (0, .class_ 11), (0, .nameAndType 12 13), (0, u "com/example/lens_on_archives/lensonarchives/Semantics"), (0, u "AND"), (0, u "Lcom/example/lens_on_archives/lensonarchives/Semantics;"), (0, .methodref 9 15), (0, .nameAndType 16 17), (0, u "matches"), (0, u "(II)Z"), (0, .fieldref 9 19), (0, .nameAndType 20 13), (0, u "OR"), (0, .class_ 22), (0, u "com/example/lens_on_archives/lensonarchives/SemanticsMatchesPinLaw"), (2, u "law"), (0, u "(III)Z")] 3

def k1m0 : Method := { name := "<init>", desc := "()V", sig := { parameters := [], returnType := none }, accessFlags := 1, code := none }
def k1c1 : Code := { maxStack := 3, maxLocals := 10, code := code, exceptionTable := #[], attributes := #[] }
def k1m1 : Method := { name := "law", desc := "(III)Z", sig := { parameters := [.int, .int, .int], returnType := some .boolean }, accessFlags := 9, code := some k1c1 }
/-- com/example/lens_on_archives/lensonarchives/SemanticsMatchesPinLaw -/
def k1 : Class := { plain "com/example/lens_on_archives/lensonarchives/SemanticsMatchesPinLaw" (some 0) with
  accessFlags := 49
  interfaces := #[]
  cf := some (fileOf pool1 21 #[] #[{ accessFlags := 1, nameIndex := 5, descriptorIndex := 6, attributes := #[] }, { accessFlags := 9, nameIndex := 25, descriptorIndex := 26, attributes := #[] }] 49 2 #[] #[])
  fields := #[]
  methods := #[k1m0, k1m1]
  instanceTypes := #[]
  staticTypes := #[]
  resolved := Array.replicate 30 none
  statics := none }

def pool2 : Array CpInfo := pool [(1, .class_ 2), (0, u "java/lang/constant/Constable"), (0, .class_ 4), (0, u "java/lang/Object")] 6

/-- java/lang/constant/Constable -/
def k2 : Class := { plain "java/lang/constant/Constable" (some 0) with
  accessFlags := 1537
  interfaces := #[]
  cf := some (fileOf pool2 1 #[] #[] 1537 3 #[] #[])
  fields := #[]
  methods := #[]
  instanceTypes := #[]
  staticTypes := #[]
  resolved := Array.replicate 11 none
  statics := none }

def pool3 : Array CpInfo := pool [(1, .class_ 2), (0, u "java/lang/Comparable"), (0, .class_ 4), (0, u "java/lang/Object")] 7

/-- java/lang/Comparable -/
def k3 : Class := { plain "java/lang/Comparable" (some 0) with
  accessFlags := 1537
  interfaces := #[]
  cf := some (fileOf pool3 1 #[] #[] 1537 3 #[] #[])
  fields := #[]
  methods := #[]
  instanceTypes := #[]
  staticTypes := #[]
  resolved := Array.replicate 12 none
  statics := none }

def pool4 : Array CpInfo := pool [(1, .class_ 2), (0, u "java/io/Serializable"), (0, .class_ 4), (0, u "java/lang/Object")] 2

/-- java/io/Serializable -/
def k4 : Class := { plain "java/io/Serializable" (some 0) with
  accessFlags := 1537
  interfaces := #[]
  cf := some (fileOf pool4 1 #[] #[] 1537 3 #[] #[])
  fields := #[]
  methods := #[]
  instanceTypes := #[]
  staticTypes := #[]
  resolved := Array.replicate 7 none
  statics := none }

def pool5 : Array CpInfo := pool [(2, .class_ 4), (1, u "java/lang/Enum"), (0, u "name"), (0, u "Ljava/lang/String;"), (0, .fieldref 2 8), (0, .nameAndType 9 10), (0, u "ordinal"), (0, u "I"), (1, .class_ 14), (1, u "java/lang/Object"), (4, u "hash"), (86, .class_ 108), (1, u "java/lang/Enum$EnumDesc"), (2, .class_ 112), (0, u "java/lang/constant/Constable"), (0, .class_ 114), (0, u "java/lang/Comparable"), (0, .class_ 116), (0, u "java/io/Serializable"), (9, u "()I")] 77

def k5c0 : Code := { maxStack := 1, maxLocals := 1, code := jdk_37_method_2_code, exceptionTable := #[], attributes := #[] }
def k5m0 : Method := { name := "ordinal", desc := "()I", sig := { parameters := [], returnType := some .int }, accessFlags := 17, code := some k5c0 }
/-- java/lang/Enum -/
def k5 : Class := { plain "java/lang/Enum" (some 0) with
  accessFlags := 1057
  interfaces := #[2, 3, 4]
  cf := some (fileOf pool5 2 #[.nestMembers #[106]] #[{ accessFlags := 17, nameIndex := 9, descriptorIndex := 126, attributes := #[] }] 1057 12 #[111, 113, 115] #[{ accessFlags := 18, nameIndex := 5, descriptorIndex := 6, attributes := #[] }, { accessFlags := 18, nameIndex := 9, descriptorIndex := 10, attributes := #[] }, { accessFlags := 2, nameIndex := 19, descriptorIndex := 10, attributes := #[] }])
  fields := #[{ name := "name", type := (.object "java/lang/String"), accessFlags := 18, slot := 0, constantValue := 0 }, { name := "ordinal", type := .int, accessFlags := 18, slot := 1, constantValue := 0 }, { name := "hash", type := .int, accessFlags := 2, slot := 2, constantValue := 0 }]
  methods := #[k5m0]
  instanceTypes := #[(.object "java/lang/String"), .int, .int]
  staticTypes := #[]
  resolved := Array.replicate 204 none
  statics := none }

def pool6 : Array CpInfo := pool [(1, .class_ 2), (0, u "com/example/lens_on_archives/lensonarchives/Semantics"), (2, u "AND"), (0, u "Lcom/example/lens_on_archives/lensonarchives/Semantics;"), (2, u "OR"), (2, u "$VALUES"), (0, u "[Lcom/example/lens_on_archives/lensonarchives/Semantics;"), (6, .class_ 22), (1, u "java/lang/Enum"), (6, .methodref 1 30), (0, .nameAndType 31 32), (0, u "ordinal"), (0, u "()I"), (28, u "matches"), (0, u "(II)Z")] 45

def k6c0 : Code := { maxStack := 4, maxLocals := 3, code := prog_31_method_4_code, exceptionTable := #[], attributes := #[] }
def k6m0 : Method := { name := "matches", desc := "(II)Z", sig := { parameters := [.int, .int], returnType := some .boolean }, accessFlags := 0, code := some k6c0 }
/-- com/example/lens_on_archives/lensonarchives/Semantics -/
def k6 : Class := { plain "com/example/lens_on_archives/lensonarchives/Semantics" (some 5) with
  accessFlags := 16432
  interfaces := #[]
  cf := some (fileOf pool6 1 #[] #[{ accessFlags := 0, nameIndex := 61, descriptorIndex := 62, attributes := #[] }] 16432 20 #[] #[{ accessFlags := 16409, nameIndex := 5, descriptorIndex := 6, attributes := #[] }, { accessFlags := 16409, nameIndex := 9, descriptorIndex := 6, attributes := #[] }, { accessFlags := 4122, nameIndex := 12, descriptorIndex := 13, attributes := #[] }])
  fields := #[{ name := "AND", type := (.object "com/example/lens_on_archives/lensonarchives/Semantics"), accessFlags := 16409, slot := 0, constantValue := 0 }, { name := "OR", type := (.object "com/example/lens_on_archives/lensonarchives/Semantics"), accessFlags := 16409, slot := 1, constantValue := 0 }, { name := "$VALUES", type := (.array (.object "com/example/lens_on_archives/lensonarchives/Semantics")), accessFlags := 4122, slot := 2, constantValue := 0 }]
  methods := #[k6m0]
  instanceTypes := #[(.object "java/lang/String"), .int, .int]
  staticTypes := #[(.object "com/example/lens_on_archives/lensonarchives/Semantics"), (.object "com/example/lens_on_archives/lensonarchives/Semantics"), (.array (.object "com/example/lens_on_archives/lensonarchives/Semantics"))]
  resolved := Array.replicate 108 none
  statics := some 0 }

def pool7 : Array CpInfo := pool [(1, u "java/lang/Cloneable"), (0, .class_ 1), (0, u "java/lang/Object"), (0, .class_ 3)] 3

/-- java/lang/Cloneable -/
def k7 : Class := { plain "java/lang/Cloneable" (some 0) with
  accessFlags := 1537
  interfaces := #[]
  cf := some (fileOf pool7 2 #[] #[] 1537 4 #[] #[])
  fields := #[]
  methods := #[]
  instanceTypes := #[]
  staticTypes := #[]
  resolved := Array.replicate 8 none
  statics := none }

/-- the primitive byte -/
def k8 : Class := { plain "byte" none with kind := .primitive 'B', accessFlags := 0x411 }
/-- [B -/
def k9 : Class := { plain "[B" (some 0) with kind := .array 8 .byte, interfaces := #[7, 4], accessFlags := 1041 }

/-- the primitive int -/
def k10 : Class := { plain "int" none with kind := .primitive 'I', accessFlags := 0x411 }
/-- [I -/
def k11 : Class := { plain "[I" (some 0) with kind := .array 10 .int, interfaces := #[7, 4], accessFlags := 1041 }

def heap : Heap := #[{ cls := 6, slots := #[.ref 1, .ref 2, .null], vm := .statics 6 },
  { cls := 6, slots := #[.null, .int 0, .int 0], vm := .none },
  { cls := 6, slots := #[.null, .int 1, .int 0], vm := .none }]
def classes : Array Class := #[k0, k1, k2, k3, k4, k5, k6, k7, k8, k9, k10, k11]
def interned : List (Array UInt16 × Addr) := []
def slotsUsed : Nat := 9
def theMethod : MethodId := ⟨1, 1⟩
def args0 : Array Value := #[.int 5, .int 3, .int 2]
def aboutOver (below : List Frame) : State where
  vm := { classes := classes, interned := interned.toArray }
  heap := heap
  slotsUsed := slotsUsed
  threads := #[{ frames := .invoking theMethod args0 :: below }]
def below0 : List Frame := [.native { method := ⟨0, 0⟩, args := #[] }]
def about1 : State := aboutOver below0
def p0 : Program := .bare "" "" ""
def e0 : Env := launch0.env 0 0 0
theorem w_frames : about1.frames = Frame.invoking theMethod args0 :: below0 := rfl
set_option maxRecDepth 65536 in
theorem w_args : argsFit about1.vm theMethod args0 = true := by decide +kernel
set_option maxRecDepth 65536 in
theorem w_heap : heapFits about1 = true := by decide +kernel
set_option maxRecDepth 65536 in
theorem w_runnable : about1.curStatus? = some .runnable := by decide +kernel
set_option maxRecDepth 65536 in
theorem w_alone : about1.alone = true := by decide +kernel
set_option maxRecDepth 65536 in
theorem w_named : about1.methodNamed? x = some theMethod := by decide +kernel
set_option maxRecDepth 65536 in
theorem w_hears : about1.hears theMethod below0 = true := by decide +kernel
set_option maxRecDepth 65536 in
theorem w_ripe : about1.ripe theMethod args0 below0 = true := by decide +kernel
theorem w_running : about1.status = .running := rfl
set_option maxRecDepth 65536 in
theorem w_room : about1.hasRoom e0.platform room_1 = true :=
  launch0.hasRoom_least _ room_1 (by decide +kernel) (by decide +kernel) (by decide +kernel) (by decide +kernel) (by decide +kernel) (by decide +kernel)
theorem allAtoms_all (ts : List Jvm.Cond) (a : Array Jvm.Value) (st : Jvm.State) : (allAtoms ts).before a st = ts.all (fun c => c.before a st) := by
  induction ts with
  | nil => rfl
  | cons c t ih =>
    show (Jvm.Cond.and c (allAtoms t)).before a st = _
    rw [Jvm.Cond.before_and, ih, List.all_cons]
def words1 : List Jvm.Cond := Jvm.Cond.code x code maxLocals ret :: tables_1
/-- a 'code' word, met by the world's own term for the bytes: nothing is compared byte by byte -/
theorem code_word {y : MethodName} {bytes : ByteArray} {mx : Nat} {rt : Option FieldType} {a : Array Value} {s : State} {m : MethodId} {meth : Method} {c : Code} (h1 : s.methodNamed? y = some m) (h2 : s.vm.method? m = some meth) (h3 : meth.code = some c) (h4 : c.code = bytes)
    (h5 : (c.maxLocals == mx && c.exceptionTable.isEmpty && decide (c.maxStack ≤ mostOperands) && decide (meth.sig.returnType = rt) && !meth.locks && decide (parseMethodDescriptor y.desc = some meth.sig)) = true) : (Jvm.Cond.code y bytes mx rt).before a s = true := by
  simp only [Bool.and_eq_true, beq_iff_eq, Bool.not_eq_true', decide_eq_true_eq] at h5
  obtain ⟨⟨⟨⟨⟨g1, g2⟩, g3⟩, g4⟩, g5⟩, g6⟩ := h5
  simp [Cond.before, Cond.holds, Cond.value, h1, h2, h3, h4, g1, g2, g3, g4, g5, g6]
def isCode : Jvm.Cond → Bool
  | .code _ _ _ _ => true
  | _ => false
theorem all_split {L : List Jvm.Cond} {P : Jvm.Cond → Bool} (h1 : L.all (fun c => isCode c || P c) = true) (h2 : ∀ c ∈ L.filter isCode, P c = true) : L.all P = true := by
  refine List.all_eq_true.mpr fun c hc => ?_
  have h := List.all_eq_true.mp h1 c hc
  rcases Bool.eq_false_or_eq_true (isCode c) with hi | hi
  · exact h2 c (List.mem_filter.mpr ⟨hc, hi⟩)
  · simpa [hi] using h
set_option maxRecDepth 65536 in
theorem w_c0 : (Jvm.Cond.code x code maxLocals ret).before args0 about1 = true := code_word (m := ⟨1, 1⟩) (meth := k1m1) (c := k1c1) (by decide +kernel) rfl rfl rfl (by decide +kernel)
set_option maxRecDepth 65536 in
theorem w_c1 : (Jvm.Cond.code ({ cls := "com/example/lens_on_archives/lensonarchives/Semantics", name := "matches", desc := "(II)Z" } : Jvm.MethodName) prog_31_method_4_code (3 : Nat) (Option.some Jvm.ClassFile.FieldType.boolean)).before args0 about1 = true := code_word (m := ⟨6, 0⟩) (meth := k6m0) (c := k6c0) (by decide +kernel) rfl rfl rfl (by decide +kernel)
set_option maxRecDepth 65536 in
theorem w_c2 : (Jvm.Cond.code ({ cls := "java/lang/Enum", name := "ordinal", desc := "()I" } : Jvm.MethodName) jdk_37_method_2_code (1 : Nat) (Option.some Jvm.ClassFile.FieldType.int)).before args0 about1 = true := code_word (m := ⟨5, 0⟩) (meth := k5m0) (c := k5c0) (by decide +kernel) rfl rfl rfl (by decide +kernel)
def codes1 : List Jvm.Cond := [Jvm.Cond.code x code maxLocals ret, Jvm.Cond.code ({ cls := "com/example/lens_on_archives/lensonarchives/Semantics", name := "matches", desc := "(II)Z" } : Jvm.MethodName) prog_31_method_4_code (3 : Nat) (Option.some Jvm.ClassFile.FieldType.boolean), Jvm.Cond.code ({ cls := "java/lang/Enum", name := "ordinal", desc := "()I" } : Jvm.MethodName) jdk_37_method_2_code (1 : Nat) (Option.some Jvm.ClassFile.FieldType.int)]
set_option maxRecDepth 65536 in
theorem codes_eq : words1.filter isCode = codes1 := rfl
theorem w_codes : ∀ c ∈ words1.filter isCode, c.before args0 about1 = true := by
  rw [codes_eq]
  intro c hc
  simp only [codes1, List.mem_cons, List.not_mem_nil, or_false] at hc
  rcases hc with rfl | rfl | rfl
  · exact w_c0
  · exact w_c1
  · exact w_c2
set_option maxRecDepth 65536 in
theorem w_t1 : words1.all (fun c => isCode c || c.before args0 about1) = true := by decide +kernel
theorem w_tables : (allAtoms (Jvm.Cond.code x code maxLocals ret :: tables_1)).before args0 about1 = true := by
  rw [allAtoms_all]
  show words1.all (fun c => c.before args0 about1) = true
  refine all_split ?_ w_codes
  rw [w_t1]
set_option maxRecDepth 65536 in
theorem w_case : (Jvm.Cond.and given_1 narrow_1).before args0 about1 = true := by decide +kernel
theorem w_applies : (headSpec (Jvm.Cond.code x code maxLocals ret :: tables_1) room_1).applies x e0.platform about1 = true :=
  (Spec.applies_iff w_frames).mpr ⟨w_running, w_runnable, w_alone, w_named, w_hears, w_ripe, w_room, w_tables⟩
theorem atStart : AtStart classFile x code maxLocals ret World_1 tables_1 room_1 Calls_1 rest_1 Pre_1 launch0 p0 e0 about1 theMethod args0 below0 :=
  ⟨lists_1, trivial, launch0.admits_env _ _ _, launch0.least_env, fairChoices_fair.cas, fairChoices_fair.clock, w_frames, w_args, w_heap, w_applies, trivial, trivial, w_case⟩
end start1
theorem witness_1 : WitnessClaimed_1 := ⟨start1.p0, start1.e0, start1.about1, start1.theMethod, start1.args0, start1.below0, start1.atStart⟩
end Jvm.Pilot.@@N@@
