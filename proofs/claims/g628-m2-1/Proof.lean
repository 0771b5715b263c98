import JvmDerived
import JvmDerived.Pilot.@@N@@Statement
import JvmDerived.Pilot.@@N@@Code
set_option linter.unusedVariables false
set_option linter.unusedSimpArgs false
namespace Jvm.Pilot.@@N@@
open Jvm Jvm.ClassFile Sem Op Lib Jvm.Free Jvm.Stand Jvm.LawKit Jvm.RoadKit Bundle Jvm.Pilot.@@N@@.Jvm.D
section OwnKit
variable {p : Program} {l : Launch} {e : Env} {R : Room} {s : State} {m : MethodId} {args : Array Value} {below : List Frame} {meth : Method} {c : Code} {T : State} {locs : List Loc} {cells slots : Nat}
/-- from T the run comes to an end of which F holds -/
def own_Go (p : Program) (e : Env) (below : List Frame) (F : State → Outcome → Prop) (T : State) : Prop := ∃ t o, Steps p.tables e below T t ∧ t.status = .running ∧ Ended t below o ∧ F t o
theorem own_step {F : State → Outcome → Prop} {A B : State} (k : ∀ t, Steps p.tables e below A t → Steps p.tables e below B t) (h : own_Go p e below F A) : own_Go p e below F B := by
  obtain ⟨t, o, h1, h2⟩ := h
  exact ⟨t, o, k t h1, h2⟩
theorem own_in {F : State → Outcome → Prop} {A B : State} (k : ∀ {t}, Steps p.tables e below A t → Steps p.tables e below B t) (h : own_Go p e below F A) : ∃ t o, Steps p.tables e below B t ∧ t.status = .running ∧ Ended t below o ∧ F t o := by
  obtain ⟨t, o, h1, h2⟩ := h
  exact ⟨t, o, k h1, h2⟩
theorem own_retI (X : Stand p l e R s m args below meth c T locs cells slots) (hx : p.tables.exec = Jvm.exec) {pc : Nat} {Ls : Array Slot} {z : Int32} {rest : List Value} (hret : meth.sig.returnType = some .int) (hd : decode c.code pc = .ok (.ireturn, 1)) {fs : List Frame}
    (hl : ∀ (f : JFrame) (acts : List Action), f.method = m → f.locked = none → f.entered = [] → (doReturn e (T.setTop f) acts (some (.int z))).1 = T.setFrames fs) : Steps p.tables e below (T.setTop (mkF m pc Ls (.int z :: rest))) (T.setFrames fs) :=
  retOut X hx hret rfl (Or.inl ⟨rfl, Or.inl rfl, _, rfl⟩) hd hl
theorem own_join {α : Type} {F : State → Outcome → Prop} {B : State} {H : Heap} (X : Stand p l e R s m args below meth c T locs cells slots) (eT : T.heap = H) (A : State → α → State) (Pr : α → Prop)
    (h1 : ∀ T' a, Stand p l e R s m args below meth c T' locs cells slots → T'.heap = H → Pr a → own_Go p e below F (A T' a))
    (h2 : (∀ T' a, Stand p l e R s m args below meth c T' locs cells slots → T'.heap = H → Pr a → own_Go p e below F (A T' a)) → own_Go p e below F B) : own_Go p e below F B := h2 h1
theorem own_sta {args : Array Value} {s : State} {C n d K : String} (h : (Jvm.Cond.exactly (.static C n d) K).value args s none s [] = some true) (w1 : (Jvm.Cond.initialized C).before args s = true) (w2 : (Jvm.Cond.laysStatic C n d).before args s = true) :
    ∃ a, (Term.static C n d).eval args s none [] s = some (.ref a) ∧ Sta s s.heap C n d (.ref a) ∧ Exa s s.heap a K := by
  obtain ⟨a, ea⟩ := exa_v h
  exact ⟨a, ea, Sta.start ea (Or.inr ⟨w1, w2⟩), Exa.start ea h⟩
theorem own_staF {args : Array Value} {s : State} {t : Term} {C n d : String} {a : Addr} {k : Int32} (ea : t.eval args s none [] s = some (.ref a)) (h : (Jvm.Cond.eq (.field t C n d) (.int k)).value args s none s [] = some true) : Fld s s.heap a C n d (.int k) := by
  obtain ⟨x, y, e1, e2, -, -⟩ := cmp_v (Or.inl h)
  cases (Term.int_eval k).symm.trans e2
  have e3 : x = .int k := by
    cases x <;> simp [Cond.value, e1, Term.int_eval] at h
    rw [h]
  rw [fld_at ea, e3] at e1
  exact Fld.start e1
end OwnKit

theorem own_bit (x : Int32) (s m : Int32) (k : Nat) (hk : k < 32) (hs : (s &&& 31).toUInt32.toBitVec = BitVec.ofNat 32 k) (hm : m.toBitVec = 1#32 <<< k) : ((x.toUInt32 >>> (s &&& 31).toUInt32).toInt32 &&& (1 : Int32)) = 1 ↔ ¬ (x &&& m) = 0 := by
  have e1 : ((x.toUInt32 >>> (s &&& 31).toUInt32).toInt32 &&& (1 : Int32)).toBitVec = (x.toBitVec >>> k) &&& 1#32 := by
    show (x.toUInt32.toBitVec >>> (((s &&& 31).toUInt32.toBitVec).umod 32#32)) &&& 1#32 = _
    rw [hs]
    have : (BitVec.ofNat 32 k).umod 32#32 = BitVec.ofNat 32 k := by
      apply BitVec.eq_of_toNat_eq
      simp [BitVec.toNat_umod]
      omega
    rw [this]
    congr 1
    show x.toBitVec >>> (BitVec.ofNat 32 k).toNat = _
    congr 1
    simp
    omega
  have e2 : (x &&& m).toBitVec = x.toBitVec &&& (1#32 <<< k) := by show x.toBitVec &&& m.toBitVec = _; rw [hm]
  rw [← Int32.toBitVec_inj, ← Int32.toBitVec_inj, e1, e2]
  show (x.toBitVec >>> k) &&& 1#32 = 1#32 ↔ ¬ x.toBitVec &&& (1#32 <<< k) = 0#32
  generalize x.toBitVec = b
  constructor
  · intro h q
    have h1 := congrArg (fun z => BitVec.getLsbD z 0) h
    have q1 := congrArg (fun z => BitVec.getLsbD z k) q
    simp [hk] at h1 q1
    simp [h1] at q1
  · intro h
    apply BitVec.eq_of_getLsbD_eq
    intro i hi
    by_cases hb : b.getLsbD k = true
    · cases i with
      | zero => simp [hb]
      | succ i => simp [BitVec.getLsbD_one]
    · exfalso
      apply h
      apply BitVec.eq_of_getLsbD_eq
      intro i hi
      by_cases e : i = k
      · subst e; simp [hb]
      · simp
        intro h1 h2 h3
        omega
theorem pn_0 : plainName "com/example/cairn/cairn/model/Permission" = true := by first | (simp [plainName, overriddenIn]; done) | decide +kernel
theorem pn_1 : plainName "com/example/cairn/cairn/model/PermissionInPinLaw" = true := by first | (simp [plainName, overriddenIn]; done) | decide +kernel
theorem pd_0 : parseMethodDescriptor "(I)Z" = some ⟨[.int], some .boolean⟩ := by decide +kernel
theorem d1_0 : decode prog_54_method_7_code 0 = .ok (.iload_n 1, 1) := by decide +kernel
theorem d1_1 : decode prog_54_method_7_code 1 = .ok (.aload_n 0, 1) := by decide +kernel
theorem d1_2 : decode prog_54_method_7_code 2 = .ok (.getfield 38, 3) := by decide +kernel
theorem d1_5 : decode prog_54_method_7_code 5 = .ok (.iand, 1) := by decide +kernel
theorem d1_6 : decode prog_54_method_7_code 6 = .ok (.ifCond .eq 7, 3) := by decide +kernel
theorem d1_9 : decode prog_54_method_7_code 9 = .ok (.iconst 1, 1) := by decide +kernel
theorem d1_10 : decode prog_54_method_7_code 10 = .ok (.goto 4, 3) := by decide +kernel
theorem d1_13 : decode prog_54_method_7_code 13 = .ok (.iconst 0, 1) := by decide +kernel
theorem d1_14 : decode prog_54_method_7_code 14 = .ok (.ireturn, 1) := by decide +kernel
theorem ef_1 (m : MethodId) (a : Addr) (pm : Int32) : entryFrame m #[(.ref a), (.int pm)] 2 = mkF m 0 #[.val (.ref a), .val (.int pm)] [] := by first | (simp [entryFrame, mkF, argsToLocals, Value.category]; done) | rfl
def Q1 (Z : State) (a : Addr) (pm : Int32) (bt : Int32) (h0 : Heap) (n0 : Nat) (v : Option Value) (h : Heap) (L : List Loc) : Prop := v = some (.int (if (pm &&& bt) = (0 : Int32) then (0 : Int32) else (1 : Int32))) ∧ Fr n0 L ∧ h = h0
set_option maxRecDepth 65536 in
set_option maxHeartbeats 40000000 in
theorem rm1 (l : Launch) (Z : State) (a0 : Array Value) (hw : ∀ d ∈ tables_1, d.before a0 Z = true) (ws : List Jvm.Cond) (a : Addr) (pm : Int32) (bt : Int32) (h0 : Heap) (n0 : Nat) (Z0 : n0 ≤ h0.size) (P0 : Fld Z h0 a "com/example/cairn/cairn/model/Permission" "bit" "I" (.int bt)) :
    MetFree l (⟨"com/example/cairn/cairn/model/Permission", "in", "(I)Z"⟩ : MethodName) (head1 (Jvm.Cond.code (⟨"com/example/cairn/cairn/model/Permission", "in", "(I)Z"⟩ : MethodName) prog_54_method_7_code 2 (some .boolean) :: ws) ({ frames := 0, cells := 0, slots := 0, locals := 0 } : Room)) (fun ar_ U => ar_ = #[(.ref a), (.int pm)] ∧ Z.Warmed39 U.vm ∧ U.heap = h0) (fun _ _ _ _ _ => True) (fun _ U oo_ U' => ∃ v L, oo_ = .returned v ∧ Q1 Z a pm bt h0 n0 v U'.heap L ∧ FrameEnd U oo_ U' L ({ frames := 0, cells := 0, slots := 0, locals := 0 } : Room).cells ({ frames := 0, cells := 0, slots := 0, locals := 0 } : Room).slots) := by
  refine MetFree.of_bodySF (plainFor_of_name pn_0) hisR ?_
  intro p e s m args below meth c s₁ Bd hml0 hP hK
  obtain ⟨rfl, hZ, hh⟩ := hP
  have hx := Bd.exec
  have hby := Bd.bytes
  have hml : c.maxLocals = 2 := hml0
  have hown : s.vm.findClass "com/example/cairn/cairn/model/Permission" = some m.cls := findClass_of_methodNamed Bd.named
  have hnm := (name_of_methodNamed Bd.named Bd.method).1
  have X0 : Stand p l e ({ frames := 0, cells := 0, slots := 0, locals := 0 } : Room) s m #[(.ref a), (.int pm)] below meth c s₁ [] 0 0 := Stand.of_body Bd
  have e0 : s₁.heap = h0 := by rw [← hh, Bd.state]; rfl
  have N0 := Fr.nil n0
  refine own_in (castTop (ef_1 m a pm)) ?_
  show own_Go _ _ _ _ (s₁.setTop (mkF m 0 #[.val (.ref a), .val (.int pm)] []))
  refine own_step (fun _ κ => XS.iloadN X0.here hx rfl (hb hby d1_0) rfl κ) ?_
  show own_Go _ _ _ _ (s₁.setTop (mkF m 1 #[.val (.ref a), .val (.int pm)] [(.int pm)]))
  refine own_step (fun _ κ => XS.aloadN X0.here hx rfl (hb hby d1_1) rfl rfl κ) ?_
  show own_Go _ _ _ _ (s₁.setTop (mkF m 2 #[.val (.ref a), .val (.int pm)] [(.ref a), (.int pm)]))
  obtain ⟨T1, X1, e1, st1⟩ := getF X0 hx hZ hown (host := "") (Or.inl (hw _ (List.mem_of_getElem? (i := 9) rfl))) Via.refl e0 P0 (g := (mkF m 2 #[.val (.ref a), .val (.int pm)] [(.ref a), (.int pm)])) rfl rfl (hb hby d1_2)
  refine own_step st1 ?_
  show own_Go _ _ _ _ (T1.setTop (mkF m 5 #[.val (.ref a), .val (.int pm)] [(.int bt), (.int pm)]))
  refine own_step (fun _ κ => XS.iand X1.here hx rfl (hb hby d1_5) rfl κ) ?_
  show own_Go _ _ _ _ (T1.setTop (mkF m 6 #[.val (.ref a), .val (.int pm)] [(.int (pm &&& bt))]))
  by_cases hc2 : (pm &&& bt) = (0 : Int32)
  · refine own_step (fun _ κ => XS.ifYes X1.here hx rfl (pc0 := 6) (pc' := 13) rfl (hb hby d1_6) rfl ((if0 _ _).trans (teq hc2).1) (by decide) (by decide) κ) ?_
    show own_Go _ _ _ _ (T1.setTop (mkF m 13 #[.val (.ref a), .val (.int pm)] []))
    refine own_step (fun _ κ => XS.iconst X1.here hx rfl (hb hby d1_13) κ) ?_
    show own_Go _ _ _ _ (T1.setTop (mkF m 14 #[.val (.ref a), .val (.int pm)] [(.int (0 : Int32))]))
    obtain ⟨fs, hr, hrun, hended, hW, hsame⟩ := X1.leave (v := some (.int (0 : Int32))) (fun h => by rw [Bd.returns] at h; cases h)
    refine ⟨_, _, retN X1 hx (t := .boolean) Bd.returns (by simp) (hb hby d1_14) hr, hrun, hended, _, _, rfl, ?_, ⟨_, rfl⟩, hW, hsame.mono (by decide) (by decide)⟩
    show Q1 Z a pm bt h0 n0 _ T1.heap _
    rw [e1]
    exact ⟨(by rw [if_pos hc2]), N0, rfl⟩
  · refine own_step (fun _ κ => XS.ifNo X1.here hx rfl (hb hby d1_6) rfl ((if0 _ _).trans (feq hc2).1) κ) ?_
    show own_Go _ _ _ _ (T1.setTop (mkF m 9 #[.val (.ref a), .val (.int pm)] []))
    refine own_step (fun _ κ => XS.iconst X1.here hx rfl (hb hby d1_9) κ) ?_
    show own_Go _ _ _ _ (T1.setTop (mkF m 10 #[.val (.ref a), .val (.int pm)] [(.int (1 : Int32))]))
    refine own_step (fun _ κ => XS.goto X1.here hx rfl (pc0 := 10) (pc' := 14) rfl (hb hby d1_10) (by decide) (by decide) κ) ?_
    show own_Go _ _ _ _ (T1.setTop (mkF m 14 #[.val (.ref a), .val (.int pm)] [(.int (1 : Int32))]))
    obtain ⟨fs, hr, hrun, hended, hW, hsame⟩ := X1.leave (v := some (.int (1 : Int32))) (fun h => by rw [Bd.returns] at h; cases h)
    refine ⟨_, _, retN X1 hx (t := .boolean) Bd.returns (by simp) (hb hby d1_14) hr, hrun, hended, _, _, rfl, ?_, ⟨_, rfl⟩, hW, hsame.mono (by decide) (by decide)⟩
    show Q1 Z a pm bt h0 n0 _ T1.heap _
    rw [e1]
    exact ⟨(by rw [if_neg hc2]), N0, rfl⟩
theorem ef_0 (m : MethodId) (sel : Int32) (pm : Int32) : entryFrame m #[(.int sel), (.int pm)] maxLocals = mkF m 0 #[.val (.int sel), .val (.int pm), .unset, .unset, .unset, .unset] [] := by first | (simp [entryFrame, mkF, argsToLocals, Value.category, maxLocals]; done) | rfl
def Q0 (Z : State) (sel : Int32) (pm : Int32) (s_CREATE : Addr) (s_ADMIN : Addr) (s_WRITE : Addr) (s_DELETE : Addr) (s_READ : Addr) (h0 : Heap) (n0 : Nat) (v : Option Value) (h : Heap) (L : List Loc) : Prop := v = some (.int (1 : Int32)) ∧ Fr n0 L
set_option maxRecDepth 65536 in
set_option maxHeartbeats 40000000 in
theorem rm0 (l : Launch) (Z : State) (a0 : Array Value) (hw : ∀ d ∈ tables_1, d.before a0 Z = true) (ws : List Jvm.Cond) (sel : Int32) (pm : Int32) (s_CREATE : Addr) (s_ADMIN : Addr) (s_WRITE : Addr) (s_DELETE : Addr) (s_READ : Addr) (h0 : Heap) (n0 : Nat) (Z0 : n0 ≤ h0.size) (P0 : Old Z n0 h0) (P1 : Sta Z Z.heap "com/example/cairn/cairn/model/Permission" "CREATE" "Lcom/example/cairn/cairn/model/Permission;" (.ref s_CREATE)) (P2 : Exa Z Z.heap s_CREATE "com/example/cairn/cairn/model/Permission") (P3 : Sta Z Z.heap "com/example/cairn/cairn/model/Permission" "ADMIN" "Lcom/example/cairn/cairn/model/Permission;" (.ref s_ADMIN)) (P4 : Exa Z Z.heap s_ADMIN "com/example/cairn/cairn/model/Permission") (P5 : Sta Z Z.heap "com/example/cairn/cairn/model/Permission" "WRITE" "Lcom/example/cairn/cairn/model/Permission;" (.ref s_WRITE)) (P6 : Exa Z Z.heap s_WRITE "com/example/cairn/cairn/model/Permission") (P7 : Sta Z Z.heap "com/example/cairn/cairn/model/Permission" "DELETE" "Lcom/example/cairn/cairn/model/Permission;" (.ref s_DELETE)) (P8 : Exa Z Z.heap s_DELETE "com/example/cairn/cairn/model/Permission") (P9 : Sta Z Z.heap "com/example/cairn/cairn/model/Permission" "READ" "Lcom/example/cairn/cairn/model/Permission;" (.ref s_READ)) (P10 : Exa Z Z.heap s_READ "com/example/cairn/cairn/model/Permission") (P11 : Fld Z Z.heap s_CREATE "com/example/cairn/cairn/model/Permission" "bit" "I" (.int (4 : Int32))) (P12 : Fld Z Z.heap s_ADMIN "com/example/cairn/cairn/model/Permission" "bit" "I" (.int (16 : Int32))) (P13 : Fld Z Z.heap s_WRITE "com/example/cairn/cairn/model/Permission" "bit" "I" (.int (2 : Int32))) (P14 : Fld Z Z.heap s_DELETE "com/example/cairn/cairn/model/Permission" "bit" "I" (.int (8 : Int32))) (P15 : Fld Z Z.heap s_READ "com/example/cairn/cairn/model/Permission" "bit" "I" (.int (1 : Int32))) :
    MetFree l x (head1 (Jvm.Cond.code x code maxLocals ret :: ws) room_1) (fun ar_ U => ar_ = #[(.int sel), (.int pm)] ∧ Z.Warmed39 U.vm ∧ U.heap = h0) (fun _ _ _ _ _ => True) (fun _ U oo_ U' => ∃ v L, oo_ = .returned v ∧ Q0 Z sel pm s_CREATE s_ADMIN s_WRITE s_DELETE s_READ h0 n0 v U'.heap L ∧ FrameEnd U oo_ U' L room_1.cells room_1.slots) := by
  refine MetFree.of_bodySF (plainFor_of_name pn_1) hisR ?_
  intro p e s m args below meth c s₁ Bd hml0 hP hK
  obtain ⟨rfl, hZ, hh⟩ := hP
  have hx := Bd.exec
  have hby := Bd.bytes
  have hml : c.maxLocals = 6 := hml0
  have hown : s.vm.findClass "com/example/cairn/cairn/model/PermissionInPinLaw" = some m.cls := findClass_of_methodNamed Bd.named
  have hnm := (name_of_methodNamed Bd.named Bd.method).1
  have X0 : Stand p l e room_1 s m #[(.int sel), (.int pm)] below meth c s₁ [] 0 0 := Stand.of_body Bd
  have e0 : s₁.heap = h0 := by rw [← hh, Bd.state]; rfl
  have N0 := Fr.nil n0
  refine own_in (castTop (ef_0 m sel pm)) ?_
  show own_Go _ _ _ _ (s₁.setTop (mkF m 0 #[.val (.int sel), .val (.int pm), .unset, .unset, .unset, .unset] []))
  refine own_step (fun _ κ => XS.iloadN X0.here hx rfl (hb hby at_0) rfl κ) ?_
  show own_Go _ _ _ _ (s₁.setTop (mkF m 1 #[.val (.int sel), .val (.int pm), .unset, .unset, .unset, .unset] [(.int sel)]))
  refine own_step (fun _ κ => X0.ldcInt hx hown (mvT hZ (hw _ (List.mem_of_getElem? (i := 0) rfl))) (g := (mkF m 1 #[.val (.int sel), .val (.int pm), .unset, .unset, .unset, .unset] [(.int sel)])) rfl (hb hby at_1) _ κ) ?_
  show own_Go _ _ _ _ (s₁.setTop (mkF m 3 #[.val (.int sel), .val (.int pm), .unset, .unset, .unset, .unset] [(.int (2147483647 : Int32)), (.int sel)]))
  refine own_step (fun _ κ => XS.iand X0.here hx rfl (hb hby at_3) rfl κ) ?_
  show own_Go _ _ _ _ (s₁.setTop (mkF m 4 #[.val (.int sel), .val (.int pm), .unset, .unset, .unset, .unset] [(.int (sel &&& (2147483647 : Int32)))]))
  refine own_step (fun _ κ => XS.iconst X0.here hx rfl (hb hby at_4) κ) ?_
  show own_Go _ _ _ _ (s₁.setTop (mkF m 5 #[.val (.int sel), .val (.int pm), .unset, .unset, .unset, .unset] [(.int (5 : Int32)), (.int (sel &&& (2147483647 : Int32)))]))
  refine own_step (fun _ κ => iremM X0 hx rfl (hb hby at_5) rfl (by decide) κ) ?_
  show own_Go _ _ _ _ (s₁.setTop (mkF m 6 #[.val (.int sel), .val (.int pm), .unset, .unset, .unset, .unset] [(.int ((sel &&& (2147483647 : Int32)) % (5 : Int32)))]))
  refine own_step (fun _ κ => XS.istoreN X0.here hx rfl (hb hby at_6) rfl (l' := #[.val (.int sel), .val (.int pm), .val (.int ((sel &&& (2147483647 : Int32)) % (5 : Int32))), .unset, .unset, .unset]) rfl κ) ?_
  show own_Go _ _ _ _ (s₁.setTop (mkF m 7 #[.val (.int sel), .val (.int pm), .val (.int ((sel &&& (2147483647 : Int32)) % (5 : Int32))), .unset, .unset, .unset] []))
  refine own_step (fun _ κ => XS.iloadN X0.here hx rfl (hb hby at_7) rfl κ) ?_
  show own_Go _ _ _ _ (s₁.setTop (mkF m 8 #[.val (.int sel), .val (.int pm), .val (.int ((sel &&& (2147483647 : Int32)) % (5 : Int32))), .unset, .unset, .unset] [(.int ((sel &&& (2147483647 : Int32)) % (5 : Int32)))]))
  by_cases hc1 : ((sel &&& (2147483647 : Int32)) % (5 : Int32)) = (0 : Int32)
  · refine own_step (fun _ κ => XS.ifNo X0.here hx rfl (hb hby at_8) rfl ((if0 _ _).trans (teq hc1).2) κ) ?_
    show own_Go _ _ _ _ (s₁.setTop (mkF m 11 #[.val (.int sel), .val (.int pm), .val (.int ((sel &&& (2147483647 : Int32)) % (5 : Int32))), .unset, .unset, .unset] []))
    obtain ⟨T2, X2, e2, st2⟩ := getS2 X0 hx hZ hown (host := "") (Or.inl (hw _ (List.mem_of_getElem? (i := 1) rfl))) Via.refl e0 (P1.ext P0.2) (g := (mkF m 11 #[.val (.int sel), .val (.int pm), .val (.int ((sel &&& (2147483647 : Int32)) % (5 : Int32))), .unset, .unset, .unset] [])) rfl (hb hby at_11)
    refine own_step st2 ?_
    show own_Go _ _ _ _ (T2.setTop (mkF m 14 #[.val (.int sel), .val (.int pm), .val (.int ((sel &&& (2147483647 : Int32)) % (5 : Int32))), .unset, .unset, .unset] [(.ref s_CREATE)]))
    refine own_step (fun _ κ => XS.astoreN X2.here hx rfl (hb hby at_14) rfl rfl (l' := #[.val (.int sel), .val (.int pm), .val (.int ((sel &&& (2147483647 : Int32)) % (5 : Int32))), .val (.ref s_CREATE), .unset, .unset]) rfl κ) ?_
    show own_Go _ _ _ _ (T2.setTop (mkF m 15 #[.val (.int sel), .val (.int pm), .val (.int ((sel &&& (2147483647 : Int32)) % (5 : Int32))), .val (.ref s_CREATE), .unset, .unset] []))
    refine own_step (fun _ κ => XS.iconst X2.here hx rfl (hb hby at_15) κ) ?_
    show own_Go _ _ _ _ (T2.setTop (mkF m 16 #[.val (.int sel), .val (.int pm), .val (.int ((sel &&& (2147483647 : Int32)) % (5 : Int32))), .val (.ref s_CREATE), .unset, .unset] [(.int (2 : Int32))]))
    refine own_step (fun _ κ => XS.istore X2.here hx rfl (hb hby at_16) rfl (l' := #[.val (.int sel), .val (.int pm), .val (.int ((sel &&& (2147483647 : Int32)) % (5 : Int32))), .val (.ref s_CREATE), .val (.int (2 : Int32)), .unset]) rfl κ) ?_
    show own_Go _ _ _ _ (T2.setTop (mkF m 18 #[.val (.int sel), .val (.int pm), .val (.int ((sel &&& (2147483647 : Int32)) % (5 : Int32))), .val (.ref s_CREATE), .val (.int (2 : Int32)), .unset] []))
    refine own_step (fun _ κ => XS.goto X2.here hx rfl (pc0 := 18) (pc' := 73) rfl (hb hby at_18) (by decide) (by decide) κ) ?_
    show own_Go _ _ _ _ (T2.setTop (mkF m 73 #[.val (.int sel), .val (.int pm), .val (.int ((sel &&& (2147483647 : Int32)) % (5 : Int32))), .val (.ref s_CREATE), .val (.int (2 : Int32)), .unset] []))
    refine own_step (fun _ κ => XS.iloadN X2.here hx rfl (hb hby at_73) rfl κ) ?_
    show own_Go _ _ _ _ (T2.setTop (mkF m 74 #[.val (.int sel), .val (.int pm), .val (.int ((sel &&& (2147483647 : Int32)) % (5 : Int32))), .val (.ref s_CREATE), .val (.int (2 : Int32)), .unset] [(.int pm)]))
    refine own_step (fun _ κ => XS.iload X2.here hx rfl (hb hby at_74) rfl κ) ?_
    show own_Go _ _ _ _ (T2.setTop (mkF m 76 #[.val (.int sel), .val (.int pm), .val (.int ((sel &&& (2147483647 : Int32)) % (5 : Int32))), .val (.ref s_CREATE), .val (.int (2 : Int32)), .unset] [(.int (2 : Int32)), (.int pm)]))
    refine own_step (fun _ κ => XS.iushr X2.here hx rfl (hb hby at_76) rfl κ) ?_
    show own_Go _ _ _ _ (T2.setTop (mkF m 77 #[.val (.int sel), .val (.int pm), .val (.int ((sel &&& (2147483647 : Int32)) % (5 : Int32))), .val (.ref s_CREATE), .val (.int (2 : Int32)), .unset] [(.int ((pm.toUInt32 >>> ((2 : Int32) &&& 31).toUInt32).toInt32))]))
    refine own_step (fun _ κ => XS.iconst X2.here hx rfl (hb hby at_77) κ) ?_
    show own_Go _ _ _ _ (T2.setTop (mkF m 78 #[.val (.int sel), .val (.int pm), .val (.int ((sel &&& (2147483647 : Int32)) % (5 : Int32))), .val (.ref s_CREATE), .val (.int (2 : Int32)), .unset] [(.int (1 : Int32)), (.int ((pm.toUInt32 >>> ((2 : Int32) &&& 31).toUInt32).toInt32))]))
    refine own_step (fun _ κ => XS.iand X2.here hx rfl (hb hby at_78) rfl κ) ?_
    show own_Go _ _ _ _ (T2.setTop (mkF m 79 #[.val (.int sel), .val (.int pm), .val (.int ((sel &&& (2147483647 : Int32)) % (5 : Int32))), .val (.ref s_CREATE), .val (.int (2 : Int32)), .unset] [(.int (((pm.toUInt32 >>> ((2 : Int32) &&& 31).toUInt32).toInt32) &&& (1 : Int32)))]))
    refine own_step (fun _ κ => XS.iconst X2.here hx rfl (hb hby at_79) κ) ?_
    show own_Go _ _ _ _ (T2.setTop (mkF m 80 #[.val (.int sel), .val (.int pm), .val (.int ((sel &&& (2147483647 : Int32)) % (5 : Int32))), .val (.ref s_CREATE), .val (.int (2 : Int32)), .unset] [(.int (1 : Int32)), (.int (((pm.toUInt32 >>> ((2 : Int32) &&& 31).toUInt32).toInt32) &&& (1 : Int32)))]))
    by_cases hc3 : (((pm.toUInt32 >>> ((2 : Int32) &&& 31).toUInt32).toInt32) &&& (1 : Int32)) = (1 : Int32)
    · refine own_step (fun _ κ => XS.icmpNo X2.here hx rfl (hb hby at_80) rfl (teq hc3).2 κ) ?_
      show own_Go _ _ _ _ (T2.setTop (mkF m 83 #[.val (.int sel), .val (.int pm), .val (.int ((sel &&& (2147483647 : Int32)) % (5 : Int32))), .val (.ref s_CREATE), .val (.int (2 : Int32)), .unset] []))
      refine own_step (fun _ κ => XS.iconst X2.here hx rfl (hb hby at_83) κ) ?_
      show own_Go _ _ _ _ (T2.setTop (mkF m 84 #[.val (.int sel), .val (.int pm), .val (.int ((sel &&& (2147483647 : Int32)) % (5 : Int32))), .val (.ref s_CREATE), .val (.int (2 : Int32)), .unset] [(.int (1 : Int32))]))
      refine own_step (fun _ κ => XS.goto X2.here hx rfl (pc0 := 84) (pc' := 88) rfl (hb hby at_84) (by decide) (by decide) κ) ?_
      show own_Go _ _ _ _ (T2.setTop (mkF m 88 #[.val (.int sel), .val (.int pm), .val (.int ((sel &&& (2147483647 : Int32)) % (5 : Int32))), .val (.ref s_CREATE), .val (.int (2 : Int32)), .unset] [(.int (1 : Int32))]))
      refine own_step (fun _ κ => XS.istore X2.here hx rfl (hb hby at_88) rfl (l' := #[.val (.int sel), .val (.int pm), .val (.int ((sel &&& (2147483647 : Int32)) % (5 : Int32))), .val (.ref s_CREATE), .val (.int (2 : Int32)), .val (.int (1 : Int32))]) rfl κ) ?_
      show own_Go _ _ _ _ (T2.setTop (mkF m 90 #[.val (.int sel), .val (.int pm), .val (.int ((sel &&& (2147483647 : Int32)) % (5 : Int32))), .val (.ref s_CREATE), .val (.int (2 : Int32)), .val (.int (1 : Int32))] []))
      refine own_step (fun _ κ => XS.aloadN X2.here hx rfl (hb hby at_90) rfl rfl κ) ?_
      show own_Go _ _ _ _ (T2.setTop (mkF m 91 #[.val (.int sel), .val (.int pm), .val (.int ((sel &&& (2147483647 : Int32)) % (5 : Int32))), .val (.ref s_CREATE), .val (.int (2 : Int32)), .val (.int (1 : Int32))] [(.ref s_CREATE)]))
      refine own_step (fun _ κ => XS.iloadN X2.here hx rfl (hb hby at_91) rfl κ) ?_
      show own_Go _ _ _ _ (T2.setTop (mkF m 92 #[.val (.int sel), .val (.int pm), .val (.int ((sel &&& (2147483647 : Int32)) % (5 : Int32))), .val (.ref s_CREATE), .val (.int (2 : Int32)), .val (.int (1 : Int32))] [(.int pm), (.ref s_CREATE)]))
      obtain ⟨cq4, kq4, q4a, q4b, q4c⟩ := isOf hZ e2 (P2.ext P0.2)
      obtain ⟨vr4, _, ⟨T4, L4, k4, n4⟩, -, X4, ⟨Lc4, hQ4, l4, y4, z4⟩, st4⟩ := X2.virtualBack hx (y := (⟨"com/example/cairn/cairn/model/Permission", "in", "(I)Z"⟩ : MethodName)) (z := (⟨"com/example/cairn/cairn/model/Permission", "in", "(I)Z"⟩ : MethodName)) hown (mvT hZ (hw _ (List.mem_of_getElem? (i := 4) rfl))) (mvT hZ (hw _ (List.mem_of_getElem? (i := 5) rfl))) (notFace_of_selects (args := #[]) (mvT hZ (hw _ (List.mem_of_getElem? (i := 7) rfl)))) (mvT hZ (hw _ (List.mem_of_getElem? (i := 7) rfl))) (mvT hZ (hw _ (List.mem_of_getElem? (i := 6) rfl))) (by decide) (backOf (W := 0) (rm1 l Z a0 hw [] s_CREATE pm (4 : Int32) h0 n0 Z0 (P11.ext P0.2)) hZ (hw _ (List.mem_of_getElem? (i := 8) rfl)) (hw _ (List.mem_of_getElem? (i := 2) rfl)) (by decide) (by decide)) q4a q4c (g := (mkF m 92 #[.val (.int sel), .val (.int pm), .val (.int ((sel &&& (2147483647 : Int32)) % (5 : Int32))), .val (.ref s_CREATE), .val (.int (2 : Int32)), .val (.int (1 : Int32))] [(.int pm), (.ref s_CREATE)])) rfl (by rw [hml]; rfl) (Steps.refl _) (argsL := [(.int pm)]) (rest := []) (lenOf pd_0 rfl) rfl (by show 2 * 0 + _ ≤ _; exact Nat.le_of_eq rfl) (hb hby at_92) (fun _ _ => ⟨rfl, e2, (by decide : 0 + 0 ≤ _), (by decide : 0 + 0 ≤ _)⟩)
      dsimp only [Pt.U, Pt.locs, Pt.cells, Pt.slots] at X4 l4 y4 z4 st4 hQ4
      subst l4 y4 z4
      obtain ⟨hv4, Nq4, eq4⟩ := hQ4
      have N4 := Fr.app N0 Nq4
      rw [if_neg ((own_bit pm (2 : Int32) (4 : Int32) 2 (by decide) (by decide) (by decide)).mp hc3)] at hv4
      subst hv4
      refine own_step (fun _ κ => st4.trans κ) ?_
      show own_Go _ _ _ _ (T4.setTop (mkF m 95 #[.val (.int sel), .val (.int pm), .val (.int ((sel &&& (2147483647 : Int32)) % (5 : Int32))), .val (.ref s_CREATE), .val (.int (2 : Int32)), .val (.int (1 : Int32))] [(.int (1 : Int32))]))
      refine own_step (fun _ κ => XS.iload X4.here hx rfl (hb hby at_95) rfl κ) ?_
      show own_Go _ _ _ _ (T4.setTop (mkF m 97 #[.val (.int sel), .val (.int pm), .val (.int ((sel &&& (2147483647 : Int32)) % (5 : Int32))), .val (.ref s_CREATE), .val (.int (2 : Int32)), .val (.int (1 : Int32))] [(.int (1 : Int32)), (.int (1 : Int32))]))
      refine own_step (fun _ κ => XS.icmpNo X4.here hx rfl (hb hby at_97) rfl (teq rfl).2 κ) ?_
      show own_Go _ _ _ _ (T4.setTop (mkF m 100 #[.val (.int sel), .val (.int pm), .val (.int ((sel &&& (2147483647 : Int32)) % (5 : Int32))), .val (.ref s_CREATE), .val (.int (2 : Int32)), .val (.int (1 : Int32))] []))
      refine own_step (fun _ κ => XS.iconst X4.here hx rfl (hb hby at_100) κ) ?_
      show own_Go _ _ _ _ (T4.setTop (mkF m 101 #[.val (.int sel), .val (.int pm), .val (.int ((sel &&& (2147483647 : Int32)) % (5 : Int32))), .val (.ref s_CREATE), .val (.int (2 : Int32)), .val (.int (1 : Int32))] [(.int (1 : Int32))]))
      refine own_step (fun _ κ => XS.goto X4.here hx rfl (pc0 := 101) (pc' := 105) rfl (hb hby at_101) (by decide) (by decide) κ) ?_
      show own_Go _ _ _ _ (T4.setTop (mkF m 105 #[.val (.int sel), .val (.int pm), .val (.int ((sel &&& (2147483647 : Int32)) % (5 : Int32))), .val (.ref s_CREATE), .val (.int (2 : Int32)), .val (.int (1 : Int32))] [(.int (1 : Int32))]))
      obtain ⟨fs, hr, hrun, hended, hW, hsame⟩ := X4.leave (v := some (.int (1 : Int32))) (fun h => by rw [Bd.returns] at h; cases h)
      refine ⟨_, _, retN X4 hx (t := .boolean) Bd.returns (by simp) (hb hby at_105) hr, hrun, hended, _, _, rfl, ?_, ⟨_, rfl⟩, hW, hsame.mono (by decide) (by decide)⟩
      show Q0 Z sel pm s_CREATE s_ADMIN s_WRITE s_DELETE s_READ h0 n0 _ T4.heap _
      exact ⟨rfl, N4⟩
    · refine own_step (fun _ κ => XS.icmpYes X2.here hx rfl (pc0 := 80) (pc' := 87) rfl (hb hby at_80) rfl (feq hc3).2 (by decide) (by decide) κ) ?_
      show own_Go _ _ _ _ (T2.setTop (mkF m 87 #[.val (.int sel), .val (.int pm), .val (.int ((sel &&& (2147483647 : Int32)) % (5 : Int32))), .val (.ref s_CREATE), .val (.int (2 : Int32)), .unset] []))
      refine own_step (fun _ κ => XS.iconst X2.here hx rfl (hb hby at_87) κ) ?_
      show own_Go _ _ _ _ (T2.setTop (mkF m 88 #[.val (.int sel), .val (.int pm), .val (.int ((sel &&& (2147483647 : Int32)) % (5 : Int32))), .val (.ref s_CREATE), .val (.int (2 : Int32)), .unset] [(.int (0 : Int32))]))
      refine own_step (fun _ κ => XS.istore X2.here hx rfl (hb hby at_88) rfl (l' := #[.val (.int sel), .val (.int pm), .val (.int ((sel &&& (2147483647 : Int32)) % (5 : Int32))), .val (.ref s_CREATE), .val (.int (2 : Int32)), .val (.int (0 : Int32))]) rfl κ) ?_
      show own_Go _ _ _ _ (T2.setTop (mkF m 90 #[.val (.int sel), .val (.int pm), .val (.int ((sel &&& (2147483647 : Int32)) % (5 : Int32))), .val (.ref s_CREATE), .val (.int (2 : Int32)), .val (.int (0 : Int32))] []))
      refine own_step (fun _ κ => XS.aloadN X2.here hx rfl (hb hby at_90) rfl rfl κ) ?_
      show own_Go _ _ _ _ (T2.setTop (mkF m 91 #[.val (.int sel), .val (.int pm), .val (.int ((sel &&& (2147483647 : Int32)) % (5 : Int32))), .val (.ref s_CREATE), .val (.int (2 : Int32)), .val (.int (0 : Int32))] [(.ref s_CREATE)]))
      refine own_step (fun _ κ => XS.iloadN X2.here hx rfl (hb hby at_91) rfl κ) ?_
      show own_Go _ _ _ _ (T2.setTop (mkF m 92 #[.val (.int sel), .val (.int pm), .val (.int ((sel &&& (2147483647 : Int32)) % (5 : Int32))), .val (.ref s_CREATE), .val (.int (2 : Int32)), .val (.int (0 : Int32))] [(.int pm), (.ref s_CREATE)]))
      obtain ⟨cq5, kq5, q5a, q5b, q5c⟩ := isOf hZ e2 (P2.ext P0.2)
      obtain ⟨vr5, _, ⟨T5, L5, k5, n5⟩, -, X5, ⟨Lc5, hQ5, l5, y5, z5⟩, st5⟩ := X2.virtualBack hx (y := (⟨"com/example/cairn/cairn/model/Permission", "in", "(I)Z"⟩ : MethodName)) (z := (⟨"com/example/cairn/cairn/model/Permission", "in", "(I)Z"⟩ : MethodName)) hown (mvT hZ (hw _ (List.mem_of_getElem? (i := 4) rfl))) (mvT hZ (hw _ (List.mem_of_getElem? (i := 5) rfl))) (notFace_of_selects (args := #[]) (mvT hZ (hw _ (List.mem_of_getElem? (i := 7) rfl)))) (mvT hZ (hw _ (List.mem_of_getElem? (i := 7) rfl))) (mvT hZ (hw _ (List.mem_of_getElem? (i := 6) rfl))) (by decide) (backOf (W := 0) (rm1 l Z a0 hw [] s_CREATE pm (4 : Int32) h0 n0 Z0 (P11.ext P0.2)) hZ (hw _ (List.mem_of_getElem? (i := 8) rfl)) (hw _ (List.mem_of_getElem? (i := 2) rfl)) (by decide) (by decide)) q5a q5c (g := (mkF m 92 #[.val (.int sel), .val (.int pm), .val (.int ((sel &&& (2147483647 : Int32)) % (5 : Int32))), .val (.ref s_CREATE), .val (.int (2 : Int32)), .val (.int (0 : Int32))] [(.int pm), (.ref s_CREATE)])) rfl (by rw [hml]; rfl) (Steps.refl _) (argsL := [(.int pm)]) (rest := []) (lenOf pd_0 rfl) rfl (by show 2 * 0 + _ ≤ _; exact Nat.le_of_eq rfl) (hb hby at_92) (fun _ _ => ⟨rfl, e2, (by decide : 0 + 0 ≤ _), (by decide : 0 + 0 ≤ _)⟩)
      dsimp only [Pt.U, Pt.locs, Pt.cells, Pt.slots] at X5 l5 y5 z5 st5 hQ5
      subst l5 y5 z5
      obtain ⟨hv5, Nq5, eq5⟩ := hQ5
      have N5 := Fr.app N0 Nq5
      rw [if_pos (Classical.byContradiction fun q => hc3 (((own_bit pm (2 : Int32) (4 : Int32) 2 (by decide) (by decide) (by decide)).mpr q)))] at hv5
      subst hv5
      refine own_step (fun _ κ => st5.trans κ) ?_
      show own_Go _ _ _ _ (T5.setTop (mkF m 95 #[.val (.int sel), .val (.int pm), .val (.int ((sel &&& (2147483647 : Int32)) % (5 : Int32))), .val (.ref s_CREATE), .val (.int (2 : Int32)), .val (.int (0 : Int32))] [(.int (0 : Int32))]))
      refine own_step (fun _ κ => XS.iload X5.here hx rfl (hb hby at_95) rfl κ) ?_
      show own_Go _ _ _ _ (T5.setTop (mkF m 97 #[.val (.int sel), .val (.int pm), .val (.int ((sel &&& (2147483647 : Int32)) % (5 : Int32))), .val (.ref s_CREATE), .val (.int (2 : Int32)), .val (.int (0 : Int32))] [(.int (0 : Int32)), (.int (0 : Int32))]))
      refine own_step (fun _ κ => XS.icmpNo X5.here hx rfl (hb hby at_97) rfl (teq rfl).2 κ) ?_
      show own_Go _ _ _ _ (T5.setTop (mkF m 100 #[.val (.int sel), .val (.int pm), .val (.int ((sel &&& (2147483647 : Int32)) % (5 : Int32))), .val (.ref s_CREATE), .val (.int (2 : Int32)), .val (.int (0 : Int32))] []))
      refine own_step (fun _ κ => XS.iconst X5.here hx rfl (hb hby at_100) κ) ?_
      show own_Go _ _ _ _ (T5.setTop (mkF m 101 #[.val (.int sel), .val (.int pm), .val (.int ((sel &&& (2147483647 : Int32)) % (5 : Int32))), .val (.ref s_CREATE), .val (.int (2 : Int32)), .val (.int (0 : Int32))] [(.int (1 : Int32))]))
      refine own_step (fun _ κ => XS.goto X5.here hx rfl (pc0 := 101) (pc' := 105) rfl (hb hby at_101) (by decide) (by decide) κ) ?_
      show own_Go _ _ _ _ (T5.setTop (mkF m 105 #[.val (.int sel), .val (.int pm), .val (.int ((sel &&& (2147483647 : Int32)) % (5 : Int32))), .val (.ref s_CREATE), .val (.int (2 : Int32)), .val (.int (0 : Int32))] [(.int (1 : Int32))]))
      obtain ⟨fs, hr, hrun, hended, hW, hsame⟩ := X5.leave (v := some (.int (1 : Int32))) (fun h => by rw [Bd.returns] at h; cases h)
      refine ⟨_, _, retN X5 hx (t := .boolean) Bd.returns (by simp) (hb hby at_105) hr, hrun, hended, _, _, rfl, ?_, ⟨_, rfl⟩, hW, hsame.mono (by decide) (by decide)⟩
      show Q0 Z sel pm s_CREATE s_ADMIN s_WRITE s_DELETE s_READ h0 n0 _ T5.heap _
      exact ⟨rfl, N5⟩
  · refine own_step (fun _ κ => XS.ifYes X0.here hx rfl (pc0 := 8) (pc' := 21) rfl (hb hby at_8) rfl ((if0 _ _).trans (feq hc1).2) (by decide) (by decide) κ) ?_
    show own_Go _ _ _ _ (s₁.setTop (mkF m 21 #[.val (.int sel), .val (.int pm), .val (.int ((sel &&& (2147483647 : Int32)) % (5 : Int32))), .unset, .unset, .unset] []))
    refine own_step (fun _ κ => XS.iloadN X0.here hx rfl (hb hby at_21) rfl κ) ?_
    show own_Go _ _ _ _ (s₁.setTop (mkF m 22 #[.val (.int sel), .val (.int pm), .val (.int ((sel &&& (2147483647 : Int32)) % (5 : Int32))), .unset, .unset, .unset] [(.int ((sel &&& (2147483647 : Int32)) % (5 : Int32)))]))
    refine own_step (fun _ κ => XS.iconst X0.here hx rfl (hb hby at_22) κ) ?_
    show own_Go _ _ _ _ (s₁.setTop (mkF m 23 #[.val (.int sel), .val (.int pm), .val (.int ((sel &&& (2147483647 : Int32)) % (5 : Int32))), .unset, .unset, .unset] [(.int (1 : Int32)), (.int ((sel &&& (2147483647 : Int32)) % (5 : Int32)))]))
    by_cases hc6 : ((sel &&& (2147483647 : Int32)) % (5 : Int32)) = (1 : Int32)
    · refine own_step (fun _ κ => XS.icmpNo X0.here hx rfl (hb hby at_23) rfl (teq hc6).2 κ) ?_
      show own_Go _ _ _ _ (s₁.setTop (mkF m 26 #[.val (.int sel), .val (.int pm), .val (.int ((sel &&& (2147483647 : Int32)) % (5 : Int32))), .unset, .unset, .unset] []))
      obtain ⟨T7, X7, e7, st7⟩ := getS2 X0 hx hZ hown (host := "") (Or.inl (hw _ (List.mem_of_getElem? (i := 15) rfl))) Via.refl e0 (P7.ext P0.2) (g := (mkF m 26 #[.val (.int sel), .val (.int pm), .val (.int ((sel &&& (2147483647 : Int32)) % (5 : Int32))), .unset, .unset, .unset] [])) rfl (hb hby at_26)
      refine own_step st7 ?_
      show own_Go _ _ _ _ (T7.setTop (mkF m 29 #[.val (.int sel), .val (.int pm), .val (.int ((sel &&& (2147483647 : Int32)) % (5 : Int32))), .unset, .unset, .unset] [(.ref s_DELETE)]))
      refine own_step (fun _ κ => XS.astoreN X7.here hx rfl (hb hby at_29) rfl rfl (l' := #[.val (.int sel), .val (.int pm), .val (.int ((sel &&& (2147483647 : Int32)) % (5 : Int32))), .val (.ref s_DELETE), .unset, .unset]) rfl κ) ?_
      show own_Go _ _ _ _ (T7.setTop (mkF m 30 #[.val (.int sel), .val (.int pm), .val (.int ((sel &&& (2147483647 : Int32)) % (5 : Int32))), .val (.ref s_DELETE), .unset, .unset] []))
      refine own_step (fun _ κ => XS.iconst X7.here hx rfl (hb hby at_30) κ) ?_
      show own_Go _ _ _ _ (T7.setTop (mkF m 31 #[.val (.int sel), .val (.int pm), .val (.int ((sel &&& (2147483647 : Int32)) % (5 : Int32))), .val (.ref s_DELETE), .unset, .unset] [(.int (3 : Int32))]))
      refine own_step (fun _ κ => XS.istore X7.here hx rfl (hb hby at_31) rfl (l' := #[.val (.int sel), .val (.int pm), .val (.int ((sel &&& (2147483647 : Int32)) % (5 : Int32))), .val (.ref s_DELETE), .val (.int (3 : Int32)), .unset]) rfl κ) ?_
      show own_Go _ _ _ _ (T7.setTop (mkF m 33 #[.val (.int sel), .val (.int pm), .val (.int ((sel &&& (2147483647 : Int32)) % (5 : Int32))), .val (.ref s_DELETE), .val (.int (3 : Int32)), .unset] []))
      refine own_step (fun _ κ => XS.goto X7.here hx rfl (pc0 := 33) (pc' := 73) rfl (hb hby at_33) (by decide) (by decide) κ) ?_
      show own_Go _ _ _ _ (T7.setTop (mkF m 73 #[.val (.int sel), .val (.int pm), .val (.int ((sel &&& (2147483647 : Int32)) % (5 : Int32))), .val (.ref s_DELETE), .val (.int (3 : Int32)), .unset] []))
      refine own_step (fun _ κ => XS.iloadN X7.here hx rfl (hb hby at_73) rfl κ) ?_
      show own_Go _ _ _ _ (T7.setTop (mkF m 74 #[.val (.int sel), .val (.int pm), .val (.int ((sel &&& (2147483647 : Int32)) % (5 : Int32))), .val (.ref s_DELETE), .val (.int (3 : Int32)), .unset] [(.int pm)]))
      refine own_step (fun _ κ => XS.iload X7.here hx rfl (hb hby at_74) rfl κ) ?_
      show own_Go _ _ _ _ (T7.setTop (mkF m 76 #[.val (.int sel), .val (.int pm), .val (.int ((sel &&& (2147483647 : Int32)) % (5 : Int32))), .val (.ref s_DELETE), .val (.int (3 : Int32)), .unset] [(.int (3 : Int32)), (.int pm)]))
      refine own_step (fun _ κ => XS.iushr X7.here hx rfl (hb hby at_76) rfl κ) ?_
      show own_Go _ _ _ _ (T7.setTop (mkF m 77 #[.val (.int sel), .val (.int pm), .val (.int ((sel &&& (2147483647 : Int32)) % (5 : Int32))), .val (.ref s_DELETE), .val (.int (3 : Int32)), .unset] [(.int ((pm.toUInt32 >>> ((3 : Int32) &&& 31).toUInt32).toInt32))]))
      refine own_step (fun _ κ => XS.iconst X7.here hx rfl (hb hby at_77) κ) ?_
      show own_Go _ _ _ _ (T7.setTop (mkF m 78 #[.val (.int sel), .val (.int pm), .val (.int ((sel &&& (2147483647 : Int32)) % (5 : Int32))), .val (.ref s_DELETE), .val (.int (3 : Int32)), .unset] [(.int (1 : Int32)), (.int ((pm.toUInt32 >>> ((3 : Int32) &&& 31).toUInt32).toInt32))]))
      refine own_step (fun _ κ => XS.iand X7.here hx rfl (hb hby at_78) rfl κ) ?_
      show own_Go _ _ _ _ (T7.setTop (mkF m 79 #[.val (.int sel), .val (.int pm), .val (.int ((sel &&& (2147483647 : Int32)) % (5 : Int32))), .val (.ref s_DELETE), .val (.int (3 : Int32)), .unset] [(.int (((pm.toUInt32 >>> ((3 : Int32) &&& 31).toUInt32).toInt32) &&& (1 : Int32)))]))
      refine own_step (fun _ κ => XS.iconst X7.here hx rfl (hb hby at_79) κ) ?_
      show own_Go _ _ _ _ (T7.setTop (mkF m 80 #[.val (.int sel), .val (.int pm), .val (.int ((sel &&& (2147483647 : Int32)) % (5 : Int32))), .val (.ref s_DELETE), .val (.int (3 : Int32)), .unset] [(.int (1 : Int32)), (.int (((pm.toUInt32 >>> ((3 : Int32) &&& 31).toUInt32).toInt32) &&& (1 : Int32)))]))
      by_cases hc8 : (((pm.toUInt32 >>> ((3 : Int32) &&& 31).toUInt32).toInt32) &&& (1 : Int32)) = (1 : Int32)
      · refine own_step (fun _ κ => XS.icmpNo X7.here hx rfl (hb hby at_80) rfl (teq hc8).2 κ) ?_
        show own_Go _ _ _ _ (T7.setTop (mkF m 83 #[.val (.int sel), .val (.int pm), .val (.int ((sel &&& (2147483647 : Int32)) % (5 : Int32))), .val (.ref s_DELETE), .val (.int (3 : Int32)), .unset] []))
        refine own_step (fun _ κ => XS.iconst X7.here hx rfl (hb hby at_83) κ) ?_
        show own_Go _ _ _ _ (T7.setTop (mkF m 84 #[.val (.int sel), .val (.int pm), .val (.int ((sel &&& (2147483647 : Int32)) % (5 : Int32))), .val (.ref s_DELETE), .val (.int (3 : Int32)), .unset] [(.int (1 : Int32))]))
        refine own_step (fun _ κ => XS.goto X7.here hx rfl (pc0 := 84) (pc' := 88) rfl (hb hby at_84) (by decide) (by decide) κ) ?_
        show own_Go _ _ _ _ (T7.setTop (mkF m 88 #[.val (.int sel), .val (.int pm), .val (.int ((sel &&& (2147483647 : Int32)) % (5 : Int32))), .val (.ref s_DELETE), .val (.int (3 : Int32)), .unset] [(.int (1 : Int32))]))
        refine own_step (fun _ κ => XS.istore X7.here hx rfl (hb hby at_88) rfl (l' := #[.val (.int sel), .val (.int pm), .val (.int ((sel &&& (2147483647 : Int32)) % (5 : Int32))), .val (.ref s_DELETE), .val (.int (3 : Int32)), .val (.int (1 : Int32))]) rfl κ) ?_
        show own_Go _ _ _ _ (T7.setTop (mkF m 90 #[.val (.int sel), .val (.int pm), .val (.int ((sel &&& (2147483647 : Int32)) % (5 : Int32))), .val (.ref s_DELETE), .val (.int (3 : Int32)), .val (.int (1 : Int32))] []))
        refine own_step (fun _ κ => XS.aloadN X7.here hx rfl (hb hby at_90) rfl rfl κ) ?_
        show own_Go _ _ _ _ (T7.setTop (mkF m 91 #[.val (.int sel), .val (.int pm), .val (.int ((sel &&& (2147483647 : Int32)) % (5 : Int32))), .val (.ref s_DELETE), .val (.int (3 : Int32)), .val (.int (1 : Int32))] [(.ref s_DELETE)]))
        refine own_step (fun _ κ => XS.iloadN X7.here hx rfl (hb hby at_91) rfl κ) ?_
        show own_Go _ _ _ _ (T7.setTop (mkF m 92 #[.val (.int sel), .val (.int pm), .val (.int ((sel &&& (2147483647 : Int32)) % (5 : Int32))), .val (.ref s_DELETE), .val (.int (3 : Int32)), .val (.int (1 : Int32))] [(.int pm), (.ref s_DELETE)]))
        obtain ⟨cq9, kq9, q9a, q9b, q9c⟩ := isOf hZ e7 (P8.ext P0.2)
        obtain ⟨vr9, _, ⟨T9, L9, k9, n9⟩, -, X9, ⟨Lc9, hQ9, l9, y9, z9⟩, st9⟩ := X7.virtualBack hx (y := (⟨"com/example/cairn/cairn/model/Permission", "in", "(I)Z"⟩ : MethodName)) (z := (⟨"com/example/cairn/cairn/model/Permission", "in", "(I)Z"⟩ : MethodName)) hown (mvT hZ (hw _ (List.mem_of_getElem? (i := 4) rfl))) (mvT hZ (hw _ (List.mem_of_getElem? (i := 5) rfl))) (notFace_of_selects (args := #[]) (mvT hZ (hw _ (List.mem_of_getElem? (i := 7) rfl)))) (mvT hZ (hw _ (List.mem_of_getElem? (i := 7) rfl))) (mvT hZ (hw _ (List.mem_of_getElem? (i := 6) rfl))) (by decide) (backOf (W := 0) (rm1 l Z a0 hw [] s_DELETE pm (8 : Int32) h0 n0 Z0 (P14.ext P0.2)) hZ (hw _ (List.mem_of_getElem? (i := 8) rfl)) (hw _ (List.mem_of_getElem? (i := 2) rfl)) (by decide) (by decide)) q9a q9c (g := (mkF m 92 #[.val (.int sel), .val (.int pm), .val (.int ((sel &&& (2147483647 : Int32)) % (5 : Int32))), .val (.ref s_DELETE), .val (.int (3 : Int32)), .val (.int (1 : Int32))] [(.int pm), (.ref s_DELETE)])) rfl (by rw [hml]; rfl) (Steps.refl _) (argsL := [(.int pm)]) (rest := []) (lenOf pd_0 rfl) rfl (by show 2 * 0 + _ ≤ _; exact Nat.le_of_eq rfl) (hb hby at_92) (fun _ _ => ⟨rfl, e7, (by decide : 0 + 0 ≤ _), (by decide : 0 + 0 ≤ _)⟩)
        dsimp only [Pt.U, Pt.locs, Pt.cells, Pt.slots] at X9 l9 y9 z9 st9 hQ9
        subst l9 y9 z9
        obtain ⟨hv9, Nq9, eq9⟩ := hQ9
        have N9 := Fr.app N0 Nq9
        rw [if_neg ((own_bit pm (3 : Int32) (8 : Int32) 3 (by decide) (by decide) (by decide)).mp hc8)] at hv9
        subst hv9
        refine own_step (fun _ κ => st9.trans κ) ?_
        show own_Go _ _ _ _ (T9.setTop (mkF m 95 #[.val (.int sel), .val (.int pm), .val (.int ((sel &&& (2147483647 : Int32)) % (5 : Int32))), .val (.ref s_DELETE), .val (.int (3 : Int32)), .val (.int (1 : Int32))] [(.int (1 : Int32))]))
        refine own_step (fun _ κ => XS.iload X9.here hx rfl (hb hby at_95) rfl κ) ?_
        show own_Go _ _ _ _ (T9.setTop (mkF m 97 #[.val (.int sel), .val (.int pm), .val (.int ((sel &&& (2147483647 : Int32)) % (5 : Int32))), .val (.ref s_DELETE), .val (.int (3 : Int32)), .val (.int (1 : Int32))] [(.int (1 : Int32)), (.int (1 : Int32))]))
        refine own_step (fun _ κ => XS.icmpNo X9.here hx rfl (hb hby at_97) rfl (teq rfl).2 κ) ?_
        show own_Go _ _ _ _ (T9.setTop (mkF m 100 #[.val (.int sel), .val (.int pm), .val (.int ((sel &&& (2147483647 : Int32)) % (5 : Int32))), .val (.ref s_DELETE), .val (.int (3 : Int32)), .val (.int (1 : Int32))] []))
        refine own_step (fun _ κ => XS.iconst X9.here hx rfl (hb hby at_100) κ) ?_
        show own_Go _ _ _ _ (T9.setTop (mkF m 101 #[.val (.int sel), .val (.int pm), .val (.int ((sel &&& (2147483647 : Int32)) % (5 : Int32))), .val (.ref s_DELETE), .val (.int (3 : Int32)), .val (.int (1 : Int32))] [(.int (1 : Int32))]))
        refine own_step (fun _ κ => XS.goto X9.here hx rfl (pc0 := 101) (pc' := 105) rfl (hb hby at_101) (by decide) (by decide) κ) ?_
        show own_Go _ _ _ _ (T9.setTop (mkF m 105 #[.val (.int sel), .val (.int pm), .val (.int ((sel &&& (2147483647 : Int32)) % (5 : Int32))), .val (.ref s_DELETE), .val (.int (3 : Int32)), .val (.int (1 : Int32))] [(.int (1 : Int32))]))
        obtain ⟨fs, hr, hrun, hended, hW, hsame⟩ := X9.leave (v := some (.int (1 : Int32))) (fun h => by rw [Bd.returns] at h; cases h)
        refine ⟨_, _, retN X9 hx (t := .boolean) Bd.returns (by simp) (hb hby at_105) hr, hrun, hended, _, _, rfl, ?_, ⟨_, rfl⟩, hW, hsame.mono (by decide) (by decide)⟩
        show Q0 Z sel pm s_CREATE s_ADMIN s_WRITE s_DELETE s_READ h0 n0 _ T9.heap _
        exact ⟨rfl, N9⟩
      · refine own_step (fun _ κ => XS.icmpYes X7.here hx rfl (pc0 := 80) (pc' := 87) rfl (hb hby at_80) rfl (feq hc8).2 (by decide) (by decide) κ) ?_
        show own_Go _ _ _ _ (T7.setTop (mkF m 87 #[.val (.int sel), .val (.int pm), .val (.int ((sel &&& (2147483647 : Int32)) % (5 : Int32))), .val (.ref s_DELETE), .val (.int (3 : Int32)), .unset] []))
        refine own_step (fun _ κ => XS.iconst X7.here hx rfl (hb hby at_87) κ) ?_
        show own_Go _ _ _ _ (T7.setTop (mkF m 88 #[.val (.int sel), .val (.int pm), .val (.int ((sel &&& (2147483647 : Int32)) % (5 : Int32))), .val (.ref s_DELETE), .val (.int (3 : Int32)), .unset] [(.int (0 : Int32))]))
        refine own_step (fun _ κ => XS.istore X7.here hx rfl (hb hby at_88) rfl (l' := #[.val (.int sel), .val (.int pm), .val (.int ((sel &&& (2147483647 : Int32)) % (5 : Int32))), .val (.ref s_DELETE), .val (.int (3 : Int32)), .val (.int (0 : Int32))]) rfl κ) ?_
        show own_Go _ _ _ _ (T7.setTop (mkF m 90 #[.val (.int sel), .val (.int pm), .val (.int ((sel &&& (2147483647 : Int32)) % (5 : Int32))), .val (.ref s_DELETE), .val (.int (3 : Int32)), .val (.int (0 : Int32))] []))
        refine own_step (fun _ κ => XS.aloadN X7.here hx rfl (hb hby at_90) rfl rfl κ) ?_
        show own_Go _ _ _ _ (T7.setTop (mkF m 91 #[.val (.int sel), .val (.int pm), .val (.int ((sel &&& (2147483647 : Int32)) % (5 : Int32))), .val (.ref s_DELETE), .val (.int (3 : Int32)), .val (.int (0 : Int32))] [(.ref s_DELETE)]))
        refine own_step (fun _ κ => XS.iloadN X7.here hx rfl (hb hby at_91) rfl κ) ?_
        show own_Go _ _ _ _ (T7.setTop (mkF m 92 #[.val (.int sel), .val (.int pm), .val (.int ((sel &&& (2147483647 : Int32)) % (5 : Int32))), .val (.ref s_DELETE), .val (.int (3 : Int32)), .val (.int (0 : Int32))] [(.int pm), (.ref s_DELETE)]))
        obtain ⟨cq10, kq10, q10a, q10b, q10c⟩ := isOf hZ e7 (P8.ext P0.2)
        obtain ⟨vr10, _, ⟨T10, L10, k10, n10⟩, -, X10, ⟨Lc10, hQ10, l10, y10, z10⟩, st10⟩ := X7.virtualBack hx (y := (⟨"com/example/cairn/cairn/model/Permission", "in", "(I)Z"⟩ : MethodName)) (z := (⟨"com/example/cairn/cairn/model/Permission", "in", "(I)Z"⟩ : MethodName)) hown (mvT hZ (hw _ (List.mem_of_getElem? (i := 4) rfl))) (mvT hZ (hw _ (List.mem_of_getElem? (i := 5) rfl))) (notFace_of_selects (args := #[]) (mvT hZ (hw _ (List.mem_of_getElem? (i := 7) rfl)))) (mvT hZ (hw _ (List.mem_of_getElem? (i := 7) rfl))) (mvT hZ (hw _ (List.mem_of_getElem? (i := 6) rfl))) (by decide) (backOf (W := 0) (rm1 l Z a0 hw [] s_DELETE pm (8 : Int32) h0 n0 Z0 (P14.ext P0.2)) hZ (hw _ (List.mem_of_getElem? (i := 8) rfl)) (hw _ (List.mem_of_getElem? (i := 2) rfl)) (by decide) (by decide)) q10a q10c (g := (mkF m 92 #[.val (.int sel), .val (.int pm), .val (.int ((sel &&& (2147483647 : Int32)) % (5 : Int32))), .val (.ref s_DELETE), .val (.int (3 : Int32)), .val (.int (0 : Int32))] [(.int pm), (.ref s_DELETE)])) rfl (by rw [hml]; rfl) (Steps.refl _) (argsL := [(.int pm)]) (rest := []) (lenOf pd_0 rfl) rfl (by show 2 * 0 + _ ≤ _; exact Nat.le_of_eq rfl) (hb hby at_92) (fun _ _ => ⟨rfl, e7, (by decide : 0 + 0 ≤ _), (by decide : 0 + 0 ≤ _)⟩)
        dsimp only [Pt.U, Pt.locs, Pt.cells, Pt.slots] at X10 l10 y10 z10 st10 hQ10
        subst l10 y10 z10
        obtain ⟨hv10, Nq10, eq10⟩ := hQ10
        have N10 := Fr.app N0 Nq10
        rw [if_pos (Classical.byContradiction fun q => hc8 (((own_bit pm (3 : Int32) (8 : Int32) 3 (by decide) (by decide) (by decide)).mpr q)))] at hv10
        subst hv10
        refine own_step (fun _ κ => st10.trans κ) ?_
        show own_Go _ _ _ _ (T10.setTop (mkF m 95 #[.val (.int sel), .val (.int pm), .val (.int ((sel &&& (2147483647 : Int32)) % (5 : Int32))), .val (.ref s_DELETE), .val (.int (3 : Int32)), .val (.int (0 : Int32))] [(.int (0 : Int32))]))
        refine own_step (fun _ κ => XS.iload X10.here hx rfl (hb hby at_95) rfl κ) ?_
        show own_Go _ _ _ _ (T10.setTop (mkF m 97 #[.val (.int sel), .val (.int pm), .val (.int ((sel &&& (2147483647 : Int32)) % (5 : Int32))), .val (.ref s_DELETE), .val (.int (3 : Int32)), .val (.int (0 : Int32))] [(.int (0 : Int32)), (.int (0 : Int32))]))
        refine own_step (fun _ κ => XS.icmpNo X10.here hx rfl (hb hby at_97) rfl (teq rfl).2 κ) ?_
        show own_Go _ _ _ _ (T10.setTop (mkF m 100 #[.val (.int sel), .val (.int pm), .val (.int ((sel &&& (2147483647 : Int32)) % (5 : Int32))), .val (.ref s_DELETE), .val (.int (3 : Int32)), .val (.int (0 : Int32))] []))
        refine own_step (fun _ κ => XS.iconst X10.here hx rfl (hb hby at_100) κ) ?_
        show own_Go _ _ _ _ (T10.setTop (mkF m 101 #[.val (.int sel), .val (.int pm), .val (.int ((sel &&& (2147483647 : Int32)) % (5 : Int32))), .val (.ref s_DELETE), .val (.int (3 : Int32)), .val (.int (0 : Int32))] [(.int (1 : Int32))]))
        refine own_step (fun _ κ => XS.goto X10.here hx rfl (pc0 := 101) (pc' := 105) rfl (hb hby at_101) (by decide) (by decide) κ) ?_
        show own_Go _ _ _ _ (T10.setTop (mkF m 105 #[.val (.int sel), .val (.int pm), .val (.int ((sel &&& (2147483647 : Int32)) % (5 : Int32))), .val (.ref s_DELETE), .val (.int (3 : Int32)), .val (.int (0 : Int32))] [(.int (1 : Int32))]))
        obtain ⟨fs, hr, hrun, hended, hW, hsame⟩ := X10.leave (v := some (.int (1 : Int32))) (fun h => by rw [Bd.returns] at h; cases h)
        refine ⟨_, _, retN X10 hx (t := .boolean) Bd.returns (by simp) (hb hby at_105) hr, hrun, hended, _, _, rfl, ?_, ⟨_, rfl⟩, hW, hsame.mono (by decide) (by decide)⟩
        show Q0 Z sel pm s_CREATE s_ADMIN s_WRITE s_DELETE s_READ h0 n0 _ T10.heap _
        exact ⟨rfl, N10⟩
    · refine own_step (fun _ κ => XS.icmpYes X0.here hx rfl (pc0 := 23) (pc' := 36) rfl (hb hby at_23) rfl (feq hc6).2 (by decide) (by decide) κ) ?_
      show own_Go _ _ _ _ (s₁.setTop (mkF m 36 #[.val (.int sel), .val (.int pm), .val (.int ((sel &&& (2147483647 : Int32)) % (5 : Int32))), .unset, .unset, .unset] []))
      refine own_step (fun _ κ => XS.iloadN X0.here hx rfl (hb hby at_36) rfl κ) ?_
      show own_Go _ _ _ _ (s₁.setTop (mkF m 37 #[.val (.int sel), .val (.int pm), .val (.int ((sel &&& (2147483647 : Int32)) % (5 : Int32))), .unset, .unset, .unset] [(.int ((sel &&& (2147483647 : Int32)) % (5 : Int32)))]))
      refine own_step (fun _ κ => XS.iconst X0.here hx rfl (hb hby at_37) κ) ?_
      show own_Go _ _ _ _ (s₁.setTop (mkF m 38 #[.val (.int sel), .val (.int pm), .val (.int ((sel &&& (2147483647 : Int32)) % (5 : Int32))), .unset, .unset, .unset] [(.int (2 : Int32)), (.int ((sel &&& (2147483647 : Int32)) % (5 : Int32)))]))
      by_cases hc11 : ((sel &&& (2147483647 : Int32)) % (5 : Int32)) = (2 : Int32)
      · refine own_step (fun _ κ => XS.icmpNo X0.here hx rfl (hb hby at_38) rfl (teq hc11).2 κ) ?_
        show own_Go _ _ _ _ (s₁.setTop (mkF m 41 #[.val (.int sel), .val (.int pm), .val (.int ((sel &&& (2147483647 : Int32)) % (5 : Int32))), .unset, .unset, .unset] []))
        obtain ⟨T12, X12, e12, st12⟩ := getS2 X0 hx hZ hown (host := "") (Or.inl (hw _ (List.mem_of_getElem? (i := 17) rfl))) Via.refl e0 (P9.ext P0.2) (g := (mkF m 41 #[.val (.int sel), .val (.int pm), .val (.int ((sel &&& (2147483647 : Int32)) % (5 : Int32))), .unset, .unset, .unset] [])) rfl (hb hby at_41)
        refine own_step st12 ?_
        show own_Go _ _ _ _ (T12.setTop (mkF m 44 #[.val (.int sel), .val (.int pm), .val (.int ((sel &&& (2147483647 : Int32)) % (5 : Int32))), .unset, .unset, .unset] [(.ref s_READ)]))
        refine own_step (fun _ κ => XS.astoreN X12.here hx rfl (hb hby at_44) rfl rfl (l' := #[.val (.int sel), .val (.int pm), .val (.int ((sel &&& (2147483647 : Int32)) % (5 : Int32))), .val (.ref s_READ), .unset, .unset]) rfl κ) ?_
        show own_Go _ _ _ _ (T12.setTop (mkF m 45 #[.val (.int sel), .val (.int pm), .val (.int ((sel &&& (2147483647 : Int32)) % (5 : Int32))), .val (.ref s_READ), .unset, .unset] []))
        refine own_step (fun _ κ => XS.iconst X12.here hx rfl (hb hby at_45) κ) ?_
        show own_Go _ _ _ _ (T12.setTop (mkF m 46 #[.val (.int sel), .val (.int pm), .val (.int ((sel &&& (2147483647 : Int32)) % (5 : Int32))), .val (.ref s_READ), .unset, .unset] [(.int (0 : Int32))]))
        refine own_step (fun _ κ => XS.istore X12.here hx rfl (hb hby at_46) rfl (l' := #[.val (.int sel), .val (.int pm), .val (.int ((sel &&& (2147483647 : Int32)) % (5 : Int32))), .val (.ref s_READ), .val (.int (0 : Int32)), .unset]) rfl κ) ?_
        show own_Go _ _ _ _ (T12.setTop (mkF m 48 #[.val (.int sel), .val (.int pm), .val (.int ((sel &&& (2147483647 : Int32)) % (5 : Int32))), .val (.ref s_READ), .val (.int (0 : Int32)), .unset] []))
        refine own_step (fun _ κ => XS.goto X12.here hx rfl (pc0 := 48) (pc' := 73) rfl (hb hby at_48) (by decide) (by decide) κ) ?_
        show own_Go _ _ _ _ (T12.setTop (mkF m 73 #[.val (.int sel), .val (.int pm), .val (.int ((sel &&& (2147483647 : Int32)) % (5 : Int32))), .val (.ref s_READ), .val (.int (0 : Int32)), .unset] []))
        refine own_step (fun _ κ => XS.iloadN X12.here hx rfl (hb hby at_73) rfl κ) ?_
        show own_Go _ _ _ _ (T12.setTop (mkF m 74 #[.val (.int sel), .val (.int pm), .val (.int ((sel &&& (2147483647 : Int32)) % (5 : Int32))), .val (.ref s_READ), .val (.int (0 : Int32)), .unset] [(.int pm)]))
        refine own_step (fun _ κ => XS.iload X12.here hx rfl (hb hby at_74) rfl κ) ?_
        show own_Go _ _ _ _ (T12.setTop (mkF m 76 #[.val (.int sel), .val (.int pm), .val (.int ((sel &&& (2147483647 : Int32)) % (5 : Int32))), .val (.ref s_READ), .val (.int (0 : Int32)), .unset] [(.int (0 : Int32)), (.int pm)]))
        refine own_step (fun _ κ => XS.iushr X12.here hx rfl (hb hby at_76) rfl κ) ?_
        show own_Go _ _ _ _ (T12.setTop (mkF m 77 #[.val (.int sel), .val (.int pm), .val (.int ((sel &&& (2147483647 : Int32)) % (5 : Int32))), .val (.ref s_READ), .val (.int (0 : Int32)), .unset] [(.int ((pm.toUInt32 >>> ((0 : Int32) &&& 31).toUInt32).toInt32))]))
        refine own_step (fun _ κ => XS.iconst X12.here hx rfl (hb hby at_77) κ) ?_
        show own_Go _ _ _ _ (T12.setTop (mkF m 78 #[.val (.int sel), .val (.int pm), .val (.int ((sel &&& (2147483647 : Int32)) % (5 : Int32))), .val (.ref s_READ), .val (.int (0 : Int32)), .unset] [(.int (1 : Int32)), (.int ((pm.toUInt32 >>> ((0 : Int32) &&& 31).toUInt32).toInt32))]))
        refine own_step (fun _ κ => XS.iand X12.here hx rfl (hb hby at_78) rfl κ) ?_
        show own_Go _ _ _ _ (T12.setTop (mkF m 79 #[.val (.int sel), .val (.int pm), .val (.int ((sel &&& (2147483647 : Int32)) % (5 : Int32))), .val (.ref s_READ), .val (.int (0 : Int32)), .unset] [(.int (((pm.toUInt32 >>> ((0 : Int32) &&& 31).toUInt32).toInt32) &&& (1 : Int32)))]))
        refine own_step (fun _ κ => XS.iconst X12.here hx rfl (hb hby at_79) κ) ?_
        show own_Go _ _ _ _ (T12.setTop (mkF m 80 #[.val (.int sel), .val (.int pm), .val (.int ((sel &&& (2147483647 : Int32)) % (5 : Int32))), .val (.ref s_READ), .val (.int (0 : Int32)), .unset] [(.int (1 : Int32)), (.int (((pm.toUInt32 >>> ((0 : Int32) &&& 31).toUInt32).toInt32) &&& (1 : Int32)))]))
        by_cases hc13 : (((pm.toUInt32 >>> ((0 : Int32) &&& 31).toUInt32).toInt32) &&& (1 : Int32)) = (1 : Int32)
        · refine own_step (fun _ κ => XS.icmpNo X12.here hx rfl (hb hby at_80) rfl (teq hc13).2 κ) ?_
          show own_Go _ _ _ _ (T12.setTop (mkF m 83 #[.val (.int sel), .val (.int pm), .val (.int ((sel &&& (2147483647 : Int32)) % (5 : Int32))), .val (.ref s_READ), .val (.int (0 : Int32)), .unset] []))
          refine own_step (fun _ κ => XS.iconst X12.here hx rfl (hb hby at_83) κ) ?_
          show own_Go _ _ _ _ (T12.setTop (mkF m 84 #[.val (.int sel), .val (.int pm), .val (.int ((sel &&& (2147483647 : Int32)) % (5 : Int32))), .val (.ref s_READ), .val (.int (0 : Int32)), .unset] [(.int (1 : Int32))]))
          refine own_step (fun _ κ => XS.goto X12.here hx rfl (pc0 := 84) (pc' := 88) rfl (hb hby at_84) (by decide) (by decide) κ) ?_
          show own_Go _ _ _ _ (T12.setTop (mkF m 88 #[.val (.int sel), .val (.int pm), .val (.int ((sel &&& (2147483647 : Int32)) % (5 : Int32))), .val (.ref s_READ), .val (.int (0 : Int32)), .unset] [(.int (1 : Int32))]))
          refine own_step (fun _ κ => XS.istore X12.here hx rfl (hb hby at_88) rfl (l' := #[.val (.int sel), .val (.int pm), .val (.int ((sel &&& (2147483647 : Int32)) % (5 : Int32))), .val (.ref s_READ), .val (.int (0 : Int32)), .val (.int (1 : Int32))]) rfl κ) ?_
          show own_Go _ _ _ _ (T12.setTop (mkF m 90 #[.val (.int sel), .val (.int pm), .val (.int ((sel &&& (2147483647 : Int32)) % (5 : Int32))), .val (.ref s_READ), .val (.int (0 : Int32)), .val (.int (1 : Int32))] []))
          refine own_step (fun _ κ => XS.aloadN X12.here hx rfl (hb hby at_90) rfl rfl κ) ?_
          show own_Go _ _ _ _ (T12.setTop (mkF m 91 #[.val (.int sel), .val (.int pm), .val (.int ((sel &&& (2147483647 : Int32)) % (5 : Int32))), .val (.ref s_READ), .val (.int (0 : Int32)), .val (.int (1 : Int32))] [(.ref s_READ)]))
          refine own_step (fun _ κ => XS.iloadN X12.here hx rfl (hb hby at_91) rfl κ) ?_
          show own_Go _ _ _ _ (T12.setTop (mkF m 92 #[.val (.int sel), .val (.int pm), .val (.int ((sel &&& (2147483647 : Int32)) % (5 : Int32))), .val (.ref s_READ), .val (.int (0 : Int32)), .val (.int (1 : Int32))] [(.int pm), (.ref s_READ)]))
          obtain ⟨cq14, kq14, q14a, q14b, q14c⟩ := isOf hZ e12 (P10.ext P0.2)
          obtain ⟨vr14, _, ⟨T14, L14, k14, n14⟩, -, X14, ⟨Lc14, hQ14, l14, y14, z14⟩, st14⟩ := X12.virtualBack hx (y := (⟨"com/example/cairn/cairn/model/Permission", "in", "(I)Z"⟩ : MethodName)) (z := (⟨"com/example/cairn/cairn/model/Permission", "in", "(I)Z"⟩ : MethodName)) hown (mvT hZ (hw _ (List.mem_of_getElem? (i := 4) rfl))) (mvT hZ (hw _ (List.mem_of_getElem? (i := 5) rfl))) (notFace_of_selects (args := #[]) (mvT hZ (hw _ (List.mem_of_getElem? (i := 7) rfl)))) (mvT hZ (hw _ (List.mem_of_getElem? (i := 7) rfl))) (mvT hZ (hw _ (List.mem_of_getElem? (i := 6) rfl))) (by decide) (backOf (W := 0) (rm1 l Z a0 hw [] s_READ pm (1 : Int32) h0 n0 Z0 (P15.ext P0.2)) hZ (hw _ (List.mem_of_getElem? (i := 8) rfl)) (hw _ (List.mem_of_getElem? (i := 2) rfl)) (by decide) (by decide)) q14a q14c (g := (mkF m 92 #[.val (.int sel), .val (.int pm), .val (.int ((sel &&& (2147483647 : Int32)) % (5 : Int32))), .val (.ref s_READ), .val (.int (0 : Int32)), .val (.int (1 : Int32))] [(.int pm), (.ref s_READ)])) rfl (by rw [hml]; rfl) (Steps.refl _) (argsL := [(.int pm)]) (rest := []) (lenOf pd_0 rfl) rfl (by show 2 * 0 + _ ≤ _; exact Nat.le_of_eq rfl) (hb hby at_92) (fun _ _ => ⟨rfl, e12, (by decide : 0 + 0 ≤ _), (by decide : 0 + 0 ≤ _)⟩)
          dsimp only [Pt.U, Pt.locs, Pt.cells, Pt.slots] at X14 l14 y14 z14 st14 hQ14
          subst l14 y14 z14
          obtain ⟨hv14, Nq14, eq14⟩ := hQ14
          have N14 := Fr.app N0 Nq14
          rw [if_neg ((own_bit pm (0 : Int32) (1 : Int32) 0 (by decide) (by decide) (by decide)).mp hc13)] at hv14
          subst hv14
          refine own_step (fun _ κ => st14.trans κ) ?_
          show own_Go _ _ _ _ (T14.setTop (mkF m 95 #[.val (.int sel), .val (.int pm), .val (.int ((sel &&& (2147483647 : Int32)) % (5 : Int32))), .val (.ref s_READ), .val (.int (0 : Int32)), .val (.int (1 : Int32))] [(.int (1 : Int32))]))
          refine own_step (fun _ κ => XS.iload X14.here hx rfl (hb hby at_95) rfl κ) ?_
          show own_Go _ _ _ _ (T14.setTop (mkF m 97 #[.val (.int sel), .val (.int pm), .val (.int ((sel &&& (2147483647 : Int32)) % (5 : Int32))), .val (.ref s_READ), .val (.int (0 : Int32)), .val (.int (1 : Int32))] [(.int (1 : Int32)), (.int (1 : Int32))]))
          refine own_step (fun _ κ => XS.icmpNo X14.here hx rfl (hb hby at_97) rfl (teq rfl).2 κ) ?_
          show own_Go _ _ _ _ (T14.setTop (mkF m 100 #[.val (.int sel), .val (.int pm), .val (.int ((sel &&& (2147483647 : Int32)) % (5 : Int32))), .val (.ref s_READ), .val (.int (0 : Int32)), .val (.int (1 : Int32))] []))
          refine own_step (fun _ κ => XS.iconst X14.here hx rfl (hb hby at_100) κ) ?_
          show own_Go _ _ _ _ (T14.setTop (mkF m 101 #[.val (.int sel), .val (.int pm), .val (.int ((sel &&& (2147483647 : Int32)) % (5 : Int32))), .val (.ref s_READ), .val (.int (0 : Int32)), .val (.int (1 : Int32))] [(.int (1 : Int32))]))
          refine own_step (fun _ κ => XS.goto X14.here hx rfl (pc0 := 101) (pc' := 105) rfl (hb hby at_101) (by decide) (by decide) κ) ?_
          show own_Go _ _ _ _ (T14.setTop (mkF m 105 #[.val (.int sel), .val (.int pm), .val (.int ((sel &&& (2147483647 : Int32)) % (5 : Int32))), .val (.ref s_READ), .val (.int (0 : Int32)), .val (.int (1 : Int32))] [(.int (1 : Int32))]))
          obtain ⟨fs, hr, hrun, hended, hW, hsame⟩ := X14.leave (v := some (.int (1 : Int32))) (fun h => by rw [Bd.returns] at h; cases h)
          refine ⟨_, _, retN X14 hx (t := .boolean) Bd.returns (by simp) (hb hby at_105) hr, hrun, hended, _, _, rfl, ?_, ⟨_, rfl⟩, hW, hsame.mono (by decide) (by decide)⟩
          show Q0 Z sel pm s_CREATE s_ADMIN s_WRITE s_DELETE s_READ h0 n0 _ T14.heap _
          exact ⟨rfl, N14⟩
        · refine own_step (fun _ κ => XS.icmpYes X12.here hx rfl (pc0 := 80) (pc' := 87) rfl (hb hby at_80) rfl (feq hc13).2 (by decide) (by decide) κ) ?_
          show own_Go _ _ _ _ (T12.setTop (mkF m 87 #[.val (.int sel), .val (.int pm), .val (.int ((sel &&& (2147483647 : Int32)) % (5 : Int32))), .val (.ref s_READ), .val (.int (0 : Int32)), .unset] []))
          refine own_step (fun _ κ => XS.iconst X12.here hx rfl (hb hby at_87) κ) ?_
          show own_Go _ _ _ _ (T12.setTop (mkF m 88 #[.val (.int sel), .val (.int pm), .val (.int ((sel &&& (2147483647 : Int32)) % (5 : Int32))), .val (.ref s_READ), .val (.int (0 : Int32)), .unset] [(.int (0 : Int32))]))
          refine own_step (fun _ κ => XS.istore X12.here hx rfl (hb hby at_88) rfl (l' := #[.val (.int sel), .val (.int pm), .val (.int ((sel &&& (2147483647 : Int32)) % (5 : Int32))), .val (.ref s_READ), .val (.int (0 : Int32)), .val (.int (0 : Int32))]) rfl κ) ?_
          show own_Go _ _ _ _ (T12.setTop (mkF m 90 #[.val (.int sel), .val (.int pm), .val (.int ((sel &&& (2147483647 : Int32)) % (5 : Int32))), .val (.ref s_READ), .val (.int (0 : Int32)), .val (.int (0 : Int32))] []))
          refine own_step (fun _ κ => XS.aloadN X12.here hx rfl (hb hby at_90) rfl rfl κ) ?_
          show own_Go _ _ _ _ (T12.setTop (mkF m 91 #[.val (.int sel), .val (.int pm), .val (.int ((sel &&& (2147483647 : Int32)) % (5 : Int32))), .val (.ref s_READ), .val (.int (0 : Int32)), .val (.int (0 : Int32))] [(.ref s_READ)]))
          refine own_step (fun _ κ => XS.iloadN X12.here hx rfl (hb hby at_91) rfl κ) ?_
          show own_Go _ _ _ _ (T12.setTop (mkF m 92 #[.val (.int sel), .val (.int pm), .val (.int ((sel &&& (2147483647 : Int32)) % (5 : Int32))), .val (.ref s_READ), .val (.int (0 : Int32)), .val (.int (0 : Int32))] [(.int pm), (.ref s_READ)]))
          obtain ⟨cq15, kq15, q15a, q15b, q15c⟩ := isOf hZ e12 (P10.ext P0.2)
          obtain ⟨vr15, _, ⟨T15, L15, k15, n15⟩, -, X15, ⟨Lc15, hQ15, l15, y15, z15⟩, st15⟩ := X12.virtualBack hx (y := (⟨"com/example/cairn/cairn/model/Permission", "in", "(I)Z"⟩ : MethodName)) (z := (⟨"com/example/cairn/cairn/model/Permission", "in", "(I)Z"⟩ : MethodName)) hown (mvT hZ (hw _ (List.mem_of_getElem? (i := 4) rfl))) (mvT hZ (hw _ (List.mem_of_getElem? (i := 5) rfl))) (notFace_of_selects (args := #[]) (mvT hZ (hw _ (List.mem_of_getElem? (i := 7) rfl)))) (mvT hZ (hw _ (List.mem_of_getElem? (i := 7) rfl))) (mvT hZ (hw _ (List.mem_of_getElem? (i := 6) rfl))) (by decide) (backOf (W := 0) (rm1 l Z a0 hw [] s_READ pm (1 : Int32) h0 n0 Z0 (P15.ext P0.2)) hZ (hw _ (List.mem_of_getElem? (i := 8) rfl)) (hw _ (List.mem_of_getElem? (i := 2) rfl)) (by decide) (by decide)) q15a q15c (g := (mkF m 92 #[.val (.int sel), .val (.int pm), .val (.int ((sel &&& (2147483647 : Int32)) % (5 : Int32))), .val (.ref s_READ), .val (.int (0 : Int32)), .val (.int (0 : Int32))] [(.int pm), (.ref s_READ)])) rfl (by rw [hml]; rfl) (Steps.refl _) (argsL := [(.int pm)]) (rest := []) (lenOf pd_0 rfl) rfl (by show 2 * 0 + _ ≤ _; exact Nat.le_of_eq rfl) (hb hby at_92) (fun _ _ => ⟨rfl, e12, (by decide : 0 + 0 ≤ _), (by decide : 0 + 0 ≤ _)⟩)
          dsimp only [Pt.U, Pt.locs, Pt.cells, Pt.slots] at X15 l15 y15 z15 st15 hQ15
          subst l15 y15 z15
          obtain ⟨hv15, Nq15, eq15⟩ := hQ15
          have N15 := Fr.app N0 Nq15
          rw [if_pos (Classical.byContradiction fun q => hc13 (((own_bit pm (0 : Int32) (1 : Int32) 0 (by decide) (by decide) (by decide)).mpr q)))] at hv15
          subst hv15
          refine own_step (fun _ κ => st15.trans κ) ?_
          show own_Go _ _ _ _ (T15.setTop (mkF m 95 #[.val (.int sel), .val (.int pm), .val (.int ((sel &&& (2147483647 : Int32)) % (5 : Int32))), .val (.ref s_READ), .val (.int (0 : Int32)), .val (.int (0 : Int32))] [(.int (0 : Int32))]))
          refine own_step (fun _ κ => XS.iload X15.here hx rfl (hb hby at_95) rfl κ) ?_
          show own_Go _ _ _ _ (T15.setTop (mkF m 97 #[.val (.int sel), .val (.int pm), .val (.int ((sel &&& (2147483647 : Int32)) % (5 : Int32))), .val (.ref s_READ), .val (.int (0 : Int32)), .val (.int (0 : Int32))] [(.int (0 : Int32)), (.int (0 : Int32))]))
          refine own_step (fun _ κ => XS.icmpNo X15.here hx rfl (hb hby at_97) rfl (teq rfl).2 κ) ?_
          show own_Go _ _ _ _ (T15.setTop (mkF m 100 #[.val (.int sel), .val (.int pm), .val (.int ((sel &&& (2147483647 : Int32)) % (5 : Int32))), .val (.ref s_READ), .val (.int (0 : Int32)), .val (.int (0 : Int32))] []))
          refine own_step (fun _ κ => XS.iconst X15.here hx rfl (hb hby at_100) κ) ?_
          show own_Go _ _ _ _ (T15.setTop (mkF m 101 #[.val (.int sel), .val (.int pm), .val (.int ((sel &&& (2147483647 : Int32)) % (5 : Int32))), .val (.ref s_READ), .val (.int (0 : Int32)), .val (.int (0 : Int32))] [(.int (1 : Int32))]))
          refine own_step (fun _ κ => XS.goto X15.here hx rfl (pc0 := 101) (pc' := 105) rfl (hb hby at_101) (by decide) (by decide) κ) ?_
          show own_Go _ _ _ _ (T15.setTop (mkF m 105 #[.val (.int sel), .val (.int pm), .val (.int ((sel &&& (2147483647 : Int32)) % (5 : Int32))), .val (.ref s_READ), .val (.int (0 : Int32)), .val (.int (0 : Int32))] [(.int (1 : Int32))]))
          obtain ⟨fs, hr, hrun, hended, hW, hsame⟩ := X15.leave (v := some (.int (1 : Int32))) (fun h => by rw [Bd.returns] at h; cases h)
          refine ⟨_, _, retN X15 hx (t := .boolean) Bd.returns (by simp) (hb hby at_105) hr, hrun, hended, _, _, rfl, ?_, ⟨_, rfl⟩, hW, hsame.mono (by decide) (by decide)⟩
          show Q0 Z sel pm s_CREATE s_ADMIN s_WRITE s_DELETE s_READ h0 n0 _ T15.heap _
          exact ⟨rfl, N15⟩
      · refine own_step (fun _ κ => XS.icmpYes X0.here hx rfl (pc0 := 38) (pc' := 51) rfl (hb hby at_38) rfl (feq hc11).2 (by decide) (by decide) κ) ?_
        show own_Go _ _ _ _ (s₁.setTop (mkF m 51 #[.val (.int sel), .val (.int pm), .val (.int ((sel &&& (2147483647 : Int32)) % (5 : Int32))), .unset, .unset, .unset] []))
        refine own_step (fun _ κ => XS.iloadN X0.here hx rfl (hb hby at_51) rfl κ) ?_
        show own_Go _ _ _ _ (s₁.setTop (mkF m 52 #[.val (.int sel), .val (.int pm), .val (.int ((sel &&& (2147483647 : Int32)) % (5 : Int32))), .unset, .unset, .unset] [(.int ((sel &&& (2147483647 : Int32)) % (5 : Int32)))]))
        refine own_step (fun _ κ => XS.iconst X0.here hx rfl (hb hby at_52) κ) ?_
        show own_Go _ _ _ _ (s₁.setTop (mkF m 53 #[.val (.int sel), .val (.int pm), .val (.int ((sel &&& (2147483647 : Int32)) % (5 : Int32))), .unset, .unset, .unset] [(.int (3 : Int32)), (.int ((sel &&& (2147483647 : Int32)) % (5 : Int32)))]))
        by_cases hc16 : ((sel &&& (2147483647 : Int32)) % (5 : Int32)) = (3 : Int32)
        · refine own_step (fun _ κ => XS.icmpNo X0.here hx rfl (hb hby at_53) rfl (teq hc16).2 κ) ?_
          show own_Go _ _ _ _ (s₁.setTop (mkF m 56 #[.val (.int sel), .val (.int pm), .val (.int ((sel &&& (2147483647 : Int32)) % (5 : Int32))), .unset, .unset, .unset] []))
          obtain ⟨T17, X17, e17, st17⟩ := getS2 X0 hx hZ hown (host := "") (Or.inl (hw _ (List.mem_of_getElem? (i := 13) rfl))) Via.refl e0 (P5.ext P0.2) (g := (mkF m 56 #[.val (.int sel), .val (.int pm), .val (.int ((sel &&& (2147483647 : Int32)) % (5 : Int32))), .unset, .unset, .unset] [])) rfl (hb hby at_56)
          refine own_step st17 ?_
          show own_Go _ _ _ _ (T17.setTop (mkF m 59 #[.val (.int sel), .val (.int pm), .val (.int ((sel &&& (2147483647 : Int32)) % (5 : Int32))), .unset, .unset, .unset] [(.ref s_WRITE)]))
          refine own_step (fun _ κ => XS.astoreN X17.here hx rfl (hb hby at_59) rfl rfl (l' := #[.val (.int sel), .val (.int pm), .val (.int ((sel &&& (2147483647 : Int32)) % (5 : Int32))), .val (.ref s_WRITE), .unset, .unset]) rfl κ) ?_
          show own_Go _ _ _ _ (T17.setTop (mkF m 60 #[.val (.int sel), .val (.int pm), .val (.int ((sel &&& (2147483647 : Int32)) % (5 : Int32))), .val (.ref s_WRITE), .unset, .unset] []))
          refine own_step (fun _ κ => XS.iconst X17.here hx rfl (hb hby at_60) κ) ?_
          show own_Go _ _ _ _ (T17.setTop (mkF m 61 #[.val (.int sel), .val (.int pm), .val (.int ((sel &&& (2147483647 : Int32)) % (5 : Int32))), .val (.ref s_WRITE), .unset, .unset] [(.int (1 : Int32))]))
          refine own_step (fun _ κ => XS.istore X17.here hx rfl (hb hby at_61) rfl (l' := #[.val (.int sel), .val (.int pm), .val (.int ((sel &&& (2147483647 : Int32)) % (5 : Int32))), .val (.ref s_WRITE), .val (.int (1 : Int32)), .unset]) rfl κ) ?_
          show own_Go _ _ _ _ (T17.setTop (mkF m 63 #[.val (.int sel), .val (.int pm), .val (.int ((sel &&& (2147483647 : Int32)) % (5 : Int32))), .val (.ref s_WRITE), .val (.int (1 : Int32)), .unset] []))
          refine own_step (fun _ κ => XS.goto X17.here hx rfl (pc0 := 63) (pc' := 73) rfl (hb hby at_63) (by decide) (by decide) κ) ?_
          show own_Go _ _ _ _ (T17.setTop (mkF m 73 #[.val (.int sel), .val (.int pm), .val (.int ((sel &&& (2147483647 : Int32)) % (5 : Int32))), .val (.ref s_WRITE), .val (.int (1 : Int32)), .unset] []))
          refine own_step (fun _ κ => XS.iloadN X17.here hx rfl (hb hby at_73) rfl κ) ?_
          show own_Go _ _ _ _ (T17.setTop (mkF m 74 #[.val (.int sel), .val (.int pm), .val (.int ((sel &&& (2147483647 : Int32)) % (5 : Int32))), .val (.ref s_WRITE), .val (.int (1 : Int32)), .unset] [(.int pm)]))
          refine own_step (fun _ κ => XS.iload X17.here hx rfl (hb hby at_74) rfl κ) ?_
          show own_Go _ _ _ _ (T17.setTop (mkF m 76 #[.val (.int sel), .val (.int pm), .val (.int ((sel &&& (2147483647 : Int32)) % (5 : Int32))), .val (.ref s_WRITE), .val (.int (1 : Int32)), .unset] [(.int (1 : Int32)), (.int pm)]))
          refine own_step (fun _ κ => XS.iushr X17.here hx rfl (hb hby at_76) rfl κ) ?_
          show own_Go _ _ _ _ (T17.setTop (mkF m 77 #[.val (.int sel), .val (.int pm), .val (.int ((sel &&& (2147483647 : Int32)) % (5 : Int32))), .val (.ref s_WRITE), .val (.int (1 : Int32)), .unset] [(.int ((pm.toUInt32 >>> ((1 : Int32) &&& 31).toUInt32).toInt32))]))
          refine own_step (fun _ κ => XS.iconst X17.here hx rfl (hb hby at_77) κ) ?_
          show own_Go _ _ _ _ (T17.setTop (mkF m 78 #[.val (.int sel), .val (.int pm), .val (.int ((sel &&& (2147483647 : Int32)) % (5 : Int32))), .val (.ref s_WRITE), .val (.int (1 : Int32)), .unset] [(.int (1 : Int32)), (.int ((pm.toUInt32 >>> ((1 : Int32) &&& 31).toUInt32).toInt32))]))
          refine own_step (fun _ κ => XS.iand X17.here hx rfl (hb hby at_78) rfl κ) ?_
          show own_Go _ _ _ _ (T17.setTop (mkF m 79 #[.val (.int sel), .val (.int pm), .val (.int ((sel &&& (2147483647 : Int32)) % (5 : Int32))), .val (.ref s_WRITE), .val (.int (1 : Int32)), .unset] [(.int (((pm.toUInt32 >>> ((1 : Int32) &&& 31).toUInt32).toInt32) &&& (1 : Int32)))]))
          refine own_step (fun _ κ => XS.iconst X17.here hx rfl (hb hby at_79) κ) ?_
          show own_Go _ _ _ _ (T17.setTop (mkF m 80 #[.val (.int sel), .val (.int pm), .val (.int ((sel &&& (2147483647 : Int32)) % (5 : Int32))), .val (.ref s_WRITE), .val (.int (1 : Int32)), .unset] [(.int (1 : Int32)), (.int (((pm.toUInt32 >>> ((1 : Int32) &&& 31).toUInt32).toInt32) &&& (1 : Int32)))]))
          by_cases hc18 : (((pm.toUInt32 >>> ((1 : Int32) &&& 31).toUInt32).toInt32) &&& (1 : Int32)) = (1 : Int32)
          · refine own_step (fun _ κ => XS.icmpNo X17.here hx rfl (hb hby at_80) rfl (teq hc18).2 κ) ?_
            show own_Go _ _ _ _ (T17.setTop (mkF m 83 #[.val (.int sel), .val (.int pm), .val (.int ((sel &&& (2147483647 : Int32)) % (5 : Int32))), .val (.ref s_WRITE), .val (.int (1 : Int32)), .unset] []))
            refine own_step (fun _ κ => XS.iconst X17.here hx rfl (hb hby at_83) κ) ?_
            show own_Go _ _ _ _ (T17.setTop (mkF m 84 #[.val (.int sel), .val (.int pm), .val (.int ((sel &&& (2147483647 : Int32)) % (5 : Int32))), .val (.ref s_WRITE), .val (.int (1 : Int32)), .unset] [(.int (1 : Int32))]))
            refine own_step (fun _ κ => XS.goto X17.here hx rfl (pc0 := 84) (pc' := 88) rfl (hb hby at_84) (by decide) (by decide) κ) ?_
            show own_Go _ _ _ _ (T17.setTop (mkF m 88 #[.val (.int sel), .val (.int pm), .val (.int ((sel &&& (2147483647 : Int32)) % (5 : Int32))), .val (.ref s_WRITE), .val (.int (1 : Int32)), .unset] [(.int (1 : Int32))]))
            refine own_step (fun _ κ => XS.istore X17.here hx rfl (hb hby at_88) rfl (l' := #[.val (.int sel), .val (.int pm), .val (.int ((sel &&& (2147483647 : Int32)) % (5 : Int32))), .val (.ref s_WRITE), .val (.int (1 : Int32)), .val (.int (1 : Int32))]) rfl κ) ?_
            show own_Go _ _ _ _ (T17.setTop (mkF m 90 #[.val (.int sel), .val (.int pm), .val (.int ((sel &&& (2147483647 : Int32)) % (5 : Int32))), .val (.ref s_WRITE), .val (.int (1 : Int32)), .val (.int (1 : Int32))] []))
            refine own_step (fun _ κ => XS.aloadN X17.here hx rfl (hb hby at_90) rfl rfl κ) ?_
            show own_Go _ _ _ _ (T17.setTop (mkF m 91 #[.val (.int sel), .val (.int pm), .val (.int ((sel &&& (2147483647 : Int32)) % (5 : Int32))), .val (.ref s_WRITE), .val (.int (1 : Int32)), .val (.int (1 : Int32))] [(.ref s_WRITE)]))
            refine own_step (fun _ κ => XS.iloadN X17.here hx rfl (hb hby at_91) rfl κ) ?_
            show own_Go _ _ _ _ (T17.setTop (mkF m 92 #[.val (.int sel), .val (.int pm), .val (.int ((sel &&& (2147483647 : Int32)) % (5 : Int32))), .val (.ref s_WRITE), .val (.int (1 : Int32)), .val (.int (1 : Int32))] [(.int pm), (.ref s_WRITE)]))
            obtain ⟨cq19, kq19, q19a, q19b, q19c⟩ := isOf hZ e17 (P6.ext P0.2)
            obtain ⟨vr19, _, ⟨T19, L19, k19, n19⟩, -, X19, ⟨Lc19, hQ19, l19, y19, z19⟩, st19⟩ := X17.virtualBack hx (y := (⟨"com/example/cairn/cairn/model/Permission", "in", "(I)Z"⟩ : MethodName)) (z := (⟨"com/example/cairn/cairn/model/Permission", "in", "(I)Z"⟩ : MethodName)) hown (mvT hZ (hw _ (List.mem_of_getElem? (i := 4) rfl))) (mvT hZ (hw _ (List.mem_of_getElem? (i := 5) rfl))) (notFace_of_selects (args := #[]) (mvT hZ (hw _ (List.mem_of_getElem? (i := 7) rfl)))) (mvT hZ (hw _ (List.mem_of_getElem? (i := 7) rfl))) (mvT hZ (hw _ (List.mem_of_getElem? (i := 6) rfl))) (by decide) (backOf (W := 0) (rm1 l Z a0 hw [] s_WRITE pm (2 : Int32) h0 n0 Z0 (P13.ext P0.2)) hZ (hw _ (List.mem_of_getElem? (i := 8) rfl)) (hw _ (List.mem_of_getElem? (i := 2) rfl)) (by decide) (by decide)) q19a q19c (g := (mkF m 92 #[.val (.int sel), .val (.int pm), .val (.int ((sel &&& (2147483647 : Int32)) % (5 : Int32))), .val (.ref s_WRITE), .val (.int (1 : Int32)), .val (.int (1 : Int32))] [(.int pm), (.ref s_WRITE)])) rfl (by rw [hml]; rfl) (Steps.refl _) (argsL := [(.int pm)]) (rest := []) (lenOf pd_0 rfl) rfl (by show 2 * 0 + _ ≤ _; exact Nat.le_of_eq rfl) (hb hby at_92) (fun _ _ => ⟨rfl, e17, (by decide : 0 + 0 ≤ _), (by decide : 0 + 0 ≤ _)⟩)
            dsimp only [Pt.U, Pt.locs, Pt.cells, Pt.slots] at X19 l19 y19 z19 st19 hQ19
            subst l19 y19 z19
            obtain ⟨hv19, Nq19, eq19⟩ := hQ19
            have N19 := Fr.app N0 Nq19
            rw [if_neg ((own_bit pm (1 : Int32) (2 : Int32) 1 (by decide) (by decide) (by decide)).mp hc18)] at hv19
            subst hv19
            refine own_step (fun _ κ => st19.trans κ) ?_
            show own_Go _ _ _ _ (T19.setTop (mkF m 95 #[.val (.int sel), .val (.int pm), .val (.int ((sel &&& (2147483647 : Int32)) % (5 : Int32))), .val (.ref s_WRITE), .val (.int (1 : Int32)), .val (.int (1 : Int32))] [(.int (1 : Int32))]))
            refine own_step (fun _ κ => XS.iload X19.here hx rfl (hb hby at_95) rfl κ) ?_
            show own_Go _ _ _ _ (T19.setTop (mkF m 97 #[.val (.int sel), .val (.int pm), .val (.int ((sel &&& (2147483647 : Int32)) % (5 : Int32))), .val (.ref s_WRITE), .val (.int (1 : Int32)), .val (.int (1 : Int32))] [(.int (1 : Int32)), (.int (1 : Int32))]))
            refine own_step (fun _ κ => XS.icmpNo X19.here hx rfl (hb hby at_97) rfl (teq rfl).2 κ) ?_
            show own_Go _ _ _ _ (T19.setTop (mkF m 100 #[.val (.int sel), .val (.int pm), .val (.int ((sel &&& (2147483647 : Int32)) % (5 : Int32))), .val (.ref s_WRITE), .val (.int (1 : Int32)), .val (.int (1 : Int32))] []))
            refine own_step (fun _ κ => XS.iconst X19.here hx rfl (hb hby at_100) κ) ?_
            show own_Go _ _ _ _ (T19.setTop (mkF m 101 #[.val (.int sel), .val (.int pm), .val (.int ((sel &&& (2147483647 : Int32)) % (5 : Int32))), .val (.ref s_WRITE), .val (.int (1 : Int32)), .val (.int (1 : Int32))] [(.int (1 : Int32))]))
            refine own_step (fun _ κ => XS.goto X19.here hx rfl (pc0 := 101) (pc' := 105) rfl (hb hby at_101) (by decide) (by decide) κ) ?_
            show own_Go _ _ _ _ (T19.setTop (mkF m 105 #[.val (.int sel), .val (.int pm), .val (.int ((sel &&& (2147483647 : Int32)) % (5 : Int32))), .val (.ref s_WRITE), .val (.int (1 : Int32)), .val (.int (1 : Int32))] [(.int (1 : Int32))]))
            obtain ⟨fs, hr, hrun, hended, hW, hsame⟩ := X19.leave (v := some (.int (1 : Int32))) (fun h => by rw [Bd.returns] at h; cases h)
            refine ⟨_, _, retN X19 hx (t := .boolean) Bd.returns (by simp) (hb hby at_105) hr, hrun, hended, _, _, rfl, ?_, ⟨_, rfl⟩, hW, hsame.mono (by decide) (by decide)⟩
            show Q0 Z sel pm s_CREATE s_ADMIN s_WRITE s_DELETE s_READ h0 n0 _ T19.heap _
            exact ⟨rfl, N19⟩
          · refine own_step (fun _ κ => XS.icmpYes X17.here hx rfl (pc0 := 80) (pc' := 87) rfl (hb hby at_80) rfl (feq hc18).2 (by decide) (by decide) κ) ?_
            show own_Go _ _ _ _ (T17.setTop (mkF m 87 #[.val (.int sel), .val (.int pm), .val (.int ((sel &&& (2147483647 : Int32)) % (5 : Int32))), .val (.ref s_WRITE), .val (.int (1 : Int32)), .unset] []))
            refine own_step (fun _ κ => XS.iconst X17.here hx rfl (hb hby at_87) κ) ?_
            show own_Go _ _ _ _ (T17.setTop (mkF m 88 #[.val (.int sel), .val (.int pm), .val (.int ((sel &&& (2147483647 : Int32)) % (5 : Int32))), .val (.ref s_WRITE), .val (.int (1 : Int32)), .unset] [(.int (0 : Int32))]))
            refine own_step (fun _ κ => XS.istore X17.here hx rfl (hb hby at_88) rfl (l' := #[.val (.int sel), .val (.int pm), .val (.int ((sel &&& (2147483647 : Int32)) % (5 : Int32))), .val (.ref s_WRITE), .val (.int (1 : Int32)), .val (.int (0 : Int32))]) rfl κ) ?_
            show own_Go _ _ _ _ (T17.setTop (mkF m 90 #[.val (.int sel), .val (.int pm), .val (.int ((sel &&& (2147483647 : Int32)) % (5 : Int32))), .val (.ref s_WRITE), .val (.int (1 : Int32)), .val (.int (0 : Int32))] []))
            refine own_step (fun _ κ => XS.aloadN X17.here hx rfl (hb hby at_90) rfl rfl κ) ?_
            show own_Go _ _ _ _ (T17.setTop (mkF m 91 #[.val (.int sel), .val (.int pm), .val (.int ((sel &&& (2147483647 : Int32)) % (5 : Int32))), .val (.ref s_WRITE), .val (.int (1 : Int32)), .val (.int (0 : Int32))] [(.ref s_WRITE)]))
            refine own_step (fun _ κ => XS.iloadN X17.here hx rfl (hb hby at_91) rfl κ) ?_
            show own_Go _ _ _ _ (T17.setTop (mkF m 92 #[.val (.int sel), .val (.int pm), .val (.int ((sel &&& (2147483647 : Int32)) % (5 : Int32))), .val (.ref s_WRITE), .val (.int (1 : Int32)), .val (.int (0 : Int32))] [(.int pm), (.ref s_WRITE)]))
            obtain ⟨cq20, kq20, q20a, q20b, q20c⟩ := isOf hZ e17 (P6.ext P0.2)
            obtain ⟨vr20, _, ⟨T20, L20, k20, n20⟩, -, X20, ⟨Lc20, hQ20, l20, y20, z20⟩, st20⟩ := X17.virtualBack hx (y := (⟨"com/example/cairn/cairn/model/Permission", "in", "(I)Z"⟩ : MethodName)) (z := (⟨"com/example/cairn/cairn/model/Permission", "in", "(I)Z"⟩ : MethodName)) hown (mvT hZ (hw _ (List.mem_of_getElem? (i := 4) rfl))) (mvT hZ (hw _ (List.mem_of_getElem? (i := 5) rfl))) (notFace_of_selects (args := #[]) (mvT hZ (hw _ (List.mem_of_getElem? (i := 7) rfl)))) (mvT hZ (hw _ (List.mem_of_getElem? (i := 7) rfl))) (mvT hZ (hw _ (List.mem_of_getElem? (i := 6) rfl))) (by decide) (backOf (W := 0) (rm1 l Z a0 hw [] s_WRITE pm (2 : Int32) h0 n0 Z0 (P13.ext P0.2)) hZ (hw _ (List.mem_of_getElem? (i := 8) rfl)) (hw _ (List.mem_of_getElem? (i := 2) rfl)) (by decide) (by decide)) q20a q20c (g := (mkF m 92 #[.val (.int sel), .val (.int pm), .val (.int ((sel &&& (2147483647 : Int32)) % (5 : Int32))), .val (.ref s_WRITE), .val (.int (1 : Int32)), .val (.int (0 : Int32))] [(.int pm), (.ref s_WRITE)])) rfl (by rw [hml]; rfl) (Steps.refl _) (argsL := [(.int pm)]) (rest := []) (lenOf pd_0 rfl) rfl (by show 2 * 0 + _ ≤ _; exact Nat.le_of_eq rfl) (hb hby at_92) (fun _ _ => ⟨rfl, e17, (by decide : 0 + 0 ≤ _), (by decide : 0 + 0 ≤ _)⟩)
            dsimp only [Pt.U, Pt.locs, Pt.cells, Pt.slots] at X20 l20 y20 z20 st20 hQ20
            subst l20 y20 z20
            obtain ⟨hv20, Nq20, eq20⟩ := hQ20
            have N20 := Fr.app N0 Nq20
            rw [if_pos (Classical.byContradiction fun q => hc18 (((own_bit pm (1 : Int32) (2 : Int32) 1 (by decide) (by decide) (by decide)).mpr q)))] at hv20
            subst hv20
            refine own_step (fun _ κ => st20.trans κ) ?_
            show own_Go _ _ _ _ (T20.setTop (mkF m 95 #[.val (.int sel), .val (.int pm), .val (.int ((sel &&& (2147483647 : Int32)) % (5 : Int32))), .val (.ref s_WRITE), .val (.int (1 : Int32)), .val (.int (0 : Int32))] [(.int (0 : Int32))]))
            refine own_step (fun _ κ => XS.iload X20.here hx rfl (hb hby at_95) rfl κ) ?_
            show own_Go _ _ _ _ (T20.setTop (mkF m 97 #[.val (.int sel), .val (.int pm), .val (.int ((sel &&& (2147483647 : Int32)) % (5 : Int32))), .val (.ref s_WRITE), .val (.int (1 : Int32)), .val (.int (0 : Int32))] [(.int (0 : Int32)), (.int (0 : Int32))]))
            refine own_step (fun _ κ => XS.icmpNo X20.here hx rfl (hb hby at_97) rfl (teq rfl).2 κ) ?_
            show own_Go _ _ _ _ (T20.setTop (mkF m 100 #[.val (.int sel), .val (.int pm), .val (.int ((sel &&& (2147483647 : Int32)) % (5 : Int32))), .val (.ref s_WRITE), .val (.int (1 : Int32)), .val (.int (0 : Int32))] []))
            refine own_step (fun _ κ => XS.iconst X20.here hx rfl (hb hby at_100) κ) ?_
            show own_Go _ _ _ _ (T20.setTop (mkF m 101 #[.val (.int sel), .val (.int pm), .val (.int ((sel &&& (2147483647 : Int32)) % (5 : Int32))), .val (.ref s_WRITE), .val (.int (1 : Int32)), .val (.int (0 : Int32))] [(.int (1 : Int32))]))
            refine own_step (fun _ κ => XS.goto X20.here hx rfl (pc0 := 101) (pc' := 105) rfl (hb hby at_101) (by decide) (by decide) κ) ?_
            show own_Go _ _ _ _ (T20.setTop (mkF m 105 #[.val (.int sel), .val (.int pm), .val (.int ((sel &&& (2147483647 : Int32)) % (5 : Int32))), .val (.ref s_WRITE), .val (.int (1 : Int32)), .val (.int (0 : Int32))] [(.int (1 : Int32))]))
            obtain ⟨fs, hr, hrun, hended, hW, hsame⟩ := X20.leave (v := some (.int (1 : Int32))) (fun h => by rw [Bd.returns] at h; cases h)
            refine ⟨_, _, retN X20 hx (t := .boolean) Bd.returns (by simp) (hb hby at_105) hr, hrun, hended, _, _, rfl, ?_, ⟨_, rfl⟩, hW, hsame.mono (by decide) (by decide)⟩
            show Q0 Z sel pm s_CREATE s_ADMIN s_WRITE s_DELETE s_READ h0 n0 _ T20.heap _
            exact ⟨rfl, N20⟩
        · refine own_step (fun _ κ => XS.icmpYes X0.here hx rfl (pc0 := 53) (pc' := 66) rfl (hb hby at_53) rfl (feq hc16).2 (by decide) (by decide) κ) ?_
          show own_Go _ _ _ _ (s₁.setTop (mkF m 66 #[.val (.int sel), .val (.int pm), .val (.int ((sel &&& (2147483647 : Int32)) % (5 : Int32))), .unset, .unset, .unset] []))
          obtain ⟨T21, X21, e21, st21⟩ := getS2 X0 hx hZ hown (host := "") (Or.inl (hw _ (List.mem_of_getElem? (i := 11) rfl))) Via.refl e0 (P3.ext P0.2) (g := (mkF m 66 #[.val (.int sel), .val (.int pm), .val (.int ((sel &&& (2147483647 : Int32)) % (5 : Int32))), .unset, .unset, .unset] [])) rfl (hb hby at_66)
          refine own_step st21 ?_
          show own_Go _ _ _ _ (T21.setTop (mkF m 69 #[.val (.int sel), .val (.int pm), .val (.int ((sel &&& (2147483647 : Int32)) % (5 : Int32))), .unset, .unset, .unset] [(.ref s_ADMIN)]))
          refine own_step (fun _ κ => XS.astoreN X21.here hx rfl (hb hby at_69) rfl rfl (l' := #[.val (.int sel), .val (.int pm), .val (.int ((sel &&& (2147483647 : Int32)) % (5 : Int32))), .val (.ref s_ADMIN), .unset, .unset]) rfl κ) ?_
          show own_Go _ _ _ _ (T21.setTop (mkF m 70 #[.val (.int sel), .val (.int pm), .val (.int ((sel &&& (2147483647 : Int32)) % (5 : Int32))), .val (.ref s_ADMIN), .unset, .unset] []))
          refine own_step (fun _ κ => XS.iconst X21.here hx rfl (hb hby at_70) κ) ?_
          show own_Go _ _ _ _ (T21.setTop (mkF m 71 #[.val (.int sel), .val (.int pm), .val (.int ((sel &&& (2147483647 : Int32)) % (5 : Int32))), .val (.ref s_ADMIN), .unset, .unset] [(.int (4 : Int32))]))
          refine own_step (fun _ κ => XS.istore X21.here hx rfl (hb hby at_71) rfl (l' := #[.val (.int sel), .val (.int pm), .val (.int ((sel &&& (2147483647 : Int32)) % (5 : Int32))), .val (.ref s_ADMIN), .val (.int (4 : Int32)), .unset]) rfl κ) ?_
          show own_Go _ _ _ _ (T21.setTop (mkF m 73 #[.val (.int sel), .val (.int pm), .val (.int ((sel &&& (2147483647 : Int32)) % (5 : Int32))), .val (.ref s_ADMIN), .val (.int (4 : Int32)), .unset] []))
          refine own_step (fun _ κ => XS.iloadN X21.here hx rfl (hb hby at_73) rfl κ) ?_
          show own_Go _ _ _ _ (T21.setTop (mkF m 74 #[.val (.int sel), .val (.int pm), .val (.int ((sel &&& (2147483647 : Int32)) % (5 : Int32))), .val (.ref s_ADMIN), .val (.int (4 : Int32)), .unset] [(.int pm)]))
          refine own_step (fun _ κ => XS.iload X21.here hx rfl (hb hby at_74) rfl κ) ?_
          show own_Go _ _ _ _ (T21.setTop (mkF m 76 #[.val (.int sel), .val (.int pm), .val (.int ((sel &&& (2147483647 : Int32)) % (5 : Int32))), .val (.ref s_ADMIN), .val (.int (4 : Int32)), .unset] [(.int (4 : Int32)), (.int pm)]))
          refine own_step (fun _ κ => XS.iushr X21.here hx rfl (hb hby at_76) rfl κ) ?_
          show own_Go _ _ _ _ (T21.setTop (mkF m 77 #[.val (.int sel), .val (.int pm), .val (.int ((sel &&& (2147483647 : Int32)) % (5 : Int32))), .val (.ref s_ADMIN), .val (.int (4 : Int32)), .unset] [(.int ((pm.toUInt32 >>> ((4 : Int32) &&& 31).toUInt32).toInt32))]))
          refine own_step (fun _ κ => XS.iconst X21.here hx rfl (hb hby at_77) κ) ?_
          show own_Go _ _ _ _ (T21.setTop (mkF m 78 #[.val (.int sel), .val (.int pm), .val (.int ((sel &&& (2147483647 : Int32)) % (5 : Int32))), .val (.ref s_ADMIN), .val (.int (4 : Int32)), .unset] [(.int (1 : Int32)), (.int ((pm.toUInt32 >>> ((4 : Int32) &&& 31).toUInt32).toInt32))]))
          refine own_step (fun _ κ => XS.iand X21.here hx rfl (hb hby at_78) rfl κ) ?_
          show own_Go _ _ _ _ (T21.setTop (mkF m 79 #[.val (.int sel), .val (.int pm), .val (.int ((sel &&& (2147483647 : Int32)) % (5 : Int32))), .val (.ref s_ADMIN), .val (.int (4 : Int32)), .unset] [(.int (((pm.toUInt32 >>> ((4 : Int32) &&& 31).toUInt32).toInt32) &&& (1 : Int32)))]))
          refine own_step (fun _ κ => XS.iconst X21.here hx rfl (hb hby at_79) κ) ?_
          show own_Go _ _ _ _ (T21.setTop (mkF m 80 #[.val (.int sel), .val (.int pm), .val (.int ((sel &&& (2147483647 : Int32)) % (5 : Int32))), .val (.ref s_ADMIN), .val (.int (4 : Int32)), .unset] [(.int (1 : Int32)), (.int (((pm.toUInt32 >>> ((4 : Int32) &&& 31).toUInt32).toInt32) &&& (1 : Int32)))]))
          by_cases hc22 : (((pm.toUInt32 >>> ((4 : Int32) &&& 31).toUInt32).toInt32) &&& (1 : Int32)) = (1 : Int32)
          · refine own_step (fun _ κ => XS.icmpNo X21.here hx rfl (hb hby at_80) rfl (teq hc22).2 κ) ?_
            show own_Go _ _ _ _ (T21.setTop (mkF m 83 #[.val (.int sel), .val (.int pm), .val (.int ((sel &&& (2147483647 : Int32)) % (5 : Int32))), .val (.ref s_ADMIN), .val (.int (4 : Int32)), .unset] []))
            refine own_step (fun _ κ => XS.iconst X21.here hx rfl (hb hby at_83) κ) ?_
            show own_Go _ _ _ _ (T21.setTop (mkF m 84 #[.val (.int sel), .val (.int pm), .val (.int ((sel &&& (2147483647 : Int32)) % (5 : Int32))), .val (.ref s_ADMIN), .val (.int (4 : Int32)), .unset] [(.int (1 : Int32))]))
            refine own_step (fun _ κ => XS.goto X21.here hx rfl (pc0 := 84) (pc' := 88) rfl (hb hby at_84) (by decide) (by decide) κ) ?_
            show own_Go _ _ _ _ (T21.setTop (mkF m 88 #[.val (.int sel), .val (.int pm), .val (.int ((sel &&& (2147483647 : Int32)) % (5 : Int32))), .val (.ref s_ADMIN), .val (.int (4 : Int32)), .unset] [(.int (1 : Int32))]))
            refine own_step (fun _ κ => XS.istore X21.here hx rfl (hb hby at_88) rfl (l' := #[.val (.int sel), .val (.int pm), .val (.int ((sel &&& (2147483647 : Int32)) % (5 : Int32))), .val (.ref s_ADMIN), .val (.int (4 : Int32)), .val (.int (1 : Int32))]) rfl κ) ?_
            show own_Go _ _ _ _ (T21.setTop (mkF m 90 #[.val (.int sel), .val (.int pm), .val (.int ((sel &&& (2147483647 : Int32)) % (5 : Int32))), .val (.ref s_ADMIN), .val (.int (4 : Int32)), .val (.int (1 : Int32))] []))
            refine own_step (fun _ κ => XS.aloadN X21.here hx rfl (hb hby at_90) rfl rfl κ) ?_
            show own_Go _ _ _ _ (T21.setTop (mkF m 91 #[.val (.int sel), .val (.int pm), .val (.int ((sel &&& (2147483647 : Int32)) % (5 : Int32))), .val (.ref s_ADMIN), .val (.int (4 : Int32)), .val (.int (1 : Int32))] [(.ref s_ADMIN)]))
            refine own_step (fun _ κ => XS.iloadN X21.here hx rfl (hb hby at_91) rfl κ) ?_
            show own_Go _ _ _ _ (T21.setTop (mkF m 92 #[.val (.int sel), .val (.int pm), .val (.int ((sel &&& (2147483647 : Int32)) % (5 : Int32))), .val (.ref s_ADMIN), .val (.int (4 : Int32)), .val (.int (1 : Int32))] [(.int pm), (.ref s_ADMIN)]))
            obtain ⟨cq23, kq23, q23a, q23b, q23c⟩ := isOf hZ e21 (P4.ext P0.2)
            obtain ⟨vr23, _, ⟨T23, L23, k23, n23⟩, -, X23, ⟨Lc23, hQ23, l23, y23, z23⟩, st23⟩ := X21.virtualBack hx (y := (⟨"com/example/cairn/cairn/model/Permission", "in", "(I)Z"⟩ : MethodName)) (z := (⟨"com/example/cairn/cairn/model/Permission", "in", "(I)Z"⟩ : MethodName)) hown (mvT hZ (hw _ (List.mem_of_getElem? (i := 4) rfl))) (mvT hZ (hw _ (List.mem_of_getElem? (i := 5) rfl))) (notFace_of_selects (args := #[]) (mvT hZ (hw _ (List.mem_of_getElem? (i := 7) rfl)))) (mvT hZ (hw _ (List.mem_of_getElem? (i := 7) rfl))) (mvT hZ (hw _ (List.mem_of_getElem? (i := 6) rfl))) (by decide) (backOf (W := 0) (rm1 l Z a0 hw [] s_ADMIN pm (16 : Int32) h0 n0 Z0 (P12.ext P0.2)) hZ (hw _ (List.mem_of_getElem? (i := 8) rfl)) (hw _ (List.mem_of_getElem? (i := 2) rfl)) (by decide) (by decide)) q23a q23c (g := (mkF m 92 #[.val (.int sel), .val (.int pm), .val (.int ((sel &&& (2147483647 : Int32)) % (5 : Int32))), .val (.ref s_ADMIN), .val (.int (4 : Int32)), .val (.int (1 : Int32))] [(.int pm), (.ref s_ADMIN)])) rfl (by rw [hml]; rfl) (Steps.refl _) (argsL := [(.int pm)]) (rest := []) (lenOf pd_0 rfl) rfl (by show 2 * 0 + _ ≤ _; exact Nat.le_of_eq rfl) (hb hby at_92) (fun _ _ => ⟨rfl, e21, (by decide : 0 + 0 ≤ _), (by decide : 0 + 0 ≤ _)⟩)
            dsimp only [Pt.U, Pt.locs, Pt.cells, Pt.slots] at X23 l23 y23 z23 st23 hQ23
            subst l23 y23 z23
            obtain ⟨hv23, Nq23, eq23⟩ := hQ23
            have N23 := Fr.app N0 Nq23
            rw [if_neg ((own_bit pm (4 : Int32) (16 : Int32) 4 (by decide) (by decide) (by decide)).mp hc22)] at hv23
            subst hv23
            refine own_step (fun _ κ => st23.trans κ) ?_
            show own_Go _ _ _ _ (T23.setTop (mkF m 95 #[.val (.int sel), .val (.int pm), .val (.int ((sel &&& (2147483647 : Int32)) % (5 : Int32))), .val (.ref s_ADMIN), .val (.int (4 : Int32)), .val (.int (1 : Int32))] [(.int (1 : Int32))]))
            refine own_step (fun _ κ => XS.iload X23.here hx rfl (hb hby at_95) rfl κ) ?_
            show own_Go _ _ _ _ (T23.setTop (mkF m 97 #[.val (.int sel), .val (.int pm), .val (.int ((sel &&& (2147483647 : Int32)) % (5 : Int32))), .val (.ref s_ADMIN), .val (.int (4 : Int32)), .val (.int (1 : Int32))] [(.int (1 : Int32)), (.int (1 : Int32))]))
            refine own_step (fun _ κ => XS.icmpNo X23.here hx rfl (hb hby at_97) rfl (teq rfl).2 κ) ?_
            show own_Go _ _ _ _ (T23.setTop (mkF m 100 #[.val (.int sel), .val (.int pm), .val (.int ((sel &&& (2147483647 : Int32)) % (5 : Int32))), .val (.ref s_ADMIN), .val (.int (4 : Int32)), .val (.int (1 : Int32))] []))
            refine own_step (fun _ κ => XS.iconst X23.here hx rfl (hb hby at_100) κ) ?_
            show own_Go _ _ _ _ (T23.setTop (mkF m 101 #[.val (.int sel), .val (.int pm), .val (.int ((sel &&& (2147483647 : Int32)) % (5 : Int32))), .val (.ref s_ADMIN), .val (.int (4 : Int32)), .val (.int (1 : Int32))] [(.int (1 : Int32))]))
            refine own_step (fun _ κ => XS.goto X23.here hx rfl (pc0 := 101) (pc' := 105) rfl (hb hby at_101) (by decide) (by decide) κ) ?_
            show own_Go _ _ _ _ (T23.setTop (mkF m 105 #[.val (.int sel), .val (.int pm), .val (.int ((sel &&& (2147483647 : Int32)) % (5 : Int32))), .val (.ref s_ADMIN), .val (.int (4 : Int32)), .val (.int (1 : Int32))] [(.int (1 : Int32))]))
            obtain ⟨fs, hr, hrun, hended, hW, hsame⟩ := X23.leave (v := some (.int (1 : Int32))) (fun h => by rw [Bd.returns] at h; cases h)
            refine ⟨_, _, retN X23 hx (t := .boolean) Bd.returns (by simp) (hb hby at_105) hr, hrun, hended, _, _, rfl, ?_, ⟨_, rfl⟩, hW, hsame.mono (by decide) (by decide)⟩
            show Q0 Z sel pm s_CREATE s_ADMIN s_WRITE s_DELETE s_READ h0 n0 _ T23.heap _
            exact ⟨rfl, N23⟩
          · refine own_step (fun _ κ => XS.icmpYes X21.here hx rfl (pc0 := 80) (pc' := 87) rfl (hb hby at_80) rfl (feq hc22).2 (by decide) (by decide) κ) ?_
            show own_Go _ _ _ _ (T21.setTop (mkF m 87 #[.val (.int sel), .val (.int pm), .val (.int ((sel &&& (2147483647 : Int32)) % (5 : Int32))), .val (.ref s_ADMIN), .val (.int (4 : Int32)), .unset] []))
            refine own_step (fun _ κ => XS.iconst X21.here hx rfl (hb hby at_87) κ) ?_
            show own_Go _ _ _ _ (T21.setTop (mkF m 88 #[.val (.int sel), .val (.int pm), .val (.int ((sel &&& (2147483647 : Int32)) % (5 : Int32))), .val (.ref s_ADMIN), .val (.int (4 : Int32)), .unset] [(.int (0 : Int32))]))
            refine own_step (fun _ κ => XS.istore X21.here hx rfl (hb hby at_88) rfl (l' := #[.val (.int sel), .val (.int pm), .val (.int ((sel &&& (2147483647 : Int32)) % (5 : Int32))), .val (.ref s_ADMIN), .val (.int (4 : Int32)), .val (.int (0 : Int32))]) rfl κ) ?_
            show own_Go _ _ _ _ (T21.setTop (mkF m 90 #[.val (.int sel), .val (.int pm), .val (.int ((sel &&& (2147483647 : Int32)) % (5 : Int32))), .val (.ref s_ADMIN), .val (.int (4 : Int32)), .val (.int (0 : Int32))] []))
            refine own_step (fun _ κ => XS.aloadN X21.here hx rfl (hb hby at_90) rfl rfl κ) ?_
            show own_Go _ _ _ _ (T21.setTop (mkF m 91 #[.val (.int sel), .val (.int pm), .val (.int ((sel &&& (2147483647 : Int32)) % (5 : Int32))), .val (.ref s_ADMIN), .val (.int (4 : Int32)), .val (.int (0 : Int32))] [(.ref s_ADMIN)]))
            refine own_step (fun _ κ => XS.iloadN X21.here hx rfl (hb hby at_91) rfl κ) ?_
            show own_Go _ _ _ _ (T21.setTop (mkF m 92 #[.val (.int sel), .val (.int pm), .val (.int ((sel &&& (2147483647 : Int32)) % (5 : Int32))), .val (.ref s_ADMIN), .val (.int (4 : Int32)), .val (.int (0 : Int32))] [(.int pm), (.ref s_ADMIN)]))
            obtain ⟨cq24, kq24, q24a, q24b, q24c⟩ := isOf hZ e21 (P4.ext P0.2)
            obtain ⟨vr24, _, ⟨T24, L24, k24, n24⟩, -, X24, ⟨Lc24, hQ24, l24, y24, z24⟩, st24⟩ := X21.virtualBack hx (y := (⟨"com/example/cairn/cairn/model/Permission", "in", "(I)Z"⟩ : MethodName)) (z := (⟨"com/example/cairn/cairn/model/Permission", "in", "(I)Z"⟩ : MethodName)) hown (mvT hZ (hw _ (List.mem_of_getElem? (i := 4) rfl))) (mvT hZ (hw _ (List.mem_of_getElem? (i := 5) rfl))) (notFace_of_selects (args := #[]) (mvT hZ (hw _ (List.mem_of_getElem? (i := 7) rfl)))) (mvT hZ (hw _ (List.mem_of_getElem? (i := 7) rfl))) (mvT hZ (hw _ (List.mem_of_getElem? (i := 6) rfl))) (by decide) (backOf (W := 0) (rm1 l Z a0 hw [] s_ADMIN pm (16 : Int32) h0 n0 Z0 (P12.ext P0.2)) hZ (hw _ (List.mem_of_getElem? (i := 8) rfl)) (hw _ (List.mem_of_getElem? (i := 2) rfl)) (by decide) (by decide)) q24a q24c (g := (mkF m 92 #[.val (.int sel), .val (.int pm), .val (.int ((sel &&& (2147483647 : Int32)) % (5 : Int32))), .val (.ref s_ADMIN), .val (.int (4 : Int32)), .val (.int (0 : Int32))] [(.int pm), (.ref s_ADMIN)])) rfl (by rw [hml]; rfl) (Steps.refl _) (argsL := [(.int pm)]) (rest := []) (lenOf pd_0 rfl) rfl (by show 2 * 0 + _ ≤ _; exact Nat.le_of_eq rfl) (hb hby at_92) (fun _ _ => ⟨rfl, e21, (by decide : 0 + 0 ≤ _), (by decide : 0 + 0 ≤ _)⟩)
            dsimp only [Pt.U, Pt.locs, Pt.cells, Pt.slots] at X24 l24 y24 z24 st24 hQ24
            subst l24 y24 z24
            obtain ⟨hv24, Nq24, eq24⟩ := hQ24
            have N24 := Fr.app N0 Nq24
            rw [if_pos (Classical.byContradiction fun q => hc22 (((own_bit pm (4 : Int32) (16 : Int32) 4 (by decide) (by decide) (by decide)).mpr q)))] at hv24
            subst hv24
            refine own_step (fun _ κ => st24.trans κ) ?_
            show own_Go _ _ _ _ (T24.setTop (mkF m 95 #[.val (.int sel), .val (.int pm), .val (.int ((sel &&& (2147483647 : Int32)) % (5 : Int32))), .val (.ref s_ADMIN), .val (.int (4 : Int32)), .val (.int (0 : Int32))] [(.int (0 : Int32))]))
            refine own_step (fun _ κ => XS.iload X24.here hx rfl (hb hby at_95) rfl κ) ?_
            show own_Go _ _ _ _ (T24.setTop (mkF m 97 #[.val (.int sel), .val (.int pm), .val (.int ((sel &&& (2147483647 : Int32)) % (5 : Int32))), .val (.ref s_ADMIN), .val (.int (4 : Int32)), .val (.int (0 : Int32))] [(.int (0 : Int32)), (.int (0 : Int32))]))
            refine own_step (fun _ κ => XS.icmpNo X24.here hx rfl (hb hby at_97) rfl (teq rfl).2 κ) ?_
            show own_Go _ _ _ _ (T24.setTop (mkF m 100 #[.val (.int sel), .val (.int pm), .val (.int ((sel &&& (2147483647 : Int32)) % (5 : Int32))), .val (.ref s_ADMIN), .val (.int (4 : Int32)), .val (.int (0 : Int32))] []))
            refine own_step (fun _ κ => XS.iconst X24.here hx rfl (hb hby at_100) κ) ?_
            show own_Go _ _ _ _ (T24.setTop (mkF m 101 #[.val (.int sel), .val (.int pm), .val (.int ((sel &&& (2147483647 : Int32)) % (5 : Int32))), .val (.ref s_ADMIN), .val (.int (4 : Int32)), .val (.int (0 : Int32))] [(.int (1 : Int32))]))
            refine own_step (fun _ κ => XS.goto X24.here hx rfl (pc0 := 101) (pc' := 105) rfl (hb hby at_101) (by decide) (by decide) κ) ?_
            show own_Go _ _ _ _ (T24.setTop (mkF m 105 #[.val (.int sel), .val (.int pm), .val (.int ((sel &&& (2147483647 : Int32)) % (5 : Int32))), .val (.ref s_ADMIN), .val (.int (4 : Int32)), .val (.int (0 : Int32))] [(.int (1 : Int32))]))
            obtain ⟨fs, hr, hrun, hended, hW, hsame⟩ := X24.leave (v := some (.int (1 : Int32))) (fun h => by rw [Bd.returns] at h; cases h)
            refine ⟨_, _, retN X24 hx (t := .boolean) Bd.returns (by simp) (hb hby at_105) hr, hrun, hended, _, _, rfl, ?_, ⟨_, rfl⟩, hW, hsame.mono (by decide) (by decide)⟩
            show Q0 Z sel pm s_CREATE s_ADMIN s_WRITE s_DELETE s_READ h0 n0 _ T24.heap _
            exact ⟨rfl, N24⟩
set_option maxRecDepth 65536 in
set_option maxHeartbeats 40000000 in
theorem comes_1 {Post : Tables → Env → Array Value → State → Outcome → State → Prop} (hpost : ∀ tb e args s v u, (limb_1_1.after args s (.returned v) u = true ∧ limb_1_2.after args s (.returned v) u = true ∧ True) → FrameEnd s (.returned v) u (Jvm.fieldLocs frame_1_writes args s ++ Jvm.arrayLocs frame_1_arrays args s ++ Jvm.staticLocs frame_1_statics s) 0 0 → Post tb e args s (.returned v) u) :
    ArmFor flags0 classFile x code maxLocals ret World_1 tables_1 room_1 Calls_1 rest_1 Pre_1 Post := by
  intro l hfl _ _ p e ha hc hk s m args below hf hA hF happ hP
  obtain ⟨hcalls, hrest, hpre⟩ := hP
  obtain ⟨-, -, -, hnamed, -, -, -, hat⟩ := (Spec.applies_iff hf).mp happ
  obtain ⟨hg, hn⟩ := and_e (Cond.before_iff.mp (show (Jvm.Cond.and given_1 narrow_1).before args s = true from hpre))
  obtain ⟨g0, gr0⟩ := and_e hg
  obtain ⟨w0, w1, rfl⟩ : ∃ w0 w1 : Value, args = #[w0, w1] := by
    have hs : args.size = 2 := by simpa [Cond.value, given_1] using g0
    obtain ⟨L⟩ := args
    match L, hs with
    | [w0, w1], _ => exact ⟨w0, w1, rfl⟩
  have hw := fun d (hd : d ∈ tables_1) => atoms_spec (ws := Jvm.Cond.code x code maxLocals ret :: tables_1) hat d (List.mem_cons_of_mem _ hd)
  have hfit : Fit s := fun {y c} hc i hi => by
    obtain ⟨ha, rfl⟩ := Array.getElem?_eq_some_iff.mp hc
    have q := List.all_eq_true.mp ((Array.all_eq_true_iff_forall_mem.mp hF) _ (Array.getElem_mem ha)) i (List.mem_range.mpr hi)
    simpa [Array.getElem?_eq_getElem hi] using q
  obtain ⟨ga0, gr1⟩ := and_e gr0
  obtain ⟨i0, ei0⟩ := is_v ga0
  obtain rfl : w0 = (.int i0) := Option.some.inj ei0
  obtain ⟨i1, ei1⟩ := is_v gr1
  obtain rfl : w1 = (.int i1) := Option.some.inj ei1
  obtain ⟨nh0, nr0⟩ := and_e hn
  obtain ⟨nh1, nr1⟩ := and_e nr0
  obtain ⟨nh2, nr2⟩ := and_e nr1
  obtain ⟨nh3, nr3⟩ := and_e nr2
  obtain ⟨nh4, nr4⟩ := and_e nr3
  obtain ⟨nh5, nr5⟩ := and_e nr4
  obtain ⟨nh6, nr6⟩ := and_e nr5
  obtain ⟨nh7, nr7⟩ := and_e nr6
  obtain ⟨nh8, nr8⟩ := and_e nr7
  obtain ⟨s_CREATE, ev_s_CREATE, S_s_CREATE, E_s_CREATE⟩ := own_sta nh0 (hw _ (List.mem_of_getElem? (i := 2) rfl)) (hw _ (List.mem_of_getElem? (i := 3) rfl))
  obtain ⟨s_ADMIN, ev_s_ADMIN, S_s_ADMIN, E_s_ADMIN⟩ := own_sta nh2 (hw _ (List.mem_of_getElem? (i := 2) rfl)) (hw _ (List.mem_of_getElem? (i := 12) rfl))
  obtain ⟨s_WRITE, ev_s_WRITE, S_s_WRITE, E_s_WRITE⟩ := own_sta nh4 (hw _ (List.mem_of_getElem? (i := 2) rfl)) (hw _ (List.mem_of_getElem? (i := 14) rfl))
  obtain ⟨s_DELETE, ev_s_DELETE, S_s_DELETE, E_s_DELETE⟩ := own_sta nh6 (hw _ (List.mem_of_getElem? (i := 2) rfl)) (hw _ (List.mem_of_getElem? (i := 16) rfl))
  obtain ⟨s_READ, ev_s_READ, S_s_READ, E_s_READ⟩ := own_sta nh8 (hw _ (List.mem_of_getElem? (i := 2) rfl)) (hw _ (List.mem_of_getElem? (i := 18) rfl))
  have F_s_CREATE_bit := own_staF ev_s_CREATE nh1
  have F_s_ADMIN_bit := own_staF ev_s_ADMIN nh3
  have F_s_WRITE_bit := own_staF ev_s_WRITE nh5
  have F_s_DELETE_bit := own_staF ev_s_DELETE nh7
  have F_s_READ_bit := own_staF ev_s_READ nr8
  obtain ⟨n, o, h1, h2, h3, _, L, rfl, ⟨rfl, N⟩, hq⟩ := rm0 l s _ hw tables_1 i0 i1 s_CREATE s_ADMIN s_WRITE s_DELETE s_READ s.heap s.heap.size (Nat.le_refl _) (Old.start s) S_s_CREATE E_s_CREATE S_s_ADMIN E_s_ADMIN S_s_WRITE E_s_WRITE S_s_DELETE E_s_DELETE S_s_READ E_s_READ F_s_CREATE_bit F_s_ADMIN_bit F_s_WRITE_bit F_s_DELETE_bit F_s_READ_bit p e ha hc hk s m _ below hf ((Spec.applies_iff_loose hf).mp happ).1 ⟨rfl, State.Warmed39.refl s, rfl⟩ trivial
  refine ⟨n, _, h1, h2, h3, hpost _ _ _ _ _ _ ⟨Cond.after_iff.mpr rfl, Cond.after_iff.mpr (eq_i res_at (Term.int_eval (1)) rfl), trivial⟩ ⟨hq.1, hq.2.1, (hq.2.2.sift fun y hy => Or.inr (N y hy)).mono (by decide) (by decide)⟩⟩
theorem main_1_1 : Claimed_1_1 := comes_1 fun _ _ _ _ _ _ h hF => ⟨h.1, hF⟩
theorem main_1_2 : Claimed_1_2 := comes_1 fun _ _ _ _ _ _ h hF => ⟨h.2.1, hF⟩
end Jvm.Pilot.@@N@@
namespace Jvm.Pilot.@@N@@
open Jvm Jvm.ClassFile Sem Op Lib Jvm.Free Jvm.Stand Jvm.Pilot.@@N@@.Jvm.D
/-! MADE BY PROGRAM (witnessworld.py) out of the Statement's table words and the real class files: 12 classes; the members and pool entries that the words name. The judged class is class 1, her method 1. -/
namespace start1
open Jvm.ClassFile
def u (s : String) : CpInfo := .utf8 (stringToUtf16 s)
/-- a pool by its gaps: so many unusable entries, then the entry; so many at the end -/
def gap : Nat → List CpInfo → List CpInfo
  | 0, r => r
  | n + 1, r => .unusable :: gap n r
def poolList (es : List (Nat × CpInfo)) (last : Nat) : List CpInfo := es.foldr (fun e r => gap e.1 (e.2 :: r)) (gap last [])
def pool (es : List (Nat × CpInfo)) (last : Nat) : Array CpInfo := ⟨poolList es last⟩
def fileOf (pool : Array CpInfo) (this : Nat) (attrs : Array Attribute := #[]) (ms : Array MethodInfo := #[]) (fl : Nat := 33) (sup : Nat := 0) (ifs : Array Nat := #[]) (fds : Array FieldInfo := #[]) : ClassFile where
  minorVersion := 0
  majorVersion := 65
  constantPool := pool
  accessFlags := fl
  thisClass := this
  superClass := sup
  interfaces := ifs
  fields := fds
  methods := ms
  attributes := attrs
def plain (name : String) (sup : Option ClassId) : Class where
  name := name
  kind := .ordinary
  loader := none
  accessFlags := 33
  super := sup
  interfaces := #[]
  cf := none
  fields := #[]
  methods := #[]
  instanceTypes := #[]
  staticTypes := #[]
  resolved := #[]
  callSites := []
  init := .initialized
  statics := none
  mirror := none

def pool0 : Array CpInfo := pool [(5, u "<init>"), (0, u "()V"), (1, .class_ 10), (1, u "java/lang/Object")] 113

def k0m0 : Method := { name := "<init>", desc := "()V", sig := { parameters := [], returnType := none }, accessFlags := 1, code := none }
/-- java/lang/Object -/
def k0 : Class := { plain "java/lang/Object" none with
  accessFlags := 33
  interfaces := #[]
  cf := some (fileOf pool0 8 #[] #[{ accessFlags := 1, nameIndex := 5, descriptorIndex := 6, attributes := #[] }] 33 0 #[] #[])
  fields := #[]
  methods := #[k0m0]
  instanceTypes := #[]
  staticTypes := #[]
  resolved := Array.replicate 124 none
  statics := none }

def pool1 : Array CpInfo := pool [(2, .class_ 4), (1, u "java/lang/Object"), (0, u "<init>"), (0, u "()V"), (0, .integer 2147483647), (0, .fieldref 9 10), (0, .class_ 11), (0, .nameAndType 12 13), (0, u "com/example/cairn/cairn/model/Permission"), (0, u "CREATE"), (0, u "Lcom/example/cairn/cairn/model/Permission;"), (0, .fieldref 9 15), (0, .nameAndType 16 13), (0, u "DELETE"), (0, .fieldref 9 18), (0, .nameAndType 19 13), (0, u "READ"), (0, .fieldref 9 21), (0, .nameAndType 22 13), (0, u "WRITE"), (0, .fieldref 9 24), (0, .nameAndType 25 13), (0, u "ADMIN"), (0, .methodref 9 27), (0, .nameAndType 28 29), (0, u "in"), (0, u "(I)Z"), (0, .class_ 31), (0, u "com/example/cairn/cairn/model/PermissionInPinLaw"), (2, u "law"), (0, u "(II)Z")] 3

def k1m0 : Method := { name := "<init>", desc := "()V", sig := { parameters := [], returnType := none }, accessFlags := 1, code := none }
def k1c1 : Code := { maxStack := 2, maxLocals := 6, code := code, exceptionTable := #[], attributes := #[] }
def k1m1 : Method := { name := "law", desc := "(II)Z", sig := { parameters := [.int, .int], returnType := some .boolean }, accessFlags := 9, code := some k1c1 }
/-- com/example/cairn/cairn/model/PermissionInPinLaw -/
def k1 : Class := { plain "com/example/cairn/cairn/model/PermissionInPinLaw" (some 0) with
  accessFlags := 49
  interfaces := #[]
  cf := some (fileOf pool1 30 #[] #[{ accessFlags := 1, nameIndex := 5, descriptorIndex := 6, attributes := #[] }, { accessFlags := 9, nameIndex := 34, descriptorIndex := 35, attributes := #[] }] 49 2 #[] #[])
  fields := #[]
  methods := #[k1m0, k1m1]
  instanceTypes := #[]
  staticTypes := #[]
  resolved := Array.replicate 39 none
  statics := none }

def pool2 : Array CpInfo := pool [(1, .class_ 2), (0, u "java/lang/constant/Constable"), (0, .class_ 4), (0, u "java/lang/Object")] 6

/-- java/lang/constant/Constable -/
def k2 : Class := { plain "java/lang/constant/Constable" (some 0) with
  accessFlags := 1537
  interfaces := #[]
  cf := some (fileOf pool2 1 #[] #[] 1537 3 #[] #[])
  fields := #[]
  methods := #[]
  instanceTypes := #[]
  staticTypes := #[]
  resolved := Array.replicate 11 none
  statics := none }

def pool3 : Array CpInfo := pool [(1, .class_ 2), (0, u "java/lang/Comparable"), (0, .class_ 4), (0, u "java/lang/Object")] 7

/-- java/lang/Comparable -/
def k3 : Class := { plain "java/lang/Comparable" (some 0) with
  accessFlags := 1537
  interfaces := #[]
  cf := some (fileOf pool3 1 #[] #[] 1537 3 #[] #[])
  fields := #[]
  methods := #[]
  instanceTypes := #[]
  staticTypes := #[]
  resolved := Array.replicate 12 none
  statics := none }

def pool4 : Array CpInfo := pool [(1, .class_ 2), (0, u "java/io/Serializable"), (0, .class_ 4), (0, u "java/lang/Object")] 2

/-- java/io/Serializable -/
def k4 : Class := { plain "java/io/Serializable" (some 0) with
  accessFlags := 1537
  interfaces := #[]
  cf := some (fileOf pool4 1 #[] #[] 1537 3 #[] #[])
  fields := #[]
  methods := #[]
  instanceTypes := #[]
  staticTypes := #[]
  resolved := Array.replicate 7 none
  statics := none }

def pool5 : Array CpInfo := pool [(2, .class_ 4), (1, u "java/lang/Enum"), (0, u "name"), (0, u "Ljava/lang/String;"), (2, u "ordinal"), (0, u "I"), (1, .class_ 14), (1, u "java/lang/Object"), (4, u "hash"), (86, .class_ 108), (1, u "java/lang/Enum$EnumDesc"), (2, .class_ 112), (0, u "java/lang/constant/Constable"), (0, .class_ 114), (0, u "java/lang/Comparable"), (0, .class_ 116), (0, u "java/io/Serializable")] 87

/-- java/lang/Enum -/
def k5 : Class := { plain "java/lang/Enum" (some 0) with
  accessFlags := 1057
  interfaces := #[2, 3, 4]
  cf := some (fileOf pool5 2 #[.nestMembers #[106]] #[] 1057 12 #[111, 113, 115] #[{ accessFlags := 18, nameIndex := 5, descriptorIndex := 6, attributes := #[] }, { accessFlags := 18, nameIndex := 9, descriptorIndex := 10, attributes := #[] }, { accessFlags := 2, nameIndex := 19, descriptorIndex := 10, attributes := #[] }])
  fields := #[{ name := "name", type := (.object "java/lang/String"), accessFlags := 18, slot := 0, constantValue := 0 }, { name := "ordinal", type := .int, accessFlags := 18, slot := 1, constantValue := 0 }, { name := "hash", type := .int, accessFlags := 2, slot := 2, constantValue := 0 }]
  methods := #[]
  instanceTypes := #[(.object "java/lang/String"), .int, .int]
  staticTypes := #[]
  resolved := Array.replicate 204 none
  statics := none }

def pool6 : Array CpInfo := pool [(1, .class_ 2), (0, u "com/example/cairn/cairn/model/Permission"), (2, u "CREATE"), (0, u "Lcom/example/cairn/cairn/model/Permission;"), (2, u "DELETE"), (2, u "READ"), (2, u "WRITE"), (2, u "ADMIN"), (2, u "$VALUES"), (0, u "[Lcom/example/cairn/cairn/model/Permission;"), (6, .class_ 31), (1, u "java/lang/Enum"), (6, .fieldref 1 39), (0, .nameAndType 40 41), (0, u "bit"), (0, u "I"), (2, u "letter"), (0, u "C"), (46, u "in"), (0, u "(I)Z")] 29

def k6c0 : Code := { maxStack := 2, maxLocals := 2, code := prog_54_method_7_code, exceptionTable := #[], attributes := #[] }
def k6m0 : Method := { name := "in", desc := "(I)Z", sig := { parameters := [.int], returnType := some .boolean }, accessFlags := 1, code := some k6c0 }
/-- com/example/cairn/cairn/model/Permission -/
def k6 : Class := { plain "com/example/cairn/cairn/model/Permission" (some 5) with
  accessFlags := 16433
  interfaces := #[]
  cf := some (fileOf pool6 1 #[] #[{ accessFlags := 1, nameIndex := 92, descriptorIndex := 93, attributes := #[] }] 16433 29 #[] #[{ accessFlags := 16409, nameIndex := 5, descriptorIndex := 6, attributes := #[] }, { accessFlags := 16409, nameIndex := 9, descriptorIndex := 6, attributes := #[] }, { accessFlags := 16409, nameIndex := 12, descriptorIndex := 6, attributes := #[] }, { accessFlags := 16409, nameIndex := 15, descriptorIndex := 6, attributes := #[] }, { accessFlags := 16409, nameIndex := 18, descriptorIndex := 6, attributes := #[] }, { accessFlags := 18, nameIndex := 40, descriptorIndex := 41, attributes := #[] }, { accessFlags := 18, nameIndex := 44, descriptorIndex := 45, attributes := #[] }, { accessFlags := 4122, nameIndex := 21, descriptorIndex := 22, attributes := #[] }])
  fields := #[{ name := "CREATE", type := (.object "com/example/cairn/cairn/model/Permission"), accessFlags := 16409, slot := 0, constantValue := 0 }, { name := "DELETE", type := (.object "com/example/cairn/cairn/model/Permission"), accessFlags := 16409, slot := 1, constantValue := 0 }, { name := "READ", type := (.object "com/example/cairn/cairn/model/Permission"), accessFlags := 16409, slot := 2, constantValue := 0 }, { name := "WRITE", type := (.object "com/example/cairn/cairn/model/Permission"), accessFlags := 16409, slot := 3, constantValue := 0 }, { name := "ADMIN", type := (.object "com/example/cairn/cairn/model/Permission"), accessFlags := 16409, slot := 4, constantValue := 0 }, { name := "bit", type := .int, accessFlags := 18, slot := 3, constantValue := 0 }, { name := "letter", type := .char, accessFlags := 18, slot := 4, constantValue := 0 }, { name := "$VALUES", type := (.array (.object "com/example/cairn/cairn/model/Permission")), accessFlags := 4122, slot := 5, constantValue := 0 }]
  methods := #[k6m0]
  instanceTypes := #[(.object "java/lang/String"), .int, .int, .int, .char]
  staticTypes := #[(.object "com/example/cairn/cairn/model/Permission"), (.object "com/example/cairn/cairn/model/Permission"), (.object "com/example/cairn/cairn/model/Permission"), (.object "com/example/cairn/cairn/model/Permission"), (.object "com/example/cairn/cairn/model/Permission"), (.array (.object "com/example/cairn/cairn/model/Permission"))]
  resolved := Array.replicate 123 none
  statics := some 0 }

def pool7 : Array CpInfo := pool [(1, u "java/lang/Cloneable"), (0, .class_ 1), (0, u "java/lang/Object"), (0, .class_ 3)] 3

/-- java/lang/Cloneable -/
def k7 : Class := { plain "java/lang/Cloneable" (some 0) with
  accessFlags := 1537
  interfaces := #[]
  cf := some (fileOf pool7 2 #[] #[] 1537 4 #[] #[])
  fields := #[]
  methods := #[]
  instanceTypes := #[]
  staticTypes := #[]
  resolved := Array.replicate 8 none
  statics := none }

/-- the primitive byte -/
def k8 : Class := { plain "byte" none with kind := .primitive 'B', accessFlags := 0x411 }
/-- [B -/
def k9 : Class := { plain "[B" (some 0) with kind := .array 8 .byte, interfaces := #[7, 4], accessFlags := 1041 }

/-- the primitive int -/
def k10 : Class := { plain "int" none with kind := .primitive 'I', accessFlags := 0x411 }
/-- [I -/
def k11 : Class := { plain "[I" (some 0) with kind := .array 10 .int, interfaces := #[7, 4], accessFlags := 1041 }

def heap : Heap := #[{ cls := 6, slots := #[.ref 3, .ref 4, .ref 1, .ref 2, .ref 5, .null], vm := .statics 6 },
  { cls := 6, slots := #[.null, .int 0, .int 0, .int 1, .int 0], vm := .none },
  { cls := 6, slots := #[.null, .int 1, .int 0, .int 2, .int 0], vm := .none },
  { cls := 6, slots := #[.null, .int 2, .int 0, .int 4, .int 0], vm := .none },
  { cls := 6, slots := #[.null, .int 3, .int 0, .int 8, .int 0], vm := .none },
  { cls := 6, slots := #[.null, .int 4, .int 0, .int 16, .int 0], vm := .none }]
def classes : Array Class := #[k0, k1, k2, k3, k4, k5, k6, k7, k8, k9, k10, k11]
def interned : List (Array UInt16 × Addr) := []
def slotsUsed : Nat := 31
def theMethod : MethodId := ⟨1, 1⟩
def args0 : Array Value := #[.int 5, .int 3]
def aboutOver (below : List Frame) : State where
  vm := { classes := classes, interned := interned.toArray }
  heap := heap
  slotsUsed := slotsUsed
  threads := #[{ frames := .invoking theMethod args0 :: below }]
def below0 : List Frame := [.native { method := ⟨0, 0⟩, args := #[] }]
def about1 : State := aboutOver below0
def p0 : Program := .bare "" "" ""
def e0 : Env := launch0.env 0 0 0
theorem w_frames : about1.frames = Frame.invoking theMethod args0 :: below0 := rfl
set_option maxRecDepth 65536 in
theorem w_args : argsFit about1.vm theMethod args0 = true := by decide +kernel
set_option maxRecDepth 65536 in
theorem w_heap : heapFits about1 = true := by decide +kernel
set_option maxRecDepth 65536 in
theorem w_runnable : about1.curStatus? = some .runnable := by decide +kernel
set_option maxRecDepth 65536 in
theorem w_alone : about1.alone = true := by decide +kernel
set_option maxRecDepth 65536 in
theorem w_named : about1.methodNamed? x = some theMethod := by decide +kernel
set_option maxRecDepth 65536 in
theorem w_hears : about1.hears theMethod below0 = true := by decide +kernel
set_option maxRecDepth 65536 in
theorem w_ripe : about1.ripe theMethod args0 below0 = true := by decide +kernel
theorem w_running : about1.status = .running := rfl
set_option maxRecDepth 65536 in
theorem w_room : about1.hasRoom e0.platform room_1 = true :=
  launch0.hasRoom_least _ room_1 (by decide +kernel) (by decide +kernel) (by decide +kernel) (by decide +kernel) (by decide +kernel) (by decide +kernel)
theorem allAtoms_all (ts : List Jvm.Cond) (a : Array Jvm.Value) (st : Jvm.State) : (allAtoms ts).before a st = ts.all (fun c => c.before a st) := by
  induction ts with
  | nil => rfl
  | cons c t ih =>
    show (Jvm.Cond.and c (allAtoms t)).before a st = _
    rw [Jvm.Cond.before_and, ih, List.all_cons]
def words1 : List Jvm.Cond := Jvm.Cond.code x code maxLocals ret :: tables_1
/-- a 'code' word, met by the world's own term for the bytes: nothing is compared byte by byte -/
theorem code_word {y : MethodName} {bytes : ByteArray} {mx : Nat} {rt : Option FieldType} {a : Array Value} {s : State} {m : MethodId} {meth : Method} {c : Code} (h1 : s.methodNamed? y = some m) (h2 : s.vm.method? m = some meth) (h3 : meth.code = some c) (h4 : c.code = bytes)
    (h5 : (c.maxLocals == mx && c.exceptionTable.isEmpty && decide (c.maxStack ≤ mostOperands) && decide (meth.sig.returnType = rt) && !meth.locks && decide (parseMethodDescriptor y.desc = some meth.sig)) = true) : (Jvm.Cond.code y bytes mx rt).before a s = true := by
  simp only [Bool.and_eq_true, beq_iff_eq, Bool.not_eq_true', decide_eq_true_eq] at h5
  obtain ⟨⟨⟨⟨⟨g1, g2⟩, g3⟩, g4⟩, g5⟩, g6⟩ := h5
  simp [Cond.before, Cond.holds, Cond.value, h1, h2, h3, h4, g1, g2, g3, g4, g5, g6]
def isCode : Jvm.Cond → Bool
  | .code _ _ _ _ => true
  | _ => false
theorem all_split {L : List Jvm.Cond} {P : Jvm.Cond → Bool} (h1 : L.all (fun c => isCode c || P c) = true) (h2 : ∀ c ∈ L.filter isCode, P c = true) : L.all P = true := by
  refine List.all_eq_true.mpr fun c hc => ?_
  have h := List.all_eq_true.mp h1 c hc
  rcases Bool.eq_false_or_eq_true (isCode c) with hi | hi
  · exact h2 c (List.mem_filter.mpr ⟨hc, hi⟩)
  · simpa [hi] using h
set_option maxRecDepth 65536 in
theorem w_c0 : (Jvm.Cond.code x code maxLocals ret).before args0 about1 = true := code_word (m := ⟨1, 1⟩) (meth := k1m1) (c := k1c1) (by decide +kernel) rfl rfl rfl (by decide +kernel)
set_option maxRecDepth 65536 in
theorem w_c1 : (Jvm.Cond.code ({ cls := "com/example/cairn/cairn/model/Permission", name := "in", desc := "(I)Z" } : Jvm.MethodName) prog_54_method_7_code (2 : Nat) (Option.some Jvm.ClassFile.FieldType.boolean)).before args0 about1 = true := code_word (m := ⟨6, 0⟩) (meth := k6m0) (c := k6c0) (by decide +kernel) rfl rfl rfl (by decide +kernel)
def codes1 : List Jvm.Cond := [Jvm.Cond.code x code maxLocals ret, Jvm.Cond.code ({ cls := "com/example/cairn/cairn/model/Permission", name := "in", desc := "(I)Z" } : Jvm.MethodName) prog_54_method_7_code (2 : Nat) (Option.some Jvm.ClassFile.FieldType.boolean)]
set_option maxRecDepth 65536 in
theorem codes_eq : words1.filter isCode = codes1 := rfl
theorem w_codes : ∀ c ∈ words1.filter isCode, c.before args0 about1 = true := by
  rw [codes_eq]
  intro c hc
  simp only [codes1, List.mem_cons, List.not_mem_nil, or_false] at hc
  rcases hc with rfl | rfl
  · exact w_c0
  · exact w_c1
set_option maxRecDepth 65536 in
theorem w_t1 : words1.all (fun c => isCode c || c.before args0 about1) = true := by decide +kernel
theorem w_tables : (allAtoms (Jvm.Cond.code x code maxLocals ret :: tables_1)).before args0 about1 = true := by
  rw [allAtoms_all]
  show words1.all (fun c => c.before args0 about1) = true
  refine all_split ?_ w_codes
  rw [w_t1]
set_option maxRecDepth 65536 in
theorem w_case : (Jvm.Cond.and given_1 narrow_1).before args0 about1 = true := by decide +kernel
theorem w_applies : (headSpec (Jvm.Cond.code x code maxLocals ret :: tables_1) room_1).applies x e0.platform about1 = true :=
  (Spec.applies_iff w_frames).mpr ⟨w_running, w_runnable, w_alone, w_named, w_hears, w_ripe, w_room, w_tables⟩
theorem atStart : AtStart classFile x code maxLocals ret World_1 tables_1 room_1 Calls_1 rest_1 Pre_1 launch0 p0 e0 about1 theMethod args0 below0 :=
  ⟨lists_1, trivial, launch0.admits_env _ _ _, launch0.least_env, fairChoices_fair.cas, fairChoices_fair.clock, w_frames, w_args, w_heap, w_applies, trivial, trivial, w_case⟩
end start1
theorem witness_1 : WitnessClaimed_1 := ⟨start1.p0, start1.e0, start1.about1, start1.theMethod, start1.args0, start1.below0, start1.atStart⟩
end Jvm.Pilot.@@N@@
