import JvmDerived
import JvmDerived.Pilot.@@N@@Statement
import JvmDerived.Pilot.@@N@@Code
set_option linter.unusedVariables false
set_option linter.unusedSimpArgs false
namespace Jvm.Pilot.@@N@@
open Jvm Jvm.ClassFile Sem Op Lib Jvm.Free Jvm.Stand Jvm.LawKit Jvm.RoadKit Bundle Jvm.Pilot.@@N@@.Jvm.D
section OwnKit
variable {p : Program} {l : Launch} {e : Env} {R : Room} {s : State} {m : MethodId} {args : Array Value} {below : List Frame} {meth : Method} {c : Code} {T : State} {locs : List Loc} {cells slots : Nat}
/-- from T the run comes to an end of which F holds -/
def own_Go (p : Program) (e : Env) (below : List Frame) (F : State → Outcome → Prop) (T : State) : Prop := ∃ t o, Steps p.tables e below T t ∧ t.status = .running ∧ Ended t below o ∧ F t o
theorem own_step {F : State → Outcome → Prop} {A B : State} (k : ∀ t, Steps p.tables e below A t → Steps p.tables e below B t) (h : own_Go p e below F A) : own_Go p e below F B := by
  obtain ⟨t, o, h1, h2⟩ := h
  exact ⟨t, o, k t h1, h2⟩
theorem own_in {F : State → Outcome → Prop} {A B : State} (k : ∀ {t}, Steps p.tables e below A t → Steps p.tables e below B t) (h : own_Go p e below F A) : ∃ t o, Steps p.tables e below B t ∧ t.status = .running ∧ Ended t below o ∧ F t o := by
  obtain ⟨t, o, h1, h2⟩ := h
  exact ⟨t, o, k h1, h2⟩
theorem own_retI (X : Stand p l e R s m args below meth c T locs cells slots) (hx : p.tables.exec = Jvm.exec) {pc : Nat} {Ls : Array Slot} {z : Int32} {rest : List Value} (hret : meth.sig.returnType = some .int) (hd : decode c.code pc = .ok (.ireturn, 1)) {fs : List Frame}
    (hl : ∀ (f : JFrame) (acts : List Action), f.method = m → f.locked = none → f.entered = [] → (doReturn e (T.setTop f) acts (some (.int z))).1 = T.setFrames fs) : Steps p.tables e below (T.setTop (mkF m pc Ls (.int z :: rest))) (T.setFrames fs) :=
  retOut X hx hret rfl (Or.inl ⟨rfl, Or.inl rfl, _, rfl⟩) hd hl
theorem own_join {α : Type} {F : State → Outcome → Prop} {B : State} {H : Heap} (X : Stand p l e R s m args below meth c T locs cells slots) (eT : T.heap = H) (A : State → α → State) (Pr : α → Prop)
    (h1 : ∀ T' a, Stand p l e R s m args below meth c T' locs cells slots → T'.heap = H → Pr a → own_Go p e below F (A T' a))
    (h2 : (∀ T' a, Stand p l e R s m args below meth c T' locs cells slots → T'.heap = H → Pr a → own_Go p e below F (A T' a)) → own_Go p e below F B) : own_Go p e below F B := h2 h1
theorem own_sta {args : Array Value} {s : State} {C n d K : String} (h : (Jvm.Cond.exactly (.static C n d) K).value args s none s [] = some true) (w1 : (Jvm.Cond.initialized C).before args s = true) (w2 : (Jvm.Cond.laysStatic C n d).before args s = true) :
    ∃ a, (Term.static C n d).eval args s none [] s = some (.ref a) ∧ Sta s s.heap C n d (.ref a) ∧ Exa s s.heap a K := by
  obtain ⟨a, ea⟩ := exa_v h
  exact ⟨a, ea, Sta.start ea (Or.inr ⟨w1, w2⟩), Exa.start ea h⟩
theorem own_staF {args : Array Value} {s : State} {t : Term} {C n d : String} {a : Addr} {k : Int32} (ea : t.eval args s none [] s = some (.ref a)) (h : (Jvm.Cond.eq (.field t C n d) (.int k)).value args s none s [] = some true) : Fld s s.heap a C n d (.int k) := by
  obtain ⟨x, y, e1, e2, -, -⟩ := cmp_v (Or.inl h)
  cases (Term.int_eval k).symm.trans e2
  have e3 : x = .int k := by
    cases x <;> simp [Cond.value, e1, Term.int_eval] at h
    rw [h]
  rw [fld_at ea, e3] at e1
  exact Fld.start e1
end OwnKit

def own_after (b t q : Int64) : Int64 := b + (((t - b) / q) + (1 : Int64)) * q
theorem own_k0 : (0 : Int64).toInt = 0 := by decide
theorem own_k1 : (1 : Int64).toInt = 1 := by decide
theorem own_nz {q : Int64} (h : (0 : Int64) < q) : ¬ q = (0 : Int64) := fun e => by rw [e] at h; exact absurd h (by decide)
theorem own_z {q : Int64} (h : ¬ (0 : Int64) < q) (r : 0 ≤ q.toInt ∧ q.toInt < 1099511627776) : q = (0 : Int64) := by
  rw [Int64.lt_iff_toInt_lt, own_k0] at h
  exact Int64.toInt_inj.mp (by rw [own_k0]; omega)
/-- the frame of the arithmetic: nothing wraps -/
theorem own_ar {b t q : Int64} (hq : (0 : Int64) < q) (r : 0 ≤ q.toInt ∧ q.toInt < 1099511627776) (hb : 0 ≤ b.toInt ∧ b.toInt < 2305843009213693952) (ht : -1024 ≤ t.toInt ∧ t.toInt < 4611686018427387904) (h : ¬ t < b) :
    ∃ n : Int, 0 ≤ n ∧ (own_after b t q).toInt = b.toInt + (n + 1) * q.toInt ∧ n * q.toInt ≤ t.toInt - b.toInt ∧ t.toInt - b.toInt < n * q.toInt + q.toInt ∧ (n + 1) * q.toInt = n * q.toInt + q.toInt := by
  rw [Int64.lt_iff_toInt_lt] at h hq
  rw [own_k0] at hq
  have d1 := c_lsub t b
  have d2 := rng64 (t - b)
  have d3 : (t - b).toInt = t.toInt - b.toInt := by omega
  have hne : q ≠ -1 := fun e => by rw [e] at hq; revert hq; decide
  have q1 := (c_ldiv (t - b) q q.toInt rfl hne).1 (by omega)
  rw [d3] at q1
  have e1 := Int.mul_ediv_add_emod (t.toInt - b.toInt) q.toInt
  have e2 := Int.emod_nonneg (t.toInt - b.toInt) (show q.toInt ≠ 0 by omega)
  have e3 := Int.emod_lt_of_pos (t.toInt - b.toInt) hq
  have e4 : 0 ≤ (t.toInt - b.toInt) / q.toInt := Int.ediv_nonneg (by omega) (by omega)
  have e5 : (t.toInt - b.toInt) / q.toInt ≤ t.toInt - b.toInt := Int.ediv_le_self _ (by omega)
  generalize hn : (t.toInt - b.toInt) / q.toInt = n at *
  have m1 : (n + 1) * q.toInt = n * q.toInt + q.toInt := by rw [Int.add_mul, Int.one_mul]
  rw [Int.mul_comm] at e1
  have a1 := c_ladd ((t - b) / q) 1
  have a2 := rng64 ((t - b) / q + 1)
  rw [own_k1, q1] at a1
  have a3 : ((t - b) / q + 1).toInt = n + 1 := by omega
  have p1 := c_lmul ((t - b) / q + 1) q
  rw [a3, m1] at p1
  have p2 := rng64 (((t - b) / q + 1) * q)
  have p3 : (((t - b) / q + 1) * q).toInt = n * q.toInt + q.toInt := by omega
  have s1 := c_ladd b (((t - b) / q + 1) * q)
  rw [p3] at s1
  have s2 := rng64 (b + ((t - b) / q + 1) * q)
  refine ⟨n, e4, ?_, by omega, by omega, m1⟩
  unfold own_after
  rw [m1]
  omega
theorem own_L1 {b t q : Int64} (hq : (0 : Int64) < q) (r : 0 ≤ q.toInt ∧ q.toInt < 1099511627776) (hb : 0 ≤ b.toInt ∧ b.toInt < 2305843009213693952) (ht : -1024 ≤ t.toInt ∧ t.toInt < 4611686018427387904) (h : ¬ t < b) : t < own_after b t q := by
  obtain ⟨n, h0, h1, h2, h3, h4⟩ := own_ar hq r hb ht h
  rw [Int64.lt_iff_toInt_lt, h1, h4]
  omega
theorem own_L2 {b t q : Int64} (hq : (0 : Int64) < q) (r : 0 ≤ q.toInt ∧ q.toInt < 1099511627776) (hb : 0 ≤ b.toInt ∧ b.toInt < 2305843009213693952) (ht : -1024 ≤ t.toInt ∧ t.toInt < 4611686018427387904) (h : ¬ t < b) : ¬ t < (own_after b t q - q) := by
  obtain ⟨n, h0, h1, h2, h3, h4⟩ := own_ar hq r hb ht h
  have s1 := c_lsub (own_after b t q) q
  have s2 := rng64 (own_after b t q - q)
  rw [h1, h4] at s1
  rw [Int64.lt_iff_toInt_lt] at h ⊢
  omega
theorem own_L3 {b t q : Int64} (hq : (0 : Int64) < q) (r : 0 ≤ q.toInt ∧ q.toInt < 1099511627776) (hb : 0 ≤ b.toInt ∧ b.toInt < 2305843009213693952) (ht : -1024 ≤ t.toInt ∧ t.toInt < 4611686018427387904) (h : ¬ t < b) : ((own_after b t q - b) - ((own_after b t q - b) / q) * q) = (0 : Int64) := by
  obtain ⟨n, h0, h1, h2, h3, h4⟩ := own_ar hq r hb ht h
  have s1 := c_lsub (own_after b t q) b
  have s2 := rng64 (own_after b t q - b)
  have s3 : (own_after b t q - b).toInt = (n + 1) * q.toInt := by
    rw [h1] at s1
    rw [h4] at s1 ⊢
    rw [Int64.lt_iff_toInt_lt] at h
    omega
  rw [lrem_mod]
  apply Int64.toInt_inj.mp
  rw [Int64.toInt_mod, s3, own_k0]
  exact Int.mul_tmod_left _ _
theorem own_per (x m : Int64) (k : Nat) (hk : k ≤ 63) (hm : m.toBitVec.toNat = 2 ^ k - 1) (hk2 : k ≤ 40) : 0 ≤ (x &&& m).toInt ∧ (x &&& m).toInt < 1099511627776 := by
  rw [c_maskL x m k hk hm]
  have : ((2 ^ k : Nat) : Int) ≤ 1099511627776 := by
    have := Nat.pow_le_pow_right (show 0 < 2 by decide) hk2
    omega
  have p : (0 : Int) < ((2 ^ k : Nat) : Int) := by
    have := Nat.two_pow_pos k
    omega
  exact ⟨Int.emod_nonneg _ (by omega), Int.lt_of_lt_of_le (Int.emod_lt_of_pos _ p) this⟩
theorem own_m60 (x : Int64) : 0 ≤ (x &&& (1152921504606846975 : Int64)).toInt ∧ (x &&& (1152921504606846975 : Int64)).toInt < 1152921504606846976 := by
  rw [c_maskL x _ 60 (by decide) (by decide)]
  exact ⟨Int.emod_nonneg _ (by decide), Int.emod_lt_of_pos _ (by decide)⟩
theorem own_dt1 (x : Int64) : -512 ≤ (x &&& (1152921504606846975 : Int64)).toInt ∧ (x &&& (1152921504606846975 : Int64)).toInt < 2305843009213693952 := by
  have := own_m60 x
  omega
theorem own_dt2 (x q : Int64) (y : Int32) (r : 0 ≤ q.toInt ∧ q.toInt < 1099511627776) : -512 ≤ (((x &&& (1023 : Int64)) - (512 : Int64)) + (q * ((y &&& (7 : Int32)).toInt64))).toInt ∧ (((x &&& (1023 : Int64)) - (512 : Int64)) + (q * ((y &&& (7 : Int32)).toInt64))).toInt < 2305843009213693952 := by
  have m1 := c_maskL x 1023 10 (by decide) (by decide)
  have m2 := c_mask y 7 3 (by decide) (by decide)
  have m3 : ((y &&& (7 : Int32)).toInt64).toInt = (y &&& (7 : Int32)).toInt := c_i2l _
  have s1 := c_lsub (x &&& 1023) 512
  have s2 := rng64 ((x &&& 1023) - 512)
  have k5 : (512 : Int64).toInt = 512 := by decide
  have p1 := c_lmul q ((y &&& (7 : Int32)).toInt64)
  have p2 := rng64 (q * ((y &&& (7 : Int32)).toInt64))
  rw [m3, m2] at p1
  have b1 : 0 ≤ y.toInt % ((2 ^ 3 : Nat) : Int) ∧ y.toInt % ((2 ^ 3 : Nat) : Int) ≤ 7 := by omega
  have b2 := Int.mul_nonneg r.1 b1.1
  have b3 := Int.mul_le_mul_of_nonneg_left b1.2 r.1
  generalize q.toInt * (y.toInt % ((2 ^ 3 : Nat) : Int)) = w at *
  have a1 := c_ladd ((x &&& 1023) - 512) (q * ((y &&& (7 : Int32)).toInt64))
  have a2 := rng64 (((x &&& 1023) - 512) + (q * ((y &&& (7 : Int32)).toInt64)))
  omega
theorem own_t {a d : Int64} (ha : 0 ≤ a.toInt ∧ a.toInt < 1152921504606846976) (hd : -512 ≤ d.toInt ∧ d.toInt < 2305843009213693952) : -1024 ≤ (a + d).toInt ∧ (a + d).toInt < 4611686018427387904 := by
  have s1 := c_ladd a d
  have s2 := rng64 (a + d)
  omega
theorem own_b {a q : Int64} (ha : 0 ≤ a.toInt ∧ a.toInt < 1152921504606846976) (hd : 0 ≤ q.toInt ∧ q.toInt < 1099511627776) : 0 ≤ (a + q).toInt ∧ (a + q).toInt < 2305843009213693952 := by
  have s1 := c_ladd a q
  have s2 := rng64 (a + q)
  omega
theorem pn_0 : plainName "com/example/lockstep/lockstep/session/Ticks" = true := by first | (simp [plainName, overriddenIn]; done) | decide +kernel
theorem pn_1 : plainName "com/example/lockstep/lockstep/session/TicksSkipThroughPinLaw" = true := by first | (simp [plainName, overriddenIn]; done) | decide +kernel
theorem pd_0 : parseMethodDescriptor "()V" = some ⟨[], none⟩ := by decide +kernel
theorem pd_1 : parseMethodDescriptor "(JJ)V" = some ⟨[.long, .long], none⟩ := by decide +kernel
theorem pd_2 : parseMethodDescriptor "()J" = some ⟨[], some .long⟩ := by decide +kernel
theorem pd_3 : parseMethodDescriptor "(J)V" = some ⟨[.long], none⟩ := by decide +kernel
theorem pd_4 : parseMethodDescriptor "()Z" = some ⟨[], some .boolean⟩ := by decide +kernel
theorem pd_5 : parseMethodDescriptor "(J)Z" = some ⟨[.long], some .boolean⟩ := by decide +kernel
theorem d1_0 : decode prog_56_method_1_code 0 = .ok (.aload_n 0, 1) := by decide +kernel
theorem d1_1 : decode prog_56_method_1_code 1 = .ok (.invokespecial 1, 3) := by decide +kernel
theorem d1_4 : decode prog_56_method_1_code 4 = .ok (.return_, 1) := by decide +kernel
theorem ef_1 (m : MethodId) (a : Addr) : entryFrame m #[(.ref a)] 1 = mkF m 0 #[.val (.ref a)] [] := by first | (simp [entryFrame, mkF, argsToLocals, Value.category]; done) | rfl
def Q1 (Z : State) (a : Addr) (h0 : Heap) (n0 : Nat) (v : Option Value) (h : Heap) (L : List Loc) : Prop := v = none ∧ Fr n0 L ∧ h = h0
set_option maxRecDepth 65536 in
set_option maxHeartbeats 40000000 in
theorem rm1 (l : Launch) (Z : State) (a0 : Array Value) (hw : ∀ d ∈ tables_1, d.before a0 Z = true) (ws : List Jvm.Cond) (a : Addr) (h0 : Heap) (n0 : Nat) (Z0 : n0 ≤ h0.size)  :
    MetFree l (⟨"com/example/lockstep/lockstep/session/Ticks", "<init>", "()V"⟩ : MethodName) (head1 (Jvm.Cond.code (⟨"com/example/lockstep/lockstep/session/Ticks", "<init>", "()V"⟩ : MethodName) prog_56_method_1_code 1 none :: ws) ({ frames := 1, cells := 0, slots := 0, locals := 12 } : Room)) (fun ar_ U => ar_ = #[(.ref a)] ∧ Z.Warmed39 U.vm ∧ U.heap = h0) (fun _ _ _ _ _ => True) (fun _ U oo_ U' => ∃ v L, oo_ = .returned v ∧ Q1 Z a  h0 n0 v U'.heap L ∧ FrameEnd U oo_ U' L ({ frames := 1, cells := 0, slots := 0, locals := 12 } : Room).cells ({ frames := 1, cells := 0, slots := 0, locals := 12 } : Room).slots) := by
  refine MetFree.of_bodySF (plainFor_of_name pn_0) hisR ?_
  intro p e s m args below meth c s₁ Bd hml0 hP hK
  obtain ⟨rfl, hZ, hh⟩ := hP
  have hx := Bd.exec
  have hby := Bd.bytes
  have hml : c.maxLocals = 1 := hml0
  have hown : s.vm.findClass "com/example/lockstep/lockstep/session/Ticks" = some m.cls := findClass_of_methodNamed Bd.named
  have hnm := (name_of_methodNamed Bd.named Bd.method).1
  have X0 : Stand p l e ({ frames := 1, cells := 0, slots := 0, locals := 12 } : Room) s m #[(.ref a)] below meth c s₁ [] 0 0 := Stand.of_body Bd
  have e0 : s₁.heap = h0 := by rw [← hh, Bd.state]; rfl
  have N0 := Fr.nil n0
  refine own_in (castTop (ef_1 m a)) ?_
  show own_Go _ _ _ _ (s₁.setTop (mkF m 0 #[.val (.ref a)] []))
  refine own_step (fun _ κ => XS.aloadN X0.here hx rfl (hb hby d1_0) rfl rfl κ) ?_
  show own_Go _ _ _ _ (s₁.setTop (mkF m 1 #[.val (.ref a)] [(.ref a)]))
  obtain ⟨T1, X1, e1, st1⟩ := initO X0 hx hZ hown (hw _ (List.mem_of_getElem? (i := 8) rfl)) (hw _ (List.mem_of_getElem? (i := 9) rfl)) (hw _ (List.mem_of_getElem? (i := 10) rfl)) e0 (g := (mkF m 1 #[.val (.ref a)] [(.ref a)])) rfl (by rw [hml]; rfl) rfl (hb hby d1_1) (by decide) (W := 0) (by show 2 * 0 + _ ≤ _; exact Nat.le_of_eq rfl) (by decide)
  refine own_step st1 ?_
  show own_Go _ _ _ _ (T1.setTop (mkF m 4 #[.val (.ref a)] []))
  obtain ⟨fs, hr, hrun, hended, hW, hsame⟩ := X1.leave (v := none) (fun _ => rfl)
  refine ⟨_, _, X1.returnOut hx Bd.returns (hb hby d1_4) hr, hrun, hended, _, _, rfl, ?_, ⟨_, rfl⟩, hW, hsame.mono (by decide) (by decide)⟩
  show Q1 Z a  h0 n0 _ T1.heap _
  rw [e1]
  exact ⟨rfl, N0, rfl⟩
theorem d2_0 : decode prog_56_method_10_code 0 = .ok (.aload_n 0, 1) := by decide +kernel
theorem d2_1 : decode prog_56_method_10_code 1 = .ok (.getfield 25, 3) := by decide +kernel
theorem d2_4 : decode prog_56_method_10_code 4 = .ok (.ifnull 15, 3) := by decide +kernel
theorem d2_19 : decode prog_56_method_10_code 19 = .ok (.return_, 1) := by decide +kernel
theorem ef_2 (m : MethodId) (a : Addr) : entryFrame m #[(.ref a)] 1 = mkF m 0 #[.val (.ref a)] [] := by first | (simp [entryFrame, mkF, argsToLocals, Value.category]; done) | rfl
def Q2 (Z : State) (a : Addr) (h0 : Heap) (n0 : Nat) (v : Option Value) (h : Heap) (L : List Loc) : Prop := v = none ∧ Fr n0 L ∧ h = h0
set_option maxRecDepth 65536 in
set_option maxHeartbeats 40000000 in
theorem rm2 (l : Launch) (Z : State) (a0 : Array Value) (hw : ∀ d ∈ tables_1, d.before a0 Z = true) (ws : List Jvm.Cond) (a : Addr) (h0 : Heap) (n0 : Nat) (Z0 : n0 ≤ h0.size) (P0 : Fld Z h0 a "com/example/lockstep/lockstep/session/Ticks" "timer" "Lcom/example/lockstep/lockstep/session/Timers$Timer;" .null) :
    MetFree l (⟨"com/example/lockstep/lockstep/session/Ticks", "pause", "()V"⟩ : MethodName) (head1 (Jvm.Cond.code (⟨"com/example/lockstep/lockstep/session/Ticks", "pause", "()V"⟩ : MethodName) prog_56_method_10_code 1 none :: ws) ({ frames := 0, cells := 0, slots := 0, locals := 0 } : Room)) (fun ar_ U => ar_ = #[(.ref a)] ∧ Z.Warmed39 U.vm ∧ U.heap = h0) (fun _ _ _ _ _ => True) (fun _ U oo_ U' => ∃ v L, oo_ = .returned v ∧ Q2 Z a  h0 n0 v U'.heap L ∧ FrameEnd U oo_ U' L ({ frames := 0, cells := 0, slots := 0, locals := 0 } : Room).cells ({ frames := 0, cells := 0, slots := 0, locals := 0 } : Room).slots) := by
  refine MetFree.of_bodySF (plainFor_of_name pn_0) hisR ?_
  intro p e s m args below meth c s₁ Bd hml0 hP hK
  obtain ⟨rfl, hZ, hh⟩ := hP
  have hx := Bd.exec
  have hby := Bd.bytes
  have hml : c.maxLocals = 1 := hml0
  have hown : s.vm.findClass "com/example/lockstep/lockstep/session/Ticks" = some m.cls := findClass_of_methodNamed Bd.named
  have hnm := (name_of_methodNamed Bd.named Bd.method).1
  have X0 : Stand p l e ({ frames := 0, cells := 0, slots := 0, locals := 0 } : Room) s m #[(.ref a)] below meth c s₁ [] 0 0 := Stand.of_body Bd
  have e0 : s₁.heap = h0 := by rw [← hh, Bd.state]; rfl
  have N0 := Fr.nil n0
  refine own_in (castTop (ef_2 m a)) ?_
  show own_Go _ _ _ _ (s₁.setTop (mkF m 0 #[.val (.ref a)] []))
  refine own_step (fun _ κ => XS.aloadN X0.here hx rfl (hb hby d2_0) rfl rfl κ) ?_
  show own_Go _ _ _ _ (s₁.setTop (mkF m 1 #[.val (.ref a)] [(.ref a)]))
  obtain ⟨T1, X1, e1, st1⟩ := getF X0 hx hZ hown (host := "") (Or.inl (hw _ (List.mem_of_getElem? (i := 26) rfl))) Via.refl e0 P0 (g := (mkF m 1 #[.val (.ref a)] [(.ref a)])) rfl rfl (hb hby d2_1)
  refine own_step st1 ?_
  show own_Go _ _ _ _ (T1.setTop (mkF m 4 #[.val (.ref a)] [.null]))
  refine own_step (fun _ κ => XS.ifnullYes X1.here hx rfl (pc0 := 4) (pc' := 19) rfl (hb hby d2_4) rfl (by decide) (by decide) κ) ?_
  show own_Go _ _ _ _ (T1.setTop (mkF m 19 #[.val (.ref a)] []))
  obtain ⟨fs, hr, hrun, hended, hW, hsame⟩ := X1.leave (v := none) (fun _ => rfl)
  refine ⟨_, _, X1.returnOut hx Bd.returns (hb hby d2_19) hr, hrun, hended, _, _, rfl, ?_, ⟨_, rfl⟩, hW, hsame.mono (by decide) (by decide)⟩
  show Q2 Z a  h0 n0 _ T1.heap _
  rw [e1]
  exact ⟨rfl, N0, rfl⟩
theorem d3_0 : decode prog_56_method_11_code 0 = .ok (.aload_n 0, 1) := by decide +kernel
theorem d3_1 : decode prog_56_method_11_code 1 = .ok (.invokevirtual 34, 3) := by decide +kernel
theorem d3_4 : decode prog_56_method_11_code 4 = .ok (.aload_n 0, 1) := by decide +kernel
theorem d3_5 : decode prog_56_method_11_code 5 = .ok (.lconst 0, 1) := by decide +kernel
theorem d3_6 : decode prog_56_method_11_code 6 = .ok (.putfield 12, 3) := by decide +kernel
theorem d3_9 : decode prog_56_method_11_code 9 = .ok (.return_, 1) := by decide +kernel
theorem ef_3 (m : MethodId) (a : Addr) : entryFrame m #[(.ref a)] 1 = mkF m 0 #[.val (.ref a)] [] := by first | (simp [entryFrame, mkF, argsToLocals, Value.category]; done) | rfl
def Q3 (Z : State) (a : Addr) (u : Int64) (w : Int64) (h0 : Heap) (n0 : Nat) (v : Option Value) (h : Heap) (L : List Loc) : Prop := v = none ∧ Fr n0 L ∧ Keep h0 h [a] ∧ (Exa Z h a "com/example/lockstep/lockstep/session/Ticks") ∧ (Fld Z h a "com/example/lockstep/lockstep/session/Ticks" "timer" "Lcom/example/lockstep/lockstep/session/Timers$Timer;" .null) ∧ (Fld Z h a "com/example/lockstep/lockstep/session/Ticks" "periodMs" "J" (.long (0 : Int64))) ∧ (Fld Z h a "com/example/lockstep/lockstep/session/Ticks" "nextMs" "J" (.long w))
set_option maxRecDepth 65536 in
set_option maxHeartbeats 40000000 in
theorem rm3 (l : Launch) (Z : State) (a0 : Array Value) (hw : ∀ d ∈ tables_1, d.before a0 Z = true) (ws : List Jvm.Cond) (a : Addr) (u : Int64) (w : Int64) (h0 : Heap) (n0 : Nat) (Z0 : n0 ≤ h0.size) (P0 : Exa Z h0 a "com/example/lockstep/lockstep/session/Ticks") (P1 : Fld Z h0 a "com/example/lockstep/lockstep/session/Ticks" "timer" "Lcom/example/lockstep/lockstep/session/Timers$Timer;" .null) (P2 : Fld Z h0 a "com/example/lockstep/lockstep/session/Ticks" "periodMs" "J" (.long u)) (P3 : Fld Z h0 a "com/example/lockstep/lockstep/session/Ticks" "nextMs" "J" (.long w)) (P4 : n0 ≤ a) :
    MetFree l (⟨"com/example/lockstep/lockstep/session/Ticks", "stop", "()V"⟩ : MethodName) (head1 (Jvm.Cond.code (⟨"com/example/lockstep/lockstep/session/Ticks", "stop", "()V"⟩ : MethodName) prog_56_method_11_code 1 none :: ws) ({ frames := 1, cells := 0, slots := 0, locals := 12 } : Room)) (fun ar_ U => ar_ = #[(.ref a)] ∧ Z.Warmed39 U.vm ∧ U.heap = h0) (fun _ _ _ _ _ => True) (fun _ U oo_ U' => ∃ v L, oo_ = .returned v ∧ Q3 Z a u w h0 n0 v U'.heap L ∧ FrameEnd U oo_ U' L ({ frames := 1, cells := 0, slots := 0, locals := 12 } : Room).cells ({ frames := 1, cells := 0, slots := 0, locals := 12 } : Room).slots) := by
  refine MetFree.of_bodySF (plainFor_of_name pn_0) hisR ?_
  intro p e s m args below meth c s₁ Bd hml0 hP hK
  obtain ⟨rfl, hZ, hh⟩ := hP
  have hx := Bd.exec
  have hby := Bd.bytes
  have hml : c.maxLocals = 1 := hml0
  have hown : s.vm.findClass "com/example/lockstep/lockstep/session/Ticks" = some m.cls := findClass_of_methodNamed Bd.named
  have hnm := (name_of_methodNamed Bd.named Bd.method).1
  have X0 : Stand p l e ({ frames := 1, cells := 0, slots := 0, locals := 12 } : Room) s m #[(.ref a)] below meth c s₁ [] 0 0 := Stand.of_body Bd
  have e0 : s₁.heap = h0 := by rw [← hh, Bd.state]; rfl
  have N0 := Fr.nil n0
  refine own_in (castTop (ef_3 m a)) ?_
  show own_Go _ _ _ _ (s₁.setTop (mkF m 0 #[.val (.ref a)] []))
  refine own_step (fun _ κ => XS.aloadN X0.here hx rfl (hb hby d3_0) rfl rfl κ) ?_
  show own_Go _ _ _ _ (s₁.setTop (mkF m 1 #[.val (.ref a)] [(.ref a)]))
  obtain ⟨cq1, kq1, q1a, q1b, q1c⟩ := isOf hZ e0 P0
  obtain ⟨vr1, _, ⟨T1, L1, k1, n1⟩, -, X1, ⟨Lc1, hQ1, l1, y1, z1⟩, st1⟩ := X0.virtualBack hx (y := (⟨"com/example/lockstep/lockstep/session/Ticks", "pause", "()V"⟩ : MethodName)) (z := (⟨"com/example/lockstep/lockstep/session/Ticks", "pause", "()V"⟩ : MethodName)) hown (mvT hZ (hw _ (List.mem_of_getElem? (i := 21) rfl))) (mvT hZ (hw _ (List.mem_of_getElem? (i := 22) rfl))) (notFace_of_selects (args := #[]) (mvT hZ (hw _ (List.mem_of_getElem? (i := 24) rfl)))) (mvT hZ (hw _ (List.mem_of_getElem? (i := 24) rfl))) (mvT hZ (hw _ (List.mem_of_getElem? (i := 23) rfl))) (by decide) (backOf (W := 0) (rm2 l Z a0 hw [] a  h0 n0 Z0 P1) hZ (hw _ (List.mem_of_getElem? (i := 25) rfl)) (hw _ (List.mem_of_getElem? (i := 4) rfl)) (by decide) (by decide)) q1a q1c (g := (mkF m 1 #[.val (.ref a)] [(.ref a)])) rfl (by rw [hml]; rfl) (Steps.refl _) (argsL := []) (rest := []) (lenOf pd_0 rfl) rfl (by show 2 * 0 + _ ≤ _; exact Nat.le_of_eq rfl) (hb hby d3_1) (fun _ _ => ⟨rfl, e0, (by decide : 0 + 0 ≤ _), (by decide : 0 + 0 ≤ _)⟩)
  dsimp only [Pt.U, Pt.locs, Pt.cells, Pt.slots] at X1 l1 y1 z1 st1 hQ1
  subst l1 y1 z1
  obtain ⟨rfl, Nq1, eq1⟩ := hQ1
  have N1 := Fr.app N0 Nq1
  refine own_step (fun _ κ => st1.trans κ) ?_
  show own_Go _ _ _ _ (T1.setTop (mkF m 4 #[.val (.ref a)] []))
  refine own_step (fun _ κ => XS.aloadN X1.here hx rfl (hb hby d3_4) rfl rfl κ) ?_
  show own_Go _ _ _ _ (T1.setTop (mkF m 5 #[.val (.ref a)] [(.ref a)]))
  refine own_step (fun _ κ => XS.lconst X1.here hx rfl (hb hby d3_5) κ) ?_
  show own_Go _ _ _ _ (T1.setTop (mkF m 6 #[.val (.ref a)] [(.long (0 : Int64)), (.ref a)]))
  obtain ⟨T2, h2, X2, e2, W2, st2⟩ := putF X1 hx hZ hown (host := "") (Or.inl (hw _ (List.mem_of_getElem? (i := 28) rfl))) Via.refl eq1 P2 P0 (Or.inl (hw _ (List.mem_of_getElem? (i := 29) rfl))) (hw _ (List.mem_of_getElem? (i := 3) rfl)) (ty := .long) (by decide) rfl rfl (g := (mkF m 6 #[.val (.ref a)] [(.long (0 : Int64)), (.ref a)])) rfl rfl (hb hby d3_6)
  refine own_step st2 ?_
  have N2 := Fr.snoc X2 N1 P4
  have Fw2 := P2.same W2
  have f3 := P0.wr W2
  have f4 := P1.other W2 (Or.inr (slot_ne (Or.inl (hw _ (List.mem_of_getElem? (i := 27) rfl))) (Or.inl (hw _ (List.mem_of_getElem? (i := 29) rfl))) (by decide) (t := (.object "com/example/lockstep/lockstep/session/Timers$Timer")) (t' := .long) (by decide) (by decide)))
  have f5 := P3.other W2 (Or.inr (slot_ne (Or.inl (hw _ (List.mem_of_getElem? (i := 31) rfl))) (Or.inl (hw _ (List.mem_of_getElem? (i := 29) rfl))) (by decide) (t := .long) (t' := .long) (by decide) (by decide)))
  have K6 : Keep h0 h2 [a] := (Keep.refl h0 [a]).wr W2 (Or.inl (List.mem_of_getElem? (i := 0) rfl))
  have z7 : n0 ≤ h2.size := Nat.le_trans Z0 (Keep.of_wr W2).1
  show own_Go _ _ _ _ (T2.setTop (mkF m 9 #[.val (.ref a)] []))
  obtain ⟨fs, hr, hrun, hended, hW, hsame⟩ := X2.leave (v := none) (fun _ => rfl)
  refine ⟨_, _, X2.returnOut hx Bd.returns (hb hby d3_9) hr, hrun, hended, _, _, rfl, ?_, ⟨_, rfl⟩, hW, hsame.mono (by decide) (by decide)⟩
  show Q3 Z a u w h0 n0 _ T2.heap _
  rw [e2]
  exact ⟨rfl, N2, K6, f3, f4, Fw2, f5⟩
theorem d4_0 : decode prog_56_method_2_code 0 = .ok (.aload_n 0, 1) := by decide +kernel
theorem d4_1 : decode prog_56_method_2_code 1 = .ok (.invokevirtual 7, 3) := by decide +kernel
theorem d4_4 : decode prog_56_method_2_code 4 = .ok (.lload_n 1, 1) := by decide +kernel
theorem d4_5 : decode prog_56_method_2_code 5 = .ok (.lconst 0, 1) := by decide +kernel
theorem d4_6 : decode prog_56_method_2_code 6 = .ok (.lcmp, 1) := by decide +kernel
theorem d4_7 : decode prog_56_method_2_code 7 = .ok (.ifCond .le 15, 3) := by decide +kernel
theorem d4_22 : decode prog_56_method_2_code 22 = .ok (.return_, 1) := by decide +kernel
theorem ef_4 (m : MethodId) (a : Addr) (qp : Int64) (qt : Int64) : entryFrame m #[(.ref a), (.long qp), (.long qt)] 5 = mkF m 0 #[.val (.ref a), .val (.long qp), .second, .val (.long qt), .second] [] := by first | (simp [entryFrame, mkF, argsToLocals, Value.category]; done) | rfl
def Q4 (Z : State) (a : Addr) (qp : Int64) (qt : Int64) (u : Int64) (w : Int64) (h0 : Heap) (n0 : Nat) (v : Option Value) (h : Heap) (L : List Loc) : Prop := v = none ∧ Fr n0 L ∧ Keep h0 h [a] ∧ (Exa Z h a "com/example/lockstep/lockstep/session/Ticks") ∧ (Fld Z h a "com/example/lockstep/lockstep/session/Ticks" "timer" "Lcom/example/lockstep/lockstep/session/Timers$Timer;" .null) ∧ (Fld Z h a "com/example/lockstep/lockstep/session/Ticks" "periodMs" "J" (.long (0 : Int64))) ∧ (Fld Z h a "com/example/lockstep/lockstep/session/Ticks" "nextMs" "J" (.long w))
set_option maxRecDepth 65536 in
set_option maxHeartbeats 40000000 in
theorem rm4 (l : Launch) (Z : State) (a0 : Array Value) (hw : ∀ d ∈ tables_1, d.before a0 Z = true) (ws : List Jvm.Cond) (a : Addr) (qp : Int64) (qt : Int64) (u : Int64) (w : Int64) (h0 : Heap) (n0 : Nat) (Z0 : n0 ≤ h0.size) (P0 : Exa Z h0 a "com/example/lockstep/lockstep/session/Ticks") (P1 : Fld Z h0 a "com/example/lockstep/lockstep/session/Ticks" "timer" "Lcom/example/lockstep/lockstep/session/Timers$Timer;" .null) (P2 : Fld Z h0 a "com/example/lockstep/lockstep/session/Ticks" "periodMs" "J" (.long u)) (P3 : Fld Z h0 a "com/example/lockstep/lockstep/session/Ticks" "nextMs" "J" (.long w)) (P4 : n0 ≤ a) (P5 : ¬ (0 : Int64) < qp) :
    MetFree l (⟨"com/example/lockstep/lockstep/session/Ticks", "start", "(JJ)V"⟩ : MethodName) (head1 (Jvm.Cond.code (⟨"com/example/lockstep/lockstep/session/Ticks", "start", "(JJ)V"⟩ : MethodName) prog_56_method_2_code 5 none :: ws) ({ frames := 2, cells := 0, slots := 0, locals := 24 } : Room)) (fun ar_ U => ar_ = #[(.ref a), (.long qp), (.long qt)] ∧ Z.Warmed39 U.vm ∧ U.heap = h0) (fun _ _ _ _ _ => True) (fun _ U oo_ U' => ∃ v L, oo_ = .returned v ∧ Q4 Z a qp qt u w h0 n0 v U'.heap L ∧ FrameEnd U oo_ U' L ({ frames := 2, cells := 0, slots := 0, locals := 24 } : Room).cells ({ frames := 2, cells := 0, slots := 0, locals := 24 } : Room).slots) := by
  refine MetFree.of_bodySF (plainFor_of_name pn_0) hisR ?_
  intro p e s m args below meth c s₁ Bd hml0 hP hK
  obtain ⟨rfl, hZ, hh⟩ := hP
  have hx := Bd.exec
  have hby := Bd.bytes
  have hml : c.maxLocals = 5 := hml0
  have hown : s.vm.findClass "com/example/lockstep/lockstep/session/Ticks" = some m.cls := findClass_of_methodNamed Bd.named
  have hnm := (name_of_methodNamed Bd.named Bd.method).1
  have X0 : Stand p l e ({ frames := 2, cells := 0, slots := 0, locals := 24 } : Room) s m #[(.ref a), (.long qp), (.long qt)] below meth c s₁ [] 0 0 := Stand.of_body Bd
  have e0 : s₁.heap = h0 := by rw [← hh, Bd.state]; rfl
  have N0 := Fr.nil n0
  refine own_in (castTop (ef_4 m a qp qt)) ?_
  show own_Go _ _ _ _ (s₁.setTop (mkF m 0 #[.val (.ref a), .val (.long qp), .second, .val (.long qt), .second] []))
  refine own_step (fun _ κ => XS.aloadN X0.here hx rfl (hb hby d4_0) rfl rfl κ) ?_
  show own_Go _ _ _ _ (s₁.setTop (mkF m 1 #[.val (.ref a), .val (.long qp), .second, .val (.long qt), .second] [(.ref a)]))
  obtain ⟨cq1, kq1, q1a, q1b, q1c⟩ := isOf hZ e0 P0
  obtain ⟨vr1, _, ⟨T1, L1, k1, n1⟩, -, X1, ⟨Lc1, hQ1, l1, y1, z1⟩, st1⟩ := X0.virtualBack hx (y := (⟨"com/example/lockstep/lockstep/session/Ticks", "stop", "()V"⟩ : MethodName)) (z := (⟨"com/example/lockstep/lockstep/session/Ticks", "stop", "()V"⟩ : MethodName)) hown (mvT hZ (hw _ (List.mem_of_getElem? (i := 16) rfl))) (mvT hZ (hw _ (List.mem_of_getElem? (i := 17) rfl))) (notFace_of_selects (args := #[]) (mvT hZ (hw _ (List.mem_of_getElem? (i := 19) rfl)))) (mvT hZ (hw _ (List.mem_of_getElem? (i := 19) rfl))) (mvT hZ (hw _ (List.mem_of_getElem? (i := 18) rfl))) (by decide) (backOf (W := 0) (rm3 l Z a0 hw [] a u w h0 n0 Z0 P0 P1 P2 P3 P4) hZ (hw _ (List.mem_of_getElem? (i := 20) rfl)) (hw _ (List.mem_of_getElem? (i := 4) rfl)) (by decide) (by decide)) q1a q1c (g := (mkF m 1 #[.val (.ref a), .val (.long qp), .second, .val (.long qt), .second] [(.ref a)])) rfl (by rw [hml]; rfl) (Steps.refl _) (argsL := []) (rest := []) (lenOf pd_0 rfl) rfl (by show 2 * 0 + _ ≤ _; exact Nat.le_of_eq rfl) (hb hby d4_1) (fun _ _ => ⟨rfl, e0, (by decide : 0 + 0 ≤ _), (by decide : 0 + 0 ≤ _)⟩)
  dsimp only [Pt.U, Pt.locs, Pt.cells, Pt.slots] at X1 l1 y1 z1 st1 hQ1
  subst l1 y1 z1
  obtain ⟨rfl, Nq1, Kq1, p1_0, p1_1, p1_2, p1_3⟩ := hQ1
  have N1 := Fr.app N0 Nq1
  have f2 := P0.keep Kq1
  have K3 : Keep h0 T1.heap [a] := (Keep.refl h0 [a]).trans Kq1 (allS (Or.inl (List.mem_of_getElem? (i := 0) rfl)) all0)
  have z4 : n0 ≤ T1.heap.size := Nat.le_trans Z0 Kq1.1
  refine own_step (fun _ κ => st1.trans κ) ?_
  show own_Go _ _ _ _ (T1.setTop (mkF m 4 #[.val (.ref a), .val (.long qp), .second, .val (.long qt), .second] []))
  refine own_step (fun _ κ => XS.lloadN X1.here hx rfl (hb hby d4_4) rfl κ) ?_
  show own_Go _ _ _ _ (T1.setTop (mkF m 5 #[.val (.ref a), .val (.long qp), .second, .val (.long qt), .second] [(.long qp)]))
  refine own_step (fun _ κ => XS.lconst X1.here hx rfl (hb hby d4_5) κ) ?_
  show own_Go _ _ _ _ (T1.setTop (mkF m 6 #[.val (.ref a), .val (.long qp), .second, .val (.long qt), .second] [(.long (0 : Int64)), (.long qp)]))
  refine own_step (fun _ κ => XS.lcmp X1.here hx rfl (hb hby d4_6) rfl κ) ?_
  show own_Go _ _ _ _ (T1.setTop (mkF m 7 #[.val (.ref a), .val (.long qp), .second, .val (.long qt), .second] [(.int (lcmpW qp (0 : Int64)))]))
  refine own_step (fun _ κ => XS.ifYes X1.here hx rfl (pc0 := 7) (pc' := 22) rfl (hb hby d4_7) rfl ((if0 _ _).trans (flt (fun q => absurd ((lw_gt _ _).mp q) P5)).2.2.2) (by decide) (by decide) κ) ?_
  show own_Go _ _ _ _ (T1.setTop (mkF m 22 #[.val (.ref a), .val (.long qp), .second, .val (.long qt), .second] []))
  obtain ⟨fs, hr, hrun, hended, hW, hsame⟩ := X1.leave (v := none) (fun _ => rfl)
  refine ⟨_, _, X1.returnOut hx Bd.returns (hb hby d4_22) hr, hrun, hended, _, _, rfl, ?_, ⟨_, rfl⟩, hW, hsame.mono (by decide) (by decide)⟩
  show Q4 Z a qp qt u w h0 n0 _ T1.heap _
  skip
  exact ⟨rfl, N1, K3, p1_0, p1_1, p1_2, p1_3⟩
theorem d5_0 : decode prog_56_method_2_code 0 = .ok (.aload_n 0, 1) := by decide +kernel
theorem d5_1 : decode prog_56_method_2_code 1 = .ok (.invokevirtual 7, 3) := by decide +kernel
theorem d5_4 : decode prog_56_method_2_code 4 = .ok (.lload_n 1, 1) := by decide +kernel
theorem d5_5 : decode prog_56_method_2_code 5 = .ok (.lconst 0, 1) := by decide +kernel
theorem d5_6 : decode prog_56_method_2_code 6 = .ok (.lcmp, 1) := by decide +kernel
theorem d5_7 : decode prog_56_method_2_code 7 = .ok (.ifCond .le 15, 3) := by decide +kernel
theorem d5_10 : decode prog_56_method_2_code 10 = .ok (.aload_n 0, 1) := by decide +kernel
theorem d5_11 : decode prog_56_method_2_code 11 = .ok (.lload_n 1, 1) := by decide +kernel
theorem d5_12 : decode prog_56_method_2_code 12 = .ok (.putfield 12, 3) := by decide +kernel
theorem d5_15 : decode prog_56_method_2_code 15 = .ok (.aload_n 0, 1) := by decide +kernel
theorem d5_16 : decode prog_56_method_2_code 16 = .ok (.lload_n 3, 1) := by decide +kernel
theorem d5_17 : decode prog_56_method_2_code 17 = .ok (.lload_n 1, 1) := by decide +kernel
theorem d5_18 : decode prog_56_method_2_code 18 = .ok (.ladd, 1) := by decide +kernel
theorem d5_19 : decode prog_56_method_2_code 19 = .ok (.putfield 16, 3) := by decide +kernel
theorem d5_22 : decode prog_56_method_2_code 22 = .ok (.return_, 1) := by decide +kernel
theorem ef_5 (m : MethodId) (a : Addr) (qp : Int64) (qt : Int64) : entryFrame m #[(.ref a), (.long qp), (.long qt)] 5 = mkF m 0 #[.val (.ref a), .val (.long qp), .second, .val (.long qt), .second] [] := by first | (simp [entryFrame, mkF, argsToLocals, Value.category]; done) | rfl
def Q5 (Z : State) (a : Addr) (qp : Int64) (qt : Int64) (u : Int64) (w : Int64) (h0 : Heap) (n0 : Nat) (v : Option Value) (h : Heap) (L : List Loc) : Prop := v = none ∧ Fr n0 L ∧ Keep h0 h [a] ∧ (Exa Z h a "com/example/lockstep/lockstep/session/Ticks") ∧ (Fld Z h a "com/example/lockstep/lockstep/session/Ticks" "timer" "Lcom/example/lockstep/lockstep/session/Timers$Timer;" .null) ∧ (Fld Z h a "com/example/lockstep/lockstep/session/Ticks" "periodMs" "J" (.long qp)) ∧ (Fld Z h a "com/example/lockstep/lockstep/session/Ticks" "nextMs" "J" (.long (qt + qp)))
set_option maxRecDepth 65536 in
set_option maxHeartbeats 40000000 in
theorem rm5 (l : Launch) (Z : State) (a0 : Array Value) (hw : ∀ d ∈ tables_1, d.before a0 Z = true) (ws : List Jvm.Cond) (a : Addr) (qp : Int64) (qt : Int64) (u : Int64) (w : Int64) (h0 : Heap) (n0 : Nat) (Z0 : n0 ≤ h0.size) (P0 : Exa Z h0 a "com/example/lockstep/lockstep/session/Ticks") (P1 : Fld Z h0 a "com/example/lockstep/lockstep/session/Ticks" "timer" "Lcom/example/lockstep/lockstep/session/Timers$Timer;" .null) (P2 : Fld Z h0 a "com/example/lockstep/lockstep/session/Ticks" "periodMs" "J" (.long u)) (P3 : Fld Z h0 a "com/example/lockstep/lockstep/session/Ticks" "nextMs" "J" (.long w)) (P4 : n0 ≤ a) (P5 : (0 : Int64) < qp) :
    MetFree l (⟨"com/example/lockstep/lockstep/session/Ticks", "start", "(JJ)V"⟩ : MethodName) (head1 (Jvm.Cond.code (⟨"com/example/lockstep/lockstep/session/Ticks", "start", "(JJ)V"⟩ : MethodName) prog_56_method_2_code 5 none :: ws) ({ frames := 2, cells := 0, slots := 0, locals := 24 } : Room)) (fun ar_ U => ar_ = #[(.ref a), (.long qp), (.long qt)] ∧ Z.Warmed39 U.vm ∧ U.heap = h0) (fun _ _ _ _ _ => True) (fun _ U oo_ U' => ∃ v L, oo_ = .returned v ∧ Q5 Z a qp qt u w h0 n0 v U'.heap L ∧ FrameEnd U oo_ U' L ({ frames := 2, cells := 0, slots := 0, locals := 24 } : Room).cells ({ frames := 2, cells := 0, slots := 0, locals := 24 } : Room).slots) := by
  refine MetFree.of_bodySF (plainFor_of_name pn_0) hisR ?_
  intro p e s m args below meth c s₁ Bd hml0 hP hK
  obtain ⟨rfl, hZ, hh⟩ := hP
  have hx := Bd.exec
  have hby := Bd.bytes
  have hml : c.maxLocals = 5 := hml0
  have hown : s.vm.findClass "com/example/lockstep/lockstep/session/Ticks" = some m.cls := findClass_of_methodNamed Bd.named
  have hnm := (name_of_methodNamed Bd.named Bd.method).1
  have X0 : Stand p l e ({ frames := 2, cells := 0, slots := 0, locals := 24 } : Room) s m #[(.ref a), (.long qp), (.long qt)] below meth c s₁ [] 0 0 := Stand.of_body Bd
  have e0 : s₁.heap = h0 := by rw [← hh, Bd.state]; rfl
  have N0 := Fr.nil n0
  refine own_in (castTop (ef_5 m a qp qt)) ?_
  show own_Go _ _ _ _ (s₁.setTop (mkF m 0 #[.val (.ref a), .val (.long qp), .second, .val (.long qt), .second] []))
  refine own_step (fun _ κ => XS.aloadN X0.here hx rfl (hb hby d5_0) rfl rfl κ) ?_
  show own_Go _ _ _ _ (s₁.setTop (mkF m 1 #[.val (.ref a), .val (.long qp), .second, .val (.long qt), .second] [(.ref a)]))
  obtain ⟨cq1, kq1, q1a, q1b, q1c⟩ := isOf hZ e0 P0
  obtain ⟨vr1, _, ⟨T1, L1, k1, n1⟩, -, X1, ⟨Lc1, hQ1, l1, y1, z1⟩, st1⟩ := X0.virtualBack hx (y := (⟨"com/example/lockstep/lockstep/session/Ticks", "stop", "()V"⟩ : MethodName)) (z := (⟨"com/example/lockstep/lockstep/session/Ticks", "stop", "()V"⟩ : MethodName)) hown (mvT hZ (hw _ (List.mem_of_getElem? (i := 16) rfl))) (mvT hZ (hw _ (List.mem_of_getElem? (i := 17) rfl))) (notFace_of_selects (args := #[]) (mvT hZ (hw _ (List.mem_of_getElem? (i := 19) rfl)))) (mvT hZ (hw _ (List.mem_of_getElem? (i := 19) rfl))) (mvT hZ (hw _ (List.mem_of_getElem? (i := 18) rfl))) (by decide) (backOf (W := 0) (rm3 l Z a0 hw [] a u w h0 n0 Z0 P0 P1 P2 P3 P4) hZ (hw _ (List.mem_of_getElem? (i := 20) rfl)) (hw _ (List.mem_of_getElem? (i := 4) rfl)) (by decide) (by decide)) q1a q1c (g := (mkF m 1 #[.val (.ref a), .val (.long qp), .second, .val (.long qt), .second] [(.ref a)])) rfl (by rw [hml]; rfl) (Steps.refl _) (argsL := []) (rest := []) (lenOf pd_0 rfl) rfl (by show 2 * 0 + _ ≤ _; exact Nat.le_of_eq rfl) (hb hby d5_1) (fun _ _ => ⟨rfl, e0, (by decide : 0 + 0 ≤ _), (by decide : 0 + 0 ≤ _)⟩)
  dsimp only [Pt.U, Pt.locs, Pt.cells, Pt.slots] at X1 l1 y1 z1 st1 hQ1
  subst l1 y1 z1
  obtain ⟨rfl, Nq1, Kq1, p1_0, p1_1, p1_2, p1_3⟩ := hQ1
  have N1 := Fr.app N0 Nq1
  have f2 := P0.keep Kq1
  have K3 : Keep h0 T1.heap [a] := (Keep.refl h0 [a]).trans Kq1 (allS (Or.inl (List.mem_of_getElem? (i := 0) rfl)) all0)
  have z4 : n0 ≤ T1.heap.size := Nat.le_trans Z0 Kq1.1
  refine own_step (fun _ κ => st1.trans κ) ?_
  show own_Go _ _ _ _ (T1.setTop (mkF m 4 #[.val (.ref a), .val (.long qp), .second, .val (.long qt), .second] []))
  refine own_step (fun _ κ => XS.lloadN X1.here hx rfl (hb hby d5_4) rfl κ) ?_
  show own_Go _ _ _ _ (T1.setTop (mkF m 5 #[.val (.ref a), .val (.long qp), .second, .val (.long qt), .second] [(.long qp)]))
  refine own_step (fun _ κ => XS.lconst X1.here hx rfl (hb hby d5_5) κ) ?_
  show own_Go _ _ _ _ (T1.setTop (mkF m 6 #[.val (.ref a), .val (.long qp), .second, .val (.long qt), .second] [(.long (0 : Int64)), (.long qp)]))
  refine own_step (fun _ κ => XS.lcmp X1.here hx rfl (hb hby d5_6) rfl κ) ?_
  show own_Go _ _ _ _ (T1.setTop (mkF m 7 #[.val (.ref a), .val (.long qp), .second, .val (.long qt), .second] [(.int (lcmpW qp (0 : Int64)))]))
  refine own_step (fun _ κ => XS.ifNo X1.here hx rfl (hb hby d5_7) rfl ((if0 _ _).trans (tlt ((lw_gt _ _).mpr P5)).2.2.2) κ) ?_
  show own_Go _ _ _ _ (T1.setTop (mkF m 10 #[.val (.ref a), .val (.long qp), .second, .val (.long qt), .second] []))
  refine own_step (fun _ κ => XS.aloadN X1.here hx rfl (hb hby d5_10) rfl rfl κ) ?_
  show own_Go _ _ _ _ (T1.setTop (mkF m 11 #[.val (.ref a), .val (.long qp), .second, .val (.long qt), .second] [(.ref a)]))
  refine own_step (fun _ κ => XS.lloadN X1.here hx rfl (hb hby d5_11) rfl κ) ?_
  show own_Go _ _ _ _ (T1.setTop (mkF m 12 #[.val (.ref a), .val (.long qp), .second, .val (.long qt), .second] [(.long qp), (.ref a)]))
  obtain ⟨T5, h5, X5, e5, W5, st5⟩ := putF X1 hx hZ hown (host := "") (Or.inl (hw _ (List.mem_of_getElem? (i := 28) rfl))) Via.refl rfl p1_2 p1_0 (Or.inl (hw _ (List.mem_of_getElem? (i := 29) rfl))) (hw _ (List.mem_of_getElem? (i := 3) rfl)) (ty := .long) (by decide) rfl rfl (g := (mkF m 12 #[.val (.ref a), .val (.long qp), .second, .val (.long qt), .second] [(.long qp), (.ref a)])) rfl rfl (hb hby d5_12)
  refine own_step st5 ?_
  have N5 := Fr.snoc X5 N1 P4
  have Fw5 := p1_2.same W5
  have f6 := p1_0.wr W5
  have f7 := p1_1.other W5 (Or.inr (slot_ne (Or.inl (hw _ (List.mem_of_getElem? (i := 27) rfl))) (Or.inl (hw _ (List.mem_of_getElem? (i := 29) rfl))) (by decide) (t := (.object "com/example/lockstep/lockstep/session/Timers$Timer")) (t' := .long) (by decide) (by decide)))
  have f8 := p1_3.other W5 (Or.inr (slot_ne (Or.inl (hw _ (List.mem_of_getElem? (i := 31) rfl))) (Or.inl (hw _ (List.mem_of_getElem? (i := 29) rfl))) (by decide) (t := .long) (t' := .long) (by decide) (by decide)))
  have K9 : Keep h0 h5 [a] := K3.wr W5 (Or.inl (List.mem_of_getElem? (i := 0) rfl))
  have z10 : n0 ≤ h5.size := Nat.le_trans z4 (Keep.of_wr W5).1
  show own_Go _ _ _ _ (T5.setTop (mkF m 15 #[.val (.ref a), .val (.long qp), .second, .val (.long qt), .second] []))
  refine own_step (fun _ κ => XS.aloadN X5.here hx rfl (hb hby d5_15) rfl rfl κ) ?_
  show own_Go _ _ _ _ (T5.setTop (mkF m 16 #[.val (.ref a), .val (.long qp), .second, .val (.long qt), .second] [(.ref a)]))
  refine own_step (fun _ κ => XS.lloadN X5.here hx rfl (hb hby d5_16) rfl κ) ?_
  show own_Go _ _ _ _ (T5.setTop (mkF m 17 #[.val (.ref a), .val (.long qp), .second, .val (.long qt), .second] [(.long qt), (.ref a)]))
  refine own_step (fun _ κ => XS.lloadN X5.here hx rfl (hb hby d5_17) rfl κ) ?_
  show own_Go _ _ _ _ (T5.setTop (mkF m 18 #[.val (.ref a), .val (.long qp), .second, .val (.long qt), .second] [(.long qp), (.long qt), (.ref a)]))
  refine own_step (fun _ κ => XS.ladd X5.here hx rfl (hb hby d5_18) rfl κ) ?_
  show own_Go _ _ _ _ (T5.setTop (mkF m 19 #[.val (.ref a), .val (.long qp), .second, .val (.long qt), .second] [(.long (qt + qp)), (.ref a)]))
  obtain ⟨T11, h11, X11, e11, W11, st11⟩ := putF X5 hx hZ hown (host := "") (Or.inl (hw _ (List.mem_of_getElem? (i := 30) rfl))) Via.refl e5 f8 f6 (Or.inl (hw _ (List.mem_of_getElem? (i := 31) rfl))) (hw _ (List.mem_of_getElem? (i := 3) rfl)) (ty := .long) (by decide) rfl rfl (g := (mkF m 19 #[.val (.ref a), .val (.long qp), .second, .val (.long qt), .second] [(.long (qt + qp)), (.ref a)])) rfl rfl (hb hby d5_19)
  refine own_step st11 ?_
  have N11 := Fr.snoc X11 N5 P4
  have Fw11 := f8.same W11
  have f12 := f6.wr W11
  have f13 := f7.other W11 (Or.inr (slot_ne (Or.inl (hw _ (List.mem_of_getElem? (i := 27) rfl))) (Or.inl (hw _ (List.mem_of_getElem? (i := 31) rfl))) (by decide) (t := (.object "com/example/lockstep/lockstep/session/Timers$Timer")) (t' := .long) (by decide) (by decide)))
  have f14 := Fw5.other W11 (Or.inr (slot_ne (Or.inl (hw _ (List.mem_of_getElem? (i := 29) rfl))) (Or.inl (hw _ (List.mem_of_getElem? (i := 31) rfl))) (by decide) (t := .long) (t' := .long) (by decide) (by decide)))
  have K15 : Keep h0 h11 [a] := K9.wr W11 (Or.inl (List.mem_of_getElem? (i := 0) rfl))
  have z16 : n0 ≤ h11.size := Nat.le_trans z10 (Keep.of_wr W11).1
  show own_Go _ _ _ _ (T11.setTop (mkF m 22 #[.val (.ref a), .val (.long qp), .second, .val (.long qt), .second] []))
  obtain ⟨fs, hr, hrun, hended, hW, hsame⟩ := X11.leave (v := none) (fun _ => rfl)
  refine ⟨_, _, X11.returnOut hx Bd.returns (hb hby d5_22) hr, hrun, hended, _, _, rfl, ?_, ⟨_, rfl⟩, hW, hsame.mono (by decide) (by decide)⟩
  show Q5 Z a qp qt u w h0 n0 _ T11.heap _
  rw [e11]
  exact ⟨rfl, N11, K15, f12, f13, f14, Fw11⟩
theorem d6_0 : decode prog_56_method_5_code 0 = .ok (.aload_n 0, 1) := by decide +kernel
theorem d6_1 : decode prog_56_method_5_code 1 = .ok (.getfield 16, 3) := by decide +kernel
theorem d6_4 : decode prog_56_method_5_code 4 = .ok (.lreturn, 1) := by decide +kernel
theorem ef_6 (m : MethodId) (a : Addr) : entryFrame m #[(.ref a)] 1 = mkF m 0 #[.val (.ref a)] [] := by first | (simp [entryFrame, mkF, argsToLocals, Value.category]; done) | rfl
def Q6 (Z : State) (a : Addr) (w : Int64) (h0 : Heap) (n0 : Nat) (v : Option Value) (h : Heap) (L : List Loc) : Prop := v = some (.long w) ∧ Fr n0 L ∧ h = h0
set_option maxRecDepth 65536 in
set_option maxHeartbeats 40000000 in
theorem rm6 (l : Launch) (Z : State) (a0 : Array Value) (hw : ∀ d ∈ tables_1, d.before a0 Z = true) (ws : List Jvm.Cond) (a : Addr) (w : Int64) (h0 : Heap) (n0 : Nat) (Z0 : n0 ≤ h0.size) (P0 : Fld Z h0 a "com/example/lockstep/lockstep/session/Ticks" "nextMs" "J" (.long w)) :
    MetFree l (⟨"com/example/lockstep/lockstep/session/Ticks", "nextMs", "()J"⟩ : MethodName) (head1 (Jvm.Cond.code (⟨"com/example/lockstep/lockstep/session/Ticks", "nextMs", "()J"⟩ : MethodName) prog_56_method_5_code 1 (some .long) :: ws) ({ frames := 0, cells := 0, slots := 0, locals := 0 } : Room)) (fun ar_ U => ar_ = #[(.ref a)] ∧ Z.Warmed39 U.vm ∧ U.heap = h0) (fun _ _ _ _ _ => True) (fun _ U oo_ U' => ∃ v L, oo_ = .returned v ∧ Q6 Z a w h0 n0 v U'.heap L ∧ FrameEnd U oo_ U' L ({ frames := 0, cells := 0, slots := 0, locals := 0 } : Room).cells ({ frames := 0, cells := 0, slots := 0, locals := 0 } : Room).slots) := by
  refine MetFree.of_bodySF (plainFor_of_name pn_0) hisR ?_
  intro p e s m args below meth c s₁ Bd hml0 hP hK
  obtain ⟨rfl, hZ, hh⟩ := hP
  have hx := Bd.exec
  have hby := Bd.bytes
  have hml : c.maxLocals = 1 := hml0
  have hown : s.vm.findClass "com/example/lockstep/lockstep/session/Ticks" = some m.cls := findClass_of_methodNamed Bd.named
  have hnm := (name_of_methodNamed Bd.named Bd.method).1
  have X0 : Stand p l e ({ frames := 0, cells := 0, slots := 0, locals := 0 } : Room) s m #[(.ref a)] below meth c s₁ [] 0 0 := Stand.of_body Bd
  have e0 : s₁.heap = h0 := by rw [← hh, Bd.state]; rfl
  have N0 := Fr.nil n0
  refine own_in (castTop (ef_6 m a)) ?_
  show own_Go _ _ _ _ (s₁.setTop (mkF m 0 #[.val (.ref a)] []))
  refine own_step (fun _ κ => XS.aloadN X0.here hx rfl (hb hby d6_0) rfl rfl κ) ?_
  show own_Go _ _ _ _ (s₁.setTop (mkF m 1 #[.val (.ref a)] [(.ref a)]))
  obtain ⟨T1, X1, e1, st1⟩ := getF X0 hx hZ hown (host := "") (Or.inl (hw _ (List.mem_of_getElem? (i := 30) rfl))) Via.refl e0 P0 (g := (mkF m 1 #[.val (.ref a)] [(.ref a)])) rfl rfl (hb hby d6_1)
  refine own_step st1 ?_
  show own_Go _ _ _ _ (T1.setTop (mkF m 4 #[.val (.ref a)] [(.long w)]))
  obtain ⟨fs, hr, hrun, hended, hW, hsame⟩ := X1.leave (v := some (.long w)) (fun h => by rw [Bd.returns] at h; cases h)
  refine ⟨_, _, retOut X1 hx Bd.returns rfl (Or.inr (Or.inl ⟨rfl, rfl, _, rfl⟩)) (hb hby d6_4) hr, hrun, hended, _, _, rfl, ?_, ⟨_, rfl⟩, hW, hsame.mono (by decide) (by decide)⟩
  show Q6 Z a w h0 n0 _ T1.heap _
  rw [e1]
  exact ⟨rfl, N0, rfl⟩
theorem d7_0 : decode prog_56_method_8_code 0 = .ok (.aload_n 0, 1) := by decide +kernel
theorem d7_1 : decode prog_56_method_8_code 1 = .ok (.getfield 12, 3) := by decide +kernel
theorem d7_4 : decode prog_56_method_8_code 4 = .ok (.lconst 0, 1) := by decide +kernel
theorem d7_5 : decode prog_56_method_8_code 5 = .ok (.lcmp, 1) := by decide +kernel
theorem d7_6 : decode prog_56_method_8_code 6 = .ok (.ifCond .le 39, 3) := by decide +kernel
theorem d7_45 : decode prog_56_method_8_code 45 = .ok (.return_, 1) := by decide +kernel
theorem ef_7 (m : MethodId) (a : Addr) (qt : Int64) : entryFrame m #[(.ref a), (.long qt)] 3 = mkF m 0 #[.val (.ref a), .val (.long qt), .second] [] := by first | (simp [entryFrame, mkF, argsToLocals, Value.category]; done) | rfl
def Q7 (Z : State) (a : Addr) (qt : Int64) (h0 : Heap) (n0 : Nat) (v : Option Value) (h : Heap) (L : List Loc) : Prop := v = none ∧ Fr n0 L ∧ h = h0
set_option maxRecDepth 65536 in
set_option maxHeartbeats 40000000 in
theorem rm7 (l : Launch) (Z : State) (a0 : Array Value) (hw : ∀ d ∈ tables_1, d.before a0 Z = true) (ws : List Jvm.Cond) (a : Addr) (qt : Int64) (h0 : Heap) (n0 : Nat) (Z0 : n0 ≤ h0.size) (P0 : Fld Z h0 a "com/example/lockstep/lockstep/session/Ticks" "periodMs" "J" (.long (0 : Int64))) :
    MetFree l (⟨"com/example/lockstep/lockstep/session/Ticks", "skipThrough", "(J)V"⟩ : MethodName) (head1 (Jvm.Cond.code (⟨"com/example/lockstep/lockstep/session/Ticks", "skipThrough", "(J)V"⟩ : MethodName) prog_56_method_8_code 3 none :: ws) ({ frames := 0, cells := 0, slots := 0, locals := 0 } : Room)) (fun ar_ U => ar_ = #[(.ref a), (.long qt)] ∧ Z.Warmed39 U.vm ∧ U.heap = h0) (fun _ _ _ _ _ => True) (fun _ U oo_ U' => ∃ v L, oo_ = .returned v ∧ Q7 Z a qt  h0 n0 v U'.heap L ∧ FrameEnd U oo_ U' L ({ frames := 0, cells := 0, slots := 0, locals := 0 } : Room).cells ({ frames := 0, cells := 0, slots := 0, locals := 0 } : Room).slots) := by
  refine MetFree.of_bodySF (plainFor_of_name pn_0) hisR ?_
  intro p e s m args below meth c s₁ Bd hml0 hP hK
  obtain ⟨rfl, hZ, hh⟩ := hP
  have hx := Bd.exec
  have hby := Bd.bytes
  have hml : c.maxLocals = 3 := hml0
  have hown : s.vm.findClass "com/example/lockstep/lockstep/session/Ticks" = some m.cls := findClass_of_methodNamed Bd.named
  have hnm := (name_of_methodNamed Bd.named Bd.method).1
  have X0 : Stand p l e ({ frames := 0, cells := 0, slots := 0, locals := 0 } : Room) s m #[(.ref a), (.long qt)] below meth c s₁ [] 0 0 := Stand.of_body Bd
  have e0 : s₁.heap = h0 := by rw [← hh, Bd.state]; rfl
  have N0 := Fr.nil n0
  refine own_in (castTop (ef_7 m a qt)) ?_
  show own_Go _ _ _ _ (s₁.setTop (mkF m 0 #[.val (.ref a), .val (.long qt), .second] []))
  refine own_step (fun _ κ => XS.aloadN X0.here hx rfl (hb hby d7_0) rfl rfl κ) ?_
  show own_Go _ _ _ _ (s₁.setTop (mkF m 1 #[.val (.ref a), .val (.long qt), .second] [(.ref a)]))
  obtain ⟨T1, X1, e1, st1⟩ := getF X0 hx hZ hown (host := "") (Or.inl (hw _ (List.mem_of_getElem? (i := 28) rfl))) Via.refl e0 P0 (g := (mkF m 1 #[.val (.ref a), .val (.long qt), .second] [(.ref a)])) rfl rfl (hb hby d7_1)
  refine own_step st1 ?_
  show own_Go _ _ _ _ (T1.setTop (mkF m 4 #[.val (.ref a), .val (.long qt), .second] [(.long (0 : Int64))]))
  refine own_step (fun _ κ => XS.lconst X1.here hx rfl (hb hby d7_4) κ) ?_
  show own_Go _ _ _ _ (T1.setTop (mkF m 5 #[.val (.ref a), .val (.long qt), .second] [(.long (0 : Int64)), (.long (0 : Int64))]))
  refine own_step (fun _ κ => XS.lcmp X1.here hx rfl (hb hby d7_5) rfl κ) ?_
  show own_Go _ _ _ _ (T1.setTop (mkF m 6 #[.val (.ref a), .val (.long qt), .second] [(.int (lcmpW (0 : Int64) (0 : Int64)))]))
  refine own_step (fun _ κ => XS.ifYes X1.here hx rfl (pc0 := 6) (pc' := 45) rfl (hb hby d7_6) rfl ((if0 _ _).trans (flt (fun q => absurd ((lw_gt _ _).mp q) (by decide))).2.2.2) (by decide) (by decide) κ) ?_
  show own_Go _ _ _ _ (T1.setTop (mkF m 45 #[.val (.ref a), .val (.long qt), .second] []))
  obtain ⟨fs, hr, hrun, hended, hW, hsame⟩ := X1.leave (v := none) (fun _ => rfl)
  refine ⟨_, _, X1.returnOut hx Bd.returns (hb hby d7_45) hr, hrun, hended, _, _, rfl, ?_, ⟨_, rfl⟩, hW, hsame.mono (by decide) (by decide)⟩
  show Q7 Z a qt  h0 n0 _ T1.heap _
  rw [e1]
  exact ⟨rfl, N0, rfl⟩
theorem d8_0 : decode prog_56_method_8_code 0 = .ok (.aload_n 0, 1) := by decide +kernel
theorem d8_1 : decode prog_56_method_8_code 1 = .ok (.getfield 12, 3) := by decide +kernel
theorem d8_4 : decode prog_56_method_8_code 4 = .ok (.lconst 0, 1) := by decide +kernel
theorem d8_5 : decode prog_56_method_8_code 5 = .ok (.lcmp, 1) := by decide +kernel
theorem d8_6 : decode prog_56_method_8_code 6 = .ok (.ifCond .le 39, 3) := by decide +kernel
theorem d8_9 : decode prog_56_method_8_code 9 = .ok (.aload_n 0, 1) := by decide +kernel
theorem d8_10 : decode prog_56_method_8_code 10 = .ok (.getfield 16, 3) := by decide +kernel
theorem d8_13 : decode prog_56_method_8_code 13 = .ok (.lload_n 1, 1) := by decide +kernel
theorem d8_14 : decode prog_56_method_8_code 14 = .ok (.lcmp, 1) := by decide +kernel
theorem d8_15 : decode prog_56_method_8_code 15 = .ok (.ifCond .gt 30, 3) := by decide +kernel
theorem d8_45 : decode prog_56_method_8_code 45 = .ok (.return_, 1) := by decide +kernel
theorem ef_8 (m : MethodId) (a : Addr) (qt : Int64) : entryFrame m #[(.ref a), (.long qt)] 3 = mkF m 0 #[.val (.ref a), .val (.long qt), .second] [] := by first | (simp [entryFrame, mkF, argsToLocals, Value.category]; done) | rfl
def Q8 (Z : State) (a : Addr) (qt : Int64) (qp : Int64) (w : Int64) (h0 : Heap) (n0 : Nat) (v : Option Value) (h : Heap) (L : List Loc) : Prop := v = none ∧ Fr n0 L ∧ h = h0
set_option maxRecDepth 65536 in
set_option maxHeartbeats 40000000 in
theorem rm8 (l : Launch) (Z : State) (a0 : Array Value) (hw : ∀ d ∈ tables_1, d.before a0 Z = true) (ws : List Jvm.Cond) (a : Addr) (qt : Int64) (qp : Int64) (w : Int64) (h0 : Heap) (n0 : Nat) (Z0 : n0 ≤ h0.size) (P0 : Fld Z h0 a "com/example/lockstep/lockstep/session/Ticks" "periodMs" "J" (.long qp)) (P1 : Fld Z h0 a "com/example/lockstep/lockstep/session/Ticks" "nextMs" "J" (.long w)) (P2 : (0 : Int64) < qp) (P3 : qt < w) :
    MetFree l (⟨"com/example/lockstep/lockstep/session/Ticks", "skipThrough", "(J)V"⟩ : MethodName) (head1 (Jvm.Cond.code (⟨"com/example/lockstep/lockstep/session/Ticks", "skipThrough", "(J)V"⟩ : MethodName) prog_56_method_8_code 3 none :: ws) ({ frames := 0, cells := 0, slots := 0, locals := 0 } : Room)) (fun ar_ U => ar_ = #[(.ref a), (.long qt)] ∧ Z.Warmed39 U.vm ∧ U.heap = h0) (fun _ _ _ _ _ => True) (fun _ U oo_ U' => ∃ v L, oo_ = .returned v ∧ Q8 Z a qt qp w h0 n0 v U'.heap L ∧ FrameEnd U oo_ U' L ({ frames := 0, cells := 0, slots := 0, locals := 0 } : Room).cells ({ frames := 0, cells := 0, slots := 0, locals := 0 } : Room).slots) := by
  refine MetFree.of_bodySF (plainFor_of_name pn_0) hisR ?_
  intro p e s m args below meth c s₁ Bd hml0 hP hK
  obtain ⟨rfl, hZ, hh⟩ := hP
  have hx := Bd.exec
  have hby := Bd.bytes
  have hml : c.maxLocals = 3 := hml0
  have hown : s.vm.findClass "com/example/lockstep/lockstep/session/Ticks" = some m.cls := findClass_of_methodNamed Bd.named
  have hnm := (name_of_methodNamed Bd.named Bd.method).1
  have X0 : Stand p l e ({ frames := 0, cells := 0, slots := 0, locals := 0 } : Room) s m #[(.ref a), (.long qt)] below meth c s₁ [] 0 0 := Stand.of_body Bd
  have e0 : s₁.heap = h0 := by rw [← hh, Bd.state]; rfl
  have N0 := Fr.nil n0
  refine own_in (castTop (ef_8 m a qt)) ?_
  show own_Go _ _ _ _ (s₁.setTop (mkF m 0 #[.val (.ref a), .val (.long qt), .second] []))
  refine own_step (fun _ κ => XS.aloadN X0.here hx rfl (hb hby d8_0) rfl rfl κ) ?_
  show own_Go _ _ _ _ (s₁.setTop (mkF m 1 #[.val (.ref a), .val (.long qt), .second] [(.ref a)]))
  obtain ⟨T1, X1, e1, st1⟩ := getF X0 hx hZ hown (host := "") (Or.inl (hw _ (List.mem_of_getElem? (i := 28) rfl))) Via.refl e0 P0 (g := (mkF m 1 #[.val (.ref a), .val (.long qt), .second] [(.ref a)])) rfl rfl (hb hby d8_1)
  refine own_step st1 ?_
  show own_Go _ _ _ _ (T1.setTop (mkF m 4 #[.val (.ref a), .val (.long qt), .second] [(.long qp)]))
  refine own_step (fun _ κ => XS.lconst X1.here hx rfl (hb hby d8_4) κ) ?_
  show own_Go _ _ _ _ (T1.setTop (mkF m 5 #[.val (.ref a), .val (.long qt), .second] [(.long (0 : Int64)), (.long qp)]))
  refine own_step (fun _ κ => XS.lcmp X1.here hx rfl (hb hby d8_5) rfl κ) ?_
  show own_Go _ _ _ _ (T1.setTop (mkF m 6 #[.val (.ref a), .val (.long qt), .second] [(.int (lcmpW qp (0 : Int64)))]))
  refine own_step (fun _ κ => XS.ifNo X1.here hx rfl (hb hby d8_6) rfl ((if0 _ _).trans (tlt ((lw_gt _ _).mpr P2)).2.2.2) κ) ?_
  show own_Go _ _ _ _ (T1.setTop (mkF m 9 #[.val (.ref a), .val (.long qt), .second] []))
  refine own_step (fun _ κ => XS.aloadN X1.here hx rfl (hb hby d8_9) rfl rfl κ) ?_
  show own_Go _ _ _ _ (T1.setTop (mkF m 10 #[.val (.ref a), .val (.long qt), .second] [(.ref a)]))
  obtain ⟨T2, X2, e2, st2⟩ := getF X1 hx hZ hown (host := "") (Or.inl (hw _ (List.mem_of_getElem? (i := 30) rfl))) Via.refl e1 P1 (g := (mkF m 10 #[.val (.ref a), .val (.long qt), .second] [(.ref a)])) rfl rfl (hb hby d8_10)
  refine own_step st2 ?_
  show own_Go _ _ _ _ (T2.setTop (mkF m 13 #[.val (.ref a), .val (.long qt), .second] [(.long w)]))
  refine own_step (fun _ κ => XS.lloadN X2.here hx rfl (hb hby d8_13) rfl κ) ?_
  show own_Go _ _ _ _ (T2.setTop (mkF m 14 #[.val (.ref a), .val (.long qt), .second] [(.long qt), (.long w)]))
  refine own_step (fun _ κ => XS.lcmp X2.here hx rfl (hb hby d8_14) rfl κ) ?_
  show own_Go _ _ _ _ (T2.setTop (mkF m 15 #[.val (.ref a), .val (.long qt), .second] [(.int (lcmpW w qt))]))
  refine own_step (fun _ κ => XS.ifYes X2.here hx rfl (pc0 := 15) (pc' := 45) rfl (hb hby d8_15) rfl ((if0 _ _).trans (tlt ((lw_gt _ _).mpr P3)).2.2.1) (by decide) (by decide) κ) ?_
  show own_Go _ _ _ _ (T2.setTop (mkF m 45 #[.val (.ref a), .val (.long qt), .second] []))
  obtain ⟨fs, hr, hrun, hended, hW, hsame⟩ := X2.leave (v := none) (fun _ => rfl)
  refine ⟨_, _, X2.returnOut hx Bd.returns (hb hby d8_45) hr, hrun, hended, _, _, rfl, ?_, ⟨_, rfl⟩, hW, hsame.mono (by decide) (by decide)⟩
  show Q8 Z a qt qp w h0 n0 _ T2.heap _
  rw [e2]
  exact ⟨rfl, N0, rfl⟩
theorem d9_0 : decode prog_56_method_8_code 0 = .ok (.aload_n 0, 1) := by decide +kernel
theorem d9_1 : decode prog_56_method_8_code 1 = .ok (.getfield 12, 3) := by decide +kernel
theorem d9_4 : decode prog_56_method_8_code 4 = .ok (.lconst 0, 1) := by decide +kernel
theorem d9_5 : decode prog_56_method_8_code 5 = .ok (.lcmp, 1) := by decide +kernel
theorem d9_6 : decode prog_56_method_8_code 6 = .ok (.ifCond .le 39, 3) := by decide +kernel
theorem d9_9 : decode prog_56_method_8_code 9 = .ok (.aload_n 0, 1) := by decide +kernel
theorem d9_10 : decode prog_56_method_8_code 10 = .ok (.getfield 16, 3) := by decide +kernel
theorem d9_13 : decode prog_56_method_8_code 13 = .ok (.lload_n 1, 1) := by decide +kernel
theorem d9_14 : decode prog_56_method_8_code 14 = .ok (.lcmp, 1) := by decide +kernel
theorem d9_15 : decode prog_56_method_8_code 15 = .ok (.ifCond .gt 30, 3) := by decide +kernel
theorem d9_18 : decode prog_56_method_8_code 18 = .ok (.aload_n 0, 1) := by decide +kernel
theorem d9_19 : decode prog_56_method_8_code 19 = .ok (.dup, 1) := by decide +kernel
theorem d9_20 : decode prog_56_method_8_code 20 = .ok (.getfield 16, 3) := by decide +kernel
theorem d9_23 : decode prog_56_method_8_code 23 = .ok (.lload_n 1, 1) := by decide +kernel
theorem d9_24 : decode prog_56_method_8_code 24 = .ok (.aload_n 0, 1) := by decide +kernel
theorem d9_25 : decode prog_56_method_8_code 25 = .ok (.getfield 16, 3) := by decide +kernel
theorem d9_28 : decode prog_56_method_8_code 28 = .ok (.lsub, 1) := by decide +kernel
theorem d9_29 : decode prog_56_method_8_code 29 = .ok (.aload_n 0, 1) := by decide +kernel
theorem d9_30 : decode prog_56_method_8_code 30 = .ok (.getfield 12, 3) := by decide +kernel
theorem d9_33 : decode prog_56_method_8_code 33 = .ok (.ldiv, 1) := by decide +kernel
theorem d9_34 : decode prog_56_method_8_code 34 = .ok (.lconst 1, 1) := by decide +kernel
theorem d9_35 : decode prog_56_method_8_code 35 = .ok (.ladd, 1) := by decide +kernel
theorem d9_36 : decode prog_56_method_8_code 36 = .ok (.aload_n 0, 1) := by decide +kernel
theorem d9_37 : decode prog_56_method_8_code 37 = .ok (.getfield 12, 3) := by decide +kernel
theorem d9_40 : decode prog_56_method_8_code 40 = .ok (.lmul, 1) := by decide +kernel
theorem d9_41 : decode prog_56_method_8_code 41 = .ok (.ladd, 1) := by decide +kernel
theorem d9_42 : decode prog_56_method_8_code 42 = .ok (.putfield 16, 3) := by decide +kernel
theorem d9_45 : decode prog_56_method_8_code 45 = .ok (.return_, 1) := by decide +kernel
theorem ef_9 (m : MethodId) (a : Addr) (qt : Int64) : entryFrame m #[(.ref a), (.long qt)] 3 = mkF m 0 #[.val (.ref a), .val (.long qt), .second] [] := by first | (simp [entryFrame, mkF, argsToLocals, Value.category]; done) | rfl
def Q9 (Z : State) (a : Addr) (qt : Int64) (qp : Int64) (w : Int64) (h0 : Heap) (n0 : Nat) (v : Option Value) (h : Heap) (L : List Loc) : Prop := v = none ∧ Fr n0 L ∧ Keep h0 h [a] ∧ (Exa Z h a "com/example/lockstep/lockstep/session/Ticks") ∧ (Fld Z h a "com/example/lockstep/lockstep/session/Ticks" "periodMs" "J" (.long qp)) ∧ (Fld Z h a "com/example/lockstep/lockstep/session/Ticks" "nextMs" "J" (.long (own_after w qt qp)))
set_option maxRecDepth 65536 in
set_option maxHeartbeats 40000000 in
theorem rm9 (l : Launch) (Z : State) (a0 : Array Value) (hw : ∀ d ∈ tables_1, d.before a0 Z = true) (ws : List Jvm.Cond) (a : Addr) (qt : Int64) (qp : Int64) (w : Int64) (h0 : Heap) (n0 : Nat) (Z0 : n0 ≤ h0.size) (P0 : Exa Z h0 a "com/example/lockstep/lockstep/session/Ticks") (P1 : Fld Z h0 a "com/example/lockstep/lockstep/session/Ticks" "periodMs" "J" (.long qp)) (P2 : Fld Z h0 a "com/example/lockstep/lockstep/session/Ticks" "nextMs" "J" (.long w)) (P3 : n0 ≤ a) (P4 : (0 : Int64) < qp) (P5 : ¬ qt < w) :
    MetFree l (⟨"com/example/lockstep/lockstep/session/Ticks", "skipThrough", "(J)V"⟩ : MethodName) (head1 (Jvm.Cond.code (⟨"com/example/lockstep/lockstep/session/Ticks", "skipThrough", "(J)V"⟩ : MethodName) prog_56_method_8_code 3 none :: ws) ({ frames := 0, cells := 0, slots := 0, locals := 0 } : Room)) (fun ar_ U => ar_ = #[(.ref a), (.long qt)] ∧ Z.Warmed39 U.vm ∧ U.heap = h0) (fun _ _ _ _ _ => True) (fun _ U oo_ U' => ∃ v L, oo_ = .returned v ∧ Q9 Z a qt qp w h0 n0 v U'.heap L ∧ FrameEnd U oo_ U' L ({ frames := 0, cells := 0, slots := 0, locals := 0 } : Room).cells ({ frames := 0, cells := 0, slots := 0, locals := 0 } : Room).slots) := by
  refine MetFree.of_bodySF (plainFor_of_name pn_0) hisR ?_
  intro p e s m args below meth c s₁ Bd hml0 hP hK
  obtain ⟨rfl, hZ, hh⟩ := hP
  have hx := Bd.exec
  have hby := Bd.bytes
  have hml : c.maxLocals = 3 := hml0
  have hown : s.vm.findClass "com/example/lockstep/lockstep/session/Ticks" = some m.cls := findClass_of_methodNamed Bd.named
  have hnm := (name_of_methodNamed Bd.named Bd.method).1
  have X0 : Stand p l e ({ frames := 0, cells := 0, slots := 0, locals := 0 } : Room) s m #[(.ref a), (.long qt)] below meth c s₁ [] 0 0 := Stand.of_body Bd
  have e0 : s₁.heap = h0 := by rw [← hh, Bd.state]; rfl
  have N0 := Fr.nil n0
  refine own_in (castTop (ef_9 m a qt)) ?_
  show own_Go _ _ _ _ (s₁.setTop (mkF m 0 #[.val (.ref a), .val (.long qt), .second] []))
  refine own_step (fun _ κ => XS.aloadN X0.here hx rfl (hb hby d9_0) rfl rfl κ) ?_
  show own_Go _ _ _ _ (s₁.setTop (mkF m 1 #[.val (.ref a), .val (.long qt), .second] [(.ref a)]))
  obtain ⟨T1, X1, e1, st1⟩ := getF X0 hx hZ hown (host := "") (Or.inl (hw _ (List.mem_of_getElem? (i := 28) rfl))) Via.refl e0 P1 (g := (mkF m 1 #[.val (.ref a), .val (.long qt), .second] [(.ref a)])) rfl rfl (hb hby d9_1)
  refine own_step st1 ?_
  show own_Go _ _ _ _ (T1.setTop (mkF m 4 #[.val (.ref a), .val (.long qt), .second] [(.long qp)]))
  refine own_step (fun _ κ => XS.lconst X1.here hx rfl (hb hby d9_4) κ) ?_
  show own_Go _ _ _ _ (T1.setTop (mkF m 5 #[.val (.ref a), .val (.long qt), .second] [(.long (0 : Int64)), (.long qp)]))
  refine own_step (fun _ κ => XS.lcmp X1.here hx rfl (hb hby d9_5) rfl κ) ?_
  show own_Go _ _ _ _ (T1.setTop (mkF m 6 #[.val (.ref a), .val (.long qt), .second] [(.int (lcmpW qp (0 : Int64)))]))
  refine own_step (fun _ κ => XS.ifNo X1.here hx rfl (hb hby d9_6) rfl ((if0 _ _).trans (tlt ((lw_gt _ _).mpr P4)).2.2.2) κ) ?_
  show own_Go _ _ _ _ (T1.setTop (mkF m 9 #[.val (.ref a), .val (.long qt), .second] []))
  refine own_step (fun _ κ => XS.aloadN X1.here hx rfl (hb hby d9_9) rfl rfl κ) ?_
  show own_Go _ _ _ _ (T1.setTop (mkF m 10 #[.val (.ref a), .val (.long qt), .second] [(.ref a)]))
  obtain ⟨T2, X2, e2, st2⟩ := getF X1 hx hZ hown (host := "") (Or.inl (hw _ (List.mem_of_getElem? (i := 30) rfl))) Via.refl e1 P2 (g := (mkF m 10 #[.val (.ref a), .val (.long qt), .second] [(.ref a)])) rfl rfl (hb hby d9_10)
  refine own_step st2 ?_
  show own_Go _ _ _ _ (T2.setTop (mkF m 13 #[.val (.ref a), .val (.long qt), .second] [(.long w)]))
  refine own_step (fun _ κ => XS.lloadN X2.here hx rfl (hb hby d9_13) rfl κ) ?_
  show own_Go _ _ _ _ (T2.setTop (mkF m 14 #[.val (.ref a), .val (.long qt), .second] [(.long qt), (.long w)]))
  refine own_step (fun _ κ => XS.lcmp X2.here hx rfl (hb hby d9_14) rfl κ) ?_
  show own_Go _ _ _ _ (T2.setTop (mkF m 15 #[.val (.ref a), .val (.long qt), .second] [(.int (lcmpW w qt))]))
  refine own_step (fun _ κ => XS.ifNo X2.here hx rfl (hb hby d9_15) rfl ((if0 _ _).trans (flt (fun q => absurd ((lw_gt _ _).mp q) P5)).2.2.1) κ) ?_
  show own_Go _ _ _ _ (T2.setTop (mkF m 18 #[.val (.ref a), .val (.long qt), .second] []))
  refine own_step (fun _ κ => XS.aloadN X2.here hx rfl (hb hby d9_18) rfl rfl κ) ?_
  show own_Go _ _ _ _ (T2.setTop (mkF m 19 #[.val (.ref a), .val (.long qt), .second] [(.ref a)]))
  refine own_step (fun _ κ => XS.dup X2.here hx rfl (hb hby d9_19) rfl rfl κ) ?_
  show own_Go _ _ _ _ (T2.setTop (mkF m 20 #[.val (.ref a), .val (.long qt), .second] [(.ref a), (.ref a)]))
  obtain ⟨T3, X3, e3, st3⟩ := getF X2 hx hZ hown (host := "") (Or.inl (hw _ (List.mem_of_getElem? (i := 30) rfl))) Via.refl e2 P2 (g := (mkF m 20 #[.val (.ref a), .val (.long qt), .second] [(.ref a), (.ref a)])) rfl rfl (hb hby d9_20)
  refine own_step st3 ?_
  show own_Go _ _ _ _ (T3.setTop (mkF m 23 #[.val (.ref a), .val (.long qt), .second] [(.long w), (.ref a)]))
  refine own_step (fun _ κ => XS.lloadN X3.here hx rfl (hb hby d9_23) rfl κ) ?_
  show own_Go _ _ _ _ (T3.setTop (mkF m 24 #[.val (.ref a), .val (.long qt), .second] [(.long qt), (.long w), (.ref a)]))
  refine own_step (fun _ κ => XS.aloadN X3.here hx rfl (hb hby d9_24) rfl rfl κ) ?_
  show own_Go _ _ _ _ (T3.setTop (mkF m 25 #[.val (.ref a), .val (.long qt), .second] [(.ref a), (.long qt), (.long w), (.ref a)]))
  obtain ⟨T4, X4, e4, st4⟩ := getF X3 hx hZ hown (host := "") (Or.inl (hw _ (List.mem_of_getElem? (i := 30) rfl))) Via.refl e3 P2 (g := (mkF m 25 #[.val (.ref a), .val (.long qt), .second] [(.ref a), (.long qt), (.long w), (.ref a)])) rfl rfl (hb hby d9_25)
  refine own_step st4 ?_
  show own_Go _ _ _ _ (T4.setTop (mkF m 28 #[.val (.ref a), .val (.long qt), .second] [(.long w), (.long qt), (.long w), (.ref a)]))
  refine own_step (fun _ κ => XS.lsub X4.here hx rfl (hb hby d9_28) rfl κ) ?_
  show own_Go _ _ _ _ (T4.setTop (mkF m 29 #[.val (.ref a), .val (.long qt), .second] [(.long (qt - w)), (.long w), (.ref a)]))
  refine own_step (fun _ κ => XS.aloadN X4.here hx rfl (hb hby d9_29) rfl rfl κ) ?_
  show own_Go _ _ _ _ (T4.setTop (mkF m 30 #[.val (.ref a), .val (.long qt), .second] [(.ref a), (.long (qt - w)), (.long w), (.ref a)]))
  obtain ⟨T5, X5, e5, st5⟩ := getF X4 hx hZ hown (host := "") (Or.inl (hw _ (List.mem_of_getElem? (i := 28) rfl))) Via.refl e4 P1 (g := (mkF m 30 #[.val (.ref a), .val (.long qt), .second] [(.ref a), (.long (qt - w)), (.long w), (.ref a)])) rfl rfl (hb hby d9_30)
  refine own_step st5 ?_
  show own_Go _ _ _ _ (T5.setTop (mkF m 33 #[.val (.ref a), .val (.long qt), .second] [(.long qp), (.long (qt - w)), (.long w), (.ref a)]))
  refine own_step (fun _ κ => XS.ldiv X5.here hx rfl (hb hby d9_33) rfl (own_nz P4) κ) ?_
  show own_Go _ _ _ _ (T5.setTop (mkF m 34 #[.val (.ref a), .val (.long qt), .second] [(.long ((qt - w) / qp)), (.long w), (.ref a)]))
  refine own_step (fun _ κ => XS.lconst X5.here hx rfl (hb hby d9_34) κ) ?_
  show own_Go _ _ _ _ (T5.setTop (mkF m 35 #[.val (.ref a), .val (.long qt), .second] [(.long (1 : Int64)), (.long ((qt - w) / qp)), (.long w), (.ref a)]))
  refine own_step (fun _ κ => XS.ladd X5.here hx rfl (hb hby d9_35) rfl κ) ?_
  show own_Go _ _ _ _ (T5.setTop (mkF m 36 #[.val (.ref a), .val (.long qt), .second] [(.long (((qt - w) / qp) + (1 : Int64))), (.long w), (.ref a)]))
  refine own_step (fun _ κ => XS.aloadN X5.here hx rfl (hb hby d9_36) rfl rfl κ) ?_
  show own_Go _ _ _ _ (T5.setTop (mkF m 37 #[.val (.ref a), .val (.long qt), .second] [(.ref a), (.long (((qt - w) / qp) + (1 : Int64))), (.long w), (.ref a)]))
  obtain ⟨T6, X6, e6, st6⟩ := getF X5 hx hZ hown (host := "") (Or.inl (hw _ (List.mem_of_getElem? (i := 28) rfl))) Via.refl e5 P1 (g := (mkF m 37 #[.val (.ref a), .val (.long qt), .second] [(.ref a), (.long (((qt - w) / qp) + (1 : Int64))), (.long w), (.ref a)])) rfl rfl (hb hby d9_37)
  refine own_step st6 ?_
  show own_Go _ _ _ _ (T6.setTop (mkF m 40 #[.val (.ref a), .val (.long qt), .second] [(.long qp), (.long (((qt - w) / qp) + (1 : Int64))), (.long w), (.ref a)]))
  refine own_step (fun _ κ => XS.lmul X6.here hx rfl (hb hby d9_40) rfl κ) ?_
  show own_Go _ _ _ _ (T6.setTop (mkF m 41 #[.val (.ref a), .val (.long qt), .second] [(.long ((((qt - w) / qp) + (1 : Int64)) * qp)), (.long w), (.ref a)]))
  refine own_step (fun _ κ => XS.ladd X6.here hx rfl (hb hby d9_41) rfl κ) ?_
  show own_Go _ _ _ _ (T6.setTop (mkF m 42 #[.val (.ref a), .val (.long qt), .second] [(.long (w + ((((qt - w) / qp) + (1 : Int64)) * qp))), (.ref a)]))
  obtain ⟨T7, h7, X7, e7, W7, st7⟩ := putF X6 hx hZ hown (host := "") (Or.inl (hw _ (List.mem_of_getElem? (i := 30) rfl))) Via.refl e6 P2 P0 (Or.inl (hw _ (List.mem_of_getElem? (i := 31) rfl))) (hw _ (List.mem_of_getElem? (i := 3) rfl)) (ty := .long) (by decide) rfl rfl (g := (mkF m 42 #[.val (.ref a), .val (.long qt), .second] [(.long (w + ((((qt - w) / qp) + (1 : Int64)) * qp))), (.ref a)])) rfl rfl (hb hby d9_42)
  refine own_step st7 ?_
  have N7 := Fr.snoc X7 N0 P3
  have Fw7 := P2.same W7
  have f8 := P0.wr W7
  have f9 := P1.other W7 (Or.inr (slot_ne (Or.inl (hw _ (List.mem_of_getElem? (i := 29) rfl))) (Or.inl (hw _ (List.mem_of_getElem? (i := 31) rfl))) (by decide) (t := .long) (t' := .long) (by decide) (by decide)))
  have K10 : Keep h0 h7 [a] := (Keep.refl h0 [a]).wr W7 (Or.inl (List.mem_of_getElem? (i := 0) rfl))
  have z11 : n0 ≤ h7.size := Nat.le_trans Z0 (Keep.of_wr W7).1
  show own_Go _ _ _ _ (T7.setTop (mkF m 45 #[.val (.ref a), .val (.long qt), .second] []))
  obtain ⟨fs, hr, hrun, hended, hW, hsame⟩ := X7.leave (v := none) (fun _ => rfl)
  refine ⟨_, _, X7.returnOut hx Bd.returns (hb hby d9_45) hr, hrun, hended, _, _, rfl, ?_, ⟨_, rfl⟩, hW, hsame.mono (by decide) (by decide)⟩
  show Q9 Z a qt qp w h0 n0 _ T7.heap _
  rw [e7]
  exact ⟨rfl, N7, K10, f8, f9, Fw7⟩
theorem d10_0 : decode prog_56_method_3_code 0 = .ok (.aload_n 0, 1) := by decide +kernel
theorem d10_1 : decode prog_56_method_3_code 1 = .ok (.getfield 12, 3) := by decide +kernel
theorem d10_4 : decode prog_56_method_3_code 4 = .ok (.lconst 0, 1) := by decide +kernel
theorem d10_5 : decode prog_56_method_3_code 5 = .ok (.lcmp, 1) := by decide +kernel
theorem d10_6 : decode prog_56_method_3_code 6 = .ok (.ifCond .le 7, 3) := by decide +kernel
theorem d10_9 : decode prog_56_method_3_code 9 = .ok (.iconst 1, 1) := by decide +kernel
theorem d10_10 : decode prog_56_method_3_code 10 = .ok (.goto 4, 3) := by decide +kernel
theorem d10_13 : decode prog_56_method_3_code 13 = .ok (.iconst 0, 1) := by decide +kernel
theorem d10_14 : decode prog_56_method_3_code 14 = .ok (.ireturn, 1) := by decide +kernel
theorem ef_10 (m : MethodId) (a : Addr) : entryFrame m #[(.ref a)] 1 = mkF m 0 #[.val (.ref a)] [] := by first | (simp [entryFrame, mkF, argsToLocals, Value.category]; done) | rfl
def Q10 (Z : State) (a : Addr) (qp : Int64) (h0 : Heap) (n0 : Nat) (v : Option Value) (h : Heap) (L : List Loc) : Prop := v = some (.int (if (0 : Int64) < qp then (1 : Int32) else (0 : Int32))) ∧ Fr n0 L ∧ h = h0
set_option maxRecDepth 65536 in
set_option maxHeartbeats 40000000 in
theorem rm10 (l : Launch) (Z : State) (a0 : Array Value) (hw : ∀ d ∈ tables_1, d.before a0 Z = true) (ws : List Jvm.Cond) (a : Addr) (qp : Int64) (h0 : Heap) (n0 : Nat) (Z0 : n0 ≤ h0.size) (P0 : Fld Z h0 a "com/example/lockstep/lockstep/session/Ticks" "periodMs" "J" (.long qp)) :
    MetFree l (⟨"com/example/lockstep/lockstep/session/Ticks", "asked", "()Z"⟩ : MethodName) (head1 (Jvm.Cond.code (⟨"com/example/lockstep/lockstep/session/Ticks", "asked", "()Z"⟩ : MethodName) prog_56_method_3_code 1 (some .boolean) :: ws) ({ frames := 0, cells := 0, slots := 0, locals := 0 } : Room)) (fun ar_ U => ar_ = #[(.ref a)] ∧ Z.Warmed39 U.vm ∧ U.heap = h0) (fun _ _ _ _ _ => True) (fun _ U oo_ U' => ∃ v L, oo_ = .returned v ∧ Q10 Z a qp h0 n0 v U'.heap L ∧ FrameEnd U oo_ U' L ({ frames := 0, cells := 0, slots := 0, locals := 0 } : Room).cells ({ frames := 0, cells := 0, slots := 0, locals := 0 } : Room).slots) := by
  refine MetFree.of_bodySF (plainFor_of_name pn_0) hisR ?_
  intro p e s m args below meth c s₁ Bd hml0 hP hK
  obtain ⟨rfl, hZ, hh⟩ := hP
  have hx := Bd.exec
  have hby := Bd.bytes
  have hml : c.maxLocals = 1 := hml0
  have hown : s.vm.findClass "com/example/lockstep/lockstep/session/Ticks" = some m.cls := findClass_of_methodNamed Bd.named
  have hnm := (name_of_methodNamed Bd.named Bd.method).1
  have X0 : Stand p l e ({ frames := 0, cells := 0, slots := 0, locals := 0 } : Room) s m #[(.ref a)] below meth c s₁ [] 0 0 := Stand.of_body Bd
  have e0 : s₁.heap = h0 := by rw [← hh, Bd.state]; rfl
  have N0 := Fr.nil n0
  refine own_in (castTop (ef_10 m a)) ?_
  show own_Go _ _ _ _ (s₁.setTop (mkF m 0 #[.val (.ref a)] []))
  refine own_step (fun _ κ => XS.aloadN X0.here hx rfl (hb hby d10_0) rfl rfl κ) ?_
  show own_Go _ _ _ _ (s₁.setTop (mkF m 1 #[.val (.ref a)] [(.ref a)]))
  obtain ⟨T1, X1, e1, st1⟩ := getF X0 hx hZ hown (host := "") (Or.inl (hw _ (List.mem_of_getElem? (i := 28) rfl))) Via.refl e0 P0 (g := (mkF m 1 #[.val (.ref a)] [(.ref a)])) rfl rfl (hb hby d10_1)
  refine own_step st1 ?_
  show own_Go _ _ _ _ (T1.setTop (mkF m 4 #[.val (.ref a)] [(.long qp)]))
  refine own_step (fun _ κ => XS.lconst X1.here hx rfl (hb hby d10_4) κ) ?_
  show own_Go _ _ _ _ (T1.setTop (mkF m 5 #[.val (.ref a)] [(.long (0 : Int64)), (.long qp)]))
  refine own_step (fun _ κ => XS.lcmp X1.here hx rfl (hb hby d10_5) rfl κ) ?_
  show own_Go _ _ _ _ (T1.setTop (mkF m 6 #[.val (.ref a)] [(.int (lcmpW qp (0 : Int64)))]))
  by_cases hc2 : (0 : Int64) < qp
  · refine own_step (fun _ κ => XS.ifNo X1.here hx rfl (hb hby d10_6) rfl ((if0 _ _).trans (tlt ((lw_gt _ _).mpr hc2)).2.2.2) κ) ?_
    show own_Go _ _ _ _ (T1.setTop (mkF m 9 #[.val (.ref a)] []))
    refine own_step (fun _ κ => XS.iconst X1.here hx rfl (hb hby d10_9) κ) ?_
    show own_Go _ _ _ _ (T1.setTop (mkF m 10 #[.val (.ref a)] [(.int (1 : Int32))]))
    refine own_step (fun _ κ => XS.goto X1.here hx rfl (pc0 := 10) (pc' := 14) rfl (hb hby d10_10) (by decide) (by decide) κ) ?_
    show own_Go _ _ _ _ (T1.setTop (mkF m 14 #[.val (.ref a)] [(.int (1 : Int32))]))
    obtain ⟨fs, hr, hrun, hended, hW, hsame⟩ := X1.leave (v := some (.int (1 : Int32))) (fun h => by rw [Bd.returns] at h; cases h)
    refine ⟨_, _, retN X1 hx (t := .boolean) Bd.returns (by simp) (hb hby d10_14) hr, hrun, hended, _, _, rfl, ?_, ⟨_, rfl⟩, hW, hsame.mono (by decide) (by decide)⟩
    show Q10 Z a qp h0 n0 _ T1.heap _
    rw [e1]
    exact ⟨(by rw [if_pos hc2]), N0, rfl⟩
  · refine own_step (fun _ κ => XS.ifYes X1.here hx rfl (pc0 := 6) (pc' := 13) rfl (hb hby d10_6) rfl ((if0 _ _).trans (flt (fun q => absurd ((lw_gt _ _).mp q) hc2)).2.2.2) (by decide) (by decide) κ) ?_
    show own_Go _ _ _ _ (T1.setTop (mkF m 13 #[.val (.ref a)] []))
    refine own_step (fun _ κ => XS.iconst X1.here hx rfl (hb hby d10_13) κ) ?_
    show own_Go _ _ _ _ (T1.setTop (mkF m 14 #[.val (.ref a)] [(.int (0 : Int32))]))
    obtain ⟨fs, hr, hrun, hended, hW, hsame⟩ := X1.leave (v := some (.int (0 : Int32))) (fun h => by rw [Bd.returns] at h; cases h)
    refine ⟨_, _, retN X1 hx (t := .boolean) Bd.returns (by simp) (hb hby d10_14) hr, hrun, hended, _, _, rfl, ?_, ⟨_, rfl⟩, hW, hsame.mono (by decide) (by decide)⟩
    show Q10 Z a qp h0 n0 _ T1.heap _
    rw [e1]
    exact ⟨(by rw [if_neg hc2]), N0, rfl⟩
theorem d11_0 : decode prog_56_method_4_code 0 = .ok (.aload_n 0, 1) := by decide +kernel
theorem d11_1 : decode prog_56_method_4_code 1 = .ok (.getfield 12, 3) := by decide +kernel
theorem d11_4 : decode prog_56_method_4_code 4 = .ok (.lconst 0, 1) := by decide +kernel
theorem d11_5 : decode prog_56_method_4_code 5 = .ok (.lcmp, 1) := by decide +kernel
theorem d11_6 : decode prog_56_method_4_code 6 = .ok (.ifCond .le 16, 3) := by decide +kernel
theorem d11_9 : decode prog_56_method_4_code 9 = .ok (.aload_n 0, 1) := by decide +kernel
theorem d11_10 : decode prog_56_method_4_code 10 = .ok (.getfield 16, 3) := by decide +kernel
theorem d11_13 : decode prog_56_method_4_code 13 = .ok (.lload_n 1, 1) := by decide +kernel
theorem d11_14 : decode prog_56_method_4_code 14 = .ok (.lcmp, 1) := by decide +kernel
theorem d11_15 : decode prog_56_method_4_code 15 = .ok (.ifCond .gt 7, 3) := by decide +kernel
theorem d11_18 : decode prog_56_method_4_code 18 = .ok (.iconst 1, 1) := by decide +kernel
theorem d11_19 : decode prog_56_method_4_code 19 = .ok (.goto 4, 3) := by decide +kernel
theorem d11_22 : decode prog_56_method_4_code 22 = .ok (.iconst 0, 1) := by decide +kernel
theorem d11_23 : decode prog_56_method_4_code 23 = .ok (.ireturn, 1) := by decide +kernel
theorem ef_11 (m : MethodId) (a : Addr) (qt : Int64) : entryFrame m #[(.ref a), (.long qt)] 3 = mkF m 0 #[.val (.ref a), .val (.long qt), .second] [] := by first | (simp [entryFrame, mkF, argsToLocals, Value.category]; done) | rfl
def Q11 (Z : State) (a : Addr) (qt : Int64) (qp : Int64) (w : Int64) (h0 : Heap) (n0 : Nat) (v : Option Value) (h : Heap) (L : List Loc) : Prop := v = some (.int (if (0 : Int64) < qp then (if qt < w then (0 : Int32) else (1 : Int32)) else (0 : Int32))) ∧ Fr n0 L ∧ h = h0
set_option maxRecDepth 65536 in
set_option maxHeartbeats 40000000 in
theorem rm11 (l : Launch) (Z : State) (a0 : Array Value) (hw : ∀ d ∈ tables_1, d.before a0 Z = true) (ws : List Jvm.Cond) (a : Addr) (qt : Int64) (qp : Int64) (w : Int64) (h0 : Heap) (n0 : Nat) (Z0 : n0 ≤ h0.size) (P0 : Fld Z h0 a "com/example/lockstep/lockstep/session/Ticks" "periodMs" "J" (.long qp)) (P1 : Fld Z h0 a "com/example/lockstep/lockstep/session/Ticks" "nextMs" "J" (.long w)) :
    MetFree l (⟨"com/example/lockstep/lockstep/session/Ticks", "due", "(J)Z"⟩ : MethodName) (head1 (Jvm.Cond.code (⟨"com/example/lockstep/lockstep/session/Ticks", "due", "(J)Z"⟩ : MethodName) prog_56_method_4_code 3 (some .boolean) :: ws) ({ frames := 0, cells := 0, slots := 0, locals := 0 } : Room)) (fun ar_ U => ar_ = #[(.ref a), (.long qt)] ∧ Z.Warmed39 U.vm ∧ U.heap = h0) (fun _ _ _ _ _ => True) (fun _ U oo_ U' => ∃ v L, oo_ = .returned v ∧ Q11 Z a qt qp w h0 n0 v U'.heap L ∧ FrameEnd U oo_ U' L ({ frames := 0, cells := 0, slots := 0, locals := 0 } : Room).cells ({ frames := 0, cells := 0, slots := 0, locals := 0 } : Room).slots) := by
  refine MetFree.of_bodySF (plainFor_of_name pn_0) hisR ?_
  intro p e s m args below meth c s₁ Bd hml0 hP hK
  obtain ⟨rfl, hZ, hh⟩ := hP
  have hx := Bd.exec
  have hby := Bd.bytes
  have hml : c.maxLocals = 3 := hml0
  have hown : s.vm.findClass "com/example/lockstep/lockstep/session/Ticks" = some m.cls := findClass_of_methodNamed Bd.named
  have hnm := (name_of_methodNamed Bd.named Bd.method).1
  have X0 : Stand p l e ({ frames := 0, cells := 0, slots := 0, locals := 0 } : Room) s m #[(.ref a), (.long qt)] below meth c s₁ [] 0 0 := Stand.of_body Bd
  have e0 : s₁.heap = h0 := by rw [← hh, Bd.state]; rfl
  have N0 := Fr.nil n0
  refine own_in (castTop (ef_11 m a qt)) ?_
  show own_Go _ _ _ _ (s₁.setTop (mkF m 0 #[.val (.ref a), .val (.long qt), .second] []))
  refine own_step (fun _ κ => XS.aloadN X0.here hx rfl (hb hby d11_0) rfl rfl κ) ?_
  show own_Go _ _ _ _ (s₁.setTop (mkF m 1 #[.val (.ref a), .val (.long qt), .second] [(.ref a)]))
  obtain ⟨T1, X1, e1, st1⟩ := getF X0 hx hZ hown (host := "") (Or.inl (hw _ (List.mem_of_getElem? (i := 28) rfl))) Via.refl e0 P0 (g := (mkF m 1 #[.val (.ref a), .val (.long qt), .second] [(.ref a)])) rfl rfl (hb hby d11_1)
  refine own_step st1 ?_
  show own_Go _ _ _ _ (T1.setTop (mkF m 4 #[.val (.ref a), .val (.long qt), .second] [(.long qp)]))
  refine own_step (fun _ κ => XS.lconst X1.here hx rfl (hb hby d11_4) κ) ?_
  show own_Go _ _ _ _ (T1.setTop (mkF m 5 #[.val (.ref a), .val (.long qt), .second] [(.long (0 : Int64)), (.long qp)]))
  refine own_step (fun _ κ => XS.lcmp X1.here hx rfl (hb hby d11_5) rfl κ) ?_
  show own_Go _ _ _ _ (T1.setTop (mkF m 6 #[.val (.ref a), .val (.long qt), .second] [(.int (lcmpW qp (0 : Int64)))]))
  by_cases hc2 : (0 : Int64) < qp
  · refine own_step (fun _ κ => XS.ifNo X1.here hx rfl (hb hby d11_6) rfl ((if0 _ _).trans (tlt ((lw_gt _ _).mpr hc2)).2.2.2) κ) ?_
    show own_Go _ _ _ _ (T1.setTop (mkF m 9 #[.val (.ref a), .val (.long qt), .second] []))
    refine own_step (fun _ κ => XS.aloadN X1.here hx rfl (hb hby d11_9) rfl rfl κ) ?_
    show own_Go _ _ _ _ (T1.setTop (mkF m 10 #[.val (.ref a), .val (.long qt), .second] [(.ref a)]))
    obtain ⟨T3, X3, e3, st3⟩ := getF X1 hx hZ hown (host := "") (Or.inl (hw _ (List.mem_of_getElem? (i := 30) rfl))) Via.refl e1 P1 (g := (mkF m 10 #[.val (.ref a), .val (.long qt), .second] [(.ref a)])) rfl rfl (hb hby d11_10)
    refine own_step st3 ?_
    show own_Go _ _ _ _ (T3.setTop (mkF m 13 #[.val (.ref a), .val (.long qt), .second] [(.long w)]))
    refine own_step (fun _ κ => XS.lloadN X3.here hx rfl (hb hby d11_13) rfl κ) ?_
    show own_Go _ _ _ _ (T3.setTop (mkF m 14 #[.val (.ref a), .val (.long qt), .second] [(.long qt), (.long w)]))
    refine own_step (fun _ κ => XS.lcmp X3.here hx rfl (hb hby d11_14) rfl κ) ?_
    show own_Go _ _ _ _ (T3.setTop (mkF m 15 #[.val (.ref a), .val (.long qt), .second] [(.int (lcmpW w qt))]))
    by_cases hc4 : qt < w
    · refine own_step (fun _ κ => XS.ifYes X3.here hx rfl (pc0 := 15) (pc' := 22) rfl (hb hby d11_15) rfl ((if0 _ _).trans (tlt ((lw_gt _ _).mpr hc4)).2.2.1) (by decide) (by decide) κ) ?_
      show own_Go _ _ _ _ (T3.setTop (mkF m 22 #[.val (.ref a), .val (.long qt), .second] []))
      refine own_step (fun _ κ => XS.iconst X3.here hx rfl (hb hby d11_22) κ) ?_
      show own_Go _ _ _ _ (T3.setTop (mkF m 23 #[.val (.ref a), .val (.long qt), .second] [(.int (0 : Int32))]))
      obtain ⟨fs, hr, hrun, hended, hW, hsame⟩ := X3.leave (v := some (.int (0 : Int32))) (fun h => by rw [Bd.returns] at h; cases h)
      refine ⟨_, _, retN X3 hx (t := .boolean) Bd.returns (by simp) (hb hby d11_23) hr, hrun, hended, _, _, rfl, ?_, ⟨_, rfl⟩, hW, hsame.mono (by decide) (by decide)⟩
      show Q11 Z a qt qp w h0 n0 _ T3.heap _
      rw [e3]
      exact ⟨(by rw [if_pos hc2, if_pos hc4]), N0, rfl⟩
    · refine own_step (fun _ κ => XS.ifNo X3.here hx rfl (hb hby d11_15) rfl ((if0 _ _).trans (flt (fun q => absurd ((lw_gt _ _).mp q) hc4)).2.2.1) κ) ?_
      show own_Go _ _ _ _ (T3.setTop (mkF m 18 #[.val (.ref a), .val (.long qt), .second] []))
      refine own_step (fun _ κ => XS.iconst X3.here hx rfl (hb hby d11_18) κ) ?_
      show own_Go _ _ _ _ (T3.setTop (mkF m 19 #[.val (.ref a), .val (.long qt), .second] [(.int (1 : Int32))]))
      refine own_step (fun _ κ => XS.goto X3.here hx rfl (pc0 := 19) (pc' := 23) rfl (hb hby d11_19) (by decide) (by decide) κ) ?_
      show own_Go _ _ _ _ (T3.setTop (mkF m 23 #[.val (.ref a), .val (.long qt), .second] [(.int (1 : Int32))]))
      obtain ⟨fs, hr, hrun, hended, hW, hsame⟩ := X3.leave (v := some (.int (1 : Int32))) (fun h => by rw [Bd.returns] at h; cases h)
      refine ⟨_, _, retN X3 hx (t := .boolean) Bd.returns (by simp) (hb hby d11_23) hr, hrun, hended, _, _, rfl, ?_, ⟨_, rfl⟩, hW, hsame.mono (by decide) (by decide)⟩
      show Q11 Z a qt qp w h0 n0 _ T3.heap _
      rw [e3]
      exact ⟨(by rw [if_pos hc2, if_neg hc4]), N0, rfl⟩
  · refine own_step (fun _ κ => XS.ifYes X1.here hx rfl (pc0 := 6) (pc' := 22) rfl (hb hby d11_6) rfl ((if0 _ _).trans (flt (fun q => absurd ((lw_gt _ _).mp q) hc2)).2.2.2) (by decide) (by decide) κ) ?_
    show own_Go _ _ _ _ (T1.setTop (mkF m 22 #[.val (.ref a), .val (.long qt), .second] []))
    refine own_step (fun _ κ => XS.iconst X1.here hx rfl (hb hby d11_22) κ) ?_
    show own_Go _ _ _ _ (T1.setTop (mkF m 23 #[.val (.ref a), .val (.long qt), .second] [(.int (0 : Int32))]))
    obtain ⟨fs, hr, hrun, hended, hW, hsame⟩ := X1.leave (v := some (.int (0 : Int32))) (fun h => by rw [Bd.returns] at h; cases h)
    refine ⟨_, _, retN X1 hx (t := .boolean) Bd.returns (by simp) (hb hby d11_23) hr, hrun, hended, _, _, rfl, ?_, ⟨_, rfl⟩, hW, hsame.mono (by decide) (by decide)⟩
    show Q11 Z a qt qp w h0 n0 _ T1.heap _
    rw [e1]
    exact ⟨(by rw [if_neg hc2]), N0, rfl⟩
theorem ef_0 (m : MethodId) (q0 : Int64) (q1 : Int64) (q2 : Int64) (p3 : Int32) (p4 : Int32) : entryFrame m #[(.long q0), (.long q1), (.long q2), (.int p3), (.int p4)] maxLocals = mkF m 0 #[.val (.long q0), .second, .val (.long q1), .second, .val (.long q2), .second, .val (.int p3), .val (.int p4), .unset, .unset, .unset, .unset, .unset, .unset, .unset, .unset, .unset, .unset, .unset, .unset, .unset, .unset, .unset] [] := by first | (simp [entryFrame, mkF, argsToLocals, Value.category, maxLocals]; done) | rfl
def Q0 (Z : State) (q0 : Int64) (q1 : Int64) (q2 : Int64) (p3 : Int32) (p4 : Int32) (h0 : Heap) (n0 : Nat) (v : Option Value) (h : Heap) (L : List Loc) : Prop := v = some (.int (1 : Int32)) ∧ Fr n0 L
set_option maxRecDepth 65536 in
set_option maxHeartbeats 40000000 in
theorem rm0 (l : Launch) (Z : State) (a0 : Array Value) (hw : ∀ d ∈ tables_1, d.before a0 Z = true) (ws : List Jvm.Cond) (q0 : Int64) (q1 : Int64) (q2 : Int64) (p3 : Int32) (p4 : Int32) (h0 : Heap) (n0 : Nat) (Z0 : n0 ≤ h0.size)  :
    MetFree l x (head1 (Jvm.Cond.code x code maxLocals ret :: ws) room_1) (fun ar_ U => ar_ = #[(.long q0), (.long q1), (.long q2), (.int p3), (.int p4)] ∧ Z.Warmed39 U.vm ∧ U.heap = h0) (fun _ _ _ _ _ => True) (fun _ U oo_ U' => ∃ v L, oo_ = .returned v ∧ Q0 Z q0 q1 q2 p3 p4  h0 n0 v U'.heap L ∧ FrameEnd U oo_ U' L room_1.cells room_1.slots) := by
  refine MetFree.of_bodySF (plainFor_of_name pn_1) hisR ?_
  intro p e s m args below meth c s₁ Bd hml0 hP hK
  obtain ⟨rfl, hZ, hh⟩ := hP
  have hx := Bd.exec
  have hby := Bd.bytes
  have hml : c.maxLocals = 23 := hml0
  have hown : s.vm.findClass "com/example/lockstep/lockstep/session/TicksSkipThroughPinLaw" = some m.cls := findClass_of_methodNamed Bd.named
  have hnm := (name_of_methodNamed Bd.named Bd.method).1
  have X0 : Stand p l e room_1 s m #[(.long q0), (.long q1), (.long q2), (.int p3), (.int p4)] below meth c s₁ [] 0 0 := Stand.of_body Bd
  have e0 : s₁.heap = h0 := by rw [← hh, Bd.state]; rfl
  have N0 := Fr.nil n0
  refine own_in (castTop (ef_0 m q0 q1 q2 p3 p4)) ?_
  show own_Go _ _ _ _ (s₁.setTop (mkF m 0 #[.val (.long q0), .second, .val (.long q1), .second, .val (.long q2), .second, .val (.int p3), .val (.int p4), .unset, .unset, .unset, .unset, .unset, .unset, .unset, .unset, .unset, .unset, .unset, .unset, .unset, .unset, .unset] []))
  refine own_join (α := Int64) X0 e0 (fun T' per => T'.setTop (mkF m 20 #[.val (.long q0), .second, .val (.long q1), .second, .val (.long q2), .second, .val (.int p3), .val (.int p4), .unset, .unset, .unset, .unset, .unset, .unset, .unset, .unset, .unset, .unset, .unset, .unset, .unset, .unset, .unset] [(.long per)])) (fun per => 0 ≤ per.toInt ∧ per.toInt < 1099511627776) ?_ ?_
  · intro T1 per X1 e1 pr1
    show own_Go _ _ _ _ (T1.setTop (mkF m 20 #[.val (.long q0), .second, .val (.long q1), .second, .val (.long q2), .second, .val (.int p3), .val (.int p4), .unset, .unset, .unset, .unset, .unset, .unset, .unset, .unset, .unset, .unset, .unset, .unset, .unset, .unset, .unset] [(.long per)]))
    refine own_step (fun _ κ => XS.lstore X1.here hx rfl (hb hby at_20) rfl (l' := #[.val (.long q0), .second, .val (.long q1), .second, .val (.long q2), .second, .val (.int p3), .val (.int p4), .val (.long per), .second, .unset, .unset, .unset, .unset, .unset, .unset, .unset, .unset, .unset, .unset, .unset, .unset, .unset]) rfl κ) ?_
    show own_Go _ _ _ _ (T1.setTop (mkF m 22 #[.val (.long q0), .second, .val (.long q1), .second, .val (.long q2), .second, .val (.int p3), .val (.int p4), .val (.long per), .second, .unset, .unset, .unset, .unset, .unset, .unset, .unset, .unset, .unset, .unset, .unset, .unset, .unset] []))
    refine own_step (fun _ κ => XS.lloadN X1.here hx rfl (hb hby at_22) rfl κ) ?_
    show own_Go _ _ _ _ (T1.setTop (mkF m 23 #[.val (.long q0), .second, .val (.long q1), .second, .val (.long q2), .second, .val (.int p3), .val (.int p4), .val (.long per), .second, .unset, .unset, .unset, .unset, .unset, .unset, .unset, .unset, .unset, .unset, .unset, .unset, .unset] [(.long q0)]))
    refine own_step (fun _ κ => X1.ldc2Long hx hown (mvT hZ (hw _ (List.mem_of_getElem? (i := 1) rfl))) (g := (mkF m 23 #[.val (.long q0), .second, .val (.long q1), .second, .val (.long q2), .second, .val (.int p3), .val (.int p4), .val (.long per), .second, .unset, .unset, .unset, .unset, .unset, .unset, .unset, .unset, .unset, .unset, .unset, .unset, .unset] [(.long q0)])) rfl (hb hby at_23) _ κ) ?_
    show own_Go _ _ _ _ (T1.setTop (mkF m 26 #[.val (.long q0), .second, .val (.long q1), .second, .val (.long q2), .second, .val (.int p3), .val (.int p4), .val (.long per), .second, .unset, .unset, .unset, .unset, .unset, .unset, .unset, .unset, .unset, .unset, .unset, .unset, .unset] [(.long (1152921504606846975 : Int64)), (.long q0)]))
    refine own_step (fun _ κ => XS.land X1.here hx rfl (hb hby at_26) rfl κ) ?_
    show own_Go _ _ _ _ (T1.setTop (mkF m 27 #[.val (.long q0), .second, .val (.long q1), .second, .val (.long q2), .second, .val (.int p3), .val (.int p4), .val (.long per), .second, .unset, .unset, .unset, .unset, .unset, .unset, .unset, .unset, .unset, .unset, .unset, .unset, .unset] [(.long (q0 &&& (1152921504606846975 : Int64)))]))
    refine own_step (fun _ κ => XS.lstore X1.here hx rfl (hb hby at_27) rfl (l' := #[.val (.long q0), .second, .val (.long q1), .second, .val (.long q2), .second, .val (.int p3), .val (.int p4), .val (.long per), .second, .val (.long (q0 &&& (1152921504606846975 : Int64))), .second, .unset, .unset, .unset, .unset, .unset, .unset, .unset, .unset, .unset, .unset, .unset]) rfl κ) ?_
    show own_Go _ _ _ _ (T1.setTop (mkF m 29 #[.val (.long q0), .second, .val (.long q1), .second, .val (.long q2), .second, .val (.int p3), .val (.int p4), .val (.long per), .second, .val (.long (q0 &&& (1152921504606846975 : Int64))), .second, .unset, .unset, .unset, .unset, .unset, .unset, .unset, .unset, .unset, .unset, .unset] []))
    refine own_join (α := Int64) X1 e1 (fun T' dt => T'.setTop (mkF m 69 #[.val (.long q0), .second, .val (.long q1), .second, .val (.long q2), .second, .val (.int p3), .val (.int p4), .val (.long per), .second, .val (.long (q0 &&& (1152921504606846975 : Int64))), .second, .val (.long dt), .second, .unset, .unset, .unset, .unset, .unset, .unset, .unset, .unset, .unset] [])) (fun dt => -512 ≤ dt.toInt ∧ dt.toInt < 2305843009213693952) ?_ ?_
    · intro T2 dt X2 e2 pr2
      show own_Go _ _ _ _ (T2.setTop (mkF m 69 #[.val (.long q0), .second, .val (.long q1), .second, .val (.long q2), .second, .val (.int p3), .val (.int p4), .val (.long per), .second, .val (.long (q0 &&& (1152921504606846975 : Int64))), .second, .val (.long dt), .second, .unset, .unset, .unset, .unset, .unset, .unset, .unset, .unset, .unset] []))
      refine own_step (fun _ κ => XS.lload X2.here hx rfl (hb hby at_69) rfl κ) ?_
      show own_Go _ _ _ _ (T2.setTop (mkF m 71 #[.val (.long q0), .second, .val (.long q1), .second, .val (.long q2), .second, .val (.int p3), .val (.int p4), .val (.long per), .second, .val (.long (q0 &&& (1152921504606846975 : Int64))), .second, .val (.long dt), .second, .unset, .unset, .unset, .unset, .unset, .unset, .unset, .unset, .unset] [(.long (q0 &&& (1152921504606846975 : Int64)))]))
      refine own_step (fun _ κ => XS.lload X2.here hx rfl (hb hby at_71) rfl κ) ?_
      show own_Go _ _ _ _ (T2.setTop (mkF m 73 #[.val (.long q0), .second, .val (.long q1), .second, .val (.long q2), .second, .val (.int p3), .val (.int p4), .val (.long per), .second, .val (.long (q0 &&& (1152921504606846975 : Int64))), .second, .val (.long dt), .second, .unset, .unset, .unset, .unset, .unset, .unset, .unset, .unset, .unset] [(.long dt), (.long (q0 &&& (1152921504606846975 : Int64)))]))
      refine own_step (fun _ κ => XS.ladd X2.here hx rfl (hb hby at_73) rfl κ) ?_
      show own_Go _ _ _ _ (T2.setTop (mkF m 74 #[.val (.long q0), .second, .val (.long q1), .second, .val (.long q2), .second, .val (.int p3), .val (.int p4), .val (.long per), .second, .val (.long (q0 &&& (1152921504606846975 : Int64))), .second, .val (.long dt), .second, .unset, .unset, .unset, .unset, .unset, .unset, .unset, .unset, .unset] [(.long ((q0 &&& (1152921504606846975 : Int64)) + dt))]))
      refine own_step (fun _ κ => XS.lstore X2.here hx rfl (hb hby at_74) rfl (l' := #[.val (.long q0), .second, .val (.long q1), .second, .val (.long q2), .second, .val (.int p3), .val (.int p4), .val (.long per), .second, .val (.long (q0 &&& (1152921504606846975 : Int64))), .second, .val (.long dt), .second, .val (.long ((q0 &&& (1152921504606846975 : Int64)) + dt)), .second, .unset, .unset, .unset, .unset, .unset, .unset, .unset]) rfl κ) ?_
      show own_Go _ _ _ _ (T2.setTop (mkF m 76 #[.val (.long q0), .second, .val (.long q1), .second, .val (.long q2), .second, .val (.int p3), .val (.int p4), .val (.long per), .second, .val (.long (q0 &&& (1152921504606846975 : Int64))), .second, .val (.long dt), .second, .val (.long ((q0 &&& (1152921504606846975 : Int64)) + dt)), .second, .unset, .unset, .unset, .unset, .unset, .unset, .unset] []))
      by_cases hc3 : (0 : Int64) < per
      · show own_Go _ _ _ _ (T2.setTop (mkF m 76 #[.val (.long q0), .second, .val (.long q1), .second, .val (.long q2), .second, .val (.int p3), .val (.int p4), .val (.long per), .second, .val (.long (q0 &&& (1152921504606846975 : Int64))), .second, .val (.long dt), .second, .val (.long ((q0 &&& (1152921504606846975 : Int64)) + dt)), .second, .unset, .unset, .unset, .unset, .unset, .unset, .unset] []))
        obtain ⟨T4, h4, X4, e4, E4, A4, D4, U4, st4⟩ := newO X2 hx hZ hown (hw _ (List.mem_of_getElem? (i := 2) rfl)) (hw _ (List.mem_of_getElem? (i := 3) rfl)) (hw _ (List.mem_of_getElem? (i := 4) rfl)) e2 (g := (mkF m 76 #[.val (.long q0), .second, .val (.long q1), .second, .val (.long q2), .second, .val (.int p3), .val (.int p4), .val (.long per), .second, .val (.long (q0 &&& (1152921504606846975 : Int64))), .second, .val (.long dt), .second, .val (.long ((q0 &&& (1152921504606846975 : Int64)) + dt)), .second, .unset, .unset, .unset, .unset, .unset, .unset, .unset] [])) rfl (hb hby at_76) (by decide) (by decide)
        obtain ⟨b4, g4⟩ : ∃ z, z = h0.size := ⟨_, rfl⟩
        rw [← g4] at A4 D4 U4 st4
        refine own_step st4 ?_
        have ge5 : n0 ≤ b4 := Nat.le_trans Z0 (Nat.le_of_eq g4.symm)
        have z6 : n0 ≤ h4.size := Nat.le_trans Z0 E4.1
        have F4_timer : Fld Z h4 b4 "com/example/lockstep/lockstep/session/Ticks" "timer" "Lcom/example/lockstep/lockstep/session/Timers$Timer;" .null := D4 (Or.inl (hw _ (List.mem_of_getElem? (i := 27) rfl))) (ty := (.object "com/example/lockstep/lockstep/session/Timers$Timer")) (by decide)
        have F4_periodMs : Fld Z h4 b4 "com/example/lockstep/lockstep/session/Ticks" "periodMs" "J" (.long (0 : Int64)) := D4 (Or.inl (hw _ (List.mem_of_getElem? (i := 29) rfl))) (ty := .long) (by decide)
        have F4_nextMs : Fld Z h4 b4 "com/example/lockstep/lockstep/session/Ticks" "nextMs" "J" (.long (0 : Int64)) := D4 (Or.inl (hw _ (List.mem_of_getElem? (i := 31) rfl))) (ty := .long) (by decide)
        show own_Go _ _ _ _ (T4.setTop (mkF m 79 #[.val (.long q0), .second, .val (.long q1), .second, .val (.long q2), .second, .val (.int p3), .val (.int p4), .val (.long per), .second, .val (.long (q0 &&& (1152921504606846975 : Int64))), .second, .val (.long dt), .second, .val (.long ((q0 &&& (1152921504606846975 : Int64)) + dt)), .second, .unset, .unset, .unset, .unset, .unset, .unset, .unset] [(.ref b4)]))
        refine own_step (fun _ κ => XS.dup X4.here hx rfl (hb hby at_79) rfl rfl κ) ?_
        show own_Go _ _ _ _ (T4.setTop (mkF m 80 #[.val (.long q0), .second, .val (.long q1), .second, .val (.long q2), .second, .val (.int p3), .val (.int p4), .val (.long per), .second, .val (.long (q0 &&& (1152921504606846975 : Int64))), .second, .val (.long dt), .second, .val (.long ((q0 &&& (1152921504606846975 : Int64)) + dt)), .second, .unset, .unset, .unset, .unset, .unset, .unset, .unset] [(.ref b4), (.ref b4)]))
        obtain ⟨vr7, _, ⟨T7, L7, k7, n7⟩, -, X7, ⟨Lc7, hQ7, l7, y7, z7⟩, st7⟩ := X4.specialBack hx (y := (⟨"com/example/lockstep/lockstep/session/Ticks", "<init>", "()V"⟩ : MethodName)) rfl hown (mvT hZ (hw _ (List.mem_of_getElem? (i := 5) rfl))) (mvT hZ (hw _ (List.mem_of_getElem? (i := 6) rfl))) (mvT hZ (hw _ (List.mem_of_getElem? (i := 7) rfl))) (by decide) (backOf (W := 1) (rm1 l Z a0 hw [] b4  h4 n0 z6 ) hZ (hw _ (List.mem_of_getElem? (i := 7) rfl)) (hw _ (List.mem_of_getElem? (i := 4) rfl)) (by decide) (by decide)) (g := (mkF m 80 #[.val (.long q0), .second, .val (.long q1), .second, .val (.long q2), .second, .val (.int p3), .val (.int p4), .val (.long per), .second, .val (.long (q0 &&& (1152921504606846975 : Int64))), .second, .val (.long dt), .second, .val (.long ((q0 &&& (1152921504606846975 : Int64)) + dt)), .second, .unset, .unset, .unset, .unset, .unset, .unset, .unset] [(.ref b4), (.ref b4)])) rfl (by rw [hml]; rfl) (Steps.refl _) (a := b4) (argsL := []) (rest := [(.ref b4)]) (lenOf pd_0 rfl) rfl (by show 2 * 0 + _ ≤ _; exact Nat.le_of_eq rfl) (hb hby at_80) (fun _ _ => ⟨rfl, e4, (by decide : 1 + 0 ≤ _), (by decide : 3 + 0 ≤ _)⟩)
        dsimp only [Pt.U, Pt.locs, Pt.cells, Pt.slots] at X7 l7 y7 z7 st7 hQ7
        subst l7 y7 z7
        obtain ⟨rfl, Nq7, eq7⟩ := hQ7
        have N7 := Fr.app N0 Nq7
        refine own_step (fun _ κ => st7.trans κ) ?_
        show own_Go _ _ _ _ (T7.setTop (mkF m 83 #[.val (.long q0), .second, .val (.long q1), .second, .val (.long q2), .second, .val (.int p3), .val (.int p4), .val (.long per), .second, .val (.long (q0 &&& (1152921504606846975 : Int64))), .second, .val (.long dt), .second, .val (.long ((q0 &&& (1152921504606846975 : Int64)) + dt)), .second, .unset, .unset, .unset, .unset, .unset, .unset, .unset] [(.ref b4)]))
        refine own_step (fun _ κ => XS.astore X7.here hx rfl (hb hby at_83) rfl rfl (l' := #[.val (.long q0), .second, .val (.long q1), .second, .val (.long q2), .second, .val (.int p3), .val (.int p4), .val (.long per), .second, .val (.long (q0 &&& (1152921504606846975 : Int64))), .second, .val (.long dt), .second, .val (.long ((q0 &&& (1152921504606846975 : Int64)) + dt)), .second, .val (.ref b4), .unset, .unset, .unset, .unset, .unset, .unset]) rfl κ) ?_
        show own_Go _ _ _ _ (T7.setTop (mkF m 85 #[.val (.long q0), .second, .val (.long q1), .second, .val (.long q2), .second, .val (.int p3), .val (.int p4), .val (.long per), .second, .val (.long (q0 &&& (1152921504606846975 : Int64))), .second, .val (.long dt), .second, .val (.long ((q0 &&& (1152921504606846975 : Int64)) + dt)), .second, .val (.ref b4), .unset, .unset, .unset, .unset, .unset, .unset] []))
        refine own_step (fun _ κ => XS.aload X7.here hx rfl (hb hby at_85) rfl rfl κ) ?_
        show own_Go _ _ _ _ (T7.setTop (mkF m 87 #[.val (.long q0), .second, .val (.long q1), .second, .val (.long q2), .second, .val (.int p3), .val (.int p4), .val (.long per), .second, .val (.long (q0 &&& (1152921504606846975 : Int64))), .second, .val (.long dt), .second, .val (.long ((q0 &&& (1152921504606846975 : Int64)) + dt)), .second, .val (.ref b4), .unset, .unset, .unset, .unset, .unset, .unset] [(.ref b4)]))
        refine own_step (fun _ κ => XS.lload X7.here hx rfl (hb hby at_87) rfl κ) ?_
        show own_Go _ _ _ _ (T7.setTop (mkF m 89 #[.val (.long q0), .second, .val (.long q1), .second, .val (.long q2), .second, .val (.int p3), .val (.int p4), .val (.long per), .second, .val (.long (q0 &&& (1152921504606846975 : Int64))), .second, .val (.long dt), .second, .val (.long ((q0 &&& (1152921504606846975 : Int64)) + dt)), .second, .val (.ref b4), .unset, .unset, .unset, .unset, .unset, .unset] [(.long per), (.ref b4)]))
        refine own_step (fun _ κ => XS.lload X7.here hx rfl (hb hby at_89) rfl κ) ?_
        show own_Go _ _ _ _ (T7.setTop (mkF m 91 #[.val (.long q0), .second, .val (.long q1), .second, .val (.long q2), .second, .val (.int p3), .val (.int p4), .val (.long per), .second, .val (.long (q0 &&& (1152921504606846975 : Int64))), .second, .val (.long dt), .second, .val (.long ((q0 &&& (1152921504606846975 : Int64)) + dt)), .second, .val (.ref b4), .unset, .unset, .unset, .unset, .unset, .unset] [(.long (q0 &&& (1152921504606846975 : Int64))), (.long per), (.ref b4)]))
        obtain ⟨cq8, kq8, q8a, q8b, q8c⟩ := isOf hZ eq7 A4
        obtain ⟨vr8, _, ⟨T8, L8, k8, n8⟩, -, X8, ⟨Lc8, hQ8, l8, y8, z8⟩, st8⟩ := X7.virtualBack hx (y := (⟨"com/example/lockstep/lockstep/session/Ticks", "start", "(JJ)V"⟩ : MethodName)) (z := (⟨"com/example/lockstep/lockstep/session/Ticks", "start", "(JJ)V"⟩ : MethodName)) hown (mvT hZ (hw _ (List.mem_of_getElem? (i := 11) rfl))) (mvT hZ (hw _ (List.mem_of_getElem? (i := 12) rfl))) (notFace_of_selects (args := #[]) (mvT hZ (hw _ (List.mem_of_getElem? (i := 14) rfl)))) (mvT hZ (hw _ (List.mem_of_getElem? (i := 14) rfl))) (mvT hZ (hw _ (List.mem_of_getElem? (i := 13) rfl))) (by decide) (backOf (W := 0) (rm5 l Z a0 hw [] b4 per (q0 &&& (1152921504606846975 : Int64)) (0 : Int64) (0 : Int64) h4 n0 z6 A4 F4_timer F4_periodMs F4_nextMs ge5 hc3) hZ (hw _ (List.mem_of_getElem? (i := 15) rfl)) (hw _ (List.mem_of_getElem? (i := 4) rfl)) (by decide) (by decide)) q8a q8c (g := (mkF m 91 #[.val (.long q0), .second, .val (.long q1), .second, .val (.long q2), .second, .val (.int p3), .val (.int p4), .val (.long per), .second, .val (.long (q0 &&& (1152921504606846975 : Int64))), .second, .val (.long dt), .second, .val (.long ((q0 &&& (1152921504606846975 : Int64)) + dt)), .second, .val (.ref b4), .unset, .unset, .unset, .unset, .unset, .unset] [(.long (q0 &&& (1152921504606846975 : Int64))), (.long per), (.ref b4)])) rfl (by rw [hml]; rfl) (Steps.refl _) (argsL := [(.long per), (.long (q0 &&& (1152921504606846975 : Int64)))]) (rest := []) (lenOf pd_1 rfl) rfl (by show 2 * 0 + _ ≤ _; exact Nat.le_of_eq rfl) (hb hby at_91) (fun _ _ => ⟨rfl, eq7, (by decide : 1 + 0 ≤ _), (by decide : 3 + 0 ≤ _)⟩)
        dsimp only [Pt.U, Pt.locs, Pt.cells, Pt.slots] at X8 l8 y8 z8 st8 hQ8
        subst l8 y8 z8
        obtain ⟨rfl, Nq8, Kq8, p8_0, p8_1, p8_2, p8_3⟩ := hQ8
        have N8 := Fr.app N7 Nq8
        have f9 := A4.keep Kq8
        have z10 : n0 ≤ T8.heap.size := Nat.le_trans z6 Kq8.1
        refine own_step (fun _ κ => st8.trans κ) ?_
        show own_Go _ _ _ _ (T8.setTop (mkF m 94 #[.val (.long q0), .second, .val (.long q1), .second, .val (.long q2), .second, .val (.int p3), .val (.int p4), .val (.long per), .second, .val (.long (q0 &&& (1152921504606846975 : Int64))), .second, .val (.long dt), .second, .val (.long ((q0 &&& (1152921504606846975 : Int64)) + dt)), .second, .val (.ref b4), .unset, .unset, .unset, .unset, .unset, .unset] []))
        refine own_step (fun _ κ => XS.aload X8.here hx rfl (hb hby at_94) rfl rfl κ) ?_
        show own_Go _ _ _ _ (T8.setTop (mkF m 96 #[.val (.long q0), .second, .val (.long q1), .second, .val (.long q2), .second, .val (.int p3), .val (.int p4), .val (.long per), .second, .val (.long (q0 &&& (1152921504606846975 : Int64))), .second, .val (.long dt), .second, .val (.long ((q0 &&& (1152921504606846975 : Int64)) + dt)), .second, .val (.ref b4), .unset, .unset, .unset, .unset, .unset, .unset] [(.ref b4)]))
        obtain ⟨cq11, kq11, q11a, q11b, q11c⟩ := isOf hZ rfl p8_0
        obtain ⟨vr11, _, ⟨T11, L11, k11, n11⟩, -, X11, ⟨Lc11, hQ11, l11, y11, z11⟩, st11⟩ := X8.virtualBack hx (y := (⟨"com/example/lockstep/lockstep/session/Ticks", "nextMs", "()J"⟩ : MethodName)) (z := (⟨"com/example/lockstep/lockstep/session/Ticks", "nextMs", "()J"⟩ : MethodName)) hown (mvT hZ (hw _ (List.mem_of_getElem? (i := 32) rfl))) (mvT hZ (hw _ (List.mem_of_getElem? (i := 33) rfl))) (notFace_of_selects (args := #[]) (mvT hZ (hw _ (List.mem_of_getElem? (i := 35) rfl)))) (mvT hZ (hw _ (List.mem_of_getElem? (i := 35) rfl))) (mvT hZ (hw _ (List.mem_of_getElem? (i := 34) rfl))) (by decide) (backOf (W := 0) (rm6 l Z a0 hw [] b4 ((q0 &&& (1152921504606846975 : Int64)) + per) T8.heap n0 z10 p8_3) hZ (hw _ (List.mem_of_getElem? (i := 36) rfl)) (hw _ (List.mem_of_getElem? (i := 4) rfl)) (by decide) (by decide)) q11a q11c (g := (mkF m 96 #[.val (.long q0), .second, .val (.long q1), .second, .val (.long q2), .second, .val (.int p3), .val (.int p4), .val (.long per), .second, .val (.long (q0 &&& (1152921504606846975 : Int64))), .second, .val (.long dt), .second, .val (.long ((q0 &&& (1152921504606846975 : Int64)) + dt)), .second, .val (.ref b4), .unset, .unset, .unset, .unset, .unset, .unset] [(.ref b4)])) rfl (by rw [hml]; rfl) (Steps.refl _) (argsL := []) (rest := []) (lenOf pd_2 rfl) rfl (by show 2 * 0 + _ ≤ _; exact Nat.le_of_eq rfl) (hb hby at_96) (fun _ _ => ⟨rfl, rfl, (by decide : 1 + 0 ≤ _), (by decide : 3 + 0 ≤ _)⟩)
        dsimp only [Pt.U, Pt.locs, Pt.cells, Pt.slots] at X11 l11 y11 z11 st11 hQ11
        subst l11 y11 z11
        obtain ⟨rfl, Nq11, eq11⟩ := hQ11
        have N11 := Fr.app N8 Nq11
        refine own_step (fun _ κ => st11.trans κ) ?_
        show own_Go _ _ _ _ (T11.setTop (mkF m 99 #[.val (.long q0), .second, .val (.long q1), .second, .val (.long q2), .second, .val (.int p3), .val (.int p4), .val (.long per), .second, .val (.long (q0 &&& (1152921504606846975 : Int64))), .second, .val (.long dt), .second, .val (.long ((q0 &&& (1152921504606846975 : Int64)) + dt)), .second, .val (.ref b4), .unset, .unset, .unset, .unset, .unset, .unset] [(.long ((q0 &&& (1152921504606846975 : Int64)) + per))]))
        refine own_step (fun _ κ => XS.lstore X11.here hx rfl (hb hby at_99) rfl (l' := #[.val (.long q0), .second, .val (.long q1), .second, .val (.long q2), .second, .val (.int p3), .val (.int p4), .val (.long per), .second, .val (.long (q0 &&& (1152921504606846975 : Int64))), .second, .val (.long dt), .second, .val (.long ((q0 &&& (1152921504606846975 : Int64)) + dt)), .second, .val (.ref b4), .val (.long ((q0 &&& (1152921504606846975 : Int64)) + per)), .second, .unset, .unset, .unset, .unset]) rfl κ) ?_
        show own_Go _ _ _ _ (T11.setTop (mkF m 101 #[.val (.long q0), .second, .val (.long q1), .second, .val (.long q2), .second, .val (.int p3), .val (.int p4), .val (.long per), .second, .val (.long (q0 &&& (1152921504606846975 : Int64))), .second, .val (.long dt), .second, .val (.long ((q0 &&& (1152921504606846975 : Int64)) + dt)), .second, .val (.ref b4), .val (.long ((q0 &&& (1152921504606846975 : Int64)) + per)), .second, .unset, .unset, .unset, .unset] []))
        by_cases hc12 : ((q0 &&& (1152921504606846975 : Int64)) + dt) < ((q0 &&& (1152921504606846975 : Int64)) + per)
        · show own_Go _ _ _ _ (T11.setTop (mkF m 101 #[.val (.long q0), .second, .val (.long q1), .second, .val (.long q2), .second, .val (.int p3), .val (.int p4), .val (.long per), .second, .val (.long (q0 &&& (1152921504606846975 : Int64))), .second, .val (.long dt), .second, .val (.long ((q0 &&& (1152921504606846975 : Int64)) + dt)), .second, .val (.ref b4), .val (.long ((q0 &&& (1152921504606846975 : Int64)) + per)), .second, .unset, .unset, .unset, .unset] []))
          refine own_step (fun _ κ => XS.aload X11.here hx rfl (hb hby at_101) rfl rfl κ) ?_
          show own_Go _ _ _ _ (T11.setTop (mkF m 103 #[.val (.long q0), .second, .val (.long q1), .second, .val (.long q2), .second, .val (.int p3), .val (.int p4), .val (.long per), .second, .val (.long (q0 &&& (1152921504606846975 : Int64))), .second, .val (.long dt), .second, .val (.long ((q0 &&& (1152921504606846975 : Int64)) + dt)), .second, .val (.ref b4), .val (.long ((q0 &&& (1152921504606846975 : Int64)) + per)), .second, .unset, .unset, .unset, .unset] [(.ref b4)]))
          refine own_step (fun _ κ => XS.lload X11.here hx rfl (hb hby at_103) rfl κ) ?_
          show own_Go _ _ _ _ (T11.setTop (mkF m 105 #[.val (.long q0), .second, .val (.long q1), .second, .val (.long q2), .second, .val (.int p3), .val (.int p4), .val (.long per), .second, .val (.long (q0 &&& (1152921504606846975 : Int64))), .second, .val (.long dt), .second, .val (.long ((q0 &&& (1152921504606846975 : Int64)) + dt)), .second, .val (.ref b4), .val (.long ((q0 &&& (1152921504606846975 : Int64)) + per)), .second, .unset, .unset, .unset, .unset] [(.long ((q0 &&& (1152921504606846975 : Int64)) + dt)), (.ref b4)]))
          obtain ⟨cq13, kq13, q13a, q13b, q13c⟩ := isOf hZ eq11 p8_0
          obtain ⟨vr13, _, ⟨T13, L13, k13, n13⟩, -, X13, ⟨Lc13, hQ13, l13, y13, z13⟩, st13⟩ := X11.virtualBack hx (y := (⟨"com/example/lockstep/lockstep/session/Ticks", "skipThrough", "(J)V"⟩ : MethodName)) (z := (⟨"com/example/lockstep/lockstep/session/Ticks", "skipThrough", "(J)V"⟩ : MethodName)) hown (mvT hZ (hw _ (List.mem_of_getElem? (i := 37) rfl))) (mvT hZ (hw _ (List.mem_of_getElem? (i := 38) rfl))) (notFace_of_selects (args := #[]) (mvT hZ (hw _ (List.mem_of_getElem? (i := 40) rfl)))) (mvT hZ (hw _ (List.mem_of_getElem? (i := 40) rfl))) (mvT hZ (hw _ (List.mem_of_getElem? (i := 39) rfl))) (by decide) (backOf (W := 0) (rm8 l Z a0 hw [] b4 ((q0 &&& (1152921504606846975 : Int64)) + dt) per ((q0 &&& (1152921504606846975 : Int64)) + per) T8.heap n0 z10 p8_2 p8_3 hc3 hc12) hZ (hw _ (List.mem_of_getElem? (i := 41) rfl)) (hw _ (List.mem_of_getElem? (i := 4) rfl)) (by decide) (by decide)) q13a q13c (g := (mkF m 105 #[.val (.long q0), .second, .val (.long q1), .second, .val (.long q2), .second, .val (.int p3), .val (.int p4), .val (.long per), .second, .val (.long (q0 &&& (1152921504606846975 : Int64))), .second, .val (.long dt), .second, .val (.long ((q0 &&& (1152921504606846975 : Int64)) + dt)), .second, .val (.ref b4), .val (.long ((q0 &&& (1152921504606846975 : Int64)) + per)), .second, .unset, .unset, .unset, .unset] [(.long ((q0 &&& (1152921504606846975 : Int64)) + dt)), (.ref b4)])) rfl (by rw [hml]; rfl) (Steps.refl _) (argsL := [(.long ((q0 &&& (1152921504606846975 : Int64)) + dt))]) (rest := []) (lenOf pd_3 rfl) rfl (by show 2 * 0 + _ ≤ _; exact Nat.le_of_eq rfl) (hb hby at_105) (fun _ _ => ⟨rfl, eq11, (by decide : 1 + 0 ≤ _), (by decide : 3 + 0 ≤ _)⟩)
          dsimp only [Pt.U, Pt.locs, Pt.cells, Pt.slots] at X13 l13 y13 z13 st13 hQ13
          subst l13 y13 z13
          obtain ⟨rfl, Nq13, eq13⟩ := hQ13
          have N13 := Fr.app N11 Nq13
          refine own_step (fun _ κ => st13.trans κ) ?_
          show own_Go _ _ _ _ (T13.setTop (mkF m 108 #[.val (.long q0), .second, .val (.long q1), .second, .val (.long q2), .second, .val (.int p3), .val (.int p4), .val (.long per), .second, .val (.long (q0 &&& (1152921504606846975 : Int64))), .second, .val (.long dt), .second, .val (.long ((q0 &&& (1152921504606846975 : Int64)) + dt)), .second, .val (.ref b4), .val (.long ((q0 &&& (1152921504606846975 : Int64)) + per)), .second, .unset, .unset, .unset, .unset] []))
          refine own_step (fun _ κ => XS.aload X13.here hx rfl (hb hby at_108) rfl rfl κ) ?_
          show own_Go _ _ _ _ (T13.setTop (mkF m 110 #[.val (.long q0), .second, .val (.long q1), .second, .val (.long q2), .second, .val (.int p3), .val (.int p4), .val (.long per), .second, .val (.long (q0 &&& (1152921504606846975 : Int64))), .second, .val (.long dt), .second, .val (.long ((q0 &&& (1152921504606846975 : Int64)) + dt)), .second, .val (.ref b4), .val (.long ((q0 &&& (1152921504606846975 : Int64)) + per)), .second, .unset, .unset, .unset, .unset] [(.ref b4)]))
          obtain ⟨cq14, kq14, q14a, q14b, q14c⟩ := isOf hZ eq13 p8_0
          obtain ⟨vr14, _, ⟨T14, L14, k14, n14⟩, -, X14, ⟨Lc14, hQ14, l14, y14, z14⟩, st14⟩ := X13.virtualBack hx (y := (⟨"com/example/lockstep/lockstep/session/Ticks", "nextMs", "()J"⟩ : MethodName)) (z := (⟨"com/example/lockstep/lockstep/session/Ticks", "nextMs", "()J"⟩ : MethodName)) hown (mvT hZ (hw _ (List.mem_of_getElem? (i := 32) rfl))) (mvT hZ (hw _ (List.mem_of_getElem? (i := 33) rfl))) (notFace_of_selects (args := #[]) (mvT hZ (hw _ (List.mem_of_getElem? (i := 35) rfl)))) (mvT hZ (hw _ (List.mem_of_getElem? (i := 35) rfl))) (mvT hZ (hw _ (List.mem_of_getElem? (i := 34) rfl))) (by decide) (backOf (W := 0) (rm6 l Z a0 hw [] b4 ((q0 &&& (1152921504606846975 : Int64)) + per) T8.heap n0 z10 p8_3) hZ (hw _ (List.mem_of_getElem? (i := 36) rfl)) (hw _ (List.mem_of_getElem? (i := 4) rfl)) (by decide) (by decide)) q14a q14c (g := (mkF m 110 #[.val (.long q0), .second, .val (.long q1), .second, .val (.long q2), .second, .val (.int p3), .val (.int p4), .val (.long per), .second, .val (.long (q0 &&& (1152921504606846975 : Int64))), .second, .val (.long dt), .second, .val (.long ((q0 &&& (1152921504606846975 : Int64)) + dt)), .second, .val (.ref b4), .val (.long ((q0 &&& (1152921504606846975 : Int64)) + per)), .second, .unset, .unset, .unset, .unset] [(.ref b4)])) rfl (by rw [hml]; rfl) (Steps.refl _) (argsL := []) (rest := []) (lenOf pd_2 rfl) rfl (by show 2 * 0 + _ ≤ _; exact Nat.le_of_eq rfl) (hb hby at_110) (fun _ _ => ⟨rfl, eq13, (by decide : 1 + 0 ≤ _), (by decide : 3 + 0 ≤ _)⟩)
          dsimp only [Pt.U, Pt.locs, Pt.cells, Pt.slots] at X14 l14 y14 z14 st14 hQ14
          subst l14 y14 z14
          obtain ⟨rfl, Nq14, eq14⟩ := hQ14
          have N14 := Fr.app N13 Nq14
          refine own_step (fun _ κ => st14.trans κ) ?_
          show own_Go _ _ _ _ (T14.setTop (mkF m 113 #[.val (.long q0), .second, .val (.long q1), .second, .val (.long q2), .second, .val (.int p3), .val (.int p4), .val (.long per), .second, .val (.long (q0 &&& (1152921504606846975 : Int64))), .second, .val (.long dt), .second, .val (.long ((q0 &&& (1152921504606846975 : Int64)) + dt)), .second, .val (.ref b4), .val (.long ((q0 &&& (1152921504606846975 : Int64)) + per)), .second, .unset, .unset, .unset, .unset] [(.long ((q0 &&& (1152921504606846975 : Int64)) + per))]))
          refine own_step (fun _ κ => XS.lstore X14.here hx rfl (hb hby at_113) rfl (l' := #[.val (.long q0), .second, .val (.long q1), .second, .val (.long q2), .second, .val (.int p3), .val (.int p4), .val (.long per), .second, .val (.long (q0 &&& (1152921504606846975 : Int64))), .second, .val (.long dt), .second, .val (.long ((q0 &&& (1152921504606846975 : Int64)) + dt)), .second, .val (.ref b4), .val (.long ((q0 &&& (1152921504606846975 : Int64)) + per)), .second, .val (.long ((q0 &&& (1152921504606846975 : Int64)) + per)), .second, .unset, .unset]) rfl κ) ?_
          show own_Go _ _ _ _ (T14.setTop (mkF m 115 #[.val (.long q0), .second, .val (.long q1), .second, .val (.long q2), .second, .val (.int p3), .val (.int p4), .val (.long per), .second, .val (.long (q0 &&& (1152921504606846975 : Int64))), .second, .val (.long dt), .second, .val (.long ((q0 &&& (1152921504606846975 : Int64)) + dt)), .second, .val (.ref b4), .val (.long ((q0 &&& (1152921504606846975 : Int64)) + per)), .second, .val (.long ((q0 &&& (1152921504606846975 : Int64)) + per)), .second, .unset, .unset] []))
          refine own_step (fun _ κ => XS.aload X14.here hx rfl (hb hby at_115) rfl rfl κ) ?_
          show own_Go _ _ _ _ (T14.setTop (mkF m 117 #[.val (.long q0), .second, .val (.long q1), .second, .val (.long q2), .second, .val (.int p3), .val (.int p4), .val (.long per), .second, .val (.long (q0 &&& (1152921504606846975 : Int64))), .second, .val (.long dt), .second, .val (.long ((q0 &&& (1152921504606846975 : Int64)) + dt)), .second, .val (.ref b4), .val (.long ((q0 &&& (1152921504606846975 : Int64)) + per)), .second, .val (.long ((q0 &&& (1152921504606846975 : Int64)) + per)), .second, .unset, .unset] [(.ref b4)]))
          obtain ⟨cq15, kq15, q15a, q15b, q15c⟩ := isOf hZ eq14 p8_0
          obtain ⟨vr15, _, ⟨T15, L15, k15, n15⟩, -, X15, ⟨Lc15, hQ15, l15, y15, z15⟩, st15⟩ := X14.virtualBack hx (y := (⟨"com/example/lockstep/lockstep/session/Ticks", "asked", "()Z"⟩ : MethodName)) (z := (⟨"com/example/lockstep/lockstep/session/Ticks", "asked", "()Z"⟩ : MethodName)) hown (mvT hZ (hw _ (List.mem_of_getElem? (i := 42) rfl))) (mvT hZ (hw _ (List.mem_of_getElem? (i := 43) rfl))) (notFace_of_selects (args := #[]) (mvT hZ (hw _ (List.mem_of_getElem? (i := 45) rfl)))) (mvT hZ (hw _ (List.mem_of_getElem? (i := 45) rfl))) (mvT hZ (hw _ (List.mem_of_getElem? (i := 44) rfl))) (by decide) (backOf (W := 0) (rm10 l Z a0 hw [] b4 per T8.heap n0 z10 p8_2) hZ (hw _ (List.mem_of_getElem? (i := 46) rfl)) (hw _ (List.mem_of_getElem? (i := 4) rfl)) (by decide) (by decide)) q15a q15c (g := (mkF m 117 #[.val (.long q0), .second, .val (.long q1), .second, .val (.long q2), .second, .val (.int p3), .val (.int p4), .val (.long per), .second, .val (.long (q0 &&& (1152921504606846975 : Int64))), .second, .val (.long dt), .second, .val (.long ((q0 &&& (1152921504606846975 : Int64)) + dt)), .second, .val (.ref b4), .val (.long ((q0 &&& (1152921504606846975 : Int64)) + per)), .second, .val (.long ((q0 &&& (1152921504606846975 : Int64)) + per)), .second, .unset, .unset] [(.ref b4)])) rfl (by rw [hml]; rfl) (Steps.refl _) (argsL := []) (rest := []) (lenOf pd_4 rfl) rfl (by show 2 * 0 + _ ≤ _; exact Nat.le_of_eq rfl) (hb hby at_117) (fun _ _ => ⟨rfl, eq14, (by decide : 1 + 0 ≤ _), (by decide : 3 + 0 ≤ _)⟩)
          dsimp only [Pt.U, Pt.locs, Pt.cells, Pt.slots] at X15 l15 y15 z15 st15 hQ15
          subst l15 y15 z15
          obtain ⟨hv15, Nq15, eq15⟩ := hQ15
          have N15 := Fr.app N14 Nq15
          rw [if_pos hc3] at hv15
          subst hv15
          refine own_step (fun _ κ => st15.trans κ) ?_
          show own_Go _ _ _ _ (T15.setTop (mkF m 120 #[.val (.long q0), .second, .val (.long q1), .second, .val (.long q2), .second, .val (.int p3), .val (.int p4), .val (.long per), .second, .val (.long (q0 &&& (1152921504606846975 : Int64))), .second, .val (.long dt), .second, .val (.long ((q0 &&& (1152921504606846975 : Int64)) + dt)), .second, .val (.ref b4), .val (.long ((q0 &&& (1152921504606846975 : Int64)) + per)), .second, .val (.long ((q0 &&& (1152921504606846975 : Int64)) + per)), .second, .unset, .unset] [(.int (1 : Int32))]))
          refine own_step (fun _ κ => XS.istore X15.here hx rfl (hb hby at_120) rfl (l' := #[.val (.long q0), .second, .val (.long q1), .second, .val (.long q2), .second, .val (.int p3), .val (.int p4), .val (.long per), .second, .val (.long (q0 &&& (1152921504606846975 : Int64))), .second, .val (.long dt), .second, .val (.long ((q0 &&& (1152921504606846975 : Int64)) + dt)), .second, .val (.ref b4), .val (.long ((q0 &&& (1152921504606846975 : Int64)) + per)), .second, .val (.long ((q0 &&& (1152921504606846975 : Int64)) + per)), .second, .val (.int (1 : Int32)), .unset]) rfl κ) ?_
          show own_Go _ _ _ _ (T15.setTop (mkF m 122 #[.val (.long q0), .second, .val (.long q1), .second, .val (.long q2), .second, .val (.int p3), .val (.int p4), .val (.long per), .second, .val (.long (q0 &&& (1152921504606846975 : Int64))), .second, .val (.long dt), .second, .val (.long ((q0 &&& (1152921504606846975 : Int64)) + dt)), .second, .val (.ref b4), .val (.long ((q0 &&& (1152921504606846975 : Int64)) + per)), .second, .val (.long ((q0 &&& (1152921504606846975 : Int64)) + per)), .second, .val (.int (1 : Int32)), .unset] []))
          refine own_step (fun _ κ => XS.aload X15.here hx rfl (hb hby at_122) rfl rfl κ) ?_
          show own_Go _ _ _ _ (T15.setTop (mkF m 124 #[.val (.long q0), .second, .val (.long q1), .second, .val (.long q2), .second, .val (.int p3), .val (.int p4), .val (.long per), .second, .val (.long (q0 &&& (1152921504606846975 : Int64))), .second, .val (.long dt), .second, .val (.long ((q0 &&& (1152921504606846975 : Int64)) + dt)), .second, .val (.ref b4), .val (.long ((q0 &&& (1152921504606846975 : Int64)) + per)), .second, .val (.long ((q0 &&& (1152921504606846975 : Int64)) + per)), .second, .val (.int (1 : Int32)), .unset] [(.ref b4)]))
          refine own_step (fun _ κ => XS.lload X15.here hx rfl (hb hby at_124) rfl κ) ?_
          show own_Go _ _ _ _ (T15.setTop (mkF m 126 #[.val (.long q0), .second, .val (.long q1), .second, .val (.long q2), .second, .val (.int p3), .val (.int p4), .val (.long per), .second, .val (.long (q0 &&& (1152921504606846975 : Int64))), .second, .val (.long dt), .second, .val (.long ((q0 &&& (1152921504606846975 : Int64)) + dt)), .second, .val (.ref b4), .val (.long ((q0 &&& (1152921504606846975 : Int64)) + per)), .second, .val (.long ((q0 &&& (1152921504606846975 : Int64)) + per)), .second, .val (.int (1 : Int32)), .unset] [(.long ((q0 &&& (1152921504606846975 : Int64)) + dt)), (.ref b4)]))
          obtain ⟨cq16, kq16, q16a, q16b, q16c⟩ := isOf hZ eq15 p8_0
          obtain ⟨vr16, _, ⟨T16, L16, k16, n16⟩, -, X16, ⟨Lc16, hQ16, l16, y16, z16⟩, st16⟩ := X15.virtualBack hx (y := (⟨"com/example/lockstep/lockstep/session/Ticks", "due", "(J)Z"⟩ : MethodName)) (z := (⟨"com/example/lockstep/lockstep/session/Ticks", "due", "(J)Z"⟩ : MethodName)) hown (mvT hZ (hw _ (List.mem_of_getElem? (i := 47) rfl))) (mvT hZ (hw _ (List.mem_of_getElem? (i := 48) rfl))) (notFace_of_selects (args := #[]) (mvT hZ (hw _ (List.mem_of_getElem? (i := 50) rfl)))) (mvT hZ (hw _ (List.mem_of_getElem? (i := 50) rfl))) (mvT hZ (hw _ (List.mem_of_getElem? (i := 49) rfl))) (by decide) (backOf (W := 0) (rm11 l Z a0 hw [] b4 ((q0 &&& (1152921504606846975 : Int64)) + dt) per ((q0 &&& (1152921504606846975 : Int64)) + per) T8.heap n0 z10 p8_2 p8_3) hZ (hw _ (List.mem_of_getElem? (i := 51) rfl)) (hw _ (List.mem_of_getElem? (i := 4) rfl)) (by decide) (by decide)) q16a q16c (g := (mkF m 126 #[.val (.long q0), .second, .val (.long q1), .second, .val (.long q2), .second, .val (.int p3), .val (.int p4), .val (.long per), .second, .val (.long (q0 &&& (1152921504606846975 : Int64))), .second, .val (.long dt), .second, .val (.long ((q0 &&& (1152921504606846975 : Int64)) + dt)), .second, .val (.ref b4), .val (.long ((q0 &&& (1152921504606846975 : Int64)) + per)), .second, .val (.long ((q0 &&& (1152921504606846975 : Int64)) + per)), .second, .val (.int (1 : Int32)), .unset] [(.long ((q0 &&& (1152921504606846975 : Int64)) + dt)), (.ref b4)])) rfl (by rw [hml]; rfl) (Steps.refl _) (argsL := [(.long ((q0 &&& (1152921504606846975 : Int64)) + dt))]) (rest := []) (lenOf pd_5 rfl) rfl (by show 2 * 0 + _ ≤ _; exact Nat.le_of_eq rfl) (hb hby at_126) (fun _ _ => ⟨rfl, eq15, (by decide : 1 + 0 ≤ _), (by decide : 3 + 0 ≤ _)⟩)
          dsimp only [Pt.U, Pt.locs, Pt.cells, Pt.slots] at X16 l16 y16 z16 st16 hQ16
          subst l16 y16 z16
          obtain ⟨hv16, Nq16, eq16⟩ := hQ16
          have N16 := Fr.app N15 Nq16
          rw [if_pos hc3] at hv16
          rw [if_pos hc12] at hv16
          subst hv16
          refine own_step (fun _ κ => st16.trans κ) ?_
          show own_Go _ _ _ _ (T16.setTop (mkF m 129 #[.val (.long q0), .second, .val (.long q1), .second, .val (.long q2), .second, .val (.int p3), .val (.int p4), .val (.long per), .second, .val (.long (q0 &&& (1152921504606846975 : Int64))), .second, .val (.long dt), .second, .val (.long ((q0 &&& (1152921504606846975 : Int64)) + dt)), .second, .val (.ref b4), .val (.long ((q0 &&& (1152921504606846975 : Int64)) + per)), .second, .val (.long ((q0 &&& (1152921504606846975 : Int64)) + per)), .second, .val (.int (1 : Int32)), .unset] [(.int (0 : Int32))]))
          refine own_step (fun _ κ => XS.istore X16.here hx rfl (hb hby at_129) rfl (l' := #[.val (.long q0), .second, .val (.long q1), .second, .val (.long q2), .second, .val (.int p3), .val (.int p4), .val (.long per), .second, .val (.long (q0 &&& (1152921504606846975 : Int64))), .second, .val (.long dt), .second, .val (.long ((q0 &&& (1152921504606846975 : Int64)) + dt)), .second, .val (.ref b4), .val (.long ((q0 &&& (1152921504606846975 : Int64)) + per)), .second, .val (.long ((q0 &&& (1152921504606846975 : Int64)) + per)), .second, .val (.int (1 : Int32)), .val (.int (0 : Int32))]) rfl κ) ?_
          show own_Go _ _ _ _ (T16.setTop (mkF m 131 #[.val (.long q0), .second, .val (.long q1), .second, .val (.long q2), .second, .val (.int p3), .val (.int p4), .val (.long per), .second, .val (.long (q0 &&& (1152921504606846975 : Int64))), .second, .val (.long dt), .second, .val (.long ((q0 &&& (1152921504606846975 : Int64)) + dt)), .second, .val (.ref b4), .val (.long ((q0 &&& (1152921504606846975 : Int64)) + per)), .second, .val (.long ((q0 &&& (1152921504606846975 : Int64)) + per)), .second, .val (.int (1 : Int32)), .val (.int (0 : Int32))] []))
          refine own_step (fun _ κ => XS.lload X16.here hx rfl (hb hby at_131) rfl κ) ?_
          show own_Go _ _ _ _ (T16.setTop (mkF m 133 #[.val (.long q0), .second, .val (.long q1), .second, .val (.long q2), .second, .val (.int p3), .val (.int p4), .val (.long per), .second, .val (.long (q0 &&& (1152921504606846975 : Int64))), .second, .val (.long dt), .second, .val (.long ((q0 &&& (1152921504606846975 : Int64)) + dt)), .second, .val (.ref b4), .val (.long ((q0 &&& (1152921504606846975 : Int64)) + per)), .second, .val (.long ((q0 &&& (1152921504606846975 : Int64)) + per)), .second, .val (.int (1 : Int32)), .val (.int (0 : Int32))] [(.long per)]))
          refine own_step (fun _ κ => XS.lconst X16.here hx rfl (hb hby at_133) κ) ?_
          show own_Go _ _ _ _ (T16.setTop (mkF m 134 #[.val (.long q0), .second, .val (.long q1), .second, .val (.long q2), .second, .val (.int p3), .val (.int p4), .val (.long per), .second, .val (.long (q0 &&& (1152921504606846975 : Int64))), .second, .val (.long dt), .second, .val (.long ((q0 &&& (1152921504606846975 : Int64)) + dt)), .second, .val (.ref b4), .val (.long ((q0 &&& (1152921504606846975 : Int64)) + per)), .second, .val (.long ((q0 &&& (1152921504606846975 : Int64)) + per)), .second, .val (.int (1 : Int32)), .val (.int (0 : Int32))] [(.long (0 : Int64)), (.long per)]))
          refine own_step (fun _ κ => XS.lcmp X16.here hx rfl (hb hby at_134) rfl κ) ?_
          show own_Go _ _ _ _ (T16.setTop (mkF m 135 #[.val (.long q0), .second, .val (.long q1), .second, .val (.long q2), .second, .val (.int p3), .val (.int p4), .val (.long per), .second, .val (.long (q0 &&& (1152921504606846975 : Int64))), .second, .val (.long dt), .second, .val (.long ((q0 &&& (1152921504606846975 : Int64)) + dt)), .second, .val (.ref b4), .val (.long ((q0 &&& (1152921504606846975 : Int64)) + per)), .second, .val (.long ((q0 &&& (1152921504606846975 : Int64)) + per)), .second, .val (.int (1 : Int32)), .val (.int (0 : Int32))] [(.int (lcmpW per (0 : Int64)))]))
          refine own_step (fun _ κ => XS.ifYes X16.here hx rfl (pc0 := 135) (pc' := 162) rfl (hb hby at_135) rfl ((if0 _ _).trans (feq (fun q => absurd ((lw_eq _ _).mp q) (own_nz hc3))).2) (by decide) (by decide) κ) ?_
          show own_Go _ _ _ _ (T16.setTop (mkF m 162 #[.val (.long q0), .second, .val (.long q1), .second, .val (.long q2), .second, .val (.int p3), .val (.int p4), .val (.long per), .second, .val (.long (q0 &&& (1152921504606846975 : Int64))), .second, .val (.long dt), .second, .val (.long ((q0 &&& (1152921504606846975 : Int64)) + dt)), .second, .val (.ref b4), .val (.long ((q0 &&& (1152921504606846975 : Int64)) + per)), .second, .val (.long ((q0 &&& (1152921504606846975 : Int64)) + per)), .second, .val (.int (1 : Int32)), .val (.int (0 : Int32))] []))
          refine own_step (fun _ κ => XS.lload X16.here hx rfl (hb hby at_162) rfl κ) ?_
          show own_Go _ _ _ _ (T16.setTop (mkF m 164 #[.val (.long q0), .second, .val (.long q1), .second, .val (.long q2), .second, .val (.int p3), .val (.int p4), .val (.long per), .second, .val (.long (q0 &&& (1152921504606846975 : Int64))), .second, .val (.long dt), .second, .val (.long ((q0 &&& (1152921504606846975 : Int64)) + dt)), .second, .val (.ref b4), .val (.long ((q0 &&& (1152921504606846975 : Int64)) + per)), .second, .val (.long ((q0 &&& (1152921504606846975 : Int64)) + per)), .second, .val (.int (1 : Int32)), .val (.int (0 : Int32))] [(.long ((q0 &&& (1152921504606846975 : Int64)) + per))]))
          refine own_step (fun _ κ => XS.lload X16.here hx rfl (hb hby at_164) rfl κ) ?_
          show own_Go _ _ _ _ (T16.setTop (mkF m 166 #[.val (.long q0), .second, .val (.long q1), .second, .val (.long q2), .second, .val (.int p3), .val (.int p4), .val (.long per), .second, .val (.long (q0 &&& (1152921504606846975 : Int64))), .second, .val (.long dt), .second, .val (.long ((q0 &&& (1152921504606846975 : Int64)) + dt)), .second, .val (.ref b4), .val (.long ((q0 &&& (1152921504606846975 : Int64)) + per)), .second, .val (.long ((q0 &&& (1152921504606846975 : Int64)) + per)), .second, .val (.int (1 : Int32)), .val (.int (0 : Int32))] [(.long (q0 &&& (1152921504606846975 : Int64))), (.long ((q0 &&& (1152921504606846975 : Int64)) + per))]))
          refine own_step (fun _ κ => XS.lload X16.here hx rfl (hb hby at_166) rfl κ) ?_
          show own_Go _ _ _ _ (T16.setTop (mkF m 168 #[.val (.long q0), .second, .val (.long q1), .second, .val (.long q2), .second, .val (.int p3), .val (.int p4), .val (.long per), .second, .val (.long (q0 &&& (1152921504606846975 : Int64))), .second, .val (.long dt), .second, .val (.long ((q0 &&& (1152921504606846975 : Int64)) + dt)), .second, .val (.ref b4), .val (.long ((q0 &&& (1152921504606846975 : Int64)) + per)), .second, .val (.long ((q0 &&& (1152921504606846975 : Int64)) + per)), .second, .val (.int (1 : Int32)), .val (.int (0 : Int32))] [(.long per), (.long (q0 &&& (1152921504606846975 : Int64))), (.long ((q0 &&& (1152921504606846975 : Int64)) + per))]))
          refine own_step (fun _ κ => XS.ladd X16.here hx rfl (hb hby at_168) rfl κ) ?_
          show own_Go _ _ _ _ (T16.setTop (mkF m 169 #[.val (.long q0), .second, .val (.long q1), .second, .val (.long q2), .second, .val (.int p3), .val (.int p4), .val (.long per), .second, .val (.long (q0 &&& (1152921504606846975 : Int64))), .second, .val (.long dt), .second, .val (.long ((q0 &&& (1152921504606846975 : Int64)) + dt)), .second, .val (.ref b4), .val (.long ((q0 &&& (1152921504606846975 : Int64)) + per)), .second, .val (.long ((q0 &&& (1152921504606846975 : Int64)) + per)), .second, .val (.int (1 : Int32)), .val (.int (0 : Int32))] [(.long ((q0 &&& (1152921504606846975 : Int64)) + per)), (.long ((q0 &&& (1152921504606846975 : Int64)) + per))]))
          refine own_step (fun _ κ => XS.lcmp X16.here hx rfl (hb hby at_169) rfl κ) ?_
          show own_Go _ _ _ _ (T16.setTop (mkF m 170 #[.val (.long q0), .second, .val (.long q1), .second, .val (.long q2), .second, .val (.int p3), .val (.int p4), .val (.long per), .second, .val (.long (q0 &&& (1152921504606846975 : Int64))), .second, .val (.long dt), .second, .val (.long ((q0 &&& (1152921504606846975 : Int64)) + dt)), .second, .val (.ref b4), .val (.long ((q0 &&& (1152921504606846975 : Int64)) + per)), .second, .val (.long ((q0 &&& (1152921504606846975 : Int64)) + per)), .second, .val (.int (1 : Int32)), .val (.int (0 : Int32))] [(.int (lcmpW ((q0 &&& (1152921504606846975 : Int64)) + per) ((q0 &&& (1152921504606846975 : Int64)) + per)))]))
          refine own_step (fun _ κ => XS.ifYes X16.here hx rfl (pc0 := 170) (pc' := 175) rfl (hb hby at_170) rfl ((if0 _ _).trans (teq ((lw_eq _ _).mpr rfl)).1) (by decide) (by decide) κ) ?_
          show own_Go _ _ _ _ (T16.setTop (mkF m 175 #[.val (.long q0), .second, .val (.long q1), .second, .val (.long q2), .second, .val (.int p3), .val (.int p4), .val (.long per), .second, .val (.long (q0 &&& (1152921504606846975 : Int64))), .second, .val (.long dt), .second, .val (.long ((q0 &&& (1152921504606846975 : Int64)) + dt)), .second, .val (.ref b4), .val (.long ((q0 &&& (1152921504606846975 : Int64)) + per)), .second, .val (.long ((q0 &&& (1152921504606846975 : Int64)) + per)), .second, .val (.int (1 : Int32)), .val (.int (0 : Int32))] []))
          refine own_step (fun _ κ => XS.lload X16.here hx rfl (hb hby at_175) rfl κ) ?_
          show own_Go _ _ _ _ (T16.setTop (mkF m 177 #[.val (.long q0), .second, .val (.long q1), .second, .val (.long q2), .second, .val (.int p3), .val (.int p4), .val (.long per), .second, .val (.long (q0 &&& (1152921504606846975 : Int64))), .second, .val (.long dt), .second, .val (.long ((q0 &&& (1152921504606846975 : Int64)) + dt)), .second, .val (.ref b4), .val (.long ((q0 &&& (1152921504606846975 : Int64)) + per)), .second, .val (.long ((q0 &&& (1152921504606846975 : Int64)) + per)), .second, .val (.int (1 : Int32)), .val (.int (0 : Int32))] [(.long ((q0 &&& (1152921504606846975 : Int64)) + per))]))
          refine own_step (fun _ κ => XS.lload X16.here hx rfl (hb hby at_177) rfl κ) ?_
          show own_Go _ _ _ _ (T16.setTop (mkF m 179 #[.val (.long q0), .second, .val (.long q1), .second, .val (.long q2), .second, .val (.int p3), .val (.int p4), .val (.long per), .second, .val (.long (q0 &&& (1152921504606846975 : Int64))), .second, .val (.long dt), .second, .val (.long ((q0 &&& (1152921504606846975 : Int64)) + dt)), .second, .val (.ref b4), .val (.long ((q0 &&& (1152921504606846975 : Int64)) + per)), .second, .val (.long ((q0 &&& (1152921504606846975 : Int64)) + per)), .second, .val (.int (1 : Int32)), .val (.int (0 : Int32))] [(.long ((q0 &&& (1152921504606846975 : Int64)) + dt)), (.long ((q0 &&& (1152921504606846975 : Int64)) + per))]))
          refine own_step (fun _ κ => XS.lcmp X16.here hx rfl (hb hby at_179) rfl κ) ?_
          show own_Go _ _ _ _ (T16.setTop (mkF m 180 #[.val (.long q0), .second, .val (.long q1), .second, .val (.long q2), .second, .val (.int p3), .val (.int p4), .val (.long per), .second, .val (.long (q0 &&& (1152921504606846975 : Int64))), .second, .val (.long dt), .second, .val (.long ((q0 &&& (1152921504606846975 : Int64)) + dt)), .second, .val (.ref b4), .val (.long ((q0 &&& (1152921504606846975 : Int64)) + per)), .second, .val (.long ((q0 &&& (1152921504606846975 : Int64)) + per)), .second, .val (.int (1 : Int32)), .val (.int (0 : Int32))] [(.int (lcmpW ((q0 &&& (1152921504606846975 : Int64)) + per) ((q0 &&& (1152921504606846975 : Int64)) + dt)))]))
          refine own_step (fun _ κ => XS.ifNo X16.here hx rfl (hb hby at_180) rfl ((if0 _ _).trans (tlt ((lw_gt _ _).mpr hc12)).2.2.2) κ) ?_
          show own_Go _ _ _ _ (T16.setTop (mkF m 183 #[.val (.long q0), .second, .val (.long q1), .second, .val (.long q2), .second, .val (.int p3), .val (.int p4), .val (.long per), .second, .val (.long (q0 &&& (1152921504606846975 : Int64))), .second, .val (.long dt), .second, .val (.long ((q0 &&& (1152921504606846975 : Int64)) + dt)), .second, .val (.ref b4), .val (.long ((q0 &&& (1152921504606846975 : Int64)) + per)), .second, .val (.long ((q0 &&& (1152921504606846975 : Int64)) + per)), .second, .val (.int (1 : Int32)), .val (.int (0 : Int32))] []))
          refine own_step (fun _ κ => XS.iload X16.here hx rfl (hb hby at_183) rfl κ) ?_
          show own_Go _ _ _ _ (T16.setTop (mkF m 185 #[.val (.long q0), .second, .val (.long q1), .second, .val (.long q2), .second, .val (.int p3), .val (.int p4), .val (.long per), .second, .val (.long (q0 &&& (1152921504606846975 : Int64))), .second, .val (.long dt), .second, .val (.long ((q0 &&& (1152921504606846975 : Int64)) + dt)), .second, .val (.ref b4), .val (.long ((q0 &&& (1152921504606846975 : Int64)) + per)), .second, .val (.long ((q0 &&& (1152921504606846975 : Int64)) + per)), .second, .val (.int (1 : Int32)), .val (.int (0 : Int32))] [(.int (1 : Int32))]))
          refine own_step (fun _ κ => XS.ifNo X16.here hx rfl (hb hby at_185) rfl ((if0 _ _).trans (feq (by decide)).1) κ) ?_
          show own_Go _ _ _ _ (T16.setTop (mkF m 188 #[.val (.long q0), .second, .val (.long q1), .second, .val (.long q2), .second, .val (.int p3), .val (.int p4), .val (.long per), .second, .val (.long (q0 &&& (1152921504606846975 : Int64))), .second, .val (.long dt), .second, .val (.long ((q0 &&& (1152921504606846975 : Int64)) + dt)), .second, .val (.ref b4), .val (.long ((q0 &&& (1152921504606846975 : Int64)) + per)), .second, .val (.long ((q0 &&& (1152921504606846975 : Int64)) + per)), .second, .val (.int (1 : Int32)), .val (.int (0 : Int32))] []))
          refine own_step (fun _ κ => XS.lload X16.here hx rfl (hb hby at_188) rfl κ) ?_
          show own_Go _ _ _ _ (T16.setTop (mkF m 190 #[.val (.long q0), .second, .val (.long q1), .second, .val (.long q2), .second, .val (.int p3), .val (.int p4), .val (.long per), .second, .val (.long (q0 &&& (1152921504606846975 : Int64))), .second, .val (.long dt), .second, .val (.long ((q0 &&& (1152921504606846975 : Int64)) + dt)), .second, .val (.ref b4), .val (.long ((q0 &&& (1152921504606846975 : Int64)) + per)), .second, .val (.long ((q0 &&& (1152921504606846975 : Int64)) + per)), .second, .val (.int (1 : Int32)), .val (.int (0 : Int32))] [(.long ((q0 &&& (1152921504606846975 : Int64)) + per))]))
          refine own_step (fun _ κ => XS.lload X16.here hx rfl (hb hby at_190) rfl κ) ?_
          show own_Go _ _ _ _ (T16.setTop (mkF m 192 #[.val (.long q0), .second, .val (.long q1), .second, .val (.long q2), .second, .val (.int p3), .val (.int p4), .val (.long per), .second, .val (.long (q0 &&& (1152921504606846975 : Int64))), .second, .val (.long dt), .second, .val (.long ((q0 &&& (1152921504606846975 : Int64)) + dt)), .second, .val (.ref b4), .val (.long ((q0 &&& (1152921504606846975 : Int64)) + per)), .second, .val (.long ((q0 &&& (1152921504606846975 : Int64)) + per)), .second, .val (.int (1 : Int32)), .val (.int (0 : Int32))] [(.long ((q0 &&& (1152921504606846975 : Int64)) + per)), (.long ((q0 &&& (1152921504606846975 : Int64)) + per))]))
          refine own_step (fun _ κ => XS.lcmp X16.here hx rfl (hb hby at_192) rfl κ) ?_
          show own_Go _ _ _ _ (T16.setTop (mkF m 193 #[.val (.long q0), .second, .val (.long q1), .second, .val (.long q2), .second, .val (.int p3), .val (.int p4), .val (.long per), .second, .val (.long (q0 &&& (1152921504606846975 : Int64))), .second, .val (.long dt), .second, .val (.long ((q0 &&& (1152921504606846975 : Int64)) + dt)), .second, .val (.ref b4), .val (.long ((q0 &&& (1152921504606846975 : Int64)) + per)), .second, .val (.long ((q0 &&& (1152921504606846975 : Int64)) + per)), .second, .val (.int (1 : Int32)), .val (.int (0 : Int32))] [(.int (lcmpW ((q0 &&& (1152921504606846975 : Int64)) + per) ((q0 &&& (1152921504606846975 : Int64)) + per)))]))
          refine own_step (fun _ κ => XS.ifNo X16.here hx rfl (hb hby at_193) rfl ((if0 _ _).trans (teq ((lw_eq _ _).mpr rfl)).2) κ) ?_
          show own_Go _ _ _ _ (T16.setTop (mkF m 196 #[.val (.long q0), .second, .val (.long q1), .second, .val (.long q2), .second, .val (.int p3), .val (.int p4), .val (.long per), .second, .val (.long (q0 &&& (1152921504606846975 : Int64))), .second, .val (.long dt), .second, .val (.long ((q0 &&& (1152921504606846975 : Int64)) + dt)), .second, .val (.ref b4), .val (.long ((q0 &&& (1152921504606846975 : Int64)) + per)), .second, .val (.long ((q0 &&& (1152921504606846975 : Int64)) + per)), .second, .val (.int (1 : Int32)), .val (.int (0 : Int32))] []))
          refine own_step (fun _ κ => XS.iload X16.here hx rfl (hb hby at_196) rfl κ) ?_
          show own_Go _ _ _ _ (T16.setTop (mkF m 198 #[.val (.long q0), .second, .val (.long q1), .second, .val (.long q2), .second, .val (.int p3), .val (.int p4), .val (.long per), .second, .val (.long (q0 &&& (1152921504606846975 : Int64))), .second, .val (.long dt), .second, .val (.long ((q0 &&& (1152921504606846975 : Int64)) + dt)), .second, .val (.ref b4), .val (.long ((q0 &&& (1152921504606846975 : Int64)) + per)), .second, .val (.long ((q0 &&& (1152921504606846975 : Int64)) + per)), .second, .val (.int (1 : Int32)), .val (.int (0 : Int32))] [(.int (0 : Int32))]))
          refine own_step (fun _ κ => XS.ifNo X16.here hx rfl (hb hby at_198) rfl ((if0 _ _).trans (teq rfl).2) κ) ?_
          show own_Go _ _ _ _ (T16.setTop (mkF m 201 #[.val (.long q0), .second, .val (.long q1), .second, .val (.long q2), .second, .val (.int p3), .val (.int p4), .val (.long per), .second, .val (.long (q0 &&& (1152921504606846975 : Int64))), .second, .val (.long dt), .second, .val (.long ((q0 &&& (1152921504606846975 : Int64)) + dt)), .second, .val (.ref b4), .val (.long ((q0 &&& (1152921504606846975 : Int64)) + per)), .second, .val (.long ((q0 &&& (1152921504606846975 : Int64)) + per)), .second, .val (.int (1 : Int32)), .val (.int (0 : Int32))] []))
          refine own_step (fun _ κ => XS.iconst X16.here hx rfl (hb hby at_201) κ) ?_
          show own_Go _ _ _ _ (T16.setTop (mkF m 202 #[.val (.long q0), .second, .val (.long q1), .second, .val (.long q2), .second, .val (.int p3), .val (.int p4), .val (.long per), .second, .val (.long (q0 &&& (1152921504606846975 : Int64))), .second, .val (.long dt), .second, .val (.long ((q0 &&& (1152921504606846975 : Int64)) + dt)), .second, .val (.ref b4), .val (.long ((q0 &&& (1152921504606846975 : Int64)) + per)), .second, .val (.long ((q0 &&& (1152921504606846975 : Int64)) + per)), .second, .val (.int (1 : Int32)), .val (.int (0 : Int32))] [(.int (1 : Int32))]))
          refine own_step (fun _ κ => XS.goto X16.here hx rfl (pc0 := 202) (pc' := 206) rfl (hb hby at_202) (by decide) (by decide) κ) ?_
          show own_Go _ _ _ _ (T16.setTop (mkF m 206 #[.val (.long q0), .second, .val (.long q1), .second, .val (.long q2), .second, .val (.int p3), .val (.int p4), .val (.long per), .second, .val (.long (q0 &&& (1152921504606846975 : Int64))), .second, .val (.long dt), .second, .val (.long ((q0 &&& (1152921504606846975 : Int64)) + dt)), .second, .val (.ref b4), .val (.long ((q0 &&& (1152921504606846975 : Int64)) + per)), .second, .val (.long ((q0 &&& (1152921504606846975 : Int64)) + per)), .second, .val (.int (1 : Int32)), .val (.int (0 : Int32))] [(.int (1 : Int32))]))
          obtain ⟨fs, hr, hrun, hended, hW, hsame⟩ := X16.leave (v := some (.int (1 : Int32))) (fun h => by rw [Bd.returns] at h; cases h)
          refine ⟨_, _, retN X16 hx (t := .boolean) Bd.returns (by simp) (hb hby at_206) hr, hrun, hended, _, _, rfl, ?_, ⟨_, rfl⟩, hW, hsame.mono (by decide) (by decide)⟩
          show Q0 Z q0 q1 q2 p3 p4  h0 n0 _ T16.heap _
          exact ⟨rfl, N16⟩
        · show own_Go _ _ _ _ (T11.setTop (mkF m 101 #[.val (.long q0), .second, .val (.long q1), .second, .val (.long q2), .second, .val (.int p3), .val (.int p4), .val (.long per), .second, .val (.long (q0 &&& (1152921504606846975 : Int64))), .second, .val (.long dt), .second, .val (.long ((q0 &&& (1152921504606846975 : Int64)) + dt)), .second, .val (.ref b4), .val (.long ((q0 &&& (1152921504606846975 : Int64)) + per)), .second, .unset, .unset, .unset, .unset] []))
          refine own_step (fun _ κ => XS.aload X11.here hx rfl (hb hby at_101) rfl rfl κ) ?_
          show own_Go _ _ _ _ (T11.setTop (mkF m 103 #[.val (.long q0), .second, .val (.long q1), .second, .val (.long q2), .second, .val (.int p3), .val (.int p4), .val (.long per), .second, .val (.long (q0 &&& (1152921504606846975 : Int64))), .second, .val (.long dt), .second, .val (.long ((q0 &&& (1152921504606846975 : Int64)) + dt)), .second, .val (.ref b4), .val (.long ((q0 &&& (1152921504606846975 : Int64)) + per)), .second, .unset, .unset, .unset, .unset] [(.ref b4)]))
          refine own_step (fun _ κ => XS.lload X11.here hx rfl (hb hby at_103) rfl κ) ?_
          show own_Go _ _ _ _ (T11.setTop (mkF m 105 #[.val (.long q0), .second, .val (.long q1), .second, .val (.long q2), .second, .val (.int p3), .val (.int p4), .val (.long per), .second, .val (.long (q0 &&& (1152921504606846975 : Int64))), .second, .val (.long dt), .second, .val (.long ((q0 &&& (1152921504606846975 : Int64)) + dt)), .second, .val (.ref b4), .val (.long ((q0 &&& (1152921504606846975 : Int64)) + per)), .second, .unset, .unset, .unset, .unset] [(.long ((q0 &&& (1152921504606846975 : Int64)) + dt)), (.ref b4)]))
          obtain ⟨cq17, kq17, q17a, q17b, q17c⟩ := isOf hZ eq11 p8_0
          obtain ⟨vr17, _, ⟨T17, L17, k17, n17⟩, -, X17, ⟨Lc17, hQ17, l17, y17, z17⟩, st17⟩ := X11.virtualBack hx (y := (⟨"com/example/lockstep/lockstep/session/Ticks", "skipThrough", "(J)V"⟩ : MethodName)) (z := (⟨"com/example/lockstep/lockstep/session/Ticks", "skipThrough", "(J)V"⟩ : MethodName)) hown (mvT hZ (hw _ (List.mem_of_getElem? (i := 37) rfl))) (mvT hZ (hw _ (List.mem_of_getElem? (i := 38) rfl))) (notFace_of_selects (args := #[]) (mvT hZ (hw _ (List.mem_of_getElem? (i := 40) rfl)))) (mvT hZ (hw _ (List.mem_of_getElem? (i := 40) rfl))) (mvT hZ (hw _ (List.mem_of_getElem? (i := 39) rfl))) (by decide) (backOf (W := 0) (rm9 l Z a0 hw [] b4 ((q0 &&& (1152921504606846975 : Int64)) + dt) per ((q0 &&& (1152921504606846975 : Int64)) + per) T8.heap n0 z10 p8_0 p8_2 p8_3 ge5 hc3 hc12) hZ (hw _ (List.mem_of_getElem? (i := 41) rfl)) (hw _ (List.mem_of_getElem? (i := 4) rfl)) (by decide) (by decide)) q17a q17c (g := (mkF m 105 #[.val (.long q0), .second, .val (.long q1), .second, .val (.long q2), .second, .val (.int p3), .val (.int p4), .val (.long per), .second, .val (.long (q0 &&& (1152921504606846975 : Int64))), .second, .val (.long dt), .second, .val (.long ((q0 &&& (1152921504606846975 : Int64)) + dt)), .second, .val (.ref b4), .val (.long ((q0 &&& (1152921504606846975 : Int64)) + per)), .second, .unset, .unset, .unset, .unset] [(.long ((q0 &&& (1152921504606846975 : Int64)) + dt)), (.ref b4)])) rfl (by rw [hml]; rfl) (Steps.refl _) (argsL := [(.long ((q0 &&& (1152921504606846975 : Int64)) + dt))]) (rest := []) (lenOf pd_3 rfl) rfl (by show 2 * 0 + _ ≤ _; exact Nat.le_of_eq rfl) (hb hby at_105) (fun _ _ => ⟨rfl, eq11, (by decide : 1 + 0 ≤ _), (by decide : 3 + 0 ≤ _)⟩)
          dsimp only [Pt.U, Pt.locs, Pt.cells, Pt.slots] at X17 l17 y17 z17 st17 hQ17
          subst l17 y17 z17
          obtain ⟨rfl, Nq17, Kq17, p17_0, p17_1, p17_2⟩ := hQ17
          have N17 := Fr.app N11 Nq17
          have f18 := p8_0.keep Kq17
          have z19 : n0 ≤ T17.heap.size := Nat.le_trans z10 Kq17.1
          refine own_step (fun _ κ => st17.trans κ) ?_
          show own_Go _ _ _ _ (T17.setTop (mkF m 108 #[.val (.long q0), .second, .val (.long q1), .second, .val (.long q2), .second, .val (.int p3), .val (.int p4), .val (.long per), .second, .val (.long (q0 &&& (1152921504606846975 : Int64))), .second, .val (.long dt), .second, .val (.long ((q0 &&& (1152921504606846975 : Int64)) + dt)), .second, .val (.ref b4), .val (.long ((q0 &&& (1152921504606846975 : Int64)) + per)), .second, .unset, .unset, .unset, .unset] []))
          refine own_step (fun _ κ => XS.aload X17.here hx rfl (hb hby at_108) rfl rfl κ) ?_
          show own_Go _ _ _ _ (T17.setTop (mkF m 110 #[.val (.long q0), .second, .val (.long q1), .second, .val (.long q2), .second, .val (.int p3), .val (.int p4), .val (.long per), .second, .val (.long (q0 &&& (1152921504606846975 : Int64))), .second, .val (.long dt), .second, .val (.long ((q0 &&& (1152921504606846975 : Int64)) + dt)), .second, .val (.ref b4), .val (.long ((q0 &&& (1152921504606846975 : Int64)) + per)), .second, .unset, .unset, .unset, .unset] [(.ref b4)]))
          obtain ⟨cq20, kq20, q20a, q20b, q20c⟩ := isOf hZ rfl p17_0
          obtain ⟨vr20, _, ⟨T20, L20, k20, n20⟩, -, X20, ⟨Lc20, hQ20, l20, y20, z20⟩, st20⟩ := X17.virtualBack hx (y := (⟨"com/example/lockstep/lockstep/session/Ticks", "nextMs", "()J"⟩ : MethodName)) (z := (⟨"com/example/lockstep/lockstep/session/Ticks", "nextMs", "()J"⟩ : MethodName)) hown (mvT hZ (hw _ (List.mem_of_getElem? (i := 32) rfl))) (mvT hZ (hw _ (List.mem_of_getElem? (i := 33) rfl))) (notFace_of_selects (args := #[]) (mvT hZ (hw _ (List.mem_of_getElem? (i := 35) rfl)))) (mvT hZ (hw _ (List.mem_of_getElem? (i := 35) rfl))) (mvT hZ (hw _ (List.mem_of_getElem? (i := 34) rfl))) (by decide) (backOf (W := 0) (rm6 l Z a0 hw [] b4 (own_after ((q0 &&& (1152921504606846975 : Int64)) + per) ((q0 &&& (1152921504606846975 : Int64)) + dt) per) T17.heap n0 z19 p17_2) hZ (hw _ (List.mem_of_getElem? (i := 36) rfl)) (hw _ (List.mem_of_getElem? (i := 4) rfl)) (by decide) (by decide)) q20a q20c (g := (mkF m 110 #[.val (.long q0), .second, .val (.long q1), .second, .val (.long q2), .second, .val (.int p3), .val (.int p4), .val (.long per), .second, .val (.long (q0 &&& (1152921504606846975 : Int64))), .second, .val (.long dt), .second, .val (.long ((q0 &&& (1152921504606846975 : Int64)) + dt)), .second, .val (.ref b4), .val (.long ((q0 &&& (1152921504606846975 : Int64)) + per)), .second, .unset, .unset, .unset, .unset] [(.ref b4)])) rfl (by rw [hml]; rfl) (Steps.refl _) (argsL := []) (rest := []) (lenOf pd_2 rfl) rfl (by show 2 * 0 + _ ≤ _; exact Nat.le_of_eq rfl) (hb hby at_110) (fun _ _ => ⟨rfl, rfl, (by decide : 1 + 0 ≤ _), (by decide : 3 + 0 ≤ _)⟩)
          dsimp only [Pt.U, Pt.locs, Pt.cells, Pt.slots] at X20 l20 y20 z20 st20 hQ20
          subst l20 y20 z20
          obtain ⟨rfl, Nq20, eq20⟩ := hQ20
          have N20 := Fr.app N17 Nq20
          refine own_step (fun _ κ => st20.trans κ) ?_
          show own_Go _ _ _ _ (T20.setTop (mkF m 113 #[.val (.long q0), .second, .val (.long q1), .second, .val (.long q2), .second, .val (.int p3), .val (.int p4), .val (.long per), .second, .val (.long (q0 &&& (1152921504606846975 : Int64))), .second, .val (.long dt), .second, .val (.long ((q0 &&& (1152921504606846975 : Int64)) + dt)), .second, .val (.ref b4), .val (.long ((q0 &&& (1152921504606846975 : Int64)) + per)), .second, .unset, .unset, .unset, .unset] [(.long (own_after ((q0 &&& (1152921504606846975 : Int64)) + per) ((q0 &&& (1152921504606846975 : Int64)) + dt) per))]))
          refine own_step (fun _ κ => XS.lstore X20.here hx rfl (hb hby at_113) rfl (l' := #[.val (.long q0), .second, .val (.long q1), .second, .val (.long q2), .second, .val (.int p3), .val (.int p4), .val (.long per), .second, .val (.long (q0 &&& (1152921504606846975 : Int64))), .second, .val (.long dt), .second, .val (.long ((q0 &&& (1152921504606846975 : Int64)) + dt)), .second, .val (.ref b4), .val (.long ((q0 &&& (1152921504606846975 : Int64)) + per)), .second, .val (.long (own_after ((q0 &&& (1152921504606846975 : Int64)) + per) ((q0 &&& (1152921504606846975 : Int64)) + dt) per)), .second, .unset, .unset]) rfl κ) ?_
          show own_Go _ _ _ _ (T20.setTop (mkF m 115 #[.val (.long q0), .second, .val (.long q1), .second, .val (.long q2), .second, .val (.int p3), .val (.int p4), .val (.long per), .second, .val (.long (q0 &&& (1152921504606846975 : Int64))), .second, .val (.long dt), .second, .val (.long ((q0 &&& (1152921504606846975 : Int64)) + dt)), .second, .val (.ref b4), .val (.long ((q0 &&& (1152921504606846975 : Int64)) + per)), .second, .val (.long (own_after ((q0 &&& (1152921504606846975 : Int64)) + per) ((q0 &&& (1152921504606846975 : Int64)) + dt) per)), .second, .unset, .unset] []))
          refine own_step (fun _ κ => XS.aload X20.here hx rfl (hb hby at_115) rfl rfl κ) ?_
          show own_Go _ _ _ _ (T20.setTop (mkF m 117 #[.val (.long q0), .second, .val (.long q1), .second, .val (.long q2), .second, .val (.int p3), .val (.int p4), .val (.long per), .second, .val (.long (q0 &&& (1152921504606846975 : Int64))), .second, .val (.long dt), .second, .val (.long ((q0 &&& (1152921504606846975 : Int64)) + dt)), .second, .val (.ref b4), .val (.long ((q0 &&& (1152921504606846975 : Int64)) + per)), .second, .val (.long (own_after ((q0 &&& (1152921504606846975 : Int64)) + per) ((q0 &&& (1152921504606846975 : Int64)) + dt) per)), .second, .unset, .unset] [(.ref b4)]))
          obtain ⟨cq21, kq21, q21a, q21b, q21c⟩ := isOf hZ eq20 p17_0
          obtain ⟨vr21, _, ⟨T21, L21, k21, n21⟩, -, X21, ⟨Lc21, hQ21, l21, y21, z21⟩, st21⟩ := X20.virtualBack hx (y := (⟨"com/example/lockstep/lockstep/session/Ticks", "asked", "()Z"⟩ : MethodName)) (z := (⟨"com/example/lockstep/lockstep/session/Ticks", "asked", "()Z"⟩ : MethodName)) hown (mvT hZ (hw _ (List.mem_of_getElem? (i := 42) rfl))) (mvT hZ (hw _ (List.mem_of_getElem? (i := 43) rfl))) (notFace_of_selects (args := #[]) (mvT hZ (hw _ (List.mem_of_getElem? (i := 45) rfl)))) (mvT hZ (hw _ (List.mem_of_getElem? (i := 45) rfl))) (mvT hZ (hw _ (List.mem_of_getElem? (i := 44) rfl))) (by decide) (backOf (W := 0) (rm10 l Z a0 hw [] b4 per T17.heap n0 z19 p17_1) hZ (hw _ (List.mem_of_getElem? (i := 46) rfl)) (hw _ (List.mem_of_getElem? (i := 4) rfl)) (by decide) (by decide)) q21a q21c (g := (mkF m 117 #[.val (.long q0), .second, .val (.long q1), .second, .val (.long q2), .second, .val (.int p3), .val (.int p4), .val (.long per), .second, .val (.long (q0 &&& (1152921504606846975 : Int64))), .second, .val (.long dt), .second, .val (.long ((q0 &&& (1152921504606846975 : Int64)) + dt)), .second, .val (.ref b4), .val (.long ((q0 &&& (1152921504606846975 : Int64)) + per)), .second, .val (.long (own_after ((q0 &&& (1152921504606846975 : Int64)) + per) ((q0 &&& (1152921504606846975 : Int64)) + dt) per)), .second, .unset, .unset] [(.ref b4)])) rfl (by rw [hml]; rfl) (Steps.refl _) (argsL := []) (rest := []) (lenOf pd_4 rfl) rfl (by show 2 * 0 + _ ≤ _; exact Nat.le_of_eq rfl) (hb hby at_117) (fun _ _ => ⟨rfl, eq20, (by decide : 1 + 0 ≤ _), (by decide : 3 + 0 ≤ _)⟩)
          dsimp only [Pt.U, Pt.locs, Pt.cells, Pt.slots] at X21 l21 y21 z21 st21 hQ21
          subst l21 y21 z21
          obtain ⟨hv21, Nq21, eq21⟩ := hQ21
          have N21 := Fr.app N20 Nq21
          rw [if_pos hc3] at hv21
          subst hv21
          refine own_step (fun _ κ => st21.trans κ) ?_
          show own_Go _ _ _ _ (T21.setTop (mkF m 120 #[.val (.long q0), .second, .val (.long q1), .second, .val (.long q2), .second, .val (.int p3), .val (.int p4), .val (.long per), .second, .val (.long (q0 &&& (1152921504606846975 : Int64))), .second, .val (.long dt), .second, .val (.long ((q0 &&& (1152921504606846975 : Int64)) + dt)), .second, .val (.ref b4), .val (.long ((q0 &&& (1152921504606846975 : Int64)) + per)), .second, .val (.long (own_after ((q0 &&& (1152921504606846975 : Int64)) + per) ((q0 &&& (1152921504606846975 : Int64)) + dt) per)), .second, .unset, .unset] [(.int (1 : Int32))]))
          refine own_step (fun _ κ => XS.istore X21.here hx rfl (hb hby at_120) rfl (l' := #[.val (.long q0), .second, .val (.long q1), .second, .val (.long q2), .second, .val (.int p3), .val (.int p4), .val (.long per), .second, .val (.long (q0 &&& (1152921504606846975 : Int64))), .second, .val (.long dt), .second, .val (.long ((q0 &&& (1152921504606846975 : Int64)) + dt)), .second, .val (.ref b4), .val (.long ((q0 &&& (1152921504606846975 : Int64)) + per)), .second, .val (.long (own_after ((q0 &&& (1152921504606846975 : Int64)) + per) ((q0 &&& (1152921504606846975 : Int64)) + dt) per)), .second, .val (.int (1 : Int32)), .unset]) rfl κ) ?_
          show own_Go _ _ _ _ (T21.setTop (mkF m 122 #[.val (.long q0), .second, .val (.long q1), .second, .val (.long q2), .second, .val (.int p3), .val (.int p4), .val (.long per), .second, .val (.long (q0 &&& (1152921504606846975 : Int64))), .second, .val (.long dt), .second, .val (.long ((q0 &&& (1152921504606846975 : Int64)) + dt)), .second, .val (.ref b4), .val (.long ((q0 &&& (1152921504606846975 : Int64)) + per)), .second, .val (.long (own_after ((q0 &&& (1152921504606846975 : Int64)) + per) ((q0 &&& (1152921504606846975 : Int64)) + dt) per)), .second, .val (.int (1 : Int32)), .unset] []))
          refine own_step (fun _ κ => XS.aload X21.here hx rfl (hb hby at_122) rfl rfl κ) ?_
          show own_Go _ _ _ _ (T21.setTop (mkF m 124 #[.val (.long q0), .second, .val (.long q1), .second, .val (.long q2), .second, .val (.int p3), .val (.int p4), .val (.long per), .second, .val (.long (q0 &&& (1152921504606846975 : Int64))), .second, .val (.long dt), .second, .val (.long ((q0 &&& (1152921504606846975 : Int64)) + dt)), .second, .val (.ref b4), .val (.long ((q0 &&& (1152921504606846975 : Int64)) + per)), .second, .val (.long (own_after ((q0 &&& (1152921504606846975 : Int64)) + per) ((q0 &&& (1152921504606846975 : Int64)) + dt) per)), .second, .val (.int (1 : Int32)), .unset] [(.ref b4)]))
          refine own_step (fun _ κ => XS.lload X21.here hx rfl (hb hby at_124) rfl κ) ?_
          show own_Go _ _ _ _ (T21.setTop (mkF m 126 #[.val (.long q0), .second, .val (.long q1), .second, .val (.long q2), .second, .val (.int p3), .val (.int p4), .val (.long per), .second, .val (.long (q0 &&& (1152921504606846975 : Int64))), .second, .val (.long dt), .second, .val (.long ((q0 &&& (1152921504606846975 : Int64)) + dt)), .second, .val (.ref b4), .val (.long ((q0 &&& (1152921504606846975 : Int64)) + per)), .second, .val (.long (own_after ((q0 &&& (1152921504606846975 : Int64)) + per) ((q0 &&& (1152921504606846975 : Int64)) + dt) per)), .second, .val (.int (1 : Int32)), .unset] [(.long ((q0 &&& (1152921504606846975 : Int64)) + dt)), (.ref b4)]))
          obtain ⟨cq22, kq22, q22a, q22b, q22c⟩ := isOf hZ eq21 p17_0
          obtain ⟨vr22, _, ⟨T22, L22, k22, n22⟩, -, X22, ⟨Lc22, hQ22, l22, y22, z22⟩, st22⟩ := X21.virtualBack hx (y := (⟨"com/example/lockstep/lockstep/session/Ticks", "due", "(J)Z"⟩ : MethodName)) (z := (⟨"com/example/lockstep/lockstep/session/Ticks", "due", "(J)Z"⟩ : MethodName)) hown (mvT hZ (hw _ (List.mem_of_getElem? (i := 47) rfl))) (mvT hZ (hw _ (List.mem_of_getElem? (i := 48) rfl))) (notFace_of_selects (args := #[]) (mvT hZ (hw _ (List.mem_of_getElem? (i := 50) rfl)))) (mvT hZ (hw _ (List.mem_of_getElem? (i := 50) rfl))) (mvT hZ (hw _ (List.mem_of_getElem? (i := 49) rfl))) (by decide) (backOf (W := 0) (rm11 l Z a0 hw [] b4 ((q0 &&& (1152921504606846975 : Int64)) + dt) per (own_after ((q0 &&& (1152921504606846975 : Int64)) + per) ((q0 &&& (1152921504606846975 : Int64)) + dt) per) T17.heap n0 z19 p17_1 p17_2) hZ (hw _ (List.mem_of_getElem? (i := 51) rfl)) (hw _ (List.mem_of_getElem? (i := 4) rfl)) (by decide) (by decide)) q22a q22c (g := (mkF m 126 #[.val (.long q0), .second, .val (.long q1), .second, .val (.long q2), .second, .val (.int p3), .val (.int p4), .val (.long per), .second, .val (.long (q0 &&& (1152921504606846975 : Int64))), .second, .val (.long dt), .second, .val (.long ((q0 &&& (1152921504606846975 : Int64)) + dt)), .second, .val (.ref b4), .val (.long ((q0 &&& (1152921504606846975 : Int64)) + per)), .second, .val (.long (own_after ((q0 &&& (1152921504606846975 : Int64)) + per) ((q0 &&& (1152921504606846975 : Int64)) + dt) per)), .second, .val (.int (1 : Int32)), .unset] [(.long ((q0 &&& (1152921504606846975 : Int64)) + dt)), (.ref b4)])) rfl (by rw [hml]; rfl) (Steps.refl _) (argsL := [(.long ((q0 &&& (1152921504606846975 : Int64)) + dt))]) (rest := []) (lenOf pd_5 rfl) rfl (by show 2 * 0 + _ ≤ _; exact Nat.le_of_eq rfl) (hb hby at_126) (fun _ _ => ⟨rfl, eq21, (by decide : 1 + 0 ≤ _), (by decide : 3 + 0 ≤ _)⟩)
          dsimp only [Pt.U, Pt.locs, Pt.cells, Pt.slots] at X22 l22 y22 z22 st22 hQ22
          subst l22 y22 z22
          obtain ⟨hv22, Nq22, eq22⟩ := hQ22
          have N22 := Fr.app N21 Nq22
          rw [if_pos hc3] at hv22
          rw [if_pos (own_L1 hc3 pr1 (own_b (own_m60 q0) pr1) (own_t (own_m60 q0) pr2) hc12)] at hv22
          subst hv22
          refine own_step (fun _ κ => st22.trans κ) ?_
          show own_Go _ _ _ _ (T22.setTop (mkF m 129 #[.val (.long q0), .second, .val (.long q1), .second, .val (.long q2), .second, .val (.int p3), .val (.int p4), .val (.long per), .second, .val (.long (q0 &&& (1152921504606846975 : Int64))), .second, .val (.long dt), .second, .val (.long ((q0 &&& (1152921504606846975 : Int64)) + dt)), .second, .val (.ref b4), .val (.long ((q0 &&& (1152921504606846975 : Int64)) + per)), .second, .val (.long (own_after ((q0 &&& (1152921504606846975 : Int64)) + per) ((q0 &&& (1152921504606846975 : Int64)) + dt) per)), .second, .val (.int (1 : Int32)), .unset] [(.int (0 : Int32))]))
          refine own_step (fun _ κ => XS.istore X22.here hx rfl (hb hby at_129) rfl (l' := #[.val (.long q0), .second, .val (.long q1), .second, .val (.long q2), .second, .val (.int p3), .val (.int p4), .val (.long per), .second, .val (.long (q0 &&& (1152921504606846975 : Int64))), .second, .val (.long dt), .second, .val (.long ((q0 &&& (1152921504606846975 : Int64)) + dt)), .second, .val (.ref b4), .val (.long ((q0 &&& (1152921504606846975 : Int64)) + per)), .second, .val (.long (own_after ((q0 &&& (1152921504606846975 : Int64)) + per) ((q0 &&& (1152921504606846975 : Int64)) + dt) per)), .second, .val (.int (1 : Int32)), .val (.int (0 : Int32))]) rfl κ) ?_
          show own_Go _ _ _ _ (T22.setTop (mkF m 131 #[.val (.long q0), .second, .val (.long q1), .second, .val (.long q2), .second, .val (.int p3), .val (.int p4), .val (.long per), .second, .val (.long (q0 &&& (1152921504606846975 : Int64))), .second, .val (.long dt), .second, .val (.long ((q0 &&& (1152921504606846975 : Int64)) + dt)), .second, .val (.ref b4), .val (.long ((q0 &&& (1152921504606846975 : Int64)) + per)), .second, .val (.long (own_after ((q0 &&& (1152921504606846975 : Int64)) + per) ((q0 &&& (1152921504606846975 : Int64)) + dt) per)), .second, .val (.int (1 : Int32)), .val (.int (0 : Int32))] []))
          refine own_step (fun _ κ => XS.lload X22.here hx rfl (hb hby at_131) rfl κ) ?_
          show own_Go _ _ _ _ (T22.setTop (mkF m 133 #[.val (.long q0), .second, .val (.long q1), .second, .val (.long q2), .second, .val (.int p3), .val (.int p4), .val (.long per), .second, .val (.long (q0 &&& (1152921504606846975 : Int64))), .second, .val (.long dt), .second, .val (.long ((q0 &&& (1152921504606846975 : Int64)) + dt)), .second, .val (.ref b4), .val (.long ((q0 &&& (1152921504606846975 : Int64)) + per)), .second, .val (.long (own_after ((q0 &&& (1152921504606846975 : Int64)) + per) ((q0 &&& (1152921504606846975 : Int64)) + dt) per)), .second, .val (.int (1 : Int32)), .val (.int (0 : Int32))] [(.long per)]))
          refine own_step (fun _ κ => XS.lconst X22.here hx rfl (hb hby at_133) κ) ?_
          show own_Go _ _ _ _ (T22.setTop (mkF m 134 #[.val (.long q0), .second, .val (.long q1), .second, .val (.long q2), .second, .val (.int p3), .val (.int p4), .val (.long per), .second, .val (.long (q0 &&& (1152921504606846975 : Int64))), .second, .val (.long dt), .second, .val (.long ((q0 &&& (1152921504606846975 : Int64)) + dt)), .second, .val (.ref b4), .val (.long ((q0 &&& (1152921504606846975 : Int64)) + per)), .second, .val (.long (own_after ((q0 &&& (1152921504606846975 : Int64)) + per) ((q0 &&& (1152921504606846975 : Int64)) + dt) per)), .second, .val (.int (1 : Int32)), .val (.int (0 : Int32))] [(.long (0 : Int64)), (.long per)]))
          refine own_step (fun _ κ => XS.lcmp X22.here hx rfl (hb hby at_134) rfl κ) ?_
          show own_Go _ _ _ _ (T22.setTop (mkF m 135 #[.val (.long q0), .second, .val (.long q1), .second, .val (.long q2), .second, .val (.int p3), .val (.int p4), .val (.long per), .second, .val (.long (q0 &&& (1152921504606846975 : Int64))), .second, .val (.long dt), .second, .val (.long ((q0 &&& (1152921504606846975 : Int64)) + dt)), .second, .val (.ref b4), .val (.long ((q0 &&& (1152921504606846975 : Int64)) + per)), .second, .val (.long (own_after ((q0 &&& (1152921504606846975 : Int64)) + per) ((q0 &&& (1152921504606846975 : Int64)) + dt) per)), .second, .val (.int (1 : Int32)), .val (.int (0 : Int32))] [(.int (lcmpW per (0 : Int64)))]))
          refine own_step (fun _ κ => XS.ifYes X22.here hx rfl (pc0 := 135) (pc' := 162) rfl (hb hby at_135) rfl ((if0 _ _).trans (feq (fun q => absurd ((lw_eq _ _).mp q) (own_nz hc3))).2) (by decide) (by decide) κ) ?_
          show own_Go _ _ _ _ (T22.setTop (mkF m 162 #[.val (.long q0), .second, .val (.long q1), .second, .val (.long q2), .second, .val (.int p3), .val (.int p4), .val (.long per), .second, .val (.long (q0 &&& (1152921504606846975 : Int64))), .second, .val (.long dt), .second, .val (.long ((q0 &&& (1152921504606846975 : Int64)) + dt)), .second, .val (.ref b4), .val (.long ((q0 &&& (1152921504606846975 : Int64)) + per)), .second, .val (.long (own_after ((q0 &&& (1152921504606846975 : Int64)) + per) ((q0 &&& (1152921504606846975 : Int64)) + dt) per)), .second, .val (.int (1 : Int32)), .val (.int (0 : Int32))] []))
          refine own_step (fun _ κ => XS.lload X22.here hx rfl (hb hby at_162) rfl κ) ?_
          show own_Go _ _ _ _ (T22.setTop (mkF m 164 #[.val (.long q0), .second, .val (.long q1), .second, .val (.long q2), .second, .val (.int p3), .val (.int p4), .val (.long per), .second, .val (.long (q0 &&& (1152921504606846975 : Int64))), .second, .val (.long dt), .second, .val (.long ((q0 &&& (1152921504606846975 : Int64)) + dt)), .second, .val (.ref b4), .val (.long ((q0 &&& (1152921504606846975 : Int64)) + per)), .second, .val (.long (own_after ((q0 &&& (1152921504606846975 : Int64)) + per) ((q0 &&& (1152921504606846975 : Int64)) + dt) per)), .second, .val (.int (1 : Int32)), .val (.int (0 : Int32))] [(.long ((q0 &&& (1152921504606846975 : Int64)) + per))]))
          refine own_step (fun _ κ => XS.lload X22.here hx rfl (hb hby at_164) rfl κ) ?_
          show own_Go _ _ _ _ (T22.setTop (mkF m 166 #[.val (.long q0), .second, .val (.long q1), .second, .val (.long q2), .second, .val (.int p3), .val (.int p4), .val (.long per), .second, .val (.long (q0 &&& (1152921504606846975 : Int64))), .second, .val (.long dt), .second, .val (.long ((q0 &&& (1152921504606846975 : Int64)) + dt)), .second, .val (.ref b4), .val (.long ((q0 &&& (1152921504606846975 : Int64)) + per)), .second, .val (.long (own_after ((q0 &&& (1152921504606846975 : Int64)) + per) ((q0 &&& (1152921504606846975 : Int64)) + dt) per)), .second, .val (.int (1 : Int32)), .val (.int (0 : Int32))] [(.long (q0 &&& (1152921504606846975 : Int64))), (.long ((q0 &&& (1152921504606846975 : Int64)) + per))]))
          refine own_step (fun _ κ => XS.lload X22.here hx rfl (hb hby at_166) rfl κ) ?_
          show own_Go _ _ _ _ (T22.setTop (mkF m 168 #[.val (.long q0), .second, .val (.long q1), .second, .val (.long q2), .second, .val (.int p3), .val (.int p4), .val (.long per), .second, .val (.long (q0 &&& (1152921504606846975 : Int64))), .second, .val (.long dt), .second, .val (.long ((q0 &&& (1152921504606846975 : Int64)) + dt)), .second, .val (.ref b4), .val (.long ((q0 &&& (1152921504606846975 : Int64)) + per)), .second, .val (.long (own_after ((q0 &&& (1152921504606846975 : Int64)) + per) ((q0 &&& (1152921504606846975 : Int64)) + dt) per)), .second, .val (.int (1 : Int32)), .val (.int (0 : Int32))] [(.long per), (.long (q0 &&& (1152921504606846975 : Int64))), (.long ((q0 &&& (1152921504606846975 : Int64)) + per))]))
          refine own_step (fun _ κ => XS.ladd X22.here hx rfl (hb hby at_168) rfl κ) ?_
          show own_Go _ _ _ _ (T22.setTop (mkF m 169 #[.val (.long q0), .second, .val (.long q1), .second, .val (.long q2), .second, .val (.int p3), .val (.int p4), .val (.long per), .second, .val (.long (q0 &&& (1152921504606846975 : Int64))), .second, .val (.long dt), .second, .val (.long ((q0 &&& (1152921504606846975 : Int64)) + dt)), .second, .val (.ref b4), .val (.long ((q0 &&& (1152921504606846975 : Int64)) + per)), .second, .val (.long (own_after ((q0 &&& (1152921504606846975 : Int64)) + per) ((q0 &&& (1152921504606846975 : Int64)) + dt) per)), .second, .val (.int (1 : Int32)), .val (.int (0 : Int32))] [(.long ((q0 &&& (1152921504606846975 : Int64)) + per)), (.long ((q0 &&& (1152921504606846975 : Int64)) + per))]))
          refine own_step (fun _ κ => XS.lcmp X22.here hx rfl (hb hby at_169) rfl κ) ?_
          show own_Go _ _ _ _ (T22.setTop (mkF m 170 #[.val (.long q0), .second, .val (.long q1), .second, .val (.long q2), .second, .val (.int p3), .val (.int p4), .val (.long per), .second, .val (.long (q0 &&& (1152921504606846975 : Int64))), .second, .val (.long dt), .second, .val (.long ((q0 &&& (1152921504606846975 : Int64)) + dt)), .second, .val (.ref b4), .val (.long ((q0 &&& (1152921504606846975 : Int64)) + per)), .second, .val (.long (own_after ((q0 &&& (1152921504606846975 : Int64)) + per) ((q0 &&& (1152921504606846975 : Int64)) + dt) per)), .second, .val (.int (1 : Int32)), .val (.int (0 : Int32))] [(.int (lcmpW ((q0 &&& (1152921504606846975 : Int64)) + per) ((q0 &&& (1152921504606846975 : Int64)) + per)))]))
          refine own_step (fun _ κ => XS.ifYes X22.here hx rfl (pc0 := 170) (pc' := 175) rfl (hb hby at_170) rfl ((if0 _ _).trans (teq ((lw_eq _ _).mpr rfl)).1) (by decide) (by decide) κ) ?_
          show own_Go _ _ _ _ (T22.setTop (mkF m 175 #[.val (.long q0), .second, .val (.long q1), .second, .val (.long q2), .second, .val (.int p3), .val (.int p4), .val (.long per), .second, .val (.long (q0 &&& (1152921504606846975 : Int64))), .second, .val (.long dt), .second, .val (.long ((q0 &&& (1152921504606846975 : Int64)) + dt)), .second, .val (.ref b4), .val (.long ((q0 &&& (1152921504606846975 : Int64)) + per)), .second, .val (.long (own_after ((q0 &&& (1152921504606846975 : Int64)) + per) ((q0 &&& (1152921504606846975 : Int64)) + dt) per)), .second, .val (.int (1 : Int32)), .val (.int (0 : Int32))] []))
          refine own_step (fun _ κ => XS.lload X22.here hx rfl (hb hby at_175) rfl κ) ?_
          show own_Go _ _ _ _ (T22.setTop (mkF m 177 #[.val (.long q0), .second, .val (.long q1), .second, .val (.long q2), .second, .val (.int p3), .val (.int p4), .val (.long per), .second, .val (.long (q0 &&& (1152921504606846975 : Int64))), .second, .val (.long dt), .second, .val (.long ((q0 &&& (1152921504606846975 : Int64)) + dt)), .second, .val (.ref b4), .val (.long ((q0 &&& (1152921504606846975 : Int64)) + per)), .second, .val (.long (own_after ((q0 &&& (1152921504606846975 : Int64)) + per) ((q0 &&& (1152921504606846975 : Int64)) + dt) per)), .second, .val (.int (1 : Int32)), .val (.int (0 : Int32))] [(.long ((q0 &&& (1152921504606846975 : Int64)) + per))]))
          refine own_step (fun _ κ => XS.lload X22.here hx rfl (hb hby at_177) rfl κ) ?_
          show own_Go _ _ _ _ (T22.setTop (mkF m 179 #[.val (.long q0), .second, .val (.long q1), .second, .val (.long q2), .second, .val (.int p3), .val (.int p4), .val (.long per), .second, .val (.long (q0 &&& (1152921504606846975 : Int64))), .second, .val (.long dt), .second, .val (.long ((q0 &&& (1152921504606846975 : Int64)) + dt)), .second, .val (.ref b4), .val (.long ((q0 &&& (1152921504606846975 : Int64)) + per)), .second, .val (.long (own_after ((q0 &&& (1152921504606846975 : Int64)) + per) ((q0 &&& (1152921504606846975 : Int64)) + dt) per)), .second, .val (.int (1 : Int32)), .val (.int (0 : Int32))] [(.long ((q0 &&& (1152921504606846975 : Int64)) + dt)), (.long ((q0 &&& (1152921504606846975 : Int64)) + per))]))
          refine own_step (fun _ κ => XS.lcmp X22.here hx rfl (hb hby at_179) rfl κ) ?_
          show own_Go _ _ _ _ (T22.setTop (mkF m 180 #[.val (.long q0), .second, .val (.long q1), .second, .val (.long q2), .second, .val (.int p3), .val (.int p4), .val (.long per), .second, .val (.long (q0 &&& (1152921504606846975 : Int64))), .second, .val (.long dt), .second, .val (.long ((q0 &&& (1152921504606846975 : Int64)) + dt)), .second, .val (.ref b4), .val (.long ((q0 &&& (1152921504606846975 : Int64)) + per)), .second, .val (.long (own_after ((q0 &&& (1152921504606846975 : Int64)) + per) ((q0 &&& (1152921504606846975 : Int64)) + dt) per)), .second, .val (.int (1 : Int32)), .val (.int (0 : Int32))] [(.int (lcmpW ((q0 &&& (1152921504606846975 : Int64)) + per) ((q0 &&& (1152921504606846975 : Int64)) + dt)))]))
          refine own_step (fun _ κ => XS.ifYes X22.here hx rfl (pc0 := 180) (pc' := 207) rfl (hb hby at_180) rfl ((if0 _ _).trans (flt (fun q => absurd ((lw_gt _ _).mp q) hc12)).2.2.2) (by decide) (by decide) κ) ?_
          show own_Go _ _ _ _ (T22.setTop (mkF m 207 #[.val (.long q0), .second, .val (.long q1), .second, .val (.long q2), .second, .val (.int p3), .val (.int p4), .val (.long per), .second, .val (.long (q0 &&& (1152921504606846975 : Int64))), .second, .val (.long dt), .second, .val (.long ((q0 &&& (1152921504606846975 : Int64)) + dt)), .second, .val (.ref b4), .val (.long ((q0 &&& (1152921504606846975 : Int64)) + per)), .second, .val (.long (own_after ((q0 &&& (1152921504606846975 : Int64)) + per) ((q0 &&& (1152921504606846975 : Int64)) + dt) per)), .second, .val (.int (1 : Int32)), .val (.int (0 : Int32))] []))
          refine own_step (fun _ κ => XS.iload X22.here hx rfl (hb hby at_207) rfl κ) ?_
          show own_Go _ _ _ _ (T22.setTop (mkF m 209 #[.val (.long q0), .second, .val (.long q1), .second, .val (.long q2), .second, .val (.int p3), .val (.int p4), .val (.long per), .second, .val (.long (q0 &&& (1152921504606846975 : Int64))), .second, .val (.long dt), .second, .val (.long ((q0 &&& (1152921504606846975 : Int64)) + dt)), .second, .val (.ref b4), .val (.long ((q0 &&& (1152921504606846975 : Int64)) + per)), .second, .val (.long (own_after ((q0 &&& (1152921504606846975 : Int64)) + per) ((q0 &&& (1152921504606846975 : Int64)) + dt) per)), .second, .val (.int (1 : Int32)), .val (.int (0 : Int32))] [(.int (1 : Int32))]))
          refine own_step (fun _ κ => XS.ifNo X22.here hx rfl (hb hby at_209) rfl ((if0 _ _).trans (feq (by decide)).1) κ) ?_
          show own_Go _ _ _ _ (T22.setTop (mkF m 212 #[.val (.long q0), .second, .val (.long q1), .second, .val (.long q2), .second, .val (.int p3), .val (.int p4), .val (.long per), .second, .val (.long (q0 &&& (1152921504606846975 : Int64))), .second, .val (.long dt), .second, .val (.long ((q0 &&& (1152921504606846975 : Int64)) + dt)), .second, .val (.ref b4), .val (.long ((q0 &&& (1152921504606846975 : Int64)) + per)), .second, .val (.long (own_after ((q0 &&& (1152921504606846975 : Int64)) + per) ((q0 &&& (1152921504606846975 : Int64)) + dt) per)), .second, .val (.int (1 : Int32)), .val (.int (0 : Int32))] []))
          refine own_step (fun _ κ => XS.lload X22.here hx rfl (hb hby at_212) rfl κ) ?_
          show own_Go _ _ _ _ (T22.setTop (mkF m 214 #[.val (.long q0), .second, .val (.long q1), .second, .val (.long q2), .second, .val (.int p3), .val (.int p4), .val (.long per), .second, .val (.long (q0 &&& (1152921504606846975 : Int64))), .second, .val (.long dt), .second, .val (.long ((q0 &&& (1152921504606846975 : Int64)) + dt)), .second, .val (.ref b4), .val (.long ((q0 &&& (1152921504606846975 : Int64)) + per)), .second, .val (.long (own_after ((q0 &&& (1152921504606846975 : Int64)) + per) ((q0 &&& (1152921504606846975 : Int64)) + dt) per)), .second, .val (.int (1 : Int32)), .val (.int (0 : Int32))] [(.long (own_after ((q0 &&& (1152921504606846975 : Int64)) + per) ((q0 &&& (1152921504606846975 : Int64)) + dt) per))]))
          refine own_step (fun _ κ => XS.lload X22.here hx rfl (hb hby at_214) rfl κ) ?_
          show own_Go _ _ _ _ (T22.setTop (mkF m 216 #[.val (.long q0), .second, .val (.long q1), .second, .val (.long q2), .second, .val (.int p3), .val (.int p4), .val (.long per), .second, .val (.long (q0 &&& (1152921504606846975 : Int64))), .second, .val (.long dt), .second, .val (.long ((q0 &&& (1152921504606846975 : Int64)) + dt)), .second, .val (.ref b4), .val (.long ((q0 &&& (1152921504606846975 : Int64)) + per)), .second, .val (.long (own_after ((q0 &&& (1152921504606846975 : Int64)) + per) ((q0 &&& (1152921504606846975 : Int64)) + dt) per)), .second, .val (.int (1 : Int32)), .val (.int (0 : Int32))] [(.long ((q0 &&& (1152921504606846975 : Int64)) + dt)), (.long (own_after ((q0 &&& (1152921504606846975 : Int64)) + per) ((q0 &&& (1152921504606846975 : Int64)) + dt) per))]))
          refine own_step (fun _ κ => XS.lcmp X22.here hx rfl (hb hby at_216) rfl κ) ?_
          show own_Go _ _ _ _ (T22.setTop (mkF m 217 #[.val (.long q0), .second, .val (.long q1), .second, .val (.long q2), .second, .val (.int p3), .val (.int p4), .val (.long per), .second, .val (.long (q0 &&& (1152921504606846975 : Int64))), .second, .val (.long dt), .second, .val (.long ((q0 &&& (1152921504606846975 : Int64)) + dt)), .second, .val (.ref b4), .val (.long ((q0 &&& (1152921504606846975 : Int64)) + per)), .second, .val (.long (own_after ((q0 &&& (1152921504606846975 : Int64)) + per) ((q0 &&& (1152921504606846975 : Int64)) + dt) per)), .second, .val (.int (1 : Int32)), .val (.int (0 : Int32))] [(.int (lcmpW (own_after ((q0 &&& (1152921504606846975 : Int64)) + per) ((q0 &&& (1152921504606846975 : Int64)) + dt) per) ((q0 &&& (1152921504606846975 : Int64)) + dt)))]))
          refine own_step (fun _ κ => XS.ifNo X22.here hx rfl (hb hby at_217) rfl ((if0 _ _).trans (tlt ((lw_gt _ _).mpr (own_L1 hc3 pr1 (own_b (own_m60 q0) pr1) (own_t (own_m60 q0) pr2) hc12))).2.2.2) κ) ?_
          show own_Go _ _ _ _ (T22.setTop (mkF m 220 #[.val (.long q0), .second, .val (.long q1), .second, .val (.long q2), .second, .val (.int p3), .val (.int p4), .val (.long per), .second, .val (.long (q0 &&& (1152921504606846975 : Int64))), .second, .val (.long dt), .second, .val (.long ((q0 &&& (1152921504606846975 : Int64)) + dt)), .second, .val (.ref b4), .val (.long ((q0 &&& (1152921504606846975 : Int64)) + per)), .second, .val (.long (own_after ((q0 &&& (1152921504606846975 : Int64)) + per) ((q0 &&& (1152921504606846975 : Int64)) + dt) per)), .second, .val (.int (1 : Int32)), .val (.int (0 : Int32))] []))
          refine own_step (fun _ κ => XS.lload X22.here hx rfl (hb hby at_220) rfl κ) ?_
          show own_Go _ _ _ _ (T22.setTop (mkF m 222 #[.val (.long q0), .second, .val (.long q1), .second, .val (.long q2), .second, .val (.int p3), .val (.int p4), .val (.long per), .second, .val (.long (q0 &&& (1152921504606846975 : Int64))), .second, .val (.long dt), .second, .val (.long ((q0 &&& (1152921504606846975 : Int64)) + dt)), .second, .val (.ref b4), .val (.long ((q0 &&& (1152921504606846975 : Int64)) + per)), .second, .val (.long (own_after ((q0 &&& (1152921504606846975 : Int64)) + per) ((q0 &&& (1152921504606846975 : Int64)) + dt) per)), .second, .val (.int (1 : Int32)), .val (.int (0 : Int32))] [(.long (own_after ((q0 &&& (1152921504606846975 : Int64)) + per) ((q0 &&& (1152921504606846975 : Int64)) + dt) per))]))
          refine own_step (fun _ κ => XS.lload X22.here hx rfl (hb hby at_222) rfl κ) ?_
          show own_Go _ _ _ _ (T22.setTop (mkF m 224 #[.val (.long q0), .second, .val (.long q1), .second, .val (.long q2), .second, .val (.int p3), .val (.int p4), .val (.long per), .second, .val (.long (q0 &&& (1152921504606846975 : Int64))), .second, .val (.long dt), .second, .val (.long ((q0 &&& (1152921504606846975 : Int64)) + dt)), .second, .val (.ref b4), .val (.long ((q0 &&& (1152921504606846975 : Int64)) + per)), .second, .val (.long (own_after ((q0 &&& (1152921504606846975 : Int64)) + per) ((q0 &&& (1152921504606846975 : Int64)) + dt) per)), .second, .val (.int (1 : Int32)), .val (.int (0 : Int32))] [(.long per), (.long (own_after ((q0 &&& (1152921504606846975 : Int64)) + per) ((q0 &&& (1152921504606846975 : Int64)) + dt) per))]))
          refine own_step (fun _ κ => XS.lsub X22.here hx rfl (hb hby at_224) rfl κ) ?_
          show own_Go _ _ _ _ (T22.setTop (mkF m 225 #[.val (.long q0), .second, .val (.long q1), .second, .val (.long q2), .second, .val (.int p3), .val (.int p4), .val (.long per), .second, .val (.long (q0 &&& (1152921504606846975 : Int64))), .second, .val (.long dt), .second, .val (.long ((q0 &&& (1152921504606846975 : Int64)) + dt)), .second, .val (.ref b4), .val (.long ((q0 &&& (1152921504606846975 : Int64)) + per)), .second, .val (.long (own_after ((q0 &&& (1152921504606846975 : Int64)) + per) ((q0 &&& (1152921504606846975 : Int64)) + dt) per)), .second, .val (.int (1 : Int32)), .val (.int (0 : Int32))] [(.long ((own_after ((q0 &&& (1152921504606846975 : Int64)) + per) ((q0 &&& (1152921504606846975 : Int64)) + dt) per) - per))]))
          refine own_step (fun _ κ => XS.lload X22.here hx rfl (hb hby at_225) rfl κ) ?_
          show own_Go _ _ _ _ (T22.setTop (mkF m 227 #[.val (.long q0), .second, .val (.long q1), .second, .val (.long q2), .second, .val (.int p3), .val (.int p4), .val (.long per), .second, .val (.long (q0 &&& (1152921504606846975 : Int64))), .second, .val (.long dt), .second, .val (.long ((q0 &&& (1152921504606846975 : Int64)) + dt)), .second, .val (.ref b4), .val (.long ((q0 &&& (1152921504606846975 : Int64)) + per)), .second, .val (.long (own_after ((q0 &&& (1152921504606846975 : Int64)) + per) ((q0 &&& (1152921504606846975 : Int64)) + dt) per)), .second, .val (.int (1 : Int32)), .val (.int (0 : Int32))] [(.long ((q0 &&& (1152921504606846975 : Int64)) + dt)), (.long ((own_after ((q0 &&& (1152921504606846975 : Int64)) + per) ((q0 &&& (1152921504606846975 : Int64)) + dt) per) - per))]))
          refine own_step (fun _ κ => XS.lcmp X22.here hx rfl (hb hby at_227) rfl κ) ?_
          show own_Go _ _ _ _ (T22.setTop (mkF m 228 #[.val (.long q0), .second, .val (.long q1), .second, .val (.long q2), .second, .val (.int p3), .val (.int p4), .val (.long per), .second, .val (.long (q0 &&& (1152921504606846975 : Int64))), .second, .val (.long dt), .second, .val (.long ((q0 &&& (1152921504606846975 : Int64)) + dt)), .second, .val (.ref b4), .val (.long ((q0 &&& (1152921504606846975 : Int64)) + per)), .second, .val (.long (own_after ((q0 &&& (1152921504606846975 : Int64)) + per) ((q0 &&& (1152921504606846975 : Int64)) + dt) per)), .second, .val (.int (1 : Int32)), .val (.int (0 : Int32))] [(.int (lcmpW ((own_after ((q0 &&& (1152921504606846975 : Int64)) + per) ((q0 &&& (1152921504606846975 : Int64)) + dt) per) - per) ((q0 &&& (1152921504606846975 : Int64)) + dt)))]))
          refine own_step (fun _ κ => XS.ifNo X22.here hx rfl (hb hby at_228) rfl ((if0 _ _).trans (flt (fun q => absurd ((lw_gt _ _).mp q) (own_L2 hc3 pr1 (own_b (own_m60 q0) pr1) (own_t (own_m60 q0) pr2) hc12))).2.2.1) κ) ?_
          show own_Go _ _ _ _ (T22.setTop (mkF m 231 #[.val (.long q0), .second, .val (.long q1), .second, .val (.long q2), .second, .val (.int p3), .val (.int p4), .val (.long per), .second, .val (.long (q0 &&& (1152921504606846975 : Int64))), .second, .val (.long dt), .second, .val (.long ((q0 &&& (1152921504606846975 : Int64)) + dt)), .second, .val (.ref b4), .val (.long ((q0 &&& (1152921504606846975 : Int64)) + per)), .second, .val (.long (own_after ((q0 &&& (1152921504606846975 : Int64)) + per) ((q0 &&& (1152921504606846975 : Int64)) + dt) per)), .second, .val (.int (1 : Int32)), .val (.int (0 : Int32))] []))
          refine own_step (fun _ κ => XS.lload X22.here hx rfl (hb hby at_231) rfl κ) ?_
          show own_Go _ _ _ _ (T22.setTop (mkF m 233 #[.val (.long q0), .second, .val (.long q1), .second, .val (.long q2), .second, .val (.int p3), .val (.int p4), .val (.long per), .second, .val (.long (q0 &&& (1152921504606846975 : Int64))), .second, .val (.long dt), .second, .val (.long ((q0 &&& (1152921504606846975 : Int64)) + dt)), .second, .val (.ref b4), .val (.long ((q0 &&& (1152921504606846975 : Int64)) + per)), .second, .val (.long (own_after ((q0 &&& (1152921504606846975 : Int64)) + per) ((q0 &&& (1152921504606846975 : Int64)) + dt) per)), .second, .val (.int (1 : Int32)), .val (.int (0 : Int32))] [(.long (own_after ((q0 &&& (1152921504606846975 : Int64)) + per) ((q0 &&& (1152921504606846975 : Int64)) + dt) per))]))
          refine own_step (fun _ κ => XS.lload X22.here hx rfl (hb hby at_233) rfl κ) ?_
          show own_Go _ _ _ _ (T22.setTop (mkF m 235 #[.val (.long q0), .second, .val (.long q1), .second, .val (.long q2), .second, .val (.int p3), .val (.int p4), .val (.long per), .second, .val (.long (q0 &&& (1152921504606846975 : Int64))), .second, .val (.long dt), .second, .val (.long ((q0 &&& (1152921504606846975 : Int64)) + dt)), .second, .val (.ref b4), .val (.long ((q0 &&& (1152921504606846975 : Int64)) + per)), .second, .val (.long (own_after ((q0 &&& (1152921504606846975 : Int64)) + per) ((q0 &&& (1152921504606846975 : Int64)) + dt) per)), .second, .val (.int (1 : Int32)), .val (.int (0 : Int32))] [(.long ((q0 &&& (1152921504606846975 : Int64)) + per)), (.long (own_after ((q0 &&& (1152921504606846975 : Int64)) + per) ((q0 &&& (1152921504606846975 : Int64)) + dt) per))]))
          refine own_step (fun _ κ => XS.lsub X22.here hx rfl (hb hby at_235) rfl κ) ?_
          show own_Go _ _ _ _ (T22.setTop (mkF m 236 #[.val (.long q0), .second, .val (.long q1), .second, .val (.long q2), .second, .val (.int p3), .val (.int p4), .val (.long per), .second, .val (.long (q0 &&& (1152921504606846975 : Int64))), .second, .val (.long dt), .second, .val (.long ((q0 &&& (1152921504606846975 : Int64)) + dt)), .second, .val (.ref b4), .val (.long ((q0 &&& (1152921504606846975 : Int64)) + per)), .second, .val (.long (own_after ((q0 &&& (1152921504606846975 : Int64)) + per) ((q0 &&& (1152921504606846975 : Int64)) + dt) per)), .second, .val (.int (1 : Int32)), .val (.int (0 : Int32))] [(.long ((own_after ((q0 &&& (1152921504606846975 : Int64)) + per) ((q0 &&& (1152921504606846975 : Int64)) + dt) per) - ((q0 &&& (1152921504606846975 : Int64)) + per)))]))
          refine own_step (fun _ κ => XS.lload X22.here hx rfl (hb hby at_236) rfl κ) ?_
          show own_Go _ _ _ _ (T22.setTop (mkF m 238 #[.val (.long q0), .second, .val (.long q1), .second, .val (.long q2), .second, .val (.int p3), .val (.int p4), .val (.long per), .second, .val (.long (q0 &&& (1152921504606846975 : Int64))), .second, .val (.long dt), .second, .val (.long ((q0 &&& (1152921504606846975 : Int64)) + dt)), .second, .val (.ref b4), .val (.long ((q0 &&& (1152921504606846975 : Int64)) + per)), .second, .val (.long (own_after ((q0 &&& (1152921504606846975 : Int64)) + per) ((q0 &&& (1152921504606846975 : Int64)) + dt) per)), .second, .val (.int (1 : Int32)), .val (.int (0 : Int32))] [(.long per), (.long ((own_after ((q0 &&& (1152921504606846975 : Int64)) + per) ((q0 &&& (1152921504606846975 : Int64)) + dt) per) - ((q0 &&& (1152921504606846975 : Int64)) + per)))]))
          refine own_step (fun _ κ => XS.lrem X22.here hx rfl (hb hby at_238) rfl (own_nz hc3) κ) ?_
          show own_Go _ _ _ _ (T22.setTop (mkF m 239 #[.val (.long q0), .second, .val (.long q1), .second, .val (.long q2), .second, .val (.int p3), .val (.int p4), .val (.long per), .second, .val (.long (q0 &&& (1152921504606846975 : Int64))), .second, .val (.long dt), .second, .val (.long ((q0 &&& (1152921504606846975 : Int64)) + dt)), .second, .val (.ref b4), .val (.long ((q0 &&& (1152921504606846975 : Int64)) + per)), .second, .val (.long (own_after ((q0 &&& (1152921504606846975 : Int64)) + per) ((q0 &&& (1152921504606846975 : Int64)) + dt) per)), .second, .val (.int (1 : Int32)), .val (.int (0 : Int32))] [(.long (((own_after ((q0 &&& (1152921504606846975 : Int64)) + per) ((q0 &&& (1152921504606846975 : Int64)) + dt) per) - ((q0 &&& (1152921504606846975 : Int64)) + per)) - (((own_after ((q0 &&& (1152921504606846975 : Int64)) + per) ((q0 &&& (1152921504606846975 : Int64)) + dt) per) - ((q0 &&& (1152921504606846975 : Int64)) + per)) / per) * per))]))
          refine own_step (fun _ κ => XS.lconst X22.here hx rfl (hb hby at_239) κ) ?_
          show own_Go _ _ _ _ (T22.setTop (mkF m 240 #[.val (.long q0), .second, .val (.long q1), .second, .val (.long q2), .second, .val (.int p3), .val (.int p4), .val (.long per), .second, .val (.long (q0 &&& (1152921504606846975 : Int64))), .second, .val (.long dt), .second, .val (.long ((q0 &&& (1152921504606846975 : Int64)) + dt)), .second, .val (.ref b4), .val (.long ((q0 &&& (1152921504606846975 : Int64)) + per)), .second, .val (.long (own_after ((q0 &&& (1152921504606846975 : Int64)) + per) ((q0 &&& (1152921504606846975 : Int64)) + dt) per)), .second, .val (.int (1 : Int32)), .val (.int (0 : Int32))] [(.long (0 : Int64)), (.long (((own_after ((q0 &&& (1152921504606846975 : Int64)) + per) ((q0 &&& (1152921504606846975 : Int64)) + dt) per) - ((q0 &&& (1152921504606846975 : Int64)) + per)) - (((own_after ((q0 &&& (1152921504606846975 : Int64)) + per) ((q0 &&& (1152921504606846975 : Int64)) + dt) per) - ((q0 &&& (1152921504606846975 : Int64)) + per)) / per) * per))]))
          refine own_step (fun _ κ => XS.lcmp X22.here hx rfl (hb hby at_240) rfl κ) ?_
          show own_Go _ _ _ _ (T22.setTop (mkF m 241 #[.val (.long q0), .second, .val (.long q1), .second, .val (.long q2), .second, .val (.int p3), .val (.int p4), .val (.long per), .second, .val (.long (q0 &&& (1152921504606846975 : Int64))), .second, .val (.long dt), .second, .val (.long ((q0 &&& (1152921504606846975 : Int64)) + dt)), .second, .val (.ref b4), .val (.long ((q0 &&& (1152921504606846975 : Int64)) + per)), .second, .val (.long (own_after ((q0 &&& (1152921504606846975 : Int64)) + per) ((q0 &&& (1152921504606846975 : Int64)) + dt) per)), .second, .val (.int (1 : Int32)), .val (.int (0 : Int32))] [(.int (lcmpW (((own_after ((q0 &&& (1152921504606846975 : Int64)) + per) ((q0 &&& (1152921504606846975 : Int64)) + dt) per) - ((q0 &&& (1152921504606846975 : Int64)) + per)) - (((own_after ((q0 &&& (1152921504606846975 : Int64)) + per) ((q0 &&& (1152921504606846975 : Int64)) + dt) per) - ((q0 &&& (1152921504606846975 : Int64)) + per)) / per) * per) (0 : Int64)))]))
          refine own_step (fun _ κ => XS.ifNo X22.here hx rfl (hb hby at_241) rfl ((if0 _ _).trans (teq ((lw_eq _ _).mpr (own_L3 hc3 pr1 (own_b (own_m60 q0) pr1) (own_t (own_m60 q0) pr2) hc12))).2) κ) ?_
          show own_Go _ _ _ _ (T22.setTop (mkF m 244 #[.val (.long q0), .second, .val (.long q1), .second, .val (.long q2), .second, .val (.int p3), .val (.int p4), .val (.long per), .second, .val (.long (q0 &&& (1152921504606846975 : Int64))), .second, .val (.long dt), .second, .val (.long ((q0 &&& (1152921504606846975 : Int64)) + dt)), .second, .val (.ref b4), .val (.long ((q0 &&& (1152921504606846975 : Int64)) + per)), .second, .val (.long (own_after ((q0 &&& (1152921504606846975 : Int64)) + per) ((q0 &&& (1152921504606846975 : Int64)) + dt) per)), .second, .val (.int (1 : Int32)), .val (.int (0 : Int32))] []))
          refine own_step (fun _ κ => XS.iload X22.here hx rfl (hb hby at_244) rfl κ) ?_
          show own_Go _ _ _ _ (T22.setTop (mkF m 246 #[.val (.long q0), .second, .val (.long q1), .second, .val (.long q2), .second, .val (.int p3), .val (.int p4), .val (.long per), .second, .val (.long (q0 &&& (1152921504606846975 : Int64))), .second, .val (.long dt), .second, .val (.long ((q0 &&& (1152921504606846975 : Int64)) + dt)), .second, .val (.ref b4), .val (.long ((q0 &&& (1152921504606846975 : Int64)) + per)), .second, .val (.long (own_after ((q0 &&& (1152921504606846975 : Int64)) + per) ((q0 &&& (1152921504606846975 : Int64)) + dt) per)), .second, .val (.int (1 : Int32)), .val (.int (0 : Int32))] [(.int (0 : Int32))]))
          refine own_step (fun _ κ => XS.ifNo X22.here hx rfl (hb hby at_246) rfl ((if0 _ _).trans (teq rfl).2) κ) ?_
          show own_Go _ _ _ _ (T22.setTop (mkF m 249 #[.val (.long q0), .second, .val (.long q1), .second, .val (.long q2), .second, .val (.int p3), .val (.int p4), .val (.long per), .second, .val (.long (q0 &&& (1152921504606846975 : Int64))), .second, .val (.long dt), .second, .val (.long ((q0 &&& (1152921504606846975 : Int64)) + dt)), .second, .val (.ref b4), .val (.long ((q0 &&& (1152921504606846975 : Int64)) + per)), .second, .val (.long (own_after ((q0 &&& (1152921504606846975 : Int64)) + per) ((q0 &&& (1152921504606846975 : Int64)) + dt) per)), .second, .val (.int (1 : Int32)), .val (.int (0 : Int32))] []))
          refine own_step (fun _ κ => XS.iconst X22.here hx rfl (hb hby at_249) κ) ?_
          show own_Go _ _ _ _ (T22.setTop (mkF m 250 #[.val (.long q0), .second, .val (.long q1), .second, .val (.long q2), .second, .val (.int p3), .val (.int p4), .val (.long per), .second, .val (.long (q0 &&& (1152921504606846975 : Int64))), .second, .val (.long dt), .second, .val (.long ((q0 &&& (1152921504606846975 : Int64)) + dt)), .second, .val (.ref b4), .val (.long ((q0 &&& (1152921504606846975 : Int64)) + per)), .second, .val (.long (own_after ((q0 &&& (1152921504606846975 : Int64)) + per) ((q0 &&& (1152921504606846975 : Int64)) + dt) per)), .second, .val (.int (1 : Int32)), .val (.int (0 : Int32))] [(.int (1 : Int32))]))
          refine own_step (fun _ κ => XS.goto X22.here hx rfl (pc0 := 250) (pc' := 254) rfl (hb hby at_250) (by decide) (by decide) κ) ?_
          show own_Go _ _ _ _ (T22.setTop (mkF m 254 #[.val (.long q0), .second, .val (.long q1), .second, .val (.long q2), .second, .val (.int p3), .val (.int p4), .val (.long per), .second, .val (.long (q0 &&& (1152921504606846975 : Int64))), .second, .val (.long dt), .second, .val (.long ((q0 &&& (1152921504606846975 : Int64)) + dt)), .second, .val (.ref b4), .val (.long ((q0 &&& (1152921504606846975 : Int64)) + per)), .second, .val (.long (own_after ((q0 &&& (1152921504606846975 : Int64)) + per) ((q0 &&& (1152921504606846975 : Int64)) + dt) per)), .second, .val (.int (1 : Int32)), .val (.int (0 : Int32))] [(.int (1 : Int32))]))
          obtain ⟨fs, hr, hrun, hended, hW, hsame⟩ := X22.leave (v := some (.int (1 : Int32))) (fun h => by rw [Bd.returns] at h; cases h)
          refine ⟨_, _, retN X22 hx (t := .boolean) Bd.returns (by simp) (hb hby at_254) hr, hrun, hended, _, _, rfl, ?_, ⟨_, rfl⟩, hW, hsame.mono (by decide) (by decide)⟩
          show Q0 Z q0 q1 q2 p3 p4  h0 n0 _ T22.heap _
          exact ⟨rfl, N22⟩
      · show own_Go _ _ _ _ (T2.setTop (mkF m 76 #[.val (.long q0), .second, .val (.long q1), .second, .val (.long q2), .second, .val (.int p3), .val (.int p4), .val (.long per), .second, .val (.long (q0 &&& (1152921504606846975 : Int64))), .second, .val (.long dt), .second, .val (.long ((q0 &&& (1152921504606846975 : Int64)) + dt)), .second, .unset, .unset, .unset, .unset, .unset, .unset, .unset] []))
        obtain ⟨T23, h23, X23, e23, E23, A23, D23, U23, st23⟩ := newO X2 hx hZ hown (hw _ (List.mem_of_getElem? (i := 2) rfl)) (hw _ (List.mem_of_getElem? (i := 3) rfl)) (hw _ (List.mem_of_getElem? (i := 4) rfl)) e2 (g := (mkF m 76 #[.val (.long q0), .second, .val (.long q1), .second, .val (.long q2), .second, .val (.int p3), .val (.int p4), .val (.long per), .second, .val (.long (q0 &&& (1152921504606846975 : Int64))), .second, .val (.long dt), .second, .val (.long ((q0 &&& (1152921504606846975 : Int64)) + dt)), .second, .unset, .unset, .unset, .unset, .unset, .unset, .unset] [])) rfl (hb hby at_76) (by decide) (by decide)
        obtain ⟨b23, g23⟩ : ∃ z, z = h0.size := ⟨_, rfl⟩
        rw [← g23] at A23 D23 U23 st23
        refine own_step st23 ?_
        have ge24 : n0 ≤ b23 := Nat.le_trans Z0 (Nat.le_of_eq g23.symm)
        have z25 : n0 ≤ h23.size := Nat.le_trans Z0 E23.1
        have F23_timer : Fld Z h23 b23 "com/example/lockstep/lockstep/session/Ticks" "timer" "Lcom/example/lockstep/lockstep/session/Timers$Timer;" .null := D23 (Or.inl (hw _ (List.mem_of_getElem? (i := 27) rfl))) (ty := (.object "com/example/lockstep/lockstep/session/Timers$Timer")) (by decide)
        have F23_periodMs : Fld Z h23 b23 "com/example/lockstep/lockstep/session/Ticks" "periodMs" "J" (.long (0 : Int64)) := D23 (Or.inl (hw _ (List.mem_of_getElem? (i := 29) rfl))) (ty := .long) (by decide)
        have F23_nextMs : Fld Z h23 b23 "com/example/lockstep/lockstep/session/Ticks" "nextMs" "J" (.long (0 : Int64)) := D23 (Or.inl (hw _ (List.mem_of_getElem? (i := 31) rfl))) (ty := .long) (by decide)
        show own_Go _ _ _ _ (T23.setTop (mkF m 79 #[.val (.long q0), .second, .val (.long q1), .second, .val (.long q2), .second, .val (.int p3), .val (.int p4), .val (.long per), .second, .val (.long (q0 &&& (1152921504606846975 : Int64))), .second, .val (.long dt), .second, .val (.long ((q0 &&& (1152921504606846975 : Int64)) + dt)), .second, .unset, .unset, .unset, .unset, .unset, .unset, .unset] [(.ref b23)]))
        refine own_step (fun _ κ => XS.dup X23.here hx rfl (hb hby at_79) rfl rfl κ) ?_
        show own_Go _ _ _ _ (T23.setTop (mkF m 80 #[.val (.long q0), .second, .val (.long q1), .second, .val (.long q2), .second, .val (.int p3), .val (.int p4), .val (.long per), .second, .val (.long (q0 &&& (1152921504606846975 : Int64))), .second, .val (.long dt), .second, .val (.long ((q0 &&& (1152921504606846975 : Int64)) + dt)), .second, .unset, .unset, .unset, .unset, .unset, .unset, .unset] [(.ref b23), (.ref b23)]))
        obtain ⟨vr26, _, ⟨T26, L26, k26, n26⟩, -, X26, ⟨Lc26, hQ26, l26, y26, z26⟩, st26⟩ := X23.specialBack hx (y := (⟨"com/example/lockstep/lockstep/session/Ticks", "<init>", "()V"⟩ : MethodName)) rfl hown (mvT hZ (hw _ (List.mem_of_getElem? (i := 5) rfl))) (mvT hZ (hw _ (List.mem_of_getElem? (i := 6) rfl))) (mvT hZ (hw _ (List.mem_of_getElem? (i := 7) rfl))) (by decide) (backOf (W := 1) (rm1 l Z a0 hw [] b23  h23 n0 z25 ) hZ (hw _ (List.mem_of_getElem? (i := 7) rfl)) (hw _ (List.mem_of_getElem? (i := 4) rfl)) (by decide) (by decide)) (g := (mkF m 80 #[.val (.long q0), .second, .val (.long q1), .second, .val (.long q2), .second, .val (.int p3), .val (.int p4), .val (.long per), .second, .val (.long (q0 &&& (1152921504606846975 : Int64))), .second, .val (.long dt), .second, .val (.long ((q0 &&& (1152921504606846975 : Int64)) + dt)), .second, .unset, .unset, .unset, .unset, .unset, .unset, .unset] [(.ref b23), (.ref b23)])) rfl (by rw [hml]; rfl) (Steps.refl _) (a := b23) (argsL := []) (rest := [(.ref b23)]) (lenOf pd_0 rfl) rfl (by show 2 * 0 + _ ≤ _; exact Nat.le_of_eq rfl) (hb hby at_80) (fun _ _ => ⟨rfl, e23, (by decide : 1 + 0 ≤ _), (by decide : 3 + 0 ≤ _)⟩)
        dsimp only [Pt.U, Pt.locs, Pt.cells, Pt.slots] at X26 l26 y26 z26 st26 hQ26
        subst l26 y26 z26
        obtain ⟨rfl, Nq26, eq26⟩ := hQ26
        have N26 := Fr.app N0 Nq26
        refine own_step (fun _ κ => st26.trans κ) ?_
        show own_Go _ _ _ _ (T26.setTop (mkF m 83 #[.val (.long q0), .second, .val (.long q1), .second, .val (.long q2), .second, .val (.int p3), .val (.int p4), .val (.long per), .second, .val (.long (q0 &&& (1152921504606846975 : Int64))), .second, .val (.long dt), .second, .val (.long ((q0 &&& (1152921504606846975 : Int64)) + dt)), .second, .unset, .unset, .unset, .unset, .unset, .unset, .unset] [(.ref b23)]))
        refine own_step (fun _ κ => XS.astore X26.here hx rfl (hb hby at_83) rfl rfl (l' := #[.val (.long q0), .second, .val (.long q1), .second, .val (.long q2), .second, .val (.int p3), .val (.int p4), .val (.long per), .second, .val (.long (q0 &&& (1152921504606846975 : Int64))), .second, .val (.long dt), .second, .val (.long ((q0 &&& (1152921504606846975 : Int64)) + dt)), .second, .val (.ref b23), .unset, .unset, .unset, .unset, .unset, .unset]) rfl κ) ?_
        show own_Go _ _ _ _ (T26.setTop (mkF m 85 #[.val (.long q0), .second, .val (.long q1), .second, .val (.long q2), .second, .val (.int p3), .val (.int p4), .val (.long per), .second, .val (.long (q0 &&& (1152921504606846975 : Int64))), .second, .val (.long dt), .second, .val (.long ((q0 &&& (1152921504606846975 : Int64)) + dt)), .second, .val (.ref b23), .unset, .unset, .unset, .unset, .unset, .unset] []))
        refine own_step (fun _ κ => XS.aload X26.here hx rfl (hb hby at_85) rfl rfl κ) ?_
        show own_Go _ _ _ _ (T26.setTop (mkF m 87 #[.val (.long q0), .second, .val (.long q1), .second, .val (.long q2), .second, .val (.int p3), .val (.int p4), .val (.long per), .second, .val (.long (q0 &&& (1152921504606846975 : Int64))), .second, .val (.long dt), .second, .val (.long ((q0 &&& (1152921504606846975 : Int64)) + dt)), .second, .val (.ref b23), .unset, .unset, .unset, .unset, .unset, .unset] [(.ref b23)]))
        refine own_step (fun _ κ => XS.lload X26.here hx rfl (hb hby at_87) rfl κ) ?_
        show own_Go _ _ _ _ (T26.setTop (mkF m 89 #[.val (.long q0), .second, .val (.long q1), .second, .val (.long q2), .second, .val (.int p3), .val (.int p4), .val (.long per), .second, .val (.long (q0 &&& (1152921504606846975 : Int64))), .second, .val (.long dt), .second, .val (.long ((q0 &&& (1152921504606846975 : Int64)) + dt)), .second, .val (.ref b23), .unset, .unset, .unset, .unset, .unset, .unset] [(.long per), (.ref b23)]))
        refine own_step (fun _ κ => XS.lload X26.here hx rfl (hb hby at_89) rfl κ) ?_
        show own_Go _ _ _ _ (T26.setTop (mkF m 91 #[.val (.long q0), .second, .val (.long q1), .second, .val (.long q2), .second, .val (.int p3), .val (.int p4), .val (.long per), .second, .val (.long (q0 &&& (1152921504606846975 : Int64))), .second, .val (.long dt), .second, .val (.long ((q0 &&& (1152921504606846975 : Int64)) + dt)), .second, .val (.ref b23), .unset, .unset, .unset, .unset, .unset, .unset] [(.long (q0 &&& (1152921504606846975 : Int64))), (.long per), (.ref b23)]))
        obtain ⟨cq27, kq27, q27a, q27b, q27c⟩ := isOf hZ eq26 A23
        obtain ⟨vr27, _, ⟨T27, L27, k27, n27⟩, -, X27, ⟨Lc27, hQ27, l27, y27, z27⟩, st27⟩ := X26.virtualBack hx (y := (⟨"com/example/lockstep/lockstep/session/Ticks", "start", "(JJ)V"⟩ : MethodName)) (z := (⟨"com/example/lockstep/lockstep/session/Ticks", "start", "(JJ)V"⟩ : MethodName)) hown (mvT hZ (hw _ (List.mem_of_getElem? (i := 11) rfl))) (mvT hZ (hw _ (List.mem_of_getElem? (i := 12) rfl))) (notFace_of_selects (args := #[]) (mvT hZ (hw _ (List.mem_of_getElem? (i := 14) rfl)))) (mvT hZ (hw _ (List.mem_of_getElem? (i := 14) rfl))) (mvT hZ (hw _ (List.mem_of_getElem? (i := 13) rfl))) (by decide) (backOf (W := 0) (rm4 l Z a0 hw [] b23 per (q0 &&& (1152921504606846975 : Int64)) (0 : Int64) (0 : Int64) h23 n0 z25 A23 F23_timer F23_periodMs F23_nextMs ge24 hc3) hZ (hw _ (List.mem_of_getElem? (i := 15) rfl)) (hw _ (List.mem_of_getElem? (i := 4) rfl)) (by decide) (by decide)) q27a q27c (g := (mkF m 91 #[.val (.long q0), .second, .val (.long q1), .second, .val (.long q2), .second, .val (.int p3), .val (.int p4), .val (.long per), .second, .val (.long (q0 &&& (1152921504606846975 : Int64))), .second, .val (.long dt), .second, .val (.long ((q0 &&& (1152921504606846975 : Int64)) + dt)), .second, .val (.ref b23), .unset, .unset, .unset, .unset, .unset, .unset] [(.long (q0 &&& (1152921504606846975 : Int64))), (.long per), (.ref b23)])) rfl (by rw [hml]; rfl) (Steps.refl _) (argsL := [(.long per), (.long (q0 &&& (1152921504606846975 : Int64)))]) (rest := []) (lenOf pd_1 rfl) rfl (by show 2 * 0 + _ ≤ _; exact Nat.le_of_eq rfl) (hb hby at_91) (fun _ _ => ⟨rfl, eq26, (by decide : 1 + 0 ≤ _), (by decide : 3 + 0 ≤ _)⟩)
        dsimp only [Pt.U, Pt.locs, Pt.cells, Pt.slots] at X27 l27 y27 z27 st27 hQ27
        subst l27 y27 z27
        obtain ⟨rfl, Nq27, Kq27, p27_0, p27_1, p27_2, p27_3⟩ := hQ27
        have N27 := Fr.app N26 Nq27
        have f28 := A23.keep Kq27
        have z29 : n0 ≤ T27.heap.size := Nat.le_trans z25 Kq27.1
        refine own_step (fun _ κ => st27.trans κ) ?_
        show own_Go _ _ _ _ (T27.setTop (mkF m 94 #[.val (.long q0), .second, .val (.long q1), .second, .val (.long q2), .second, .val (.int p3), .val (.int p4), .val (.long per), .second, .val (.long (q0 &&& (1152921504606846975 : Int64))), .second, .val (.long dt), .second, .val (.long ((q0 &&& (1152921504606846975 : Int64)) + dt)), .second, .val (.ref b23), .unset, .unset, .unset, .unset, .unset, .unset] []))
        refine own_step (fun _ κ => XS.aload X27.here hx rfl (hb hby at_94) rfl rfl κ) ?_
        show own_Go _ _ _ _ (T27.setTop (mkF m 96 #[.val (.long q0), .second, .val (.long q1), .second, .val (.long q2), .second, .val (.int p3), .val (.int p4), .val (.long per), .second, .val (.long (q0 &&& (1152921504606846975 : Int64))), .second, .val (.long dt), .second, .val (.long ((q0 &&& (1152921504606846975 : Int64)) + dt)), .second, .val (.ref b23), .unset, .unset, .unset, .unset, .unset, .unset] [(.ref b23)]))
        obtain ⟨cq30, kq30, q30a, q30b, q30c⟩ := isOf hZ rfl p27_0
        obtain ⟨vr30, _, ⟨T30, L30, k30, n30⟩, -, X30, ⟨Lc30, hQ30, l30, y30, z30⟩, st30⟩ := X27.virtualBack hx (y := (⟨"com/example/lockstep/lockstep/session/Ticks", "nextMs", "()J"⟩ : MethodName)) (z := (⟨"com/example/lockstep/lockstep/session/Ticks", "nextMs", "()J"⟩ : MethodName)) hown (mvT hZ (hw _ (List.mem_of_getElem? (i := 32) rfl))) (mvT hZ (hw _ (List.mem_of_getElem? (i := 33) rfl))) (notFace_of_selects (args := #[]) (mvT hZ (hw _ (List.mem_of_getElem? (i := 35) rfl)))) (mvT hZ (hw _ (List.mem_of_getElem? (i := 35) rfl))) (mvT hZ (hw _ (List.mem_of_getElem? (i := 34) rfl))) (by decide) (backOf (W := 0) (rm6 l Z a0 hw [] b23 (0 : Int64) T27.heap n0 z29 p27_3) hZ (hw _ (List.mem_of_getElem? (i := 36) rfl)) (hw _ (List.mem_of_getElem? (i := 4) rfl)) (by decide) (by decide)) q30a q30c (g := (mkF m 96 #[.val (.long q0), .second, .val (.long q1), .second, .val (.long q2), .second, .val (.int p3), .val (.int p4), .val (.long per), .second, .val (.long (q0 &&& (1152921504606846975 : Int64))), .second, .val (.long dt), .second, .val (.long ((q0 &&& (1152921504606846975 : Int64)) + dt)), .second, .val (.ref b23), .unset, .unset, .unset, .unset, .unset, .unset] [(.ref b23)])) rfl (by rw [hml]; rfl) (Steps.refl _) (argsL := []) (rest := []) (lenOf pd_2 rfl) rfl (by show 2 * 0 + _ ≤ _; exact Nat.le_of_eq rfl) (hb hby at_96) (fun _ _ => ⟨rfl, rfl, (by decide : 1 + 0 ≤ _), (by decide : 3 + 0 ≤ _)⟩)
        dsimp only [Pt.U, Pt.locs, Pt.cells, Pt.slots] at X30 l30 y30 z30 st30 hQ30
        subst l30 y30 z30
        obtain ⟨rfl, Nq30, eq30⟩ := hQ30
        have N30 := Fr.app N27 Nq30
        refine own_step (fun _ κ => st30.trans κ) ?_
        show own_Go _ _ _ _ (T30.setTop (mkF m 99 #[.val (.long q0), .second, .val (.long q1), .second, .val (.long q2), .second, .val (.int p3), .val (.int p4), .val (.long per), .second, .val (.long (q0 &&& (1152921504606846975 : Int64))), .second, .val (.long dt), .second, .val (.long ((q0 &&& (1152921504606846975 : Int64)) + dt)), .second, .val (.ref b23), .unset, .unset, .unset, .unset, .unset, .unset] [(.long (0 : Int64))]))
        refine own_step (fun _ κ => XS.lstore X30.here hx rfl (hb hby at_99) rfl (l' := #[.val (.long q0), .second, .val (.long q1), .second, .val (.long q2), .second, .val (.int p3), .val (.int p4), .val (.long per), .second, .val (.long (q0 &&& (1152921504606846975 : Int64))), .second, .val (.long dt), .second, .val (.long ((q0 &&& (1152921504606846975 : Int64)) + dt)), .second, .val (.ref b23), .val (.long (0 : Int64)), .second, .unset, .unset, .unset, .unset]) rfl κ) ?_
        show own_Go _ _ _ _ (T30.setTop (mkF m 101 #[.val (.long q0), .second, .val (.long q1), .second, .val (.long q2), .second, .val (.int p3), .val (.int p4), .val (.long per), .second, .val (.long (q0 &&& (1152921504606846975 : Int64))), .second, .val (.long dt), .second, .val (.long ((q0 &&& (1152921504606846975 : Int64)) + dt)), .second, .val (.ref b23), .val (.long (0 : Int64)), .second, .unset, .unset, .unset, .unset] []))
        refine own_step (fun _ κ => XS.aload X30.here hx rfl (hb hby at_101) rfl rfl κ) ?_
        show own_Go _ _ _ _ (T30.setTop (mkF m 103 #[.val (.long q0), .second, .val (.long q1), .second, .val (.long q2), .second, .val (.int p3), .val (.int p4), .val (.long per), .second, .val (.long (q0 &&& (1152921504606846975 : Int64))), .second, .val (.long dt), .second, .val (.long ((q0 &&& (1152921504606846975 : Int64)) + dt)), .second, .val (.ref b23), .val (.long (0 : Int64)), .second, .unset, .unset, .unset, .unset] [(.ref b23)]))
        refine own_step (fun _ κ => XS.lload X30.here hx rfl (hb hby at_103) rfl κ) ?_
        show own_Go _ _ _ _ (T30.setTop (mkF m 105 #[.val (.long q0), .second, .val (.long q1), .second, .val (.long q2), .second, .val (.int p3), .val (.int p4), .val (.long per), .second, .val (.long (q0 &&& (1152921504606846975 : Int64))), .second, .val (.long dt), .second, .val (.long ((q0 &&& (1152921504606846975 : Int64)) + dt)), .second, .val (.ref b23), .val (.long (0 : Int64)), .second, .unset, .unset, .unset, .unset] [(.long ((q0 &&& (1152921504606846975 : Int64)) + dt)), (.ref b23)]))
        obtain ⟨cq31, kq31, q31a, q31b, q31c⟩ := isOf hZ eq30 p27_0
        obtain ⟨vr31, _, ⟨T31, L31, k31, n31⟩, -, X31, ⟨Lc31, hQ31, l31, y31, z31⟩, st31⟩ := X30.virtualBack hx (y := (⟨"com/example/lockstep/lockstep/session/Ticks", "skipThrough", "(J)V"⟩ : MethodName)) (z := (⟨"com/example/lockstep/lockstep/session/Ticks", "skipThrough", "(J)V"⟩ : MethodName)) hown (mvT hZ (hw _ (List.mem_of_getElem? (i := 37) rfl))) (mvT hZ (hw _ (List.mem_of_getElem? (i := 38) rfl))) (notFace_of_selects (args := #[]) (mvT hZ (hw _ (List.mem_of_getElem? (i := 40) rfl)))) (mvT hZ (hw _ (List.mem_of_getElem? (i := 40) rfl))) (mvT hZ (hw _ (List.mem_of_getElem? (i := 39) rfl))) (by decide) (backOf (W := 0) (rm7 l Z a0 hw [] b23 ((q0 &&& (1152921504606846975 : Int64)) + dt)  T27.heap n0 z29 p27_2) hZ (hw _ (List.mem_of_getElem? (i := 41) rfl)) (hw _ (List.mem_of_getElem? (i := 4) rfl)) (by decide) (by decide)) q31a q31c (g := (mkF m 105 #[.val (.long q0), .second, .val (.long q1), .second, .val (.long q2), .second, .val (.int p3), .val (.int p4), .val (.long per), .second, .val (.long (q0 &&& (1152921504606846975 : Int64))), .second, .val (.long dt), .second, .val (.long ((q0 &&& (1152921504606846975 : Int64)) + dt)), .second, .val (.ref b23), .val (.long (0 : Int64)), .second, .unset, .unset, .unset, .unset] [(.long ((q0 &&& (1152921504606846975 : Int64)) + dt)), (.ref b23)])) rfl (by rw [hml]; rfl) (Steps.refl _) (argsL := [(.long ((q0 &&& (1152921504606846975 : Int64)) + dt))]) (rest := []) (lenOf pd_3 rfl) rfl (by show 2 * 0 + _ ≤ _; exact Nat.le_of_eq rfl) (hb hby at_105) (fun _ _ => ⟨rfl, eq30, (by decide : 1 + 0 ≤ _), (by decide : 3 + 0 ≤ _)⟩)
        dsimp only [Pt.U, Pt.locs, Pt.cells, Pt.slots] at X31 l31 y31 z31 st31 hQ31
        subst l31 y31 z31
        obtain ⟨rfl, Nq31, eq31⟩ := hQ31
        have N31 := Fr.app N30 Nq31
        refine own_step (fun _ κ => st31.trans κ) ?_
        show own_Go _ _ _ _ (T31.setTop (mkF m 108 #[.val (.long q0), .second, .val (.long q1), .second, .val (.long q2), .second, .val (.int p3), .val (.int p4), .val (.long per), .second, .val (.long (q0 &&& (1152921504606846975 : Int64))), .second, .val (.long dt), .second, .val (.long ((q0 &&& (1152921504606846975 : Int64)) + dt)), .second, .val (.ref b23), .val (.long (0 : Int64)), .second, .unset, .unset, .unset, .unset] []))
        refine own_step (fun _ κ => XS.aload X31.here hx rfl (hb hby at_108) rfl rfl κ) ?_
        show own_Go _ _ _ _ (T31.setTop (mkF m 110 #[.val (.long q0), .second, .val (.long q1), .second, .val (.long q2), .second, .val (.int p3), .val (.int p4), .val (.long per), .second, .val (.long (q0 &&& (1152921504606846975 : Int64))), .second, .val (.long dt), .second, .val (.long ((q0 &&& (1152921504606846975 : Int64)) + dt)), .second, .val (.ref b23), .val (.long (0 : Int64)), .second, .unset, .unset, .unset, .unset] [(.ref b23)]))
        obtain ⟨cq32, kq32, q32a, q32b, q32c⟩ := isOf hZ eq31 p27_0
        obtain ⟨vr32, _, ⟨T32, L32, k32, n32⟩, -, X32, ⟨Lc32, hQ32, l32, y32, z32⟩, st32⟩ := X31.virtualBack hx (y := (⟨"com/example/lockstep/lockstep/session/Ticks", "nextMs", "()J"⟩ : MethodName)) (z := (⟨"com/example/lockstep/lockstep/session/Ticks", "nextMs", "()J"⟩ : MethodName)) hown (mvT hZ (hw _ (List.mem_of_getElem? (i := 32) rfl))) (mvT hZ (hw _ (List.mem_of_getElem? (i := 33) rfl))) (notFace_of_selects (args := #[]) (mvT hZ (hw _ (List.mem_of_getElem? (i := 35) rfl)))) (mvT hZ (hw _ (List.mem_of_getElem? (i := 35) rfl))) (mvT hZ (hw _ (List.mem_of_getElem? (i := 34) rfl))) (by decide) (backOf (W := 0) (rm6 l Z a0 hw [] b23 (0 : Int64) T27.heap n0 z29 p27_3) hZ (hw _ (List.mem_of_getElem? (i := 36) rfl)) (hw _ (List.mem_of_getElem? (i := 4) rfl)) (by decide) (by decide)) q32a q32c (g := (mkF m 110 #[.val (.long q0), .second, .val (.long q1), .second, .val (.long q2), .second, .val (.int p3), .val (.int p4), .val (.long per), .second, .val (.long (q0 &&& (1152921504606846975 : Int64))), .second, .val (.long dt), .second, .val (.long ((q0 &&& (1152921504606846975 : Int64)) + dt)), .second, .val (.ref b23), .val (.long (0 : Int64)), .second, .unset, .unset, .unset, .unset] [(.ref b23)])) rfl (by rw [hml]; rfl) (Steps.refl _) (argsL := []) (rest := []) (lenOf pd_2 rfl) rfl (by show 2 * 0 + _ ≤ _; exact Nat.le_of_eq rfl) (hb hby at_110) (fun _ _ => ⟨rfl, eq31, (by decide : 1 + 0 ≤ _), (by decide : 3 + 0 ≤ _)⟩)
        dsimp only [Pt.U, Pt.locs, Pt.cells, Pt.slots] at X32 l32 y32 z32 st32 hQ32
        subst l32 y32 z32
        obtain ⟨rfl, Nq32, eq32⟩ := hQ32
        have N32 := Fr.app N31 Nq32
        refine own_step (fun _ κ => st32.trans κ) ?_
        show own_Go _ _ _ _ (T32.setTop (mkF m 113 #[.val (.long q0), .second, .val (.long q1), .second, .val (.long q2), .second, .val (.int p3), .val (.int p4), .val (.long per), .second, .val (.long (q0 &&& (1152921504606846975 : Int64))), .second, .val (.long dt), .second, .val (.long ((q0 &&& (1152921504606846975 : Int64)) + dt)), .second, .val (.ref b23), .val (.long (0 : Int64)), .second, .unset, .unset, .unset, .unset] [(.long (0 : Int64))]))
        refine own_step (fun _ κ => XS.lstore X32.here hx rfl (hb hby at_113) rfl (l' := #[.val (.long q0), .second, .val (.long q1), .second, .val (.long q2), .second, .val (.int p3), .val (.int p4), .val (.long per), .second, .val (.long (q0 &&& (1152921504606846975 : Int64))), .second, .val (.long dt), .second, .val (.long ((q0 &&& (1152921504606846975 : Int64)) + dt)), .second, .val (.ref b23), .val (.long (0 : Int64)), .second, .val (.long (0 : Int64)), .second, .unset, .unset]) rfl κ) ?_
        show own_Go _ _ _ _ (T32.setTop (mkF m 115 #[.val (.long q0), .second, .val (.long q1), .second, .val (.long q2), .second, .val (.int p3), .val (.int p4), .val (.long per), .second, .val (.long (q0 &&& (1152921504606846975 : Int64))), .second, .val (.long dt), .second, .val (.long ((q0 &&& (1152921504606846975 : Int64)) + dt)), .second, .val (.ref b23), .val (.long (0 : Int64)), .second, .val (.long (0 : Int64)), .second, .unset, .unset] []))
        refine own_step (fun _ κ => XS.aload X32.here hx rfl (hb hby at_115) rfl rfl κ) ?_
        show own_Go _ _ _ _ (T32.setTop (mkF m 117 #[.val (.long q0), .second, .val (.long q1), .second, .val (.long q2), .second, .val (.int p3), .val (.int p4), .val (.long per), .second, .val (.long (q0 &&& (1152921504606846975 : Int64))), .second, .val (.long dt), .second, .val (.long ((q0 &&& (1152921504606846975 : Int64)) + dt)), .second, .val (.ref b23), .val (.long (0 : Int64)), .second, .val (.long (0 : Int64)), .second, .unset, .unset] [(.ref b23)]))
        obtain ⟨cq33, kq33, q33a, q33b, q33c⟩ := isOf hZ eq32 p27_0
        obtain ⟨vr33, _, ⟨T33, L33, k33, n33⟩, -, X33, ⟨Lc33, hQ33, l33, y33, z33⟩, st33⟩ := X32.virtualBack hx (y := (⟨"com/example/lockstep/lockstep/session/Ticks", "asked", "()Z"⟩ : MethodName)) (z := (⟨"com/example/lockstep/lockstep/session/Ticks", "asked", "()Z"⟩ : MethodName)) hown (mvT hZ (hw _ (List.mem_of_getElem? (i := 42) rfl))) (mvT hZ (hw _ (List.mem_of_getElem? (i := 43) rfl))) (notFace_of_selects (args := #[]) (mvT hZ (hw _ (List.mem_of_getElem? (i := 45) rfl)))) (mvT hZ (hw _ (List.mem_of_getElem? (i := 45) rfl))) (mvT hZ (hw _ (List.mem_of_getElem? (i := 44) rfl))) (by decide) (backOf (W := 0) (rm10 l Z a0 hw [] b23 (0 : Int64) T27.heap n0 z29 p27_2) hZ (hw _ (List.mem_of_getElem? (i := 46) rfl)) (hw _ (List.mem_of_getElem? (i := 4) rfl)) (by decide) (by decide)) q33a q33c (g := (mkF m 117 #[.val (.long q0), .second, .val (.long q1), .second, .val (.long q2), .second, .val (.int p3), .val (.int p4), .val (.long per), .second, .val (.long (q0 &&& (1152921504606846975 : Int64))), .second, .val (.long dt), .second, .val (.long ((q0 &&& (1152921504606846975 : Int64)) + dt)), .second, .val (.ref b23), .val (.long (0 : Int64)), .second, .val (.long (0 : Int64)), .second, .unset, .unset] [(.ref b23)])) rfl (by rw [hml]; rfl) (Steps.refl _) (argsL := []) (rest := []) (lenOf pd_4 rfl) rfl (by show 2 * 0 + _ ≤ _; exact Nat.le_of_eq rfl) (hb hby at_117) (fun _ _ => ⟨rfl, eq32, (by decide : 1 + 0 ≤ _), (by decide : 3 + 0 ≤ _)⟩)
        dsimp only [Pt.U, Pt.locs, Pt.cells, Pt.slots] at X33 l33 y33 z33 st33 hQ33
        subst l33 y33 z33
        obtain ⟨hv33, Nq33, eq33⟩ := hQ33
        have N33 := Fr.app N32 Nq33
        rw [if_neg (by decide)] at hv33
        subst hv33
        refine own_step (fun _ κ => st33.trans κ) ?_
        show own_Go _ _ _ _ (T33.setTop (mkF m 120 #[.val (.long q0), .second, .val (.long q1), .second, .val (.long q2), .second, .val (.int p3), .val (.int p4), .val (.long per), .second, .val (.long (q0 &&& (1152921504606846975 : Int64))), .second, .val (.long dt), .second, .val (.long ((q0 &&& (1152921504606846975 : Int64)) + dt)), .second, .val (.ref b23), .val (.long (0 : Int64)), .second, .val (.long (0 : Int64)), .second, .unset, .unset] [(.int (0 : Int32))]))
        refine own_step (fun _ κ => XS.istore X33.here hx rfl (hb hby at_120) rfl (l' := #[.val (.long q0), .second, .val (.long q1), .second, .val (.long q2), .second, .val (.int p3), .val (.int p4), .val (.long per), .second, .val (.long (q0 &&& (1152921504606846975 : Int64))), .second, .val (.long dt), .second, .val (.long ((q0 &&& (1152921504606846975 : Int64)) + dt)), .second, .val (.ref b23), .val (.long (0 : Int64)), .second, .val (.long (0 : Int64)), .second, .val (.int (0 : Int32)), .unset]) rfl κ) ?_
        show own_Go _ _ _ _ (T33.setTop (mkF m 122 #[.val (.long q0), .second, .val (.long q1), .second, .val (.long q2), .second, .val (.int p3), .val (.int p4), .val (.long per), .second, .val (.long (q0 &&& (1152921504606846975 : Int64))), .second, .val (.long dt), .second, .val (.long ((q0 &&& (1152921504606846975 : Int64)) + dt)), .second, .val (.ref b23), .val (.long (0 : Int64)), .second, .val (.long (0 : Int64)), .second, .val (.int (0 : Int32)), .unset] []))
        refine own_step (fun _ κ => XS.aload X33.here hx rfl (hb hby at_122) rfl rfl κ) ?_
        show own_Go _ _ _ _ (T33.setTop (mkF m 124 #[.val (.long q0), .second, .val (.long q1), .second, .val (.long q2), .second, .val (.int p3), .val (.int p4), .val (.long per), .second, .val (.long (q0 &&& (1152921504606846975 : Int64))), .second, .val (.long dt), .second, .val (.long ((q0 &&& (1152921504606846975 : Int64)) + dt)), .second, .val (.ref b23), .val (.long (0 : Int64)), .second, .val (.long (0 : Int64)), .second, .val (.int (0 : Int32)), .unset] [(.ref b23)]))
        refine own_step (fun _ κ => XS.lload X33.here hx rfl (hb hby at_124) rfl κ) ?_
        show own_Go _ _ _ _ (T33.setTop (mkF m 126 #[.val (.long q0), .second, .val (.long q1), .second, .val (.long q2), .second, .val (.int p3), .val (.int p4), .val (.long per), .second, .val (.long (q0 &&& (1152921504606846975 : Int64))), .second, .val (.long dt), .second, .val (.long ((q0 &&& (1152921504606846975 : Int64)) + dt)), .second, .val (.ref b23), .val (.long (0 : Int64)), .second, .val (.long (0 : Int64)), .second, .val (.int (0 : Int32)), .unset] [(.long ((q0 &&& (1152921504606846975 : Int64)) + dt)), (.ref b23)]))
        obtain ⟨cq34, kq34, q34a, q34b, q34c⟩ := isOf hZ eq33 p27_0
        obtain ⟨vr34, _, ⟨T34, L34, k34, n34⟩, -, X34, ⟨Lc34, hQ34, l34, y34, z34⟩, st34⟩ := X33.virtualBack hx (y := (⟨"com/example/lockstep/lockstep/session/Ticks", "due", "(J)Z"⟩ : MethodName)) (z := (⟨"com/example/lockstep/lockstep/session/Ticks", "due", "(J)Z"⟩ : MethodName)) hown (mvT hZ (hw _ (List.mem_of_getElem? (i := 47) rfl))) (mvT hZ (hw _ (List.mem_of_getElem? (i := 48) rfl))) (notFace_of_selects (args := #[]) (mvT hZ (hw _ (List.mem_of_getElem? (i := 50) rfl)))) (mvT hZ (hw _ (List.mem_of_getElem? (i := 50) rfl))) (mvT hZ (hw _ (List.mem_of_getElem? (i := 49) rfl))) (by decide) (backOf (W := 0) (rm11 l Z a0 hw [] b23 ((q0 &&& (1152921504606846975 : Int64)) + dt) (0 : Int64) (0 : Int64) T27.heap n0 z29 p27_2 p27_3) hZ (hw _ (List.mem_of_getElem? (i := 51) rfl)) (hw _ (List.mem_of_getElem? (i := 4) rfl)) (by decide) (by decide)) q34a q34c (g := (mkF m 126 #[.val (.long q0), .second, .val (.long q1), .second, .val (.long q2), .second, .val (.int p3), .val (.int p4), .val (.long per), .second, .val (.long (q0 &&& (1152921504606846975 : Int64))), .second, .val (.long dt), .second, .val (.long ((q0 &&& (1152921504606846975 : Int64)) + dt)), .second, .val (.ref b23), .val (.long (0 : Int64)), .second, .val (.long (0 : Int64)), .second, .val (.int (0 : Int32)), .unset] [(.long ((q0 &&& (1152921504606846975 : Int64)) + dt)), (.ref b23)])) rfl (by rw [hml]; rfl) (Steps.refl _) (argsL := [(.long ((q0 &&& (1152921504606846975 : Int64)) + dt))]) (rest := []) (lenOf pd_5 rfl) rfl (by show 2 * 0 + _ ≤ _; exact Nat.le_of_eq rfl) (hb hby at_126) (fun _ _ => ⟨rfl, eq33, (by decide : 1 + 0 ≤ _), (by decide : 3 + 0 ≤ _)⟩)
        dsimp only [Pt.U, Pt.locs, Pt.cells, Pt.slots] at X34 l34 y34 z34 st34 hQ34
        subst l34 y34 z34
        obtain ⟨hv34, Nq34, eq34⟩ := hQ34
        have N34 := Fr.app N33 Nq34
        rw [if_neg (by decide)] at hv34
        subst hv34
        refine own_step (fun _ κ => st34.trans κ) ?_
        show own_Go _ _ _ _ (T34.setTop (mkF m 129 #[.val (.long q0), .second, .val (.long q1), .second, .val (.long q2), .second, .val (.int p3), .val (.int p4), .val (.long per), .second, .val (.long (q0 &&& (1152921504606846975 : Int64))), .second, .val (.long dt), .second, .val (.long ((q0 &&& (1152921504606846975 : Int64)) + dt)), .second, .val (.ref b23), .val (.long (0 : Int64)), .second, .val (.long (0 : Int64)), .second, .val (.int (0 : Int32)), .unset] [(.int (0 : Int32))]))
        refine own_step (fun _ κ => XS.istore X34.here hx rfl (hb hby at_129) rfl (l' := #[.val (.long q0), .second, .val (.long q1), .second, .val (.long q2), .second, .val (.int p3), .val (.int p4), .val (.long per), .second, .val (.long (q0 &&& (1152921504606846975 : Int64))), .second, .val (.long dt), .second, .val (.long ((q0 &&& (1152921504606846975 : Int64)) + dt)), .second, .val (.ref b23), .val (.long (0 : Int64)), .second, .val (.long (0 : Int64)), .second, .val (.int (0 : Int32)), .val (.int (0 : Int32))]) rfl κ) ?_
        show own_Go _ _ _ _ (T34.setTop (mkF m 131 #[.val (.long q0), .second, .val (.long q1), .second, .val (.long q2), .second, .val (.int p3), .val (.int p4), .val (.long per), .second, .val (.long (q0 &&& (1152921504606846975 : Int64))), .second, .val (.long dt), .second, .val (.long ((q0 &&& (1152921504606846975 : Int64)) + dt)), .second, .val (.ref b23), .val (.long (0 : Int64)), .second, .val (.long (0 : Int64)), .second, .val (.int (0 : Int32)), .val (.int (0 : Int32))] []))
        refine own_step (fun _ κ => XS.lload X34.here hx rfl (hb hby at_131) rfl κ) ?_
        show own_Go _ _ _ _ (T34.setTop (mkF m 133 #[.val (.long q0), .second, .val (.long q1), .second, .val (.long q2), .second, .val (.int p3), .val (.int p4), .val (.long per), .second, .val (.long (q0 &&& (1152921504606846975 : Int64))), .second, .val (.long dt), .second, .val (.long ((q0 &&& (1152921504606846975 : Int64)) + dt)), .second, .val (.ref b23), .val (.long (0 : Int64)), .second, .val (.long (0 : Int64)), .second, .val (.int (0 : Int32)), .val (.int (0 : Int32))] [(.long per)]))
        refine own_step (fun _ κ => XS.lconst X34.here hx rfl (hb hby at_133) κ) ?_
        show own_Go _ _ _ _ (T34.setTop (mkF m 134 #[.val (.long q0), .second, .val (.long q1), .second, .val (.long q2), .second, .val (.int p3), .val (.int p4), .val (.long per), .second, .val (.long (q0 &&& (1152921504606846975 : Int64))), .second, .val (.long dt), .second, .val (.long ((q0 &&& (1152921504606846975 : Int64)) + dt)), .second, .val (.ref b23), .val (.long (0 : Int64)), .second, .val (.long (0 : Int64)), .second, .val (.int (0 : Int32)), .val (.int (0 : Int32))] [(.long (0 : Int64)), (.long per)]))
        refine own_step (fun _ κ => XS.lcmp X34.here hx rfl (hb hby at_134) rfl κ) ?_
        show own_Go _ _ _ _ (T34.setTop (mkF m 135 #[.val (.long q0), .second, .val (.long q1), .second, .val (.long q2), .second, .val (.int p3), .val (.int p4), .val (.long per), .second, .val (.long (q0 &&& (1152921504606846975 : Int64))), .second, .val (.long dt), .second, .val (.long ((q0 &&& (1152921504606846975 : Int64)) + dt)), .second, .val (.ref b23), .val (.long (0 : Int64)), .second, .val (.long (0 : Int64)), .second, .val (.int (0 : Int32)), .val (.int (0 : Int32))] [(.int (lcmpW per (0 : Int64)))]))
        refine own_step (fun _ κ => XS.ifNo X34.here hx rfl (hb hby at_135) rfl ((if0 _ _).trans (teq ((lw_eq _ _).mpr (own_z hc3 pr1))).2) κ) ?_
        show own_Go _ _ _ _ (T34.setTop (mkF m 138 #[.val (.long q0), .second, .val (.long q1), .second, .val (.long q2), .second, .val (.int p3), .val (.int p4), .val (.long per), .second, .val (.long (q0 &&& (1152921504606846975 : Int64))), .second, .val (.long dt), .second, .val (.long ((q0 &&& (1152921504606846975 : Int64)) + dt)), .second, .val (.ref b23), .val (.long (0 : Int64)), .second, .val (.long (0 : Int64)), .second, .val (.int (0 : Int32)), .val (.int (0 : Int32))] []))
        refine own_step (fun _ κ => XS.iload X34.here hx rfl (hb hby at_138) rfl κ) ?_
        show own_Go _ _ _ _ (T34.setTop (mkF m 140 #[.val (.long q0), .second, .val (.long q1), .second, .val (.long q2), .second, .val (.int p3), .val (.int p4), .val (.long per), .second, .val (.long (q0 &&& (1152921504606846975 : Int64))), .second, .val (.long dt), .second, .val (.long ((q0 &&& (1152921504606846975 : Int64)) + dt)), .second, .val (.ref b23), .val (.long (0 : Int64)), .second, .val (.long (0 : Int64)), .second, .val (.int (0 : Int32)), .val (.int (0 : Int32))] [(.int (0 : Int32))]))
        refine own_step (fun _ κ => XS.ifNo X34.here hx rfl (hb hby at_140) rfl ((if0 _ _).trans (teq rfl).2) κ) ?_
        show own_Go _ _ _ _ (T34.setTop (mkF m 143 #[.val (.long q0), .second, .val (.long q1), .second, .val (.long q2), .second, .val (.int p3), .val (.int p4), .val (.long per), .second, .val (.long (q0 &&& (1152921504606846975 : Int64))), .second, .val (.long dt), .second, .val (.long ((q0 &&& (1152921504606846975 : Int64)) + dt)), .second, .val (.ref b23), .val (.long (0 : Int64)), .second, .val (.long (0 : Int64)), .second, .val (.int (0 : Int32)), .val (.int (0 : Int32))] []))
        refine own_step (fun _ κ => XS.lload X34.here hx rfl (hb hby at_143) rfl κ) ?_
        show own_Go _ _ _ _ (T34.setTop (mkF m 145 #[.val (.long q0), .second, .val (.long q1), .second, .val (.long q2), .second, .val (.int p3), .val (.int p4), .val (.long per), .second, .val (.long (q0 &&& (1152921504606846975 : Int64))), .second, .val (.long dt), .second, .val (.long ((q0 &&& (1152921504606846975 : Int64)) + dt)), .second, .val (.ref b23), .val (.long (0 : Int64)), .second, .val (.long (0 : Int64)), .second, .val (.int (0 : Int32)), .val (.int (0 : Int32))] [(.long (0 : Int64))]))
        refine own_step (fun _ κ => XS.lload X34.here hx rfl (hb hby at_145) rfl κ) ?_
        show own_Go _ _ _ _ (T34.setTop (mkF m 147 #[.val (.long q0), .second, .val (.long q1), .second, .val (.long q2), .second, .val (.int p3), .val (.int p4), .val (.long per), .second, .val (.long (q0 &&& (1152921504606846975 : Int64))), .second, .val (.long dt), .second, .val (.long ((q0 &&& (1152921504606846975 : Int64)) + dt)), .second, .val (.ref b23), .val (.long (0 : Int64)), .second, .val (.long (0 : Int64)), .second, .val (.int (0 : Int32)), .val (.int (0 : Int32))] [(.long (0 : Int64)), (.long (0 : Int64))]))
        refine own_step (fun _ κ => XS.lcmp X34.here hx rfl (hb hby at_147) rfl κ) ?_
        show own_Go _ _ _ _ (T34.setTop (mkF m 148 #[.val (.long q0), .second, .val (.long q1), .second, .val (.long q2), .second, .val (.int p3), .val (.int p4), .val (.long per), .second, .val (.long (q0 &&& (1152921504606846975 : Int64))), .second, .val (.long dt), .second, .val (.long ((q0 &&& (1152921504606846975 : Int64)) + dt)), .second, .val (.ref b23), .val (.long (0 : Int64)), .second, .val (.long (0 : Int64)), .second, .val (.int (0 : Int32)), .val (.int (0 : Int32))] [(.int (lcmpW (0 : Int64) (0 : Int64)))]))
        refine own_step (fun _ κ => XS.ifNo X34.here hx rfl (hb hby at_148) rfl ((if0 _ _).trans (teq ((lw_eq _ _).mpr rfl)).2) κ) ?_
        show own_Go _ _ _ _ (T34.setTop (mkF m 151 #[.val (.long q0), .second, .val (.long q1), .second, .val (.long q2), .second, .val (.int p3), .val (.int p4), .val (.long per), .second, .val (.long (q0 &&& (1152921504606846975 : Int64))), .second, .val (.long dt), .second, .val (.long ((q0 &&& (1152921504606846975 : Int64)) + dt)), .second, .val (.ref b23), .val (.long (0 : Int64)), .second, .val (.long (0 : Int64)), .second, .val (.int (0 : Int32)), .val (.int (0 : Int32))] []))
        refine own_step (fun _ κ => XS.iload X34.here hx rfl (hb hby at_151) rfl κ) ?_
        show own_Go _ _ _ _ (T34.setTop (mkF m 153 #[.val (.long q0), .second, .val (.long q1), .second, .val (.long q2), .second, .val (.int p3), .val (.int p4), .val (.long per), .second, .val (.long (q0 &&& (1152921504606846975 : Int64))), .second, .val (.long dt), .second, .val (.long ((q0 &&& (1152921504606846975 : Int64)) + dt)), .second, .val (.ref b23), .val (.long (0 : Int64)), .second, .val (.long (0 : Int64)), .second, .val (.int (0 : Int32)), .val (.int (0 : Int32))] [(.int (0 : Int32))]))
        refine own_step (fun _ κ => XS.ifNo X34.here hx rfl (hb hby at_153) rfl ((if0 _ _).trans (teq rfl).2) κ) ?_
        show own_Go _ _ _ _ (T34.setTop (mkF m 156 #[.val (.long q0), .second, .val (.long q1), .second, .val (.long q2), .second, .val (.int p3), .val (.int p4), .val (.long per), .second, .val (.long (q0 &&& (1152921504606846975 : Int64))), .second, .val (.long dt), .second, .val (.long ((q0 &&& (1152921504606846975 : Int64)) + dt)), .second, .val (.ref b23), .val (.long (0 : Int64)), .second, .val (.long (0 : Int64)), .second, .val (.int (0 : Int32)), .val (.int (0 : Int32))] []))
        refine own_step (fun _ κ => XS.iconst X34.here hx rfl (hb hby at_156) κ) ?_
        show own_Go _ _ _ _ (T34.setTop (mkF m 157 #[.val (.long q0), .second, .val (.long q1), .second, .val (.long q2), .second, .val (.int p3), .val (.int p4), .val (.long per), .second, .val (.long (q0 &&& (1152921504606846975 : Int64))), .second, .val (.long dt), .second, .val (.long ((q0 &&& (1152921504606846975 : Int64)) + dt)), .second, .val (.ref b23), .val (.long (0 : Int64)), .second, .val (.long (0 : Int64)), .second, .val (.int (0 : Int32)), .val (.int (0 : Int32))] [(.int (1 : Int32))]))
        refine own_step (fun _ κ => XS.goto X34.here hx rfl (pc0 := 157) (pc' := 161) rfl (hb hby at_157) (by decide) (by decide) κ) ?_
        show own_Go _ _ _ _ (T34.setTop (mkF m 161 #[.val (.long q0), .second, .val (.long q1), .second, .val (.long q2), .second, .val (.int p3), .val (.int p4), .val (.long per), .second, .val (.long (q0 &&& (1152921504606846975 : Int64))), .second, .val (.long dt), .second, .val (.long ((q0 &&& (1152921504606846975 : Int64)) + dt)), .second, .val (.ref b23), .val (.long (0 : Int64)), .second, .val (.long (0 : Int64)), .second, .val (.int (0 : Int32)), .val (.int (0 : Int32))] [(.int (1 : Int32))]))
        obtain ⟨fs, hr, hrun, hended, hW, hsame⟩ := X34.leave (v := some (.int (1 : Int32))) (fun h => by rw [Bd.returns] at h; cases h)
        refine ⟨_, _, retN X34 hx (t := .boolean) Bd.returns (by simp) (hb hby at_161) hr, hrun, hended, _, _, rfl, ?_, ⟨_, rfl⟩, hW, hsame.mono (by decide) (by decide)⟩
        show Q0 Z q0 q1 q2 p3 p4  h0 n0 _ T34.heap _
        exact ⟨rfl, N34⟩
    · intro J2
      show own_Go _ _ _ _ (T1.setTop (mkF m 29 #[.val (.long q0), .second, .val (.long q1), .second, .val (.long q2), .second, .val (.int p3), .val (.int p4), .val (.long per), .second, .val (.long (q0 &&& (1152921504606846975 : Int64))), .second, .unset, .unset, .unset, .unset, .unset, .unset, .unset, .unset, .unset, .unset, .unset] []))
      refine own_step (fun _ κ => XS.iload X1.here hx rfl (hb hby at_29) rfl κ) ?_
      show own_Go _ _ _ _ (T1.setTop (mkF m 31 #[.val (.long q0), .second, .val (.long q1), .second, .val (.long q2), .second, .val (.int p3), .val (.int p4), .val (.long per), .second, .val (.long (q0 &&& (1152921504606846975 : Int64))), .second, .unset, .unset, .unset, .unset, .unset, .unset, .unset, .unset, .unset, .unset, .unset] [(.int p4)]))
      refine own_step (fun _ κ => XS.iconst X1.here hx rfl (hb hby at_31) κ) ?_
      show own_Go _ _ _ _ (T1.setTop (mkF m 32 #[.val (.long q0), .second, .val (.long q1), .second, .val (.long q2), .second, .val (.int p3), .val (.int p4), .val (.long per), .second, .val (.long (q0 &&& (1152921504606846975 : Int64))), .second, .unset, .unset, .unset, .unset, .unset, .unset, .unset, .unset, .unset, .unset, .unset] [(.int (1 : Int32)), (.int p4)]))
      refine own_step (fun _ κ => XS.iand X1.here hx rfl (hb hby at_32) rfl κ) ?_
      show own_Go _ _ _ _ (T1.setTop (mkF m 33 #[.val (.long q0), .second, .val (.long q1), .second, .val (.long q2), .second, .val (.int p3), .val (.int p4), .val (.long per), .second, .val (.long (q0 &&& (1152921504606846975 : Int64))), .second, .unset, .unset, .unset, .unset, .unset, .unset, .unset, .unset, .unset, .unset, .unset] [(.int (p4 &&& (1 : Int32)))]))
      by_cases hc35 : (p4 &&& (1 : Int32)) = (0 : Int32)
      · refine own_step (fun _ κ => XS.ifYes X1.here hx rfl (pc0 := 33) (pc' := 47) rfl (hb hby at_33) rfl ((if0 _ _).trans (teq hc35).1) (by decide) (by decide) κ) ?_
        show own_Go _ _ _ _ (T1.setTop (mkF m 47 #[.val (.long q0), .second, .val (.long q1), .second, .val (.long q2), .second, .val (.int p3), .val (.int p4), .val (.long per), .second, .val (.long (q0 &&& (1152921504606846975 : Int64))), .second, .unset, .unset, .unset, .unset, .unset, .unset, .unset, .unset, .unset, .unset, .unset] []))
        refine own_step (fun _ κ => XS.lload X1.here hx rfl (hb hby at_47) rfl κ) ?_
        show own_Go _ _ _ _ (T1.setTop (mkF m 49 #[.val (.long q0), .second, .val (.long q1), .second, .val (.long q2), .second, .val (.int p3), .val (.int p4), .val (.long per), .second, .val (.long (q0 &&& (1152921504606846975 : Int64))), .second, .unset, .unset, .unset, .unset, .unset, .unset, .unset, .unset, .unset, .unset, .unset] [(.long q2)]))
        refine own_step (fun _ κ => X1.ldc2Long hx hown (mvT hZ (hw _ (List.mem_of_getElem? (i := 52) rfl))) (g := (mkF m 49 #[.val (.long q0), .second, .val (.long q1), .second, .val (.long q2), .second, .val (.int p3), .val (.int p4), .val (.long per), .second, .val (.long (q0 &&& (1152921504606846975 : Int64))), .second, .unset, .unset, .unset, .unset, .unset, .unset, .unset, .unset, .unset, .unset, .unset] [(.long q2)])) rfl (hb hby at_49) _ κ) ?_
        show own_Go _ _ _ _ (T1.setTop (mkF m 52 #[.val (.long q0), .second, .val (.long q1), .second, .val (.long q2), .second, .val (.int p3), .val (.int p4), .val (.long per), .second, .val (.long (q0 &&& (1152921504606846975 : Int64))), .second, .unset, .unset, .unset, .unset, .unset, .unset, .unset, .unset, .unset, .unset, .unset] [(.long (1023 : Int64)), (.long q2)]))
        refine own_step (fun _ κ => XS.land X1.here hx rfl (hb hby at_52) rfl κ) ?_
        show own_Go _ _ _ _ (T1.setTop (mkF m 53 #[.val (.long q0), .second, .val (.long q1), .second, .val (.long q2), .second, .val (.int p3), .val (.int p4), .val (.long per), .second, .val (.long (q0 &&& (1152921504606846975 : Int64))), .second, .unset, .unset, .unset, .unset, .unset, .unset, .unset, .unset, .unset, .unset, .unset] [(.long (q2 &&& (1023 : Int64)))]))
        refine own_step (fun _ κ => X1.ldc2Long hx hown (mvT hZ (hw _ (List.mem_of_getElem? (i := 53) rfl))) (g := (mkF m 53 #[.val (.long q0), .second, .val (.long q1), .second, .val (.long q2), .second, .val (.int p3), .val (.int p4), .val (.long per), .second, .val (.long (q0 &&& (1152921504606846975 : Int64))), .second, .unset, .unset, .unset, .unset, .unset, .unset, .unset, .unset, .unset, .unset, .unset] [(.long (q2 &&& (1023 : Int64)))])) rfl (hb hby at_53) _ κ) ?_
        show own_Go _ _ _ _ (T1.setTop (mkF m 56 #[.val (.long q0), .second, .val (.long q1), .second, .val (.long q2), .second, .val (.int p3), .val (.int p4), .val (.long per), .second, .val (.long (q0 &&& (1152921504606846975 : Int64))), .second, .unset, .unset, .unset, .unset, .unset, .unset, .unset, .unset, .unset, .unset, .unset] [(.long (512 : Int64)), (.long (q2 &&& (1023 : Int64)))]))
        refine own_step (fun _ κ => XS.lsub X1.here hx rfl (hb hby at_56) rfl κ) ?_
        show own_Go _ _ _ _ (T1.setTop (mkF m 57 #[.val (.long q0), .second, .val (.long q1), .second, .val (.long q2), .second, .val (.int p3), .val (.int p4), .val (.long per), .second, .val (.long (q0 &&& (1152921504606846975 : Int64))), .second, .unset, .unset, .unset, .unset, .unset, .unset, .unset, .unset, .unset, .unset, .unset] [(.long ((q2 &&& (1023 : Int64)) - (512 : Int64)))]))
        refine own_step (fun _ κ => XS.lload X1.here hx rfl (hb hby at_57) rfl κ) ?_
        show own_Go _ _ _ _ (T1.setTop (mkF m 59 #[.val (.long q0), .second, .val (.long q1), .second, .val (.long q2), .second, .val (.int p3), .val (.int p4), .val (.long per), .second, .val (.long (q0 &&& (1152921504606846975 : Int64))), .second, .unset, .unset, .unset, .unset, .unset, .unset, .unset, .unset, .unset, .unset, .unset] [(.long per), (.long ((q2 &&& (1023 : Int64)) - (512 : Int64)))]))
        refine own_step (fun _ κ => XS.iload X1.here hx rfl (hb hby at_59) rfl κ) ?_
        show own_Go _ _ _ _ (T1.setTop (mkF m 61 #[.val (.long q0), .second, .val (.long q1), .second, .val (.long q2), .second, .val (.int p3), .val (.int p4), .val (.long per), .second, .val (.long (q0 &&& (1152921504606846975 : Int64))), .second, .unset, .unset, .unset, .unset, .unset, .unset, .unset, .unset, .unset, .unset, .unset] [(.int p3), (.long per), (.long ((q2 &&& (1023 : Int64)) - (512 : Int64)))]))
        refine own_step (fun _ κ => XS.bipush X1.here hx rfl (hb hby at_61) κ) ?_
        show own_Go _ _ _ _ (T1.setTop (mkF m 63 #[.val (.long q0), .second, .val (.long q1), .second, .val (.long q2), .second, .val (.int p3), .val (.int p4), .val (.long per), .second, .val (.long (q0 &&& (1152921504606846975 : Int64))), .second, .unset, .unset, .unset, .unset, .unset, .unset, .unset, .unset, .unset, .unset, .unset] [(.int (7 : Int32)), (.int p3), (.long per), (.long ((q2 &&& (1023 : Int64)) - (512 : Int64)))]))
        refine own_step (fun _ κ => XS.iand X1.here hx rfl (hb hby at_63) rfl κ) ?_
        show own_Go _ _ _ _ (T1.setTop (mkF m 64 #[.val (.long q0), .second, .val (.long q1), .second, .val (.long q2), .second, .val (.int p3), .val (.int p4), .val (.long per), .second, .val (.long (q0 &&& (1152921504606846975 : Int64))), .second, .unset, .unset, .unset, .unset, .unset, .unset, .unset, .unset, .unset, .unset, .unset] [(.int (p3 &&& (7 : Int32))), (.long per), (.long ((q2 &&& (1023 : Int64)) - (512 : Int64)))]))
        refine own_step (fun _ κ => XS.i2l X1.here hx rfl (hb hby at_64) rfl κ) ?_
        show own_Go _ _ _ _ (T1.setTop (mkF m 65 #[.val (.long q0), .second, .val (.long q1), .second, .val (.long q2), .second, .val (.int p3), .val (.int p4), .val (.long per), .second, .val (.long (q0 &&& (1152921504606846975 : Int64))), .second, .unset, .unset, .unset, .unset, .unset, .unset, .unset, .unset, .unset, .unset, .unset] [(.long ((p3 &&& (7 : Int32)).toInt64)), (.long per), (.long ((q2 &&& (1023 : Int64)) - (512 : Int64)))]))
        refine own_step (fun _ κ => XS.lmul X1.here hx rfl (hb hby at_65) rfl κ) ?_
        show own_Go _ _ _ _ (T1.setTop (mkF m 66 #[.val (.long q0), .second, .val (.long q1), .second, .val (.long q2), .second, .val (.int p3), .val (.int p4), .val (.long per), .second, .val (.long (q0 &&& (1152921504606846975 : Int64))), .second, .unset, .unset, .unset, .unset, .unset, .unset, .unset, .unset, .unset, .unset, .unset] [(.long (per * ((p3 &&& (7 : Int32)).toInt64))), (.long ((q2 &&& (1023 : Int64)) - (512 : Int64)))]))
        refine own_step (fun _ κ => XS.ladd X1.here hx rfl (hb hby at_66) rfl κ) ?_
        show own_Go _ _ _ _ (T1.setTop (mkF m 67 #[.val (.long q0), .second, .val (.long q1), .second, .val (.long q2), .second, .val (.int p3), .val (.int p4), .val (.long per), .second, .val (.long (q0 &&& (1152921504606846975 : Int64))), .second, .unset, .unset, .unset, .unset, .unset, .unset, .unset, .unset, .unset, .unset, .unset] [(.long (((q2 &&& (1023 : Int64)) - (512 : Int64)) + (per * ((p3 &&& (7 : Int32)).toInt64))))]))
        refine own_step (fun _ κ => XS.lstore X1.here hx rfl (hb hby at_67) rfl (l' := #[.val (.long q0), .second, .val (.long q1), .second, .val (.long q2), .second, .val (.int p3), .val (.int p4), .val (.long per), .second, .val (.long (q0 &&& (1152921504606846975 : Int64))), .second, .val (.long (((q2 &&& (1023 : Int64)) - (512 : Int64)) + (per * ((p3 &&& (7 : Int32)).toInt64)))), .second, .unset, .unset, .unset, .unset, .unset, .unset, .unset, .unset, .unset]) rfl κ) ?_
        show own_Go _ _ _ _ (T1.setTop (mkF m 69 #[.val (.long q0), .second, .val (.long q1), .second, .val (.long q2), .second, .val (.int p3), .val (.int p4), .val (.long per), .second, .val (.long (q0 &&& (1152921504606846975 : Int64))), .second, .val (.long (((q2 &&& (1023 : Int64)) - (512 : Int64)) + (per * ((p3 &&& (7 : Int32)).toInt64)))), .second, .unset, .unset, .unset, .unset, .unset, .unset, .unset, .unset, .unset] []))
        exact J2 _ _ X1 e1 (own_dt2 q2 per p3 pr1)
      · refine own_step (fun _ κ => XS.ifNo X1.here hx rfl (hb hby at_33) rfl ((if0 _ _).trans (feq hc35).1) κ) ?_
        show own_Go _ _ _ _ (T1.setTop (mkF m 36 #[.val (.long q0), .second, .val (.long q1), .second, .val (.long q2), .second, .val (.int p3), .val (.int p4), .val (.long per), .second, .val (.long (q0 &&& (1152921504606846975 : Int64))), .second, .unset, .unset, .unset, .unset, .unset, .unset, .unset, .unset, .unset, .unset, .unset] []))
        refine own_step (fun _ κ => XS.lload X1.here hx rfl (hb hby at_36) rfl κ) ?_
        show own_Go _ _ _ _ (T1.setTop (mkF m 38 #[.val (.long q0), .second, .val (.long q1), .second, .val (.long q2), .second, .val (.int p3), .val (.int p4), .val (.long per), .second, .val (.long (q0 &&& (1152921504606846975 : Int64))), .second, .unset, .unset, .unset, .unset, .unset, .unset, .unset, .unset, .unset, .unset, .unset] [(.long q2)]))
        refine own_step (fun _ κ => X1.ldc2Long hx hown (mvT hZ (hw _ (List.mem_of_getElem? (i := 1) rfl))) (g := (mkF m 38 #[.val (.long q0), .second, .val (.long q1), .second, .val (.long q2), .second, .val (.int p3), .val (.int p4), .val (.long per), .second, .val (.long (q0 &&& (1152921504606846975 : Int64))), .second, .unset, .unset, .unset, .unset, .unset, .unset, .unset, .unset, .unset, .unset, .unset] [(.long q2)])) rfl (hb hby at_38) _ κ) ?_
        show own_Go _ _ _ _ (T1.setTop (mkF m 41 #[.val (.long q0), .second, .val (.long q1), .second, .val (.long q2), .second, .val (.int p3), .val (.int p4), .val (.long per), .second, .val (.long (q0 &&& (1152921504606846975 : Int64))), .second, .unset, .unset, .unset, .unset, .unset, .unset, .unset, .unset, .unset, .unset, .unset] [(.long (1152921504606846975 : Int64)), (.long q2)]))
        refine own_step (fun _ κ => XS.land X1.here hx rfl (hb hby at_41) rfl κ) ?_
        show own_Go _ _ _ _ (T1.setTop (mkF m 42 #[.val (.long q0), .second, .val (.long q1), .second, .val (.long q2), .second, .val (.int p3), .val (.int p4), .val (.long per), .second, .val (.long (q0 &&& (1152921504606846975 : Int64))), .second, .unset, .unset, .unset, .unset, .unset, .unset, .unset, .unset, .unset, .unset, .unset] [(.long (q2 &&& (1152921504606846975 : Int64)))]))
        refine own_step (fun _ κ => XS.lstore X1.here hx rfl (hb hby at_42) rfl (l' := #[.val (.long q0), .second, .val (.long q1), .second, .val (.long q2), .second, .val (.int p3), .val (.int p4), .val (.long per), .second, .val (.long (q0 &&& (1152921504606846975 : Int64))), .second, .val (.long (q2 &&& (1152921504606846975 : Int64))), .second, .unset, .unset, .unset, .unset, .unset, .unset, .unset, .unset, .unset]) rfl κ) ?_
        show own_Go _ _ _ _ (T1.setTop (mkF m 44 #[.val (.long q0), .second, .val (.long q1), .second, .val (.long q2), .second, .val (.int p3), .val (.int p4), .val (.long per), .second, .val (.long (q0 &&& (1152921504606846975 : Int64))), .second, .val (.long (q2 &&& (1152921504606846975 : Int64))), .second, .unset, .unset, .unset, .unset, .unset, .unset, .unset, .unset, .unset] []))
        refine own_step (fun _ κ => XS.goto X1.here hx rfl (pc0 := 44) (pc' := 69) rfl (hb hby at_44) (by decide) (by decide) κ) ?_
        show own_Go _ _ _ _ (T1.setTop (mkF m 69 #[.val (.long q0), .second, .val (.long q1), .second, .val (.long q2), .second, .val (.int p3), .val (.int p4), .val (.long per), .second, .val (.long (q0 &&& (1152921504606846975 : Int64))), .second, .val (.long (q2 &&& (1152921504606846975 : Int64))), .second, .unset, .unset, .unset, .unset, .unset, .unset, .unset, .unset, .unset] []))
        exact J2 _ _ X1 e1 (own_dt1 q2)
  · intro J1
    show own_Go _ _ _ _ (s₁.setTop (mkF m 0 #[.val (.long q0), .second, .val (.long q1), .second, .val (.long q2), .second, .val (.int p3), .val (.int p4), .unset, .unset, .unset, .unset, .unset, .unset, .unset, .unset, .unset, .unset, .unset, .unset, .unset, .unset, .unset] []))
    refine own_step (fun _ κ => XS.iload X0.here hx rfl (hb hby at_0) rfl κ) ?_
    show own_Go _ _ _ _ (s₁.setTop (mkF m 2 #[.val (.long q0), .second, .val (.long q1), .second, .val (.long q2), .second, .val (.int p3), .val (.int p4), .unset, .unset, .unset, .unset, .unset, .unset, .unset, .unset, .unset, .unset, .unset, .unset, .unset, .unset, .unset] [(.int p4)]))
    refine own_step (fun _ κ => XS.iconst X0.here hx rfl (hb hby at_2) κ) ?_
    show own_Go _ _ _ _ (s₁.setTop (mkF m 3 #[.val (.long q0), .second, .val (.long q1), .second, .val (.long q2), .second, .val (.int p3), .val (.int p4), .unset, .unset, .unset, .unset, .unset, .unset, .unset, .unset, .unset, .unset, .unset, .unset, .unset, .unset, .unset] [(.int (2 : Int32)), (.int p4)]))
    refine own_step (fun _ κ => XS.iand X0.here hx rfl (hb hby at_3) rfl κ) ?_
    show own_Go _ _ _ _ (s₁.setTop (mkF m 4 #[.val (.long q0), .second, .val (.long q1), .second, .val (.long q2), .second, .val (.int p3), .val (.int p4), .unset, .unset, .unset, .unset, .unset, .unset, .unset, .unset, .unset, .unset, .unset, .unset, .unset, .unset, .unset] [(.int (p4 &&& (2 : Int32)))]))
    by_cases hc36 : (p4 &&& (2 : Int32)) = (0 : Int32)
    · refine own_step (fun _ κ => XS.ifYes X0.here hx rfl (pc0 := 4) (pc' := 15) rfl (hb hby at_4) rfl ((if0 _ _).trans (teq hc36).1) (by decide) (by decide) κ) ?_
      show own_Go _ _ _ _ (s₁.setTop (mkF m 15 #[.val (.long q0), .second, .val (.long q1), .second, .val (.long q2), .second, .val (.int p3), .val (.int p4), .unset, .unset, .unset, .unset, .unset, .unset, .unset, .unset, .unset, .unset, .unset, .unset, .unset, .unset, .unset] []))
      refine own_step (fun _ κ => XS.lloadN X0.here hx rfl (hb hby at_15) rfl κ) ?_
      show own_Go _ _ _ _ (s₁.setTop (mkF m 16 #[.val (.long q0), .second, .val (.long q1), .second, .val (.long q2), .second, .val (.int p3), .val (.int p4), .unset, .unset, .unset, .unset, .unset, .unset, .unset, .unset, .unset, .unset, .unset, .unset, .unset, .unset, .unset] [(.long q1)]))
      refine own_step (fun _ κ => X0.ldc2Long hx hown (mvT hZ (hw _ (List.mem_of_getElem? (i := 54) rfl))) (g := (mkF m 16 #[.val (.long q0), .second, .val (.long q1), .second, .val (.long q2), .second, .val (.int p3), .val (.int p4), .unset, .unset, .unset, .unset, .unset, .unset, .unset, .unset, .unset, .unset, .unset, .unset, .unset, .unset, .unset] [(.long q1)])) rfl (hb hby at_16) _ κ) ?_
      show own_Go _ _ _ _ (s₁.setTop (mkF m 19 #[.val (.long q0), .second, .val (.long q1), .second, .val (.long q2), .second, .val (.int p3), .val (.int p4), .unset, .unset, .unset, .unset, .unset, .unset, .unset, .unset, .unset, .unset, .unset, .unset, .unset, .unset, .unset] [(.long (1099511627775 : Int64)), (.long q1)]))
      refine own_step (fun _ κ => XS.land X0.here hx rfl (hb hby at_19) rfl κ) ?_
      show own_Go _ _ _ _ (s₁.setTop (mkF m 20 #[.val (.long q0), .second, .val (.long q1), .second, .val (.long q2), .second, .val (.int p3), .val (.int p4), .unset, .unset, .unset, .unset, .unset, .unset, .unset, .unset, .unset, .unset, .unset, .unset, .unset, .unset, .unset] [(.long (q1 &&& (1099511627775 : Int64)))]))
      exact J1 _ _ X0 e0 (own_per q1 (1099511627775 : Int64) 40 (by decide) (by decide) (by decide))
    · refine own_step (fun _ κ => XS.ifNo X0.here hx rfl (hb hby at_4) rfl ((if0 _ _).trans (feq hc36).1) κ) ?_
      show own_Go _ _ _ _ (s₁.setTop (mkF m 7 #[.val (.long q0), .second, .val (.long q1), .second, .val (.long q2), .second, .val (.int p3), .val (.int p4), .unset, .unset, .unset, .unset, .unset, .unset, .unset, .unset, .unset, .unset, .unset, .unset, .unset, .unset, .unset] []))
      refine own_step (fun _ κ => XS.lloadN X0.here hx rfl (hb hby at_7) rfl κ) ?_
      show own_Go _ _ _ _ (s₁.setTop (mkF m 8 #[.val (.long q0), .second, .val (.long q1), .second, .val (.long q2), .second, .val (.int p3), .val (.int p4), .unset, .unset, .unset, .unset, .unset, .unset, .unset, .unset, .unset, .unset, .unset, .unset, .unset, .unset, .unset] [(.long q1)]))
      refine own_step (fun _ κ => X0.ldc2Long hx hown (mvT hZ (hw _ (List.mem_of_getElem? (i := 0) rfl))) (g := (mkF m 8 #[.val (.long q0), .second, .val (.long q1), .second, .val (.long q2), .second, .val (.int p3), .val (.int p4), .unset, .unset, .unset, .unset, .unset, .unset, .unset, .unset, .unset, .unset, .unset, .unset, .unset, .unset, .unset] [(.long q1)])) rfl (hb hby at_8) _ κ) ?_
      show own_Go _ _ _ _ (s₁.setTop (mkF m 11 #[.val (.long q0), .second, .val (.long q1), .second, .val (.long q2), .second, .val (.int p3), .val (.int p4), .unset, .unset, .unset, .unset, .unset, .unset, .unset, .unset, .unset, .unset, .unset, .unset, .unset, .unset, .unset] [(.long (255 : Int64)), (.long q1)]))
      refine own_step (fun _ κ => XS.land X0.here hx rfl (hb hby at_11) rfl κ) ?_
      show own_Go _ _ _ _ (s₁.setTop (mkF m 12 #[.val (.long q0), .second, .val (.long q1), .second, .val (.long q2), .second, .val (.int p3), .val (.int p4), .unset, .unset, .unset, .unset, .unset, .unset, .unset, .unset, .unset, .unset, .unset, .unset, .unset, .unset, .unset] [(.long (q1 &&& (255 : Int64)))]))
      refine own_step (fun _ κ => XS.goto X0.here hx rfl (pc0 := 12) (pc' := 20) rfl (hb hby at_12) (by decide) (by decide) κ) ?_
      show own_Go _ _ _ _ (s₁.setTop (mkF m 20 #[.val (.long q0), .second, .val (.long q1), .second, .val (.long q2), .second, .val (.int p3), .val (.int p4), .unset, .unset, .unset, .unset, .unset, .unset, .unset, .unset, .unset, .unset, .unset, .unset, .unset, .unset, .unset] [(.long (q1 &&& (255 : Int64)))]))
      exact J1 _ _ X0 e0 (own_per q1 (255 : Int64) 8 (by decide) (by decide) (by decide))
set_option maxRecDepth 65536 in
set_option maxHeartbeats 40000000 in
theorem comes_1 {Post : Tables → Env → Array Value → State → Outcome → State → Prop} (hpost : ∀ tb e args s v u, (limb_1_1.after args s (.returned v) u = true ∧ limb_1_2.after args s (.returned v) u = true ∧ True) → FrameEnd s (.returned v) u (Jvm.fieldLocs frame_1_writes args s ++ Jvm.arrayLocs frame_1_arrays args s ++ Jvm.staticLocs frame_1_statics s) 16 128 → Post tb e args s (.returned v) u) :
    ArmFor flags0 classFile x code maxLocals ret World_1 tables_1 room_1 Calls_1 rest_1 Pre_1 Post := by
  intro l hfl _ _ p e ha hc hk s m args below hf hA hF happ hP
  obtain ⟨hcalls, hrest, hpre⟩ := hP
  obtain ⟨-, -, -, hnamed, -, -, -, hat⟩ := (Spec.applies_iff hf).mp happ
  obtain ⟨hg, hn⟩ := and_e (Cond.before_iff.mp (show (Jvm.Cond.and given_1 narrow_1).before args s = true from hpre))
  obtain ⟨g0, gr0⟩ := and_e hg
  obtain ⟨w0, w1, w2, w3, w4, rfl⟩ : ∃ w0 w1 w2 w3 w4 : Value, args = #[w0, w1, w2, w3, w4] := by
    have hs : args.size = 5 := by simpa [Cond.value, given_1] using g0
    obtain ⟨L⟩ := args
    match L, hs with
    | [w0, w1, w2, w3, w4], _ => exact ⟨w0, w1, w2, w3, w4, rfl⟩
  have hw := fun d (hd : d ∈ tables_1) => atoms_spec (ws := Jvm.Cond.code x code maxLocals ret :: tables_1) hat d (List.mem_cons_of_mem _ hd)
  have hfit : Fit s := fun {y c} hc i hi => by
    obtain ⟨ha, rfl⟩ := Array.getElem?_eq_some_iff.mp hc
    have q := List.all_eq_true.mp ((Array.all_eq_true_iff_forall_mem.mp hF) _ (Array.getElem_mem ha)) i (List.mem_range.mpr hi)
    simpa [Array.getElem?_eq_getElem hi] using q
  obtain ⟨ga0, gr1⟩ := and_e gr0
  obtain ⟨i0, ei0⟩ := isL_v ga0
  obtain rfl : w0 = (.long i0) := Option.some.inj ei0
  obtain ⟨ga1, gr2⟩ := and_e gr1
  obtain ⟨i1, ei1⟩ := isL_v ga1
  obtain rfl : w1 = (.long i1) := Option.some.inj ei1
  obtain ⟨ga2, gr3⟩ := and_e gr2
  obtain ⟨i2, ei2⟩ := isL_v ga2
  obtain rfl : w2 = (.long i2) := Option.some.inj ei2
  obtain ⟨ga3, gr4⟩ := and_e gr3
  obtain ⟨i3, ei3⟩ := is_v ga3
  obtain rfl : w3 = (.int i3) := Option.some.inj ei3
  obtain ⟨i4, ei4⟩ := is_v gr4
  obtain rfl : w4 = (.int i4) := Option.some.inj ei4
  obtain ⟨n, o, h1, h2, h3, _, L, rfl, ⟨rfl, N⟩, hq⟩ := rm0 l s _ hw tables_1 i0 i1 i2 i3 i4 s.heap s.heap.size (Nat.le_refl _) p e ha hc hk s m _ below hf ((Spec.applies_iff_loose hf).mp happ).1 ⟨rfl, State.Warmed39.refl s, rfl⟩ trivial
  refine ⟨n, _, h1, h2, h3, hpost _ _ _ _ _ _ ⟨Cond.after_iff.mpr rfl, Cond.after_iff.mpr (eq_i res_at (Term.int_eval (1)) rfl), trivial⟩ ⟨hq.1, hq.2.1, (hq.2.2.sift fun y hy => Or.inr (N y hy)).mono (by decide) (by decide)⟩⟩
theorem main_1_1 : Claimed_1_1 := comes_1 fun _ _ _ _ _ _ h hF => ⟨h.1, hF⟩
theorem main_1_2 : Claimed_1_2 := comes_1 fun _ _ _ _ _ _ h hF => ⟨h.2.1, hF⟩
end Jvm.Pilot.@@N@@
namespace Jvm.Pilot.@@N@@
open Jvm Jvm.ClassFile Sem Op Lib Jvm.Free Jvm.Stand Jvm.Pilot.@@N@@.Jvm.D
/-! MADE BY PROGRAM (witnessworld.py) out of the Statement's table words and the real class files: 9 classes; the members and pool entries that the words name. The judged class is class 1, her method 1. -/
namespace start1
open Jvm.ClassFile
def u (s : String) : CpInfo := .utf8 (stringToUtf16 s)
/-- a pool by its gaps: so many unusable entries, then the entry; so many at the end -/
def gap : Nat → List CpInfo → List CpInfo
  | 0, r => r
  | n + 1, r => .unusable :: gap n r
def poolList (es : List (Nat × CpInfo)) (last : Nat) : List CpInfo := es.foldr (fun e r => gap e.1 (e.2 :: r)) (gap last [])
def pool (es : List (Nat × CpInfo)) (last : Nat) : Array CpInfo := ⟨poolList es last⟩
def fileOf (pool : Array CpInfo) (this : Nat) (attrs : Array Attribute := #[]) (ms : Array MethodInfo := #[]) (fl : Nat := 33) (sup : Nat := 0) (ifs : Array Nat := #[]) (fds : Array FieldInfo := #[]) : ClassFile where
  minorVersion := 0
  majorVersion := 65
  constantPool := pool
  accessFlags := fl
  thisClass := this
  superClass := sup
  interfaces := ifs
  fields := fds
  methods := ms
  attributes := attrs
def plain (name : String) (sup : Option ClassId) : Class where
  name := name
  kind := .ordinary
  loader := none
  accessFlags := 33
  super := sup
  interfaces := #[]
  cf := none
  fields := #[]
  methods := #[]
  instanceTypes := #[]
  staticTypes := #[]
  resolved := #[]
  callSites := []
  init := .initialized
  statics := none
  mirror := none

def pool0 : Array CpInfo := pool [(5, u "<init>"), (0, u "()V"), (1, .class_ 10), (1, u "java/lang/Object")] 113

def k0c0 : Code := { maxStack := 0, maxLocals := 1, code := object_method_1_code, exceptionTable := #[], attributes := #[] }
def k0m0 : Method := { name := "<init>", desc := "()V", sig := { parameters := [], returnType := none }, accessFlags := 1, code := some k0c0 }
/-- java/lang/Object -/
def k0 : Class := { plain "java/lang/Object" none with
  accessFlags := 33
  interfaces := #[]
  cf := some (fileOf pool0 8 #[] #[{ accessFlags := 1, nameIndex := 5, descriptorIndex := 6, attributes := #[] }] 33 0 #[] #[])
  fields := #[]
  methods := #[k0m0]
  instanceTypes := #[]
  staticTypes := #[]
  resolved := Array.replicate 124 none
  statics := none }

def pool1 : Array CpInfo := pool [(2, .class_ 4), (0, .nameAndType 5 6), (0, u "java/lang/Object"), (0, u "<init>"), (0, u "()V"), (0, .long 255), (1, .long 1099511627775), (1, .long 1152921504606846975), (1, .long 1023), (1, .long 512), (1, .class_ 18), (0, u "com/example/lockstep/lockstep/session/Ticks"), (0, .methodref 17 3), (0, .methodref 17 21), (0, .nameAndType 22 23), (0, u "start"), (0, u "(JJ)V"), (0, .methodref 17 25), (0, .nameAndType 26 27), (0, u "nextMs"), (0, u "()J"), (0, .methodref 17 29), (0, .nameAndType 30 31), (0, u "skipThrough"), (0, u "(J)V"), (0, .methodref 17 33), (0, .nameAndType 34 35), (0, u "asked"), (0, u "()Z"), (0, .methodref 17 37), (0, .nameAndType 38 39), (0, u "due"), (0, u "(J)Z"), (0, .class_ 41), (0, u "com/example/lockstep/lockstep/session/TicksSkipThroughPinLaw"), (2, u "law"), (0, u "(JJJII)Z")] 3

def k1m0 : Method := { name := "<init>", desc := "()V", sig := { parameters := [], returnType := none }, accessFlags := 2, code := none }
def k1c1 : Code := { maxStack := 6, maxLocals := 23, code := code, exceptionTable := #[], attributes := #[] }
def k1m1 : Method := { name := "law", desc := "(JJJII)Z", sig := { parameters := [.long, .long, .long, .int, .int], returnType := some .boolean }, accessFlags := 9, code := some k1c1 }
/-- com/example/lockstep/lockstep/session/TicksSkipThroughPinLaw -/
def k1 : Class := { plain "com/example/lockstep/lockstep/session/TicksSkipThroughPinLaw" (some 0) with
  accessFlags := 49
  interfaces := #[]
  cf := some (fileOf pool1 40 #[] #[{ accessFlags := 2, nameIndex := 5, descriptorIndex := 6, attributes := #[] }, { accessFlags := 9, nameIndex := 44, descriptorIndex := 45, attributes := #[] }] 49 2 #[] #[])
  fields := #[]
  methods := #[k1m0, k1m1]
  instanceTypes := #[]
  staticTypes := #[]
  resolved := Array.replicate 49 none
  statics := none }

def pool2 : Array CpInfo := pool [(1, .methodref 2 3), (0, .class_ 4), (0, .nameAndType 5 6), (0, u "java/lang/Object"), (0, u "<init>"), (0, u "()V"), (0, .methodref 8 9), (0, .class_ 10), (0, .nameAndType 11 6), (0, u "com/example/lockstep/lockstep/session/Ticks"), (0, u "stop"), (0, .fieldref 8 13), (0, .nameAndType 14 15), (0, u "periodMs"), (0, u "J"), (0, .fieldref 8 17), (0, .nameAndType 18 15), (0, u "nextMs"), (6, .fieldref 8 26), (0, .nameAndType 27 28), (0, u "timer"), (0, u "Lcom/example/lockstep/lockstep/session/Timers$Timer;"), (5, .methodref 8 35), (0, .nameAndType 36 6), (0, u "pause"), (2, u "start"), (0, u "(JJ)V"), (1, u "asked"), (0, u "()Z"), (0, u "due"), (0, u "(J)Z"), (0, u "()J"), (3, u "skipThrough"), (0, u "(J)V")] 8

def k2c0 : Code := { maxStack := 1, maxLocals := 1, code := prog_56_method_1_code, exceptionTable := #[], attributes := #[] }
def k2m0 : Method := { name := "<init>", desc := "()V", sig := { parameters := [], returnType := none }, accessFlags := 0, code := some k2c0 }
def k2c1 : Code := { maxStack := 5, maxLocals := 5, code := prog_56_method_2_code, exceptionTable := #[], attributes := #[] }
def k2m1 : Method := { name := "start", desc := "(JJ)V", sig := { parameters := [.long, .long], returnType := none }, accessFlags := 0, code := some k2c1 }
def k2c2 : Code := { maxStack := 4, maxLocals := 1, code := prog_56_method_3_code, exceptionTable := #[], attributes := #[] }
def k2m2 : Method := { name := "asked", desc := "()Z", sig := { parameters := [], returnType := some .boolean }, accessFlags := 0, code := some k2c2 }
def k2c3 : Code := { maxStack := 4, maxLocals := 3, code := prog_56_method_4_code, exceptionTable := #[], attributes := #[] }
def k2m3 : Method := { name := "due", desc := "(J)Z", sig := { parameters := [.long], returnType := some .boolean }, accessFlags := 0, code := some k2c3 }
def k2c4 : Code := { maxStack := 2, maxLocals := 1, code := prog_56_method_5_code, exceptionTable := #[], attributes := #[] }
def k2m4 : Method := { name := "nextMs", desc := "()J", sig := { parameters := [], returnType := some .long }, accessFlags := 0, code := some k2c4 }
def k2c5 : Code := { maxStack := 7, maxLocals := 3, code := prog_56_method_8_code, exceptionTable := #[], attributes := #[] }
def k2m5 : Method := { name := "skipThrough", desc := "(J)V", sig := { parameters := [.long], returnType := none }, accessFlags := 0, code := some k2c5 }
def k2c6 : Code := { maxStack := 2, maxLocals := 1, code := prog_56_method_10_code, exceptionTable := #[], attributes := #[] }
def k2m6 : Method := { name := "pause", desc := "()V", sig := { parameters := [], returnType := none }, accessFlags := 0, code := some k2c6 }
def k2c7 : Code := { maxStack := 3, maxLocals := 1, code := prog_56_method_11_code, exceptionTable := #[], attributes := #[] }
def k2m7 : Method := { name := "stop", desc := "()V", sig := { parameters := [], returnType := none }, accessFlags := 0, code := some k2c7 }
/-- com/example/lockstep/lockstep/session/Ticks -/
def k2 : Class := { plain "com/example/lockstep/lockstep/session/Ticks" (some 0) with
  accessFlags := 32
  interfaces := #[]
  cf := some (fileOf pool2 8 #[] #[{ accessFlags := 0, nameIndex := 5, descriptorIndex := 6, attributes := #[] }, { accessFlags := 0, nameIndex := 39, descriptorIndex := 40, attributes := #[] }, { accessFlags := 0, nameIndex := 42, descriptorIndex := 43, attributes := #[] }, { accessFlags := 0, nameIndex := 44, descriptorIndex := 45, attributes := #[] }, { accessFlags := 0, nameIndex := 18, descriptorIndex := 46, attributes := #[] }, { accessFlags := 0, nameIndex := 50, descriptorIndex := 51, attributes := #[] }, { accessFlags := 0, nameIndex := 36, descriptorIndex := 6, attributes := #[] }, { accessFlags := 0, nameIndex := 11, descriptorIndex := 6, attributes := #[] }] 32 2 #[] #[{ accessFlags := 2, nameIndex := 14, descriptorIndex := 15, attributes := #[] }, { accessFlags := 2, nameIndex := 18, descriptorIndex := 15, attributes := #[] }, { accessFlags := 2, nameIndex := 27, descriptorIndex := 28, attributes := #[] }])
  fields := #[{ name := "periodMs", type := .long, accessFlags := 2, slot := 0, constantValue := 0 }, { name := "nextMs", type := .long, accessFlags := 2, slot := 1, constantValue := 0 }, { name := "timer", type := (.object "com/example/lockstep/lockstep/session/Timers$Timer"), accessFlags := 2, slot := 2, constantValue := 0 }]
  methods := #[k2m0, k2m1, k2m2, k2m3, k2m4, k2m5, k2m6, k2m7]
  instanceTypes := #[.long, .long, (.object "com/example/lockstep/lockstep/session/Timers$Timer")]
  staticTypes := #[]
  resolved := Array.replicate 60 none
  statics := none }

def pool3 : Array CpInfo := pool [(1, u "java/lang/Cloneable"), (0, .class_ 1), (0, u "java/lang/Object"), (0, .class_ 3)] 3

/-- java/lang/Cloneable -/
def k3 : Class := { plain "java/lang/Cloneable" (some 0) with
  accessFlags := 1537
  interfaces := #[]
  cf := some (fileOf pool3 2 #[] #[] 1537 4 #[] #[])
  fields := #[]
  methods := #[]
  instanceTypes := #[]
  staticTypes := #[]
  resolved := Array.replicate 8 none
  statics := none }

def pool4 : Array CpInfo := pool [(1, u "java/io/Serializable"), (0, .class_ 1), (0, u "java/lang/Object"), (0, .class_ 3)] 3

/-- java/io/Serializable -/
def k4 : Class := { plain "java/io/Serializable" (some 0) with
  accessFlags := 1537
  interfaces := #[]
  cf := some (fileOf pool4 2 #[] #[] 1537 4 #[] #[])
  fields := #[]
  methods := #[]
  instanceTypes := #[]
  staticTypes := #[]
  resolved := Array.replicate 8 none
  statics := none }

/-- the primitive byte -/
def k5 : Class := { plain "byte" none with kind := .primitive 'B', accessFlags := 0x411 }
/-- [B -/
def k6 : Class := { plain "[B" (some 0) with kind := .array 5 .byte, interfaces := #[3, 4], accessFlags := 1041 }

/-- the primitive int -/
def k7 : Class := { plain "int" none with kind := .primitive 'I', accessFlags := 0x411 }
/-- [I -/
def k8 : Class := { plain "[I" (some 0) with kind := .array 7 .int, interfaces := #[3, 4], accessFlags := 1041 }

def heap : Heap := #[]
def classes : Array Class := #[k0, k1, k2, k3, k4, k5, k6, k7, k8]
def interned : List (Array UInt16 × Addr) := []
def slotsUsed : Nat := 0
def theMethod : MethodId := ⟨1, 1⟩
def args0 : Array Value := #[.long 5, .long 3, .long 2, .int 1, .int 2]
def aboutOver (below : List Frame) : State where
  vm := { classes := classes, interned := interned.toArray }
  heap := heap
  slotsUsed := slotsUsed
  threads := #[{ frames := .invoking theMethod args0 :: below }]
def below0 : List Frame := [.native { method := ⟨0, 0⟩, args := #[] }]
def about1 : State := aboutOver below0
def p0 : Program := .bare "" "" ""
def e0 : Env := launch0.env 0 0 0
theorem w_frames : about1.frames = Frame.invoking theMethod args0 :: below0 := rfl
set_option maxRecDepth 65536 in
theorem w_args : argsFit about1.vm theMethod args0 = true := by decide +kernel
set_option maxRecDepth 65536 in
theorem w_heap : heapFits about1 = true := by decide +kernel
set_option maxRecDepth 65536 in
theorem w_runnable : about1.curStatus? = some .runnable := by decide +kernel
set_option maxRecDepth 65536 in
theorem w_alone : about1.alone = true := by decide +kernel
set_option maxRecDepth 65536 in
theorem w_named : about1.methodNamed? x = some theMethod := by decide +kernel
set_option maxRecDepth 65536 in
theorem w_hears : about1.hears theMethod below0 = true := by decide +kernel
set_option maxRecDepth 65536 in
theorem w_ripe : about1.ripe theMethod args0 below0 = true := by decide +kernel
theorem w_running : about1.status = .running := rfl
set_option maxRecDepth 65536 in
theorem w_room : about1.hasRoom e0.platform room_1 = true :=
  launch0.hasRoom_least _ room_1 (by decide +kernel) (by decide +kernel) (by decide +kernel) (by decide +kernel) (by decide +kernel) (by decide +kernel)
theorem allAtoms_all (ts : List Jvm.Cond) (a : Array Jvm.Value) (st : Jvm.State) : (allAtoms ts).before a st = ts.all (fun c => c.before a st) := by
  induction ts with
  | nil => rfl
  | cons c t ih =>
    show (Jvm.Cond.and c (allAtoms t)).before a st = _
    rw [Jvm.Cond.before_and, ih, List.all_cons]
def words1 : List Jvm.Cond := Jvm.Cond.code x code maxLocals ret :: tables_1
/-- a 'code' word, met by the world's own term for the bytes: nothing is compared byte by byte -/
theorem code_word {y : MethodName} {bytes : ByteArray} {mx : Nat} {rt : Option FieldType} {a : Array Value} {s : State} {m : MethodId} {meth : Method} {c : Code} (h1 : s.methodNamed? y = some m) (h2 : s.vm.method? m = some meth) (h3 : meth.code = some c) (h4 : c.code = bytes)
    (h5 : (c.maxLocals == mx && c.exceptionTable.isEmpty && decide (c.maxStack ≤ mostOperands) && decide (meth.sig.returnType = rt) && !meth.locks && decide (parseMethodDescriptor y.desc = some meth.sig)) = true) : (Jvm.Cond.code y bytes mx rt).before a s = true := by
  simp only [Bool.and_eq_true, beq_iff_eq, Bool.not_eq_true', decide_eq_true_eq] at h5
  obtain ⟨⟨⟨⟨⟨g1, g2⟩, g3⟩, g4⟩, g5⟩, g6⟩ := h5
  simp [Cond.before, Cond.holds, Cond.value, h1, h2, h3, h4, g1, g2, g3, g4, g5, g6]
def isCode : Jvm.Cond → Bool
  | .code _ _ _ _ => true
  | _ => false
theorem all_split {L : List Jvm.Cond} {P : Jvm.Cond → Bool} (h1 : L.all (fun c => isCode c || P c) = true) (h2 : ∀ c ∈ L.filter isCode, P c = true) : L.all P = true := by
  refine List.all_eq_true.mpr fun c hc => ?_
  have h := List.all_eq_true.mp h1 c hc
  rcases Bool.eq_false_or_eq_true (isCode c) with hi | hi
  · exact h2 c (List.mem_filter.mpr ⟨hc, hi⟩)
  · simpa [hi] using h
set_option maxRecDepth 65536 in
theorem w_c0 : (Jvm.Cond.code x code maxLocals ret).before args0 about1 = true := code_word (m := ⟨1, 1⟩) (meth := k1m1) (c := k1c1) (by decide +kernel) rfl rfl rfl (by decide +kernel)
set_option maxRecDepth 65536 in
theorem w_c1 : (Jvm.Cond.code ({ cls := "com/example/lockstep/lockstep/session/Ticks", name := "<init>", desc := "()V" } : Jvm.MethodName) prog_56_method_1_code (1 : Nat) (Option.none : Option Jvm.ClassFile.FieldType)).before args0 about1 = true := code_word (m := ⟨2, 0⟩) (meth := k2m0) (c := k2c0) (by decide +kernel) rfl rfl rfl (by decide +kernel)
set_option maxRecDepth 65536 in
theorem w_c2 : (Jvm.Cond.code ({ cls := "java/lang/Object", name := "<init>", desc := "()V" } : Jvm.MethodName) object_method_1_code (1 : Nat) (Option.none : Option Jvm.ClassFile.FieldType)).before args0 about1 = true := code_word (m := ⟨0, 0⟩) (meth := k0m0) (c := k0c0) (by decide +kernel) rfl rfl rfl (by decide +kernel)
set_option maxRecDepth 65536 in
theorem w_c3 : (Jvm.Cond.code ({ cls := "com/example/lockstep/lockstep/session/Ticks", name := "start", desc := "(JJ)V" } : Jvm.MethodName) prog_56_method_2_code (5 : Nat) (Option.none : Option Jvm.ClassFile.FieldType)).before args0 about1 = true := code_word (m := ⟨2, 1⟩) (meth := k2m1) (c := k2c1) (by decide +kernel) rfl rfl rfl (by decide +kernel)
set_option maxRecDepth 65536 in
theorem w_c4 : (Jvm.Cond.code ({ cls := "com/example/lockstep/lockstep/session/Ticks", name := "stop", desc := "()V" } : Jvm.MethodName) prog_56_method_11_code (1 : Nat) (Option.none : Option Jvm.ClassFile.FieldType)).before args0 about1 = true := code_word (m := ⟨2, 7⟩) (meth := k2m7) (c := k2c7) (by decide +kernel) rfl rfl rfl (by decide +kernel)
set_option maxRecDepth 65536 in
theorem w_c5 : (Jvm.Cond.code ({ cls := "com/example/lockstep/lockstep/session/Ticks", name := "pause", desc := "()V" } : Jvm.MethodName) prog_56_method_10_code (1 : Nat) (Option.none : Option Jvm.ClassFile.FieldType)).before args0 about1 = true := code_word (m := ⟨2, 6⟩) (meth := k2m6) (c := k2c6) (by decide +kernel) rfl rfl rfl (by decide +kernel)
set_option maxRecDepth 65536 in
theorem w_c6 : (Jvm.Cond.code ({ cls := "com/example/lockstep/lockstep/session/Ticks", name := "nextMs", desc := "()J" } : Jvm.MethodName) prog_56_method_5_code (1 : Nat) (Option.some Jvm.ClassFile.FieldType.long)).before args0 about1 = true := code_word (m := ⟨2, 4⟩) (meth := k2m4) (c := k2c4) (by decide +kernel) rfl rfl rfl (by decide +kernel)
set_option maxRecDepth 65536 in
theorem w_c7 : (Jvm.Cond.code ({ cls := "com/example/lockstep/lockstep/session/Ticks", name := "skipThrough", desc := "(J)V" } : Jvm.MethodName) prog_56_method_8_code (3 : Nat) (Option.none : Option Jvm.ClassFile.FieldType)).before args0 about1 = true := code_word (m := ⟨2, 5⟩) (meth := k2m5) (c := k2c5) (by decide +kernel) rfl rfl rfl (by decide +kernel)
set_option maxRecDepth 65536 in
theorem w_c8 : (Jvm.Cond.code ({ cls := "com/example/lockstep/lockstep/session/Ticks", name := "asked", desc := "()Z" } : Jvm.MethodName) prog_56_method_3_code (1 : Nat) (Option.some Jvm.ClassFile.FieldType.boolean)).before args0 about1 = true := code_word (m := ⟨2, 2⟩) (meth := k2m2) (c := k2c2) (by decide +kernel) rfl rfl rfl (by decide +kernel)
set_option maxRecDepth 65536 in
theorem w_c9 : (Jvm.Cond.code ({ cls := "com/example/lockstep/lockstep/session/Ticks", name := "due", desc := "(J)Z" } : Jvm.MethodName) prog_56_method_4_code (3 : Nat) (Option.some Jvm.ClassFile.FieldType.boolean)).before args0 about1 = true := code_word (m := ⟨2, 3⟩) (meth := k2m3) (c := k2c3) (by decide +kernel) rfl rfl rfl (by decide +kernel)
def codes1 : List Jvm.Cond := [Jvm.Cond.code x code maxLocals ret, Jvm.Cond.code ({ cls := "com/example/lockstep/lockstep/session/Ticks", name := "<init>", desc := "()V" } : Jvm.MethodName) prog_56_method_1_code (1 : Nat) (Option.none : Option Jvm.ClassFile.FieldType), Jvm.Cond.code ({ cls := "java/lang/Object", name := "<init>", desc := "()V" } : Jvm.MethodName) object_method_1_code (1 : Nat) (Option.none : Option Jvm.ClassFile.FieldType), Jvm.Cond.code ({ cls := "com/example/lockstep/lockstep/session/Ticks", name := "start", desc := "(JJ)V" } : Jvm.MethodName) prog_56_method_2_code (5 : Nat) (Option.none : Option Jvm.ClassFile.FieldType), Jvm.Cond.code ({ cls := "com/example/lockstep/lockstep/session/Ticks", name := "stop", desc := "()V" } : Jvm.MethodName) prog_56_method_11_code (1 : Nat) (Option.none : Option Jvm.ClassFile.FieldType), Jvm.Cond.code ({ cls := "com/example/lockstep/lockstep/session/Ticks", name := "pause", desc := "()V" } : Jvm.MethodName) prog_56_method_10_code (1 : Nat) (Option.none : Option Jvm.ClassFile.FieldType), Jvm.Cond.code ({ cls := "com/example/lockstep/lockstep/session/Ticks", name := "nextMs", desc := "()J" } : Jvm.MethodName) prog_56_method_5_code (1 : Nat) (Option.some Jvm.ClassFile.FieldType.long), Jvm.Cond.code ({ cls := "com/example/lockstep/lockstep/session/Ticks", name := "skipThrough", desc := "(J)V" } : Jvm.MethodName) prog_56_method_8_code (3 : Nat) (Option.none : Option Jvm.ClassFile.FieldType), Jvm.Cond.code ({ cls := "com/example/lockstep/lockstep/session/Ticks", name := "asked", desc := "()Z" } : Jvm.MethodName) prog_56_method_3_code (1 : Nat) (Option.some Jvm.ClassFile.FieldType.boolean), Jvm.Cond.code ({ cls := "com/example/lockstep/lockstep/session/Ticks", name := "due", desc := "(J)Z" } : Jvm.MethodName) prog_56_method_4_code (3 : Nat) (Option.some Jvm.ClassFile.FieldType.boolean)]
set_option maxRecDepth 65536 in
theorem codes_eq : words1.filter isCode = codes1 := rfl
theorem w_codes : ∀ c ∈ words1.filter isCode, c.before args0 about1 = true := by
  rw [codes_eq]
  intro c hc
  simp only [codes1, List.mem_cons, List.not_mem_nil, or_false] at hc
  rcases hc with rfl | rfl | rfl | rfl | rfl | rfl | rfl | rfl | rfl | rfl
  · exact w_c0
  · exact w_c1
  · exact w_c2
  · exact w_c3
  · exact w_c4
  · exact w_c5
  · exact w_c6
  · exact w_c7
  · exact w_c8
  · exact w_c9
set_option maxRecDepth 65536 in
theorem w_t1 : (words1.take 24).all (fun c => isCode c || c.before args0 about1) = true := by decide +kernel
set_option maxRecDepth 65536 in
theorem w_t2 : ((words1.drop 24).take 24).all (fun c => isCode c || c.before args0 about1) = true := by decide +kernel
set_option maxRecDepth 65536 in
theorem w_t3 : ((words1.drop 24).drop 24).all (fun c => isCode c || c.before args0 about1) = true := by decide +kernel
theorem w_tables : (allAtoms (Jvm.Cond.code x code maxLocals ret :: tables_1)).before args0 about1 = true := by
  rw [allAtoms_all]
  show words1.all (fun c => c.before args0 about1) = true
  refine all_split ?_ w_codes
  rw [← List.take_append_drop 24 words1, List.all_append, w_t1, ← List.take_append_drop 24 (words1.drop 24), List.all_append, w_t2, w_t3]
  rfl
set_option maxRecDepth 65536 in
theorem w_case : (Jvm.Cond.and given_1 narrow_1).before args0 about1 = true := by decide +kernel
theorem w_applies : (headSpec (Jvm.Cond.code x code maxLocals ret :: tables_1) room_1).applies x e0.platform about1 = true :=
  (Spec.applies_iff w_frames).mpr ⟨w_running, w_runnable, w_alone, w_named, w_hears, w_ripe, w_room, w_tables⟩
theorem atStart : AtStart classFile x code maxLocals ret World_1 tables_1 room_1 Calls_1 rest_1 Pre_1 launch0 p0 e0 about1 theMethod args0 below0 :=
  ⟨lists_1, trivial, launch0.admits_env _ _ _, launch0.least_env, fairChoices_fair.cas, fairChoices_fair.clock, w_frames, w_args, w_heap, w_applies, trivial, trivial, w_case⟩
end start1
theorem witness_1 : WitnessClaimed_1 := ⟨start1.p0, start1.e0, start1.about1, start1.theMethod, start1.args0, start1.below0, start1.atStart⟩
end Jvm.Pilot.@@N@@
