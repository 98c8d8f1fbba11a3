import JvmDerived
import JvmDerived.Pilot.@@N@@Statement
import JvmDerived.Pilot.@@N@@Code
set_option linter.unusedVariables false
set_option linter.unusedSimpArgs false
namespace Jvm.Pilot.@@N@@
open Jvm Jvm.ClassFile Sem Op Lib Jvm.Free Jvm.Stand Jvm.LawKit Jvm.RoadKit Bundle Jvm.Pilot.@@N@@.Jvm.D
theorem own_w {Z : State} {a0 : Array Value} {d : Jvm.Cond} (hw : ∀ d ∈ tables_1, d.before a0 Z = true) (i : Nat) (h : tables_1[i]? = some d) : d.before a0 Z = true := hw d (List.mem_of_getElem? h)
/-- from U the run comes to an end of which G says -/
def Go (p : Program) (e : Env) (below : List Frame) (G : State → Outcome → Prop) (U : State) : Prop := ∃ s₂ o, Steps p.tables e below U s₂ ∧ s₂.status = .running ∧ Ended s₂ below o ∧ G s₂ o
theorem Go.st {p : Program} {e : Env} {below : List Frame} {G : State → Outcome → Prop} {U U' : State} (h : ∀ t, Steps p.tables e below U' t → Steps p.tables e below U t) (k : Go p e below G U') : Go p e below G U := by
  obtain ⟨t, o, h1, r⟩ := k
  exact ⟨t, o, h _ h1, r⟩
theorem Go.tr {p : Program} {e : Env} {below : List Frame} {G : State → Outcome → Prop} {U U' : State} (h : Steps p.tables e below U U') (k : Go p e below G U') : Go p e below G U := by
  obtain ⟨t, o, h1, r⟩ := k
  exact ⟨t, o, h.trans h1, r⟩
theorem Go.join {p : Program} {e : Env} {below : List Frame} {G : State → Outcome → Prop} {U : State} {α : Type} {P : α → Prop} {F : α → State} (h2 : (∀ v, P v → Go p e below G (F v)) → Go p e below G U) (h1 : ∀ v, P v → Go p e below G (F v)) : Go p e below G U := h2 h1
theorem Go.join2 {p : Program} {e : Env} {below : List Frame} {G : State → Outcome → Prop} {U : State} {α β : Type} {P : α → β → Prop} {F : α → β → State} (h2 : (∀ v w, P v w → Go p e below G (F v w)) → Go p e below G U) (h1 : ∀ v w, P v w → Go p e below G (F v w)) : Go p e below G U := h2 h1
theorem Go.join3 {p : Program} {e : Env} {below : List Frame} {G : State → Outcome → Prop} {U : State} {α β γ : Type} {P : α → β → γ → Prop} {F : α → β → γ → State} (h2 : (∀ v w u, P v w u → Go p e below G (F v w u)) → Go p e below G U) (h1 : ∀ v w u, P v w u → Go p e below G (F v w u)) : Go p e below G U := h2 h1
theorem own_ret {p : Program} {l : Launch} {e : Env} {R : Room} {s : State} {m : MethodId} {args : Array Value} {below : List Frame} {meth : Method} {c : Code} {T U : State} {locs : List Loc} {cells slots : Nat} {Q : Option Value → Heap → List Loc → Prop} {rc rs : Nat} {v : Option Value}
    (X : Stand p l e R s m args below meth c T locs cells slots) (hlk : meth.locks = false) (hv : meth.sig.returnType = none → v = none) (hc : cells ≤ rc) (hs : slots ≤ rs) (hq : Q v T.heap locs)
    (st : ∀ fs, (∀ (f : JFrame) (acts : List Action), f.method = m → f.locked = none → f.entered = [] → (doReturn e (T.setTop f) acts v).1 = T.setFrames fs) → Steps p.tables e below U (T.setFrames fs)) :
    Go p e below (fun s₂ o => ∃ v L, o = .returned v ∧ Q v s₂.heap L ∧ FrameEnd s o s₂ L rc rs) U := by
  obtain ⟨fs, hr, hrun, hended, hW, hsame⟩ := X.leave (v := v) hv hlk
  exact ⟨_, _, st fs hr, hrun, hended, _, _, rfl, hq, ⟨_, rfl⟩, hW, hsame.mono hc hs⟩
theorem own_getI (L : List Int32) (i : Nat) : (L.map Value.int).getD i (.int 0) = .int (L.getD i 0) := by
  induction L generalizing i with
  | nil => rfl
  | cons a r ih => cases i with
    | zero => rfl
    | succ i => exact ih i
theorem own_getJ (L : List Int64) (i : Nat) : (L.map Value.long).getD i (.long 0) = .long (L.getD i 0) := by
  induction L generalizing i with
  | nil => rfl
  | cons a r ih => cases i with
    | zero => rfl
    | succ i => exact ih i
theorem own_getP {P : Int32 → Prop} (h0 : P 0) (L : List Int32) (h : ∀ x ∈ L, P x) (i : Nat) : P (L.getD i 0) := by
  induction L generalizing i with
  | nil => exact h0
  | cons a r ih => cases i with
    | zero => exact h a (List.mem_cons_self ..)
    | succ i => exact ih (fun x hx => h x (List.mem_cons_of_mem _ hx)) i
theorem own_mk (x m n : Int32) (k : Nat) (hk : k ≤ 31) (hm : m.toBitVec.toNat = 2 ^ k - 1) (hn : ((2 ^ k : Nat) : Int) ≤ n.toInt) : ¬ (x &&& m) < 0 ∧ (x &&& m) < n := by
  have h := c_mask x m k hk hm
  have h2 : (0 : Int) < ((2 ^ k : Nat) : Int) := Int.ofNat_lt.mpr (Nat.two_pow_pos k)
  have h3 := Int.emod_nonneg x.toInt (Int.ne_of_gt h2)
  have h4 := Int.emod_lt_of_pos x.toInt h2
  rw [Int32.lt_iff_toInt_lt, Int32.lt_iff_toInt_lt, h]
  exact ⟨Int.not_lt.mpr h3, Int.lt_of_lt_of_le h4 hn⟩
abbrev own_y0 : MethodName := ⟨"com/example/quiesce/quiesce/engine/ReclaimDecision", "dailyAllowance", "(JI)J"⟩
theorem d1_0 : decode prog_9_method_2_code 0 = .ok (.lload_n 0, 1) := by decide +kernel
theorem d1_1 : decode prog_9_method_2_code 1 = .ok (.lconst 0, 1) := by decide +kernel
theorem d1_2 : decode prog_9_method_2_code 2 = .ok (.lcmp, 1) := by decide +kernel
theorem d1_3 : decode prog_9_method_2_code 3 = .ok (.ifCond .ge 17, 3) := by decide +kernel
theorem d1_20 : decode prog_9_method_2_code 20 = .ok (.iload_n 2, 1) := by decide +kernel
theorem d1_21 : decode prog_9_method_2_code 21 = .ok (.iconst 1, 1) := by decide +kernel
theorem d1_22 : decode prog_9_method_2_code 22 = .ok (.if_icmp .ge 17, 3) := by decide +kernel
theorem d1_39 : decode prog_9_method_2_code 39 = .ok (.lload_n 0, 1) := by decide +kernel
theorem d1_40 : decode prog_9_method_2_code 40 = .ok (.iload_n 2, 1) := by decide +kernel
theorem d1_41 : decode prog_9_method_2_code 41 = .ok (.i2l, 1) := by decide +kernel
theorem d1_42 : decode prog_9_method_2_code 42 = .ok (.ldc2_w 34, 3) := by decide +kernel
theorem d1_45 : decode prog_9_method_2_code 45 = .ok (.lmul, 1) := by decide +kernel
theorem d1_46 : decode prog_9_method_2_code 46 = .ok (.ldiv, 1) := by decide +kernel
theorem d1_47 : decode prog_9_method_2_code 47 = .ok (.lreturn, 1) := by decide +kernel
theorem pn_0 : plainName "com/example/quiesce/quiesce/engine/ReclaimDecision" = true := by first | (simp [plainName, overriddenIn]; done) | decide +kernel
theorem ef1 (m : MethodId) (q1 : Int64) (p2 : Int32) : entryFrame m #[(.long q1), (.int p2)] 3 = mkF m 0 #[.val (.long q1), .second, .val (.int p2)] [] := by first | (simp [entryFrame, mkF, argsToLocals, Value.category]; done) | rfl
abbrev own_R0_0_0_0 : Room := { frames := 0, cells := 0, slots := 0, locals := 0 }
def f1 (q1 : Int64) (p2 : Int32) : Int64 := (q1 / ((p2.toInt64) * (365 : Int64)))
def Q1 (Z : State) (q1 : Int64) (p2 : Int32) (h0 : Heap) (n0 : Nat) (v : Option Value) (h : Heap) (L : List Loc) : Prop := v = some (.long (f1 q1 p2)) ∧ Fr n0 L ∧ h = h0
set_option maxRecDepth 65536 in
set_option maxHeartbeats 40000000 in
theorem rm1 (l : Launch) (Z : State) (a0 : Array Value) (hw : ∀ d ∈ tables_1, d.before a0 Z = true) (ws : List Jvm.Cond) (q1 : Int64) (p2 : Int32) (h0 : Heap) (n0 : Nat) (Z0 : n0 ≤ h0.size) (hA : ¬ q1 < (0 : Int64)) (hB : ¬ p2 < (1 : Int32)) (hN : ¬ (p2.toInt64 * (365 : Int64)) = (0 : Int64)) :
    MetFree l own_y0 (head1 (Jvm.Cond.code own_y0 prog_9_method_2_code 3 (some .long) :: ws) own_R0_0_0_0) (fun a U => a = #[(.long q1), (.int p2)] ∧ Z.Warmed39 U.vm ∧ U.heap = h0) (fun _ _ _ _ _ => True) (fun _ U o U' => ∃ v L, o = .returned v ∧ Q1 Z q1 p2 h0 n0 v U'.heap L ∧ FrameEnd U o U' L (own_R0_0_0_0).cells (own_R0_0_0_0).slots) := by
  refine MetFree.of_bodySF (plainFor_of_name pn_0) hisR ?_
  intro p e s m args below meth c s₁ Bd hml0 hP hK
  obtain ⟨rfl, hZ, hh⟩ := hP
  have hx := Bd.exec
  have hby := Bd.bytes
  have hml : c.maxLocals = 3 := hml0
  have hown : s.vm.findClass "com/example/quiesce/quiesce/engine/ReclaimDecision" = some m.cls := findClass_of_methodNamed Bd.named
  have hnm := (name_of_methodNamed Bd.named Bd.method).1
  have hlk : meth.locks = false := BodyLoose.notSynchronized Bd
  have hrt := Bd.returns
  have X0 : Stand p l e own_R0_0_0_0 s m #[(.long q1), (.int p2)] below meth c s₁ [] 0 0 := Stand.of_body Bd
  have e0 : s₁.heap = h0 := by rw [← hh, Bd.state]; rfl
  have N0 := Fr.nil n0
  refine (show Go p e below (fun s₂ o => ∃ v L, o = .returned v ∧ Q1 Z q1 p2 h0 n0 v s₂.heap L ∧ FrameEnd s o s₂ L 0 0) (s₁.setTop (entryFrame m #[(.long q1), (.int p2)] 3)) from ?_)
  rw [ef1]
  refine Go.st (U' := s₁.setTop (mkF m 47 #[.val (.long q1), .second, .val (.int p2)] [(.long (q1 / ((p2.toInt64) * (365 : Int64))))])) (fun t k => ?_) ?_
  · show Steps p.tables e below (s₁.setTop (mkF m 0 #[.val (.long q1), .second, .val (.int p2)] [])) _
    refine XS.lloadN X0.here hx rfl (hb hby d1_0) rfl ?_
    show Steps p.tables e below (s₁.setTop (mkF m 1 #[.val (.long q1), .second, .val (.int p2)] [(.long q1)])) _
    refine XS.lconst X0.here hx rfl (hb hby d1_1) ?_
    show Steps p.tables e below (s₁.setTop (mkF m 2 #[.val (.long q1), .second, .val (.int p2)] [(.long (0 : Int64)), (.long q1)])) _
    refine XS.lcmp X0.here hx rfl (hb hby d1_2) rfl ?_
    show Steps p.tables e below (s₁.setTop (mkF m 3 #[.val (.long q1), .second, .val (.int p2)] [(.int (lcmpW q1 (0 : Int64)))])) _
    refine XS.ifYes X0.here hx rfl (pc0 := 3) (pc' := 20) rfl (hb hby d1_3) rfl ((if0 _ _).trans (flt (fun q => (hA : ¬ (q1 < (0 : Int64))) ((lw_lt _ _).mp q))).2.1) (by decide) (by decide) ?_
    show Steps p.tables e below (s₁.setTop (mkF m 20 #[.val (.long q1), .second, .val (.int p2)] [])) _
    refine XS.iloadN X0.here hx rfl (hb hby d1_20) rfl ?_
    show Steps p.tables e below (s₁.setTop (mkF m 21 #[.val (.long q1), .second, .val (.int p2)] [(.int p2)])) _
    refine XS.iconst X0.here hx rfl (hb hby d1_21) ?_
    show Steps p.tables e below (s₁.setTop (mkF m 22 #[.val (.long q1), .second, .val (.int p2)] [(.int (1 : Int32)), (.int p2)])) _
    refine XS.icmpYes X0.here hx rfl (pc0 := 22) (pc' := 39) rfl (hb hby d1_22) rfl (flt (hB : ¬ (p2 < (1 : Int32)))).2.1 (by decide) (by decide) ?_
    show Steps p.tables e below (s₁.setTop (mkF m 39 #[.val (.long q1), .second, .val (.int p2)] [])) _
    refine XS.lloadN X0.here hx rfl (hb hby d1_39) rfl ?_
    show Steps p.tables e below (s₁.setTop (mkF m 40 #[.val (.long q1), .second, .val (.int p2)] [(.long q1)])) _
    refine XS.iloadN X0.here hx rfl (hb hby d1_40) rfl ?_
    show Steps p.tables e below (s₁.setTop (mkF m 41 #[.val (.long q1), .second, .val (.int p2)] [(.int p2), (.long q1)])) _
    refine XS.i2l X0.here hx rfl (hb hby d1_41) rfl ?_
    show Steps p.tables e below (s₁.setTop (mkF m 42 #[.val (.long q1), .second, .val (.int p2)] [(.long (p2.toInt64)), (.long q1)])) _
    refine X0.ldc2Long hx hown (mvT hZ (own_w hw 6 rfl)) (g := (mkF m 42 #[.val (.long q1), .second, .val (.int p2)] [(.long (p2.toInt64)), (.long q1)])) rfl (hb hby d1_42) _ ?_
    show Steps p.tables e below (s₁.setTop (mkF m 45 #[.val (.long q1), .second, .val (.int p2)] [(.long (365 : Int64)), (.long (p2.toInt64)), (.long q1)])) _
    refine XS.lmul X0.here hx rfl (hb hby d1_45) rfl ?_
    show Steps p.tables e below (s₁.setTop (mkF m 46 #[.val (.long q1), .second, .val (.int p2)] [(.long ((p2.toInt64) * (365 : Int64))), (.long q1)])) _
    refine XS.ldiv X0.here hx rfl (hb hby d1_46) rfl hN ?_
    exact k
  refine own_ret (Q := Q1 Z q1 p2 h0 n0) (v := some (.long (q1 / ((p2.toInt64) * (365 : Int64))))) X0 hlk (fun h => by rw [hrt] at h; cases h) (by decide) (by decide) ?_ (fun fs hr => retOut X0 hx (t := .long) hrt rfl (Or.inr (Or.inl ⟨rfl, rfl, _, rfl⟩)) (hb hby d1_47) hr)
  rw [e0]
  exact ⟨(by first | rfl | simp only [f1]), N0, rfl⟩
theorem own_b (q t : Int64) (p n y : Int32) (ht : (q &&& (9223372036854775807 : Int64)) = t) (hn : (p &&& (2147483647 : Int32)) = n) (hy : y = (if n = (0 : Int32) then (1 : Int32) else n)) : 0 ≤ t.toInt ∧ 0 < y.toInt := by
  have h1 := c_maskL q 9223372036854775807 63 (by decide) (by decide)
  have h2 := c_mask p 2147483647 31 (by decide) (by decide)
  rw [ht] at h1
  rw [hn] at h2
  subst hy
  split
  · exact ⟨by omega, by decide⟩
  · rename_i h
    have : n.toInt ≠ 0 := fun q => h (Int32.toInt_inj.mp q)
    exact ⟨by omega, by omega⟩
theorem own_d (y : Int32) (hy : 0 < y.toInt) : (y.toInt64 * (365 : Int64)).toInt = y.toInt * 365 := by
  have h1 := c_lmul y.toInt64 365
  have h2 := c_i2l y
  have r := rng32 y
  have r2 := rng64 (y.toInt64 * 365)
  rw [h2] at h1
  simp only [Int64.reduceToInt] at h1
  omega
theorem own_div (x d : Int64) (hx : 0 ≤ x.toInt) (hd : 0 < d.toInt) : (x / d).toInt = x.toInt / d.toInt := (c_ldiv x d d.toInt rfl (fun q => by rw [q] at hd; revert hd; decide)).1 hx
theorem own_all (t : Int64) (y : Int32) (h0 : 0 ≤ t.toInt) (hy : 0 < y.toInt) :
    ¬ t < (0 : Int64) ∧ ¬ y < (1 : Int32) ∧ ¬ (y.toInt64 * (365 : Int64)) = (0 : Int64) ∧ ¬ y.toInt64 = (0 : Int64) ∧ t / (y.toInt64 * (365 : Int64)) = ((t / y.toInt64) / (365 : Int64)) ∧ ¬ t / (y.toInt64 * (365 : Int64)) < (0 : Int64) ∧
    ¬ (t - (t / (y.toInt64 * (365 : Int64))) * (y.toInt64 * (365 : Int64))) < (0 : Int64) ∧ (t - (t / (y.toInt64 * (365 : Int64))) * (y.toInt64 * (365 : Int64))) < (y.toInt64 * (365 : Int64)) := by
  have hd := own_d y hy
  have h2 := c_i2l y
  have e1 := own_div t (y.toInt64 * 365) h0 (by omega)
  have e2 := own_div t y.toInt64 h0 (by omega)
  have p2 : 0 ≤ t.toInt / y.toInt64.toInt := Int.ediv_nonneg h0 (by omega)
  have e3 := own_div (t / y.toInt64) 365 (by omega) (by decide)
  have m1 := c_lmul (t / (y.toInt64 * 365)) (y.toInt64 * 365)
  have m2 := c_lsub t (t / (y.toInt64 * 365) * (y.toInt64 * 365))
  have r1 := rng64 (t / (y.toInt64 * 365) * (y.toInt64 * 365))
  have r2 := rng64 (t - t / (y.toInt64 * 365) * (y.toInt64 * 365))
  have rt := rng64 t
  have f1 : t.toInt / (y.toInt * 365) * (y.toInt * 365) ≤ t.toInt := Int.ediv_mul_le _ (by omega)
  have f2 : 0 ≤ t.toInt / (y.toInt * 365) := Int.ediv_nonneg h0 (by omega)
  have f3 : t.toInt < (t.toInt / (y.toInt * 365) + 1) * (y.toInt * 365) := Int.lt_ediv_add_one_mul_self _ (by omega)
  have f4 : 0 ≤ t.toInt / (y.toInt * 365) * (y.toInt * 365) := Int.mul_nonneg f2 (by omega)
  rw [Int.add_mul] at f3
  rw [e1, hd] at m1
  have f5 : t.toInt / (y.toInt * 365) = t.toInt / y.toInt / 365 := (Int.ediv_ediv_of_nonneg (by omega)).symm
  rw [h2] at e2 p2
  refine ⟨?_, ?_, ?_, ?_, ?_, ?_, ?_, ?_⟩
  · rw [Int64.lt_iff_toInt_lt]; simp only [Int64.reduceToInt]; omega
  · rw [Int32.lt_iff_toInt_lt]; simp only [Int32.reduceToInt]; omega
  · intro q; rw [q] at hd; simp only [Int64.reduceToInt] at hd; omega
  · intro q; rw [q] at h2; simp only [Int64.reduceToInt] at h2; omega
  · apply Int64.toInt_inj.mp
    rw [e1, e3, hd, e2]
    simpa using f5
  · rw [Int64.lt_iff_toInt_lt, e1, hd]; simp only [Int64.reduceToInt]; omega
  · rw [Int64.lt_iff_toInt_lt]; simp only [Int64.reduceToInt]
    generalize t.toInt / (y.toInt * 365) * (y.toInt * 365) = w at *
    omega
  · rw [Int64.lt_iff_toInt_lt, hd]
    generalize t.toInt / (y.toInt * 365) * (y.toInt * 365) = w at *
    omega
theorem pd_0 : parseMethodDescriptor "(JI)J" = some ⟨[.long, .int], some .long⟩ := by decide +kernel
theorem pn_1 : plainName "com/example/quiesce/quiesce/engine/ReclaimDecisionDailyAllowancePinLaw" = true := by first | (simp [plainName, overriddenIn]; done) | decide +kernel
theorem ef0 (m : MethodId) (q0 : Int64) (p1 : Int32) : entryFrame m #[(.long q0), (.int p1)] maxLocals = mkF m 0 #[.val (.long q0), .second, .val (.int p1), .unset, .unset, .unset, .unset, .unset, .unset, .unset, .unset, .unset, .unset, .unset] [] := by first | (simp [entryFrame, mkF, argsToLocals, Value.category, maxLocals]; done) | rfl
def Q0 (Z : State) (q0 : Int64) (p1 : Int32) (h0 : Heap) (n0 : Nat) (v : Option Value) (h : Heap) (L : List Loc) : Prop := v = some (.int 1) ∧ Fr n0 L
set_option maxRecDepth 65536 in
set_option maxHeartbeats 40000000 in
theorem rm0 (l : Launch) (Z : State) (a0 : Array Value) (hw : ∀ d ∈ tables_1, d.before a0 Z = true) (ws : List Jvm.Cond) (q0 : Int64) (p1 : Int32) (h0 : Heap) (n0 : Nat) (Z0 : n0 ≤ h0.size) :
    MetFree l x (head1 (Jvm.Cond.code x code maxLocals ret :: ws) room_1) (fun a U => a = #[(.long q0), (.int p1)] ∧ Z.Warmed39 U.vm ∧ U.heap = h0) (fun _ _ _ _ _ => True) (fun _ U o U' => ∃ v L, o = .returned v ∧ Q0 Z q0 p1 h0 n0 v U'.heap L ∧ FrameEnd U o U' L 0 0) := by
  refine MetFree.of_bodySF (plainFor_of_name pn_1) hisR ?_
  intro p e s m args below meth c s₁ Bd hml0 hP hK
  obtain ⟨rfl, hZ, hh⟩ := hP
  have hx := Bd.exec
  have hby := Bd.bytes
  have hml : c.maxLocals = 14 := hml0
  have hown : s.vm.findClass "com/example/quiesce/quiesce/engine/ReclaimDecisionDailyAllowancePinLaw" = some m.cls := findClass_of_methodNamed Bd.named
  have hnm := (name_of_methodNamed Bd.named Bd.method).1
  have hlk : meth.locks = false := BodyLoose.notSynchronized Bd
  have hrt := Bd.returns
  have X0 : Stand p l e room_1 s m #[(.long q0), (.int p1)] below meth c s₁ [] 0 0 := Stand.of_body Bd
  have e0 : s₁.heap = h0 := by rw [← hh, Bd.state]; rfl
  have N0 := Fr.nil n0
  refine (show Go p e below (fun s₂ o => ∃ v L, o = .returned v ∧ Q0 Z q0 p1 h0 n0 v s₂.heap L ∧ FrameEnd s o s₂ L 0 0) (s₁.setTop (entryFrame m #[(.long q0), (.int p1)] maxLocals)) from ?_)
  rw [ef0]
  refine Go.st (U' := s₁.setTop (mkF m 6 #[.val (.long q0), .second, .val (.int p1), .val (.long (q0 &&& (9223372036854775807 : Int64))), .second, .unset, .unset, .unset, .unset, .unset, .unset, .unset, .unset, .unset] [])) (fun t k => ?_) ?_
  · show Steps p.tables e below (s₁.setTop (mkF m 0 #[.val (.long q0), .second, .val (.int p1), .unset, .unset, .unset, .unset, .unset, .unset, .unset, .unset, .unset, .unset, .unset] [])) _
    refine XS.lloadN X0.here hx rfl (hb hby at_0) rfl ?_
    show Steps p.tables e below (s₁.setTop (mkF m 1 #[.val (.long q0), .second, .val (.int p1), .unset, .unset, .unset, .unset, .unset, .unset, .unset, .unset, .unset, .unset, .unset] [(.long q0)])) _
    refine X0.ldc2Long hx hown (mvT hZ (own_w hw 0 rfl)) (g := (mkF m 1 #[.val (.long q0), .second, .val (.int p1), .unset, .unset, .unset, .unset, .unset, .unset, .unset, .unset, .unset, .unset, .unset] [(.long q0)])) rfl (hb hby at_1) _ ?_
    show Steps p.tables e below (s₁.setTop (mkF m 4 #[.val (.long q0), .second, .val (.int p1), .unset, .unset, .unset, .unset, .unset, .unset, .unset, .unset, .unset, .unset, .unset] [(.long (9223372036854775807 : Int64)), (.long q0)])) _
    refine XS.land X0.here hx rfl (hb hby at_4) rfl ?_
    show Steps p.tables e below (s₁.setTop (mkF m 5 #[.val (.long q0), .second, .val (.int p1), .unset, .unset, .unset, .unset, .unset, .unset, .unset, .unset, .unset, .unset, .unset] [(.long (q0 &&& (9223372036854775807 : Int64)))])) _
    refine XS.lstoreN X0.here hx rfl (hb hby at_5) rfl (l' := #[.val (.long q0), .second, .val (.int p1), .val (.long (q0 &&& (9223372036854775807 : Int64))), .second, .unset, .unset, .unset, .unset, .unset, .unset, .unset, .unset, .unset]) rfl ?_
    exact k
  generalize hv_v1 : (q0 &&& (9223372036854775807 : Int64)) = v1
  refine Go.st (U' := s₁.setTop (mkF m 12 #[.val (.long q0), .second, .val (.int p1), .val (.long v1), .second, .val (.int (p1 &&& (2147483647 : Int32))), .unset, .unset, .unset, .unset, .unset, .unset, .unset, .unset] [])) (fun t k => ?_) ?_
  · show Steps p.tables e below (s₁.setTop (mkF m 6 #[.val (.long q0), .second, .val (.int p1), .val (.long v1), .second, .unset, .unset, .unset, .unset, .unset, .unset, .unset, .unset, .unset] [])) _
    refine XS.iloadN X0.here hx rfl (hb hby at_6) rfl ?_
    show Steps p.tables e below (s₁.setTop (mkF m 7 #[.val (.long q0), .second, .val (.int p1), .val (.long v1), .second, .unset, .unset, .unset, .unset, .unset, .unset, .unset, .unset, .unset] [(.int p1)])) _
    refine X0.ldcInt hx hown (mvT hZ (own_w hw 1 rfl)) (g := (mkF m 7 #[.val (.long q0), .second, .val (.int p1), .val (.long v1), .second, .unset, .unset, .unset, .unset, .unset, .unset, .unset, .unset, .unset] [(.int p1)])) rfl (hb hby at_7) _ ?_
    show Steps p.tables e below (s₁.setTop (mkF m 9 #[.val (.long q0), .second, .val (.int p1), .val (.long v1), .second, .unset, .unset, .unset, .unset, .unset, .unset, .unset, .unset, .unset] [(.int (2147483647 : Int32)), (.int p1)])) _
    refine XS.iand X0.here hx rfl (hb hby at_9) rfl ?_
    show Steps p.tables e below (s₁.setTop (mkF m 10 #[.val (.long q0), .second, .val (.int p1), .val (.long v1), .second, .unset, .unset, .unset, .unset, .unset, .unset, .unset, .unset, .unset] [(.int (p1 &&& (2147483647 : Int32)))])) _
    refine XS.istore X0.here hx rfl (hb hby at_10) rfl (l' := #[.val (.long q0), .second, .val (.int p1), .val (.long v1), .second, .val (.int (p1 &&& (2147483647 : Int32))), .unset, .unset, .unset, .unset, .unset, .unset, .unset, .unset]) rfl ?_
    exact k
  generalize hv_v2 : (p1 &&& (2147483647 : Int32)) = v2
  refine Go.st (U' := s₁.setTop (mkF m 14 #[.val (.long q0), .second, .val (.int p1), .val (.long v1), .second, .val (.int v2), .unset, .unset, .unset, .unset, .unset, .unset, .unset, .unset] [(.int v2)])) (fun t k => ?_) ?_
  · show Steps p.tables e below (s₁.setTop (mkF m 12 #[.val (.long q0), .second, .val (.int p1), .val (.long v1), .second, .val (.int v2), .unset, .unset, .unset, .unset, .unset, .unset, .unset, .unset] [])) _
    refine XS.iload X0.here hx rfl (hb hby at_12) rfl ?_
    exact k
  refine Go.join (P := fun (v4 : Int32) => v4 = (if v2 = (0 : Int32) then (1 : Int32) else v2)) (F := fun (v4 : Int32) => s₁.setTop (mkF m 20 #[.val (.long q0), .second, .val (.int p1), .val (.long v1), .second, .val (.int v4), .unset, .unset, .unset, .unset, .unset, .unset, .unset, .unset] [])) (fun J5 => ?_) (fun v4 hv_v4 => ?_)
  · by_cases hc3 : v2 = (0 : Int32)
    · refine Go.st (U' := s₁.setTop (mkF m 20 #[.val (.long q0), .second, .val (.int p1), .val (.long v1), .second, .val (.int (1 : Int32)), .unset, .unset, .unset, .unset, .unset, .unset, .unset, .unset] [])) (fun t k => ?_) ?_
      · show Steps p.tables e below (s₁.setTop (mkF m 14 #[.val (.long q0), .second, .val (.int p1), .val (.long v1), .second, .val (.int v2), .unset, .unset, .unset, .unset, .unset, .unset, .unset, .unset] [(.int v2)])) _
        refine XS.ifNo X0.here hx rfl (hb hby at_14) rfl ((if0 _ _).trans (teq hc3).2) ?_
        show Steps p.tables e below (s₁.setTop (mkF m 17 #[.val (.long q0), .second, .val (.int p1), .val (.long v1), .second, .val (.int v2), .unset, .unset, .unset, .unset, .unset, .unset, .unset, .unset] [])) _
        refine XS.iconst X0.here hx rfl (hb hby at_17) ?_
        show Steps p.tables e below (s₁.setTop (mkF m 18 #[.val (.long q0), .second, .val (.int p1), .val (.long v1), .second, .val (.int v2), .unset, .unset, .unset, .unset, .unset, .unset, .unset, .unset] [(.int (1 : Int32))])) _
        refine XS.istore X0.here hx rfl (hb hby at_18) rfl (l' := #[.val (.long q0), .second, .val (.int p1), .val (.long v1), .second, .val (.int (1 : Int32)), .unset, .unset, .unset, .unset, .unset, .unset, .unset, .unset]) rfl ?_
        exact k
      exact J5 _ (by first | rfl | simp only [if_pos hc3])
    · refine Go.st (U' := s₁.setTop (mkF m 20 #[.val (.long q0), .second, .val (.int p1), .val (.long v1), .second, .val (.int v2), .unset, .unset, .unset, .unset, .unset, .unset, .unset, .unset] [])) (fun t k => ?_) ?_
      · show Steps p.tables e below (s₁.setTop (mkF m 14 #[.val (.long q0), .second, .val (.int p1), .val (.long v1), .second, .val (.int v2), .unset, .unset, .unset, .unset, .unset, .unset, .unset, .unset] [(.int v2)])) _
        refine XS.ifYes X0.here hx rfl (pc0 := 14) (pc' := 20) rfl (hb hby at_14) rfl ((if0 _ _).trans (feq hc3).2) (by decide) (by decide) ?_
        exact k
      exact J5 _ (by first | rfl | simp only [if_neg hc3])
  have hb0 := own_b q0 v1 p1 v2 v4 hv_v1 hv_v2 hv_v4
  have hall := own_all v1 v4 hb0.1 hb0.2
  refine Go.st (U' := s₁.setTop (mkF m 23 #[.val (.long q0), .second, .val (.int p1), .val (.long v1), .second, .val (.int v4), .unset, .unset, .unset, .unset, .unset, .unset, .unset, .unset] [(.int v4), (.long v1)])) (fun t k => ?_) ?_
  · show Steps p.tables e below (s₁.setTop (mkF m 20 #[.val (.long q0), .second, .val (.int p1), .val (.long v1), .second, .val (.int v4), .unset, .unset, .unset, .unset, .unset, .unset, .unset, .unset] [])) _
    refine XS.lloadN X0.here hx rfl (hb hby at_20) rfl ?_
    show Steps p.tables e below (s₁.setTop (mkF m 21 #[.val (.long q0), .second, .val (.int p1), .val (.long v1), .second, .val (.int v4), .unset, .unset, .unset, .unset, .unset, .unset, .unset, .unset] [(.long v1)])) _
    refine XS.iload X0.here hx rfl (hb hby at_21) rfl ?_
    exact k
  obtain ⟨_, _, ⟨T6, L6, k6, n6⟩, -, X6, ⟨Lc6, hQ6, l6, y6, z6⟩, st6⟩ := Jvm.LawKit.callS X0 hx (y := own_y0) hown (mvT hZ (own_w hw 2 rfl)) (mvT hZ (own_w hw 3 rfl)) (mvT hZ (own_w hw 4 rfl)) (mvT hZ (own_w hw 5 rfl)) (by decide) (backOf (W := 0) (rm1 l Z a0 hw [] v1 v4 h0 n0 Z0 hall.1 hall.2.1 hall.2.2.1) hZ (own_w hw 5 rfl) (own_w hw 4 rfl) (by decide) (by decide)) (g := (mkF m 23 #[.val (.long q0), .second, .val (.int p1), .val (.long v1), .second, .val (.int v4), .unset, .unset, .unset, .unset, .unset, .unset, .unset, .unset] [(.int v4), (.long v1)])) rfl (by rw [hml]; rfl) (argsL := [(.long v1), (.int v4)]) (rest := []) (lenOf pd_0 rfl) rfl (by show 2 * 0 + _ ≤ _; exact Nat.le_of_eq rfl) (hb hby at_23) (fun _ _ => ⟨rfl, e0, (by decide : 0 + 0 ≤ _), (by decide : 0 + 0 ≤ _)⟩)
  dsimp only [Pt.U, Pt.locs, Pt.cells, Pt.slots] at X6 l6 y6 z6 st6 hQ6
  subst l6 y6 z6
  obtain ⟨rfl, N6q, e6⟩ := hQ6
  have N6 := Fr.app N0 N6q
  refine Go.st (U' := T6.setTop (mkF m 26 #[.val (.long q0), .second, .val (.int p1), .val (.long v1), .second, .val (.int v4), .unset, .unset, .unset, .unset, .unset, .unset, .unset, .unset] [(.long (f1 v1 v4))])) (fun t k => st6 _ k) ?_
  refine Go.st (U' := T6.setTop (mkF m 28 #[.val (.long q0), .second, .val (.int p1), .val (.long v1), .second, .val (.int v4), .val (.long (f1 v1 v4)), .second, .unset, .unset, .unset, .unset, .unset, .unset] [])) (fun t k => ?_) ?_
  · show Steps p.tables e below (T6.setTop (mkF m 26 #[.val (.long q0), .second, .val (.int p1), .val (.long v1), .second, .val (.int v4), .unset, .unset, .unset, .unset, .unset, .unset, .unset, .unset] [(.long (f1 v1 v4))])) _
    refine XS.lstore X6.here hx rfl (hb hby at_26) rfl (l' := #[.val (.long q0), .second, .val (.int p1), .val (.long v1), .second, .val (.int v4), .val (.long (f1 v1 v4)), .second, .unset, .unset, .unset, .unset, .unset, .unset]) rfl ?_
    exact k
  generalize hv_v7 : (f1 v1 v4) = v7
  refine Go.st (U' := T6.setTop (mkF m 39 #[.val (.long q0), .second, .val (.int p1), .val (.long v1), .second, .val (.int v4), .val (.long v7), .second, .val (.long ((v1 / (v4.toInt64)) / (365 : Int64))), .second, .unset, .unset, .unset, .unset] [])) (fun t k => ?_) ?_
  · show Steps p.tables e below (T6.setTop (mkF m 28 #[.val (.long q0), .second, .val (.int p1), .val (.long v1), .second, .val (.int v4), .val (.long v7), .second, .unset, .unset, .unset, .unset, .unset, .unset] [])) _
    refine XS.lloadN X6.here hx rfl (hb hby at_28) rfl ?_
    show Steps p.tables e below (T6.setTop (mkF m 29 #[.val (.long q0), .second, .val (.int p1), .val (.long v1), .second, .val (.int v4), .val (.long v7), .second, .unset, .unset, .unset, .unset, .unset, .unset] [(.long v1)])) _
    refine XS.iload X6.here hx rfl (hb hby at_29) rfl ?_
    show Steps p.tables e below (T6.setTop (mkF m 31 #[.val (.long q0), .second, .val (.int p1), .val (.long v1), .second, .val (.int v4), .val (.long v7), .second, .unset, .unset, .unset, .unset, .unset, .unset] [(.int v4), (.long v1)])) _
    refine XS.i2l X6.here hx rfl (hb hby at_31) rfl ?_
    show Steps p.tables e below (T6.setTop (mkF m 32 #[.val (.long q0), .second, .val (.int p1), .val (.long v1), .second, .val (.int v4), .val (.long v7), .second, .unset, .unset, .unset, .unset, .unset, .unset] [(.long (v4.toInt64)), (.long v1)])) _
    refine XS.ldiv X6.here hx rfl (hb hby at_32) rfl hall.2.2.2.1 ?_
    show Steps p.tables e below (T6.setTop (mkF m 33 #[.val (.long q0), .second, .val (.int p1), .val (.long v1), .second, .val (.int v4), .val (.long v7), .second, .unset, .unset, .unset, .unset, .unset, .unset] [(.long (v1 / (v4.toInt64)))])) _
    refine X6.ldc2Long hx hown (mvT hZ (own_w hw 7 rfl)) (g := (mkF m 33 #[.val (.long q0), .second, .val (.int p1), .val (.long v1), .second, .val (.int v4), .val (.long v7), .second, .unset, .unset, .unset, .unset, .unset, .unset] [(.long (v1 / (v4.toInt64)))])) rfl (hb hby at_33) _ ?_
    show Steps p.tables e below (T6.setTop (mkF m 36 #[.val (.long q0), .second, .val (.int p1), .val (.long v1), .second, .val (.int v4), .val (.long v7), .second, .unset, .unset, .unset, .unset, .unset, .unset] [(.long (365 : Int64)), (.long (v1 / (v4.toInt64)))])) _
    refine XS.ldiv X6.here hx rfl (hb hby at_36) rfl (by decide) ?_
    show Steps p.tables e below (T6.setTop (mkF m 37 #[.val (.long q0), .second, .val (.int p1), .val (.long v1), .second, .val (.int v4), .val (.long v7), .second, .unset, .unset, .unset, .unset, .unset, .unset] [(.long ((v1 / (v4.toInt64)) / (365 : Int64)))])) _
    refine XS.lstore X6.here hx rfl (hb hby at_37) rfl (l' := #[.val (.long q0), .second, .val (.int p1), .val (.long v1), .second, .val (.int v4), .val (.long v7), .second, .val (.long ((v1 / (v4.toInt64)) / (365 : Int64))), .second, .unset, .unset, .unset, .unset]) rfl ?_
    exact k
  generalize hv_v8 : ((v1 / (v4.toInt64)) / (365 : Int64)) = v8
  refine Go.st (U' := T6.setTop (mkF m 48 #[.val (.long q0), .second, .val (.int p1), .val (.long v1), .second, .val (.int v4), .val (.long v7), .second, .val (.long v8), .second, .val (.long ((v4.toInt64) * (365 : Int64))), .second, .unset, .unset] [])) (fun t k => ?_) ?_
  · show Steps p.tables e below (T6.setTop (mkF m 39 #[.val (.long q0), .second, .val (.int p1), .val (.long v1), .second, .val (.int v4), .val (.long v7), .second, .val (.long v8), .second, .unset, .unset, .unset, .unset] [])) _
    refine XS.iload X6.here hx rfl (hb hby at_39) rfl ?_
    show Steps p.tables e below (T6.setTop (mkF m 41 #[.val (.long q0), .second, .val (.int p1), .val (.long v1), .second, .val (.int v4), .val (.long v7), .second, .val (.long v8), .second, .unset, .unset, .unset, .unset] [(.int v4)])) _
    refine XS.i2l X6.here hx rfl (hb hby at_41) rfl ?_
    show Steps p.tables e below (T6.setTop (mkF m 42 #[.val (.long q0), .second, .val (.int p1), .val (.long v1), .second, .val (.int v4), .val (.long v7), .second, .val (.long v8), .second, .unset, .unset, .unset, .unset] [(.long (v4.toInt64))])) _
    refine X6.ldc2Long hx hown (mvT hZ (own_w hw 7 rfl)) (g := (mkF m 42 #[.val (.long q0), .second, .val (.int p1), .val (.long v1), .second, .val (.int v4), .val (.long v7), .second, .val (.long v8), .second, .unset, .unset, .unset, .unset] [(.long (v4.toInt64))])) rfl (hb hby at_42) _ ?_
    show Steps p.tables e below (T6.setTop (mkF m 45 #[.val (.long q0), .second, .val (.int p1), .val (.long v1), .second, .val (.int v4), .val (.long v7), .second, .val (.long v8), .second, .unset, .unset, .unset, .unset] [(.long (365 : Int64)), (.long (v4.toInt64))])) _
    refine XS.lmul X6.here hx rfl (hb hby at_45) rfl ?_
    show Steps p.tables e below (T6.setTop (mkF m 46 #[.val (.long q0), .second, .val (.int p1), .val (.long v1), .second, .val (.int v4), .val (.long v7), .second, .val (.long v8), .second, .unset, .unset, .unset, .unset] [(.long ((v4.toInt64) * (365 : Int64)))])) _
    refine XS.lstore X6.here hx rfl (hb hby at_46) rfl (l' := #[.val (.long q0), .second, .val (.int p1), .val (.long v1), .second, .val (.int v4), .val (.long v7), .second, .val (.long v8), .second, .val (.long ((v4.toInt64) * (365 : Int64))), .second, .unset, .unset]) rfl ?_
    exact k
  generalize hv_v9 : ((v4.toInt64) * (365 : Int64)) = v9
  refine Go.st (U' := T6.setTop (mkF m 57 #[.val (.long q0), .second, .val (.int p1), .val (.long v1), .second, .val (.int v4), .val (.long v7), .second, .val (.long v8), .second, .val (.long v9), .second, .val (.long (v1 - (v7 * v9))), .second] [])) (fun t k => ?_) ?_
  · show Steps p.tables e below (T6.setTop (mkF m 48 #[.val (.long q0), .second, .val (.int p1), .val (.long v1), .second, .val (.int v4), .val (.long v7), .second, .val (.long v8), .second, .val (.long v9), .second, .unset, .unset] [])) _
    refine XS.lloadN X6.here hx rfl (hb hby at_48) rfl ?_
    show Steps p.tables e below (T6.setTop (mkF m 49 #[.val (.long q0), .second, .val (.int p1), .val (.long v1), .second, .val (.int v4), .val (.long v7), .second, .val (.long v8), .second, .val (.long v9), .second, .unset, .unset] [(.long v1)])) _
    refine XS.lload X6.here hx rfl (hb hby at_49) rfl ?_
    show Steps p.tables e below (T6.setTop (mkF m 51 #[.val (.long q0), .second, .val (.int p1), .val (.long v1), .second, .val (.int v4), .val (.long v7), .second, .val (.long v8), .second, .val (.long v9), .second, .unset, .unset] [(.long v7), (.long v1)])) _
    refine XS.lload X6.here hx rfl (hb hby at_51) rfl ?_
    show Steps p.tables e below (T6.setTop (mkF m 53 #[.val (.long q0), .second, .val (.int p1), .val (.long v1), .second, .val (.int v4), .val (.long v7), .second, .val (.long v8), .second, .val (.long v9), .second, .unset, .unset] [(.long v9), (.long v7), (.long v1)])) _
    refine XS.lmul X6.here hx rfl (hb hby at_53) rfl ?_
    show Steps p.tables e below (T6.setTop (mkF m 54 #[.val (.long q0), .second, .val (.int p1), .val (.long v1), .second, .val (.int v4), .val (.long v7), .second, .val (.long v8), .second, .val (.long v9), .second, .unset, .unset] [(.long (v7 * v9)), (.long v1)])) _
    refine XS.lsub X6.here hx rfl (hb hby at_54) rfl ?_
    show Steps p.tables e below (T6.setTop (mkF m 55 #[.val (.long q0), .second, .val (.int p1), .val (.long v1), .second, .val (.int v4), .val (.long v7), .second, .val (.long v8), .second, .val (.long v9), .second, .unset, .unset] [(.long (v1 - (v7 * v9)))])) _
    refine XS.lstore X6.here hx rfl (hb hby at_55) rfl (l' := #[.val (.long q0), .second, .val (.int p1), .val (.long v1), .second, .val (.int v4), .val (.long v7), .second, .val (.long v8), .second, .val (.long v9), .second, .val (.long (v1 - (v7 * v9))), .second]) rfl ?_
    exact k
  generalize hv_v10 : (v1 - (v7 * v9)) = v10
  refine Go.st (U' := T6.setTop (mkF m 92 #[.val (.long q0), .second, .val (.int p1), .val (.long v1), .second, .val (.int v4), .val (.long v7), .second, .val (.long v8), .second, .val (.long v9), .second, .val (.long v10), .second] [(.int (1 : Int32))])) (fun t k => ?_) ?_
  · show Steps p.tables e below (T6.setTop (mkF m 57 #[.val (.long q0), .second, .val (.int p1), .val (.long v1), .second, .val (.int v4), .val (.long v7), .second, .val (.long v8), .second, .val (.long v9), .second, .val (.long v10), .second] [])) _
    refine XS.lload X6.here hx rfl (hb hby at_57) rfl ?_
    show Steps p.tables e below (T6.setTop (mkF m 59 #[.val (.long q0), .second, .val (.int p1), .val (.long v1), .second, .val (.int v4), .val (.long v7), .second, .val (.long v8), .second, .val (.long v9), .second, .val (.long v10), .second] [(.long v7)])) _
    refine XS.lload X6.here hx rfl (hb hby at_59) rfl ?_
    show Steps p.tables e below (T6.setTop (mkF m 61 #[.val (.long q0), .second, .val (.int p1), .val (.long v1), .second, .val (.int v4), .val (.long v7), .second, .val (.long v8), .second, .val (.long v9), .second, .val (.long v10), .second] [(.long v8), (.long v7)])) _
    refine XS.lcmp X6.here hx rfl (hb hby at_61) rfl ?_
    show Steps p.tables e below (T6.setTop (mkF m 62 #[.val (.long q0), .second, .val (.int p1), .val (.long v1), .second, .val (.int v4), .val (.long v7), .second, .val (.long v8), .second, .val (.long v9), .second, .val (.long v10), .second] [(.int (lcmpW v7 v8))])) _
    refine XS.ifNo X6.here hx rfl (hb hby at_62) rfl ((if0 _ _).trans (teq ((lw_eq _ _).mpr ((by subst hv_v7 hv_v8 hv_v9 hv_v10; exact hall.2.2.2.2.1) : v7 = v8))).2) ?_
    show Steps p.tables e below (T6.setTop (mkF m 65 #[.val (.long q0), .second, .val (.int p1), .val (.long v1), .second, .val (.int v4), .val (.long v7), .second, .val (.long v8), .second, .val (.long v9), .second, .val (.long v10), .second] [])) _
    refine XS.lload X6.here hx rfl (hb hby at_65) rfl ?_
    show Steps p.tables e below (T6.setTop (mkF m 67 #[.val (.long q0), .second, .val (.int p1), .val (.long v1), .second, .val (.int v4), .val (.long v7), .second, .val (.long v8), .second, .val (.long v9), .second, .val (.long v10), .second] [(.long v7)])) _
    refine XS.lconst X6.here hx rfl (hb hby at_67) ?_
    show Steps p.tables e below (T6.setTop (mkF m 68 #[.val (.long q0), .second, .val (.int p1), .val (.long v1), .second, .val (.int v4), .val (.long v7), .second, .val (.long v8), .second, .val (.long v9), .second, .val (.long v10), .second] [(.long (0 : Int64)), (.long v7)])) _
    refine XS.lcmp X6.here hx rfl (hb hby at_68) rfl ?_
    show Steps p.tables e below (T6.setTop (mkF m 69 #[.val (.long q0), .second, .val (.int p1), .val (.long v1), .second, .val (.int v4), .val (.long v7), .second, .val (.long v8), .second, .val (.long v9), .second, .val (.long v10), .second] [(.int (lcmpW v7 (0 : Int64)))])) _
    refine XS.ifNo X6.here hx rfl (hb hby at_69) rfl ((if0 _ _).trans (flt (fun q => ((by subst hv_v7 hv_v8 hv_v9 hv_v10; exact hall.2.2.2.2.2.1) : ¬ (v7 < (0 : Int64))) ((lw_lt _ _).mp q))).1) ?_
    show Steps p.tables e below (T6.setTop (mkF m 72 #[.val (.long q0), .second, .val (.int p1), .val (.long v1), .second, .val (.int v4), .val (.long v7), .second, .val (.long v8), .second, .val (.long v9), .second, .val (.long v10), .second] [])) _
    refine XS.lload X6.here hx rfl (hb hby at_72) rfl ?_
    show Steps p.tables e below (T6.setTop (mkF m 74 #[.val (.long q0), .second, .val (.int p1), .val (.long v1), .second, .val (.int v4), .val (.long v7), .second, .val (.long v8), .second, .val (.long v9), .second, .val (.long v10), .second] [(.long v10)])) _
    refine XS.lconst X6.here hx rfl (hb hby at_74) ?_
    show Steps p.tables e below (T6.setTop (mkF m 75 #[.val (.long q0), .second, .val (.int p1), .val (.long v1), .second, .val (.int v4), .val (.long v7), .second, .val (.long v8), .second, .val (.long v9), .second, .val (.long v10), .second] [(.long (0 : Int64)), (.long v10)])) _
    refine XS.lcmp X6.here hx rfl (hb hby at_75) rfl ?_
    show Steps p.tables e below (T6.setTop (mkF m 76 #[.val (.long q0), .second, .val (.int p1), .val (.long v1), .second, .val (.int v4), .val (.long v7), .second, .val (.long v8), .second, .val (.long v9), .second, .val (.long v10), .second] [(.int (lcmpW v10 (0 : Int64)))])) _
    refine XS.ifNo X6.here hx rfl (hb hby at_76) rfl ((if0 _ _).trans (flt (fun q => ((by subst hv_v7 hv_v8 hv_v9 hv_v10; exact hall.2.2.2.2.2.2.1) : ¬ (v10 < (0 : Int64))) ((lw_lt _ _).mp q))).1) ?_
    show Steps p.tables e below (T6.setTop (mkF m 79 #[.val (.long q0), .second, .val (.int p1), .val (.long v1), .second, .val (.int v4), .val (.long v7), .second, .val (.long v8), .second, .val (.long v9), .second, .val (.long v10), .second] [])) _
    refine XS.lload X6.here hx rfl (hb hby at_79) rfl ?_
    show Steps p.tables e below (T6.setTop (mkF m 81 #[.val (.long q0), .second, .val (.int p1), .val (.long v1), .second, .val (.int v4), .val (.long v7), .second, .val (.long v8), .second, .val (.long v9), .second, .val (.long v10), .second] [(.long v10)])) _
    refine XS.lload X6.here hx rfl (hb hby at_81) rfl ?_
    show Steps p.tables e below (T6.setTop (mkF m 83 #[.val (.long q0), .second, .val (.int p1), .val (.long v1), .second, .val (.int v4), .val (.long v7), .second, .val (.long v8), .second, .val (.long v9), .second, .val (.long v10), .second] [(.long v9), (.long v10)])) _
    refine XS.lcmp X6.here hx rfl (hb hby at_83) rfl ?_
    show Steps p.tables e below (T6.setTop (mkF m 84 #[.val (.long q0), .second, .val (.int p1), .val (.long v1), .second, .val (.int v4), .val (.long v7), .second, .val (.long v8), .second, .val (.long v9), .second, .val (.long v10), .second] [(.int (lcmpW v10 v9))])) _
    refine XS.ifNo X6.here hx rfl (hb hby at_84) rfl ((if0 _ _).trans (tlt ((lw_lt _ _).mpr ((by subst hv_v7 hv_v8 hv_v9 hv_v10; exact hall.2.2.2.2.2.2.2) : v10 < v9))).2.1) ?_
    show Steps p.tables e below (T6.setTop (mkF m 87 #[.val (.long q0), .second, .val (.int p1), .val (.long v1), .second, .val (.int v4), .val (.long v7), .second, .val (.long v8), .second, .val (.long v9), .second, .val (.long v10), .second] [])) _
    refine XS.iconst X6.here hx rfl (hb hby at_87) ?_
    show Steps p.tables e below (T6.setTop (mkF m 88 #[.val (.long q0), .second, .val (.int p1), .val (.long v1), .second, .val (.int v4), .val (.long v7), .second, .val (.long v8), .second, .val (.long v9), .second, .val (.long v10), .second] [(.int (1 : Int32))])) _
    refine XS.goto X6.here hx rfl (pc0 := 88) (pc' := 92) rfl (hb hby at_88) (by decide) (by decide) ?_
    exact k
  refine own_ret (Q := Q0 Z q0 p1 h0 n0) (v := some (.int (1 : Int32))) X6 hlk (fun h => by rw [hrt] at h; cases h) (by decide) (by decide) ?_ (fun fs hr => retN X6 hx (t := .boolean) hrt (by simp) (hb hby at_92) hr)
  rw [e6]
  exact ⟨rfl, N6⟩
set_option maxRecDepth 65536 in
set_option maxHeartbeats 40000000 in
theorem comes_1 {Post : Tables → Env → Array Value → State → Outcome → State → Prop} (hpost : ∀ tb e args s v u, (limb_1_1.after args s (.returned v) u = true ∧ limb_1_2.after args s (.returned v) u = true ∧ True) → FrameEnd s (.returned v) u (Jvm.fieldLocs frame_1_writes args s ++ Jvm.arrayLocs frame_1_arrays args s ++ Jvm.staticLocs frame_1_statics s) 0 0 → Post tb e args s (.returned v) u) :
    ArmFor flags0 classFile x code maxLocals ret World_1 tables_1 room_1 Calls_1 rest_1 Pre_1 Post := by
  intro l hfl _ _ p e ha hc hk s m args below hf hA hF happ hP
  obtain ⟨hcalls, hrest, hpre⟩ := hP
  obtain ⟨-, -, -, hnamed, -, -, -, hat⟩ := (Spec.applies_iff hf).mp happ
  obtain ⟨hg, hn⟩ := and_e (Cond.before_iff.mp (show (Jvm.Cond.and given_1 narrow_1).before args s = true from hpre))
  obtain ⟨gg1, gg2⟩ := and_e hg
  obtain ⟨gg3, gg4⟩ := and_e gg2
  obtain ⟨w0, w1, rfl⟩ : ∃ w0 w1 : Value, args = #[w0, w1] := by
    have hs : args.size = 2 := by simpa [Cond.value, given_1] using gg1
    obtain ⟨L⟩ := args
    match L, hs with
    | [w0, w1], _ => exact ⟨w0, w1, rfl⟩
  have hw := fun d (hd : d ∈ tables_1) => atoms_spec (ws := Jvm.Cond.code x code maxLocals ret :: tables_1) hat d (List.mem_cons_of_mem _ hd)
  obtain ⟨i0, ei0⟩ := isL_v gg3
  obtain rfl : w0 = (.long i0) := Option.some.inj ei0
  obtain ⟨i1, ei1⟩ := is_v gg4
  obtain rfl : w1 = (.int i1) := Option.some.inj ei1
  obtain ⟨n, o, h1, h2, h3, _, L, rfl, ⟨rfl, N⟩, hq⟩ := rm0 l s _ hw tables_1 i0 i1 s.heap s.heap.size (Nat.le_refl _)  p e ha hc hk s m _ below hf ((Spec.applies_iff_loose hf).mp happ).1 ⟨rfl, State.Warmed39.refl s, rfl⟩ trivial
  refine ⟨n, _, h1, h2, h3, hpost _ _ _ _ _ _ ⟨Cond.after_iff.mpr rfl, Cond.after_iff.mpr (eq_i res_at (Term.int_eval (1)) rfl), trivial⟩ ⟨hq.1, hq.2.1, (hq.2.2.sift fun y hy => Or.inr (N y hy)).mono (by decide) (by decide)⟩⟩
theorem main_1_1 : Claimed_1_1 := comes_1 fun _ _ _ _ _ _ h hF => ⟨h.1, hF⟩
theorem main_1_2 : Claimed_1_2 := comes_1 fun _ _ _ _ _ _ h hF => ⟨h.2.1, hF⟩
end Jvm.Pilot.@@N@@
namespace Jvm.Pilot.@@N@@
open Jvm Jvm.ClassFile Sem Op Lib Jvm.Free Jvm.Stand Jvm.Pilot.@@N@@.Jvm.D
/-! MADE BY PROGRAM (witnessworld.py) out of the Statement's table words and the real class files: 7 classes; the members and pool entries that the words name. The judged class is class 1, her method 1. -/
namespace start1
open Jvm.ClassFile
def u (s : String) : CpInfo := .utf8 (stringToUtf16 s)
/-- a pool by its gaps: so many unusable entries, then the entry; so many at the end -/
def gap : Nat → List CpInfo → List CpInfo
  | 0, r => r
  | n + 1, r => .unusable :: gap n r
def poolList (es : List (Nat × CpInfo)) (last : Nat) : List CpInfo := es.foldr (fun e r => gap e.1 (e.2 :: r)) (gap last [])
def pool (es : List (Nat × CpInfo)) (last : Nat) : Array CpInfo := ⟨poolList es last⟩
def fileOf (pool : Array CpInfo) (this : Nat) (attrs : Array Attribute := #[]) (ms : Array MethodInfo := #[]) (fl : Nat := 33) (sup : Nat := 0) (ifs : Array Nat := #[]) (fds : Array FieldInfo := #[]) : ClassFile where
  minorVersion := 0
  majorVersion := 65
  constantPool := pool
  accessFlags := fl
  thisClass := this
  superClass := sup
  interfaces := ifs
  fields := fds
  methods := ms
  attributes := attrs
def plain (name : String) (sup : Option ClassId) : Class where
  name := name
  kind := .ordinary
  loader := none
  accessFlags := 33
  super := sup
  interfaces := #[]
  cf := none
  fields := #[]
  methods := #[]
  instanceTypes := #[]
  staticTypes := #[]
  resolved := #[]
  callSites := []
  init := .initialized
  statics := none
  mirror := none

def pool0 : Array CpInfo := pool [(5, u "<init>"), (0, u "()V"), (1, .class_ 10), (1, u "java/lang/Object")] 113

def k0m0 : Method := { name := "<init>", desc := "()V", sig := { parameters := [], returnType := none }, accessFlags := 1, code := none }
/-- java/lang/Object -/
def k0 : Class := { plain "java/lang/Object" none with
  accessFlags := 33
  interfaces := #[]
  cf := some (fileOf pool0 8 #[] #[{ accessFlags := 1, nameIndex := 5, descriptorIndex := 6, attributes := #[] }] 33 0 #[] #[])
  fields := #[]
  methods := #[k0m0]
  instanceTypes := #[]
  staticTypes := #[]
  resolved := Array.replicate 124 none
  statics := none }

def pool1 : Array CpInfo := pool [(2, .class_ 4), (1, u "java/lang/Object"), (0, u "<init>"), (0, u "()V"), (2, .long 9223372036854775807), (1, .integer 2147483647), (0, .methodref 13 14), (0, .class_ 15), (0, .nameAndType 16 17), (0, u "com/example/quiesce/quiesce/engine/ReclaimDecision"), (0, u "dailyAllowance"), (0, u "(JI)J"), (0, .long 365), (1, .class_ 21), (0, u "com/example/quiesce/quiesce/engine/ReclaimDecisionDailyAllowancePinLaw"), (2, u "law"), (0, u "(JI)Z")] 3

def k1m0 : Method := { name := "<init>", desc := "()V", sig := { parameters := [], returnType := none }, accessFlags := 1, code := none }
def k1c1 : Code := { maxStack := 6, maxLocals := 14, code := code, exceptionTable := #[], attributes := #[] }
def k1m1 : Method := { name := "law", desc := "(JI)Z", sig := { parameters := [.long, .int], returnType := some .boolean }, accessFlags := 9, code := some k1c1 }
/-- com/example/quiesce/quiesce/engine/ReclaimDecisionDailyAllowancePinLaw -/
def k1 : Class := { plain "com/example/quiesce/quiesce/engine/ReclaimDecisionDailyAllowancePinLaw" (some 0) with
  accessFlags := 49
  interfaces := #[]
  cf := some (fileOf pool1 20 #[] #[{ accessFlags := 1, nameIndex := 5, descriptorIndex := 6, attributes := #[] }, { accessFlags := 9, nameIndex := 24, descriptorIndex := 25, attributes := #[] }] 49 2 #[] #[])
  fields := #[]
  methods := #[k1m0, k1m1]
  instanceTypes := #[]
  staticTypes := #[]
  resolved := Array.replicate 29 none
  statics := none }

def pool2 : Array CpInfo := pool [(2, .class_ 4), (1, u "java/lang/Object"), (18, .class_ 25), (1, u "com/example/quiesce/quiesce/engine/ReclaimDecision"), (0, u "left"), (0, u "J"), (6, .long 365), (16, u "DAYS_A_YEAR"), (0, u "I"), (6, u "dailyAllowance"), (0, u "(JI)J")] 23

def k2c0 : Code := { maxStack := 6, maxLocals := 3, code := prog_9_method_2_code, exceptionTable := #[], attributes := #[] }
def k2m0 : Method := { name := "dailyAllowance", desc := "(JI)J", sig := { parameters := [.long, .int], returnType := some .long }, accessFlags := 9, code := some k2c0 }
/-- com/example/quiesce/quiesce/engine/ReclaimDecision -/
def k2 : Class := { plain "com/example/quiesce/quiesce/engine/ReclaimDecision" (some 0) with
  accessFlags := 33
  interfaces := #[]
  cf := some (fileOf pool2 23 #[] #[{ accessFlags := 9, nameIndex := 59, descriptorIndex := 60, attributes := #[] }] 33 2 #[] #[{ accessFlags := 26, nameIndex := 51, descriptorIndex := 52, attributes := #[] }, { accessFlags := 2, nameIndex := 26, descriptorIndex := 27, attributes := #[] }])
  fields := #[{ name := "DAYS_A_YEAR", type := .int, accessFlags := 26, slot := 0, constantValue := 0 }, { name := "left", type := .long, accessFlags := 2, slot := 0, constantValue := 0 }]
  methods := #[k2m0]
  instanceTypes := #[.long]
  staticTypes := #[.int]
  resolved := Array.replicate 84 none
  statics := none }

def pool3 : Array CpInfo := pool [(1, u "java/lang/Cloneable"), (0, .class_ 1), (0, u "java/lang/Object"), (0, .class_ 3)] 3

/-- java/lang/Cloneable -/
def k3 : Class := { plain "java/lang/Cloneable" (some 0) with
  accessFlags := 1537
  interfaces := #[]
  cf := some (fileOf pool3 2 #[] #[] 1537 4 #[] #[])
  fields := #[]
  methods := #[]
  instanceTypes := #[]
  staticTypes := #[]
  resolved := Array.replicate 8 none
  statics := none }

def pool4 : Array CpInfo := pool [(1, u "java/io/Serializable"), (0, .class_ 1), (0, u "java/lang/Object"), (0, .class_ 3)] 3

/-- java/io/Serializable -/
def k4 : Class := { plain "java/io/Serializable" (some 0) with
  accessFlags := 1537
  interfaces := #[]
  cf := some (fileOf pool4 2 #[] #[] 1537 4 #[] #[])
  fields := #[]
  methods := #[]
  instanceTypes := #[]
  staticTypes := #[]
  resolved := Array.replicate 8 none
  statics := none }

/-- the primitive byte -/
def k5 : Class := { plain "byte" none with kind := .primitive 'B', accessFlags := 0x411 }
/-- [B -/
def k6 : Class := { plain "[B" (some 0) with kind := .array 5 .byte, interfaces := #[3, 4], accessFlags := 1041 }

def heap : Heap := #[]
def classes : Array Class := #[k0, k1, k2, k3, k4, k5, k6]
def interned : List (Array UInt16 × Addr) := []
def slotsUsed : Nat := 0
def theMethod : MethodId := ⟨1, 1⟩
def args0 : Array Value := #[.long 5, .int 6]
def aboutOver (below : List Frame) : State where
  vm := { classes := classes, interned := interned.toArray }
  heap := heap
  slotsUsed := slotsUsed
  threads := #[{ frames := .invoking theMethod args0 :: below }]
def below0 : List Frame := [.native { method := ⟨0, 0⟩, args := #[] }]
def about1 : State := aboutOver below0
def p0 : Program := .bare "" "" ""
def e0 : Env := launch0.env 0 0 0
theorem w_frames : about1.frames = Frame.invoking theMethod args0 :: below0 := rfl
set_option maxRecDepth 65536 in
theorem w_args : argsFit about1.vm theMethod args0 = true := by decide +kernel
set_option maxRecDepth 65536 in
theorem w_heap : heapFits about1 = true := by decide +kernel
set_option maxRecDepth 65536 in
theorem w_runnable : about1.curStatus? = some .runnable := by decide +kernel
set_option maxRecDepth 65536 in
theorem w_alone : about1.alone = true := by decide +kernel
set_option maxRecDepth 65536 in
theorem w_named : about1.methodNamed? x = some theMethod := by decide +kernel
set_option maxRecDepth 65536 in
theorem w_hears : about1.hears theMethod below0 = true := by decide +kernel
set_option maxRecDepth 65536 in
theorem w_ripe : about1.ripe theMethod args0 below0 = true := by decide +kernel
theorem w_running : about1.status = .running := rfl
set_option maxRecDepth 65536 in
theorem w_room : about1.hasRoom e0.platform room_1 = true :=
  launch0.hasRoom_least _ room_1 (by decide +kernel) (by decide +kernel) (by decide +kernel) (by decide +kernel) (by decide +kernel) (by decide +kernel)
theorem allAtoms_all (ts : List Jvm.Cond) (a : Array Jvm.Value) (st : Jvm.State) : (allAtoms ts).before a st = ts.all (fun c => c.before a st) := by
  induction ts with
  | nil => rfl
  | cons c t ih =>
    show (Jvm.Cond.and c (allAtoms t)).before a st = _
    rw [Jvm.Cond.before_and, ih, List.all_cons]
def words1 : List Jvm.Cond := Jvm.Cond.code x code maxLocals ret :: tables_1
/-- a 'code' word, met by the world's own term for the bytes: nothing is compared byte by byte -/
theorem code_word {y : MethodName} {bytes : ByteArray} {mx : Nat} {rt : Option FieldType} {a : Array Value} {s : State} {m : MethodId} {meth : Method} {c : Code} (h1 : s.methodNamed? y = some m) (h2 : s.vm.method? m = some meth) (h3 : meth.code = some c) (h4 : c.code = bytes)
    (h5 : (c.maxLocals == mx && c.exceptionTable.isEmpty && decide (c.maxStack ≤ mostOperands) && decide (meth.sig.returnType = rt) && !meth.locks && decide (parseMethodDescriptor y.desc = some meth.sig)) = true) : (Jvm.Cond.code y bytes mx rt).before a s = true := by
  simp only [Bool.and_eq_true, beq_iff_eq, Bool.not_eq_true', decide_eq_true_eq] at h5
  obtain ⟨⟨⟨⟨⟨g1, g2⟩, g3⟩, g4⟩, g5⟩, g6⟩ := h5
  simp [Cond.before, Cond.holds, Cond.value, h1, h2, h3, h4, g1, g2, g3, g4, g5, g6]
def isCode : Jvm.Cond → Bool
  | .code _ _ _ _ => true
  | _ => false
theorem all_split {L : List Jvm.Cond} {P : Jvm.Cond → Bool} (h1 : L.all (fun c => isCode c || P c) = true) (h2 : ∀ c ∈ L.filter isCode, P c = true) : L.all P = true := by
  refine List.all_eq_true.mpr fun c hc => ?_
  have h := List.all_eq_true.mp h1 c hc
  rcases Bool.eq_false_or_eq_true (isCode c) with hi | hi
  · exact h2 c (List.mem_filter.mpr ⟨hc, hi⟩)
  · simpa [hi] using h
set_option maxRecDepth 65536 in
theorem w_c0 : (Jvm.Cond.code x code maxLocals ret).before args0 about1 = true := code_word (m := ⟨1, 1⟩) (meth := k1m1) (c := k1c1) (by decide +kernel) rfl rfl rfl (by decide +kernel)
set_option maxRecDepth 65536 in
theorem w_c1 : (Jvm.Cond.code ({ cls := "com/example/quiesce/quiesce/engine/ReclaimDecision", name := "dailyAllowance", desc := "(JI)J" } : Jvm.MethodName) prog_9_method_2_code (3 : Nat) (Option.some Jvm.ClassFile.FieldType.long)).before args0 about1 = true := code_word (m := ⟨2, 0⟩) (meth := k2m0) (c := k2c0) (by decide +kernel) rfl rfl rfl (by decide +kernel)
def codes1 : List Jvm.Cond := [Jvm.Cond.code x code maxLocals ret, Jvm.Cond.code ({ cls := "com/example/quiesce/quiesce/engine/ReclaimDecision", name := "dailyAllowance", desc := "(JI)J" } : Jvm.MethodName) prog_9_method_2_code (3 : Nat) (Option.some Jvm.ClassFile.FieldType.long)]
set_option maxRecDepth 65536 in
theorem codes_eq : words1.filter isCode = codes1 := rfl
theorem w_codes : ∀ c ∈ words1.filter isCode, c.before args0 about1 = true := by
  rw [codes_eq]
  intro c hc
  simp only [codes1, List.mem_cons, List.not_mem_nil, or_false] at hc
  rcases hc with rfl | rfl
  · exact w_c0
  · exact w_c1
set_option maxRecDepth 65536 in
theorem w_t1 : words1.all (fun c => isCode c || c.before args0 about1) = true := by decide +kernel
theorem w_tables : (allAtoms (Jvm.Cond.code x code maxLocals ret :: tables_1)).before args0 about1 = true := by
  rw [allAtoms_all]
  show words1.all (fun c => c.before args0 about1) = true
  refine all_split ?_ w_codes
  rw [w_t1]
set_option maxRecDepth 65536 in
theorem w_case : (Jvm.Cond.and given_1 narrow_1).before args0 about1 = true := by decide +kernel
theorem w_applies : (headSpec (Jvm.Cond.code x code maxLocals ret :: tables_1) room_1).applies x e0.platform about1 = true :=
  (Spec.applies_iff w_frames).mpr ⟨w_running, w_runnable, w_alone, w_named, w_hears, w_ripe, w_room, w_tables⟩
theorem atStart : AtStart classFile x code maxLocals ret World_1 tables_1 room_1 Calls_1 rest_1 Pre_1 launch0 p0 e0 about1 theMethod args0 below0 :=
  ⟨lists_1, trivial, launch0.admits_env _ _ _, launch0.least_env, fairChoices_fair.cas, fairChoices_fair.clock, w_frames, w_args, w_heap, w_applies, trivial, trivial, w_case⟩
end start1
theorem witness_1 : WitnessClaimed_1 := ⟨start1.p0, start1.e0, start1.about1, start1.theMethod, start1.args0, start1.below0, start1.atStart⟩
end Jvm.Pilot.@@N@@
