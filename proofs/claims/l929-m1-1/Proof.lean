import JvmDerived
import JvmDerived.Pilot.@@N@@Statement
import JvmDerived.Pilot.@@N@@Code
set_option linter.unusedVariables false
set_option linter.unusedSimpArgs false
namespace Jvm.Pilot.@@N@@
open Jvm Jvm.ClassFile Sem Op Lib Jvm.Free Jvm.Stand Jvm.LawKit Jvm.RoadKit Bundle Jvm.Pilot.@@N@@.Jvm.D
theorem own_w {Z : State} {a0 : Array Value} {d : Jvm.Cond} (hw : ∀ d ∈ tables_1, d.before a0 Z = true) (i : Nat) (h : tables_1[i]? = some d) : d.before a0 Z = true := hw d (List.mem_of_getElem? h)
/-- from U the run comes to an end of which G says -/
def Go (p : Program) (e : Env) (below : List Frame) (G : State → Outcome → Prop) (U : State) : Prop := ∃ s₂ o, Steps p.tables e below U s₂ ∧ s₂.status = .running ∧ Ended s₂ below o ∧ G s₂ o
theorem Go.st {p : Program} {e : Env} {below : List Frame} {G : State → Outcome → Prop} {U U' : State} (h : ∀ t, Steps p.tables e below U' t → Steps p.tables e below U t) (k : Go p e below G U') : Go p e below G U := by
  obtain ⟨t, o, h1, r⟩ := k
  exact ⟨t, o, h _ h1, r⟩
theorem Go.tr {p : Program} {e : Env} {below : List Frame} {G : State → Outcome → Prop} {U U' : State} (h : Steps p.tables e below U U') (k : Go p e below G U') : Go p e below G U := by
  obtain ⟨t, o, h1, r⟩ := k
  exact ⟨t, o, h.trans h1, r⟩
theorem Go.join {p : Program} {e : Env} {below : List Frame} {G : State → Outcome → Prop} {U : State} {α : Type} {P : α → Prop} {F : α → State} (h2 : (∀ v, P v → Go p e below G (F v)) → Go p e below G U) (h1 : ∀ v, P v → Go p e below G (F v)) : Go p e below G U := h2 h1
theorem Go.join2 {p : Program} {e : Env} {below : List Frame} {G : State → Outcome → Prop} {U : State} {α β : Type} {P : α → β → Prop} {F : α → β → State} (h2 : (∀ v w, P v w → Go p e below G (F v w)) → Go p e below G U) (h1 : ∀ v w, P v w → Go p e below G (F v w)) : Go p e below G U := h2 h1
theorem Go.join3 {p : Program} {e : Env} {below : List Frame} {G : State → Outcome → Prop} {U : State} {α β γ : Type} {P : α → β → γ → Prop} {F : α → β → γ → State} (h2 : (∀ v w u, P v w u → Go p e below G (F v w u)) → Go p e below G U) (h1 : ∀ v w u, P v w u → Go p e below G (F v w u)) : Go p e below G U := h2 h1
theorem own_ret {p : Program} {l : Launch} {e : Env} {R : Room} {s : State} {m : MethodId} {args : Array Value} {below : List Frame} {meth : Method} {c : Code} {T U : State} {locs : List Loc} {cells slots : Nat} {Q : Option Value → Heap → List Loc → Prop} {rc rs : Nat} {v : Option Value}
    (X : Stand p l e R s m args below meth c T locs cells slots) (hlk : meth.locks = false) (hv : meth.sig.returnType = none → v = none) (hc : cells ≤ rc) (hs : slots ≤ rs) (hq : Q v T.heap locs)
    (st : ∀ fs, (∀ (f : JFrame) (acts : List Action), f.method = m → f.locked = none → f.entered = [] → (doReturn e (T.setTop f) acts v).1 = T.setFrames fs) → Steps p.tables e below U (T.setFrames fs)) :
    Go p e below (fun s₂ o => ∃ v L, o = .returned v ∧ Q v s₂.heap L ∧ FrameEnd s o s₂ L rc rs) U := by
  obtain ⟨fs, hr, hrun, hended, hW, hsame⟩ := X.leave (v := v) hv hlk
  exact ⟨_, _, st fs hr, hrun, hended, _, _, rfl, hq, ⟨_, rfl⟩, hW, hsame.mono hc hs⟩
theorem own_getI (L : List Int32) (i : Nat) : (L.map Value.int).getD i (.int 0) = .int (L.getD i 0) := by
  induction L generalizing i with
  | nil => rfl
  | cons a r ih => cases i with
    | zero => rfl
    | succ i => exact ih i
theorem own_getJ (L : List Int64) (i : Nat) : (L.map Value.long).getD i (.long 0) = .long (L.getD i 0) := by
  induction L generalizing i with
  | nil => rfl
  | cons a r ih => cases i with
    | zero => rfl
    | succ i => exact ih i
theorem own_getP {P : Int32 → Prop} (h0 : P 0) (L : List Int32) (h : ∀ x ∈ L, P x) (i : Nat) : P (L.getD i 0) := by
  induction L generalizing i with
  | nil => exact h0
  | cons a r ih => cases i with
    | zero => exact h a (List.mem_cons_self ..)
    | succ i => exact ih (fun x hx => h x (List.mem_cons_of_mem _ hx)) i
theorem own_mk (x m n : Int32) (k : Nat) (hk : k ≤ 31) (hm : m.toBitVec.toNat = 2 ^ k - 1) (hn : ((2 ^ k : Nat) : Int) ≤ n.toInt) : ¬ (x &&& m) < 0 ∧ (x &&& m) < n := by
  have h := c_mask x m k hk hm
  have h2 : (0 : Int) < ((2 ^ k : Nat) : Int) := Int.ofNat_lt.mpr (Nat.two_pow_pos k)
  have h3 := Int.emod_nonneg x.toInt (Int.ne_of_gt h2)
  have h4 := Int.emod_lt_of_pos x.toInt h2
  rw [Int32.lt_iff_toInt_lt, Int32.lt_iff_toInt_lt, h]
  exact ⟨Int.not_lt.mpr h3, Int.lt_of_lt_of_le h4 hn⟩
abbrev own_y0 : MethodName := ⟨"com/example/quiesce/quiesce/model/Uids", "appId", "(I)I"⟩
abbrev own_y1 : MethodName := ⟨"com/example/quiesce/quiesce/model/Uids", "isCoreProcess", "(I)Z"⟩
theorem d2_0 : decode prog_64_method_2_code 0 = .ok (.iload_n 0, 1) := by decide +kernel
theorem d2_1 : decode prog_64_method_2_code 1 = .ok (.ldc 9, 2) := by decide +kernel
theorem d2_3 : decode prog_64_method_2_code 3 = .ok (.irem, 1) := by decide +kernel
theorem d2_4 : decode prog_64_method_2_code 4 = .ok (.ireturn, 1) := by decide +kernel
theorem pn_0 : plainName "com/example/quiesce/quiesce/model/Uids" = true := by first | (simp [plainName, overriddenIn]; done) | decide +kernel
theorem ef1 (m : MethodId) (p1 : Int32) : entryFrame m #[(.int p1)] 1 = mkF m 0 #[.val (.int p1)] [] := by first | (simp [entryFrame, mkF, argsToLocals, Value.category]; done) | rfl
abbrev own_R0_0_0_0 : Room := { frames := 0, cells := 0, slots := 0, locals := 0 }
def f1 (p1 : Int32) : Int32 := (p1 % (100000 : Int32))
def Q1 (Z : State) (p1 : Int32) (h0 : Heap) (n0 : Nat) (v : Option Value) (h : Heap) (L : List Loc) : Prop := v = some (.int (f1 p1)) ∧ Fr n0 L ∧ h = h0
set_option maxRecDepth 65536 in
set_option maxHeartbeats 40000000 in
theorem rm1 (l : Launch) (Z : State) (a0 : Array Value) (hw : ∀ d ∈ tables_1, d.before a0 Z = true) (ws : List Jvm.Cond) (p1 : Int32) (h0 : Heap) (n0 : Nat) (Z0 : n0 ≤ h0.size) :
    MetFree l own_y0 (head1 (Jvm.Cond.code own_y0 prog_64_method_2_code 1 (some .int) :: ws) own_R0_0_0_0) (fun a U => a = #[(.int p1)] ∧ Z.Warmed39 U.vm ∧ U.heap = h0) (fun _ _ _ _ _ => True) (fun _ U o U' => ∃ v L, o = .returned v ∧ Q1 Z p1 h0 n0 v U'.heap L ∧ FrameEnd U o U' L (own_R0_0_0_0).cells (own_R0_0_0_0).slots) := by
  refine MetFree.of_bodySF (plainFor_of_name pn_0) hisR ?_
  intro p e s m args below meth c s₁ Bd hml0 hP hK
  obtain ⟨rfl, hZ, hh⟩ := hP
  have hx := Bd.exec
  have hby := Bd.bytes
  have hml : c.maxLocals = 1 := hml0
  have hown : s.vm.findClass "com/example/quiesce/quiesce/model/Uids" = some m.cls := findClass_of_methodNamed Bd.named
  have hnm := (name_of_methodNamed Bd.named Bd.method).1
  have hlk : meth.locks = false := BodyLoose.notSynchronized Bd
  have hrt := Bd.returns
  have X0 : Stand p l e own_R0_0_0_0 s m #[(.int p1)] below meth c s₁ [] 0 0 := Stand.of_body Bd
  have e0 : s₁.heap = h0 := by rw [← hh, Bd.state]; rfl
  have N0 := Fr.nil n0
  refine (show Go p e below (fun s₂ o => ∃ v L, o = .returned v ∧ Q1 Z p1 h0 n0 v s₂.heap L ∧ FrameEnd s o s₂ L 0 0) (s₁.setTop (entryFrame m #[(.int p1)] 1)) from ?_)
  rw [ef1]
  refine Go.st (U' := s₁.setTop (mkF m 4 #[.val (.int p1)] [(.int (p1 % (100000 : Int32)))])) (fun t k => ?_) ?_
  · show Steps p.tables e below (s₁.setTop (mkF m 0 #[.val (.int p1)] [])) _
    refine XS.iloadN X0.here hx rfl (hb hby d2_0) rfl ?_
    show Steps p.tables e below (s₁.setTop (mkF m 1 #[.val (.int p1)] [(.int p1)])) _
    refine X0.ldcInt hx hown (mvT hZ (own_w hw 12 rfl)) (g := (mkF m 1 #[.val (.int p1)] [(.int p1)])) rfl (hb hby d2_1) _ ?_
    show Steps p.tables e below (s₁.setTop (mkF m 3 #[.val (.int p1)] [(.int (100000 : Int32)), (.int p1)])) _
    refine iremM X0 hx rfl (hb hby d2_3) rfl (by decide) ?_
    exact k
  refine own_ret (Q := Q1 Z p1 h0 n0) (v := some (.int (p1 % (100000 : Int32)))) X0 hlk (fun h => by rw [hrt] at h; cases h) (by decide) (by decide) ?_ (fun fs hr => retOut X0 hx (t := .int) hrt rfl (Or.inl ⟨rfl, Or.inl rfl, _, rfl⟩) (hb hby d2_4) hr)
  rw [e0]
  exact ⟨(by first | rfl | simp only [f1]), N0, rfl⟩
theorem d1_0 : decode prog_64_method_4_code 0 = .ok (.iload_n 0, 1) := by decide +kernel
theorem d1_1 : decode prog_64_method_4_code 1 = .ok (.invokestatic 10, 3) := by decide +kernel
theorem d1_4 : decode prog_64_method_4_code 4 = .ok (.istore_n 1, 1) := by decide +kernel
theorem d1_5 : decode prog_64_method_4_code 5 = .ok (.iload_n 1, 1) := by decide +kernel
theorem d1_6 : decode prog_64_method_4_code 6 = .ok (.ifCond .eq 24, 3) := by decide +kernel
theorem d1_9 : decode prog_64_method_4_code 9 = .ok (.iload_n 1, 1) := by decide +kernel
theorem d1_10 : decode prog_64_method_4_code 10 = .ok (.sipush 1000, 3) := by decide +kernel
theorem d1_13 : decode prog_64_method_4_code 13 = .ok (.if_icmp .eq 17, 3) := by decide +kernel
theorem d1_16 : decode prog_64_method_4_code 16 = .ok (.iload_n 1, 1) := by decide +kernel
theorem d1_17 : decode prog_64_method_4_code 17 = .ok (.sipush 1001, 3) := by decide +kernel
theorem d1_20 : decode prog_64_method_4_code 20 = .ok (.if_icmp .eq 10, 3) := by decide +kernel
theorem d1_23 : decode prog_64_method_4_code 23 = .ok (.iload_n 1, 1) := by decide +kernel
theorem d1_24 : decode prog_64_method_4_code 24 = .ok (.sipush 2000, 3) := by decide +kernel
theorem d1_27 : decode prog_64_method_4_code 27 = .ok (.if_icmp .ne 7, 3) := by decide +kernel
theorem d1_30 : decode prog_64_method_4_code 30 = .ok (.iconst 1, 1) := by decide +kernel
theorem d1_31 : decode prog_64_method_4_code 31 = .ok (.goto 4, 3) := by decide +kernel
theorem d1_34 : decode prog_64_method_4_code 34 = .ok (.iconst 0, 1) := by decide +kernel
theorem d1_35 : decode prog_64_method_4_code 35 = .ok (.ireturn, 1) := by decide +kernel
theorem pd_0 : parseMethodDescriptor "(I)I" = some ⟨[.int], some .int⟩ := by decide +kernel
theorem ef2 (m : MethodId) (p1 : Int32) : entryFrame m #[(.int p1)] 2 = mkF m 0 #[.val (.int p1), .unset] [] := by first | (simp [entryFrame, mkF, argsToLocals, Value.category]; done) | rfl
abbrev own_R1_0_0_16 : Room := { frames := 1, cells := 0, slots := 0, locals := 16 }
def f2 (p1 : Int32) : Int32 := (if (f1 p1) = (0 : Int32) then (1 : Int32) else (if (f1 p1) = (1000 : Int32) then (1 : Int32) else (if (f1 p1) = (1001 : Int32) then (1 : Int32) else (if (f1 p1) = (2000 : Int32) then (1 : Int32) else (0 : Int32)))))
def Q2 (Z : State) (p1 : Int32) (h0 : Heap) (n0 : Nat) (v : Option Value) (h : Heap) (L : List Loc) : Prop := v = some (.int (f2 p1)) ∧ Fr n0 L ∧ h = h0
set_option maxRecDepth 65536 in
set_option maxHeartbeats 40000000 in
theorem rm2 (l : Launch) (Z : State) (a0 : Array Value) (hw : ∀ d ∈ tables_1, d.before a0 Z = true) (ws : List Jvm.Cond) (p1 : Int32) (h0 : Heap) (n0 : Nat) (Z0 : n0 ≤ h0.size) :
    MetFree l own_y1 (head1 (Jvm.Cond.code own_y1 prog_64_method_4_code 2 (some .boolean) :: ws) own_R1_0_0_16) (fun a U => a = #[(.int p1)] ∧ Z.Warmed39 U.vm ∧ U.heap = h0) (fun _ _ _ _ _ => True) (fun _ U o U' => ∃ v L, o = .returned v ∧ Q2 Z p1 h0 n0 v U'.heap L ∧ FrameEnd U o U' L (own_R1_0_0_16).cells (own_R1_0_0_16).slots) := by
  refine MetFree.of_bodySF (plainFor_of_name pn_0) hisR ?_
  intro p e s m args below meth c s₁ Bd hml0 hP hK
  obtain ⟨rfl, hZ, hh⟩ := hP
  have hx := Bd.exec
  have hby := Bd.bytes
  have hml : c.maxLocals = 2 := hml0
  have hown : s.vm.findClass "com/example/quiesce/quiesce/model/Uids" = some m.cls := findClass_of_methodNamed Bd.named
  have hnm := (name_of_methodNamed Bd.named Bd.method).1
  have hlk : meth.locks = false := BodyLoose.notSynchronized Bd
  have hrt := Bd.returns
  have X0 : Stand p l e own_R1_0_0_16 s m #[(.int p1)] below meth c s₁ [] 0 0 := Stand.of_body Bd
  have e0 : s₁.heap = h0 := by rw [← hh, Bd.state]; rfl
  have N0 := Fr.nil n0
  refine (show Go p e below (fun s₂ o => ∃ v L, o = .returned v ∧ Q2 Z p1 h0 n0 v s₂.heap L ∧ FrameEnd s o s₂ L 0 0) (s₁.setTop (entryFrame m #[(.int p1)] 2)) from ?_)
  rw [ef2]
  refine Go.st (U' := s₁.setTop (mkF m 1 #[.val (.int p1), .unset] [(.int p1)])) (fun t k => ?_) ?_
  · show Steps p.tables e below (s₁.setTop (mkF m 0 #[.val (.int p1), .unset] [])) _
    refine XS.iloadN X0.here hx rfl (hb hby d1_0) rfl ?_
    exact k
  obtain ⟨_, _, ⟨T101, L101, k101, n101⟩, -, X101, ⟨Lc101, hQ101, l101, y101, z101⟩, st101⟩ := Jvm.LawKit.callS X0 hx (y := own_y0) hown (mvT hZ (own_w hw 9 rfl)) (mvT hZ (own_w hw 10 rfl)) (mvT hZ (own_w hw 7 rfl)) (mvT hZ (own_w hw 11 rfl)) (by decide) (backOf (W := 0) (rm1 l Z a0 hw [] p1 h0 n0 Z0 ) hZ (own_w hw 11 rfl) (own_w hw 7 rfl) (by decide) (by decide)) (g := (mkF m 1 #[.val (.int p1), .unset] [(.int p1)])) rfl (by rw [hml]; rfl) (argsL := [(.int p1)]) (rest := []) (lenOf pd_0 rfl) rfl (by show 2 * 0 + _ ≤ _; exact Nat.le_of_eq rfl) (hb hby d1_1) (fun _ _ => ⟨rfl, e0, (by decide : 0 + 0 ≤ _), (by decide : 0 + 0 ≤ _)⟩)
  dsimp only [Pt.U, Pt.locs, Pt.cells, Pt.slots] at X101 l101 y101 z101 st101 hQ101
  subst l101 y101 z101
  obtain ⟨rfl, N101q, e101⟩ := hQ101
  have N101 := Fr.app N0 N101q
  refine Go.st (U' := T101.setTop (mkF m 4 #[.val (.int p1), .unset] [(.int (f1 p1))])) (fun t k => st101 _ k) ?_
  refine Go.st (U' := T101.setTop (mkF m 6 #[.val (.int p1), .val (.int (f1 p1))] [(.int (f1 p1))])) (fun t k => ?_) ?_
  · show Steps p.tables e below (T101.setTop (mkF m 4 #[.val (.int p1), .unset] [(.int (f1 p1))])) _
    refine XS.istoreN X101.here hx rfl (hb hby d1_4) rfl (l' := #[.val (.int p1), .val (.int (f1 p1))]) rfl ?_
    show Steps p.tables e below (T101.setTop (mkF m 5 #[.val (.int p1), .val (.int (f1 p1))] [])) _
    refine XS.iloadN X101.here hx rfl (hb hby d1_5) rfl ?_
    exact k
  by_cases hc102 : (f1 p1) = (0 : Int32)
  · refine Go.st (U' := T101.setTop (mkF m 35 #[.val (.int p1), .val (.int (f1 p1))] [(.int (1 : Int32))])) (fun t k => ?_) ?_
    · show Steps p.tables e below (T101.setTop (mkF m 6 #[.val (.int p1), .val (.int (f1 p1))] [(.int (f1 p1))])) _
      refine XS.ifYes X101.here hx rfl (pc0 := 6) (pc' := 30) rfl (hb hby d1_6) rfl ((if0 _ _).trans (teq hc102).1) (by decide) (by decide) ?_
      show Steps p.tables e below (T101.setTop (mkF m 30 #[.val (.int p1), .val (.int (f1 p1))] [])) _
      refine XS.iconst X101.here hx rfl (hb hby d1_30) ?_
      show Steps p.tables e below (T101.setTop (mkF m 31 #[.val (.int p1), .val (.int (f1 p1))] [(.int (1 : Int32))])) _
      refine XS.goto X101.here hx rfl (pc0 := 31) (pc' := 35) rfl (hb hby d1_31) (by decide) (by decide) ?_
      exact k
    refine own_ret (Q := Q2 Z p1 h0 n0) (v := some (.int (1 : Int32))) X101 hlk (fun h => by rw [hrt] at h; cases h) (by decide) (by decide) ?_ (fun fs hr => retN X101 hx (t := .boolean) hrt (by simp) (hb hby d1_35) hr)
    rw [e101]
    exact ⟨(by first | rfl | simp only [f2, if_pos hc102]), N101, rfl⟩
  · refine Go.st (U' := T101.setTop (mkF m 13 #[.val (.int p1), .val (.int (f1 p1))] [(.int (1000 : Int32)), (.int (f1 p1))])) (fun t k => ?_) ?_
    · show Steps p.tables e below (T101.setTop (mkF m 6 #[.val (.int p1), .val (.int (f1 p1))] [(.int (f1 p1))])) _
      refine XS.ifNo X101.here hx rfl (hb hby d1_6) rfl ((if0 _ _).trans (feq hc102).1) ?_
      show Steps p.tables e below (T101.setTop (mkF m 9 #[.val (.int p1), .val (.int (f1 p1))] [])) _
      refine XS.iloadN X101.here hx rfl (hb hby d1_9) rfl ?_
      show Steps p.tables e below (T101.setTop (mkF m 10 #[.val (.int p1), .val (.int (f1 p1))] [(.int (f1 p1))])) _
      refine XS.sipush X101.here hx rfl (hb hby d1_10) ?_
      exact k
    by_cases hc103 : (f1 p1) = (1000 : Int32)
    · refine Go.st (U' := T101.setTop (mkF m 35 #[.val (.int p1), .val (.int (f1 p1))] [(.int (1 : Int32))])) (fun t k => ?_) ?_
      · show Steps p.tables e below (T101.setTop (mkF m 13 #[.val (.int p1), .val (.int (f1 p1))] [(.int (1000 : Int32)), (.int (f1 p1))])) _
        refine XS.icmpYes X101.here hx rfl (pc0 := 13) (pc' := 30) rfl (hb hby d1_13) rfl (teq hc103).1 (by decide) (by decide) ?_
        show Steps p.tables e below (T101.setTop (mkF m 30 #[.val (.int p1), .val (.int (f1 p1))] [])) _
        refine XS.iconst X101.here hx rfl (hb hby d1_30) ?_
        show Steps p.tables e below (T101.setTop (mkF m 31 #[.val (.int p1), .val (.int (f1 p1))] [(.int (1 : Int32))])) _
        refine XS.goto X101.here hx rfl (pc0 := 31) (pc' := 35) rfl (hb hby d1_31) (by decide) (by decide) ?_
        exact k
      refine own_ret (Q := Q2 Z p1 h0 n0) (v := some (.int (1 : Int32))) X101 hlk (fun h => by rw [hrt] at h; cases h) (by decide) (by decide) ?_ (fun fs hr => retN X101 hx (t := .boolean) hrt (by simp) (hb hby d1_35) hr)
      rw [e101]
      exact ⟨(by first | rfl | simp only [f2, if_neg hc102, if_pos hc103]), N101, rfl⟩
    · refine Go.st (U' := T101.setTop (mkF m 20 #[.val (.int p1), .val (.int (f1 p1))] [(.int (1001 : Int32)), (.int (f1 p1))])) (fun t k => ?_) ?_
      · show Steps p.tables e below (T101.setTop (mkF m 13 #[.val (.int p1), .val (.int (f1 p1))] [(.int (1000 : Int32)), (.int (f1 p1))])) _
        refine XS.icmpNo X101.here hx rfl (hb hby d1_13) rfl (feq hc103).1 ?_
        show Steps p.tables e below (T101.setTop (mkF m 16 #[.val (.int p1), .val (.int (f1 p1))] [])) _
        refine XS.iloadN X101.here hx rfl (hb hby d1_16) rfl ?_
        show Steps p.tables e below (T101.setTop (mkF m 17 #[.val (.int p1), .val (.int (f1 p1))] [(.int (f1 p1))])) _
        refine XS.sipush X101.here hx rfl (hb hby d1_17) ?_
        exact k
      by_cases hc104 : (f1 p1) = (1001 : Int32)
      · refine Go.st (U' := T101.setTop (mkF m 35 #[.val (.int p1), .val (.int (f1 p1))] [(.int (1 : Int32))])) (fun t k => ?_) ?_
        · show Steps p.tables e below (T101.setTop (mkF m 20 #[.val (.int p1), .val (.int (f1 p1))] [(.int (1001 : Int32)), (.int (f1 p1))])) _
          refine XS.icmpYes X101.here hx rfl (pc0 := 20) (pc' := 30) rfl (hb hby d1_20) rfl (teq hc104).1 (by decide) (by decide) ?_
          show Steps p.tables e below (T101.setTop (mkF m 30 #[.val (.int p1), .val (.int (f1 p1))] [])) _
          refine XS.iconst X101.here hx rfl (hb hby d1_30) ?_
          show Steps p.tables e below (T101.setTop (mkF m 31 #[.val (.int p1), .val (.int (f1 p1))] [(.int (1 : Int32))])) _
          refine XS.goto X101.here hx rfl (pc0 := 31) (pc' := 35) rfl (hb hby d1_31) (by decide) (by decide) ?_
          exact k
        refine own_ret (Q := Q2 Z p1 h0 n0) (v := some (.int (1 : Int32))) X101 hlk (fun h => by rw [hrt] at h; cases h) (by decide) (by decide) ?_ (fun fs hr => retN X101 hx (t := .boolean) hrt (by simp) (hb hby d1_35) hr)
        rw [e101]
        exact ⟨(by first | rfl | simp only [f2, if_neg hc102, if_neg hc103, if_pos hc104]), N101, rfl⟩
      · refine Go.st (U' := T101.setTop (mkF m 27 #[.val (.int p1), .val (.int (f1 p1))] [(.int (2000 : Int32)), (.int (f1 p1))])) (fun t k => ?_) ?_
        · show Steps p.tables e below (T101.setTop (mkF m 20 #[.val (.int p1), .val (.int (f1 p1))] [(.int (1001 : Int32)), (.int (f1 p1))])) _
          refine XS.icmpNo X101.here hx rfl (hb hby d1_20) rfl (feq hc104).1 ?_
          show Steps p.tables e below (T101.setTop (mkF m 23 #[.val (.int p1), .val (.int (f1 p1))] [])) _
          refine XS.iloadN X101.here hx rfl (hb hby d1_23) rfl ?_
          show Steps p.tables e below (T101.setTop (mkF m 24 #[.val (.int p1), .val (.int (f1 p1))] [(.int (f1 p1))])) _
          refine XS.sipush X101.here hx rfl (hb hby d1_24) ?_
          exact k
        by_cases hc105 : (f1 p1) = (2000 : Int32)
        · refine Go.st (U' := T101.setTop (mkF m 35 #[.val (.int p1), .val (.int (f1 p1))] [(.int (1 : Int32))])) (fun t k => ?_) ?_
          · show Steps p.tables e below (T101.setTop (mkF m 27 #[.val (.int p1), .val (.int (f1 p1))] [(.int (2000 : Int32)), (.int (f1 p1))])) _
            refine XS.icmpNo X101.here hx rfl (hb hby d1_27) rfl (teq hc105).2 ?_
            show Steps p.tables e below (T101.setTop (mkF m 30 #[.val (.int p1), .val (.int (f1 p1))] [])) _
            refine XS.iconst X101.here hx rfl (hb hby d1_30) ?_
            show Steps p.tables e below (T101.setTop (mkF m 31 #[.val (.int p1), .val (.int (f1 p1))] [(.int (1 : Int32))])) _
            refine XS.goto X101.here hx rfl (pc0 := 31) (pc' := 35) rfl (hb hby d1_31) (by decide) (by decide) ?_
            exact k
          refine own_ret (Q := Q2 Z p1 h0 n0) (v := some (.int (1 : Int32))) X101 hlk (fun h => by rw [hrt] at h; cases h) (by decide) (by decide) ?_ (fun fs hr => retN X101 hx (t := .boolean) hrt (by simp) (hb hby d1_35) hr)
          rw [e101]
          exact ⟨(by first | rfl | simp only [f2, if_neg hc102, if_neg hc103, if_neg hc104, if_pos hc105]), N101, rfl⟩
        · refine Go.st (U' := T101.setTop (mkF m 35 #[.val (.int p1), .val (.int (f1 p1))] [(.int (0 : Int32))])) (fun t k => ?_) ?_
          · show Steps p.tables e below (T101.setTop (mkF m 27 #[.val (.int p1), .val (.int (f1 p1))] [(.int (2000 : Int32)), (.int (f1 p1))])) _
            refine XS.icmpYes X101.here hx rfl (pc0 := 27) (pc' := 34) rfl (hb hby d1_27) rfl (feq hc105).2 (by decide) (by decide) ?_
            show Steps p.tables e below (T101.setTop (mkF m 34 #[.val (.int p1), .val (.int (f1 p1))] [])) _
            refine XS.iconst X101.here hx rfl (hb hby d1_34) ?_
            exact k
          refine own_ret (Q := Q2 Z p1 h0 n0) (v := some (.int (0 : Int32))) X101 hlk (fun h => by rw [hrt] at h; cases h) (by decide) (by decide) ?_ (fun fs hr => retN X101 hx (t := .boolean) hrt (by simp) (hb hby d1_35) hr)
          rw [e101]
          exact ⟨(by first | rfl | simp only [f2, if_neg hc102, if_neg hc103, if_neg hc104, if_neg hc105]), N101, rfl⟩
theorem own_law (p0 p1 p2 v132 : Int32) (v137 : Int32) (v139 v140 v142 : Int64) (v144 v149 : Int32) (hs : (p1 &&& (7 : Int32)) = v132)
    (happ : v137 = (if v132 < (4 : Int32) then (([(0 : Int32), (1000 : Int32), (1001 : Int32), (2000 : Int32)] : List Int32).getD (v132).toNatClampNeg (0 : Int32)) else (if v132 = (4 : Int32) then (([(1 : Int32), (999 : Int32), (1002 : Int32), (1999 : Int32), (2001 : Int32), (99999 : Int32), (10000 : Int32), (3000 : Int32)] : List Int32).getD ((p2 &&& (7 : Int32))).toNatClampNeg (0 : Int32)) else ((p2 &&& (2147483647 : Int32)) % (100000 : Int32)))))
    (hus : (((p0 &&& (2147483647 : Int32)) % (21475 : Int32)).toInt64) = v139) (hu0 : ((v139 * (100000 : Int64)) + (v137.toInt64)) = v140) (hul : v142 = (if (2147483647 : Int64) < v140 then (v140 - (100000 : Int64)) else v140)) (hui : (v142.toInt32) = v144)
    (hex : v149 = (if v137 = (0 : Int32) then (1 : Int32) else (if v137 = (1000 : Int32) then (1 : Int32) else (if v137 = (1001 : Int32) then (1 : Int32) else (if v137 = (2000 : Int32) then (1 : Int32) else (0 : Int32)))))) : f2 v144 = v149 := by
  have ha : 0 ≤ v137.toInt ∧ v137.toInt ≤ 99999 := by
    have m1 := c_mask p2 2147483647 31 (by decide) (by decide)
    have m2 := (c_irem (p2 &&& 2147483647) 100000 100000 (by decide)).1 (by omega)
    rw [happ]
    split
    · exact own_getP (P := fun z => 0 ≤ z.toInt ∧ z.toInt ≤ 99999) (by decide) _ (by decide) _
    · split
      · exact own_getP (P := fun z => 0 ≤ z.toInt ∧ z.toInt ≤ 99999) (by decide) _ (by decide) _
      · omega
  have m3 := c_mask p0 2147483647 31 (by decide) (by decide)
  have m4 := (c_irem (p0 &&& 2147483647) 21475 21475 (by decide)).1 (by omega)
  have m5 := c_i2l ((p0 &&& 2147483647) % 21475)
  rw [hus, m4] at m5
  have m6 := c_lmul v139 100000
  have m7 := c_i2l v137
  have m8 := c_ladd (v139 * 100000) v137.toInt64
  have m9 := c_lsub v140 100000
  have m10 := c_l2i v142
  have r1 := rng64 (v139 * 100000)
  have r2 := rng64 v140
  have r3 := rng64 (v140 - 100000)
  have r4 := rng32 v144
  have m5' : 0 ≤ v139.toInt ∧ v139.toInt ≤ 21474 := by omega
  have d1 : (100000 : Int64).toInt = 100000 := rfl
  rw [d1] at m6 m9
  rw [hu0] at m8
  rw [hui] at m10
  have e1 : (v139 * 100000).toInt = v139.toInt * 100000 := by omega
  have e2 : v140.toInt = v139.toInt * 100000 + v137.toInt := by omega
  have e3 : (v140 - 100000).toInt = v140.toInt - 100000 := by omega
  clear m6 m8 m9 r1 r2 r3
  have hid : 0 ≤ v144.toInt ∧ v144.toInt % 100000 = v137.toInt := by
    rw [hul] at m10
    have d2 : (2147483647 : Int64).toInt = 2147483647 := rfl
    split at m10
    · rename_i g
      rw [Int64.lt_iff_toInt_lt, d2] at g
      have u1 : v144.toInt = 100000 * (v139.toInt - 1) + v137.toInt := by omega
      clear m10 m3 m4 m5
      omega
    · rename_i g
      rw [Int64.lt_iff_toInt_lt, d2] at g
      have u1 : v144.toInt = 100000 * v139.toInt + v137.toInt := by omega
      clear m10 m3 m4
      omega
  have m11 := (c_irem v144 100000 100000 (by decide)).1 hid.1
  have m12 : v144 % 100000 = v137 := Int32.toInt_inj.mp (by rw [m11]; exact hid.2)
  rw [hex]
  simp only [f2, f1, m12]
theorem pd_1 : parseMethodDescriptor "(I)Z" = some ⟨[.int], some .boolean⟩ := by decide +kernel
theorem pn_1 : plainName "com/example/quiesce/quiesce/model/UidsIsCoreProcessPinLaw" = true := by first | (simp [plainName, overriddenIn]; done) | decide +kernel
theorem ef0 (m : MethodId) (p0 : Int32) (p1 : Int32) (p2 : Int32) : entryFrame m #[(.int p0), (.int p1), (.int p2)] maxLocals = mkF m 0 #[.val (.int p0), .val (.int p1), .val (.int p2), .unset, .unset, .unset, .unset, .unset, .unset, .unset, .unset, .unset, .unset] [] := by first | (simp [entryFrame, mkF, argsToLocals, Value.category, maxLocals]; done) | rfl
def Q0 (Z : State) (p0 : Int32) (p1 : Int32) (p2 : Int32) (h0 : Heap) (n0 : Nat) (v : Option Value) (h : Heap) (L : List Loc) : Prop := v = some (.int 1) ∧ Fr n0 L
set_option maxRecDepth 65536 in
set_option maxHeartbeats 40000000 in
theorem rm0 (l : Launch) (Z : State) (a0 : Array Value) (hw : ∀ d ∈ tables_1, d.before a0 Z = true) (ws : List Jvm.Cond) (p0 : Int32) (p1 : Int32) (p2 : Int32) (h0 : Heap) (n0 : Nat) (Z0 : n0 ≤ h0.size) :
    MetFree l x (head1 (Jvm.Cond.code x code maxLocals ret :: ws) room_1) (fun a U => a = #[(.int p0), (.int p1), (.int p2)] ∧ Z.Warmed39 U.vm ∧ U.heap = h0) (fun _ _ _ _ _ => True) (fun _ U o U' => ∃ v L, o = .returned v ∧ Q0 Z p0 p1 p2 h0 n0 v U'.heap L ∧ FrameEnd U o U' L 16 128) := by
  refine MetFree.of_bodySF (plainFor_of_name pn_1) hisR ?_
  intro p e s m args below meth c s₁ Bd hml0 hP hK
  obtain ⟨rfl, hZ, hh⟩ := hP
  have hx := Bd.exec
  have hby := Bd.bytes
  have hml : c.maxLocals = 13 := hml0
  have hown : s.vm.findClass "com/example/quiesce/quiesce/model/UidsIsCoreProcessPinLaw" = some m.cls := findClass_of_methodNamed Bd.named
  have hnm := (name_of_methodNamed Bd.named Bd.method).1
  have hlk : meth.locks = false := BodyLoose.notSynchronized Bd
  have hrt := Bd.returns
  have X0 : Stand p l e room_1 s m #[(.int p0), (.int p1), (.int p2)] below meth c s₁ [] 0 0 := Stand.of_body Bd
  have e0 : s₁.heap = h0 := by rw [← hh, Bd.state]; rfl
  have N0 := Fr.nil n0
  refine (show Go p e below (fun s₂ o => ∃ v L, o = .returned v ∧ Q0 Z p0 p1 p2 h0 n0 v s₂.heap L ∧ FrameEnd s o s₂ L 16 128) (s₁.setTop (entryFrame m #[(.int p0), (.int p1), (.int p2)] maxLocals)) from ?_)
  rw [ef0]
  refine Go.st (U' := s₁.setTop (mkF m 1 #[.val (.int p0), .val (.int p1), .val (.int p2), .unset, .unset, .unset, .unset, .unset, .unset, .unset, .unset, .unset, .unset] [(.int (4 : Int32))])) (fun t k => ?_) ?_
  · show Steps p.tables e below (s₁.setTop (mkF m 0 #[.val (.int p0), .val (.int p1), .val (.int p2), .unset, .unset, .unset, .unset, .unset, .unset, .unset, .unset, .unset, .unset] [])) _
    refine XS.iconst X0.here hx rfl (hb hby at_0) ?_
    exact k
  obtain ⟨T106, h106, k106, X106, e106, E106, A106, st106⟩ := newP X0 hx hZ (own_w hw 0 rfl) e0 (g := (mkF m 1 #[.val (.int p0), .val (.int p1), .val (.int p2), .unset, .unset, .unset, .unset, .unset, .unset, .unset, .unset, .unset, .unset] [(.int (4 : Int32))])) rfl (hb hby at_1) rfl (by decide) (cap := 4) (by decide) (by decide) (by decide) (by decide)
  obtain ⟨b106, g106⟩ : ∃ z, z = h0.size := ⟨_, rfl⟩
  rw [← g106] at A106 st106
  have ge_b106 : n0 ≤ b106 := Nat.le_trans Z0 (Nat.le_of_eq g106.symm)
  have V_b106 : Arv Z h106 b106 k106 .int (4 : Int32) [(.int (0 : Int32)), (.int (0 : Int32)), (.int (0 : Int32)), (.int (0 : Int32))] (.int (0 : Int32)) := (Arv.new A106 (by decide)).pad (pad_rep [] (.int (0 : Int32)) 4)
  have sz106 : n0 ≤ h106.size := Nat.le_trans Z0 E106.1
  refine Go.st (U' := T106.setTop (mkF m 3 #[.val (.int p0), .val (.int p1), .val (.int p2), .unset, .unset, .unset, .unset, .unset, .unset, .unset, .unset, .unset, .unset] [(.ref b106)])) (fun t k => st106 _ k) ?_
  refine Go.st (U' := T106.setTop (mkF m 6 #[.val (.int p0), .val (.int p1), .val (.int p2), .unset, .unset, .unset, .unset, .unset, .unset, .unset, .unset, .unset, .unset] [(.int (0 : Int32)), (.int (0 : Int32)), (.ref b106), (.ref b106)])) (fun t k => ?_) ?_
  · show Steps p.tables e below (T106.setTop (mkF m 3 #[.val (.int p0), .val (.int p1), .val (.int p2), .unset, .unset, .unset, .unset, .unset, .unset, .unset, .unset, .unset, .unset] [(.ref b106)])) _
    refine XS.dup X106.here hx rfl (hb hby at_3) rfl rfl ?_
    show Steps p.tables e below (T106.setTop (mkF m 4 #[.val (.int p0), .val (.int p1), .val (.int p2), .unset, .unset, .unset, .unset, .unset, .unset, .unset, .unset, .unset, .unset] [(.ref b106), (.ref b106)])) _
    refine XS.iconst X106.here hx rfl (hb hby at_4) ?_
    show Steps p.tables e below (T106.setTop (mkF m 5 #[.val (.int p0), .val (.int p1), .val (.int p2), .unset, .unset, .unset, .unset, .unset, .unset, .unset, .unset, .unset, .unset] [(.int (0 : Int32)), (.ref b106), (.ref b106)])) _
    refine XS.iconst X106.here hx rfl (hb hby at_5) ?_
    exact k
  obtain ⟨cl108, Ar108, q108, S108, N108, H108, G108⟩ := id V_b106
  obtain ⟨T107, h107, X107, e107, W107, st107⟩ := stI X106 hx hZ e106 Ar108 (j := (0 : Int32)) (inb_of (j := (0 : Int32)) S108 ⟨by decide, by decide⟩) (g := (mkF m 6 #[.val (.int p0), .val (.int p1), .val (.int p2), .unset, .unset, .unset, .unset, .unset, .unset, .unset, .unset, .unset, .unset] [(.int (0 : Int32)), (.int (0 : Int32)), (.ref b106), (.ref b106)])) rfl rfl (hb hby at_6)
  have V_b106_107 := Arv.set Ar108 q108 S108 N108 H108 G108 rfl W107 0 rfl (Nat.le_of_ble_eq_true rfl)
  have N107 := Fr.snoc X107 N0 ge_b106
  have sz107 : n0 ≤ h107.size := Nat.le_trans sz106 (Nat.le_of_eq W107.size.symm)
  refine Go.st (U' := T107.setTop (mkF m 7 #[.val (.int p0), .val (.int p1), .val (.int p2), .unset, .unset, .unset, .unset, .unset, .unset, .unset, .unset, .unset, .unset] [(.ref b106)])) (fun t k => st107 _ k) ?_
  refine Go.st (U' := T107.setTop (mkF m 12 #[.val (.int p0), .val (.int p1), .val (.int p2), .unset, .unset, .unset, .unset, .unset, .unset, .unset, .unset, .unset, .unset] [(.int (1000 : Int32)), (.int (1 : Int32)), (.ref b106), (.ref b106)])) (fun t k => ?_) ?_
  · show Steps p.tables e below (T107.setTop (mkF m 7 #[.val (.int p0), .val (.int p1), .val (.int p2), .unset, .unset, .unset, .unset, .unset, .unset, .unset, .unset, .unset, .unset] [(.ref b106)])) _
    refine XS.dup X107.here hx rfl (hb hby at_7) rfl rfl ?_
    show Steps p.tables e below (T107.setTop (mkF m 8 #[.val (.int p0), .val (.int p1), .val (.int p2), .unset, .unset, .unset, .unset, .unset, .unset, .unset, .unset, .unset, .unset] [(.ref b106), (.ref b106)])) _
    refine XS.iconst X107.here hx rfl (hb hby at_8) ?_
    show Steps p.tables e below (T107.setTop (mkF m 9 #[.val (.int p0), .val (.int p1), .val (.int p2), .unset, .unset, .unset, .unset, .unset, .unset, .unset, .unset, .unset, .unset] [(.int (1 : Int32)), (.ref b106), (.ref b106)])) _
    refine XS.sipush X107.here hx rfl (hb hby at_9) ?_
    exact k
  obtain ⟨cl110, Ar110, q110, S110, N110, H110, G110⟩ := id V_b106_107
  obtain ⟨T109, h109, X109, e109, W109, st109⟩ := stI X107 hx hZ e107 Ar110 (j := (1 : Int32)) (inb_of (j := (1 : Int32)) S110 ⟨by decide, by decide⟩) (g := (mkF m 12 #[.val (.int p0), .val (.int p1), .val (.int p2), .unset, .unset, .unset, .unset, .unset, .unset, .unset, .unset, .unset, .unset] [(.int (1000 : Int32)), (.int (1 : Int32)), (.ref b106), (.ref b106)])) rfl rfl (hb hby at_12)
  have V_b106_109 := Arv.set Ar110 q110 S110 N110 H110 G110 rfl W109 1 rfl (Nat.le_of_ble_eq_true rfl)
  have N109 := Fr.snoc X109 N107 ge_b106
  have sz109 : n0 ≤ h109.size := Nat.le_trans sz107 (Nat.le_of_eq W109.size.symm)
  refine Go.st (U' := T109.setTop (mkF m 13 #[.val (.int p0), .val (.int p1), .val (.int p2), .unset, .unset, .unset, .unset, .unset, .unset, .unset, .unset, .unset, .unset] [(.ref b106)])) (fun t k => st109 _ k) ?_
  refine Go.st (U' := T109.setTop (mkF m 18 #[.val (.int p0), .val (.int p1), .val (.int p2), .unset, .unset, .unset, .unset, .unset, .unset, .unset, .unset, .unset, .unset] [(.int (1001 : Int32)), (.int (2 : Int32)), (.ref b106), (.ref b106)])) (fun t k => ?_) ?_
  · show Steps p.tables e below (T109.setTop (mkF m 13 #[.val (.int p0), .val (.int p1), .val (.int p2), .unset, .unset, .unset, .unset, .unset, .unset, .unset, .unset, .unset, .unset] [(.ref b106)])) _
    refine XS.dup X109.here hx rfl (hb hby at_13) rfl rfl ?_
    show Steps p.tables e below (T109.setTop (mkF m 14 #[.val (.int p0), .val (.int p1), .val (.int p2), .unset, .unset, .unset, .unset, .unset, .unset, .unset, .unset, .unset, .unset] [(.ref b106), (.ref b106)])) _
    refine XS.iconst X109.here hx rfl (hb hby at_14) ?_
    show Steps p.tables e below (T109.setTop (mkF m 15 #[.val (.int p0), .val (.int p1), .val (.int p2), .unset, .unset, .unset, .unset, .unset, .unset, .unset, .unset, .unset, .unset] [(.int (2 : Int32)), (.ref b106), (.ref b106)])) _
    refine XS.sipush X109.here hx rfl (hb hby at_15) ?_
    exact k
  obtain ⟨cl112, Ar112, q112, S112, N112, H112, G112⟩ := id V_b106_109
  obtain ⟨T111, h111, X111, e111, W111, st111⟩ := stI X109 hx hZ e109 Ar112 (j := (2 : Int32)) (inb_of (j := (2 : Int32)) S112 ⟨by decide, by decide⟩) (g := (mkF m 18 #[.val (.int p0), .val (.int p1), .val (.int p2), .unset, .unset, .unset, .unset, .unset, .unset, .unset, .unset, .unset, .unset] [(.int (1001 : Int32)), (.int (2 : Int32)), (.ref b106), (.ref b106)])) rfl rfl (hb hby at_18)
  have V_b106_111 := Arv.set Ar112 q112 S112 N112 H112 G112 rfl W111 2 rfl (Nat.le_of_ble_eq_true rfl)
  have N111 := Fr.snoc X111 N109 ge_b106
  have sz111 : n0 ≤ h111.size := Nat.le_trans sz109 (Nat.le_of_eq W111.size.symm)
  refine Go.st (U' := T111.setTop (mkF m 19 #[.val (.int p0), .val (.int p1), .val (.int p2), .unset, .unset, .unset, .unset, .unset, .unset, .unset, .unset, .unset, .unset] [(.ref b106)])) (fun t k => st111 _ k) ?_
  refine Go.st (U' := T111.setTop (mkF m 24 #[.val (.int p0), .val (.int p1), .val (.int p2), .unset, .unset, .unset, .unset, .unset, .unset, .unset, .unset, .unset, .unset] [(.int (2000 : Int32)), (.int (3 : Int32)), (.ref b106), (.ref b106)])) (fun t k => ?_) ?_
  · show Steps p.tables e below (T111.setTop (mkF m 19 #[.val (.int p0), .val (.int p1), .val (.int p2), .unset, .unset, .unset, .unset, .unset, .unset, .unset, .unset, .unset, .unset] [(.ref b106)])) _
    refine XS.dup X111.here hx rfl (hb hby at_19) rfl rfl ?_
    show Steps p.tables e below (T111.setTop (mkF m 20 #[.val (.int p0), .val (.int p1), .val (.int p2), .unset, .unset, .unset, .unset, .unset, .unset, .unset, .unset, .unset, .unset] [(.ref b106), (.ref b106)])) _
    refine XS.iconst X111.here hx rfl (hb hby at_20) ?_
    show Steps p.tables e below (T111.setTop (mkF m 21 #[.val (.int p0), .val (.int p1), .val (.int p2), .unset, .unset, .unset, .unset, .unset, .unset, .unset, .unset, .unset, .unset] [(.int (3 : Int32)), (.ref b106), (.ref b106)])) _
    refine XS.sipush X111.here hx rfl (hb hby at_21) ?_
    exact k
  obtain ⟨cl114, Ar114, q114, S114, N114, H114, G114⟩ := id V_b106_111
  obtain ⟨T113, h113, X113, e113, W113, st113⟩ := stI X111 hx hZ e111 Ar114 (j := (3 : Int32)) (inb_of (j := (3 : Int32)) S114 ⟨by decide, by decide⟩) (g := (mkF m 24 #[.val (.int p0), .val (.int p1), .val (.int p2), .unset, .unset, .unset, .unset, .unset, .unset, .unset, .unset, .unset, .unset] [(.int (2000 : Int32)), (.int (3 : Int32)), (.ref b106), (.ref b106)])) rfl rfl (hb hby at_24)
  have V_b106_113 := Arv.set Ar114 q114 S114 N114 H114 G114 rfl W113 3 rfl (Nat.le_of_ble_eq_true rfl)
  have N113 := Fr.snoc X113 N111 ge_b106
  have sz113 : n0 ≤ h113.size := Nat.le_trans sz111 (Nat.le_of_eq W113.size.symm)
  refine Go.st (U' := T113.setTop (mkF m 25 #[.val (.int p0), .val (.int p1), .val (.int p2), .unset, .unset, .unset, .unset, .unset, .unset, .unset, .unset, .unset, .unset] [(.ref b106)])) (fun t k => st113 _ k) ?_
  refine Go.st (U' := T113.setTop (mkF m 28 #[.val (.int p0), .val (.int p1), .val (.int p2), .val (.ref b106), .unset, .unset, .unset, .unset, .unset, .unset, .unset, .unset, .unset] [(.int (8 : Int32))])) (fun t k => ?_) ?_
  · show Steps p.tables e below (T113.setTop (mkF m 25 #[.val (.int p0), .val (.int p1), .val (.int p2), .unset, .unset, .unset, .unset, .unset, .unset, .unset, .unset, .unset, .unset] [(.ref b106)])) _
    refine XS.astoreN X113.here hx rfl (hb hby at_25) rfl rfl (l' := #[.val (.int p0), .val (.int p1), .val (.int p2), .val (.ref b106), .unset, .unset, .unset, .unset, .unset, .unset, .unset, .unset, .unset]) rfl ?_
    show Steps p.tables e below (T113.setTop (mkF m 26 #[.val (.int p0), .val (.int p1), .val (.int p2), .val (.ref b106), .unset, .unset, .unset, .unset, .unset, .unset, .unset, .unset, .unset] [])) _
    refine XS.bipush X113.here hx rfl (hb hby at_26) ?_
    exact k
  obtain ⟨T115, h115, k115, X115, e115, E115, A115, st115⟩ := newP X113 hx hZ (own_w hw 0 rfl) e113 (g := (mkF m 28 #[.val (.int p0), .val (.int p1), .val (.int p2), .val (.ref b106), .unset, .unset, .unset, .unset, .unset, .unset, .unset, .unset, .unset] [(.int (8 : Int32))])) rfl (hb hby at_28) rfl (by decide) (cap := 8) (by decide) (by decide) (by decide) (by decide)
  obtain ⟨b115, g115⟩ : ∃ z, z = h113.size := ⟨_, rfl⟩
  rw [← g115] at A115 st115
  have ne_b106_b115 : b106 ≠ b115 := Nat.ne_of_lt (Nat.lt_of_lt_of_le V_b106_113.lt (Nat.le_of_eq g115.symm))
  have ge_b115 : n0 ≤ b115 := Nat.le_trans sz113 (Nat.le_of_eq g115.symm)
  have V_b106_115 := V_b106_113.ext E115
  have V_b115 : Arv Z h115 b115 k115 .int (8 : Int32) [(.int (0 : Int32)), (.int (0 : Int32)), (.int (0 : Int32)), (.int (0 : Int32)), (.int (0 : Int32)), (.int (0 : Int32)), (.int (0 : Int32)), (.int (0 : Int32))] (.int (0 : Int32)) := (Arv.new A115 (by decide)).pad (pad_rep [] (.int (0 : Int32)) 8)
  have sz115 : n0 ≤ h115.size := Nat.le_trans sz113 E115.1
  refine Go.st (U' := T115.setTop (mkF m 30 #[.val (.int p0), .val (.int p1), .val (.int p2), .val (.ref b106), .unset, .unset, .unset, .unset, .unset, .unset, .unset, .unset, .unset] [(.ref b115)])) (fun t k => st115 _ k) ?_
  refine Go.st (U' := T115.setTop (mkF m 33 #[.val (.int p0), .val (.int p1), .val (.int p2), .val (.ref b106), .unset, .unset, .unset, .unset, .unset, .unset, .unset, .unset, .unset] [(.int (1 : Int32)), (.int (0 : Int32)), (.ref b115), (.ref b115)])) (fun t k => ?_) ?_
  · show Steps p.tables e below (T115.setTop (mkF m 30 #[.val (.int p0), .val (.int p1), .val (.int p2), .val (.ref b106), .unset, .unset, .unset, .unset, .unset, .unset, .unset, .unset, .unset] [(.ref b115)])) _
    refine XS.dup X115.here hx rfl (hb hby at_30) rfl rfl ?_
    show Steps p.tables e below (T115.setTop (mkF m 31 #[.val (.int p0), .val (.int p1), .val (.int p2), .val (.ref b106), .unset, .unset, .unset, .unset, .unset, .unset, .unset, .unset, .unset] [(.ref b115), (.ref b115)])) _
    refine XS.iconst X115.here hx rfl (hb hby at_31) ?_
    show Steps p.tables e below (T115.setTop (mkF m 32 #[.val (.int p0), .val (.int p1), .val (.int p2), .val (.ref b106), .unset, .unset, .unset, .unset, .unset, .unset, .unset, .unset, .unset] [(.int (0 : Int32)), (.ref b115), (.ref b115)])) _
    refine XS.iconst X115.here hx rfl (hb hby at_32) ?_
    exact k
  obtain ⟨cl117, Ar117, q117, S117, N117, H117, G117⟩ := id V_b115
  obtain ⟨T116, h116, X116, e116, W116, st116⟩ := stI X115 hx hZ e115 Ar117 (j := (0 : Int32)) (inb_of (j := (0 : Int32)) S117 ⟨by decide, by decide⟩) (g := (mkF m 33 #[.val (.int p0), .val (.int p1), .val (.int p2), .val (.ref b106), .unset, .unset, .unset, .unset, .unset, .unset, .unset, .unset, .unset] [(.int (1 : Int32)), (.int (0 : Int32)), (.ref b115), (.ref b115)])) rfl rfl (hb hby at_33)
  have V_b115_116 := Arv.set Ar117 q117 S117 N117 H117 G117 rfl W116 0 rfl (Nat.le_of_ble_eq_true rfl)
  have V_b106_116 := V_b106_115.other W116 ne_b106_b115
  have N116 := Fr.snoc X116 N113 ge_b115
  have sz116 : n0 ≤ h116.size := Nat.le_trans sz115 (Nat.le_of_eq W116.size.symm)
  refine Go.st (U' := T116.setTop (mkF m 34 #[.val (.int p0), .val (.int p1), .val (.int p2), .val (.ref b106), .unset, .unset, .unset, .unset, .unset, .unset, .unset, .unset, .unset] [(.ref b115)])) (fun t k => st116 _ k) ?_
  refine Go.st (U' := T116.setTop (mkF m 39 #[.val (.int p0), .val (.int p1), .val (.int p2), .val (.ref b106), .unset, .unset, .unset, .unset, .unset, .unset, .unset, .unset, .unset] [(.int (999 : Int32)), (.int (1 : Int32)), (.ref b115), (.ref b115)])) (fun t k => ?_) ?_
  · show Steps p.tables e below (T116.setTop (mkF m 34 #[.val (.int p0), .val (.int p1), .val (.int p2), .val (.ref b106), .unset, .unset, .unset, .unset, .unset, .unset, .unset, .unset, .unset] [(.ref b115)])) _
    refine XS.dup X116.here hx rfl (hb hby at_34) rfl rfl ?_
    show Steps p.tables e below (T116.setTop (mkF m 35 #[.val (.int p0), .val (.int p1), .val (.int p2), .val (.ref b106), .unset, .unset, .unset, .unset, .unset, .unset, .unset, .unset, .unset] [(.ref b115), (.ref b115)])) _
    refine XS.iconst X116.here hx rfl (hb hby at_35) ?_
    show Steps p.tables e below (T116.setTop (mkF m 36 #[.val (.int p0), .val (.int p1), .val (.int p2), .val (.ref b106), .unset, .unset, .unset, .unset, .unset, .unset, .unset, .unset, .unset] [(.int (1 : Int32)), (.ref b115), (.ref b115)])) _
    refine XS.sipush X116.here hx rfl (hb hby at_36) ?_
    exact k
  obtain ⟨cl119, Ar119, q119, S119, N119, H119, G119⟩ := id V_b115_116
  obtain ⟨T118, h118, X118, e118, W118, st118⟩ := stI X116 hx hZ e116 Ar119 (j := (1 : Int32)) (inb_of (j := (1 : Int32)) S119 ⟨by decide, by decide⟩) (g := (mkF m 39 #[.val (.int p0), .val (.int p1), .val (.int p2), .val (.ref b106), .unset, .unset, .unset, .unset, .unset, .unset, .unset, .unset, .unset] [(.int (999 : Int32)), (.int (1 : Int32)), (.ref b115), (.ref b115)])) rfl rfl (hb hby at_39)
  have V_b115_118 := Arv.set Ar119 q119 S119 N119 H119 G119 rfl W118 1 rfl (Nat.le_of_ble_eq_true rfl)
  have V_b106_118 := V_b106_116.other W118 ne_b106_b115
  have N118 := Fr.snoc X118 N116 ge_b115
  have sz118 : n0 ≤ h118.size := Nat.le_trans sz116 (Nat.le_of_eq W118.size.symm)
  refine Go.st (U' := T118.setTop (mkF m 40 #[.val (.int p0), .val (.int p1), .val (.int p2), .val (.ref b106), .unset, .unset, .unset, .unset, .unset, .unset, .unset, .unset, .unset] [(.ref b115)])) (fun t k => st118 _ k) ?_
  refine Go.st (U' := T118.setTop (mkF m 45 #[.val (.int p0), .val (.int p1), .val (.int p2), .val (.ref b106), .unset, .unset, .unset, .unset, .unset, .unset, .unset, .unset, .unset] [(.int (1002 : Int32)), (.int (2 : Int32)), (.ref b115), (.ref b115)])) (fun t k => ?_) ?_
  · show Steps p.tables e below (T118.setTop (mkF m 40 #[.val (.int p0), .val (.int p1), .val (.int p2), .val (.ref b106), .unset, .unset, .unset, .unset, .unset, .unset, .unset, .unset, .unset] [(.ref b115)])) _
    refine XS.dup X118.here hx rfl (hb hby at_40) rfl rfl ?_
    show Steps p.tables e below (T118.setTop (mkF m 41 #[.val (.int p0), .val (.int p1), .val (.int p2), .val (.ref b106), .unset, .unset, .unset, .unset, .unset, .unset, .unset, .unset, .unset] [(.ref b115), (.ref b115)])) _
    refine XS.iconst X118.here hx rfl (hb hby at_41) ?_
    show Steps p.tables e below (T118.setTop (mkF m 42 #[.val (.int p0), .val (.int p1), .val (.int p2), .val (.ref b106), .unset, .unset, .unset, .unset, .unset, .unset, .unset, .unset, .unset] [(.int (2 : Int32)), (.ref b115), (.ref b115)])) _
    refine XS.sipush X118.here hx rfl (hb hby at_42) ?_
    exact k
  obtain ⟨cl121, Ar121, q121, S121, N121, H121, G121⟩ := id V_b115_118
  obtain ⟨T120, h120, X120, e120, W120, st120⟩ := stI X118 hx hZ e118 Ar121 (j := (2 : Int32)) (inb_of (j := (2 : Int32)) S121 ⟨by decide, by decide⟩) (g := (mkF m 45 #[.val (.int p0), .val (.int p1), .val (.int p2), .val (.ref b106), .unset, .unset, .unset, .unset, .unset, .unset, .unset, .unset, .unset] [(.int (1002 : Int32)), (.int (2 : Int32)), (.ref b115), (.ref b115)])) rfl rfl (hb hby at_45)
  have V_b115_120 := Arv.set Ar121 q121 S121 N121 H121 G121 rfl W120 2 rfl (Nat.le_of_ble_eq_true rfl)
  have V_b106_120 := V_b106_118.other W120 ne_b106_b115
  have N120 := Fr.snoc X120 N118 ge_b115
  have sz120 : n0 ≤ h120.size := Nat.le_trans sz118 (Nat.le_of_eq W120.size.symm)
  refine Go.st (U' := T120.setTop (mkF m 46 #[.val (.int p0), .val (.int p1), .val (.int p2), .val (.ref b106), .unset, .unset, .unset, .unset, .unset, .unset, .unset, .unset, .unset] [(.ref b115)])) (fun t k => st120 _ k) ?_
  refine Go.st (U' := T120.setTop (mkF m 51 #[.val (.int p0), .val (.int p1), .val (.int p2), .val (.ref b106), .unset, .unset, .unset, .unset, .unset, .unset, .unset, .unset, .unset] [(.int (1999 : Int32)), (.int (3 : Int32)), (.ref b115), (.ref b115)])) (fun t k => ?_) ?_
  · show Steps p.tables e below (T120.setTop (mkF m 46 #[.val (.int p0), .val (.int p1), .val (.int p2), .val (.ref b106), .unset, .unset, .unset, .unset, .unset, .unset, .unset, .unset, .unset] [(.ref b115)])) _
    refine XS.dup X120.here hx rfl (hb hby at_46) rfl rfl ?_
    show Steps p.tables e below (T120.setTop (mkF m 47 #[.val (.int p0), .val (.int p1), .val (.int p2), .val (.ref b106), .unset, .unset, .unset, .unset, .unset, .unset, .unset, .unset, .unset] [(.ref b115), (.ref b115)])) _
    refine XS.iconst X120.here hx rfl (hb hby at_47) ?_
    show Steps p.tables e below (T120.setTop (mkF m 48 #[.val (.int p0), .val (.int p1), .val (.int p2), .val (.ref b106), .unset, .unset, .unset, .unset, .unset, .unset, .unset, .unset, .unset] [(.int (3 : Int32)), (.ref b115), (.ref b115)])) _
    refine XS.sipush X120.here hx rfl (hb hby at_48) ?_
    exact k
  obtain ⟨cl123, Ar123, q123, S123, N123, H123, G123⟩ := id V_b115_120
  obtain ⟨T122, h122, X122, e122, W122, st122⟩ := stI X120 hx hZ e120 Ar123 (j := (3 : Int32)) (inb_of (j := (3 : Int32)) S123 ⟨by decide, by decide⟩) (g := (mkF m 51 #[.val (.int p0), .val (.int p1), .val (.int p2), .val (.ref b106), .unset, .unset, .unset, .unset, .unset, .unset, .unset, .unset, .unset] [(.int (1999 : Int32)), (.int (3 : Int32)), (.ref b115), (.ref b115)])) rfl rfl (hb hby at_51)
  have V_b115_122 := Arv.set Ar123 q123 S123 N123 H123 G123 rfl W122 3 rfl (Nat.le_of_ble_eq_true rfl)
  have V_b106_122 := V_b106_120.other W122 ne_b106_b115
  have N122 := Fr.snoc X122 N120 ge_b115
  have sz122 : n0 ≤ h122.size := Nat.le_trans sz120 (Nat.le_of_eq W122.size.symm)
  refine Go.st (U' := T122.setTop (mkF m 52 #[.val (.int p0), .val (.int p1), .val (.int p2), .val (.ref b106), .unset, .unset, .unset, .unset, .unset, .unset, .unset, .unset, .unset] [(.ref b115)])) (fun t k => st122 _ k) ?_
  refine Go.st (U' := T122.setTop (mkF m 57 #[.val (.int p0), .val (.int p1), .val (.int p2), .val (.ref b106), .unset, .unset, .unset, .unset, .unset, .unset, .unset, .unset, .unset] [(.int (2001 : Int32)), (.int (4 : Int32)), (.ref b115), (.ref b115)])) (fun t k => ?_) ?_
  · show Steps p.tables e below (T122.setTop (mkF m 52 #[.val (.int p0), .val (.int p1), .val (.int p2), .val (.ref b106), .unset, .unset, .unset, .unset, .unset, .unset, .unset, .unset, .unset] [(.ref b115)])) _
    refine XS.dup X122.here hx rfl (hb hby at_52) rfl rfl ?_
    show Steps p.tables e below (T122.setTop (mkF m 53 #[.val (.int p0), .val (.int p1), .val (.int p2), .val (.ref b106), .unset, .unset, .unset, .unset, .unset, .unset, .unset, .unset, .unset] [(.ref b115), (.ref b115)])) _
    refine XS.iconst X122.here hx rfl (hb hby at_53) ?_
    show Steps p.tables e below (T122.setTop (mkF m 54 #[.val (.int p0), .val (.int p1), .val (.int p2), .val (.ref b106), .unset, .unset, .unset, .unset, .unset, .unset, .unset, .unset, .unset] [(.int (4 : Int32)), (.ref b115), (.ref b115)])) _
    refine XS.sipush X122.here hx rfl (hb hby at_54) ?_
    exact k
  obtain ⟨cl125, Ar125, q125, S125, N125, H125, G125⟩ := id V_b115_122
  obtain ⟨T124, h124, X124, e124, W124, st124⟩ := stI X122 hx hZ e122 Ar125 (j := (4 : Int32)) (inb_of (j := (4 : Int32)) S125 ⟨by decide, by decide⟩) (g := (mkF m 57 #[.val (.int p0), .val (.int p1), .val (.int p2), .val (.ref b106), .unset, .unset, .unset, .unset, .unset, .unset, .unset, .unset, .unset] [(.int (2001 : Int32)), (.int (4 : Int32)), (.ref b115), (.ref b115)])) rfl rfl (hb hby at_57)
  have V_b115_124 := Arv.set Ar125 q125 S125 N125 H125 G125 rfl W124 4 rfl (Nat.le_of_ble_eq_true rfl)
  have V_b106_124 := V_b106_122.other W124 ne_b106_b115
  have N124 := Fr.snoc X124 N122 ge_b115
  have sz124 : n0 ≤ h124.size := Nat.le_trans sz122 (Nat.le_of_eq W124.size.symm)
  refine Go.st (U' := T124.setTop (mkF m 58 #[.val (.int p0), .val (.int p1), .val (.int p2), .val (.ref b106), .unset, .unset, .unset, .unset, .unset, .unset, .unset, .unset, .unset] [(.ref b115)])) (fun t k => st124 _ k) ?_
  refine Go.st (U' := T124.setTop (mkF m 62 #[.val (.int p0), .val (.int p1), .val (.int p2), .val (.ref b106), .unset, .unset, .unset, .unset, .unset, .unset, .unset, .unset, .unset] [(.int (99999 : Int32)), (.int (5 : Int32)), (.ref b115), (.ref b115)])) (fun t k => ?_) ?_
  · show Steps p.tables e below (T124.setTop (mkF m 58 #[.val (.int p0), .val (.int p1), .val (.int p2), .val (.ref b106), .unset, .unset, .unset, .unset, .unset, .unset, .unset, .unset, .unset] [(.ref b115)])) _
    refine XS.dup X124.here hx rfl (hb hby at_58) rfl rfl ?_
    show Steps p.tables e below (T124.setTop (mkF m 59 #[.val (.int p0), .val (.int p1), .val (.int p2), .val (.ref b106), .unset, .unset, .unset, .unset, .unset, .unset, .unset, .unset, .unset] [(.ref b115), (.ref b115)])) _
    refine XS.iconst X124.here hx rfl (hb hby at_59) ?_
    show Steps p.tables e below (T124.setTop (mkF m 60 #[.val (.int p0), .val (.int p1), .val (.int p2), .val (.ref b106), .unset, .unset, .unset, .unset, .unset, .unset, .unset, .unset, .unset] [(.int (5 : Int32)), (.ref b115), (.ref b115)])) _
    refine X124.ldcInt hx hown (mvT hZ (own_w hw 1 rfl)) (g := (mkF m 60 #[.val (.int p0), .val (.int p1), .val (.int p2), .val (.ref b106), .unset, .unset, .unset, .unset, .unset, .unset, .unset, .unset, .unset] [(.int (5 : Int32)), (.ref b115), (.ref b115)])) rfl (hb hby at_60) _ ?_
    exact k
  obtain ⟨cl127, Ar127, q127, S127, N127, H127, G127⟩ := id V_b115_124
  obtain ⟨T126, h126, X126, e126, W126, st126⟩ := stI X124 hx hZ e124 Ar127 (j := (5 : Int32)) (inb_of (j := (5 : Int32)) S127 ⟨by decide, by decide⟩) (g := (mkF m 62 #[.val (.int p0), .val (.int p1), .val (.int p2), .val (.ref b106), .unset, .unset, .unset, .unset, .unset, .unset, .unset, .unset, .unset] [(.int (99999 : Int32)), (.int (5 : Int32)), (.ref b115), (.ref b115)])) rfl rfl (hb hby at_62)
  have V_b115_126 := Arv.set Ar127 q127 S127 N127 H127 G127 rfl W126 5 rfl (Nat.le_of_ble_eq_true rfl)
  have V_b106_126 := V_b106_124.other W126 ne_b106_b115
  have N126 := Fr.snoc X126 N124 ge_b115
  have sz126 : n0 ≤ h126.size := Nat.le_trans sz124 (Nat.le_of_eq W126.size.symm)
  refine Go.st (U' := T126.setTop (mkF m 63 #[.val (.int p0), .val (.int p1), .val (.int p2), .val (.ref b106), .unset, .unset, .unset, .unset, .unset, .unset, .unset, .unset, .unset] [(.ref b115)])) (fun t k => st126 _ k) ?_
  refine Go.st (U' := T126.setTop (mkF m 69 #[.val (.int p0), .val (.int p1), .val (.int p2), .val (.ref b106), .unset, .unset, .unset, .unset, .unset, .unset, .unset, .unset, .unset] [(.int (10000 : Int32)), (.int (6 : Int32)), (.ref b115), (.ref b115)])) (fun t k => ?_) ?_
  · show Steps p.tables e below (T126.setTop (mkF m 63 #[.val (.int p0), .val (.int p1), .val (.int p2), .val (.ref b106), .unset, .unset, .unset, .unset, .unset, .unset, .unset, .unset, .unset] [(.ref b115)])) _
    refine XS.dup X126.here hx rfl (hb hby at_63) rfl rfl ?_
    show Steps p.tables e below (T126.setTop (mkF m 64 #[.val (.int p0), .val (.int p1), .val (.int p2), .val (.ref b106), .unset, .unset, .unset, .unset, .unset, .unset, .unset, .unset, .unset] [(.ref b115), (.ref b115)])) _
    refine XS.bipush X126.here hx rfl (hb hby at_64) ?_
    show Steps p.tables e below (T126.setTop (mkF m 66 #[.val (.int p0), .val (.int p1), .val (.int p2), .val (.ref b106), .unset, .unset, .unset, .unset, .unset, .unset, .unset, .unset, .unset] [(.int (6 : Int32)), (.ref b115), (.ref b115)])) _
    refine XS.sipush X126.here hx rfl (hb hby at_66) ?_
    exact k
  obtain ⟨cl129, Ar129, q129, S129, N129, H129, G129⟩ := id V_b115_126
  obtain ⟨T128, h128, X128, e128, W128, st128⟩ := stI X126 hx hZ e126 Ar129 (j := (6 : Int32)) (inb_of (j := (6 : Int32)) S129 ⟨by decide, by decide⟩) (g := (mkF m 69 #[.val (.int p0), .val (.int p1), .val (.int p2), .val (.ref b106), .unset, .unset, .unset, .unset, .unset, .unset, .unset, .unset, .unset] [(.int (10000 : Int32)), (.int (6 : Int32)), (.ref b115), (.ref b115)])) rfl rfl (hb hby at_69)
  have V_b115_128 := Arv.set Ar129 q129 S129 N129 H129 G129 rfl W128 6 rfl (Nat.le_of_ble_eq_true rfl)
  have V_b106_128 := V_b106_126.other W128 ne_b106_b115
  have N128 := Fr.snoc X128 N126 ge_b115
  have sz128 : n0 ≤ h128.size := Nat.le_trans sz126 (Nat.le_of_eq W128.size.symm)
  refine Go.st (U' := T128.setTop (mkF m 70 #[.val (.int p0), .val (.int p1), .val (.int p2), .val (.ref b106), .unset, .unset, .unset, .unset, .unset, .unset, .unset, .unset, .unset] [(.ref b115)])) (fun t k => st128 _ k) ?_
  refine Go.st (U' := T128.setTop (mkF m 76 #[.val (.int p0), .val (.int p1), .val (.int p2), .val (.ref b106), .unset, .unset, .unset, .unset, .unset, .unset, .unset, .unset, .unset] [(.int (3000 : Int32)), (.int (7 : Int32)), (.ref b115), (.ref b115)])) (fun t k => ?_) ?_
  · show Steps p.tables e below (T128.setTop (mkF m 70 #[.val (.int p0), .val (.int p1), .val (.int p2), .val (.ref b106), .unset, .unset, .unset, .unset, .unset, .unset, .unset, .unset, .unset] [(.ref b115)])) _
    refine XS.dup X128.here hx rfl (hb hby at_70) rfl rfl ?_
    show Steps p.tables e below (T128.setTop (mkF m 71 #[.val (.int p0), .val (.int p1), .val (.int p2), .val (.ref b106), .unset, .unset, .unset, .unset, .unset, .unset, .unset, .unset, .unset] [(.ref b115), (.ref b115)])) _
    refine XS.bipush X128.here hx rfl (hb hby at_71) ?_
    show Steps p.tables e below (T128.setTop (mkF m 73 #[.val (.int p0), .val (.int p1), .val (.int p2), .val (.ref b106), .unset, .unset, .unset, .unset, .unset, .unset, .unset, .unset, .unset] [(.int (7 : Int32)), (.ref b115), (.ref b115)])) _
    refine XS.sipush X128.here hx rfl (hb hby at_73) ?_
    exact k
  obtain ⟨cl131, Ar131, q131, S131, N131, H131, G131⟩ := id V_b115_128
  obtain ⟨T130, h130, X130, e130, W130, st130⟩ := stI X128 hx hZ e128 Ar131 (j := (7 : Int32)) (inb_of (j := (7 : Int32)) S131 ⟨by decide, by decide⟩) (g := (mkF m 76 #[.val (.int p0), .val (.int p1), .val (.int p2), .val (.ref b106), .unset, .unset, .unset, .unset, .unset, .unset, .unset, .unset, .unset] [(.int (3000 : Int32)), (.int (7 : Int32)), (.ref b115), (.ref b115)])) rfl rfl (hb hby at_76)
  have V_b115_130 := Arv.set Ar131 q131 S131 N131 H131 G131 rfl W130 7 rfl (Nat.le_of_ble_eq_true rfl)
  have V_b106_130 := V_b106_128.other W130 ne_b106_b115
  have N130 := Fr.snoc X130 N128 ge_b115
  have sz130 : n0 ≤ h130.size := Nat.le_trans sz128 (Nat.le_of_eq W130.size.symm)
  refine Go.st (U' := T130.setTop (mkF m 77 #[.val (.int p0), .val (.int p1), .val (.int p2), .val (.ref b106), .unset, .unset, .unset, .unset, .unset, .unset, .unset, .unset, .unset] [(.ref b115)])) (fun t k => st130 _ k) ?_
  refine Go.st (U' := T130.setTop (mkF m 85 #[.val (.int p0), .val (.int p1), .val (.int p2), .val (.ref b106), .val (.ref b115), .val (.int (p1 &&& (7 : Int32))), .unset, .unset, .unset, .unset, .unset, .unset, .unset] [])) (fun t k => ?_) ?_
  · show Steps p.tables e below (T130.setTop (mkF m 77 #[.val (.int p0), .val (.int p1), .val (.int p2), .val (.ref b106), .unset, .unset, .unset, .unset, .unset, .unset, .unset, .unset, .unset] [(.ref b115)])) _
    refine XS.astore X130.here hx rfl (hb hby at_77) rfl rfl (l' := #[.val (.int p0), .val (.int p1), .val (.int p2), .val (.ref b106), .val (.ref b115), .unset, .unset, .unset, .unset, .unset, .unset, .unset, .unset]) rfl ?_
    show Steps p.tables e below (T130.setTop (mkF m 79 #[.val (.int p0), .val (.int p1), .val (.int p2), .val (.ref b106), .val (.ref b115), .unset, .unset, .unset, .unset, .unset, .unset, .unset, .unset] [])) _
    refine XS.iloadN X130.here hx rfl (hb hby at_79) rfl ?_
    show Steps p.tables e below (T130.setTop (mkF m 80 #[.val (.int p0), .val (.int p1), .val (.int p2), .val (.ref b106), .val (.ref b115), .unset, .unset, .unset, .unset, .unset, .unset, .unset, .unset] [(.int p1)])) _
    refine XS.bipush X130.here hx rfl (hb hby at_80) ?_
    show Steps p.tables e below (T130.setTop (mkF m 82 #[.val (.int p0), .val (.int p1), .val (.int p2), .val (.ref b106), .val (.ref b115), .unset, .unset, .unset, .unset, .unset, .unset, .unset, .unset] [(.int (7 : Int32)), (.int p1)])) _
    refine XS.iand X130.here hx rfl (hb hby at_82) rfl ?_
    show Steps p.tables e below (T130.setTop (mkF m 83 #[.val (.int p0), .val (.int p1), .val (.int p2), .val (.ref b106), .val (.ref b115), .unset, .unset, .unset, .unset, .unset, .unset, .unset, .unset] [(.int (p1 &&& (7 : Int32)))])) _
    refine XS.istore X130.here hx rfl (hb hby at_83) rfl (l' := #[.val (.int p0), .val (.int p1), .val (.int p2), .val (.ref b106), .val (.ref b115), .val (.int (p1 &&& (7 : Int32))), .unset, .unset, .unset, .unset, .unset, .unset, .unset]) rfl ?_
    exact k
  generalize hv_v132 : (p1 &&& (7 : Int32)) = v132
  refine Go.st (U' := T130.setTop (mkF m 88 #[.val (.int p0), .val (.int p1), .val (.int p2), .val (.ref b106), .val (.ref b115), .val (.int v132), .unset, .unset, .unset, .unset, .unset, .unset, .unset] [(.int (4 : Int32)), (.int v132)])) (fun t k => ?_) ?_
  · show Steps p.tables e below (T130.setTop (mkF m 85 #[.val (.int p0), .val (.int p1), .val (.int p2), .val (.ref b106), .val (.ref b115), .val (.int v132), .unset, .unset, .unset, .unset, .unset, .unset, .unset] [])) _
    refine XS.iload X130.here hx rfl (hb hby at_85) rfl ?_
    show Steps p.tables e below (T130.setTop (mkF m 87 #[.val (.int p0), .val (.int p1), .val (.int p2), .val (.ref b106), .val (.ref b115), .val (.int v132), .unset, .unset, .unset, .unset, .unset, .unset, .unset] [(.int v132)])) _
    refine XS.iconst X130.here hx rfl (hb hby at_87) ?_
    exact k
  refine Go.join (P := fun (v137 : Int32) => v137 = (if v132 < (4 : Int32) then (([(0 : Int32), (1000 : Int32), (1001 : Int32), (2000 : Int32)] : List Int32).getD (v132).toNatClampNeg (0 : Int32)) else (if v132 = (4 : Int32) then (([(1 : Int32), (999 : Int32), (1002 : Int32), (1999 : Int32), (2001 : Int32), (99999 : Int32), (10000 : Int32), (3000 : Int32)] : List Int32).getD ((p2 &&& (7 : Int32))).toNatClampNeg (0 : Int32)) else ((p2 &&& (2147483647 : Int32)) % (100000 : Int32))))) (F := fun (v137 : Int32) => T130.setTop (mkF m 127 #[.val (.int p0), .val (.int p1), .val (.int p2), .val (.ref b106), .val (.ref b115), .val (.int v132), .val (.int v137), .unset, .unset, .unset, .unset, .unset, .unset] [])) (fun J138 => ?_) (fun v137 hv_v137 => ?_)
  · by_cases hc133 : v132 < (4 : Int32)
    · obtain ⟨cl134, Ar134, q134, S134, N134, H134, G134⟩ := id V_b106_130
      refine Go.st (U' := T130.setTop (mkF m 127 #[.val (.int p0), .val (.int p1), .val (.int p2), .val (.ref b106), .val (.ref b115), .val (.int v132), .val (.int (([(0 : Int32), (1000 : Int32), (1001 : Int32), (2000 : Int32)] : List Int32).getD (v132).toNatClampNeg (0 : Int32))), .unset, .unset, .unset, .unset, .unset, .unset] [])) (fun t k => ?_) ?_
      · show Steps p.tables e below (T130.setTop (mkF m 88 #[.val (.int p0), .val (.int p1), .val (.int p2), .val (.ref b106), .val (.ref b115), .val (.int v132), .unset, .unset, .unset, .unset, .unset, .unset, .unset] [(.int (4 : Int32)), (.int v132)])) _
        refine XS.icmpNo X130.here hx rfl (hb hby at_88) rfl (tlt hc133).2.1 ?_
        show Steps p.tables e below (T130.setTop (mkF m 91 #[.val (.int p0), .val (.int p1), .val (.int p2), .val (.ref b106), .val (.ref b115), .val (.int v132), .unset, .unset, .unset, .unset, .unset, .unset, .unset] [])) _
        refine XS.aloadN X130.here hx rfl (hb hby at_91) rfl rfl ?_
        show Steps p.tables e below (T130.setTop (mkF m 92 #[.val (.int p0), .val (.int p1), .val (.int p2), .val (.ref b106), .val (.ref b115), .val (.int v132), .unset, .unset, .unset, .unset, .unset, .unset, .unset] [(.ref b106)])) _
        refine XS.iload X130.here hx rfl (hb hby at_92) rfl ?_
        show Steps p.tables e below (T130.setTop (mkF m 94 #[.val (.int p0), .val (.int p1), .val (.int p2), .val (.ref b106), .val (.ref b115), .val (.int v132), .unset, .unset, .unset, .unset, .unset, .unset, .unset] [(.int v132), (.ref b106)])) _
        refine X130.iaload hx (j := v132) (v := (.int (([(0 : Int32), (1000 : Int32), (1001 : Int32), (2000 : Int32)] : List Int32).getD (v132).toNatClampNeg (0 : Int32)))) (by rw [e130]; exact Ar134.1) (State.isArrayOf_alike hZ.alike Ar134.2.1) Ar134.2.2 (inb_of (j := v132) S134 (by have q := own_mk p1 7 8 3 (by decide) (by decide) (by decide); rw [hv_v132] at q; exact ⟨q.1, hc133⟩)) (Has.at H134 (inb_of (j := v132) S134 (by have q := own_mk p1 7 8 3 (by decide) (by decide) (by decide); rw [hv_v132] at q; exact ⟨q.1, hc133⟩)) (own_getI [(0 : Int32), (1000 : Int32), (1001 : Int32), (2000 : Int32)] _)) (g := (mkF m 94 #[.val (.int p0), .val (.int p1), .val (.int p2), .val (.ref b106), .val (.ref b115), .val (.int v132), .unset, .unset, .unset, .unset, .unset, .unset, .unset] [(.int v132), (.ref b106)])) rfl rfl (hb hby at_94) _ ?_
        show Steps p.tables e below (T130.setTop (mkF m 95 #[.val (.int p0), .val (.int p1), .val (.int p2), .val (.ref b106), .val (.ref b115), .val (.int v132), .unset, .unset, .unset, .unset, .unset, .unset, .unset] [(.int (([(0 : Int32), (1000 : Int32), (1001 : Int32), (2000 : Int32)] : List Int32).getD (v132).toNatClampNeg (0 : Int32)))])) _
        refine XS.istore X130.here hx rfl (hb hby at_95) rfl (l' := #[.val (.int p0), .val (.int p1), .val (.int p2), .val (.ref b106), .val (.ref b115), .val (.int v132), .val (.int (([(0 : Int32), (1000 : Int32), (1001 : Int32), (2000 : Int32)] : List Int32).getD (v132).toNatClampNeg (0 : Int32))), .unset, .unset, .unset, .unset, .unset, .unset]) rfl ?_
        show Steps p.tables e below (T130.setTop (mkF m 97 #[.val (.int p0), .val (.int p1), .val (.int p2), .val (.ref b106), .val (.ref b115), .val (.int v132), .val (.int (([(0 : Int32), (1000 : Int32), (1001 : Int32), (2000 : Int32)] : List Int32).getD (v132).toNatClampNeg (0 : Int32))), .unset, .unset, .unset, .unset, .unset, .unset] [])) _
        refine XS.goto X130.here hx rfl (pc0 := 97) (pc' := 127) rfl (hb hby at_97) (by decide) (by decide) ?_
        exact k
      exact J138 _ (by first | rfl | simp only [if_pos hc133])
    · refine Go.st (U' := T130.setTop (mkF m 103 #[.val (.int p0), .val (.int p1), .val (.int p2), .val (.ref b106), .val (.ref b115), .val (.int v132), .unset, .unset, .unset, .unset, .unset, .unset, .unset] [(.int (4 : Int32)), (.int v132)])) (fun t k => ?_) ?_
      · show Steps p.tables e below (T130.setTop (mkF m 88 #[.val (.int p0), .val (.int p1), .val (.int p2), .val (.ref b106), .val (.ref b115), .val (.int v132), .unset, .unset, .unset, .unset, .unset, .unset, .unset] [(.int (4 : Int32)), (.int v132)])) _
        refine XS.icmpYes X130.here hx rfl (pc0 := 88) (pc' := 100) rfl (hb hby at_88) rfl (flt hc133).2.1 (by decide) (by decide) ?_
        show Steps p.tables e below (T130.setTop (mkF m 100 #[.val (.int p0), .val (.int p1), .val (.int p2), .val (.ref b106), .val (.ref b115), .val (.int v132), .unset, .unset, .unset, .unset, .unset, .unset, .unset] [])) _
        refine XS.iload X130.here hx rfl (hb hby at_100) rfl ?_
        show Steps p.tables e below (T130.setTop (mkF m 102 #[.val (.int p0), .val (.int p1), .val (.int p2), .val (.ref b106), .val (.ref b115), .val (.int v132), .unset, .unset, .unset, .unset, .unset, .unset, .unset] [(.int v132)])) _
        refine XS.iconst X130.here hx rfl (hb hby at_102) ?_
        exact k
      by_cases hc135 : v132 = (4 : Int32)
      · obtain ⟨cl136, Ar136, q136, S136, N136, H136, G136⟩ := id V_b115_130
        refine Go.st (U' := T130.setTop (mkF m 127 #[.val (.int p0), .val (.int p1), .val (.int p2), .val (.ref b106), .val (.ref b115), .val (.int v132), .val (.int (([(1 : Int32), (999 : Int32), (1002 : Int32), (1999 : Int32), (2001 : Int32), (99999 : Int32), (10000 : Int32), (3000 : Int32)] : List Int32).getD ((p2 &&& (7 : Int32))).toNatClampNeg (0 : Int32))), .unset, .unset, .unset, .unset, .unset, .unset] [])) (fun t k => ?_) ?_
        · show Steps p.tables e below (T130.setTop (mkF m 103 #[.val (.int p0), .val (.int p1), .val (.int p2), .val (.ref b106), .val (.ref b115), .val (.int v132), .unset, .unset, .unset, .unset, .unset, .unset, .unset] [(.int (4 : Int32)), (.int v132)])) _
          refine XS.icmpNo X130.here hx rfl (hb hby at_103) rfl (teq hc135).2 ?_
          show Steps p.tables e below (T130.setTop (mkF m 106 #[.val (.int p0), .val (.int p1), .val (.int p2), .val (.ref b106), .val (.ref b115), .val (.int v132), .unset, .unset, .unset, .unset, .unset, .unset, .unset] [])) _
          refine XS.aload X130.here hx rfl (hb hby at_106) rfl rfl ?_
          show Steps p.tables e below (T130.setTop (mkF m 108 #[.val (.int p0), .val (.int p1), .val (.int p2), .val (.ref b106), .val (.ref b115), .val (.int v132), .unset, .unset, .unset, .unset, .unset, .unset, .unset] [(.ref b115)])) _
          refine XS.iloadN X130.here hx rfl (hb hby at_108) rfl ?_
          show Steps p.tables e below (T130.setTop (mkF m 109 #[.val (.int p0), .val (.int p1), .val (.int p2), .val (.ref b106), .val (.ref b115), .val (.int v132), .unset, .unset, .unset, .unset, .unset, .unset, .unset] [(.int p2), (.ref b115)])) _
          refine XS.bipush X130.here hx rfl (hb hby at_109) ?_
          show Steps p.tables e below (T130.setTop (mkF m 111 #[.val (.int p0), .val (.int p1), .val (.int p2), .val (.ref b106), .val (.ref b115), .val (.int v132), .unset, .unset, .unset, .unset, .unset, .unset, .unset] [(.int (7 : Int32)), (.int p2), (.ref b115)])) _
          refine XS.iand X130.here hx rfl (hb hby at_111) rfl ?_
          show Steps p.tables e below (T130.setTop (mkF m 112 #[.val (.int p0), .val (.int p1), .val (.int p2), .val (.ref b106), .val (.ref b115), .val (.int v132), .unset, .unset, .unset, .unset, .unset, .unset, .unset] [(.int (p2 &&& (7 : Int32))), (.ref b115)])) _
          refine X130.iaload hx (j := (p2 &&& (7 : Int32))) (v := (.int (([(1 : Int32), (999 : Int32), (1002 : Int32), (1999 : Int32), (2001 : Int32), (99999 : Int32), (10000 : Int32), (3000 : Int32)] : List Int32).getD ((p2 &&& (7 : Int32))).toNatClampNeg (0 : Int32)))) (by rw [e130]; exact Ar136.1) (State.isArrayOf_alike hZ.alike Ar136.2.1) Ar136.2.2 (inb_of (j := (p2 &&& (7 : Int32))) S136 (own_mk p2 7 8 3 (by decide) (by decide) (by decide))) (Has.at H136 (inb_of (j := (p2 &&& (7 : Int32))) S136 (own_mk p2 7 8 3 (by decide) (by decide) (by decide))) (own_getI [(1 : Int32), (999 : Int32), (1002 : Int32), (1999 : Int32), (2001 : Int32), (99999 : Int32), (10000 : Int32), (3000 : Int32)] _)) (g := (mkF m 112 #[.val (.int p0), .val (.int p1), .val (.int p2), .val (.ref b106), .val (.ref b115), .val (.int v132), .unset, .unset, .unset, .unset, .unset, .unset, .unset] [(.int (p2 &&& (7 : Int32))), (.ref b115)])) rfl rfl (hb hby at_112) _ ?_
          show Steps p.tables e below (T130.setTop (mkF m 113 #[.val (.int p0), .val (.int p1), .val (.int p2), .val (.ref b106), .val (.ref b115), .val (.int v132), .unset, .unset, .unset, .unset, .unset, .unset, .unset] [(.int (([(1 : Int32), (999 : Int32), (1002 : Int32), (1999 : Int32), (2001 : Int32), (99999 : Int32), (10000 : Int32), (3000 : Int32)] : List Int32).getD ((p2 &&& (7 : Int32))).toNatClampNeg (0 : Int32)))])) _
          refine XS.istore X130.here hx rfl (hb hby at_113) rfl (l' := #[.val (.int p0), .val (.int p1), .val (.int p2), .val (.ref b106), .val (.ref b115), .val (.int v132), .val (.int (([(1 : Int32), (999 : Int32), (1002 : Int32), (1999 : Int32), (2001 : Int32), (99999 : Int32), (10000 : Int32), (3000 : Int32)] : List Int32).getD ((p2 &&& (7 : Int32))).toNatClampNeg (0 : Int32))), .unset, .unset, .unset, .unset, .unset, .unset]) rfl ?_
          show Steps p.tables e below (T130.setTop (mkF m 115 #[.val (.int p0), .val (.int p1), .val (.int p2), .val (.ref b106), .val (.ref b115), .val (.int v132), .val (.int (([(1 : Int32), (999 : Int32), (1002 : Int32), (1999 : Int32), (2001 : Int32), (99999 : Int32), (10000 : Int32), (3000 : Int32)] : List Int32).getD ((p2 &&& (7 : Int32))).toNatClampNeg (0 : Int32))), .unset, .unset, .unset, .unset, .unset, .unset] [])) _
          refine XS.goto X130.here hx rfl (pc0 := 115) (pc' := 127) rfl (hb hby at_115) (by decide) (by decide) ?_
          exact k
        exact J138 _ (by first | rfl | simp only [if_neg hc133, if_pos hc135])
      · refine Go.st (U' := T130.setTop (mkF m 127 #[.val (.int p0), .val (.int p1), .val (.int p2), .val (.ref b106), .val (.ref b115), .val (.int v132), .val (.int ((p2 &&& (2147483647 : Int32)) % (100000 : Int32))), .unset, .unset, .unset, .unset, .unset, .unset] [])) (fun t k => ?_) ?_
        · show Steps p.tables e below (T130.setTop (mkF m 103 #[.val (.int p0), .val (.int p1), .val (.int p2), .val (.ref b106), .val (.ref b115), .val (.int v132), .unset, .unset, .unset, .unset, .unset, .unset, .unset] [(.int (4 : Int32)), (.int v132)])) _
          refine XS.icmpYes X130.here hx rfl (pc0 := 103) (pc' := 118) rfl (hb hby at_103) rfl (feq hc135).2 (by decide) (by decide) ?_
          show Steps p.tables e below (T130.setTop (mkF m 118 #[.val (.int p0), .val (.int p1), .val (.int p2), .val (.ref b106), .val (.ref b115), .val (.int v132), .unset, .unset, .unset, .unset, .unset, .unset, .unset] [])) _
          refine XS.iloadN X130.here hx rfl (hb hby at_118) rfl ?_
          show Steps p.tables e below (T130.setTop (mkF m 119 #[.val (.int p0), .val (.int p1), .val (.int p2), .val (.ref b106), .val (.ref b115), .val (.int v132), .unset, .unset, .unset, .unset, .unset, .unset, .unset] [(.int p2)])) _
          refine X130.ldcInt hx hown (mvT hZ (own_w hw 2 rfl)) (g := (mkF m 119 #[.val (.int p0), .val (.int p1), .val (.int p2), .val (.ref b106), .val (.ref b115), .val (.int v132), .unset, .unset, .unset, .unset, .unset, .unset, .unset] [(.int p2)])) rfl (hb hby at_119) _ ?_
          show Steps p.tables e below (T130.setTop (mkF m 121 #[.val (.int p0), .val (.int p1), .val (.int p2), .val (.ref b106), .val (.ref b115), .val (.int v132), .unset, .unset, .unset, .unset, .unset, .unset, .unset] [(.int (2147483647 : Int32)), (.int p2)])) _
          refine XS.iand X130.here hx rfl (hb hby at_121) rfl ?_
          show Steps p.tables e below (T130.setTop (mkF m 122 #[.val (.int p0), .val (.int p1), .val (.int p2), .val (.ref b106), .val (.ref b115), .val (.int v132), .unset, .unset, .unset, .unset, .unset, .unset, .unset] [(.int (p2 &&& (2147483647 : Int32)))])) _
          refine X130.ldcInt hx hown (mvT hZ (own_w hw 13 rfl)) (g := (mkF m 122 #[.val (.int p0), .val (.int p1), .val (.int p2), .val (.ref b106), .val (.ref b115), .val (.int v132), .unset, .unset, .unset, .unset, .unset, .unset, .unset] [(.int (p2 &&& (2147483647 : Int32)))])) rfl (hb hby at_122) _ ?_
          show Steps p.tables e below (T130.setTop (mkF m 124 #[.val (.int p0), .val (.int p1), .val (.int p2), .val (.ref b106), .val (.ref b115), .val (.int v132), .unset, .unset, .unset, .unset, .unset, .unset, .unset] [(.int (100000 : Int32)), (.int (p2 &&& (2147483647 : Int32)))])) _
          refine iremM X130 hx rfl (hb hby at_124) rfl (by decide) ?_
          show Steps p.tables e below (T130.setTop (mkF m 125 #[.val (.int p0), .val (.int p1), .val (.int p2), .val (.ref b106), .val (.ref b115), .val (.int v132), .unset, .unset, .unset, .unset, .unset, .unset, .unset] [(.int ((p2 &&& (2147483647 : Int32)) % (100000 : Int32)))])) _
          refine XS.istore X130.here hx rfl (hb hby at_125) rfl (l' := #[.val (.int p0), .val (.int p1), .val (.int p2), .val (.ref b106), .val (.ref b115), .val (.int v132), .val (.int ((p2 &&& (2147483647 : Int32)) % (100000 : Int32))), .unset, .unset, .unset, .unset, .unset, .unset]) rfl ?_
          exact k
        exact J138 _ (by first | rfl | simp only [if_neg hc133, if_neg hc135])
  refine Go.st (U' := T130.setTop (mkF m 138 #[.val (.int p0), .val (.int p1), .val (.int p2), .val (.ref b106), .val (.ref b115), .val (.int v132), .val (.int v137), .val (.long (((p0 &&& (2147483647 : Int32)) % (21475 : Int32)).toInt64)), .second, .unset, .unset, .unset, .unset] [])) (fun t k => ?_) ?_
  · show Steps p.tables e below (T130.setTop (mkF m 127 #[.val (.int p0), .val (.int p1), .val (.int p2), .val (.ref b106), .val (.ref b115), .val (.int v132), .val (.int v137), .unset, .unset, .unset, .unset, .unset, .unset] [])) _
    refine XS.iloadN X130.here hx rfl (hb hby at_127) rfl ?_
    show Steps p.tables e below (T130.setTop (mkF m 128 #[.val (.int p0), .val (.int p1), .val (.int p2), .val (.ref b106), .val (.ref b115), .val (.int v132), .val (.int v137), .unset, .unset, .unset, .unset, .unset, .unset] [(.int p0)])) _
    refine X130.ldcInt hx hown (mvT hZ (own_w hw 2 rfl)) (g := (mkF m 128 #[.val (.int p0), .val (.int p1), .val (.int p2), .val (.ref b106), .val (.ref b115), .val (.int v132), .val (.int v137), .unset, .unset, .unset, .unset, .unset, .unset] [(.int p0)])) rfl (hb hby at_128) _ ?_
    show Steps p.tables e below (T130.setTop (mkF m 130 #[.val (.int p0), .val (.int p1), .val (.int p2), .val (.ref b106), .val (.ref b115), .val (.int v132), .val (.int v137), .unset, .unset, .unset, .unset, .unset, .unset] [(.int (2147483647 : Int32)), (.int p0)])) _
    refine XS.iand X130.here hx rfl (hb hby at_130) rfl ?_
    show Steps p.tables e below (T130.setTop (mkF m 131 #[.val (.int p0), .val (.int p1), .val (.int p2), .val (.ref b106), .val (.ref b115), .val (.int v132), .val (.int v137), .unset, .unset, .unset, .unset, .unset, .unset] [(.int (p0 &&& (2147483647 : Int32)))])) _
    refine XS.sipush X130.here hx rfl (hb hby at_131) ?_
    show Steps p.tables e below (T130.setTop (mkF m 134 #[.val (.int p0), .val (.int p1), .val (.int p2), .val (.ref b106), .val (.ref b115), .val (.int v132), .val (.int v137), .unset, .unset, .unset, .unset, .unset, .unset] [(.int (21475 : Int32)), (.int (p0 &&& (2147483647 : Int32)))])) _
    refine iremM X130 hx rfl (hb hby at_134) rfl (by decide) ?_
    show Steps p.tables e below (T130.setTop (mkF m 135 #[.val (.int p0), .val (.int p1), .val (.int p2), .val (.ref b106), .val (.ref b115), .val (.int v132), .val (.int v137), .unset, .unset, .unset, .unset, .unset, .unset] [(.int ((p0 &&& (2147483647 : Int32)) % (21475 : Int32)))])) _
    refine XS.i2l X130.here hx rfl (hb hby at_135) rfl ?_
    show Steps p.tables e below (T130.setTop (mkF m 136 #[.val (.int p0), .val (.int p1), .val (.int p2), .val (.ref b106), .val (.ref b115), .val (.int v132), .val (.int v137), .unset, .unset, .unset, .unset, .unset, .unset] [(.long (((p0 &&& (2147483647 : Int32)) % (21475 : Int32)).toInt64))])) _
    refine XS.lstore X130.here hx rfl (hb hby at_136) rfl (l' := #[.val (.int p0), .val (.int p1), .val (.int p2), .val (.ref b106), .val (.ref b115), .val (.int v132), .val (.int v137), .val (.long (((p0 &&& (2147483647 : Int32)) % (21475 : Int32)).toInt64)), .second, .unset, .unset, .unset, .unset]) rfl ?_
    exact k
  generalize hv_v139 : (((p0 &&& (2147483647 : Int32)) % (21475 : Int32)).toInt64) = v139
  refine Go.st (U' := T130.setTop (mkF m 150 #[.val (.int p0), .val (.int p1), .val (.int p2), .val (.ref b106), .val (.ref b115), .val (.int v132), .val (.int v137), .val (.long v139), .second, .val (.long ((v139 * (100000 : Int64)) + (v137.toInt64))), .second, .unset, .unset] [])) (fun t k => ?_) ?_
  · show Steps p.tables e below (T130.setTop (mkF m 138 #[.val (.int p0), .val (.int p1), .val (.int p2), .val (.ref b106), .val (.ref b115), .val (.int v132), .val (.int v137), .val (.long v139), .second, .unset, .unset, .unset, .unset] [])) _
    refine XS.lload X130.here hx rfl (hb hby at_138) rfl ?_
    show Steps p.tables e below (T130.setTop (mkF m 140 #[.val (.int p0), .val (.int p1), .val (.int p2), .val (.ref b106), .val (.ref b115), .val (.int v132), .val (.int v137), .val (.long v139), .second, .unset, .unset, .unset, .unset] [(.long v139)])) _
    refine X130.ldc2Long hx hown (mvT hZ (own_w hw 3 rfl)) (g := (mkF m 140 #[.val (.int p0), .val (.int p1), .val (.int p2), .val (.ref b106), .val (.ref b115), .val (.int v132), .val (.int v137), .val (.long v139), .second, .unset, .unset, .unset, .unset] [(.long v139)])) rfl (hb hby at_140) _ ?_
    show Steps p.tables e below (T130.setTop (mkF m 143 #[.val (.int p0), .val (.int p1), .val (.int p2), .val (.ref b106), .val (.ref b115), .val (.int v132), .val (.int v137), .val (.long v139), .second, .unset, .unset, .unset, .unset] [(.long (100000 : Int64)), (.long v139)])) _
    refine XS.lmul X130.here hx rfl (hb hby at_143) rfl ?_
    show Steps p.tables e below (T130.setTop (mkF m 144 #[.val (.int p0), .val (.int p1), .val (.int p2), .val (.ref b106), .val (.ref b115), .val (.int v132), .val (.int v137), .val (.long v139), .second, .unset, .unset, .unset, .unset] [(.long (v139 * (100000 : Int64)))])) _
    refine XS.iload X130.here hx rfl (hb hby at_144) rfl ?_
    show Steps p.tables e below (T130.setTop (mkF m 146 #[.val (.int p0), .val (.int p1), .val (.int p2), .val (.ref b106), .val (.ref b115), .val (.int v132), .val (.int v137), .val (.long v139), .second, .unset, .unset, .unset, .unset] [(.int v137), (.long (v139 * (100000 : Int64)))])) _
    refine XS.i2l X130.here hx rfl (hb hby at_146) rfl ?_
    show Steps p.tables e below (T130.setTop (mkF m 147 #[.val (.int p0), .val (.int p1), .val (.int p2), .val (.ref b106), .val (.ref b115), .val (.int v132), .val (.int v137), .val (.long v139), .second, .unset, .unset, .unset, .unset] [(.long (v137.toInt64)), (.long (v139 * (100000 : Int64)))])) _
    refine XS.ladd X130.here hx rfl (hb hby at_147) rfl ?_
    show Steps p.tables e below (T130.setTop (mkF m 148 #[.val (.int p0), .val (.int p1), .val (.int p2), .val (.ref b106), .val (.ref b115), .val (.int v132), .val (.int v137), .val (.long v139), .second, .unset, .unset, .unset, .unset] [(.long ((v139 * (100000 : Int64)) + (v137.toInt64)))])) _
    refine XS.lstore X130.here hx rfl (hb hby at_148) rfl (l' := #[.val (.int p0), .val (.int p1), .val (.int p2), .val (.ref b106), .val (.ref b115), .val (.int v132), .val (.int v137), .val (.long v139), .second, .val (.long ((v139 * (100000 : Int64)) + (v137.toInt64))), .second, .unset, .unset]) rfl ?_
    exact k
  generalize hv_v140 : ((v139 * (100000 : Int64)) + (v137.toInt64)) = v140
  refine Go.st (U' := T130.setTop (mkF m 156 #[.val (.int p0), .val (.int p1), .val (.int p2), .val (.ref b106), .val (.ref b115), .val (.int v132), .val (.int v137), .val (.long v139), .second, .val (.long v140), .second, .unset, .unset] [(.int (lcmpW v140 (2147483647 : Int64)))])) (fun t k => ?_) ?_
  · show Steps p.tables e below (T130.setTop (mkF m 150 #[.val (.int p0), .val (.int p1), .val (.int p2), .val (.ref b106), .val (.ref b115), .val (.int v132), .val (.int v137), .val (.long v139), .second, .val (.long v140), .second, .unset, .unset] [])) _
    refine XS.lload X130.here hx rfl (hb hby at_150) rfl ?_
    show Steps p.tables e below (T130.setTop (mkF m 152 #[.val (.int p0), .val (.int p1), .val (.int p2), .val (.ref b106), .val (.ref b115), .val (.int v132), .val (.int v137), .val (.long v139), .second, .val (.long v140), .second, .unset, .unset] [(.long v140)])) _
    refine X130.ldc2Long hx hown (mvT hZ (own_w hw 4 rfl)) (g := (mkF m 152 #[.val (.int p0), .val (.int p1), .val (.int p2), .val (.ref b106), .val (.ref b115), .val (.int v132), .val (.int v137), .val (.long v139), .second, .val (.long v140), .second, .unset, .unset] [(.long v140)])) rfl (hb hby at_152) _ ?_
    show Steps p.tables e below (T130.setTop (mkF m 155 #[.val (.int p0), .val (.int p1), .val (.int p2), .val (.ref b106), .val (.ref b115), .val (.int v132), .val (.int v137), .val (.long v139), .second, .val (.long v140), .second, .unset, .unset] [(.long (2147483647 : Int64)), (.long v140)])) _
    refine XS.lcmp X130.here hx rfl (hb hby at_155) rfl ?_
    exact k
  refine Go.join (P := fun (v142 : Int64) => v142 = (if (2147483647 : Int64) < v140 then (v140 - (100000 : Int64)) else v140)) (F := fun (v142 : Int64) => T130.setTop (mkF m 167 #[.val (.int p0), .val (.int p1), .val (.int p2), .val (.ref b106), .val (.ref b115), .val (.int v132), .val (.int v137), .val (.long v139), .second, .val (.long v142), .second, .unset, .unset] [])) (fun J143 => ?_) (fun v142 hv_v142 => ?_)
  · by_cases hc141 : (2147483647 : Int64) < v140
    · refine Go.st (U' := T130.setTop (mkF m 167 #[.val (.int p0), .val (.int p1), .val (.int p2), .val (.ref b106), .val (.ref b115), .val (.int v132), .val (.int v137), .val (.long v139), .second, .val (.long (v140 - (100000 : Int64))), .second, .unset, .unset] [])) (fun t k => ?_) ?_
      · show Steps p.tables e below (T130.setTop (mkF m 156 #[.val (.int p0), .val (.int p1), .val (.int p2), .val (.ref b106), .val (.ref b115), .val (.int v132), .val (.int v137), .val (.long v139), .second, .val (.long v140), .second, .unset, .unset] [(.int (lcmpW v140 (2147483647 : Int64)))])) _
        refine XS.ifNo X130.here hx rfl (hb hby at_156) rfl ((if0 _ _).trans (tlt ((lw_gt _ _).mpr hc141)).2.2.2) ?_
        show Steps p.tables e below (T130.setTop (mkF m 159 #[.val (.int p0), .val (.int p1), .val (.int p2), .val (.ref b106), .val (.ref b115), .val (.int v132), .val (.int v137), .val (.long v139), .second, .val (.long v140), .second, .unset, .unset] [])) _
        refine XS.lload X130.here hx rfl (hb hby at_159) rfl ?_
        show Steps p.tables e below (T130.setTop (mkF m 161 #[.val (.int p0), .val (.int p1), .val (.int p2), .val (.ref b106), .val (.ref b115), .val (.int v132), .val (.int v137), .val (.long v139), .second, .val (.long v140), .second, .unset, .unset] [(.long v140)])) _
        refine X130.ldc2Long hx hown (mvT hZ (own_w hw 3 rfl)) (g := (mkF m 161 #[.val (.int p0), .val (.int p1), .val (.int p2), .val (.ref b106), .val (.ref b115), .val (.int v132), .val (.int v137), .val (.long v139), .second, .val (.long v140), .second, .unset, .unset] [(.long v140)])) rfl (hb hby at_161) _ ?_
        show Steps p.tables e below (T130.setTop (mkF m 164 #[.val (.int p0), .val (.int p1), .val (.int p2), .val (.ref b106), .val (.ref b115), .val (.int v132), .val (.int v137), .val (.long v139), .second, .val (.long v140), .second, .unset, .unset] [(.long (100000 : Int64)), (.long v140)])) _
        refine XS.lsub X130.here hx rfl (hb hby at_164) rfl ?_
        show Steps p.tables e below (T130.setTop (mkF m 165 #[.val (.int p0), .val (.int p1), .val (.int p2), .val (.ref b106), .val (.ref b115), .val (.int v132), .val (.int v137), .val (.long v139), .second, .val (.long v140), .second, .unset, .unset] [(.long (v140 - (100000 : Int64)))])) _
        refine XS.lstore X130.here hx rfl (hb hby at_165) rfl (l' := #[.val (.int p0), .val (.int p1), .val (.int p2), .val (.ref b106), .val (.ref b115), .val (.int v132), .val (.int v137), .val (.long v139), .second, .val (.long (v140 - (100000 : Int64))), .second, .unset, .unset]) rfl ?_
        exact k
      exact J143 _ (by first | rfl | simp only [if_pos hc141])
    · refine Go.st (U' := T130.setTop (mkF m 167 #[.val (.int p0), .val (.int p1), .val (.int p2), .val (.ref b106), .val (.ref b115), .val (.int v132), .val (.int v137), .val (.long v139), .second, .val (.long v140), .second, .unset, .unset] [])) (fun t k => ?_) ?_
      · show Steps p.tables e below (T130.setTop (mkF m 156 #[.val (.int p0), .val (.int p1), .val (.int p2), .val (.ref b106), .val (.ref b115), .val (.int v132), .val (.int v137), .val (.long v139), .second, .val (.long v140), .second, .unset, .unset] [(.int (lcmpW v140 (2147483647 : Int64)))])) _
        refine XS.ifYes X130.here hx rfl (pc0 := 156) (pc' := 167) rfl (hb hby at_156) rfl ((if0 _ _).trans (flt (fun q => hc141 ((lw_gt _ _).mp q))).2.2.2) (by decide) (by decide) ?_
        exact k
      exact J143 _ (by first | rfl | simp only [if_neg hc141])
  refine Go.st (U' := T130.setTop (mkF m 172 #[.val (.int p0), .val (.int p1), .val (.int p2), .val (.ref b106), .val (.ref b115), .val (.int v132), .val (.int v137), .val (.long v139), .second, .val (.long v142), .second, .val (.int (v142.toInt32)), .unset] [])) (fun t k => ?_) ?_
  · show Steps p.tables e below (T130.setTop (mkF m 167 #[.val (.int p0), .val (.int p1), .val (.int p2), .val (.ref b106), .val (.ref b115), .val (.int v132), .val (.int v137), .val (.long v139), .second, .val (.long v142), .second, .unset, .unset] [])) _
    refine XS.lload X130.here hx rfl (hb hby at_167) rfl ?_
    show Steps p.tables e below (T130.setTop (mkF m 169 #[.val (.int p0), .val (.int p1), .val (.int p2), .val (.ref b106), .val (.ref b115), .val (.int v132), .val (.int v137), .val (.long v139), .second, .val (.long v142), .second, .unset, .unset] [(.long v142)])) _
    refine XS.l2i X130.here hx rfl (hb hby at_169) rfl ?_
    show Steps p.tables e below (T130.setTop (mkF m 170 #[.val (.int p0), .val (.int p1), .val (.int p2), .val (.ref b106), .val (.ref b115), .val (.int v132), .val (.int v137), .val (.long v139), .second, .val (.long v142), .second, .unset, .unset] [(.int (v142.toInt32))])) _
    refine XS.istore X130.here hx rfl (hb hby at_170) rfl (l' := #[.val (.int p0), .val (.int p1), .val (.int p2), .val (.ref b106), .val (.ref b115), .val (.int v132), .val (.int v137), .val (.long v139), .second, .val (.long v142), .second, .val (.int (v142.toInt32)), .unset]) rfl ?_
    exact k
  generalize hv_v144 : (v142.toInt32) = v144
  refine Go.st (U' := T130.setTop (mkF m 174 #[.val (.int p0), .val (.int p1), .val (.int p2), .val (.ref b106), .val (.ref b115), .val (.int v132), .val (.int v137), .val (.long v139), .second, .val (.long v142), .second, .val (.int v144), .unset] [(.int v137)])) (fun t k => ?_) ?_
  · show Steps p.tables e below (T130.setTop (mkF m 172 #[.val (.int p0), .val (.int p1), .val (.int p2), .val (.ref b106), .val (.ref b115), .val (.int v132), .val (.int v137), .val (.long v139), .second, .val (.long v142), .second, .val (.int v144), .unset] [])) _
    refine XS.iload X130.here hx rfl (hb hby at_172) rfl ?_
    exact k
  refine Go.join (P := fun (v149 : Int32) => v149 = (if v137 = (0 : Int32) then (1 : Int32) else (if v137 = (1000 : Int32) then (1 : Int32) else (if v137 = (1001 : Int32) then (1 : Int32) else (if v137 = (2000 : Int32) then (1 : Int32) else (0 : Int32)))))) (F := fun (v149 : Int32) => T130.setTop (mkF m 206 #[.val (.int p0), .val (.int p1), .val (.int p2), .val (.ref b106), .val (.ref b115), .val (.int v132), .val (.int v137), .val (.long v139), .second, .val (.long v142), .second, .val (.int v144), .unset] [(.int v149)])) (fun J150 => ?_) (fun v149 hv_v149 => ?_)
  · by_cases hc145 : v137 = (0 : Int32)
    · refine Go.st (U' := T130.setTop (mkF m 206 #[.val (.int p0), .val (.int p1), .val (.int p2), .val (.ref b106), .val (.ref b115), .val (.int v132), .val (.int v137), .val (.long v139), .second, .val (.long v142), .second, .val (.int v144), .unset] [(.int (1 : Int32))])) (fun t k => ?_) ?_
      · show Steps p.tables e below (T130.setTop (mkF m 174 #[.val (.int p0), .val (.int p1), .val (.int p2), .val (.ref b106), .val (.ref b115), .val (.int v132), .val (.int v137), .val (.long v139), .second, .val (.long v142), .second, .val (.int v144), .unset] [(.int v137)])) _
        refine XS.ifYes X130.here hx rfl (pc0 := 174) (pc' := 201) rfl (hb hby at_174) rfl ((if0 _ _).trans (teq hc145).1) (by decide) (by decide) ?_
        show Steps p.tables e below (T130.setTop (mkF m 201 #[.val (.int p0), .val (.int p1), .val (.int p2), .val (.ref b106), .val (.ref b115), .val (.int v132), .val (.int v137), .val (.long v139), .second, .val (.long v142), .second, .val (.int v144), .unset] [])) _
        refine XS.iconst X130.here hx rfl (hb hby at_201) ?_
        show Steps p.tables e below (T130.setTop (mkF m 202 #[.val (.int p0), .val (.int p1), .val (.int p2), .val (.ref b106), .val (.ref b115), .val (.int v132), .val (.int v137), .val (.long v139), .second, .val (.long v142), .second, .val (.int v144), .unset] [(.int (1 : Int32))])) _
        refine XS.goto X130.here hx rfl (pc0 := 202) (pc' := 206) rfl (hb hby at_202) (by decide) (by decide) ?_
        exact k
      exact J150 _ (by first | rfl | simp only [if_pos hc145])
    · refine Go.st (U' := T130.setTop (mkF m 182 #[.val (.int p0), .val (.int p1), .val (.int p2), .val (.ref b106), .val (.ref b115), .val (.int v132), .val (.int v137), .val (.long v139), .second, .val (.long v142), .second, .val (.int v144), .unset] [(.int (1000 : Int32)), (.int v137)])) (fun t k => ?_) ?_
      · show Steps p.tables e below (T130.setTop (mkF m 174 #[.val (.int p0), .val (.int p1), .val (.int p2), .val (.ref b106), .val (.ref b115), .val (.int v132), .val (.int v137), .val (.long v139), .second, .val (.long v142), .second, .val (.int v144), .unset] [(.int v137)])) _
        refine XS.ifNo X130.here hx rfl (hb hby at_174) rfl ((if0 _ _).trans (feq hc145).1) ?_
        show Steps p.tables e below (T130.setTop (mkF m 177 #[.val (.int p0), .val (.int p1), .val (.int p2), .val (.ref b106), .val (.ref b115), .val (.int v132), .val (.int v137), .val (.long v139), .second, .val (.long v142), .second, .val (.int v144), .unset] [])) _
        refine XS.iload X130.here hx rfl (hb hby at_177) rfl ?_
        show Steps p.tables e below (T130.setTop (mkF m 179 #[.val (.int p0), .val (.int p1), .val (.int p2), .val (.ref b106), .val (.ref b115), .val (.int v132), .val (.int v137), .val (.long v139), .second, .val (.long v142), .second, .val (.int v144), .unset] [(.int v137)])) _
        refine XS.sipush X130.here hx rfl (hb hby at_179) ?_
        exact k
      by_cases hc146 : v137 = (1000 : Int32)
      · refine Go.st (U' := T130.setTop (mkF m 206 #[.val (.int p0), .val (.int p1), .val (.int p2), .val (.ref b106), .val (.ref b115), .val (.int v132), .val (.int v137), .val (.long v139), .second, .val (.long v142), .second, .val (.int v144), .unset] [(.int (1 : Int32))])) (fun t k => ?_) ?_
        · show Steps p.tables e below (T130.setTop (mkF m 182 #[.val (.int p0), .val (.int p1), .val (.int p2), .val (.ref b106), .val (.ref b115), .val (.int v132), .val (.int v137), .val (.long v139), .second, .val (.long v142), .second, .val (.int v144), .unset] [(.int (1000 : Int32)), (.int v137)])) _
          refine XS.icmpYes X130.here hx rfl (pc0 := 182) (pc' := 201) rfl (hb hby at_182) rfl (teq hc146).1 (by decide) (by decide) ?_
          show Steps p.tables e below (T130.setTop (mkF m 201 #[.val (.int p0), .val (.int p1), .val (.int p2), .val (.ref b106), .val (.ref b115), .val (.int v132), .val (.int v137), .val (.long v139), .second, .val (.long v142), .second, .val (.int v144), .unset] [])) _
          refine XS.iconst X130.here hx rfl (hb hby at_201) ?_
          show Steps p.tables e below (T130.setTop (mkF m 202 #[.val (.int p0), .val (.int p1), .val (.int p2), .val (.ref b106), .val (.ref b115), .val (.int v132), .val (.int v137), .val (.long v139), .second, .val (.long v142), .second, .val (.int v144), .unset] [(.int (1 : Int32))])) _
          refine XS.goto X130.here hx rfl (pc0 := 202) (pc' := 206) rfl (hb hby at_202) (by decide) (by decide) ?_
          exact k
        exact J150 _ (by first | rfl | simp only [if_neg hc145, if_pos hc146])
      · refine Go.st (U' := T130.setTop (mkF m 190 #[.val (.int p0), .val (.int p1), .val (.int p2), .val (.ref b106), .val (.ref b115), .val (.int v132), .val (.int v137), .val (.long v139), .second, .val (.long v142), .second, .val (.int v144), .unset] [(.int (1001 : Int32)), (.int v137)])) (fun t k => ?_) ?_
        · show Steps p.tables e below (T130.setTop (mkF m 182 #[.val (.int p0), .val (.int p1), .val (.int p2), .val (.ref b106), .val (.ref b115), .val (.int v132), .val (.int v137), .val (.long v139), .second, .val (.long v142), .second, .val (.int v144), .unset] [(.int (1000 : Int32)), (.int v137)])) _
          refine XS.icmpNo X130.here hx rfl (hb hby at_182) rfl (feq hc146).1 ?_
          show Steps p.tables e below (T130.setTop (mkF m 185 #[.val (.int p0), .val (.int p1), .val (.int p2), .val (.ref b106), .val (.ref b115), .val (.int v132), .val (.int v137), .val (.long v139), .second, .val (.long v142), .second, .val (.int v144), .unset] [])) _
          refine XS.iload X130.here hx rfl (hb hby at_185) rfl ?_
          show Steps p.tables e below (T130.setTop (mkF m 187 #[.val (.int p0), .val (.int p1), .val (.int p2), .val (.ref b106), .val (.ref b115), .val (.int v132), .val (.int v137), .val (.long v139), .second, .val (.long v142), .second, .val (.int v144), .unset] [(.int v137)])) _
          refine XS.sipush X130.here hx rfl (hb hby at_187) ?_
          exact k
        by_cases hc147 : v137 = (1001 : Int32)
        · refine Go.st (U' := T130.setTop (mkF m 206 #[.val (.int p0), .val (.int p1), .val (.int p2), .val (.ref b106), .val (.ref b115), .val (.int v132), .val (.int v137), .val (.long v139), .second, .val (.long v142), .second, .val (.int v144), .unset] [(.int (1 : Int32))])) (fun t k => ?_) ?_
          · show Steps p.tables e below (T130.setTop (mkF m 190 #[.val (.int p0), .val (.int p1), .val (.int p2), .val (.ref b106), .val (.ref b115), .val (.int v132), .val (.int v137), .val (.long v139), .second, .val (.long v142), .second, .val (.int v144), .unset] [(.int (1001 : Int32)), (.int v137)])) _
            refine XS.icmpYes X130.here hx rfl (pc0 := 190) (pc' := 201) rfl (hb hby at_190) rfl (teq hc147).1 (by decide) (by decide) ?_
            show Steps p.tables e below (T130.setTop (mkF m 201 #[.val (.int p0), .val (.int p1), .val (.int p2), .val (.ref b106), .val (.ref b115), .val (.int v132), .val (.int v137), .val (.long v139), .second, .val (.long v142), .second, .val (.int v144), .unset] [])) _
            refine XS.iconst X130.here hx rfl (hb hby at_201) ?_
            show Steps p.tables e below (T130.setTop (mkF m 202 #[.val (.int p0), .val (.int p1), .val (.int p2), .val (.ref b106), .val (.ref b115), .val (.int v132), .val (.int v137), .val (.long v139), .second, .val (.long v142), .second, .val (.int v144), .unset] [(.int (1 : Int32))])) _
            refine XS.goto X130.here hx rfl (pc0 := 202) (pc' := 206) rfl (hb hby at_202) (by decide) (by decide) ?_
            exact k
          exact J150 _ (by first | rfl | simp only [if_neg hc145, if_neg hc146, if_pos hc147])
        · refine Go.st (U' := T130.setTop (mkF m 198 #[.val (.int p0), .val (.int p1), .val (.int p2), .val (.ref b106), .val (.ref b115), .val (.int v132), .val (.int v137), .val (.long v139), .second, .val (.long v142), .second, .val (.int v144), .unset] [(.int (2000 : Int32)), (.int v137)])) (fun t k => ?_) ?_
          · show Steps p.tables e below (T130.setTop (mkF m 190 #[.val (.int p0), .val (.int p1), .val (.int p2), .val (.ref b106), .val (.ref b115), .val (.int v132), .val (.int v137), .val (.long v139), .second, .val (.long v142), .second, .val (.int v144), .unset] [(.int (1001 : Int32)), (.int v137)])) _
            refine XS.icmpNo X130.here hx rfl (hb hby at_190) rfl (feq hc147).1 ?_
            show Steps p.tables e below (T130.setTop (mkF m 193 #[.val (.int p0), .val (.int p1), .val (.int p2), .val (.ref b106), .val (.ref b115), .val (.int v132), .val (.int v137), .val (.long v139), .second, .val (.long v142), .second, .val (.int v144), .unset] [])) _
            refine XS.iload X130.here hx rfl (hb hby at_193) rfl ?_
            show Steps p.tables e below (T130.setTop (mkF m 195 #[.val (.int p0), .val (.int p1), .val (.int p2), .val (.ref b106), .val (.ref b115), .val (.int v132), .val (.int v137), .val (.long v139), .second, .val (.long v142), .second, .val (.int v144), .unset] [(.int v137)])) _
            refine XS.sipush X130.here hx rfl (hb hby at_195) ?_
            exact k
          by_cases hc148 : v137 = (2000 : Int32)
          · refine Go.st (U' := T130.setTop (mkF m 206 #[.val (.int p0), .val (.int p1), .val (.int p2), .val (.ref b106), .val (.ref b115), .val (.int v132), .val (.int v137), .val (.long v139), .second, .val (.long v142), .second, .val (.int v144), .unset] [(.int (1 : Int32))])) (fun t k => ?_) ?_
            · show Steps p.tables e below (T130.setTop (mkF m 198 #[.val (.int p0), .val (.int p1), .val (.int p2), .val (.ref b106), .val (.ref b115), .val (.int v132), .val (.int v137), .val (.long v139), .second, .val (.long v142), .second, .val (.int v144), .unset] [(.int (2000 : Int32)), (.int v137)])) _
              refine XS.icmpNo X130.here hx rfl (hb hby at_198) rfl (teq hc148).2 ?_
              show Steps p.tables e below (T130.setTop (mkF m 201 #[.val (.int p0), .val (.int p1), .val (.int p2), .val (.ref b106), .val (.ref b115), .val (.int v132), .val (.int v137), .val (.long v139), .second, .val (.long v142), .second, .val (.int v144), .unset] [])) _
              refine XS.iconst X130.here hx rfl (hb hby at_201) ?_
              show Steps p.tables e below (T130.setTop (mkF m 202 #[.val (.int p0), .val (.int p1), .val (.int p2), .val (.ref b106), .val (.ref b115), .val (.int v132), .val (.int v137), .val (.long v139), .second, .val (.long v142), .second, .val (.int v144), .unset] [(.int (1 : Int32))])) _
              refine XS.goto X130.here hx rfl (pc0 := 202) (pc' := 206) rfl (hb hby at_202) (by decide) (by decide) ?_
              exact k
            exact J150 _ (by first | rfl | simp only [if_neg hc145, if_neg hc146, if_neg hc147, if_pos hc148])
          · refine Go.st (U' := T130.setTop (mkF m 206 #[.val (.int p0), .val (.int p1), .val (.int p2), .val (.ref b106), .val (.ref b115), .val (.int v132), .val (.int v137), .val (.long v139), .second, .val (.long v142), .second, .val (.int v144), .unset] [(.int (0 : Int32))])) (fun t k => ?_) ?_
            · show Steps p.tables e below (T130.setTop (mkF m 198 #[.val (.int p0), .val (.int p1), .val (.int p2), .val (.ref b106), .val (.ref b115), .val (.int v132), .val (.int v137), .val (.long v139), .second, .val (.long v142), .second, .val (.int v144), .unset] [(.int (2000 : Int32)), (.int v137)])) _
              refine XS.icmpYes X130.here hx rfl (pc0 := 198) (pc' := 205) rfl (hb hby at_198) rfl (feq hc148).2 (by decide) (by decide) ?_
              show Steps p.tables e below (T130.setTop (mkF m 205 #[.val (.int p0), .val (.int p1), .val (.int p2), .val (.ref b106), .val (.ref b115), .val (.int v132), .val (.int v137), .val (.long v139), .second, .val (.long v142), .second, .val (.int v144), .unset] [])) _
              refine XS.iconst X130.here hx rfl (hb hby at_205) ?_
              exact k
            exact J150 _ (by first | rfl | simp only [if_neg hc145, if_neg hc146, if_neg hc147, if_neg hc148])
  refine Go.st (U' := T130.setTop (mkF m 210 #[.val (.int p0), .val (.int p1), .val (.int p2), .val (.ref b106), .val (.ref b115), .val (.int v132), .val (.int v137), .val (.long v139), .second, .val (.long v142), .second, .val (.int v144), .val (.int v149)] [(.int v144)])) (fun t k => ?_) ?_
  · show Steps p.tables e below (T130.setTop (mkF m 206 #[.val (.int p0), .val (.int p1), .val (.int p2), .val (.ref b106), .val (.ref b115), .val (.int v132), .val (.int v137), .val (.long v139), .second, .val (.long v142), .second, .val (.int v144), .unset] [(.int v149)])) _
    refine XS.istore X130.here hx rfl (hb hby at_206) rfl (l' := #[.val (.int p0), .val (.int p1), .val (.int p2), .val (.ref b106), .val (.ref b115), .val (.int v132), .val (.int v137), .val (.long v139), .second, .val (.long v142), .second, .val (.int v144), .val (.int v149)]) rfl ?_
    show Steps p.tables e below (T130.setTop (mkF m 208 #[.val (.int p0), .val (.int p1), .val (.int p2), .val (.ref b106), .val (.ref b115), .val (.int v132), .val (.int v137), .val (.long v139), .second, .val (.long v142), .second, .val (.int v144), .val (.int v149)] [])) _
    refine XS.iload X130.here hx rfl (hb hby at_208) rfl ?_
    exact k
  obtain ⟨_, _, ⟨T151, L151, k151, n151⟩, -, X151, ⟨Lc151, hQ151, l151, y151, z151⟩, st151⟩ := Jvm.LawKit.callS X130 hx (y := own_y1) hown (mvT hZ (own_w hw 5 rfl)) (mvT hZ (own_w hw 6 rfl)) (mvT hZ (own_w hw 7 rfl)) (mvT hZ (own_w hw 8 rfl)) (by decide) (backOf (W := 0) (rm2 l Z a0 hw [] v144 h130 n0 sz130 ) hZ (own_w hw 8 rfl) (own_w hw 7 rfl) (by decide) (by decide)) (g := (mkF m 210 #[.val (.int p0), .val (.int p1), .val (.int p2), .val (.ref b106), .val (.ref b115), .val (.int v132), .val (.int v137), .val (.long v139), .second, .val (.long v142), .second, .val (.int v144), .val (.int v149)] [(.int v144)])) rfl (by rw [hml]; rfl) (argsL := [(.int v144)]) (rest := []) (lenOf pd_1 rfl) rfl (by show 2 * 0 + _ ≤ _; exact Nat.le_of_eq rfl) (hb hby at_210) (fun _ _ => ⟨rfl, e130, (by decide : 2 + 0 ≤ _), (by decide : 12 + 0 ≤ _)⟩)
  dsimp only [Pt.U, Pt.locs, Pt.cells, Pt.slots] at X151 l151 y151 z151 st151 hQ151
  subst l151 y151 z151
  obtain ⟨rfl, N151q, e151⟩ := hQ151
  have N151 := Fr.app N130 N151q
  refine Go.st (U' := T151.setTop (mkF m 213 #[.val (.int p0), .val (.int p1), .val (.int p2), .val (.ref b106), .val (.ref b115), .val (.int v132), .val (.int v137), .val (.long v139), .second, .val (.long v142), .second, .val (.int v144), .val (.int v149)] [(.int (f2 v144))])) (fun t k => st151 _ k) ?_
  refine Go.st (U' := T151.setTop (mkF m 223 #[.val (.int p0), .val (.int p1), .val (.int p2), .val (.ref b106), .val (.ref b115), .val (.int v132), .val (.int v137), .val (.long v139), .second, .val (.long v142), .second, .val (.int v144), .val (.int v149)] [(.int (1 : Int32))])) (fun t k => ?_) ?_
  · show Steps p.tables e below (T151.setTop (mkF m 213 #[.val (.int p0), .val (.int p1), .val (.int p2), .val (.ref b106), .val (.ref b115), .val (.int v132), .val (.int v137), .val (.long v139), .second, .val (.long v142), .second, .val (.int v144), .val (.int v149)] [(.int (f2 v144))])) _
    refine XS.iload X151.here hx rfl (hb hby at_213) rfl ?_
    show Steps p.tables e below (T151.setTop (mkF m 215 #[.val (.int p0), .val (.int p1), .val (.int p2), .val (.ref b106), .val (.ref b115), .val (.int v132), .val (.int v137), .val (.long v139), .second, .val (.long v142), .second, .val (.int v144), .val (.int v149)] [(.int v149), (.int (f2 v144))])) _
    refine XS.icmpNo X151.here hx rfl (hb hby at_215) rfl (teq (own_law p0 p1 p2 v132 v137 v139 v140 v142 v144 v149 hv_v132 hv_v137 hv_v139 hv_v140 hv_v142 hv_v144 hv_v149 : (f2 v144) = v149)).2 ?_
    show Steps p.tables e below (T151.setTop (mkF m 218 #[.val (.int p0), .val (.int p1), .val (.int p2), .val (.ref b106), .val (.ref b115), .val (.int v132), .val (.int v137), .val (.long v139), .second, .val (.long v142), .second, .val (.int v144), .val (.int v149)] [])) _
    refine XS.iconst X151.here hx rfl (hb hby at_218) ?_
    show Steps p.tables e below (T151.setTop (mkF m 219 #[.val (.int p0), .val (.int p1), .val (.int p2), .val (.ref b106), .val (.ref b115), .val (.int v132), .val (.int v137), .val (.long v139), .second, .val (.long v142), .second, .val (.int v144), .val (.int v149)] [(.int (1 : Int32))])) _
    refine XS.goto X151.here hx rfl (pc0 := 219) (pc' := 223) rfl (hb hby at_219) (by decide) (by decide) ?_
    exact k
  refine own_ret (Q := Q0 Z p0 p1 p2 h0 n0) (v := some (.int (1 : Int32))) X151 hlk (fun h => by rw [hrt] at h; cases h) (by decide) (by decide) ?_ (fun fs hr => retN X151 hx (t := .boolean) hrt (by simp) (hb hby at_223) hr)
  rw [e151]
  exact ⟨rfl, N151⟩
set_option maxRecDepth 65536 in
set_option maxHeartbeats 40000000 in
theorem comes_1 {Post : Tables → Env → Array Value → State → Outcome → State → Prop} (hpost : ∀ tb e args s v u, (limb_1_1.after args s (.returned v) u = true ∧ limb_1_2.after args s (.returned v) u = true ∧ True) → FrameEnd s (.returned v) u (Jvm.fieldLocs frame_1_writes args s ++ Jvm.arrayLocs frame_1_arrays args s ++ Jvm.staticLocs frame_1_statics s) 16 128 → Post tb e args s (.returned v) u) :
    ArmFor flags0 classFile x code maxLocals ret World_1 tables_1 room_1 Calls_1 rest_1 Pre_1 Post := by
  intro l hfl _ _ p e ha hc hk s m args below hf hA hF happ hP
  obtain ⟨hcalls, hrest, hpre⟩ := hP
  obtain ⟨-, -, -, hnamed, -, -, -, hat⟩ := (Spec.applies_iff hf).mp happ
  obtain ⟨hg, hn⟩ := and_e (Cond.before_iff.mp (show (Jvm.Cond.and given_1 narrow_1).before args s = true from hpre))
  obtain ⟨gg1, gg2⟩ := and_e hg
  obtain ⟨gg3, gg4⟩ := and_e gg2
  obtain ⟨gg5, gg6⟩ := and_e gg4
  obtain ⟨w0, w1, w2, rfl⟩ : ∃ w0 w1 w2 : Value, args = #[w0, w1, w2] := by
    have hs : args.size = 3 := by simpa [Cond.value, given_1] using gg1
    obtain ⟨L⟩ := args
    match L, hs with
    | [w0, w1, w2], _ => exact ⟨w0, w1, w2, rfl⟩
  have hw := fun d (hd : d ∈ tables_1) => atoms_spec (ws := Jvm.Cond.code x code maxLocals ret :: tables_1) hat d (List.mem_cons_of_mem _ hd)
  obtain ⟨i0, ei0⟩ := is_v gg3
  obtain rfl : w0 = (.int i0) := Option.some.inj ei0
  obtain ⟨i1, ei1⟩ := is_v gg5
  obtain rfl : w1 = (.int i1) := Option.some.inj ei1
  obtain ⟨i2, ei2⟩ := is_v gg6
  obtain rfl : w2 = (.int i2) := Option.some.inj ei2
  obtain ⟨n, o, h1, h2, h3, _, L, rfl, ⟨rfl, N⟩, hq⟩ := rm0 l s _ hw tables_1 i0 i1 i2 s.heap s.heap.size (Nat.le_refl _)  p e ha hc hk s m _ below hf ((Spec.applies_iff_loose hf).mp happ).1 ⟨rfl, State.Warmed39.refl s, rfl⟩ trivial
  refine ⟨n, _, h1, h2, h3, hpost _ _ _ _ _ _ ⟨Cond.after_iff.mpr rfl, Cond.after_iff.mpr (eq_i res_at (Term.int_eval (1)) rfl), trivial⟩ ⟨hq.1, hq.2.1, (hq.2.2.sift fun y hy => Or.inr (N y hy)).mono (by decide) (by decide)⟩⟩
theorem main_1_1 : Claimed_1_1 := comes_1 fun _ _ _ _ _ _ h hF => ⟨h.1, hF⟩
theorem main_1_2 : Claimed_1_2 := comes_1 fun _ _ _ _ _ _ h hF => ⟨h.2.1, hF⟩
end Jvm.Pilot.@@N@@
namespace Jvm.Pilot.@@N@@
open Jvm Jvm.ClassFile Sem Op Lib Jvm.Free Jvm.Stand Jvm.Pilot.@@N@@.Jvm.D
/-! MADE BY PROGRAM (witnessworld.py) out of the Statement's table words and the real class files: 9 classes; the members and pool entries that the words name. The judged class is class 1, her method 1. -/
namespace start1
open Jvm.ClassFile
def u (s : String) : CpInfo := .utf8 (stringToUtf16 s)
/-- a pool by its gaps: so many unusable entries, then the entry; so many at the end -/
def gap : Nat → List CpInfo → List CpInfo
  | 0, r => r
  | n + 1, r => .unusable :: gap n r
def poolList (es : List (Nat × CpInfo)) (last : Nat) : List CpInfo := es.foldr (fun e r => gap e.1 (e.2 :: r)) (gap last [])
def pool (es : List (Nat × CpInfo)) (last : Nat) : Array CpInfo := ⟨poolList es last⟩
def fileOf (pool : Array CpInfo) (this : Nat) (attrs : Array Attribute := #[]) (ms : Array MethodInfo := #[]) (fl : Nat := 33) (sup : Nat := 0) (ifs : Array Nat := #[]) (fds : Array FieldInfo := #[]) : ClassFile where
  minorVersion := 0
  majorVersion := 65
  constantPool := pool
  accessFlags := fl
  thisClass := this
  superClass := sup
  interfaces := ifs
  fields := fds
  methods := ms
  attributes := attrs
def plain (name : String) (sup : Option ClassId) : Class where
  name := name
  kind := .ordinary
  loader := none
  accessFlags := 33
  super := sup
  interfaces := #[]
  cf := none
  fields := #[]
  methods := #[]
  instanceTypes := #[]
  staticTypes := #[]
  resolved := #[]
  callSites := []
  init := .initialized
  statics := none
  mirror := none

def pool0 : Array CpInfo := pool [(5, u "<init>"), (0, u "()V"), (1, .class_ 10), (1, u "java/lang/Object")] 113

def k0m0 : Method := { name := "<init>", desc := "()V", sig := { parameters := [], returnType := none }, accessFlags := 1, code := none }
/-- java/lang/Object -/
def k0 : Class := { plain "java/lang/Object" none with
  accessFlags := 33
  interfaces := #[]
  cf := some (fileOf pool0 8 #[] #[{ accessFlags := 1, nameIndex := 5, descriptorIndex := 6, attributes := #[] }] 33 0 #[] #[])
  fields := #[]
  methods := #[k0m0]
  instanceTypes := #[]
  staticTypes := #[]
  resolved := Array.replicate 124 none
  statics := none }

def pool1 : Array CpInfo := pool [(2, .class_ 4), (1, u "java/lang/Object"), (0, u "<init>"), (0, u "()V"), (0, .integer 99999), (0, .integer 2147483647), (0, .integer 100000), (0, .long 100000), (3, .long 2147483647), (1, .methodref 17 18), (0, .class_ 19), (0, .nameAndType 20 21), (0, u "com/example/quiesce/quiesce/model/Uids"), (0, u "isCoreProcess"), (0, u "(I)Z"), (0, .class_ 23), (0, u "com/example/quiesce/quiesce/model/UidsIsCoreProcessPinLaw"), (2, u "law"), (0, u "(III)Z")] 5

def k1m0 : Method := { name := "<init>", desc := "()V", sig := { parameters := [], returnType := none }, accessFlags := 2, code := none }
def k1c1 : Code := { maxStack := 4, maxLocals := 13, code := code, exceptionTable := #[], attributes := #[] }
def k1m1 : Method := { name := "law", desc := "(III)Z", sig := { parameters := [.int, .int, .int], returnType := some .boolean }, accessFlags := 9, code := some k1c1 }
/-- com/example/quiesce/quiesce/model/UidsIsCoreProcessPinLaw -/
def k1 : Class := { plain "com/example/quiesce/quiesce/model/UidsIsCoreProcessPinLaw" (some 0) with
  accessFlags := 49
  interfaces := #[]
  cf := some (fileOf pool1 22 #[] #[{ accessFlags := 2, nameIndex := 5, descriptorIndex := 6, attributes := #[] }, { accessFlags := 9, nameIndex := 26, descriptorIndex := 27, attributes := #[] }] 49 2 #[] #[])
  fields := #[]
  methods := #[k1m0, k1m1]
  instanceTypes := #[]
  staticTypes := #[]
  resolved := Array.replicate 33 none
  statics := none }

def pool2 : Array CpInfo := pool [(2, .class_ 4), (1, u "java/lang/Object"), (0, u "<init>"), (0, u "()V"), (0, .class_ 8), (0, u "com/example/quiesce/quiesce/model/Uids"), (0, .integer 100000), (0, .methodref 7 11), (0, .nameAndType 12 13), (0, u "appId"), (0, u "(I)I"), (40, u "FIRST_IDS_BY_LETTER"), (0, u "Ljava/util/Map;"), (22, u "WRITTEN"), (0, u "Ljava/util/regex/Pattern;"), (57, u "FORM"), (0, u "Ljava/lang/String;"), (4, u "FIRST_APPLICATION_ID"), (0, u "I"), (2, u "FIRST_ISOLATED_ID"), (0, u "SYSTEM_ID"), (1, u "PER_USER_RANGE"), (0, u "ROOT_ID"), (1, u "PHONE_ID"), (1, u "SHELL_ID"), (6, u "isCoreProcess"), (0, u "(I)Z")] 29

def k2m0 : Method := { name := "<init>", desc := "()V", sig := { parameters := [], returnType := none }, accessFlags := 2, code := none }
def k2c1 : Code := { maxStack := 2, maxLocals := 1, code := prog_64_method_2_code, exceptionTable := #[], attributes := #[] }
def k2m1 : Method := { name := "appId", desc := "(I)I", sig := { parameters := [.int], returnType := some .int }, accessFlags := 9, code := some k2c1 }
def k2c2 : Code := { maxStack := 2, maxLocals := 2, code := prog_64_method_4_code, exceptionTable := #[], attributes := #[] }
def k2m2 : Method := { name := "isCoreProcess", desc := "(I)Z", sig := { parameters := [.int], returnType := some .boolean }, accessFlags := 9, code := some k2c2 }
/-- com/example/quiesce/quiesce/model/Uids -/
def k2 : Class := { plain "com/example/quiesce/quiesce/model/Uids" (some 0) with
  accessFlags := 33
  interfaces := #[]
  cf := some (fileOf pool2 7 #[] #[{ accessFlags := 2, nameIndex := 5, descriptorIndex := 6, attributes := #[] }, { accessFlags := 9, nameIndex := 12, descriptorIndex := 13, attributes := #[] }, { accessFlags := 9, nameIndex := 162, descriptorIndex := 163, attributes := #[] }] 33 2 #[] #[{ accessFlags := 25, nameIndex := 143, descriptorIndex := 144, attributes := #[] }, { accessFlags := 25, nameIndex := 147, descriptorIndex := 144, attributes := #[] }, { accessFlags := 25, nameIndex := 148, descriptorIndex := 144, attributes := #[] }, { accessFlags := 26, nameIndex := 150, descriptorIndex := 144, attributes := #[] }, { accessFlags := 26, nameIndex := 151, descriptorIndex := 144, attributes := #[] }, { accessFlags := 26, nameIndex := 153, descriptorIndex := 144, attributes := #[] }, { accessFlags := 26, nameIndex := 155, descriptorIndex := 144, attributes := #[] }, { accessFlags := 26, nameIndex := 54, descriptorIndex := 55, attributes := #[] }, { accessFlags := 25, nameIndex := 137, descriptorIndex := 138, attributes := #[] }, { accessFlags := 26, nameIndex := 78, descriptorIndex := 79, attributes := #[] }])
  fields := #[{ name := "FIRST_APPLICATION_ID", type := .int, accessFlags := 25, slot := 0, constantValue := 0 }, { name := "FIRST_ISOLATED_ID", type := .int, accessFlags := 25, slot := 1, constantValue := 0 }, { name := "SYSTEM_ID", type := .int, accessFlags := 25, slot := 2, constantValue := 0 }, { name := "PER_USER_RANGE", type := .int, accessFlags := 26, slot := 3, constantValue := 0 }, { name := "ROOT_ID", type := .int, accessFlags := 26, slot := 4, constantValue := 0 }, { name := "PHONE_ID", type := .int, accessFlags := 26, slot := 5, constantValue := 0 }, { name := "SHELL_ID", type := .int, accessFlags := 26, slot := 6, constantValue := 0 }, { name := "FIRST_IDS_BY_LETTER", type := (.object "java/util/Map"), accessFlags := 26, slot := 7, constantValue := 0 }, { name := "FORM", type := (.object "java/lang/String"), accessFlags := 25, slot := 8, constantValue := 0 }, { name := "WRITTEN", type := (.object "java/util/regex/Pattern"), accessFlags := 26, slot := 9, constantValue := 0 }]
  methods := #[k2m0, k2m1, k2m2]
  instanceTypes := #[]
  staticTypes := #[.int, .int, .int, .int, .int, .int, .int, (.object "java/util/Map"), (.object "java/lang/String"), (.object "java/util/regex/Pattern")]
  resolved := Array.replicate 193 none
  statics := none }

def pool3 : Array CpInfo := pool [(1, u "java/lang/Cloneable"), (0, .class_ 1), (0, u "java/lang/Object"), (0, .class_ 3)] 3

/-- java/lang/Cloneable -/
def k3 : Class := { plain "java/lang/Cloneable" (some 0) with
  accessFlags := 1537
  interfaces := #[]
  cf := some (fileOf pool3 2 #[] #[] 1537 4 #[] #[])
  fields := #[]
  methods := #[]
  instanceTypes := #[]
  staticTypes := #[]
  resolved := Array.replicate 8 none
  statics := none }

def pool4 : Array CpInfo := pool [(1, u "java/io/Serializable"), (0, .class_ 1), (0, u "java/lang/Object"), (0, .class_ 3)] 3

/-- java/io/Serializable -/
def k4 : Class := { plain "java/io/Serializable" (some 0) with
  accessFlags := 1537
  interfaces := #[]
  cf := some (fileOf pool4 2 #[] #[] 1537 4 #[] #[])
  fields := #[]
  methods := #[]
  instanceTypes := #[]
  staticTypes := #[]
  resolved := Array.replicate 8 none
  statics := none }

/-- the primitive byte -/
def k5 : Class := { plain "byte" none with kind := .primitive 'B', accessFlags := 0x411 }
/-- [B -/
def k6 : Class := { plain "[B" (some 0) with kind := .array 5 .byte, interfaces := #[3, 4], accessFlags := 1041 }

/-- the primitive int -/
def k7 : Class := { plain "int" none with kind := .primitive 'I', accessFlags := 0x411 }
/-- [I -/
def k8 : Class := { plain "[I" (some 0) with kind := .array 7 .int, interfaces := #[3, 4], accessFlags := 1041 }

def heap : Heap := #[]
def classes : Array Class := #[k0, k1, k2, k3, k4, k5, k6, k7, k8]
def interned : List (Array UInt16 × Addr) := []
def slotsUsed : Nat := 0
def theMethod : MethodId := ⟨1, 1⟩
def args0 : Array Value := #[.int 5, .int 6, .int 7]
def aboutOver (below : List Frame) : State where
  vm := { classes := classes, interned := interned.toArray }
  heap := heap
  slotsUsed := slotsUsed
  threads := #[{ frames := .invoking theMethod args0 :: below }]
def below0 : List Frame := [.native { method := ⟨0, 0⟩, args := #[] }]
def about1 : State := aboutOver below0
def p0 : Program := .bare "" "" ""
def e0 : Env := launch0.env 0 0 0
theorem w_frames : about1.frames = Frame.invoking theMethod args0 :: below0 := rfl
set_option maxRecDepth 65536 in
theorem w_args : argsFit about1.vm theMethod args0 = true := by decide +kernel
set_option maxRecDepth 65536 in
theorem w_heap : heapFits about1 = true := by decide +kernel
set_option maxRecDepth 65536 in
theorem w_runnable : about1.curStatus? = some .runnable := by decide +kernel
set_option maxRecDepth 65536 in
theorem w_alone : about1.alone = true := by decide +kernel
set_option maxRecDepth 65536 in
theorem w_named : about1.methodNamed? x = some theMethod := by decide +kernel
set_option maxRecDepth 65536 in
theorem w_hears : about1.hears theMethod below0 = true := by decide +kernel
set_option maxRecDepth 65536 in
theorem w_ripe : about1.ripe theMethod args0 below0 = true := by decide +kernel
theorem w_running : about1.status = .running := rfl
set_option maxRecDepth 65536 in
theorem w_room : about1.hasRoom e0.platform room_1 = true :=
  launch0.hasRoom_least _ room_1 (by decide +kernel) (by decide +kernel) (by decide +kernel) (by decide +kernel) (by decide +kernel) (by decide +kernel)
theorem allAtoms_all (ts : List Jvm.Cond) (a : Array Jvm.Value) (st : Jvm.State) : (allAtoms ts).before a st = ts.all (fun c => c.before a st) := by
  induction ts with
  | nil => rfl
  | cons c t ih =>
    show (Jvm.Cond.and c (allAtoms t)).before a st = _
    rw [Jvm.Cond.before_and, ih, List.all_cons]
def words1 : List Jvm.Cond := Jvm.Cond.code x code maxLocals ret :: tables_1
/-- a 'code' word, met by the world's own term for the bytes: nothing is compared byte by byte -/
theorem code_word {y : MethodName} {bytes : ByteArray} {mx : Nat} {rt : Option FieldType} {a : Array Value} {s : State} {m : MethodId} {meth : Method} {c : Code} (h1 : s.methodNamed? y = some m) (h2 : s.vm.method? m = some meth) (h3 : meth.code = some c) (h4 : c.code = bytes)
    (h5 : (c.maxLocals == mx && c.exceptionTable.isEmpty && decide (c.maxStack ≤ mostOperands) && decide (meth.sig.returnType = rt) && !meth.locks && decide (parseMethodDescriptor y.desc = some meth.sig)) = true) : (Jvm.Cond.code y bytes mx rt).before a s = true := by
  simp only [Bool.and_eq_true, beq_iff_eq, Bool.not_eq_true', decide_eq_true_eq] at h5
  obtain ⟨⟨⟨⟨⟨g1, g2⟩, g3⟩, g4⟩, g5⟩, g6⟩ := h5
  simp [Cond.before, Cond.holds, Cond.value, h1, h2, h3, h4, g1, g2, g3, g4, g5, g6]
def isCode : Jvm.Cond → Bool
  | .code _ _ _ _ => true
  | _ => false
theorem all_split {L : List Jvm.Cond} {P : Jvm.Cond → Bool} (h1 : L.all (fun c => isCode c || P c) = true) (h2 : ∀ c ∈ L.filter isCode, P c = true) : L.all P = true := by
  refine List.all_eq_true.mpr fun c hc => ?_
  have h := List.all_eq_true.mp h1 c hc
  rcases Bool.eq_false_or_eq_true (isCode c) with hi | hi
  · exact h2 c (List.mem_filter.mpr ⟨hc, hi⟩)
  · simpa [hi] using h
set_option maxRecDepth 65536 in
theorem w_c0 : (Jvm.Cond.code x code maxLocals ret).before args0 about1 = true := code_word (m := ⟨1, 1⟩) (meth := k1m1) (c := k1c1) (by decide +kernel) rfl rfl rfl (by decide +kernel)
set_option maxRecDepth 65536 in
theorem w_c1 : (Jvm.Cond.code ({ cls := "com/example/quiesce/quiesce/model/Uids", name := "isCoreProcess", desc := "(I)Z" } : Jvm.MethodName) prog_64_method_4_code (2 : Nat) (Option.some Jvm.ClassFile.FieldType.boolean)).before args0 about1 = true := code_word (m := ⟨2, 2⟩) (meth := k2m2) (c := k2c2) (by decide +kernel) rfl rfl rfl (by decide +kernel)
set_option maxRecDepth 65536 in
theorem w_c2 : (Jvm.Cond.code ({ cls := "com/example/quiesce/quiesce/model/Uids", name := "appId", desc := "(I)I" } : Jvm.MethodName) prog_64_method_2_code (1 : Nat) (Option.some Jvm.ClassFile.FieldType.int)).before args0 about1 = true := code_word (m := ⟨2, 1⟩) (meth := k2m1) (c := k2c1) (by decide +kernel) rfl rfl rfl (by decide +kernel)
def codes1 : List Jvm.Cond := [Jvm.Cond.code x code maxLocals ret, Jvm.Cond.code ({ cls := "com/example/quiesce/quiesce/model/Uids", name := "isCoreProcess", desc := "(I)Z" } : Jvm.MethodName) prog_64_method_4_code (2 : Nat) (Option.some Jvm.ClassFile.FieldType.boolean), Jvm.Cond.code ({ cls := "com/example/quiesce/quiesce/model/Uids", name := "appId", desc := "(I)I" } : Jvm.MethodName) prog_64_method_2_code (1 : Nat) (Option.some Jvm.ClassFile.FieldType.int)]
set_option maxRecDepth 65536 in
theorem codes_eq : words1.filter isCode = codes1 := rfl
theorem w_codes : ∀ c ∈ words1.filter isCode, c.before args0 about1 = true := by
  rw [codes_eq]
  intro c hc
  simp only [codes1, List.mem_cons, List.not_mem_nil, or_false] at hc
  rcases hc with rfl | rfl | rfl
  · exact w_c0
  · exact w_c1
  · exact w_c2
set_option maxRecDepth 65536 in
theorem w_t1 : words1.all (fun c => isCode c || c.before args0 about1) = true := by decide +kernel
theorem w_tables : (allAtoms (Jvm.Cond.code x code maxLocals ret :: tables_1)).before args0 about1 = true := by
  rw [allAtoms_all]
  show words1.all (fun c => c.before args0 about1) = true
  refine all_split ?_ w_codes
  rw [w_t1]
set_option maxRecDepth 65536 in
theorem w_case : (Jvm.Cond.and given_1 narrow_1).before args0 about1 = true := by decide +kernel
theorem w_applies : (headSpec (Jvm.Cond.code x code maxLocals ret :: tables_1) room_1).applies x e0.platform about1 = true :=
  (Spec.applies_iff w_frames).mpr ⟨w_running, w_runnable, w_alone, w_named, w_hears, w_ripe, w_room, w_tables⟩
theorem atStart : AtStart classFile x code maxLocals ret World_1 tables_1 room_1 Calls_1 rest_1 Pre_1 launch0 p0 e0 about1 theMethod args0 below0 :=
  ⟨lists_1, trivial, launch0.admits_env _ _ _, launch0.least_env, fairChoices_fair.cas, fairChoices_fair.clock, w_frames, w_args, w_heap, w_applies, trivial, trivial, w_case⟩
end start1
theorem witness_1 : WitnessClaimed_1 := ⟨start1.p0, start1.e0, start1.about1, start1.theMethod, start1.args0, start1.below0, start1.atStart⟩
end Jvm.Pilot.@@N@@
