import JvmDerived
import JvmDerived.Pilot.@@N@@Statement
import JvmDerived.Pilot.@@N@@Code
set_option linter.unusedVariables false
set_option linter.unusedSimpArgs false
namespace Jvm.Pilot.@@N@@
open Jvm Jvm.ClassFile Sem Op Lib Jvm.Free Jvm.Stand Jvm.LawKit Jvm.RoadKit Bundle Jvm.Pilot.@@N@@.Jvm.D
theorem own_w {Z : State} {a0 : Array Value} {d : Jvm.Cond} (hw : ∀ d ∈ tables_1, d.before a0 Z = true) (i : Nat) (h : tables_1[i]? = some d) : d.before a0 Z = true := hw d (List.mem_of_getElem? h)
/-- from U the run comes to an end of which G says -/
def Go (p : Program) (e : Env) (below : List Frame) (G : State → Outcome → Prop) (U : State) : Prop := ∃ s₂ o, Steps p.tables e below U s₂ ∧ s₂.status = .running ∧ Ended s₂ below o ∧ G s₂ o
theorem Go.st {p : Program} {e : Env} {below : List Frame} {G : State → Outcome → Prop} {U U' : State} (h : ∀ t, Steps p.tables e below U' t → Steps p.tables e below U t) (k : Go p e below G U') : Go p e below G U := by
  obtain ⟨t, o, h1, r⟩ := k
  exact ⟨t, o, h _ h1, r⟩
theorem Go.tr {p : Program} {e : Env} {below : List Frame} {G : State → Outcome → Prop} {U U' : State} (h : Steps p.tables e below U U') (k : Go p e below G U') : Go p e below G U := by
  obtain ⟨t, o, h1, r⟩ := k
  exact ⟨t, o, h.trans h1, r⟩
theorem Go.join {p : Program} {e : Env} {below : List Frame} {G : State → Outcome → Prop} {U : State} {α : Type} {P : α → Prop} {F : α → State} (h2 : (∀ v, P v → Go p e below G (F v)) → Go p e below G U) (h1 : ∀ v, P v → Go p e below G (F v)) : Go p e below G U := h2 h1
theorem Go.join2 {p : Program} {e : Env} {below : List Frame} {G : State → Outcome → Prop} {U : State} {α β : Type} {P : α → β → Prop} {F : α → β → State} (h2 : (∀ v w, P v w → Go p e below G (F v w)) → Go p e below G U) (h1 : ∀ v w, P v w → Go p e below G (F v w)) : Go p e below G U := h2 h1
theorem Go.join3 {p : Program} {e : Env} {below : List Frame} {G : State → Outcome → Prop} {U : State} {α β γ : Type} {P : α → β → γ → Prop} {F : α → β → γ → State} (h2 : (∀ v w u, P v w u → Go p e below G (F v w u)) → Go p e below G U) (h1 : ∀ v w u, P v w u → Go p e below G (F v w u)) : Go p e below G U := h2 h1
theorem own_ret {p : Program} {l : Launch} {e : Env} {R : Room} {s : State} {m : MethodId} {args : Array Value} {below : List Frame} {meth : Method} {c : Code} {T U : State} {locs : List Loc} {cells slots : Nat} {Q : Option Value → Heap → List Loc → Prop} {rc rs : Nat} {v : Option Value}
    (X : Stand p l e R s m args below meth c T locs cells slots) (hlk : meth.locks = false) (hv : meth.sig.returnType = none → v = none) (hc : cells ≤ rc) (hs : slots ≤ rs) (hq : Q v T.heap locs)
    (st : ∀ fs, (∀ (f : JFrame) (acts : List Action), f.method = m → f.locked = none → f.entered = [] → (doReturn e (T.setTop f) acts v).1 = T.setFrames fs) → Steps p.tables e below U (T.setFrames fs)) :
    Go p e below (fun s₂ o => ∃ v L, o = .returned v ∧ Q v s₂.heap L ∧ FrameEnd s o s₂ L rc rs) U := by
  obtain ⟨fs, hr, hrun, hended, hW, hsame⟩ := X.leave (v := v) hv hlk
  exact ⟨_, _, st fs hr, hrun, hended, _, _, rfl, hq, ⟨_, rfl⟩, hW, hsame.mono hc hs⟩
theorem own_getI (L : List Int32) (i : Nat) : (L.map Value.int).getD i (.int 0) = .int (L.getD i 0) := by
  induction L generalizing i with
  | nil => rfl
  | cons a r ih => cases i with
    | zero => rfl
    | succ i => exact ih i
theorem own_getJ (L : List Int64) (i : Nat) : (L.map Value.long).getD i (.long 0) = .long (L.getD i 0) := by
  induction L generalizing i with
  | nil => rfl
  | cons a r ih => cases i with
    | zero => rfl
    | succ i => exact ih i
theorem own_getP {P : Int32 → Prop} (h0 : P 0) (L : List Int32) (h : ∀ x ∈ L, P x) (i : Nat) : P (L.getD i 0) := by
  induction L generalizing i with
  | nil => exact h0
  | cons a r ih => cases i with
    | zero => exact h a (List.mem_cons_self ..)
    | succ i => exact ih (fun x hx => h x (List.mem_cons_of_mem _ hx)) i
theorem own_mk (x m n : Int32) (k : Nat) (hk : k ≤ 31) (hm : m.toBitVec.toNat = 2 ^ k - 1) (hn : ((2 ^ k : Nat) : Int) ≤ n.toInt) : ¬ (x &&& m) < 0 ∧ (x &&& m) < n := by
  have h := c_mask x m k hk hm
  have h2 : (0 : Int) < ((2 ^ k : Nat) : Int) := Int.ofNat_lt.mpr (Nat.two_pow_pos k)
  have h3 := Int.emod_nonneg x.toInt (Int.ne_of_gt h2)
  have h4 := Int.emod_lt_of_pos x.toInt h2
  rw [Int32.lt_iff_toInt_lt, Int32.lt_iff_toInt_lt, h]
  exact ⟨Int.not_lt.mpr h3, Int.lt_of_lt_of_le h4 hn⟩
abbrev own_y0 : MethodName := ⟨"com/example/ligature/ligature/text/TextScanner", "isNameStart", "(I)Z"⟩
abbrev own_y1 : MethodName := ⟨"com/example/ligature/ligature/text/TextScannerIsNameStartPinLaw", "ref", "(I)Z"⟩
abbrev own_y2 : MethodName := ⟨"com/example/ligature/ligature/text/TextScannerIsNameStartPinLaw", "agrees", "(I)Z"⟩
theorem d2_0 : decode prog_63_method_22_code 0 = .ok (.iload_n 0, 1) := by decide +kernel
theorem d2_1 : decode prog_63_method_22_code 1 = .ok (.bipush 65, 2) := by decide +kernel
theorem d2_3 : decode prog_63_method_22_code 3 = .ok (.if_icmp .lt 9, 3) := by decide +kernel
theorem d2_6 : decode prog_63_method_22_code 6 = .ok (.iload_n 0, 1) := by decide +kernel
theorem d2_7 : decode prog_63_method_22_code 7 = .ok (.bipush 90, 2) := by decide +kernel
theorem d2_9 : decode prog_63_method_22_code 9 = .ok (.if_icmp .le 21, 3) := by decide +kernel
theorem d2_12 : decode prog_63_method_22_code 12 = .ok (.iload_n 0, 1) := by decide +kernel
theorem d2_13 : decode prog_63_method_22_code 13 = .ok (.bipush 97, 2) := by decide +kernel
theorem d2_15 : decode prog_63_method_22_code 15 = .ok (.if_icmp .lt 9, 3) := by decide +kernel
theorem d2_18 : decode prog_63_method_22_code 18 = .ok (.iload_n 0, 1) := by decide +kernel
theorem d2_19 : decode prog_63_method_22_code 19 = .ok (.bipush 122, 2) := by decide +kernel
theorem d2_21 : decode prog_63_method_22_code 21 = .ok (.if_icmp .le 9, 3) := by decide +kernel
theorem d2_24 : decode prog_63_method_22_code 24 = .ok (.iload_n 0, 1) := by decide +kernel
theorem d2_25 : decode prog_63_method_22_code 25 = .ok (.bipush 95, 2) := by decide +kernel
theorem d2_27 : decode prog_63_method_22_code 27 = .ok (.if_icmp .ne 7, 3) := by decide +kernel
theorem d2_30 : decode prog_63_method_22_code 30 = .ok (.iconst 1, 1) := by decide +kernel
theorem d2_31 : decode prog_63_method_22_code 31 = .ok (.goto 4, 3) := by decide +kernel
theorem d2_34 : decode prog_63_method_22_code 34 = .ok (.iconst 0, 1) := by decide +kernel
theorem d2_35 : decode prog_63_method_22_code 35 = .ok (.ireturn, 1) := by decide +kernel
theorem pn_0 : plainName "com/example/ligature/ligature/text/TextScanner" = true := by first | (simp [plainName, overriddenIn]; done) | decide +kernel
theorem ef1 (m : MethodId) (p1 : Int32) : entryFrame m #[(.int p1)] 1 = mkF m 0 #[.val (.int p1)] [] := by first | (simp [entryFrame, mkF, argsToLocals, Value.category]; done) | rfl
abbrev own_R0_0_0_0 : Room := { frames := 0, cells := 0, slots := 0, locals := 0 }
def f1 (p1 : Int32) : Int32 := (if p1 < (65 : Int32) then (if p1 < (97 : Int32) then (if p1 = (95 : Int32) then (1 : Int32) else (0 : Int32)) else (if (122 : Int32) < p1 then (if p1 = (95 : Int32) then (1 : Int32) else (0 : Int32)) else (1 : Int32))) else (if (90 : Int32) < p1 then (if p1 < (97 : Int32) then (if p1 = (95 : Int32) then (1 : Int32) else (0 : Int32)) else (if (122 : Int32) < p1 then (if p1 = (95 : Int32) then (1 : Int32) else (0 : Int32)) else (1 : Int32))) else (1 : Int32)))
def Q1 (Z : State) (p1 : Int32) (h0 : Heap) (n0 : Nat) (v : Option Value) (h : Heap) (L : List Loc) : Prop := v = some (.int (f1 p1)) ∧ Fr n0 L ∧ h = h0
set_option maxRecDepth 65536 in
set_option maxHeartbeats 40000000 in
theorem rm1 (l : Launch) (Z : State) (a0 : Array Value) (hw : ∀ d ∈ tables_1, d.before a0 Z = true) (ws : List Jvm.Cond) (p1 : Int32) (h0 : Heap) (n0 : Nat) (Z0 : n0 ≤ h0.size) :
    MetFree l own_y0 (head1 (Jvm.Cond.code own_y0 prog_63_method_22_code 1 (some .boolean) :: ws) own_R0_0_0_0) (fun a U => a = #[(.int p1)] ∧ Z.Warmed39 U.vm ∧ U.heap = h0) (fun _ _ _ _ _ => True) (fun _ U o U' => ∃ v L, o = .returned v ∧ Q1 Z p1 h0 n0 v U'.heap L ∧ FrameEnd U o U' L (own_R0_0_0_0).cells (own_R0_0_0_0).slots) := by
  refine MetFree.of_bodySF (plainFor_of_name pn_0) hisR ?_
  intro p e s m args below meth c s₁ Bd hml0 hP hK
  obtain ⟨rfl, hZ, hh⟩ := hP
  have hx := Bd.exec
  have hby := Bd.bytes
  have hml : c.maxLocals = 1 := hml0
  have hown : s.vm.findClass "com/example/ligature/ligature/text/TextScanner" = some m.cls := findClass_of_methodNamed Bd.named
  have hnm := (name_of_methodNamed Bd.named Bd.method).1
  have hlk : meth.locks = false := BodyLoose.notSynchronized Bd
  have hrt := Bd.returns
  have X0 : Stand p l e own_R0_0_0_0 s m #[(.int p1)] below meth c s₁ [] 0 0 := Stand.of_body Bd
  have e0 : s₁.heap = h0 := by rw [← hh, Bd.state]; rfl
  have N0 := Fr.nil n0
  refine (show Go p e below (fun s₂ o => ∃ v L, o = .returned v ∧ Q1 Z p1 h0 n0 v s₂.heap L ∧ FrameEnd s o s₂ L 0 0) (s₁.setTop (entryFrame m #[(.int p1)] 1)) from ?_)
  rw [ef1]
  refine Go.st (U' := s₁.setTop (mkF m 3 #[.val (.int p1)] [(.int (65 : Int32)), (.int p1)])) (fun t k => ?_) ?_
  · show Steps p.tables e below (s₁.setTop (mkF m 0 #[.val (.int p1)] [])) _
    refine XS.iloadN X0.here hx rfl (hb hby d2_0) rfl ?_
    show Steps p.tables e below (s₁.setTop (mkF m 1 #[.val (.int p1)] [(.int p1)])) _
    refine XS.bipush X0.here hx rfl (hb hby d2_1) ?_
    exact k
  by_cases hc1 : p1 < (65 : Int32)
  · refine Go.st (U' := s₁.setTop (mkF m 15 #[.val (.int p1)] [(.int (97 : Int32)), (.int p1)])) (fun t k => ?_) ?_
    · show Steps p.tables e below (s₁.setTop (mkF m 3 #[.val (.int p1)] [(.int (65 : Int32)), (.int p1)])) _
      refine XS.icmpYes X0.here hx rfl (pc0 := 3) (pc' := 12) rfl (hb hby d2_3) rfl (tlt hc1).1 (by decide) (by decide) ?_
      show Steps p.tables e below (s₁.setTop (mkF m 12 #[.val (.int p1)] [])) _
      refine XS.iloadN X0.here hx rfl (hb hby d2_12) rfl ?_
      show Steps p.tables e below (s₁.setTop (mkF m 13 #[.val (.int p1)] [(.int p1)])) _
      refine XS.bipush X0.here hx rfl (hb hby d2_13) ?_
      exact k
    by_cases hc2 : p1 < (97 : Int32)
    · refine Go.st (U' := s₁.setTop (mkF m 27 #[.val (.int p1)] [(.int (95 : Int32)), (.int p1)])) (fun t k => ?_) ?_
      · show Steps p.tables e below (s₁.setTop (mkF m 15 #[.val (.int p1)] [(.int (97 : Int32)), (.int p1)])) _
        refine XS.icmpYes X0.here hx rfl (pc0 := 15) (pc' := 24) rfl (hb hby d2_15) rfl (tlt hc2).1 (by decide) (by decide) ?_
        show Steps p.tables e below (s₁.setTop (mkF m 24 #[.val (.int p1)] [])) _
        refine XS.iloadN X0.here hx rfl (hb hby d2_24) rfl ?_
        show Steps p.tables e below (s₁.setTop (mkF m 25 #[.val (.int p1)] [(.int p1)])) _
        refine XS.bipush X0.here hx rfl (hb hby d2_25) ?_
        exact k
      by_cases hc3 : p1 = (95 : Int32)
      · refine Go.st (U' := s₁.setTop (mkF m 35 #[.val (.int p1)] [(.int (1 : Int32))])) (fun t k => ?_) ?_
        · show Steps p.tables e below (s₁.setTop (mkF m 27 #[.val (.int p1)] [(.int (95 : Int32)), (.int p1)])) _
          refine XS.icmpNo X0.here hx rfl (hb hby d2_27) rfl (teq hc3).2 ?_
          show Steps p.tables e below (s₁.setTop (mkF m 30 #[.val (.int p1)] [])) _
          refine XS.iconst X0.here hx rfl (hb hby d2_30) ?_
          show Steps p.tables e below (s₁.setTop (mkF m 31 #[.val (.int p1)] [(.int (1 : Int32))])) _
          refine XS.goto X0.here hx rfl (pc0 := 31) (pc' := 35) rfl (hb hby d2_31) (by decide) (by decide) ?_
          exact k
        refine own_ret (Q := Q1 Z p1 h0 n0) (v := some (.int (1 : Int32))) X0 hlk (fun h => by rw [hrt] at h; cases h) (by decide) (by decide) ?_ (fun fs hr => retN X0 hx (t := .boolean) hrt (by simp) (hb hby d2_35) hr)
        rw [e0]
        exact ⟨(by first | rfl | simp only [f1, if_pos hc1, if_pos hc2, if_pos hc3]), N0, rfl⟩
      · refine Go.st (U' := s₁.setTop (mkF m 35 #[.val (.int p1)] [(.int (0 : Int32))])) (fun t k => ?_) ?_
        · show Steps p.tables e below (s₁.setTop (mkF m 27 #[.val (.int p1)] [(.int (95 : Int32)), (.int p1)])) _
          refine XS.icmpYes X0.here hx rfl (pc0 := 27) (pc' := 34) rfl (hb hby d2_27) rfl (feq hc3).2 (by decide) (by decide) ?_
          show Steps p.tables e below (s₁.setTop (mkF m 34 #[.val (.int p1)] [])) _
          refine XS.iconst X0.here hx rfl (hb hby d2_34) ?_
          exact k
        refine own_ret (Q := Q1 Z p1 h0 n0) (v := some (.int (0 : Int32))) X0 hlk (fun h => by rw [hrt] at h; cases h) (by decide) (by decide) ?_ (fun fs hr => retN X0 hx (t := .boolean) hrt (by simp) (hb hby d2_35) hr)
        rw [e0]
        exact ⟨(by first | rfl | simp only [f1, if_pos hc1, if_pos hc2, if_neg hc3]), N0, rfl⟩
    · refine Go.st (U' := s₁.setTop (mkF m 21 #[.val (.int p1)] [(.int (122 : Int32)), (.int p1)])) (fun t k => ?_) ?_
      · show Steps p.tables e below (s₁.setTop (mkF m 15 #[.val (.int p1)] [(.int (97 : Int32)), (.int p1)])) _
        refine XS.icmpNo X0.here hx rfl (hb hby d2_15) rfl (flt hc2).1 ?_
        show Steps p.tables e below (s₁.setTop (mkF m 18 #[.val (.int p1)] [])) _
        refine XS.iloadN X0.here hx rfl (hb hby d2_18) rfl ?_
        show Steps p.tables e below (s₁.setTop (mkF m 19 #[.val (.int p1)] [(.int p1)])) _
        refine XS.bipush X0.here hx rfl (hb hby d2_19) ?_
        exact k
      by_cases hc4 : (122 : Int32) < p1
      · refine Go.st (U' := s₁.setTop (mkF m 27 #[.val (.int p1)] [(.int (95 : Int32)), (.int p1)])) (fun t k => ?_) ?_
        · show Steps p.tables e below (s₁.setTop (mkF m 21 #[.val (.int p1)] [(.int (122 : Int32)), (.int p1)])) _
          refine XS.icmpNo X0.here hx rfl (hb hby d2_21) rfl (tlt hc4).2.2.2 ?_
          show Steps p.tables e below (s₁.setTop (mkF m 24 #[.val (.int p1)] [])) _
          refine XS.iloadN X0.here hx rfl (hb hby d2_24) rfl ?_
          show Steps p.tables e below (s₁.setTop (mkF m 25 #[.val (.int p1)] [(.int p1)])) _
          refine XS.bipush X0.here hx rfl (hb hby d2_25) ?_
          exact k
        by_cases hc5 : p1 = (95 : Int32)
        · refine Go.st (U' := s₁.setTop (mkF m 35 #[.val (.int p1)] [(.int (1 : Int32))])) (fun t k => ?_) ?_
          · show Steps p.tables e below (s₁.setTop (mkF m 27 #[.val (.int p1)] [(.int (95 : Int32)), (.int p1)])) _
            refine XS.icmpNo X0.here hx rfl (hb hby d2_27) rfl (teq hc5).2 ?_
            show Steps p.tables e below (s₁.setTop (mkF m 30 #[.val (.int p1)] [])) _
            refine XS.iconst X0.here hx rfl (hb hby d2_30) ?_
            show Steps p.tables e below (s₁.setTop (mkF m 31 #[.val (.int p1)] [(.int (1 : Int32))])) _
            refine XS.goto X0.here hx rfl (pc0 := 31) (pc' := 35) rfl (hb hby d2_31) (by decide) (by decide) ?_
            exact k
          refine own_ret (Q := Q1 Z p1 h0 n0) (v := some (.int (1 : Int32))) X0 hlk (fun h => by rw [hrt] at h; cases h) (by decide) (by decide) ?_ (fun fs hr => retN X0 hx (t := .boolean) hrt (by simp) (hb hby d2_35) hr)
          rw [e0]
          exact ⟨(by first | rfl | simp only [f1, if_pos hc1, if_neg hc2, if_pos hc4, if_pos hc5]), N0, rfl⟩
        · refine Go.st (U' := s₁.setTop (mkF m 35 #[.val (.int p1)] [(.int (0 : Int32))])) (fun t k => ?_) ?_
          · show Steps p.tables e below (s₁.setTop (mkF m 27 #[.val (.int p1)] [(.int (95 : Int32)), (.int p1)])) _
            refine XS.icmpYes X0.here hx rfl (pc0 := 27) (pc' := 34) rfl (hb hby d2_27) rfl (feq hc5).2 (by decide) (by decide) ?_
            show Steps p.tables e below (s₁.setTop (mkF m 34 #[.val (.int p1)] [])) _
            refine XS.iconst X0.here hx rfl (hb hby d2_34) ?_
            exact k
          refine own_ret (Q := Q1 Z p1 h0 n0) (v := some (.int (0 : Int32))) X0 hlk (fun h => by rw [hrt] at h; cases h) (by decide) (by decide) ?_ (fun fs hr => retN X0 hx (t := .boolean) hrt (by simp) (hb hby d2_35) hr)
          rw [e0]
          exact ⟨(by first | rfl | simp only [f1, if_pos hc1, if_neg hc2, if_pos hc4, if_neg hc5]), N0, rfl⟩
      · refine Go.st (U' := s₁.setTop (mkF m 35 #[.val (.int p1)] [(.int (1 : Int32))])) (fun t k => ?_) ?_
        · show Steps p.tables e below (s₁.setTop (mkF m 21 #[.val (.int p1)] [(.int (122 : Int32)), (.int p1)])) _
          refine XS.icmpYes X0.here hx rfl (pc0 := 21) (pc' := 30) rfl (hb hby d2_21) rfl (flt hc4).2.2.2 (by decide) (by decide) ?_
          show Steps p.tables e below (s₁.setTop (mkF m 30 #[.val (.int p1)] [])) _
          refine XS.iconst X0.here hx rfl (hb hby d2_30) ?_
          show Steps p.tables e below (s₁.setTop (mkF m 31 #[.val (.int p1)] [(.int (1 : Int32))])) _
          refine XS.goto X0.here hx rfl (pc0 := 31) (pc' := 35) rfl (hb hby d2_31) (by decide) (by decide) ?_
          exact k
        refine own_ret (Q := Q1 Z p1 h0 n0) (v := some (.int (1 : Int32))) X0 hlk (fun h => by rw [hrt] at h; cases h) (by decide) (by decide) ?_ (fun fs hr => retN X0 hx (t := .boolean) hrt (by simp) (hb hby d2_35) hr)
        rw [e0]
        exact ⟨(by first | rfl | simp only [f1, if_pos hc1, if_neg hc2, if_neg hc4]), N0, rfl⟩
  · refine Go.st (U' := s₁.setTop (mkF m 9 #[.val (.int p1)] [(.int (90 : Int32)), (.int p1)])) (fun t k => ?_) ?_
    · show Steps p.tables e below (s₁.setTop (mkF m 3 #[.val (.int p1)] [(.int (65 : Int32)), (.int p1)])) _
      refine XS.icmpNo X0.here hx rfl (hb hby d2_3) rfl (flt hc1).1 ?_
      show Steps p.tables e below (s₁.setTop (mkF m 6 #[.val (.int p1)] [])) _
      refine XS.iloadN X0.here hx rfl (hb hby d2_6) rfl ?_
      show Steps p.tables e below (s₁.setTop (mkF m 7 #[.val (.int p1)] [(.int p1)])) _
      refine XS.bipush X0.here hx rfl (hb hby d2_7) ?_
      exact k
    by_cases hc6 : (90 : Int32) < p1
    · refine Go.st (U' := s₁.setTop (mkF m 15 #[.val (.int p1)] [(.int (97 : Int32)), (.int p1)])) (fun t k => ?_) ?_
      · show Steps p.tables e below (s₁.setTop (mkF m 9 #[.val (.int p1)] [(.int (90 : Int32)), (.int p1)])) _
        refine XS.icmpNo X0.here hx rfl (hb hby d2_9) rfl (tlt hc6).2.2.2 ?_
        show Steps p.tables e below (s₁.setTop (mkF m 12 #[.val (.int p1)] [])) _
        refine XS.iloadN X0.here hx rfl (hb hby d2_12) rfl ?_
        show Steps p.tables e below (s₁.setTop (mkF m 13 #[.val (.int p1)] [(.int p1)])) _
        refine XS.bipush X0.here hx rfl (hb hby d2_13) ?_
        exact k
      by_cases hc7 : p1 < (97 : Int32)
      · refine Go.st (U' := s₁.setTop (mkF m 27 #[.val (.int p1)] [(.int (95 : Int32)), (.int p1)])) (fun t k => ?_) ?_
        · show Steps p.tables e below (s₁.setTop (mkF m 15 #[.val (.int p1)] [(.int (97 : Int32)), (.int p1)])) _
          refine XS.icmpYes X0.here hx rfl (pc0 := 15) (pc' := 24) rfl (hb hby d2_15) rfl (tlt hc7).1 (by decide) (by decide) ?_
          show Steps p.tables e below (s₁.setTop (mkF m 24 #[.val (.int p1)] [])) _
          refine XS.iloadN X0.here hx rfl (hb hby d2_24) rfl ?_
          show Steps p.tables e below (s₁.setTop (mkF m 25 #[.val (.int p1)] [(.int p1)])) _
          refine XS.bipush X0.here hx rfl (hb hby d2_25) ?_
          exact k
        by_cases hc8 : p1 = (95 : Int32)
        · refine Go.st (U' := s₁.setTop (mkF m 35 #[.val (.int p1)] [(.int (1 : Int32))])) (fun t k => ?_) ?_
          · show Steps p.tables e below (s₁.setTop (mkF m 27 #[.val (.int p1)] [(.int (95 : Int32)), (.int p1)])) _
            refine XS.icmpNo X0.here hx rfl (hb hby d2_27) rfl (teq hc8).2 ?_
            show Steps p.tables e below (s₁.setTop (mkF m 30 #[.val (.int p1)] [])) _
            refine XS.iconst X0.here hx rfl (hb hby d2_30) ?_
            show Steps p.tables e below (s₁.setTop (mkF m 31 #[.val (.int p1)] [(.int (1 : Int32))])) _
            refine XS.goto X0.here hx rfl (pc0 := 31) (pc' := 35) rfl (hb hby d2_31) (by decide) (by decide) ?_
            exact k
          refine own_ret (Q := Q1 Z p1 h0 n0) (v := some (.int (1 : Int32))) X0 hlk (fun h => by rw [hrt] at h; cases h) (by decide) (by decide) ?_ (fun fs hr => retN X0 hx (t := .boolean) hrt (by simp) (hb hby d2_35) hr)
          rw [e0]
          exact ⟨(by first | rfl | simp only [f1, if_neg hc1, if_pos hc6, if_pos hc7, if_pos hc8]), N0, rfl⟩
        · refine Go.st (U' := s₁.setTop (mkF m 35 #[.val (.int p1)] [(.int (0 : Int32))])) (fun t k => ?_) ?_
          · show Steps p.tables e below (s₁.setTop (mkF m 27 #[.val (.int p1)] [(.int (95 : Int32)), (.int p1)])) _
            refine XS.icmpYes X0.here hx rfl (pc0 := 27) (pc' := 34) rfl (hb hby d2_27) rfl (feq hc8).2 (by decide) (by decide) ?_
            show Steps p.tables e below (s₁.setTop (mkF m 34 #[.val (.int p1)] [])) _
            refine XS.iconst X0.here hx rfl (hb hby d2_34) ?_
            exact k
          refine own_ret (Q := Q1 Z p1 h0 n0) (v := some (.int (0 : Int32))) X0 hlk (fun h => by rw [hrt] at h; cases h) (by decide) (by decide) ?_ (fun fs hr => retN X0 hx (t := .boolean) hrt (by simp) (hb hby d2_35) hr)
          rw [e0]
          exact ⟨(by first | rfl | simp only [f1, if_neg hc1, if_pos hc6, if_pos hc7, if_neg hc8]), N0, rfl⟩
      · refine Go.st (U' := s₁.setTop (mkF m 21 #[.val (.int p1)] [(.int (122 : Int32)), (.int p1)])) (fun t k => ?_) ?_
        · show Steps p.tables e below (s₁.setTop (mkF m 15 #[.val (.int p1)] [(.int (97 : Int32)), (.int p1)])) _
          refine XS.icmpNo X0.here hx rfl (hb hby d2_15) rfl (flt hc7).1 ?_
          show Steps p.tables e below (s₁.setTop (mkF m 18 #[.val (.int p1)] [])) _
          refine XS.iloadN X0.here hx rfl (hb hby d2_18) rfl ?_
          show Steps p.tables e below (s₁.setTop (mkF m 19 #[.val (.int p1)] [(.int p1)])) _
          refine XS.bipush X0.here hx rfl (hb hby d2_19) ?_
          exact k
        by_cases hc9 : (122 : Int32) < p1
        · refine Go.st (U' := s₁.setTop (mkF m 27 #[.val (.int p1)] [(.int (95 : Int32)), (.int p1)])) (fun t k => ?_) ?_
          · show Steps p.tables e below (s₁.setTop (mkF m 21 #[.val (.int p1)] [(.int (122 : Int32)), (.int p1)])) _
            refine XS.icmpNo X0.here hx rfl (hb hby d2_21) rfl (tlt hc9).2.2.2 ?_
            show Steps p.tables e below (s₁.setTop (mkF m 24 #[.val (.int p1)] [])) _
            refine XS.iloadN X0.here hx rfl (hb hby d2_24) rfl ?_
            show Steps p.tables e below (s₁.setTop (mkF m 25 #[.val (.int p1)] [(.int p1)])) _
            refine XS.bipush X0.here hx rfl (hb hby d2_25) ?_
            exact k
          by_cases hc10 : p1 = (95 : Int32)
          · refine Go.st (U' := s₁.setTop (mkF m 35 #[.val (.int p1)] [(.int (1 : Int32))])) (fun t k => ?_) ?_
            · show Steps p.tables e below (s₁.setTop (mkF m 27 #[.val (.int p1)] [(.int (95 : Int32)), (.int p1)])) _
              refine XS.icmpNo X0.here hx rfl (hb hby d2_27) rfl (teq hc10).2 ?_
              show Steps p.tables e below (s₁.setTop (mkF m 30 #[.val (.int p1)] [])) _
              refine XS.iconst X0.here hx rfl (hb hby d2_30) ?_
              show Steps p.tables e below (s₁.setTop (mkF m 31 #[.val (.int p1)] [(.int (1 : Int32))])) _
              refine XS.goto X0.here hx rfl (pc0 := 31) (pc' := 35) rfl (hb hby d2_31) (by decide) (by decide) ?_
              exact k
            refine own_ret (Q := Q1 Z p1 h0 n0) (v := some (.int (1 : Int32))) X0 hlk (fun h => by rw [hrt] at h; cases h) (by decide) (by decide) ?_ (fun fs hr => retN X0 hx (t := .boolean) hrt (by simp) (hb hby d2_35) hr)
            rw [e0]
            exact ⟨(by first | rfl | simp only [f1, if_neg hc1, if_pos hc6, if_neg hc7, if_pos hc9, if_pos hc10]), N0, rfl⟩
          · refine Go.st (U' := s₁.setTop (mkF m 35 #[.val (.int p1)] [(.int (0 : Int32))])) (fun t k => ?_) ?_
            · show Steps p.tables e below (s₁.setTop (mkF m 27 #[.val (.int p1)] [(.int (95 : Int32)), (.int p1)])) _
              refine XS.icmpYes X0.here hx rfl (pc0 := 27) (pc' := 34) rfl (hb hby d2_27) rfl (feq hc10).2 (by decide) (by decide) ?_
              show Steps p.tables e below (s₁.setTop (mkF m 34 #[.val (.int p1)] [])) _
              refine XS.iconst X0.here hx rfl (hb hby d2_34) ?_
              exact k
            refine own_ret (Q := Q1 Z p1 h0 n0) (v := some (.int (0 : Int32))) X0 hlk (fun h => by rw [hrt] at h; cases h) (by decide) (by decide) ?_ (fun fs hr => retN X0 hx (t := .boolean) hrt (by simp) (hb hby d2_35) hr)
            rw [e0]
            exact ⟨(by first | rfl | simp only [f1, if_neg hc1, if_pos hc6, if_neg hc7, if_pos hc9, if_neg hc10]), N0, rfl⟩
        · refine Go.st (U' := s₁.setTop (mkF m 35 #[.val (.int p1)] [(.int (1 : Int32))])) (fun t k => ?_) ?_
          · show Steps p.tables e below (s₁.setTop (mkF m 21 #[.val (.int p1)] [(.int (122 : Int32)), (.int p1)])) _
            refine XS.icmpYes X0.here hx rfl (pc0 := 21) (pc' := 30) rfl (hb hby d2_21) rfl (flt hc9).2.2.2 (by decide) (by decide) ?_
            show Steps p.tables e below (s₁.setTop (mkF m 30 #[.val (.int p1)] [])) _
            refine XS.iconst X0.here hx rfl (hb hby d2_30) ?_
            show Steps p.tables e below (s₁.setTop (mkF m 31 #[.val (.int p1)] [(.int (1 : Int32))])) _
            refine XS.goto X0.here hx rfl (pc0 := 31) (pc' := 35) rfl (hb hby d2_31) (by decide) (by decide) ?_
            exact k
          refine own_ret (Q := Q1 Z p1 h0 n0) (v := some (.int (1 : Int32))) X0 hlk (fun h => by rw [hrt] at h; cases h) (by decide) (by decide) ?_ (fun fs hr => retN X0 hx (t := .boolean) hrt (by simp) (hb hby d2_35) hr)
          rw [e0]
          exact ⟨(by first | rfl | simp only [f1, if_neg hc1, if_pos hc6, if_neg hc7, if_neg hc9]), N0, rfl⟩
    · refine Go.st (U' := s₁.setTop (mkF m 35 #[.val (.int p1)] [(.int (1 : Int32))])) (fun t k => ?_) ?_
      · show Steps p.tables e below (s₁.setTop (mkF m 9 #[.val (.int p1)] [(.int (90 : Int32)), (.int p1)])) _
        refine XS.icmpYes X0.here hx rfl (pc0 := 9) (pc' := 30) rfl (hb hby d2_9) rfl (flt hc6).2.2.2 (by decide) (by decide) ?_
        show Steps p.tables e below (s₁.setTop (mkF m 30 #[.val (.int p1)] [])) _
        refine XS.iconst X0.here hx rfl (hb hby d2_30) ?_
        show Steps p.tables e below (s₁.setTop (mkF m 31 #[.val (.int p1)] [(.int (1 : Int32))])) _
        refine XS.goto X0.here hx rfl (pc0 := 31) (pc' := 35) rfl (hb hby d2_31) (by decide) (by decide) ?_
        exact k
      refine own_ret (Q := Q1 Z p1 h0 n0) (v := some (.int (1 : Int32))) X0 hlk (fun h => by rw [hrt] at h; cases h) (by decide) (by decide) ?_ (fun fs hr => retN X0 hx (t := .boolean) hrt (by simp) (hb hby d2_35) hr)
      rw [e0]
      exact ⟨(by first | rfl | simp only [f1, if_neg hc1, if_neg hc6]), N0, rfl⟩
theorem d3_0 : decode method_2_code 0 = .ok (.iload_n 0, 1) := by decide +kernel
theorem d3_1 : decode method_2_code 1 = .ok (.bipush 32, 2) := by decide +kernel
theorem d3_3 : decode method_2_code 3 = .ok (.ior, 1) := by decide +kernel
theorem d3_4 : decode method_2_code 4 = .ok (.istore_n 1, 1) := by decide +kernel
theorem d3_5 : decode method_2_code 5 = .ok (.iload_n 1, 1) := by decide +kernel
theorem d3_6 : decode method_2_code 6 = .ok (.bipush 97, 2) := by decide +kernel
theorem d3_8 : decode method_2_code 8 = .ok (.if_icmp .lt 9, 3) := by decide +kernel
theorem d3_11 : decode method_2_code 11 = .ok (.iload_n 1, 1) := by decide +kernel
theorem d3_12 : decode method_2_code 12 = .ok (.bipush 122, 2) := by decide +kernel
theorem d3_14 : decode method_2_code 14 = .ok (.if_icmp .le 9, 3) := by decide +kernel
theorem d3_17 : decode method_2_code 17 = .ok (.iload_n 0, 1) := by decide +kernel
theorem d3_18 : decode method_2_code 18 = .ok (.bipush 95, 2) := by decide +kernel
theorem d3_20 : decode method_2_code 20 = .ok (.if_icmp .ne 7, 3) := by decide +kernel
theorem d3_23 : decode method_2_code 23 = .ok (.iconst 1, 1) := by decide +kernel
theorem d3_24 : decode method_2_code 24 = .ok (.goto 4, 3) := by decide +kernel
theorem d3_27 : decode method_2_code 27 = .ok (.iconst 0, 1) := by decide +kernel
theorem d3_28 : decode method_2_code 28 = .ok (.ireturn, 1) := by decide +kernel
theorem pn_1 : plainName "com/example/ligature/ligature/text/TextScannerIsNameStartPinLaw" = true := by first | (simp [plainName, overriddenIn]; done) | decide +kernel
theorem ef2 (m : MethodId) (p1 : Int32) : entryFrame m #[(.int p1)] 2 = mkF m 0 #[.val (.int p1), .unset] [] := by first | (simp [entryFrame, mkF, argsToLocals, Value.category]; done) | rfl
def f2 (p1 : Int32) : Int32 := (if (p1 ||| (32 : Int32)) < (97 : Int32) then (if p1 = (95 : Int32) then (1 : Int32) else (0 : Int32)) else (if (122 : Int32) < (p1 ||| (32 : Int32)) then (if p1 = (95 : Int32) then (1 : Int32) else (0 : Int32)) else (1 : Int32)))
def Q2 (Z : State) (p1 : Int32) (h0 : Heap) (n0 : Nat) (v : Option Value) (h : Heap) (L : List Loc) : Prop := v = some (.int (f2 p1)) ∧ Fr n0 L ∧ h = h0
set_option maxRecDepth 65536 in
set_option maxHeartbeats 40000000 in
theorem rm2 (l : Launch) (Z : State) (a0 : Array Value) (hw : ∀ d ∈ tables_1, d.before a0 Z = true) (ws : List Jvm.Cond) (p1 : Int32) (h0 : Heap) (n0 : Nat) (Z0 : n0 ≤ h0.size) :
    MetFree l own_y1 (head1 (Jvm.Cond.code own_y1 method_2_code 2 (some .boolean) :: ws) own_R0_0_0_0) (fun a U => a = #[(.int p1)] ∧ Z.Warmed39 U.vm ∧ U.heap = h0) (fun _ _ _ _ _ => True) (fun _ U o U' => ∃ v L, o = .returned v ∧ Q2 Z p1 h0 n0 v U'.heap L ∧ FrameEnd U o U' L (own_R0_0_0_0).cells (own_R0_0_0_0).slots) := by
  refine MetFree.of_bodySF (plainFor_of_name pn_1) hisR ?_
  intro p e s m args below meth c s₁ Bd hml0 hP hK
  obtain ⟨rfl, hZ, hh⟩ := hP
  have hx := Bd.exec
  have hby := Bd.bytes
  have hml : c.maxLocals = 2 := hml0
  have hown : s.vm.findClass "com/example/ligature/ligature/text/TextScannerIsNameStartPinLaw" = some m.cls := findClass_of_methodNamed Bd.named
  have hnm := (name_of_methodNamed Bd.named Bd.method).1
  have hlk : meth.locks = false := BodyLoose.notSynchronized Bd
  have hrt := Bd.returns
  have X0 : Stand p l e own_R0_0_0_0 s m #[(.int p1)] below meth c s₁ [] 0 0 := Stand.of_body Bd
  have e0 : s₁.heap = h0 := by rw [← hh, Bd.state]; rfl
  have N0 := Fr.nil n0
  refine (show Go p e below (fun s₂ o => ∃ v L, o = .returned v ∧ Q2 Z p1 h0 n0 v s₂.heap L ∧ FrameEnd s o s₂ L 0 0) (s₁.setTop (entryFrame m #[(.int p1)] 2)) from ?_)
  rw [ef2]
  refine Go.st (U' := s₁.setTop (mkF m 8 #[.val (.int p1), .val (.int (p1 ||| (32 : Int32)))] [(.int (97 : Int32)), (.int (p1 ||| (32 : Int32)))])) (fun t k => ?_) ?_
  · show Steps p.tables e below (s₁.setTop (mkF m 0 #[.val (.int p1), .unset] [])) _
    refine XS.iloadN X0.here hx rfl (hb hby d3_0) rfl ?_
    show Steps p.tables e below (s₁.setTop (mkF m 1 #[.val (.int p1), .unset] [(.int p1)])) _
    refine XS.bipush X0.here hx rfl (hb hby d3_1) ?_
    show Steps p.tables e below (s₁.setTop (mkF m 3 #[.val (.int p1), .unset] [(.int (32 : Int32)), (.int p1)])) _
    refine XS.ior X0.here hx rfl (hb hby d3_3) rfl ?_
    show Steps p.tables e below (s₁.setTop (mkF m 4 #[.val (.int p1), .unset] [(.int (p1 ||| (32 : Int32)))])) _
    refine XS.istoreN X0.here hx rfl (hb hby d3_4) rfl (l' := #[.val (.int p1), .val (.int (p1 ||| (32 : Int32)))]) rfl ?_
    show Steps p.tables e below (s₁.setTop (mkF m 5 #[.val (.int p1), .val (.int (p1 ||| (32 : Int32)))] [])) _
    refine XS.iloadN X0.here hx rfl (hb hby d3_5) rfl ?_
    show Steps p.tables e below (s₁.setTop (mkF m 6 #[.val (.int p1), .val (.int (p1 ||| (32 : Int32)))] [(.int (p1 ||| (32 : Int32)))])) _
    refine XS.bipush X0.here hx rfl (hb hby d3_6) ?_
    exact k
  by_cases hc11 : (p1 ||| (32 : Int32)) < (97 : Int32)
  · refine Go.st (U' := s₁.setTop (mkF m 20 #[.val (.int p1), .val (.int (p1 ||| (32 : Int32)))] [(.int (95 : Int32)), (.int p1)])) (fun t k => ?_) ?_
    · show Steps p.tables e below (s₁.setTop (mkF m 8 #[.val (.int p1), .val (.int (p1 ||| (32 : Int32)))] [(.int (97 : Int32)), (.int (p1 ||| (32 : Int32)))])) _
      refine XS.icmpYes X0.here hx rfl (pc0 := 8) (pc' := 17) rfl (hb hby d3_8) rfl (tlt hc11).1 (by decide) (by decide) ?_
      show Steps p.tables e below (s₁.setTop (mkF m 17 #[.val (.int p1), .val (.int (p1 ||| (32 : Int32)))] [])) _
      refine XS.iloadN X0.here hx rfl (hb hby d3_17) rfl ?_
      show Steps p.tables e below (s₁.setTop (mkF m 18 #[.val (.int p1), .val (.int (p1 ||| (32 : Int32)))] [(.int p1)])) _
      refine XS.bipush X0.here hx rfl (hb hby d3_18) ?_
      exact k
    by_cases hc12 : p1 = (95 : Int32)
    · refine Go.st (U' := s₁.setTop (mkF m 28 #[.val (.int p1), .val (.int (p1 ||| (32 : Int32)))] [(.int (1 : Int32))])) (fun t k => ?_) ?_
      · show Steps p.tables e below (s₁.setTop (mkF m 20 #[.val (.int p1), .val (.int (p1 ||| (32 : Int32)))] [(.int (95 : Int32)), (.int p1)])) _
        refine XS.icmpNo X0.here hx rfl (hb hby d3_20) rfl (teq hc12).2 ?_
        show Steps p.tables e below (s₁.setTop (mkF m 23 #[.val (.int p1), .val (.int (p1 ||| (32 : Int32)))] [])) _
        refine XS.iconst X0.here hx rfl (hb hby d3_23) ?_
        show Steps p.tables e below (s₁.setTop (mkF m 24 #[.val (.int p1), .val (.int (p1 ||| (32 : Int32)))] [(.int (1 : Int32))])) _
        refine XS.goto X0.here hx rfl (pc0 := 24) (pc' := 28) rfl (hb hby d3_24) (by decide) (by decide) ?_
        exact k
      refine own_ret (Q := Q2 Z p1 h0 n0) (v := some (.int (1 : Int32))) X0 hlk (fun h => by rw [hrt] at h; cases h) (by decide) (by decide) ?_ (fun fs hr => retN X0 hx (t := .boolean) hrt (by simp) (hb hby d3_28) hr)
      rw [e0]
      exact ⟨(by first | rfl | simp only [f2, if_pos hc11, if_pos hc12]), N0, rfl⟩
    · refine Go.st (U' := s₁.setTop (mkF m 28 #[.val (.int p1), .val (.int (p1 ||| (32 : Int32)))] [(.int (0 : Int32))])) (fun t k => ?_) ?_
      · show Steps p.tables e below (s₁.setTop (mkF m 20 #[.val (.int p1), .val (.int (p1 ||| (32 : Int32)))] [(.int (95 : Int32)), (.int p1)])) _
        refine XS.icmpYes X0.here hx rfl (pc0 := 20) (pc' := 27) rfl (hb hby d3_20) rfl (feq hc12).2 (by decide) (by decide) ?_
        show Steps p.tables e below (s₁.setTop (mkF m 27 #[.val (.int p1), .val (.int (p1 ||| (32 : Int32)))] [])) _
        refine XS.iconst X0.here hx rfl (hb hby d3_27) ?_
        exact k
      refine own_ret (Q := Q2 Z p1 h0 n0) (v := some (.int (0 : Int32))) X0 hlk (fun h => by rw [hrt] at h; cases h) (by decide) (by decide) ?_ (fun fs hr => retN X0 hx (t := .boolean) hrt (by simp) (hb hby d3_28) hr)
      rw [e0]
      exact ⟨(by first | rfl | simp only [f2, if_pos hc11, if_neg hc12]), N0, rfl⟩
  · refine Go.st (U' := s₁.setTop (mkF m 14 #[.val (.int p1), .val (.int (p1 ||| (32 : Int32)))] [(.int (122 : Int32)), (.int (p1 ||| (32 : Int32)))])) (fun t k => ?_) ?_
    · show Steps p.tables e below (s₁.setTop (mkF m 8 #[.val (.int p1), .val (.int (p1 ||| (32 : Int32)))] [(.int (97 : Int32)), (.int (p1 ||| (32 : Int32)))])) _
      refine XS.icmpNo X0.here hx rfl (hb hby d3_8) rfl (flt hc11).1 ?_
      show Steps p.tables e below (s₁.setTop (mkF m 11 #[.val (.int p1), .val (.int (p1 ||| (32 : Int32)))] [])) _
      refine XS.iloadN X0.here hx rfl (hb hby d3_11) rfl ?_
      show Steps p.tables e below (s₁.setTop (mkF m 12 #[.val (.int p1), .val (.int (p1 ||| (32 : Int32)))] [(.int (p1 ||| (32 : Int32)))])) _
      refine XS.bipush X0.here hx rfl (hb hby d3_12) ?_
      exact k
    by_cases hc13 : (122 : Int32) < (p1 ||| (32 : Int32))
    · refine Go.st (U' := s₁.setTop (mkF m 20 #[.val (.int p1), .val (.int (p1 ||| (32 : Int32)))] [(.int (95 : Int32)), (.int p1)])) (fun t k => ?_) ?_
      · show Steps p.tables e below (s₁.setTop (mkF m 14 #[.val (.int p1), .val (.int (p1 ||| (32 : Int32)))] [(.int (122 : Int32)), (.int (p1 ||| (32 : Int32)))])) _
        refine XS.icmpNo X0.here hx rfl (hb hby d3_14) rfl (tlt hc13).2.2.2 ?_
        show Steps p.tables e below (s₁.setTop (mkF m 17 #[.val (.int p1), .val (.int (p1 ||| (32 : Int32)))] [])) _
        refine XS.iloadN X0.here hx rfl (hb hby d3_17) rfl ?_
        show Steps p.tables e below (s₁.setTop (mkF m 18 #[.val (.int p1), .val (.int (p1 ||| (32 : Int32)))] [(.int p1)])) _
        refine XS.bipush X0.here hx rfl (hb hby d3_18) ?_
        exact k
      by_cases hc14 : p1 = (95 : Int32)
      · refine Go.st (U' := s₁.setTop (mkF m 28 #[.val (.int p1), .val (.int (p1 ||| (32 : Int32)))] [(.int (1 : Int32))])) (fun t k => ?_) ?_
        · show Steps p.tables e below (s₁.setTop (mkF m 20 #[.val (.int p1), .val (.int (p1 ||| (32 : Int32)))] [(.int (95 : Int32)), (.int p1)])) _
          refine XS.icmpNo X0.here hx rfl (hb hby d3_20) rfl (teq hc14).2 ?_
          show Steps p.tables e below (s₁.setTop (mkF m 23 #[.val (.int p1), .val (.int (p1 ||| (32 : Int32)))] [])) _
          refine XS.iconst X0.here hx rfl (hb hby d3_23) ?_
          show Steps p.tables e below (s₁.setTop (mkF m 24 #[.val (.int p1), .val (.int (p1 ||| (32 : Int32)))] [(.int (1 : Int32))])) _
          refine XS.goto X0.here hx rfl (pc0 := 24) (pc' := 28) rfl (hb hby d3_24) (by decide) (by decide) ?_
          exact k
        refine own_ret (Q := Q2 Z p1 h0 n0) (v := some (.int (1 : Int32))) X0 hlk (fun h => by rw [hrt] at h; cases h) (by decide) (by decide) ?_ (fun fs hr => retN X0 hx (t := .boolean) hrt (by simp) (hb hby d3_28) hr)
        rw [e0]
        exact ⟨(by first | rfl | simp only [f2, if_neg hc11, if_pos hc13, if_pos hc14]), N0, rfl⟩
      · refine Go.st (U' := s₁.setTop (mkF m 28 #[.val (.int p1), .val (.int (p1 ||| (32 : Int32)))] [(.int (0 : Int32))])) (fun t k => ?_) ?_
        · show Steps p.tables e below (s₁.setTop (mkF m 20 #[.val (.int p1), .val (.int (p1 ||| (32 : Int32)))] [(.int (95 : Int32)), (.int p1)])) _
          refine XS.icmpYes X0.here hx rfl (pc0 := 20) (pc' := 27) rfl (hb hby d3_20) rfl (feq hc14).2 (by decide) (by decide) ?_
          show Steps p.tables e below (s₁.setTop (mkF m 27 #[.val (.int p1), .val (.int (p1 ||| (32 : Int32)))] [])) _
          refine XS.iconst X0.here hx rfl (hb hby d3_27) ?_
          exact k
        refine own_ret (Q := Q2 Z p1 h0 n0) (v := some (.int (0 : Int32))) X0 hlk (fun h => by rw [hrt] at h; cases h) (by decide) (by decide) ?_ (fun fs hr => retN X0 hx (t := .boolean) hrt (by simp) (hb hby d3_28) hr)
        rw [e0]
        exact ⟨(by first | rfl | simp only [f2, if_neg hc11, if_pos hc13, if_neg hc14]), N0, rfl⟩
    · refine Go.st (U' := s₁.setTop (mkF m 28 #[.val (.int p1), .val (.int (p1 ||| (32 : Int32)))] [(.int (1 : Int32))])) (fun t k => ?_) ?_
      · show Steps p.tables e below (s₁.setTop (mkF m 14 #[.val (.int p1), .val (.int (p1 ||| (32 : Int32)))] [(.int (122 : Int32)), (.int (p1 ||| (32 : Int32)))])) _
        refine XS.icmpYes X0.here hx rfl (pc0 := 14) (pc' := 23) rfl (hb hby d3_14) rfl (flt hc13).2.2.2 (by decide) (by decide) ?_
        show Steps p.tables e below (s₁.setTop (mkF m 23 #[.val (.int p1), .val (.int (p1 ||| (32 : Int32)))] [])) _
        refine XS.iconst X0.here hx rfl (hb hby d3_23) ?_
        show Steps p.tables e below (s₁.setTop (mkF m 24 #[.val (.int p1), .val (.int (p1 ||| (32 : Int32)))] [(.int (1 : Int32))])) _
        refine XS.goto X0.here hx rfl (pc0 := 24) (pc' := 28) rfl (hb hby d3_24) (by decide) (by decide) ?_
        exact k
      refine own_ret (Q := Q2 Z p1 h0 n0) (v := some (.int (1 : Int32))) X0 hlk (fun h => by rw [hrt] at h; cases h) (by decide) (by decide) ?_ (fun fs hr => retN X0 hx (t := .boolean) hrt (by simp) (hb hby d3_28) hr)
      rw [e0]
      exact ⟨(by first | rfl | simp only [f2, if_neg hc11, if_neg hc13]), N0, rfl⟩
theorem d1_0 : decode method_3_code 0 = .ok (.iload_n 0, 1) := by decide +kernel
theorem d1_1 : decode method_3_code 1 = .ok (.invokestatic 7, 3) := by decide +kernel
theorem d1_4 : decode method_3_code 4 = .ok (.iload_n 0, 1) := by decide +kernel
theorem d1_5 : decode method_3_code 5 = .ok (.invokestatic 13, 3) := by decide +kernel
theorem d1_8 : decode method_3_code 8 = .ok (.if_icmp .ne 7, 3) := by decide +kernel
theorem d1_11 : decode method_3_code 11 = .ok (.iconst 1, 1) := by decide +kernel
theorem d1_12 : decode method_3_code 12 = .ok (.goto 4, 3) := by decide +kernel
theorem d1_15 : decode method_3_code 15 = .ok (.iconst 0, 1) := by decide +kernel
theorem d1_16 : decode method_3_code 16 = .ok (.ireturn, 1) := by decide +kernel
theorem pd_0 : parseMethodDescriptor "(I)Z" = some ⟨[.int], some .boolean⟩ := by decide +kernel
theorem ef3 (m : MethodId) (p1 : Int32) : entryFrame m #[(.int p1)] 1 = mkF m 0 #[.val (.int p1)] [] := by first | (simp [entryFrame, mkF, argsToLocals, Value.category]; done) | rfl
abbrev own_R1_0_0_16 : Room := { frames := 1, cells := 0, slots := 0, locals := 16 }
def f3 (p1 : Int32) : Int32 := (if (f1 p1) = (f2 p1) then (1 : Int32) else (0 : Int32))
def Q3 (Z : State) (p1 : Int32) (h0 : Heap) (n0 : Nat) (v : Option Value) (h : Heap) (L : List Loc) : Prop := v = some (.int (f3 p1)) ∧ Fr n0 L ∧ h = h0
set_option maxRecDepth 65536 in
set_option maxHeartbeats 40000000 in
theorem rm3 (l : Launch) (Z : State) (a0 : Array Value) (hw : ∀ d ∈ tables_1, d.before a0 Z = true) (ws : List Jvm.Cond) (p1 : Int32) (h0 : Heap) (n0 : Nat) (Z0 : n0 ≤ h0.size) :
    MetFree l own_y2 (head1 (Jvm.Cond.code own_y2 method_3_code 1 (some .boolean) :: ws) own_R1_0_0_16) (fun a U => a = #[(.int p1)] ∧ Z.Warmed39 U.vm ∧ U.heap = h0) (fun _ _ _ _ _ => True) (fun _ U o U' => ∃ v L, o = .returned v ∧ Q3 Z p1 h0 n0 v U'.heap L ∧ FrameEnd U o U' L (own_R1_0_0_16).cells (own_R1_0_0_16).slots) := by
  refine MetFree.of_bodySF (plainFor_of_name pn_1) hisR ?_
  intro p e s m args below meth c s₁ Bd hml0 hP hK
  obtain ⟨rfl, hZ, hh⟩ := hP
  have hx := Bd.exec
  have hby := Bd.bytes
  have hml : c.maxLocals = 1 := hml0
  have hown : s.vm.findClass "com/example/ligature/ligature/text/TextScannerIsNameStartPinLaw" = some m.cls := findClass_of_methodNamed Bd.named
  have hnm := (name_of_methodNamed Bd.named Bd.method).1
  have hlk : meth.locks = false := BodyLoose.notSynchronized Bd
  have hrt := Bd.returns
  have X0 : Stand p l e own_R1_0_0_16 s m #[(.int p1)] below meth c s₁ [] 0 0 := Stand.of_body Bd
  have e0 : s₁.heap = h0 := by rw [← hh, Bd.state]; rfl
  have N0 := Fr.nil n0
  refine (show Go p e below (fun s₂ o => ∃ v L, o = .returned v ∧ Q3 Z p1 h0 n0 v s₂.heap L ∧ FrameEnd s o s₂ L 0 0) (s₁.setTop (entryFrame m #[(.int p1)] 1)) from ?_)
  rw [ef3]
  refine Go.st (U' := s₁.setTop (mkF m 1 #[.val (.int p1)] [(.int p1)])) (fun t k => ?_) ?_
  · show Steps p.tables e below (s₁.setTop (mkF m 0 #[.val (.int p1)] [])) _
    refine XS.iloadN X0.here hx rfl (hb hby d1_0) rfl ?_
    exact k
  obtain ⟨_, _, ⟨T15, L15, k15, n15⟩, -, X15, ⟨Lc15, hQ15, l15, y15, z15⟩, st15⟩ := Jvm.LawKit.callS X0 hx (y := own_y0) hown (mvT hZ (own_w hw 8 rfl)) (mvT hZ (own_w hw 9 rfl)) (mvT hZ (own_w hw 10 rfl)) (mvT hZ (own_w hw 11 rfl)) (by decide) (backOf (W := 0) (rm1 l Z a0 hw [] p1 h0 n0 Z0 ) hZ (own_w hw 11 rfl) (own_w hw 10 rfl) (by decide) (by decide)) (g := (mkF m 1 #[.val (.int p1)] [(.int p1)])) rfl (by rw [hml]; rfl) (argsL := [(.int p1)]) (rest := []) (lenOf pd_0 rfl) rfl (by show 2 * 0 + _ ≤ _; exact Nat.le_of_eq rfl) (hb hby d1_1) (fun _ _ => ⟨rfl, e0, (by decide : 0 + 0 ≤ _), (by decide : 0 + 0 ≤ _)⟩)
  dsimp only [Pt.U, Pt.locs, Pt.cells, Pt.slots] at X15 l15 y15 z15 st15 hQ15
  subst l15 y15 z15
  obtain ⟨rfl, N15q, e15⟩ := hQ15
  have N15 := Fr.app N0 N15q
  refine Go.st (U' := T15.setTop (mkF m 4 #[.val (.int p1)] [(.int (f1 p1))])) (fun t k => st15 _ k) ?_
  refine Go.st (U' := T15.setTop (mkF m 5 #[.val (.int p1)] [(.int p1), (.int (f1 p1))])) (fun t k => ?_) ?_
  · show Steps p.tables e below (T15.setTop (mkF m 4 #[.val (.int p1)] [(.int (f1 p1))])) _
    refine XS.iloadN X15.here hx rfl (hb hby d1_4) rfl ?_
    exact k
  obtain ⟨_, _, ⟨T16, L16, k16, n16⟩, -, X16, ⟨Lc16, hQ16, l16, y16, z16⟩, st16⟩ := Jvm.LawKit.callS X15 hx (y := own_y1) hown (mvT hZ (own_w hw 12 rfl)) (mvT hZ (own_w hw 13 rfl)) (mvT hZ (own_w hw 6 rfl)) (mvT hZ (own_w hw 14 rfl)) (by decide) (backOf (W := 1) (rm2 l Z a0 hw [] p1 h0 n0 Z0 ) hZ (own_w hw 14 rfl) (own_w hw 6 rfl) (by decide) (by decide)) (g := (mkF m 5 #[.val (.int p1)] [(.int p1), (.int (f1 p1))])) rfl (by rw [hml]; rfl) (argsL := [(.int p1)]) (rest := [(.int (f1 p1))]) (lenOf pd_0 rfl) rfl (by show 2 * 0 + _ ≤ _; exact Nat.le_of_eq rfl) (hb hby d1_5) (fun _ _ => ⟨rfl, e15, (by decide : 0 + 0 ≤ _), (by decide : 0 + 0 ≤ _)⟩)
  dsimp only [Pt.U, Pt.locs, Pt.cells, Pt.slots] at X16 l16 y16 z16 st16 hQ16
  subst l16 y16 z16
  obtain ⟨rfl, N16q, e16⟩ := hQ16
  have N16 := Fr.app N15 N16q
  refine Go.st (U' := T16.setTop (mkF m 8 #[.val (.int p1)] [(.int (f2 p1)), (.int (f1 p1))])) (fun t k => st16 _ k) ?_
  by_cases hc17 : (f1 p1) = (f2 p1)
  · refine Go.st (U' := T16.setTop (mkF m 16 #[.val (.int p1)] [(.int (1 : Int32))])) (fun t k => ?_) ?_
    · show Steps p.tables e below (T16.setTop (mkF m 8 #[.val (.int p1)] [(.int (f2 p1)), (.int (f1 p1))])) _
      refine XS.icmpNo X16.here hx rfl (hb hby d1_8) rfl (teq hc17).2 ?_
      show Steps p.tables e below (T16.setTop (mkF m 11 #[.val (.int p1)] [])) _
      refine XS.iconst X16.here hx rfl (hb hby d1_11) ?_
      show Steps p.tables e below (T16.setTop (mkF m 12 #[.val (.int p1)] [(.int (1 : Int32))])) _
      refine XS.goto X16.here hx rfl (pc0 := 12) (pc' := 16) rfl (hb hby d1_12) (by decide) (by decide) ?_
      exact k
    refine own_ret (Q := Q3 Z p1 h0 n0) (v := some (.int (1 : Int32))) X16 hlk (fun h => by rw [hrt] at h; cases h) (by decide) (by decide) ?_ (fun fs hr => retN X16 hx (t := .boolean) hrt (by simp) (hb hby d1_16) hr)
    rw [e16]
    exact ⟨(by first | rfl | simp only [f3, if_pos hc17]), N16, rfl⟩
  · refine Go.st (U' := T16.setTop (mkF m 16 #[.val (.int p1)] [(.int (0 : Int32))])) (fun t k => ?_) ?_
    · show Steps p.tables e below (T16.setTop (mkF m 8 #[.val (.int p1)] [(.int (f2 p1)), (.int (f1 p1))])) _
      refine XS.icmpYes X16.here hx rfl (pc0 := 8) (pc' := 15) rfl (hb hby d1_8) rfl (feq hc17).2 (by decide) (by decide) ?_
      show Steps p.tables e below (T16.setTop (mkF m 15 #[.val (.int p1)] [])) _
      refine XS.iconst X16.here hx rfl (hb hby d1_15) ?_
      exact k
    refine own_ret (Q := Q3 Z p1 h0 n0) (v := some (.int (0 : Int32))) X16 hlk (fun h => by rw [hrt] at h; cases h) (by decide) (by decide) ?_ (fun fs hr => retN X16 hx (t := .boolean) hrt (by simp) (hb hby d1_16) hr)
    rw [e16]
    exact ⟨(by first | rfl | simp only [f3, if_neg hc17]), N16, rfl⟩
theorem own_or32n (n : Nat) : (n % 64 < 32 → n ||| 32 = n + 32) ∧ (32 ≤ n % 64 → n ||| 32 = n) := by
  have e : n = 2 ^ 6 * (n / 64) + n % 64 := by omega
  have hr : n % 64 < 2 ^ 6 := by omega
  generalize n / 64 = q at e
  generalize n % 64 = r at e hr
  have e1 := Nat.two_pow_add_eq_or_of_lt hr q
  constructor
  · intro h
    have e2 := Nat.two_pow_add_eq_or_of_lt (i := 5) (show r < 2 ^ 5 by omega) 1
    have e3 := Nat.two_pow_add_eq_or_of_lt (i := 6) (show 2 ^ 5 * 1 + r < 2 ^ 6 by omega) q
    rw [e, e1, Nat.or_assoc, Nat.or_comm r 32, show (32 : Nat) = 2 ^ 5 * 1 from rfl, ← e2, ← e3, ← e1]; omega
  · intro h
    have e2 := Nat.two_pow_add_eq_or_of_lt (i := 5) (show r - 32 < 2 ^ 5 by omega) 1
    have e4 : r = 2 ^ 5 * 1 + (r - 32) := by omega
    have e5 : r ||| 32 = r := by
      rw [e4, e2, Nat.or_comm (2 ^ 5 * 1) (r - 32), Nat.or_assoc, show (32 : Nat) = 2 ^ 5 * 1 from rfl, Nat.or_self]
    rw [e, e1, Nat.or_assoc, e5]
theorem own_or32 (c : Int32) (h0 : 0 ≤ c.toInt) : (c.toInt % 64 < 32 → (c ||| 32).toInt = c.toInt + 32) ∧ (32 ≤ c.toInt % 64 → (c ||| 32).toInt = c.toInt) := by
  have hb : c.toInt = c.toBitVec.toInt := rfl
  have hb' : (c ||| 32).toInt = (c.toBitVec ||| 32#32).toInt := rfl
  have hn : (c.toBitVec ||| 32#32).toNat = c.toBitVec.toNat ||| 32 := by rw [BitVec.toNat_or]; rfl
  have hlt : c.toBitVec.toNat < 2 ^ 32 := c.toBitVec.isLt
  have e := BitVec.toInt_eq_toNat_cond c.toBitVec
  have e' := BitVec.toInt_eq_toNat_cond (c.toBitVec ||| 32#32)
  obtain ⟨a, b⟩ := own_or32n c.toBitVec.toNat
  rw [hb] at h0 ⊢
  rw [hb']
  rw [hn] at e'
  generalize c.toBitVec.toNat = n at *
  have hn2 : n < 2147483648 := by split at e <;> omega
  constructor
  · intro h
    have := a (by split at e <;> omega)
    rw [this] at e'
    split at e <;> split at e' <;> omega
  · intro h
    have := b (by split at e <;> omega)
    rw [this] at e'
    split at e <;> split at e' <;> omega
theorem own_orneg (c : Int32) (h0 : c.toInt < 0) : (c ||| 32).toInt < 0 := by
  have hb : c.toInt = c.toBitVec.toInt := rfl
  have hb' : (c ||| 32).toInt = (c.toBitVec ||| 32#32).toInt := rfl
  have hn : (c.toBitVec ||| 32#32).toNat = c.toBitVec.toNat ||| 32 := by rw [BitVec.toNat_or]; rfl
  have hlt : (c.toBitVec ||| 32#32).toNat < 2 ^ 32 := (c.toBitVec ||| 32#32).isLt
  have e := BitVec.toInt_eq_toNat_cond c.toBitVec
  have e' := BitVec.toInt_eq_toNat_cond (c.toBitVec ||| 32#32)
  have hle : c.toBitVec.toNat ≤ c.toBitVec.toNat ||| 32 := Nat.left_le_or
  rw [hb] at h0
  rw [hb']
  rw [hn] at e' hlt
  split at e <;> split at e' <;> omega
theorem own_law (v : Int32) : f1 v = f2 v := by
  have h1 := own_or32 v
  have h2 := own_orneg v
  simp only [f1, f2, Int32.lt_iff_toInt_lt, ← Int32.toInt_inj, Int32.reduceToInt]
  generalize (v ||| 32).toInt = w at *
  generalize v.toInt = n at *
  repeat' split
  all_goals first | rfl | (exfalso; omega)
theorem own_agree (v : Int32) : ¬ (f3 v) = (0 : Int32) := by
  simp only [f3, if_pos (own_law v)]; decide
theorem ef0 (m : MethodId) (p0 : Int32) (p1 : Int32) : entryFrame m #[(.int p0), (.int p1)] maxLocals = mkF m 0 #[.val (.int p0), .val (.int p1), .unset, .unset] [] := by first | (simp [entryFrame, mkF, argsToLocals, Value.category, maxLocals]; done) | rfl
def Q0 (Z : State) (p0 : Int32) (p1 : Int32) (h0 : Heap) (n0 : Nat) (v : Option Value) (h : Heap) (L : List Loc) : Prop := v = some (.int 1) ∧ Fr n0 L
set_option maxRecDepth 65536 in
set_option maxHeartbeats 40000000 in
theorem rm0 (l : Launch) (Z : State) (a0 : Array Value) (hw : ∀ d ∈ tables_1, d.before a0 Z = true) (ws : List Jvm.Cond) (p0 : Int32) (p1 : Int32) (h0 : Heap) (n0 : Nat) (Z0 : n0 ≤ h0.size) :
    MetFree l x (head1 (Jvm.Cond.code x code maxLocals ret :: ws) room_1) (fun a U => a = #[(.int p0), (.int p1)] ∧ Z.Warmed39 U.vm ∧ U.heap = h0) (fun _ _ _ _ _ => True) (fun _ U o U' => ∃ v L, o = .returned v ∧ Q0 Z p0 p1 h0 n0 v U'.heap L ∧ FrameEnd U o U' L 16 128) := by
  refine MetFree.of_bodySF (plainFor_of_name pn_1) hisR ?_
  intro p e s m args below meth c s₁ Bd hml0 hP hK
  obtain ⟨rfl, hZ, hh⟩ := hP
  have hx := Bd.exec
  have hby := Bd.bytes
  have hml : c.maxLocals = 4 := hml0
  have hown : s.vm.findClass "com/example/ligature/ligature/text/TextScannerIsNameStartPinLaw" = some m.cls := findClass_of_methodNamed Bd.named
  have hnm := (name_of_methodNamed Bd.named Bd.method).1
  have hlk : meth.locks = false := BodyLoose.notSynchronized Bd
  have hrt := Bd.returns
  have X0 : Stand p l e room_1 s m #[(.int p0), (.int p1)] below meth c s₁ [] 0 0 := Stand.of_body Bd
  have e0 : s₁.heap = h0 := by rw [← hh, Bd.state]; rfl
  have N0 := Fr.nil n0
  refine (show Go p e below (fun s₂ o => ∃ v L, o = .returned v ∧ Q0 Z p0 p1 h0 n0 v s₂.heap L ∧ FrameEnd s o s₂ L 16 128) (s₁.setTop (entryFrame m #[(.int p0), (.int p1)] maxLocals)) from ?_)
  rw [ef0]
  refine Go.st (U' := s₁.setTop (mkF m 2 #[.val (.int p0), .val (.int p1), .unset, .unset] [(.int (16 : Int32))])) (fun t k => ?_) ?_
  · show Steps p.tables e below (s₁.setTop (mkF m 0 #[.val (.int p0), .val (.int p1), .unset, .unset] [])) _
    refine XS.bipush X0.here hx rfl (hb hby at_0) ?_
    exact k
  obtain ⟨T18, h18, k18, X18, e18, E18, A18, st18⟩ := newP X0 hx hZ (own_w hw 0 rfl) e0 (g := (mkF m 2 #[.val (.int p0), .val (.int p1), .unset, .unset] [(.int (16 : Int32))])) rfl (hb hby at_2) rfl (by decide) (cap := 16) (by decide) (by decide) (by decide) (by decide)
  obtain ⟨b18, g18⟩ : ∃ z, z = h0.size := ⟨_, rfl⟩
  rw [← g18] at A18 st18
  have ge_b18 : n0 ≤ b18 := Nat.le_trans Z0 (Nat.le_of_eq g18.symm)
  have V_b18 : Arv Z h18 b18 k18 .int (16 : Int32) [(.int (0 : Int32)), (.int (0 : Int32)), (.int (0 : Int32)), (.int (0 : Int32)), (.int (0 : Int32)), (.int (0 : Int32)), (.int (0 : Int32)), (.int (0 : Int32)), (.int (0 : Int32)), (.int (0 : Int32)), (.int (0 : Int32)), (.int (0 : Int32)), (.int (0 : Int32)), (.int (0 : Int32)), (.int (0 : Int32)), (.int (0 : Int32))] (.int (0 : Int32)) := (Arv.new A18 (by decide)).pad (pad_rep [] (.int (0 : Int32)) 16)
  have sz18 : n0 ≤ h18.size := Nat.le_trans Z0 E18.1
  refine Go.st (U' := T18.setTop (mkF m 4 #[.val (.int p0), .val (.int p1), .unset, .unset] [(.ref b18)])) (fun t k => st18 _ k) ?_
  refine Go.st (U' := T18.setTop (mkF m 8 #[.val (.int p0), .val (.int p1), .unset, .unset] [(.int (64 : Int32)), (.int (0 : Int32)), (.ref b18), (.ref b18)])) (fun t k => ?_) ?_
  · show Steps p.tables e below (T18.setTop (mkF m 4 #[.val (.int p0), .val (.int p1), .unset, .unset] [(.ref b18)])) _
    refine XS.dup X18.here hx rfl (hb hby at_4) rfl rfl ?_
    show Steps p.tables e below (T18.setTop (mkF m 5 #[.val (.int p0), .val (.int p1), .unset, .unset] [(.ref b18), (.ref b18)])) _
    refine XS.iconst X18.here hx rfl (hb hby at_5) ?_
    show Steps p.tables e below (T18.setTop (mkF m 6 #[.val (.int p0), .val (.int p1), .unset, .unset] [(.int (0 : Int32)), (.ref b18), (.ref b18)])) _
    refine XS.bipush X18.here hx rfl (hb hby at_6) ?_
    exact k
  obtain ⟨cl20, Ar20, q20, S20, N20, H20, G20⟩ := id V_b18
  obtain ⟨T19, h19, X19, e19, W19, st19⟩ := stI X18 hx hZ e18 Ar20 (j := (0 : Int32)) (inb_of (j := (0 : Int32)) S20 ⟨by decide, by decide⟩) (g := (mkF m 8 #[.val (.int p0), .val (.int p1), .unset, .unset] [(.int (64 : Int32)), (.int (0 : Int32)), (.ref b18), (.ref b18)])) rfl rfl (hb hby at_8)
  have V_b18_19 := Arv.set Ar20 q20 S20 N20 H20 G20 rfl W19 0 rfl (Nat.le_of_ble_eq_true rfl)
  have N19 := Fr.snoc X19 N0 ge_b18
  have sz19 : n0 ≤ h19.size := Nat.le_trans sz18 (Nat.le_of_eq W19.size.symm)
  refine Go.st (U' := T19.setTop (mkF m 9 #[.val (.int p0), .val (.int p1), .unset, .unset] [(.ref b18)])) (fun t k => st19 _ k) ?_
  refine Go.st (U' := T19.setTop (mkF m 13 #[.val (.int p0), .val (.int p1), .unset, .unset] [(.int (65 : Int32)), (.int (1 : Int32)), (.ref b18), (.ref b18)])) (fun t k => ?_) ?_
  · show Steps p.tables e below (T19.setTop (mkF m 9 #[.val (.int p0), .val (.int p1), .unset, .unset] [(.ref b18)])) _
    refine XS.dup X19.here hx rfl (hb hby at_9) rfl rfl ?_
    show Steps p.tables e below (T19.setTop (mkF m 10 #[.val (.int p0), .val (.int p1), .unset, .unset] [(.ref b18), (.ref b18)])) _
    refine XS.iconst X19.here hx rfl (hb hby at_10) ?_
    show Steps p.tables e below (T19.setTop (mkF m 11 #[.val (.int p0), .val (.int p1), .unset, .unset] [(.int (1 : Int32)), (.ref b18), (.ref b18)])) _
    refine XS.bipush X19.here hx rfl (hb hby at_11) ?_
    exact k
  obtain ⟨cl22, Ar22, q22, S22, N22, H22, G22⟩ := id V_b18_19
  obtain ⟨T21, h21, X21, e21, W21, st21⟩ := stI X19 hx hZ e19 Ar22 (j := (1 : Int32)) (inb_of (j := (1 : Int32)) S22 ⟨by decide, by decide⟩) (g := (mkF m 13 #[.val (.int p0), .val (.int p1), .unset, .unset] [(.int (65 : Int32)), (.int (1 : Int32)), (.ref b18), (.ref b18)])) rfl rfl (hb hby at_13)
  have V_b18_21 := Arv.set Ar22 q22 S22 N22 H22 G22 rfl W21 1 rfl (Nat.le_of_ble_eq_true rfl)
  have N21 := Fr.snoc X21 N19 ge_b18
  have sz21 : n0 ≤ h21.size := Nat.le_trans sz19 (Nat.le_of_eq W21.size.symm)
  refine Go.st (U' := T21.setTop (mkF m 14 #[.val (.int p0), .val (.int p1), .unset, .unset] [(.ref b18)])) (fun t k => st21 _ k) ?_
  refine Go.st (U' := T21.setTop (mkF m 18 #[.val (.int p0), .val (.int p1), .unset, .unset] [(.int (90 : Int32)), (.int (2 : Int32)), (.ref b18), (.ref b18)])) (fun t k => ?_) ?_
  · show Steps p.tables e below (T21.setTop (mkF m 14 #[.val (.int p0), .val (.int p1), .unset, .unset] [(.ref b18)])) _
    refine XS.dup X21.here hx rfl (hb hby at_14) rfl rfl ?_
    show Steps p.tables e below (T21.setTop (mkF m 15 #[.val (.int p0), .val (.int p1), .unset, .unset] [(.ref b18), (.ref b18)])) _
    refine XS.iconst X21.here hx rfl (hb hby at_15) ?_
    show Steps p.tables e below (T21.setTop (mkF m 16 #[.val (.int p0), .val (.int p1), .unset, .unset] [(.int (2 : Int32)), (.ref b18), (.ref b18)])) _
    refine XS.bipush X21.here hx rfl (hb hby at_16) ?_
    exact k
  obtain ⟨cl24, Ar24, q24, S24, N24, H24, G24⟩ := id V_b18_21
  obtain ⟨T23, h23, X23, e23, W23, st23⟩ := stI X21 hx hZ e21 Ar24 (j := (2 : Int32)) (inb_of (j := (2 : Int32)) S24 ⟨by decide, by decide⟩) (g := (mkF m 18 #[.val (.int p0), .val (.int p1), .unset, .unset] [(.int (90 : Int32)), (.int (2 : Int32)), (.ref b18), (.ref b18)])) rfl rfl (hb hby at_18)
  have V_b18_23 := Arv.set Ar24 q24 S24 N24 H24 G24 rfl W23 2 rfl (Nat.le_of_ble_eq_true rfl)
  have N23 := Fr.snoc X23 N21 ge_b18
  have sz23 : n0 ≤ h23.size := Nat.le_trans sz21 (Nat.le_of_eq W23.size.symm)
  refine Go.st (U' := T23.setTop (mkF m 19 #[.val (.int p0), .val (.int p1), .unset, .unset] [(.ref b18)])) (fun t k => st23 _ k) ?_
  refine Go.st (U' := T23.setTop (mkF m 23 #[.val (.int p0), .val (.int p1), .unset, .unset] [(.int (91 : Int32)), (.int (3 : Int32)), (.ref b18), (.ref b18)])) (fun t k => ?_) ?_
  · show Steps p.tables e below (T23.setTop (mkF m 19 #[.val (.int p0), .val (.int p1), .unset, .unset] [(.ref b18)])) _
    refine XS.dup X23.here hx rfl (hb hby at_19) rfl rfl ?_
    show Steps p.tables e below (T23.setTop (mkF m 20 #[.val (.int p0), .val (.int p1), .unset, .unset] [(.ref b18), (.ref b18)])) _
    refine XS.iconst X23.here hx rfl (hb hby at_20) ?_
    show Steps p.tables e below (T23.setTop (mkF m 21 #[.val (.int p0), .val (.int p1), .unset, .unset] [(.int (3 : Int32)), (.ref b18), (.ref b18)])) _
    refine XS.bipush X23.here hx rfl (hb hby at_21) ?_
    exact k
  obtain ⟨cl26, Ar26, q26, S26, N26, H26, G26⟩ := id V_b18_23
  obtain ⟨T25, h25, X25, e25, W25, st25⟩ := stI X23 hx hZ e23 Ar26 (j := (3 : Int32)) (inb_of (j := (3 : Int32)) S26 ⟨by decide, by decide⟩) (g := (mkF m 23 #[.val (.int p0), .val (.int p1), .unset, .unset] [(.int (91 : Int32)), (.int (3 : Int32)), (.ref b18), (.ref b18)])) rfl rfl (hb hby at_23)
  have V_b18_25 := Arv.set Ar26 q26 S26 N26 H26 G26 rfl W25 3 rfl (Nat.le_of_ble_eq_true rfl)
  have N25 := Fr.snoc X25 N23 ge_b18
  have sz25 : n0 ≤ h25.size := Nat.le_trans sz23 (Nat.le_of_eq W25.size.symm)
  refine Go.st (U' := T25.setTop (mkF m 24 #[.val (.int p0), .val (.int p1), .unset, .unset] [(.ref b18)])) (fun t k => st25 _ k) ?_
  refine Go.st (U' := T25.setTop (mkF m 28 #[.val (.int p0), .val (.int p1), .unset, .unset] [(.int (94 : Int32)), (.int (4 : Int32)), (.ref b18), (.ref b18)])) (fun t k => ?_) ?_
  · show Steps p.tables e below (T25.setTop (mkF m 24 #[.val (.int p0), .val (.int p1), .unset, .unset] [(.ref b18)])) _
    refine XS.dup X25.here hx rfl (hb hby at_24) rfl rfl ?_
    show Steps p.tables e below (T25.setTop (mkF m 25 #[.val (.int p0), .val (.int p1), .unset, .unset] [(.ref b18), (.ref b18)])) _
    refine XS.iconst X25.here hx rfl (hb hby at_25) ?_
    show Steps p.tables e below (T25.setTop (mkF m 26 #[.val (.int p0), .val (.int p1), .unset, .unset] [(.int (4 : Int32)), (.ref b18), (.ref b18)])) _
    refine XS.bipush X25.here hx rfl (hb hby at_26) ?_
    exact k
  obtain ⟨cl28, Ar28, q28, S28, N28, H28, G28⟩ := id V_b18_25
  obtain ⟨T27, h27, X27, e27, W27, st27⟩ := stI X25 hx hZ e25 Ar28 (j := (4 : Int32)) (inb_of (j := (4 : Int32)) S28 ⟨by decide, by decide⟩) (g := (mkF m 28 #[.val (.int p0), .val (.int p1), .unset, .unset] [(.int (94 : Int32)), (.int (4 : Int32)), (.ref b18), (.ref b18)])) rfl rfl (hb hby at_28)
  have V_b18_27 := Arv.set Ar28 q28 S28 N28 H28 G28 rfl W27 4 rfl (Nat.le_of_ble_eq_true rfl)
  have N27 := Fr.snoc X27 N25 ge_b18
  have sz27 : n0 ≤ h27.size := Nat.le_trans sz25 (Nat.le_of_eq W27.size.symm)
  refine Go.st (U' := T27.setTop (mkF m 29 #[.val (.int p0), .val (.int p1), .unset, .unset] [(.ref b18)])) (fun t k => st27 _ k) ?_
  refine Go.st (U' := T27.setTop (mkF m 33 #[.val (.int p0), .val (.int p1), .unset, .unset] [(.int (95 : Int32)), (.int (5 : Int32)), (.ref b18), (.ref b18)])) (fun t k => ?_) ?_
  · show Steps p.tables e below (T27.setTop (mkF m 29 #[.val (.int p0), .val (.int p1), .unset, .unset] [(.ref b18)])) _
    refine XS.dup X27.here hx rfl (hb hby at_29) rfl rfl ?_
    show Steps p.tables e below (T27.setTop (mkF m 30 #[.val (.int p0), .val (.int p1), .unset, .unset] [(.ref b18), (.ref b18)])) _
    refine XS.iconst X27.here hx rfl (hb hby at_30) ?_
    show Steps p.tables e below (T27.setTop (mkF m 31 #[.val (.int p0), .val (.int p1), .unset, .unset] [(.int (5 : Int32)), (.ref b18), (.ref b18)])) _
    refine XS.bipush X27.here hx rfl (hb hby at_31) ?_
    exact k
  obtain ⟨cl30, Ar30, q30, S30, N30, H30, G30⟩ := id V_b18_27
  obtain ⟨T29, h29, X29, e29, W29, st29⟩ := stI X27 hx hZ e27 Ar30 (j := (5 : Int32)) (inb_of (j := (5 : Int32)) S30 ⟨by decide, by decide⟩) (g := (mkF m 33 #[.val (.int p0), .val (.int p1), .unset, .unset] [(.int (95 : Int32)), (.int (5 : Int32)), (.ref b18), (.ref b18)])) rfl rfl (hb hby at_33)
  have V_b18_29 := Arv.set Ar30 q30 S30 N30 H30 G30 rfl W29 5 rfl (Nat.le_of_ble_eq_true rfl)
  have N29 := Fr.snoc X29 N27 ge_b18
  have sz29 : n0 ≤ h29.size := Nat.le_trans sz27 (Nat.le_of_eq W29.size.symm)
  refine Go.st (U' := T29.setTop (mkF m 34 #[.val (.int p0), .val (.int p1), .unset, .unset] [(.ref b18)])) (fun t k => st29 _ k) ?_
  refine Go.st (U' := T29.setTop (mkF m 39 #[.val (.int p0), .val (.int p1), .unset, .unset] [(.int (96 : Int32)), (.int (6 : Int32)), (.ref b18), (.ref b18)])) (fun t k => ?_) ?_
  · show Steps p.tables e below (T29.setTop (mkF m 34 #[.val (.int p0), .val (.int p1), .unset, .unset] [(.ref b18)])) _
    refine XS.dup X29.here hx rfl (hb hby at_34) rfl rfl ?_
    show Steps p.tables e below (T29.setTop (mkF m 35 #[.val (.int p0), .val (.int p1), .unset, .unset] [(.ref b18), (.ref b18)])) _
    refine XS.bipush X29.here hx rfl (hb hby at_35) ?_
    show Steps p.tables e below (T29.setTop (mkF m 37 #[.val (.int p0), .val (.int p1), .unset, .unset] [(.int (6 : Int32)), (.ref b18), (.ref b18)])) _
    refine XS.bipush X29.here hx rfl (hb hby at_37) ?_
    exact k
  obtain ⟨cl32, Ar32, q32, S32, N32, H32, G32⟩ := id V_b18_29
  obtain ⟨T31, h31, X31, e31, W31, st31⟩ := stI X29 hx hZ e29 Ar32 (j := (6 : Int32)) (inb_of (j := (6 : Int32)) S32 ⟨by decide, by decide⟩) (g := (mkF m 39 #[.val (.int p0), .val (.int p1), .unset, .unset] [(.int (96 : Int32)), (.int (6 : Int32)), (.ref b18), (.ref b18)])) rfl rfl (hb hby at_39)
  have V_b18_31 := Arv.set Ar32 q32 S32 N32 H32 G32 rfl W31 6 rfl (Nat.le_of_ble_eq_true rfl)
  have N31 := Fr.snoc X31 N29 ge_b18
  have sz31 : n0 ≤ h31.size := Nat.le_trans sz29 (Nat.le_of_eq W31.size.symm)
  refine Go.st (U' := T31.setTop (mkF m 40 #[.val (.int p0), .val (.int p1), .unset, .unset] [(.ref b18)])) (fun t k => st31 _ k) ?_
  refine Go.st (U' := T31.setTop (mkF m 45 #[.val (.int p0), .val (.int p1), .unset, .unset] [(.int (97 : Int32)), (.int (7 : Int32)), (.ref b18), (.ref b18)])) (fun t k => ?_) ?_
  · show Steps p.tables e below (T31.setTop (mkF m 40 #[.val (.int p0), .val (.int p1), .unset, .unset] [(.ref b18)])) _
    refine XS.dup X31.here hx rfl (hb hby at_40) rfl rfl ?_
    show Steps p.tables e below (T31.setTop (mkF m 41 #[.val (.int p0), .val (.int p1), .unset, .unset] [(.ref b18), (.ref b18)])) _
    refine XS.bipush X31.here hx rfl (hb hby at_41) ?_
    show Steps p.tables e below (T31.setTop (mkF m 43 #[.val (.int p0), .val (.int p1), .unset, .unset] [(.int (7 : Int32)), (.ref b18), (.ref b18)])) _
    refine XS.bipush X31.here hx rfl (hb hby at_43) ?_
    exact k
  obtain ⟨cl34, Ar34, q34, S34, N34, H34, G34⟩ := id V_b18_31
  obtain ⟨T33, h33, X33, e33, W33, st33⟩ := stI X31 hx hZ e31 Ar34 (j := (7 : Int32)) (inb_of (j := (7 : Int32)) S34 ⟨by decide, by decide⟩) (g := (mkF m 45 #[.val (.int p0), .val (.int p1), .unset, .unset] [(.int (97 : Int32)), (.int (7 : Int32)), (.ref b18), (.ref b18)])) rfl rfl (hb hby at_45)
  have V_b18_33 := Arv.set Ar34 q34 S34 N34 H34 G34 rfl W33 7 rfl (Nat.le_of_ble_eq_true rfl)
  have N33 := Fr.snoc X33 N31 ge_b18
  have sz33 : n0 ≤ h33.size := Nat.le_trans sz31 (Nat.le_of_eq W33.size.symm)
  refine Go.st (U' := T33.setTop (mkF m 46 #[.val (.int p0), .val (.int p1), .unset, .unset] [(.ref b18)])) (fun t k => st33 _ k) ?_
  refine Go.st (U' := T33.setTop (mkF m 51 #[.val (.int p0), .val (.int p1), .unset, .unset] [(.int (122 : Int32)), (.int (8 : Int32)), (.ref b18), (.ref b18)])) (fun t k => ?_) ?_
  · show Steps p.tables e below (T33.setTop (mkF m 46 #[.val (.int p0), .val (.int p1), .unset, .unset] [(.ref b18)])) _
    refine XS.dup X33.here hx rfl (hb hby at_46) rfl rfl ?_
    show Steps p.tables e below (T33.setTop (mkF m 47 #[.val (.int p0), .val (.int p1), .unset, .unset] [(.ref b18), (.ref b18)])) _
    refine XS.bipush X33.here hx rfl (hb hby at_47) ?_
    show Steps p.tables e below (T33.setTop (mkF m 49 #[.val (.int p0), .val (.int p1), .unset, .unset] [(.int (8 : Int32)), (.ref b18), (.ref b18)])) _
    refine XS.bipush X33.here hx rfl (hb hby at_49) ?_
    exact k
  obtain ⟨cl36, Ar36, q36, S36, N36, H36, G36⟩ := id V_b18_33
  obtain ⟨T35, h35, X35, e35, W35, st35⟩ := stI X33 hx hZ e33 Ar36 (j := (8 : Int32)) (inb_of (j := (8 : Int32)) S36 ⟨by decide, by decide⟩) (g := (mkF m 51 #[.val (.int p0), .val (.int p1), .unset, .unset] [(.int (122 : Int32)), (.int (8 : Int32)), (.ref b18), (.ref b18)])) rfl rfl (hb hby at_51)
  have V_b18_35 := Arv.set Ar36 q36 S36 N36 H36 G36 rfl W35 8 rfl (Nat.le_of_ble_eq_true rfl)
  have N35 := Fr.snoc X35 N33 ge_b18
  have sz35 : n0 ≤ h35.size := Nat.le_trans sz33 (Nat.le_of_eq W35.size.symm)
  refine Go.st (U' := T35.setTop (mkF m 52 #[.val (.int p0), .val (.int p1), .unset, .unset] [(.ref b18)])) (fun t k => st35 _ k) ?_
  refine Go.st (U' := T35.setTop (mkF m 57 #[.val (.int p0), .val (.int p1), .unset, .unset] [(.int (123 : Int32)), (.int (9 : Int32)), (.ref b18), (.ref b18)])) (fun t k => ?_) ?_
  · show Steps p.tables e below (T35.setTop (mkF m 52 #[.val (.int p0), .val (.int p1), .unset, .unset] [(.ref b18)])) _
    refine XS.dup X35.here hx rfl (hb hby at_52) rfl rfl ?_
    show Steps p.tables e below (T35.setTop (mkF m 53 #[.val (.int p0), .val (.int p1), .unset, .unset] [(.ref b18), (.ref b18)])) _
    refine XS.bipush X35.here hx rfl (hb hby at_53) ?_
    show Steps p.tables e below (T35.setTop (mkF m 55 #[.val (.int p0), .val (.int p1), .unset, .unset] [(.int (9 : Int32)), (.ref b18), (.ref b18)])) _
    refine XS.bipush X35.here hx rfl (hb hby at_55) ?_
    exact k
  obtain ⟨cl38, Ar38, q38, S38, N38, H38, G38⟩ := id V_b18_35
  obtain ⟨T37, h37, X37, e37, W37, st37⟩ := stI X35 hx hZ e35 Ar38 (j := (9 : Int32)) (inb_of (j := (9 : Int32)) S38 ⟨by decide, by decide⟩) (g := (mkF m 57 #[.val (.int p0), .val (.int p1), .unset, .unset] [(.int (123 : Int32)), (.int (9 : Int32)), (.ref b18), (.ref b18)])) rfl rfl (hb hby at_57)
  have V_b18_37 := Arv.set Ar38 q38 S38 N38 H38 G38 rfl W37 9 rfl (Nat.le_of_ble_eq_true rfl)
  have N37 := Fr.snoc X37 N35 ge_b18
  have sz37 : n0 ≤ h37.size := Nat.le_trans sz35 (Nat.le_of_eq W37.size.symm)
  refine Go.st (U' := T37.setTop (mkF m 58 #[.val (.int p0), .val (.int p1), .unset, .unset] [(.ref b18)])) (fun t k => st37 _ k) ?_
  refine Go.st (U' := T37.setTop (mkF m 63 #[.val (.int p0), .val (.int p1), .unset, .unset] [(.int (48 : Int32)), (.int (10 : Int32)), (.ref b18), (.ref b18)])) (fun t k => ?_) ?_
  · show Steps p.tables e below (T37.setTop (mkF m 58 #[.val (.int p0), .val (.int p1), .unset, .unset] [(.ref b18)])) _
    refine XS.dup X37.here hx rfl (hb hby at_58) rfl rfl ?_
    show Steps p.tables e below (T37.setTop (mkF m 59 #[.val (.int p0), .val (.int p1), .unset, .unset] [(.ref b18), (.ref b18)])) _
    refine XS.bipush X37.here hx rfl (hb hby at_59) ?_
    show Steps p.tables e below (T37.setTop (mkF m 61 #[.val (.int p0), .val (.int p1), .unset, .unset] [(.int (10 : Int32)), (.ref b18), (.ref b18)])) _
    refine XS.bipush X37.here hx rfl (hb hby at_61) ?_
    exact k
  obtain ⟨cl40, Ar40, q40, S40, N40, H40, G40⟩ := id V_b18_37
  obtain ⟨T39, h39, X39, e39, W39, st39⟩ := stI X37 hx hZ e37 Ar40 (j := (10 : Int32)) (inb_of (j := (10 : Int32)) S40 ⟨by decide, by decide⟩) (g := (mkF m 63 #[.val (.int p0), .val (.int p1), .unset, .unset] [(.int (48 : Int32)), (.int (10 : Int32)), (.ref b18), (.ref b18)])) rfl rfl (hb hby at_63)
  have V_b18_39 := Arv.set Ar40 q40 S40 N40 H40 G40 rfl W39 10 rfl (Nat.le_of_ble_eq_true rfl)
  have N39 := Fr.snoc X39 N37 ge_b18
  have sz39 : n0 ≤ h39.size := Nat.le_trans sz37 (Nat.le_of_eq W39.size.symm)
  refine Go.st (U' := T39.setTop (mkF m 64 #[.val (.int p0), .val (.int p1), .unset, .unset] [(.ref b18)])) (fun t k => st39 _ k) ?_
  refine Go.st (U' := T39.setTop (mkF m 68 #[.val (.int p0), .val (.int p1), .unset, .unset] [(.int (0 : Int32)), (.int (11 : Int32)), (.ref b18), (.ref b18)])) (fun t k => ?_) ?_
  · show Steps p.tables e below (T39.setTop (mkF m 64 #[.val (.int p0), .val (.int p1), .unset, .unset] [(.ref b18)])) _
    refine XS.dup X39.here hx rfl (hb hby at_64) rfl rfl ?_
    show Steps p.tables e below (T39.setTop (mkF m 65 #[.val (.int p0), .val (.int p1), .unset, .unset] [(.ref b18), (.ref b18)])) _
    refine XS.bipush X39.here hx rfl (hb hby at_65) ?_
    show Steps p.tables e below (T39.setTop (mkF m 67 #[.val (.int p0), .val (.int p1), .unset, .unset] [(.int (11 : Int32)), (.ref b18), (.ref b18)])) _
    refine XS.iconst X39.here hx rfl (hb hby at_67) ?_
    exact k
  obtain ⟨cl42, Ar42, q42, S42, N42, H42, G42⟩ := id V_b18_39
  obtain ⟨T41, h41, X41, e41, W41, st41⟩ := stI X39 hx hZ e39 Ar42 (j := (11 : Int32)) (inb_of (j := (11 : Int32)) S42 ⟨by decide, by decide⟩) (g := (mkF m 68 #[.val (.int p0), .val (.int p1), .unset, .unset] [(.int (0 : Int32)), (.int (11 : Int32)), (.ref b18), (.ref b18)])) rfl rfl (hb hby at_68)
  have V_b18_41 := Arv.set Ar42 q42 S42 N42 H42 G42 rfl W41 11 rfl (Nat.le_of_ble_eq_true rfl)
  have N41 := Fr.snoc X41 N39 ge_b18
  have sz41 : n0 ≤ h41.size := Nat.le_trans sz39 (Nat.le_of_eq W41.size.symm)
  refine Go.st (U' := T41.setTop (mkF m 69 #[.val (.int p0), .val (.int p1), .unset, .unset] [(.ref b18)])) (fun t k => st41 _ k) ?_
  refine Go.st (U' := T41.setTop (mkF m 73 #[.val (.int p0), .val (.int p1), .unset, .unset] [(.int (-1 : Int32)), (.int (12 : Int32)), (.ref b18), (.ref b18)])) (fun t k => ?_) ?_
  · show Steps p.tables e below (T41.setTop (mkF m 69 #[.val (.int p0), .val (.int p1), .unset, .unset] [(.ref b18)])) _
    refine XS.dup X41.here hx rfl (hb hby at_69) rfl rfl ?_
    show Steps p.tables e below (T41.setTop (mkF m 70 #[.val (.int p0), .val (.int p1), .unset, .unset] [(.ref b18), (.ref b18)])) _
    refine XS.bipush X41.here hx rfl (hb hby at_70) ?_
    show Steps p.tables e below (T41.setTop (mkF m 72 #[.val (.int p0), .val (.int p1), .unset, .unset] [(.int (12 : Int32)), (.ref b18), (.ref b18)])) _
    refine XS.iconst X41.here hx rfl (hb hby at_72) ?_
    exact k
  obtain ⟨cl44, Ar44, q44, S44, N44, H44, G44⟩ := id V_b18_41
  obtain ⟨T43, h43, X43, e43, W43, st43⟩ := stI X41 hx hZ e41 Ar44 (j := (12 : Int32)) (inb_of (j := (12 : Int32)) S44 ⟨by decide, by decide⟩) (g := (mkF m 73 #[.val (.int p0), .val (.int p1), .unset, .unset] [(.int (-1 : Int32)), (.int (12 : Int32)), (.ref b18), (.ref b18)])) rfl rfl (hb hby at_73)
  have V_b18_43 := Arv.set Ar44 q44 S44 N44 H44 G44 rfl W43 12 rfl (Nat.le_of_ble_eq_true rfl)
  have N43 := Fr.snoc X43 N41 ge_b18
  have sz43 : n0 ≤ h43.size := Nat.le_trans sz41 (Nat.le_of_eq W43.size.symm)
  refine Go.st (U' := T43.setTop (mkF m 74 #[.val (.int p0), .val (.int p1), .unset, .unset] [(.ref b18)])) (fun t k => st43 _ k) ?_
  refine Go.st (U' := T43.setTop (mkF m 79 #[.val (.int p0), .val (.int p1), .unset, .unset] [(.int (-2147483648 : Int32)), (.int (13 : Int32)), (.ref b18), (.ref b18)])) (fun t k => ?_) ?_
  · show Steps p.tables e below (T43.setTop (mkF m 74 #[.val (.int p0), .val (.int p1), .unset, .unset] [(.ref b18)])) _
    refine XS.dup X43.here hx rfl (hb hby at_74) rfl rfl ?_
    show Steps p.tables e below (T43.setTop (mkF m 75 #[.val (.int p0), .val (.int p1), .unset, .unset] [(.ref b18), (.ref b18)])) _
    refine XS.bipush X43.here hx rfl (hb hby at_75) ?_
    show Steps p.tables e below (T43.setTop (mkF m 77 #[.val (.int p0), .val (.int p1), .unset, .unset] [(.int (13 : Int32)), (.ref b18), (.ref b18)])) _
    refine X43.ldcInt hx hown (mvT hZ (own_w hw 1 rfl)) (g := (mkF m 77 #[.val (.int p0), .val (.int p1), .unset, .unset] [(.int (13 : Int32)), (.ref b18), (.ref b18)])) rfl (hb hby at_77) _ ?_
    exact k
  obtain ⟨cl46, Ar46, q46, S46, N46, H46, G46⟩ := id V_b18_43
  obtain ⟨T45, h45, X45, e45, W45, st45⟩ := stI X43 hx hZ e43 Ar46 (j := (13 : Int32)) (inb_of (j := (13 : Int32)) S46 ⟨by decide, by decide⟩) (g := (mkF m 79 #[.val (.int p0), .val (.int p1), .unset, .unset] [(.int (-2147483648 : Int32)), (.int (13 : Int32)), (.ref b18), (.ref b18)])) rfl rfl (hb hby at_79)
  have V_b18_45 := Arv.set Ar46 q46 S46 N46 H46 G46 rfl W45 13 rfl (Nat.le_of_ble_eq_true rfl)
  have N45 := Fr.snoc X45 N43 ge_b18
  have sz45 : n0 ≤ h45.size := Nat.le_trans sz43 (Nat.le_of_eq W45.size.symm)
  refine Go.st (U' := T45.setTop (mkF m 80 #[.val (.int p0), .val (.int p1), .unset, .unset] [(.ref b18)])) (fun t k => st45 _ k) ?_
  refine Go.st (U' := T45.setTop (mkF m 85 #[.val (.int p0), .val (.int p1), .unset, .unset] [(.int (2147483647 : Int32)), (.int (14 : Int32)), (.ref b18), (.ref b18)])) (fun t k => ?_) ?_
  · show Steps p.tables e below (T45.setTop (mkF m 80 #[.val (.int p0), .val (.int p1), .unset, .unset] [(.ref b18)])) _
    refine XS.dup X45.here hx rfl (hb hby at_80) rfl rfl ?_
    show Steps p.tables e below (T45.setTop (mkF m 81 #[.val (.int p0), .val (.int p1), .unset, .unset] [(.ref b18), (.ref b18)])) _
    refine XS.bipush X45.here hx rfl (hb hby at_81) ?_
    show Steps p.tables e below (T45.setTop (mkF m 83 #[.val (.int p0), .val (.int p1), .unset, .unset] [(.int (14 : Int32)), (.ref b18), (.ref b18)])) _
    refine X45.ldcInt hx hown (mvT hZ (own_w hw 2 rfl)) (g := (mkF m 83 #[.val (.int p0), .val (.int p1), .unset, .unset] [(.int (14 : Int32)), (.ref b18), (.ref b18)])) rfl (hb hby at_83) _ ?_
    exact k
  obtain ⟨cl48, Ar48, q48, S48, N48, H48, G48⟩ := id V_b18_45
  obtain ⟨T47, h47, X47, e47, W47, st47⟩ := stI X45 hx hZ e45 Ar48 (j := (14 : Int32)) (inb_of (j := (14 : Int32)) S48 ⟨by decide, by decide⟩) (g := (mkF m 85 #[.val (.int p0), .val (.int p1), .unset, .unset] [(.int (2147483647 : Int32)), (.int (14 : Int32)), (.ref b18), (.ref b18)])) rfl rfl (hb hby at_85)
  have V_b18_47 := Arv.set Ar48 q48 S48 N48 H48 G48 rfl W47 14 rfl (Nat.le_of_ble_eq_true rfl)
  have N47 := Fr.snoc X47 N45 ge_b18
  have sz47 : n0 ≤ h47.size := Nat.le_trans sz45 (Nat.le_of_eq W47.size.symm)
  refine Go.st (U' := T47.setTop (mkF m 86 #[.val (.int p0), .val (.int p1), .unset, .unset] [(.ref b18)])) (fun t k => st47 _ k) ?_
  refine Go.st (U' := T47.setTop (mkF m 91 #[.val (.int p0), .val (.int p1), .unset, .unset] [(.int (65601 : Int32)), (.int (15 : Int32)), (.ref b18), (.ref b18)])) (fun t k => ?_) ?_
  · show Steps p.tables e below (T47.setTop (mkF m 86 #[.val (.int p0), .val (.int p1), .unset, .unset] [(.ref b18)])) _
    refine XS.dup X47.here hx rfl (hb hby at_86) rfl rfl ?_
    show Steps p.tables e below (T47.setTop (mkF m 87 #[.val (.int p0), .val (.int p1), .unset, .unset] [(.ref b18), (.ref b18)])) _
    refine XS.bipush X47.here hx rfl (hb hby at_87) ?_
    show Steps p.tables e below (T47.setTop (mkF m 89 #[.val (.int p0), .val (.int p1), .unset, .unset] [(.int (15 : Int32)), (.ref b18), (.ref b18)])) _
    refine X47.ldcInt hx hown (mvT hZ (own_w hw 3 rfl)) (g := (mkF m 89 #[.val (.int p0), .val (.int p1), .unset, .unset] [(.int (15 : Int32)), (.ref b18), (.ref b18)])) rfl (hb hby at_89) _ ?_
    exact k
  obtain ⟨cl50, Ar50, q50, S50, N50, H50, G50⟩ := id V_b18_47
  obtain ⟨T49, h49, X49, e49, W49, st49⟩ := stI X47 hx hZ e47 Ar50 (j := (15 : Int32)) (inb_of (j := (15 : Int32)) S50 ⟨by decide, by decide⟩) (g := (mkF m 91 #[.val (.int p0), .val (.int p1), .unset, .unset] [(.int (65601 : Int32)), (.int (15 : Int32)), (.ref b18), (.ref b18)])) rfl rfl (hb hby at_91)
  have V_b18_49 := Arv.set Ar50 q50 S50 N50 H50 G50 rfl W49 15 rfl (Nat.le_of_ble_eq_true rfl)
  have N49 := Fr.snoc X49 N47 ge_b18
  have sz49 : n0 ≤ h49.size := Nat.le_trans sz47 (Nat.le_of_eq W49.size.symm)
  refine Go.st (U' := T49.setTop (mkF m 92 #[.val (.int p0), .val (.int p1), .unset, .unset] [(.ref b18)])) (fun t k => st49 _ k) ?_
  obtain ⟨cl51, Ar51, q51, S51, N51, H51, G51⟩ := id V_b18_49
  refine Go.st (U' := T49.setTop (mkF m 100 #[.val (.int p0), .val (.int p1), .val (.ref b18), .val (.int (([(64 : Int32), (65 : Int32), (90 : Int32), (91 : Int32), (94 : Int32), (95 : Int32), (96 : Int32), (97 : Int32), (122 : Int32), (123 : Int32), (48 : Int32), (0 : Int32), (-1 : Int32), (-2147483648 : Int32), (2147483647 : Int32), (65601 : Int32)] : List Int32).getD ((p1 &&& (15 : Int32))).toNatClampNeg (0 : Int32)))] [])) (fun t k => ?_) ?_
  · show Steps p.tables e below (T49.setTop (mkF m 92 #[.val (.int p0), .val (.int p1), .unset, .unset] [(.ref b18)])) _
    refine XS.astoreN X49.here hx rfl (hb hby at_92) rfl rfl (l' := #[.val (.int p0), .val (.int p1), .val (.ref b18), .unset]) rfl ?_
    show Steps p.tables e below (T49.setTop (mkF m 93 #[.val (.int p0), .val (.int p1), .val (.ref b18), .unset] [])) _
    refine XS.aloadN X49.here hx rfl (hb hby at_93) rfl rfl ?_
    show Steps p.tables e below (T49.setTop (mkF m 94 #[.val (.int p0), .val (.int p1), .val (.ref b18), .unset] [(.ref b18)])) _
    refine XS.iloadN X49.here hx rfl (hb hby at_94) rfl ?_
    show Steps p.tables e below (T49.setTop (mkF m 95 #[.val (.int p0), .val (.int p1), .val (.ref b18), .unset] [(.int p1), (.ref b18)])) _
    refine XS.bipush X49.here hx rfl (hb hby at_95) ?_
    show Steps p.tables e below (T49.setTop (mkF m 97 #[.val (.int p0), .val (.int p1), .val (.ref b18), .unset] [(.int (15 : Int32)), (.int p1), (.ref b18)])) _
    refine XS.iand X49.here hx rfl (hb hby at_97) rfl ?_
    show Steps p.tables e below (T49.setTop (mkF m 98 #[.val (.int p0), .val (.int p1), .val (.ref b18), .unset] [(.int (p1 &&& (15 : Int32))), (.ref b18)])) _
    refine X49.iaload hx (j := (p1 &&& (15 : Int32))) (v := (.int (([(64 : Int32), (65 : Int32), (90 : Int32), (91 : Int32), (94 : Int32), (95 : Int32), (96 : Int32), (97 : Int32), (122 : Int32), (123 : Int32), (48 : Int32), (0 : Int32), (-1 : Int32), (-2147483648 : Int32), (2147483647 : Int32), (65601 : Int32)] : List Int32).getD ((p1 &&& (15 : Int32))).toNatClampNeg (0 : Int32)))) (by rw [e49]; exact Ar51.1) (State.isArrayOf_alike hZ.alike Ar51.2.1) Ar51.2.2 (inb_of (j := (p1 &&& (15 : Int32))) S51 (own_mk p1 15 16 4 (by decide) (by decide) (by decide))) (Has.at H51 (inb_of (j := (p1 &&& (15 : Int32))) S51 (own_mk p1 15 16 4 (by decide) (by decide) (by decide))) (own_getI [(64 : Int32), (65 : Int32), (90 : Int32), (91 : Int32), (94 : Int32), (95 : Int32), (96 : Int32), (97 : Int32), (122 : Int32), (123 : Int32), (48 : Int32), (0 : Int32), (-1 : Int32), (-2147483648 : Int32), (2147483647 : Int32), (65601 : Int32)] _)) (g := (mkF m 98 #[.val (.int p0), .val (.int p1), .val (.ref b18), .unset] [(.int (p1 &&& (15 : Int32))), (.ref b18)])) rfl rfl (hb hby at_98) _ ?_
    show Steps p.tables e below (T49.setTop (mkF m 99 #[.val (.int p0), .val (.int p1), .val (.ref b18), .unset] [(.int (([(64 : Int32), (65 : Int32), (90 : Int32), (91 : Int32), (94 : Int32), (95 : Int32), (96 : Int32), (97 : Int32), (122 : Int32), (123 : Int32), (48 : Int32), (0 : Int32), (-1 : Int32), (-2147483648 : Int32), (2147483647 : Int32), (65601 : Int32)] : List Int32).getD ((p1 &&& (15 : Int32))).toNatClampNeg (0 : Int32)))])) _
    refine XS.istoreN X49.here hx rfl (hb hby at_99) rfl (l' := #[.val (.int p0), .val (.int p1), .val (.ref b18), .val (.int (([(64 : Int32), (65 : Int32), (90 : Int32), (91 : Int32), (94 : Int32), (95 : Int32), (96 : Int32), (97 : Int32), (122 : Int32), (123 : Int32), (48 : Int32), (0 : Int32), (-1 : Int32), (-2147483648 : Int32), (2147483647 : Int32), (65601 : Int32)] : List Int32).getD ((p1 &&& (15 : Int32))).toNatClampNeg (0 : Int32)))]) rfl ?_
    exact k
  generalize hv_v52 : (([(64 : Int32), (65 : Int32), (90 : Int32), (91 : Int32), (94 : Int32), (95 : Int32), (96 : Int32), (97 : Int32), (122 : Int32), (123 : Int32), (48 : Int32), (0 : Int32), (-1 : Int32), (-2147483648 : Int32), (2147483647 : Int32), (65601 : Int32)] : List Int32).getD ((p1 &&& (15 : Int32))).toNatClampNeg (0 : Int32)) = v52
  refine Go.st (U' := T49.setTop (mkF m 101 #[.val (.int p0), .val (.int p1), .val (.ref b18), .val (.int v52)] [(.int p0)])) (fun t k => ?_) ?_
  · show Steps p.tables e below (T49.setTop (mkF m 100 #[.val (.int p0), .val (.int p1), .val (.ref b18), .val (.int v52)] [])) _
    refine XS.iloadN X49.here hx rfl (hb hby at_100) rfl ?_
    exact k
  obtain ⟨_, _, ⟨T53, L53, k53, n53⟩, -, X53, ⟨Lc53, hQ53, l53, y53, z53⟩, st53⟩ := Jvm.LawKit.callS X49 hx (y := own_y2) hown (mvT hZ (own_w hw 4 rfl)) (mvT hZ (own_w hw 5 rfl)) (mvT hZ (own_w hw 6 rfl)) (mvT hZ (own_w hw 7 rfl)) (by decide) (backOf (W := 0) (rm3 l Z a0 hw [] p0 h49 n0 sz49 ) hZ (own_w hw 7 rfl) (own_w hw 6 rfl) (by decide) (by decide)) (g := (mkF m 101 #[.val (.int p0), .val (.int p1), .val (.ref b18), .val (.int v52)] [(.int p0)])) rfl (by rw [hml]; rfl) (argsL := [(.int p0)]) (rest := []) (lenOf pd_0 rfl) rfl (by show 2 * 0 + _ ≤ _; exact Nat.le_of_eq rfl) (hb hby at_101) (fun _ _ => ⟨rfl, e49, (by decide : 1 + 0 ≤ _), (by decide : 16 + 0 ≤ _)⟩)
  dsimp only [Pt.U, Pt.locs, Pt.cells, Pt.slots] at X53 l53 y53 z53 st53 hQ53
  subst l53 y53 z53
  obtain ⟨rfl, N53q, e53⟩ := hQ53
  have N53 := Fr.app N49 N53q
  refine Go.st (U' := T53.setTop (mkF m 104 #[.val (.int p0), .val (.int p1), .val (.ref b18), .val (.int v52)] [(.int (f3 p0))])) (fun t k => st53 _ k) ?_
  refine Go.st (U' := T53.setTop (mkF m 111 #[.val (.int p0), .val (.int p1), .val (.ref b18), .val (.int v52)] [(.int (p0 &&& (127 : Int32)))])) (fun t k => ?_) ?_
  · show Steps p.tables e below (T53.setTop (mkF m 104 #[.val (.int p0), .val (.int p1), .val (.ref b18), .val (.int v52)] [(.int (f3 p0))])) _
    refine XS.ifNo X53.here hx rfl (hb hby at_104) rfl ((if0 _ _).trans (feq (own_agree _ : ¬ ((f3 p0) = (0 : Int32)))).1) ?_
    show Steps p.tables e below (T53.setTop (mkF m 107 #[.val (.int p0), .val (.int p1), .val (.ref b18), .val (.int v52)] [])) _
    refine XS.iloadN X53.here hx rfl (hb hby at_107) rfl ?_
    show Steps p.tables e below (T53.setTop (mkF m 108 #[.val (.int p0), .val (.int p1), .val (.ref b18), .val (.int v52)] [(.int p0)])) _
    refine XS.bipush X53.here hx rfl (hb hby at_108) ?_
    show Steps p.tables e below (T53.setTop (mkF m 110 #[.val (.int p0), .val (.int p1), .val (.ref b18), .val (.int v52)] [(.int (127 : Int32)), (.int p0)])) _
    refine XS.iand X53.here hx rfl (hb hby at_110) rfl ?_
    exact k
  obtain ⟨_, _, ⟨T54, L54, k54, n54⟩, -, X54, ⟨Lc54, hQ54, l54, y54, z54⟩, st54⟩ := Jvm.LawKit.callS X53 hx (y := own_y2) hown (mvT hZ (own_w hw 4 rfl)) (mvT hZ (own_w hw 5 rfl)) (mvT hZ (own_w hw 6 rfl)) (mvT hZ (own_w hw 7 rfl)) (by decide) (backOf (W := 0) (rm3 l Z a0 hw [] (p0 &&& (127 : Int32)) h49 n0 sz49 ) hZ (own_w hw 7 rfl) (own_w hw 6 rfl) (by decide) (by decide)) (g := (mkF m 111 #[.val (.int p0), .val (.int p1), .val (.ref b18), .val (.int v52)] [(.int (p0 &&& (127 : Int32)))])) rfl (by rw [hml]; rfl) (argsL := [(.int (p0 &&& (127 : Int32)))]) (rest := []) (lenOf pd_0 rfl) rfl (by show 2 * 0 + _ ≤ _; exact Nat.le_of_eq rfl) (hb hby at_111) (fun _ _ => ⟨rfl, e53, (by decide : 1 + 0 ≤ _), (by decide : 16 + 0 ≤ _)⟩)
  dsimp only [Pt.U, Pt.locs, Pt.cells, Pt.slots] at X54 l54 y54 z54 st54 hQ54
  subst l54 y54 z54
  obtain ⟨rfl, N54q, e54⟩ := hQ54
  have N54 := Fr.app N53 N54q
  refine Go.st (U' := T54.setTop (mkF m 114 #[.val (.int p0), .val (.int p1), .val (.ref b18), .val (.int v52)] [(.int (f3 (p0 &&& (127 : Int32))))])) (fun t k => st54 _ k) ?_
  refine Go.st (U' := T54.setTop (mkF m 118 #[.val (.int p0), .val (.int p1), .val (.ref b18), .val (.int v52)] [(.int v52)])) (fun t k => ?_) ?_
  · show Steps p.tables e below (T54.setTop (mkF m 114 #[.val (.int p0), .val (.int p1), .val (.ref b18), .val (.int v52)] [(.int (f3 (p0 &&& (127 : Int32))))])) _
    refine XS.ifNo X54.here hx rfl (hb hby at_114) rfl ((if0 _ _).trans (feq (own_agree _ : ¬ ((f3 (p0 &&& (127 : Int32))) = (0 : Int32)))).1) ?_
    show Steps p.tables e below (T54.setTop (mkF m 117 #[.val (.int p0), .val (.int p1), .val (.ref b18), .val (.int v52)] [])) _
    refine XS.iloadN X54.here hx rfl (hb hby at_117) rfl ?_
    exact k
  obtain ⟨_, _, ⟨T55, L55, k55, n55⟩, -, X55, ⟨Lc55, hQ55, l55, y55, z55⟩, st55⟩ := Jvm.LawKit.callS X54 hx (y := own_y2) hown (mvT hZ (own_w hw 4 rfl)) (mvT hZ (own_w hw 5 rfl)) (mvT hZ (own_w hw 6 rfl)) (mvT hZ (own_w hw 7 rfl)) (by decide) (backOf (W := 0) (rm3 l Z a0 hw [] v52 h49 n0 sz49 ) hZ (own_w hw 7 rfl) (own_w hw 6 rfl) (by decide) (by decide)) (g := (mkF m 118 #[.val (.int p0), .val (.int p1), .val (.ref b18), .val (.int v52)] [(.int v52)])) rfl (by rw [hml]; rfl) (argsL := [(.int v52)]) (rest := []) (lenOf pd_0 rfl) rfl (by show 2 * 0 + _ ≤ _; exact Nat.le_of_eq rfl) (hb hby at_118) (fun _ _ => ⟨rfl, e54, (by decide : 1 + 0 ≤ _), (by decide : 16 + 0 ≤ _)⟩)
  dsimp only [Pt.U, Pt.locs, Pt.cells, Pt.slots] at X55 l55 y55 z55 st55 hQ55
  subst l55 y55 z55
  obtain ⟨rfl, N55q, e55⟩ := hQ55
  have N55 := Fr.app N54 N55q
  refine Go.st (U' := T55.setTop (mkF m 121 #[.val (.int p0), .val (.int p1), .val (.ref b18), .val (.int v52)] [(.int (f3 v52))])) (fun t k => st55 _ k) ?_
  refine Go.st (U' := T55.setTop (mkF m 129 #[.val (.int p0), .val (.int p1), .val (.ref b18), .val (.int v52)] [(.int (p1 &&& (255 : Int32)))])) (fun t k => ?_) ?_
  · show Steps p.tables e below (T55.setTop (mkF m 121 #[.val (.int p0), .val (.int p1), .val (.ref b18), .val (.int v52)] [(.int (f3 v52))])) _
    refine XS.ifNo X55.here hx rfl (hb hby at_121) rfl ((if0 _ _).trans (feq (own_agree _ : ¬ ((f3 v52) = (0 : Int32)))).1) ?_
    show Steps p.tables e below (T55.setTop (mkF m 124 #[.val (.int p0), .val (.int p1), .val (.ref b18), .val (.int v52)] [])) _
    refine XS.iloadN X55.here hx rfl (hb hby at_124) rfl ?_
    show Steps p.tables e below (T55.setTop (mkF m 125 #[.val (.int p0), .val (.int p1), .val (.ref b18), .val (.int v52)] [(.int p1)])) _
    refine XS.sipush X55.here hx rfl (hb hby at_125) ?_
    show Steps p.tables e below (T55.setTop (mkF m 128 #[.val (.int p0), .val (.int p1), .val (.ref b18), .val (.int v52)] [(.int (255 : Int32)), (.int p1)])) _
    refine XS.iand X55.here hx rfl (hb hby at_128) rfl ?_
    exact k
  obtain ⟨_, _, ⟨T56, L56, k56, n56⟩, -, X56, ⟨Lc56, hQ56, l56, y56, z56⟩, st56⟩ := Jvm.LawKit.callS X55 hx (y := own_y2) hown (mvT hZ (own_w hw 4 rfl)) (mvT hZ (own_w hw 5 rfl)) (mvT hZ (own_w hw 6 rfl)) (mvT hZ (own_w hw 7 rfl)) (by decide) (backOf (W := 0) (rm3 l Z a0 hw [] (p1 &&& (255 : Int32)) h49 n0 sz49 ) hZ (own_w hw 7 rfl) (own_w hw 6 rfl) (by decide) (by decide)) (g := (mkF m 129 #[.val (.int p0), .val (.int p1), .val (.ref b18), .val (.int v52)] [(.int (p1 &&& (255 : Int32)))])) rfl (by rw [hml]; rfl) (argsL := [(.int (p1 &&& (255 : Int32)))]) (rest := []) (lenOf pd_0 rfl) rfl (by show 2 * 0 + _ ≤ _; exact Nat.le_of_eq rfl) (hb hby at_129) (fun _ _ => ⟨rfl, e55, (by decide : 1 + 0 ≤ _), (by decide : 16 + 0 ≤ _)⟩)
  dsimp only [Pt.U, Pt.locs, Pt.cells, Pt.slots] at X56 l56 y56 z56 st56 hQ56
  subst l56 y56 z56
  obtain ⟨rfl, N56q, e56⟩ := hQ56
  have N56 := Fr.app N55 N56q
  refine Go.st (U' := T56.setTop (mkF m 132 #[.val (.int p0), .val (.int p1), .val (.ref b18), .val (.int v52)] [(.int (f3 (p1 &&& (255 : Int32))))])) (fun t k => st56 _ k) ?_
  refine Go.st (U' := T56.setTop (mkF m 140 #[.val (.int p0), .val (.int p1), .val (.ref b18), .val (.int v52)] [(.int (1 : Int32))])) (fun t k => ?_) ?_
  · show Steps p.tables e below (T56.setTop (mkF m 132 #[.val (.int p0), .val (.int p1), .val (.ref b18), .val (.int v52)] [(.int (f3 (p1 &&& (255 : Int32))))])) _
    refine XS.ifNo X56.here hx rfl (hb hby at_132) rfl ((if0 _ _).trans (feq (own_agree _ : ¬ ((f3 (p1 &&& (255 : Int32))) = (0 : Int32)))).1) ?_
    show Steps p.tables e below (T56.setTop (mkF m 135 #[.val (.int p0), .val (.int p1), .val (.ref b18), .val (.int v52)] [])) _
    refine XS.iconst X56.here hx rfl (hb hby at_135) ?_
    show Steps p.tables e below (T56.setTop (mkF m 136 #[.val (.int p0), .val (.int p1), .val (.ref b18), .val (.int v52)] [(.int (1 : Int32))])) _
    refine XS.goto X56.here hx rfl (pc0 := 136) (pc' := 140) rfl (hb hby at_136) (by decide) (by decide) ?_
    exact k
  refine own_ret (Q := Q0 Z p0 p1 h0 n0) (v := some (.int (1 : Int32))) X56 hlk (fun h => by rw [hrt] at h; cases h) (by decide) (by decide) ?_ (fun fs hr => retN X56 hx (t := .boolean) hrt (by simp) (hb hby at_140) hr)
  rw [e56]
  exact ⟨rfl, N56⟩
set_option maxRecDepth 65536 in
set_option maxHeartbeats 40000000 in
theorem comes_1 {Post : Tables → Env → Array Value → State → Outcome → State → Prop} (hpost : ∀ tb e args s v u, (limb_1_1.after args s (.returned v) u = true ∧ limb_1_2.after args s (.returned v) u = true ∧ True) → FrameEnd s (.returned v) u (Jvm.fieldLocs frame_1_writes args s ++ Jvm.arrayLocs frame_1_arrays args s ++ Jvm.staticLocs frame_1_statics s) 16 128 → Post tb e args s (.returned v) u) :
    ArmFor flags0 classFile x code maxLocals ret World_1 tables_1 room_1 Calls_1 rest_1 Pre_1 Post := by
  intro l hfl _ _ p e ha hc hk s m args below hf hA hF happ hP
  obtain ⟨hcalls, hrest, hpre⟩ := hP
  obtain ⟨-, -, -, hnamed, -, -, -, hat⟩ := (Spec.applies_iff hf).mp happ
  obtain ⟨hg, hn⟩ := and_e (Cond.before_iff.mp (show (Jvm.Cond.and given_1 narrow_1).before args s = true from hpre))
  obtain ⟨gg1, gg2⟩ := and_e hg
  obtain ⟨gg3, gg4⟩ := and_e gg2
  obtain ⟨w0, w1, rfl⟩ : ∃ w0 w1 : Value, args = #[w0, w1] := by
    have hs : args.size = 2 := by simpa [Cond.value, given_1] using gg1
    obtain ⟨L⟩ := args
    match L, hs with
    | [w0, w1], _ => exact ⟨w0, w1, rfl⟩
  have hw := fun d (hd : d ∈ tables_1) => atoms_spec (ws := Jvm.Cond.code x code maxLocals ret :: tables_1) hat d (List.mem_cons_of_mem _ hd)
  obtain ⟨i0, ei0⟩ := is_v gg3
  obtain rfl : w0 = (.int i0) := Option.some.inj ei0
  obtain ⟨i1, ei1⟩ := is_v gg4
  obtain rfl : w1 = (.int i1) := Option.some.inj ei1
  obtain ⟨n, o, h1, h2, h3, _, L, rfl, ⟨rfl, N⟩, hq⟩ := rm0 l s _ hw tables_1 i0 i1 s.heap s.heap.size (Nat.le_refl _)  p e ha hc hk s m _ below hf ((Spec.applies_iff_loose hf).mp happ).1 ⟨rfl, State.Warmed39.refl s, rfl⟩ trivial
  refine ⟨n, _, h1, h2, h3, hpost _ _ _ _ _ _ ⟨Cond.after_iff.mpr rfl, Cond.after_iff.mpr (eq_i res_at (Term.int_eval (1)) rfl), trivial⟩ ⟨hq.1, hq.2.1, (hq.2.2.sift fun y hy => Or.inr (N y hy)).mono (by decide) (by decide)⟩⟩
theorem main_1_1 : Claimed_1_1 := comes_1 fun _ _ _ _ _ _ h hF => ⟨h.1, hF⟩
theorem main_1_2 : Claimed_1_2 := comes_1 fun _ _ _ _ _ _ h hF => ⟨h.2.1, hF⟩
end Jvm.Pilot.@@N@@
namespace Jvm.Pilot.@@N@@
open Jvm Jvm.ClassFile Sem Op Lib Jvm.Free Jvm.Stand Jvm.Pilot.@@N@@.Jvm.D
/-! MADE BY PROGRAM (witnessworld.py) out of the Statement's table words and the real class files: 9 classes; the members and pool entries that the words name. The judged class is class 1, her method 3. -/
namespace start1
open Jvm.ClassFile
def u (s : String) : CpInfo := .utf8 (stringToUtf16 s)
/-- a pool by its gaps: so many unusable entries, then the entry; so many at the end -/
def gap : Nat → List CpInfo → List CpInfo
  | 0, r => r
  | n + 1, r => .unusable :: gap n r
def poolList (es : List (Nat × CpInfo)) (last : Nat) : List CpInfo := es.foldr (fun e r => gap e.1 (e.2 :: r)) (gap last [])
def pool (es : List (Nat × CpInfo)) (last : Nat) : Array CpInfo := ⟨poolList es last⟩
def fileOf (pool : Array CpInfo) (this : Nat) (attrs : Array Attribute := #[]) (ms : Array MethodInfo := #[]) (fl : Nat := 33) (sup : Nat := 0) (ifs : Array Nat := #[]) (fds : Array FieldInfo := #[]) : ClassFile where
  minorVersion := 0
  majorVersion := 65
  constantPool := pool
  accessFlags := fl
  thisClass := this
  superClass := sup
  interfaces := ifs
  fields := fds
  methods := ms
  attributes := attrs
def plain (name : String) (sup : Option ClassId) : Class where
  name := name
  kind := .ordinary
  loader := none
  accessFlags := 33
  super := sup
  interfaces := #[]
  cf := none
  fields := #[]
  methods := #[]
  instanceTypes := #[]
  staticTypes := #[]
  resolved := #[]
  callSites := []
  init := .initialized
  statics := none
  mirror := none

def pool0 : Array CpInfo := pool [(5, u "<init>"), (0, u "()V"), (1, .class_ 10), (1, u "java/lang/Object")] 113

def k0m0 : Method := { name := "<init>", desc := "()V", sig := { parameters := [], returnType := none }, accessFlags := 1, code := none }
/-- java/lang/Object -/
def k0 : Class := { plain "java/lang/Object" none with
  accessFlags := 33
  interfaces := #[]
  cf := some (fileOf pool0 8 #[] #[{ accessFlags := 1, nameIndex := 5, descriptorIndex := 6, attributes := #[] }] 33 0 #[] #[])
  fields := #[]
  methods := #[k0m0]
  instanceTypes := #[]
  staticTypes := #[]
  resolved := Array.replicate 124 none
  statics := none }

def pool1 : Array CpInfo := pool [(2, .class_ 4), (1, u "java/lang/Object"), (0, u "<init>"), (0, u "()V"), (0, .methodref 8 9), (0, .class_ 10), (0, .nameAndType 11 12), (0, u "com/example/ligature/ligature/text/TextScanner"), (0, u "isNameStart"), (0, u "(I)Z"), (0, .methodref 14 15), (0, .class_ 16), (0, .nameAndType 17 12), (0, u "com/example/ligature/ligature/text/TextScannerIsNameStartPinLaw"), (0, u "ref"), (2, .integer 2147483648), (0, .integer 2147483647), (0, .integer 65601), (0, .methodref 14 24), (0, .nameAndType 25 12), (0, u "agrees"), (3, u "law"), (0, u "(II)Z")] 4

def k1m0 : Method := { name := "<init>", desc := "()V", sig := { parameters := [], returnType := none }, accessFlags := 1, code := none }
def k1c1 : Code := { maxStack := 2, maxLocals := 2, code := method_2_code, exceptionTable := #[], attributes := #[] }
def k1m1 : Method := { name := "ref", desc := "(I)Z", sig := { parameters := [.int], returnType := some .boolean }, accessFlags := 10, code := some k1c1 }
def k1c2 : Code := { maxStack := 2, maxLocals := 1, code := method_3_code, exceptionTable := #[], attributes := #[] }
def k1m2 : Method := { name := "agrees", desc := "(I)Z", sig := { parameters := [.int], returnType := some .boolean }, accessFlags := 10, code := some k1c2 }
def k1c3 : Code := { maxStack := 4, maxLocals := 4, code := code, exceptionTable := #[], attributes := #[] }
def k1m3 : Method := { name := "law", desc := "(II)Z", sig := { parameters := [.int, .int], returnType := some .boolean }, accessFlags := 9, code := some k1c3 }
/-- com/example/ligature/ligature/text/TextScannerIsNameStartPinLaw -/
def k1 : Class := { plain "com/example/ligature/ligature/text/TextScannerIsNameStartPinLaw" (some 0) with
  accessFlags := 49
  interfaces := #[]
  cf := some (fileOf pool1 14 #[] #[{ accessFlags := 1, nameIndex := 5, descriptorIndex := 6, attributes := #[] }, { accessFlags := 10, nameIndex := 17, descriptorIndex := 12, attributes := #[] }, { accessFlags := 10, nameIndex := 25, descriptorIndex := 12, attributes := #[] }, { accessFlags := 9, nameIndex := 29, descriptorIndex := 30, attributes := #[] }] 49 2 #[] #[])
  fields := #[]
  methods := #[k1m0, k1m1, k1m2, k1m3]
  instanceTypes := #[]
  staticTypes := #[]
  resolved := Array.replicate 35 none
  statics := none }

def pool2 : Array CpInfo := pool [(2, .class_ 4), (1, u "java/lang/Object"), (3, .class_ 10), (1, u "com/example/ligature/ligature/text/TextScanner"), (0, u "countedLine"), (0, u "I"), (2, u "countedColumn"), (2, u "file"), (0, u "Ljava/lang/String;"), (2, u "text"), (2, u "pos"), (24, u "(I)Z"), (22, u "isNameStart"), (88, u "countedTo"), (2, u "countedOffset"), (18, u "END"), (2, u "QUOTED_MOST")] 42

def k2c0 : Code := { maxStack := 2, maxLocals := 1, code := prog_63_method_22_code, exceptionTable := #[], attributes := #[] }
def k2m0 : Method := { name := "isNameStart", desc := "(I)Z", sig := { parameters := [.int], returnType := some .boolean }, accessFlags := 9, code := some k2c0 }
/-- com/example/ligature/ligature/text/TextScanner -/
def k2 : Class := { plain "com/example/ligature/ligature/text/TextScanner" (some 0) with
  accessFlags := 33
  interfaces := #[]
  cf := some (fileOf pool2 8 #[] #[{ accessFlags := 9, nameIndex := 73, descriptorIndex := 50, attributes := #[] }] 33 2 #[] #[{ accessFlags := 25, nameIndex := 184, descriptorIndex := 12, attributes := #[] }, { accessFlags := 26, nameIndex := 187, descriptorIndex := 12, attributes := #[] }, { accessFlags := 18, nameIndex := 18, descriptorIndex := 19, attributes := #[] }, { accessFlags := 18, nameIndex := 22, descriptorIndex := 19, attributes := #[] }, { accessFlags := 2, nameIndex := 25, descriptorIndex := 12, attributes := #[] }, { accessFlags := 2, nameIndex := 162, descriptorIndex := 12, attributes := #[] }, { accessFlags := 2, nameIndex := 165, descriptorIndex := 12, attributes := #[] }, { accessFlags := 2, nameIndex := 11, descriptorIndex := 12, attributes := #[] }, { accessFlags := 2, nameIndex := 15, descriptorIndex := 12, attributes := #[] }])
  fields := #[{ name := "END", type := .int, accessFlags := 25, slot := 0, constantValue := 0 }, { name := "QUOTED_MOST", type := .int, accessFlags := 26, slot := 1, constantValue := 0 }, { name := "file", type := (.object "java/lang/String"), accessFlags := 18, slot := 0, constantValue := 0 }, { name := "text", type := (.object "java/lang/String"), accessFlags := 18, slot := 1, constantValue := 0 }, { name := "pos", type := .int, accessFlags := 2, slot := 2, constantValue := 0 }, { name := "countedTo", type := .int, accessFlags := 2, slot := 3, constantValue := 0 }, { name := "countedOffset", type := .int, accessFlags := 2, slot := 4, constantValue := 0 }, { name := "countedLine", type := .int, accessFlags := 2, slot := 5, constantValue := 0 }, { name := "countedColumn", type := .int, accessFlags := 2, slot := 6, constantValue := 0 }]
  methods := #[k2m0]
  instanceTypes := #[(.object "java/lang/String"), (.object "java/lang/String"), .int, .int, .int, .int, .int]
  staticTypes := #[.int, .int]
  resolved := Array.replicate 230 none
  statics := none }

def pool3 : Array CpInfo := pool [(1, u "java/lang/Cloneable"), (0, .class_ 1), (0, u "java/lang/Object"), (0, .class_ 3)] 3

/-- java/lang/Cloneable -/
def k3 : Class := { plain "java/lang/Cloneable" (some 0) with
  accessFlags := 1537
  interfaces := #[]
  cf := some (fileOf pool3 2 #[] #[] 1537 4 #[] #[])
  fields := #[]
  methods := #[]
  instanceTypes := #[]
  staticTypes := #[]
  resolved := Array.replicate 8 none
  statics := none }

def pool4 : Array CpInfo := pool [(1, u "java/io/Serializable"), (0, .class_ 1), (0, u "java/lang/Object"), (0, .class_ 3)] 3

/-- java/io/Serializable -/
def k4 : Class := { plain "java/io/Serializable" (some 0) with
  accessFlags := 1537
  interfaces := #[]
  cf := some (fileOf pool4 2 #[] #[] 1537 4 #[] #[])
  fields := #[]
  methods := #[]
  instanceTypes := #[]
  staticTypes := #[]
  resolved := Array.replicate 8 none
  statics := none }

/-- the primitive byte -/
def k5 : Class := { plain "byte" none with kind := .primitive 'B', accessFlags := 0x411 }
/-- [B -/
def k6 : Class := { plain "[B" (some 0) with kind := .array 5 .byte, interfaces := #[3, 4], accessFlags := 1041 }

/-- the primitive int -/
def k7 : Class := { plain "int" none with kind := .primitive 'I', accessFlags := 0x411 }
/-- [I -/
def k8 : Class := { plain "[I" (some 0) with kind := .array 7 .int, interfaces := #[3, 4], accessFlags := 1041 }

def heap : Heap := #[]
def classes : Array Class := #[k0, k1, k2, k3, k4, k5, k6, k7, k8]
def interned : List (Array UInt16 × Addr) := []
def slotsUsed : Nat := 0
def theMethod : MethodId := ⟨1, 3⟩
def args0 : Array Value := #[.int 5, .int 6]
def aboutOver (below : List Frame) : State where
  vm := { classes := classes, interned := interned.toArray }
  heap := heap
  slotsUsed := slotsUsed
  threads := #[{ frames := .invoking theMethod args0 :: below }]
def below0 : List Frame := [.native { method := ⟨0, 0⟩, args := #[] }]
def about1 : State := aboutOver below0
def p0 : Program := .bare "" "" ""
def e0 : Env := launch0.env 0 0 0
theorem w_frames : about1.frames = Frame.invoking theMethod args0 :: below0 := rfl
set_option maxRecDepth 65536 in
theorem w_args : argsFit about1.vm theMethod args0 = true := by decide +kernel
set_option maxRecDepth 65536 in
theorem w_heap : heapFits about1 = true := by decide +kernel
set_option maxRecDepth 65536 in
theorem w_runnable : about1.curStatus? = some .runnable := by decide +kernel
set_option maxRecDepth 65536 in
theorem w_alone : about1.alone = true := by decide +kernel
set_option maxRecDepth 65536 in
theorem w_named : about1.methodNamed? x = some theMethod := by decide +kernel
set_option maxRecDepth 65536 in
theorem w_hears : about1.hears theMethod below0 = true := by decide +kernel
set_option maxRecDepth 65536 in
theorem w_ripe : about1.ripe theMethod args0 below0 = true := by decide +kernel
theorem w_running : about1.status = .running := rfl
set_option maxRecDepth 65536 in
theorem w_room : about1.hasRoom e0.platform room_1 = true :=
  launch0.hasRoom_least _ room_1 (by decide +kernel) (by decide +kernel) (by decide +kernel) (by decide +kernel) (by decide +kernel) (by decide +kernel)
theorem allAtoms_all (ts : List Jvm.Cond) (a : Array Jvm.Value) (st : Jvm.State) : (allAtoms ts).before a st = ts.all (fun c => c.before a st) := by
  induction ts with
  | nil => rfl
  | cons c t ih =>
    show (Jvm.Cond.and c (allAtoms t)).before a st = _
    rw [Jvm.Cond.before_and, ih, List.all_cons]
def words1 : List Jvm.Cond := Jvm.Cond.code x code maxLocals ret :: tables_1
/-- a 'code' word, met by the world's own term for the bytes: nothing is compared byte by byte -/
theorem code_word {y : MethodName} {bytes : ByteArray} {mx : Nat} {rt : Option FieldType} {a : Array Value} {s : State} {m : MethodId} {meth : Method} {c : Code} (h1 : s.methodNamed? y = some m) (h2 : s.vm.method? m = some meth) (h3 : meth.code = some c) (h4 : c.code = bytes)
    (h5 : (c.maxLocals == mx && c.exceptionTable.isEmpty && decide (c.maxStack ≤ mostOperands) && decide (meth.sig.returnType = rt) && !meth.locks && decide (parseMethodDescriptor y.desc = some meth.sig)) = true) : (Jvm.Cond.code y bytes mx rt).before a s = true := by
  simp only [Bool.and_eq_true, beq_iff_eq, Bool.not_eq_true', decide_eq_true_eq] at h5
  obtain ⟨⟨⟨⟨⟨g1, g2⟩, g3⟩, g4⟩, g5⟩, g6⟩ := h5
  simp [Cond.before, Cond.holds, Cond.value, h1, h2, h3, h4, g1, g2, g3, g4, g5, g6]
def isCode : Jvm.Cond → Bool
  | .code _ _ _ _ => true
  | _ => false
theorem all_split {L : List Jvm.Cond} {P : Jvm.Cond → Bool} (h1 : L.all (fun c => isCode c || P c) = true) (h2 : ∀ c ∈ L.filter isCode, P c = true) : L.all P = true := by
  refine List.all_eq_true.mpr fun c hc => ?_
  have h := List.all_eq_true.mp h1 c hc
  rcases Bool.eq_false_or_eq_true (isCode c) with hi | hi
  · exact h2 c (List.mem_filter.mpr ⟨hc, hi⟩)
  · simpa [hi] using h
set_option maxRecDepth 65536 in
theorem w_c0 : (Jvm.Cond.code x code maxLocals ret).before args0 about1 = true := code_word (m := ⟨1, 3⟩) (meth := k1m3) (c := k1c3) (by decide +kernel) rfl rfl rfl (by decide +kernel)
set_option maxRecDepth 65536 in
theorem w_c1 : (Jvm.Cond.code ({ cls := "com/example/ligature/ligature/text/TextScannerIsNameStartPinLaw", name := "agrees", desc := "(I)Z" } : Jvm.MethodName) method_3_code (1 : Nat) (Option.some Jvm.ClassFile.FieldType.boolean)).before args0 about1 = true := code_word (m := ⟨1, 2⟩) (meth := k1m2) (c := k1c2) (by decide +kernel) rfl rfl rfl (by decide +kernel)
set_option maxRecDepth 65536 in
theorem w_c2 : (Jvm.Cond.code ({ cls := "com/example/ligature/ligature/text/TextScanner", name := "isNameStart", desc := "(I)Z" } : Jvm.MethodName) prog_63_method_22_code (1 : Nat) (Option.some Jvm.ClassFile.FieldType.boolean)).before args0 about1 = true := code_word (m := ⟨2, 0⟩) (meth := k2m0) (c := k2c0) (by decide +kernel) rfl rfl rfl (by decide +kernel)
set_option maxRecDepth 65536 in
theorem w_c3 : (Jvm.Cond.code ({ cls := "com/example/ligature/ligature/text/TextScannerIsNameStartPinLaw", name := "ref", desc := "(I)Z" } : Jvm.MethodName) method_2_code (2 : Nat) (Option.some Jvm.ClassFile.FieldType.boolean)).before args0 about1 = true := code_word (m := ⟨1, 1⟩) (meth := k1m1) (c := k1c1) (by decide +kernel) rfl rfl rfl (by decide +kernel)
def codes1 : List Jvm.Cond := [Jvm.Cond.code x code maxLocals ret, Jvm.Cond.code ({ cls := "com/example/ligature/ligature/text/TextScannerIsNameStartPinLaw", name := "agrees", desc := "(I)Z" } : Jvm.MethodName) method_3_code (1 : Nat) (Option.some Jvm.ClassFile.FieldType.boolean), Jvm.Cond.code ({ cls := "com/example/ligature/ligature/text/TextScanner", name := "isNameStart", desc := "(I)Z" } : Jvm.MethodName) prog_63_method_22_code (1 : Nat) (Option.some Jvm.ClassFile.FieldType.boolean), Jvm.Cond.code ({ cls := "com/example/ligature/ligature/text/TextScannerIsNameStartPinLaw", name := "ref", desc := "(I)Z" } : Jvm.MethodName) method_2_code (2 : Nat) (Option.some Jvm.ClassFile.FieldType.boolean)]
set_option maxRecDepth 65536 in
theorem codes_eq : words1.filter isCode = codes1 := rfl
theorem w_codes : ∀ c ∈ words1.filter isCode, c.before args0 about1 = true := by
  rw [codes_eq]
  intro c hc
  simp only [codes1, List.mem_cons, List.not_mem_nil, or_false] at hc
  rcases hc with rfl | rfl | rfl | rfl
  · exact w_c0
  · exact w_c1
  · exact w_c2
  · exact w_c3
set_option maxRecDepth 65536 in
theorem w_t1 : words1.all (fun c => isCode c || c.before args0 about1) = true := by decide +kernel
theorem w_tables : (allAtoms (Jvm.Cond.code x code maxLocals ret :: tables_1)).before args0 about1 = true := by
  rw [allAtoms_all]
  show words1.all (fun c => c.before args0 about1) = true
  refine all_split ?_ w_codes
  rw [w_t1]
set_option maxRecDepth 65536 in
theorem w_case : (Jvm.Cond.and given_1 narrow_1).before args0 about1 = true := by decide +kernel
theorem w_applies : (headSpec (Jvm.Cond.code x code maxLocals ret :: tables_1) room_1).applies x e0.platform about1 = true :=
  (Spec.applies_iff w_frames).mpr ⟨w_running, w_runnable, w_alone, w_named, w_hears, w_ripe, w_room, w_tables⟩
theorem atStart : AtStart classFile x code maxLocals ret World_1 tables_1 room_1 Calls_1 rest_1 Pre_1 launch0 p0 e0 about1 theMethod args0 below0 :=
  ⟨lists_1, trivial, launch0.admits_env _ _ _, launch0.least_env, fairChoices_fair.cas, fairChoices_fair.clock, w_frames, w_args, w_heap, w_applies, trivial, trivial, w_case⟩
end start1
theorem witness_1 : WitnessClaimed_1 := ⟨start1.p0, start1.e0, start1.about1, start1.theMethod, start1.args0, start1.below0, start1.atStart⟩
end Jvm.Pilot.@@N@@
