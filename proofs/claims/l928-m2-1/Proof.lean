import JvmDerived
import JvmDerived.Pilot.@@N@@Statement
import JvmDerived.Pilot.@@N@@Code
set_option linter.unusedVariables false
set_option linter.unusedSimpArgs false
namespace Jvm.Pilot.@@N@@
open Jvm Jvm.ClassFile Sem Op Lib Jvm.Free Jvm.Stand Jvm.LawKit Jvm.RoadKit Bundle Jvm.Pilot.@@N@@.Jvm.D
theorem own_w {Z : State} {a0 : Array Value} {d : Jvm.Cond} (hw : ∀ d ∈ tables_1, d.before a0 Z = true) (i : Nat) (h : tables_1[i]? = some d) : d.before a0 Z = true := hw d (List.mem_of_getElem? h)
/-- from U the run comes to an end of which G says -/
def Go (p : Program) (e : Env) (below : List Frame) (G : State → Outcome → Prop) (U : State) : Prop := ∃ s₂ o, Steps p.tables e below U s₂ ∧ s₂.status = .running ∧ Ended s₂ below o ∧ G s₂ o
theorem Go.st {p : Program} {e : Env} {below : List Frame} {G : State → Outcome → Prop} {U U' : State} (h : ∀ t, Steps p.tables e below U' t → Steps p.tables e below U t) (k : Go p e below G U') : Go p e below G U := by
  obtain ⟨t, o, h1, r⟩ := k
  exact ⟨t, o, h _ h1, r⟩
theorem Go.tr {p : Program} {e : Env} {below : List Frame} {G : State → Outcome → Prop} {U U' : State} (h : Steps p.tables e below U U') (k : Go p e below G U') : Go p e below G U := by
  obtain ⟨t, o, h1, r⟩ := k
  exact ⟨t, o, h.trans h1, r⟩
theorem Go.join {p : Program} {e : Env} {below : List Frame} {G : State → Outcome → Prop} {U : State} {α : Type} {P : α → Prop} {F : α → State} (h2 : (∀ v, P v → Go p e below G (F v)) → Go p e below G U) (h1 : ∀ v, P v → Go p e below G (F v)) : Go p e below G U := h2 h1
theorem Go.join2 {p : Program} {e : Env} {below : List Frame} {G : State → Outcome → Prop} {U : State} {α β : Type} {P : α → β → Prop} {F : α → β → State} (h2 : (∀ v w, P v w → Go p e below G (F v w)) → Go p e below G U) (h1 : ∀ v w, P v w → Go p e below G (F v w)) : Go p e below G U := h2 h1
theorem Go.join3 {p : Program} {e : Env} {below : List Frame} {G : State → Outcome → Prop} {U : State} {α β γ : Type} {P : α → β → γ → Prop} {F : α → β → γ → State} (h2 : (∀ v w u, P v w u → Go p e below G (F v w u)) → Go p e below G U) (h1 : ∀ v w u, P v w u → Go p e below G (F v w u)) : Go p e below G U := h2 h1
theorem own_ret {p : Program} {l : Launch} {e : Env} {R : Room} {s : State} {m : MethodId} {args : Array Value} {below : List Frame} {meth : Method} {c : Code} {T U : State} {locs : List Loc} {cells slots : Nat} {Q : Option Value → Heap → List Loc → Prop} {rc rs : Nat} {v : Option Value}
    (X : Stand p l e R s m args below meth c T locs cells slots) (hlk : meth.locks = false) (hv : meth.sig.returnType = none → v = none) (hc : cells ≤ rc) (hs : slots ≤ rs) (hq : Q v T.heap locs)
    (st : ∀ fs, (∀ (f : JFrame) (acts : List Action), f.method = m → f.locked = none → f.entered = [] → (doReturn e (T.setTop f) acts v).1 = T.setFrames fs) → Steps p.tables e below U (T.setFrames fs)) :
    Go p e below (fun s₂ o => ∃ v L, o = .returned v ∧ Q v s₂.heap L ∧ FrameEnd s o s₂ L rc rs) U := by
  obtain ⟨fs, hr, hrun, hended, hW, hsame⟩ := X.leave (v := v) hv hlk
  exact ⟨_, _, st fs hr, hrun, hended, _, _, rfl, hq, ⟨_, rfl⟩, hW, hsame.mono hc hs⟩
theorem own_getI (L : List Int32) (i : Nat) : (L.map Value.int).getD i (.int 0) = .int (L.getD i 0) := by
  induction L generalizing i with
  | nil => rfl
  | cons a r ih => cases i with
    | zero => rfl
    | succ i => exact ih i
theorem own_getJ (L : List Int64) (i : Nat) : (L.map Value.long).getD i (.long 0) = .long (L.getD i 0) := by
  induction L generalizing i with
  | nil => rfl
  | cons a r ih => cases i with
    | zero => rfl
    | succ i => exact ih i
theorem own_getP {P : Int32 → Prop} (h0 : P 0) (L : List Int32) (h : ∀ x ∈ L, P x) (i : Nat) : P (L.getD i 0) := by
  induction L generalizing i with
  | nil => exact h0
  | cons a r ih => cases i with
    | zero => exact h a (List.mem_cons_self ..)
    | succ i => exact ih (fun x hx => h x (List.mem_cons_of_mem _ hx)) i
theorem own_mk (x m n : Int32) (k : Nat) (hk : k ≤ 31) (hm : m.toBitVec.toNat = 2 ^ k - 1) (hn : ((2 ^ k : Nat) : Int) ≤ n.toInt) : ¬ (x &&& m) < 0 ∧ (x &&& m) < n := by
  have h := c_mask x m k hk hm
  have h2 : (0 : Int) < ((2 ^ k : Nat) : Int) := Int.ofNat_lt.mpr (Nat.two_pow_pos k)
  have h3 := Int.emod_nonneg x.toInt (Int.ne_of_gt h2)
  have h4 := Int.emod_lt_of_pos x.toInt h2
  rw [Int32.lt_iff_toInt_lt, Int32.lt_iff_toInt_lt, h]
  exact ⟨Int.not_lt.mpr h3, Int.lt_of_lt_of_le h4 hn⟩
abbrev own_y0 : MethodName := ⟨"java/lang/Record", "<init>", "()V"⟩
abbrev own_y1 : MethodName := ⟨"com/example/tidewright/tidewright/undersea/play/Progress", "<init>", "(IIIII)V"⟩
abbrev own_y2 : MethodName := ⟨"com/example/tidewright/tidewright/undersea/play/Progress", "over", "()Z"⟩
abbrev own_y3 : MethodName := ⟨"com/example/tidewright/tidewright/undersea/play/Progress", "produced", "()Lcom/example/tidewright/tidewright/undersea/play/Progress;"⟩
abbrev own_y4 : MethodName := ⟨"com/example/tidewright/tidewright/undersea/play/Progress", "turnTaken", "()Lcom/example/tidewright/tidewright/undersea/play/Progress;"⟩
abbrev own_y5 : MethodName := ⟨"com/example/tidewright/tidewright/undersea/play/Progress", "nextRound", "()Lcom/example/tidewright/tidewright/undersea/play/Progress;"⟩
abbrev own_y6 : MethodName := ⟨"com/example/tidewright/tidewright/undersea/play/Progress", "nextEra", "()Lcom/example/tidewright/tidewright/undersea/play/Progress;"⟩
theorem d2_0 : decode jdk_30_method_1_code 0 = .ok (.aload_n 0, 1) := by decide +kernel
theorem d2_1 : decode jdk_30_method_1_code 1 = .ok (.invokespecial 1, 3) := by decide +kernel
theorem d2_4 : decode jdk_30_method_1_code 4 = .ok (.return_, 1) := by decide +kernel
theorem pn_3 : plainName "java/lang/Record" = true := by first | (simp [plainName, overriddenIn]; done) | decide +kernel
theorem ef1 (m : MethodId) (a1 : Addr) : entryFrame m #[(.ref a1)] 1 = mkF m 0 #[.val (.ref a1)] [] := by first | (simp [entryFrame, mkF, argsToLocals, Value.category]; done) | rfl
abbrev own_R1_0_0_16 : Room := { frames := 1, cells := 0, slots := 0, locals := 16 }
def Q1 (Z : State) (a1 : Addr) (h0 : Heap) (n0 : Nat) (v : Option Value) (h : Heap) (L : List Loc) : Prop := v = none ∧ Fr n0 L ∧ h = h0
set_option maxRecDepth 65536 in
set_option maxHeartbeats 40000000 in
theorem rm1 (l : Launch) (Z : State) (a0 : Array Value) (hw : ∀ d ∈ tables_1, d.before a0 Z = true) (ws : List Jvm.Cond) (a1 : Addr) (h0 : Heap) (n0 : Nat) (Z0 : n0 ≤ h0.size) :
    MetFree l own_y0 (head1 (Jvm.Cond.code own_y0 jdk_30_method_1_code 1 none :: ws) own_R1_0_0_16) (fun a U => a = #[(.ref a1)] ∧ Z.Warmed39 U.vm ∧ U.heap = h0) (fun _ _ _ _ _ => True) (fun _ U o U' => ∃ v L, o = .returned v ∧ Q1 Z a1 h0 n0 v U'.heap L ∧ FrameEnd U o U' L (own_R1_0_0_16).cells (own_R1_0_0_16).slots) := by
  refine MetFree.of_bodySF (plainFor_of_name pn_3) hisR ?_
  intro p e s m args below meth c s₁ Bd hml0 hP hK
  obtain ⟨rfl, hZ, hh⟩ := hP
  have hx := Bd.exec
  have hby := Bd.bytes
  have hml : c.maxLocals = 1 := hml0
  have hown : s.vm.findClass "java/lang/Record" = some m.cls := findClass_of_methodNamed Bd.named
  have hnm := (name_of_methodNamed Bd.named Bd.method).1
  have hlk : meth.locks = false := BodyLoose.notSynchronized Bd
  have hrt := Bd.returns
  have X0 : Stand p l e own_R1_0_0_16 s m #[(.ref a1)] below meth c s₁ [] 0 0 := Stand.of_body Bd
  have e0 : s₁.heap = h0 := by rw [← hh, Bd.state]; rfl
  have N0 := Fr.nil n0
  refine (show Go p e below (fun s₂ o => ∃ v L, o = .returned v ∧ Q1 Z a1 h0 n0 v s₂.heap L ∧ FrameEnd s o s₂ L 0 0) (s₁.setTop (entryFrame m #[(.ref a1)] 1)) from ?_)
  rw [ef1]
  refine Go.st (U' := s₁.setTop (mkF m 1 #[.val (.ref a1)] [(.ref a1)])) (fun t k => ?_) ?_
  · show Steps p.tables e below (s₁.setTop (mkF m 0 #[.val (.ref a1)] [])) _
    refine XS.aloadN X0.here hx rfl (hb hby d2_0) rfl rfl ?_
    exact k
  obtain ⟨T1, X1, e1, st1⟩ := initO X0 hx hZ hown (own_w hw 11 rfl) (own_w hw 12 rfl) (own_w hw 13 rfl) e0 (g := (mkF m 1 #[.val (.ref a1)] [(.ref a1)])) rfl (by rw [hml]; rfl) rfl (hb hby d2_1) (by decide) (W := 0) (by show 2 * 0 + _ ≤ _; exact Nat.le_of_eq rfl) (by decide)
  refine Go.st (U' := T1.setTop (mkF m 4 #[.val (.ref a1)] [])) (fun t k => st1 _ k) ?_
  refine own_ret (Q := Q1 Z a1 h0 n0) (v := none) X1 hlk (fun _ => rfl) (by decide) (by decide) ?_ (fun fs hr => X1.returnOut hx hrt (hb hby d2_4) hr)
  rw [e1]
  exact ⟨rfl, N0, rfl⟩
theorem d1_0 : decode prog_33_method_1_code 0 = .ok (.aload_n 0, 1) := by decide +kernel
theorem d1_1 : decode prog_33_method_1_code 1 = .ok (.invokespecial 1, 3) := by decide +kernel
theorem d1_4 : decode prog_33_method_1_code 4 = .ok (.aload_n 0, 1) := by decide +kernel
theorem d1_5 : decode prog_33_method_1_code 5 = .ok (.iload_n 1, 1) := by decide +kernel
theorem d1_6 : decode prog_33_method_1_code 6 = .ok (.putfield 7, 3) := by decide +kernel
theorem d1_9 : decode prog_33_method_1_code 9 = .ok (.aload_n 0, 1) := by decide +kernel
theorem d1_10 : decode prog_33_method_1_code 10 = .ok (.iload_n 2, 1) := by decide +kernel
theorem d1_11 : decode prog_33_method_1_code 11 = .ok (.putfield 13, 3) := by decide +kernel
theorem d1_14 : decode prog_33_method_1_code 14 = .ok (.aload_n 0, 1) := by decide +kernel
theorem d1_15 : decode prog_33_method_1_code 15 = .ok (.iload_n 3, 1) := by decide +kernel
theorem d1_16 : decode prog_33_method_1_code 16 = .ok (.putfield 16, 3) := by decide +kernel
theorem d1_19 : decode prog_33_method_1_code 19 = .ok (.aload_n 0, 1) := by decide +kernel
theorem d1_20 : decode prog_33_method_1_code 20 = .ok (.iload 4, 2) := by decide +kernel
theorem d1_22 : decode prog_33_method_1_code 22 = .ok (.putfield 19, 3) := by decide +kernel
theorem d1_25 : decode prog_33_method_1_code 25 = .ok (.aload_n 0, 1) := by decide +kernel
theorem d1_26 : decode prog_33_method_1_code 26 = .ok (.iload 5, 2) := by decide +kernel
theorem d1_28 : decode prog_33_method_1_code 28 = .ok (.putfield 22, 3) := by decide +kernel
theorem d1_31 : decode prog_33_method_1_code 31 = .ok (.return_, 1) := by decide +kernel
theorem pd_0 : parseMethodDescriptor "()V" = some ⟨[], none⟩ := by decide +kernel
theorem pn_0 : plainName "com/example/tidewright/tidewright/undersea/play/Progress" = true := by first | (simp [plainName, overriddenIn]; done) | decide +kernel
theorem ef2 (m : MethodId) (a1 : Addr) (c0 : Int32) (c1 : Int32) (c2 : Int32) (c3 : Int32) (c4 : Int32) : entryFrame m #[(.ref a1), (.int c0), (.int c1), (.int c2), (.int c3), (.int c4)] 6 = mkF m 0 #[.val (.ref a1), .val (.int c0), .val (.int c1), .val (.int c2), .val (.int c3), .val (.int c4)] [] := by first | (simp [entryFrame, mkF, argsToLocals, Value.category]; done) | rfl
abbrev own_R2_0_0_32 : Room := { frames := 2, cells := 0, slots := 0, locals := 32 }
def Q2 (Z : State) (a1 : Addr) (c0 : Int32) (c1 : Int32) (c2 : Int32) (c3 : Int32) (c4 : Int32) (u0 : Int32) (u1 : Int32) (u2 : Int32) (u3 : Int32) (u4 : Int32) (h0 : Heap) (n0 : Nat) (v : Option Value) (h : Heap) (L : List Loc) : Prop := v = none ∧ Fr n0 L ∧ Keep h0 h [a1] ∧ Exa Z h a1 "com/example/tidewright/tidewright/undersea/play/Progress" ∧ Fld Z h a1 "com/example/tidewright/tidewright/undersea/play/Progress" "round" "I" (.int c0) ∧ Fld Z h a1 "com/example/tidewright/tidewright/undersea/play/Progress" "era" "I" (.int c1) ∧ Fld Z h a1 "com/example/tidewright/tidewright/undersea/play/Progress" "turnsTaken" "I" (.int c2) ∧ Fld Z h a1 "com/example/tidewright/tidewright/undersea/play/Progress" "turns" "I" (.int c3) ∧ Fld Z h a1 "com/example/tidewright/tidewright/undersea/play/Progress" "productions" "I" (.int c4)
set_option maxRecDepth 65536 in
set_option maxHeartbeats 40000000 in
theorem rm2 (l : Launch) (Z : State) (a0 : Array Value) (hw : ∀ d ∈ tables_1, d.before a0 Z = true) (ws : List Jvm.Cond) (a1 : Addr) (c0 : Int32) (c1 : Int32) (c2 : Int32) (c3 : Int32) (c4 : Int32) (u0 : Int32) (u1 : Int32) (u2 : Int32) (u3 : Int32) (u4 : Int32) (h0 : Heap) (n0 : Nat) (Z0 : n0 ≤ h0.size) (EX : Exa Z h0 a1 "com/example/tidewright/tidewright/undersea/play/Progress") (F_round : Fld Z h0 a1 "com/example/tidewright/tidewright/undersea/play/Progress" "round" "I" (.int u0)) (F_era : Fld Z h0 a1 "com/example/tidewright/tidewright/undersea/play/Progress" "era" "I" (.int u1)) (F_turnsTaken : Fld Z h0 a1 "com/example/tidewright/tidewright/undersea/play/Progress" "turnsTaken" "I" (.int u2)) (F_turns : Fld Z h0 a1 "com/example/tidewright/tidewright/undersea/play/Progress" "turns" "I" (.int u3)) (F_productions : Fld Z h0 a1 "com/example/tidewright/tidewright/undersea/play/Progress" "productions" "I" (.int u4)) (gA : n0 ≤ a1) :
    MetFree l own_y1 (head1 (Jvm.Cond.code own_y1 prog_33_method_1_code 6 none :: ws) own_R2_0_0_32) (fun a U => a = #[(.ref a1), (.int c0), (.int c1), (.int c2), (.int c3), (.int c4)] ∧ Z.Warmed39 U.vm ∧ U.heap = h0) (fun _ _ _ _ _ => True) (fun _ U o U' => ∃ v L, o = .returned v ∧ Q2 Z a1 c0 c1 c2 c3 c4 u0 u1 u2 u3 u4 h0 n0 v U'.heap L ∧ FrameEnd U o U' L (own_R2_0_0_32).cells (own_R2_0_0_32).slots) := by
  refine MetFree.of_bodySF (plainFor_of_name pn_0) hisR ?_
  intro p e s m args below meth c s₁ Bd hml0 hP hK
  obtain ⟨rfl, hZ, hh⟩ := hP
  have hx := Bd.exec
  have hby := Bd.bytes
  have hml : c.maxLocals = 6 := hml0
  have hown : s.vm.findClass "com/example/tidewright/tidewright/undersea/play/Progress" = some m.cls := findClass_of_methodNamed Bd.named
  have hnm := (name_of_methodNamed Bd.named Bd.method).1
  have hlk : meth.locks = false := BodyLoose.notSynchronized Bd
  have hrt := Bd.returns
  have X0 : Stand p l e own_R2_0_0_32 s m #[(.ref a1), (.int c0), (.int c1), (.int c2), (.int c3), (.int c4)] below meth c s₁ [] 0 0 := Stand.of_body Bd
  have e0 : s₁.heap = h0 := by rw [← hh, Bd.state]; rfl
  have N0 := Fr.nil n0
  refine (show Go p e below (fun s₂ o => ∃ v L, o = .returned v ∧ Q2 Z a1 c0 c1 c2 c3 c4 u0 u1 u2 u3 u4 h0 n0 v s₂.heap L ∧ FrameEnd s o s₂ L 0 0) (s₁.setTop (entryFrame m #[(.ref a1), (.int c0), (.int c1), (.int c2), (.int c3), (.int c4)] 6)) from ?_)
  rw [ef2]
  refine Go.st (U' := s₁.setTop (mkF m 1 #[.val (.ref a1), .val (.int c0), .val (.int c1), .val (.int c2), .val (.int c3), .val (.int c4)] [(.ref a1)])) (fun t k => ?_) ?_
  · show Steps p.tables e below (s₁.setTop (mkF m 0 #[.val (.ref a1), .val (.int c0), .val (.int c1), .val (.int c2), .val (.int c3), .val (.int c4)] [])) _
    refine XS.aloadN X0.here hx rfl (hb hby d1_0) rfl rfl ?_
    exact k
  obtain ⟨_, _, ⟨T2, L2, k2, n2⟩, -, X2, ⟨Lc2, hQ2, l2, y2, z2⟩, st2⟩ := X0.specialBack hx (y := own_y0) rfl hown (mvT hZ (own_w hw 6 rfl)) (mvT hZ (own_w hw 7 rfl)) (mvT hZ (own_w hw 10 rfl)) (by decide) (backOf (W := 0) (rm1 l Z a0 hw [] a1 h0 n0 Z0 ) hZ (own_w hw 10 rfl) (own_w hw 9 rfl) (by decide) (by decide)) (g := (mkF m 1 #[.val (.ref a1), .val (.int c0), .val (.int c1), .val (.int c2), .val (.int c3), .val (.int c4)] [(.ref a1)])) rfl (by rw [hml]; rfl) (Steps.refl _) (a := a1) (argsL := []) (rest := []) (lenOf pd_0 rfl) rfl (by show 2 * 0 + _ ≤ _; exact Nat.le_of_eq rfl) (hb hby d1_1) (fun _ _ => ⟨rfl, e0, (by decide : 0 + 0 ≤ _), (by decide : 0 + 0 ≤ _)⟩)
  dsimp only [Pt.U, Pt.locs, Pt.cells, Pt.slots] at X2 l2 y2 z2 st2 hQ2
  subst l2 y2 z2
  obtain ⟨rfl, N2q, e2⟩ := hQ2
  have N2 := Fr.app N0 N2q
  refine Go.tr (U' := T2.setTop (mkF m 4 #[.val (.ref a1), .val (.int c0), .val (.int c1), .val (.int c2), .val (.int c3), .val (.int c4)] [])) st2 ?_
  refine Go.st (U' := T2.setTop (mkF m 6 #[.val (.ref a1), .val (.int c0), .val (.int c1), .val (.int c2), .val (.int c3), .val (.int c4)] [(.int c0), (.ref a1)])) (fun t k => ?_) ?_
  · show Steps p.tables e below (T2.setTop (mkF m 4 #[.val (.ref a1), .val (.int c0), .val (.int c1), .val (.int c2), .val (.int c3), .val (.int c4)] [])) _
    refine XS.aloadN X2.here hx rfl (hb hby d1_4) rfl rfl ?_
    show Steps p.tables e below (T2.setTop (mkF m 5 #[.val (.ref a1), .val (.int c0), .val (.int c1), .val (.int c2), .val (.int c3), .val (.int c4)] [(.ref a1)])) _
    refine XS.iloadN X2.here hx rfl (hb hby d1_5) rfl ?_
    exact k
  obtain ⟨T3, h3, X3, e3, W3, st3⟩ := putF X2 hx hZ hown (host := "") (Or.inl (own_w hw 14 rfl)) Via.refl e2 F_round EX (Or.inr ⟨(own_w hw 15 rfl), rfl, hnm⟩) (own_w hw 1 rfl) (ty := .int) (by decide) rfl rfl (g := (mkF m 6 #[.val (.ref a1), .val (.int c0), .val (.int c1), .val (.int c2), .val (.int c3), .val (.int c4)] [(.int c0), (.ref a1)])) rfl rfl (hb hby d1_6)
  have F3 := F_round.same W3
  have EX_3 := EX.wr W3
  have F_era_3 := F_era.other W3 (Or.inr (slot_ne (Or.inr (own_w hw 17 rfl)) (Or.inr (own_w hw 15 rfl)) (by decide) (t := .int) (t' := .int) (by decide) (by decide)))
  have F_turnsTaken_3 := F_turnsTaken.other W3 (Or.inr (slot_ne (Or.inr (own_w hw 19 rfl)) (Or.inr (own_w hw 15 rfl)) (by decide) (t := .int) (t' := .int) (by decide) (by decide)))
  have F_turns_3 := F_turns.other W3 (Or.inr (slot_ne (Or.inr (own_w hw 21 rfl)) (Or.inr (own_w hw 15 rfl)) (by decide) (t := .int) (t' := .int) (by decide) (by decide)))
  have F_productions_3 := F_productions.other W3 (Or.inr (slot_ne (Or.inr (own_w hw 23 rfl)) (Or.inr (own_w hw 15 rfl)) (by decide) (t := .int) (t' := .int) (by decide) (by decide)))
  have N3 := Fr.snoc X3 N2 gA
  have KK3 : Keep h0 h3 [a1] := (Keep.refl h0 [a1]).wr W3 (Or.inl (List.mem_of_getElem? (i := 0) rfl))
  have sz3 : n0 ≤ h3.size := Nat.le_trans Z0 (Nat.le_of_eq W3.size.symm)
  refine Go.st (U' := T3.setTop (mkF m 9 #[.val (.ref a1), .val (.int c0), .val (.int c1), .val (.int c2), .val (.int c3), .val (.int c4)] [])) (fun t k => st3 _ k) ?_
  refine Go.st (U' := T3.setTop (mkF m 11 #[.val (.ref a1), .val (.int c0), .val (.int c1), .val (.int c2), .val (.int c3), .val (.int c4)] [(.int c1), (.ref a1)])) (fun t k => ?_) ?_
  · show Steps p.tables e below (T3.setTop (mkF m 9 #[.val (.ref a1), .val (.int c0), .val (.int c1), .val (.int c2), .val (.int c3), .val (.int c4)] [])) _
    refine XS.aloadN X3.here hx rfl (hb hby d1_9) rfl rfl ?_
    show Steps p.tables e below (T3.setTop (mkF m 10 #[.val (.ref a1), .val (.int c0), .val (.int c1), .val (.int c2), .val (.int c3), .val (.int c4)] [(.ref a1)])) _
    refine XS.iloadN X3.here hx rfl (hb hby d1_10) rfl ?_
    exact k
  obtain ⟨T4, h4, X4, e4, W4, st4⟩ := putF X3 hx hZ hown (host := "") (Or.inl (own_w hw 16 rfl)) Via.refl e3 F_era_3 EX_3 (Or.inr ⟨(own_w hw 17 rfl), rfl, hnm⟩) (own_w hw 1 rfl) (ty := .int) (by decide) rfl rfl (g := (mkF m 11 #[.val (.ref a1), .val (.int c0), .val (.int c1), .val (.int c2), .val (.int c3), .val (.int c4)] [(.int c1), (.ref a1)])) rfl rfl (hb hby d1_11)
  have F4 := F_era_3.same W4
  have EX_4 := EX_3.wr W4
  have F_round_4 := F3.other W4 (Or.inr (slot_ne (Or.inr (own_w hw 15 rfl)) (Or.inr (own_w hw 17 rfl)) (by decide) (t := .int) (t' := .int) (by decide) (by decide)))
  have F_turnsTaken_4 := F_turnsTaken_3.other W4 (Or.inr (slot_ne (Or.inr (own_w hw 19 rfl)) (Or.inr (own_w hw 17 rfl)) (by decide) (t := .int) (t' := .int) (by decide) (by decide)))
  have F_turns_4 := F_turns_3.other W4 (Or.inr (slot_ne (Or.inr (own_w hw 21 rfl)) (Or.inr (own_w hw 17 rfl)) (by decide) (t := .int) (t' := .int) (by decide) (by decide)))
  have F_productions_4 := F_productions_3.other W4 (Or.inr (slot_ne (Or.inr (own_w hw 23 rfl)) (Or.inr (own_w hw 17 rfl)) (by decide) (t := .int) (t' := .int) (by decide) (by decide)))
  have N4 := Fr.snoc X4 N3 gA
  have KK4 : Keep h0 h4 [a1] := KK3.wr W4 (Or.inl (List.mem_of_getElem? (i := 0) rfl))
  have sz4 : n0 ≤ h4.size := Nat.le_trans sz3 (Nat.le_of_eq W4.size.symm)
  refine Go.st (U' := T4.setTop (mkF m 14 #[.val (.ref a1), .val (.int c0), .val (.int c1), .val (.int c2), .val (.int c3), .val (.int c4)] [])) (fun t k => st4 _ k) ?_
  refine Go.st (U' := T4.setTop (mkF m 16 #[.val (.ref a1), .val (.int c0), .val (.int c1), .val (.int c2), .val (.int c3), .val (.int c4)] [(.int c2), (.ref a1)])) (fun t k => ?_) ?_
  · show Steps p.tables e below (T4.setTop (mkF m 14 #[.val (.ref a1), .val (.int c0), .val (.int c1), .val (.int c2), .val (.int c3), .val (.int c4)] [])) _
    refine XS.aloadN X4.here hx rfl (hb hby d1_14) rfl rfl ?_
    show Steps p.tables e below (T4.setTop (mkF m 15 #[.val (.ref a1), .val (.int c0), .val (.int c1), .val (.int c2), .val (.int c3), .val (.int c4)] [(.ref a1)])) _
    refine XS.iloadN X4.here hx rfl (hb hby d1_15) rfl ?_
    exact k
  obtain ⟨T5, h5, X5, e5, W5, st5⟩ := putF X4 hx hZ hown (host := "") (Or.inl (own_w hw 18 rfl)) Via.refl e4 F_turnsTaken_4 EX_4 (Or.inr ⟨(own_w hw 19 rfl), rfl, hnm⟩) (own_w hw 1 rfl) (ty := .int) (by decide) rfl rfl (g := (mkF m 16 #[.val (.ref a1), .val (.int c0), .val (.int c1), .val (.int c2), .val (.int c3), .val (.int c4)] [(.int c2), (.ref a1)])) rfl rfl (hb hby d1_16)
  have F5 := F_turnsTaken_4.same W5
  have EX_5 := EX_4.wr W5
  have F_round_5 := F_round_4.other W5 (Or.inr (slot_ne (Or.inr (own_w hw 15 rfl)) (Or.inr (own_w hw 19 rfl)) (by decide) (t := .int) (t' := .int) (by decide) (by decide)))
  have F_era_5 := F4.other W5 (Or.inr (slot_ne (Or.inr (own_w hw 17 rfl)) (Or.inr (own_w hw 19 rfl)) (by decide) (t := .int) (t' := .int) (by decide) (by decide)))
  have F_turns_5 := F_turns_4.other W5 (Or.inr (slot_ne (Or.inr (own_w hw 21 rfl)) (Or.inr (own_w hw 19 rfl)) (by decide) (t := .int) (t' := .int) (by decide) (by decide)))
  have F_productions_5 := F_productions_4.other W5 (Or.inr (slot_ne (Or.inr (own_w hw 23 rfl)) (Or.inr (own_w hw 19 rfl)) (by decide) (t := .int) (t' := .int) (by decide) (by decide)))
  have N5 := Fr.snoc X5 N4 gA
  have KK5 : Keep h0 h5 [a1] := KK4.wr W5 (Or.inl (List.mem_of_getElem? (i := 0) rfl))
  have sz5 : n0 ≤ h5.size := Nat.le_trans sz4 (Nat.le_of_eq W5.size.symm)
  refine Go.st (U' := T5.setTop (mkF m 19 #[.val (.ref a1), .val (.int c0), .val (.int c1), .val (.int c2), .val (.int c3), .val (.int c4)] [])) (fun t k => st5 _ k) ?_
  refine Go.st (U' := T5.setTop (mkF m 22 #[.val (.ref a1), .val (.int c0), .val (.int c1), .val (.int c2), .val (.int c3), .val (.int c4)] [(.int c3), (.ref a1)])) (fun t k => ?_) ?_
  · show Steps p.tables e below (T5.setTop (mkF m 19 #[.val (.ref a1), .val (.int c0), .val (.int c1), .val (.int c2), .val (.int c3), .val (.int c4)] [])) _
    refine XS.aloadN X5.here hx rfl (hb hby d1_19) rfl rfl ?_
    show Steps p.tables e below (T5.setTop (mkF m 20 #[.val (.ref a1), .val (.int c0), .val (.int c1), .val (.int c2), .val (.int c3), .val (.int c4)] [(.ref a1)])) _
    refine XS.iload X5.here hx rfl (hb hby d1_20) rfl ?_
    exact k
  obtain ⟨T6, h6, X6, e6, W6, st6⟩ := putF X5 hx hZ hown (host := "") (Or.inl (own_w hw 20 rfl)) Via.refl e5 F_turns_5 EX_5 (Or.inr ⟨(own_w hw 21 rfl), rfl, hnm⟩) (own_w hw 1 rfl) (ty := .int) (by decide) rfl rfl (g := (mkF m 22 #[.val (.ref a1), .val (.int c0), .val (.int c1), .val (.int c2), .val (.int c3), .val (.int c4)] [(.int c3), (.ref a1)])) rfl rfl (hb hby d1_22)
  have F6 := F_turns_5.same W6
  have EX_6 := EX_5.wr W6
  have F_round_6 := F_round_5.other W6 (Or.inr (slot_ne (Or.inr (own_w hw 15 rfl)) (Or.inr (own_w hw 21 rfl)) (by decide) (t := .int) (t' := .int) (by decide) (by decide)))
  have F_era_6 := F_era_5.other W6 (Or.inr (slot_ne (Or.inr (own_w hw 17 rfl)) (Or.inr (own_w hw 21 rfl)) (by decide) (t := .int) (t' := .int) (by decide) (by decide)))
  have F_turnsTaken_6 := F5.other W6 (Or.inr (slot_ne (Or.inr (own_w hw 19 rfl)) (Or.inr (own_w hw 21 rfl)) (by decide) (t := .int) (t' := .int) (by decide) (by decide)))
  have F_productions_6 := F_productions_5.other W6 (Or.inr (slot_ne (Or.inr (own_w hw 23 rfl)) (Or.inr (own_w hw 21 rfl)) (by decide) (t := .int) (t' := .int) (by decide) (by decide)))
  have N6 := Fr.snoc X6 N5 gA
  have KK6 : Keep h0 h6 [a1] := KK5.wr W6 (Or.inl (List.mem_of_getElem? (i := 0) rfl))
  have sz6 : n0 ≤ h6.size := Nat.le_trans sz5 (Nat.le_of_eq W6.size.symm)
  refine Go.st (U' := T6.setTop (mkF m 25 #[.val (.ref a1), .val (.int c0), .val (.int c1), .val (.int c2), .val (.int c3), .val (.int c4)] [])) (fun t k => st6 _ k) ?_
  refine Go.st (U' := T6.setTop (mkF m 28 #[.val (.ref a1), .val (.int c0), .val (.int c1), .val (.int c2), .val (.int c3), .val (.int c4)] [(.int c4), (.ref a1)])) (fun t k => ?_) ?_
  · show Steps p.tables e below (T6.setTop (mkF m 25 #[.val (.ref a1), .val (.int c0), .val (.int c1), .val (.int c2), .val (.int c3), .val (.int c4)] [])) _
    refine XS.aloadN X6.here hx rfl (hb hby d1_25) rfl rfl ?_
    show Steps p.tables e below (T6.setTop (mkF m 26 #[.val (.ref a1), .val (.int c0), .val (.int c1), .val (.int c2), .val (.int c3), .val (.int c4)] [(.ref a1)])) _
    refine XS.iload X6.here hx rfl (hb hby d1_26) rfl ?_
    exact k
  obtain ⟨T7, h7, X7, e7, W7, st7⟩ := putF X6 hx hZ hown (host := "") (Or.inl (own_w hw 22 rfl)) Via.refl e6 F_productions_6 EX_6 (Or.inr ⟨(own_w hw 23 rfl), rfl, hnm⟩) (own_w hw 1 rfl) (ty := .int) (by decide) rfl rfl (g := (mkF m 28 #[.val (.ref a1), .val (.int c0), .val (.int c1), .val (.int c2), .val (.int c3), .val (.int c4)] [(.int c4), (.ref a1)])) rfl rfl (hb hby d1_28)
  have F7 := F_productions_6.same W7
  have EX_7 := EX_6.wr W7
  have F_round_7 := F_round_6.other W7 (Or.inr (slot_ne (Or.inr (own_w hw 15 rfl)) (Or.inr (own_w hw 23 rfl)) (by decide) (t := .int) (t' := .int) (by decide) (by decide)))
  have F_era_7 := F_era_6.other W7 (Or.inr (slot_ne (Or.inr (own_w hw 17 rfl)) (Or.inr (own_w hw 23 rfl)) (by decide) (t := .int) (t' := .int) (by decide) (by decide)))
  have F_turnsTaken_7 := F_turnsTaken_6.other W7 (Or.inr (slot_ne (Or.inr (own_w hw 19 rfl)) (Or.inr (own_w hw 23 rfl)) (by decide) (t := .int) (t' := .int) (by decide) (by decide)))
  have F_turns_7 := F6.other W7 (Or.inr (slot_ne (Or.inr (own_w hw 21 rfl)) (Or.inr (own_w hw 23 rfl)) (by decide) (t := .int) (t' := .int) (by decide) (by decide)))
  have N7 := Fr.snoc X7 N6 gA
  have KK7 : Keep h0 h7 [a1] := KK6.wr W7 (Or.inl (List.mem_of_getElem? (i := 0) rfl))
  have sz7 : n0 ≤ h7.size := Nat.le_trans sz6 (Nat.le_of_eq W7.size.symm)
  refine Go.st (U' := T7.setTop (mkF m 31 #[.val (.ref a1), .val (.int c0), .val (.int c1), .val (.int c2), .val (.int c3), .val (.int c4)] [])) (fun t k => st7 _ k) ?_
  refine own_ret (Q := Q2 Z a1 c0 c1 c2 c3 c4 u0 u1 u2 u3 u4 h0 n0) (v := none) X7 hlk (fun _ => rfl) (by decide) (by decide) ?_ (fun fs hr => X7.returnOut hx hrt (hb hby d1_31) hr)
  rw [e7]
  exact ⟨rfl, N7, KK7, EX_7, F_round_7, F_era_7, F_turnsTaken_7, F_turns_7, F7⟩
theorem d4_0 : decode prog_33_method_7_code 0 = .ok (.aload_n 0, 1) := by decide +kernel
theorem d4_1 : decode prog_33_method_7_code 1 = .ok (.getfield 22, 3) := by decide +kernel
theorem d4_4 : decode prog_33_method_7_code 4 = .ok (.iconst 3, 1) := by decide +kernel
theorem d4_5 : decode prog_33_method_7_code 5 = .ok (.if_icmp .ne 7, 3) := by decide +kernel
theorem d4_8 : decode prog_33_method_7_code 8 = .ok (.iconst 1, 1) := by decide +kernel
theorem d4_9 : decode prog_33_method_7_code 9 = .ok (.goto 4, 3) := by decide +kernel
theorem d4_12 : decode prog_33_method_7_code 12 = .ok (.iconst 0, 1) := by decide +kernel
theorem d4_13 : decode prog_33_method_7_code 13 = .ok (.ireturn, 1) := by decide +kernel
theorem ef3 (m : MethodId) (a1 : Addr) : entryFrame m #[(.ref a1)] 1 = mkF m 0 #[.val (.ref a1)] [] := by first | (simp [entryFrame, mkF, argsToLocals, Value.category]; done) | rfl
abbrev own_R0_0_0_0 : Room := { frames := 0, cells := 0, slots := 0, locals := 0 }
def f3 (u : Int32) : Int32 := (if u = (3 : Int32) then (1 : Int32) else (0 : Int32))
def Q3 (Z : State) (a1 : Addr) (u : Int32) (h0 : Heap) (n0 : Nat) (v : Option Value) (h : Heap) (L : List Loc) : Prop := v = some (.int (f3 u)) ∧ Fr n0 L ∧ h = h0
set_option maxRecDepth 65536 in
set_option maxHeartbeats 40000000 in
theorem rm3 (l : Launch) (Z : State) (a0 : Array Value) (hw : ∀ d ∈ tables_1, d.before a0 Z = true) (ws : List Jvm.Cond) (a1 : Addr) (u : Int32) (h0 : Heap) (n0 : Nat) (Z0 : n0 ≤ h0.size) (FP : Fld Z h0 a1 "com/example/tidewright/tidewright/undersea/play/Progress" "productions" "I" (.int u)) :
    MetFree l own_y2 (head1 (Jvm.Cond.code own_y2 prog_33_method_7_code 1 (some .boolean) :: ws) own_R0_0_0_0) (fun a U => a = #[(.ref a1)] ∧ Z.Warmed39 U.vm ∧ U.heap = h0) (fun _ _ _ _ _ => True) (fun _ U o U' => ∃ v L, o = .returned v ∧ Q3 Z a1 u h0 n0 v U'.heap L ∧ FrameEnd U o U' L (own_R0_0_0_0).cells (own_R0_0_0_0).slots) := by
  refine MetFree.of_bodySF (plainFor_of_name pn_0) hisR ?_
  intro p e s m args below meth c s₁ Bd hml0 hP hK
  obtain ⟨rfl, hZ, hh⟩ := hP
  have hx := Bd.exec
  have hby := Bd.bytes
  have hml : c.maxLocals = 1 := hml0
  have hown : s.vm.findClass "com/example/tidewright/tidewright/undersea/play/Progress" = some m.cls := findClass_of_methodNamed Bd.named
  have hnm := (name_of_methodNamed Bd.named Bd.method).1
  have hlk : meth.locks = false := BodyLoose.notSynchronized Bd
  have hrt := Bd.returns
  have X0 : Stand p l e own_R0_0_0_0 s m #[(.ref a1)] below meth c s₁ [] 0 0 := Stand.of_body Bd
  have e0 : s₁.heap = h0 := by rw [← hh, Bd.state]; rfl
  have N0 := Fr.nil n0
  refine (show Go p e below (fun s₂ o => ∃ v L, o = .returned v ∧ Q3 Z a1 u h0 n0 v s₂.heap L ∧ FrameEnd s o s₂ L 0 0) (s₁.setTop (entryFrame m #[(.ref a1)] 1)) from ?_)
  rw [ef3]
  refine Go.st (U' := s₁.setTop (mkF m 1 #[.val (.ref a1)] [(.ref a1)])) (fun t k => ?_) ?_
  · show Steps p.tables e below (s₁.setTop (mkF m 0 #[.val (.ref a1)] [])) _
    refine XS.aloadN X0.here hx rfl (hb hby d4_0) rfl rfl ?_
    exact k
  obtain ⟨T8, X8, e8, st8⟩ := getF X0 hx hZ hown (host := "") (Or.inl (own_w hw 22 rfl)) Via.refl e0 FP (g := (mkF m 1 #[.val (.ref a1)] [(.ref a1)])) rfl rfl (hb hby d4_1)
  refine Go.st (U' := T8.setTop (mkF m 4 #[.val (.ref a1)] [(.int u)])) (fun t k => st8 _ k) ?_
  refine Go.st (U' := T8.setTop (mkF m 5 #[.val (.ref a1)] [(.int (3 : Int32)), (.int u)])) (fun t k => ?_) ?_
  · show Steps p.tables e below (T8.setTop (mkF m 4 #[.val (.ref a1)] [(.int u)])) _
    refine XS.iconst X8.here hx rfl (hb hby d4_4) ?_
    exact k
  by_cases hc9 : u = (3 : Int32)
  · refine Go.st (U' := T8.setTop (mkF m 13 #[.val (.ref a1)] [(.int (1 : Int32))])) (fun t k => ?_) ?_
    · show Steps p.tables e below (T8.setTop (mkF m 5 #[.val (.ref a1)] [(.int (3 : Int32)), (.int u)])) _
      refine XS.icmpNo X8.here hx rfl (hb hby d4_5) rfl (teq hc9).2 ?_
      show Steps p.tables e below (T8.setTop (mkF m 8 #[.val (.ref a1)] [])) _
      refine XS.iconst X8.here hx rfl (hb hby d4_8) ?_
      show Steps p.tables e below (T8.setTop (mkF m 9 #[.val (.ref a1)] [(.int (1 : Int32))])) _
      refine XS.goto X8.here hx rfl (pc0 := 9) (pc' := 13) rfl (hb hby d4_9) (by decide) (by decide) ?_
      exact k
    refine own_ret (Q := Q3 Z a1 u h0 n0) (v := some (.int (1 : Int32))) X8 hlk (fun h => by rw [hrt] at h; cases h) (by decide) (by decide) ?_ (fun fs hr => retN X8 hx (t := .boolean) hrt (by simp) (hb hby d4_13) hr)
    rw [e8]
    exact ⟨(by first | rfl | simp only [f3, if_pos hc9]), N0, rfl⟩
  · refine Go.st (U' := T8.setTop (mkF m 13 #[.val (.ref a1)] [(.int (0 : Int32))])) (fun t k => ?_) ?_
    · show Steps p.tables e below (T8.setTop (mkF m 5 #[.val (.ref a1)] [(.int (3 : Int32)), (.int u)])) _
      refine XS.icmpYes X8.here hx rfl (pc0 := 5) (pc' := 12) rfl (hb hby d4_5) rfl (feq hc9).2 (by decide) (by decide) ?_
      show Steps p.tables e below (T8.setTop (mkF m 12 #[.val (.ref a1)] [])) _
      refine XS.iconst X8.here hx rfl (hb hby d4_12) ?_
      exact k
    refine own_ret (Q := Q3 Z a1 u h0 n0) (v := some (.int (0 : Int32))) X8 hlk (fun h => by rw [hrt] at h; cases h) (by decide) (by decide) ?_ (fun fs hr => retN X8 hx (t := .boolean) hrt (by simp) (hb hby d4_13) hr)
    rw [e8]
    exact ⟨(by first | rfl | simp only [f3, if_neg hc9]), N0, rfl⟩
theorem d5_0 : decode prog_33_method_3_code 0 = .ok (.new 8, 3) := by decide +kernel
theorem d5_3 : decode prog_33_method_3_code 3 = .ok (.dup, 1) := by decide +kernel
theorem d5_4 : decode prog_33_method_3_code 4 = .ok (.aload_n 0, 1) := by decide +kernel
theorem d5_5 : decode prog_33_method_3_code 5 = .ok (.getfield 7, 3) := by decide +kernel
theorem d5_8 : decode prog_33_method_3_code 8 = .ok (.aload_n 0, 1) := by decide +kernel
theorem d5_9 : decode prog_33_method_3_code 9 = .ok (.getfield 13, 3) := by decide +kernel
theorem d5_12 : decode prog_33_method_3_code 12 = .ok (.aload_n 0, 1) := by decide +kernel
theorem d5_13 : decode prog_33_method_3_code 13 = .ok (.getfield 16, 3) := by decide +kernel
theorem d5_16 : decode prog_33_method_3_code 16 = .ok (.aload_n 0, 1) := by decide +kernel
theorem d5_17 : decode prog_33_method_3_code 17 = .ok (.getfield 19, 3) := by decide +kernel
theorem d5_20 : decode prog_33_method_3_code 20 = .ok (.aload_n 0, 1) := by decide +kernel
theorem d5_21 : decode prog_33_method_3_code 21 = .ok (.getfield 22, 3) := by decide +kernel
theorem d5_24 : decode prog_33_method_3_code 24 = .ok (.iconst 1, 1) := by decide +kernel
theorem d5_25 : decode prog_33_method_3_code 25 = .ok (.iadd, 1) := by decide +kernel
theorem d5_26 : decode prog_33_method_3_code 26 = .ok (.invokespecial 25, 3) := by decide +kernel
theorem d5_29 : decode prog_33_method_3_code 29 = .ok (.areturn, 1) := by decide +kernel
theorem pd_1 : parseMethodDescriptor "(IIIII)V" = some ⟨[.int, .int, .int, .int, .int], none⟩ := by decide +kernel
theorem ef4 (m : MethodId) (a1 : Addr) : entryFrame m #[(.ref a1)] 1 = mkF m 0 #[.val (.ref a1)] [] := by first | (simp [entryFrame, mkF, argsToLocals, Value.category]; done) | rfl
abbrev own_R3_1_5_56 : Room := { frames := 3, cells := 1, slots := 5, locals := 56 }
def Q4 (Z : State) (a1 : Addr) (u0 : Int32) (u1 : Int32) (u2 : Int32) (u3 : Int32) (u4 : Int32) (h0 : Heap) (n0 : Nat) (v : Option Value) (h : Heap) (L : List Loc) : Prop := ∃ b : Addr, v = some (.ref b) ∧ Fr n0 L ∧ Keep h0 h [] ∧ n0 ≤ b ∧ h0.size ≤ b ∧ Exa Z h b "com/example/tidewright/tidewright/undersea/play/Progress" ∧ Fld Z h b "com/example/tidewright/tidewright/undersea/play/Progress" "productions" "I" (.int (u4 + (1 : Int32)))
set_option maxRecDepth 65536 in
set_option maxHeartbeats 40000000 in
theorem rm4 (l : Launch) (Z : State) (a0 : Array Value) (hw : ∀ d ∈ tables_1, d.before a0 Z = true) (ws : List Jvm.Cond) (a1 : Addr) (u0 : Int32) (u1 : Int32) (u2 : Int32) (u3 : Int32) (u4 : Int32) (h0 : Heap) (n0 : Nat) (Z0 : n0 ≤ h0.size) (EX : Exa Z h0 a1 "com/example/tidewright/tidewright/undersea/play/Progress") (F_round : Fld Z h0 a1 "com/example/tidewright/tidewright/undersea/play/Progress" "round" "I" (.int u0)) (F_era : Fld Z h0 a1 "com/example/tidewright/tidewright/undersea/play/Progress" "era" "I" (.int u1)) (F_turnsTaken : Fld Z h0 a1 "com/example/tidewright/tidewright/undersea/play/Progress" "turnsTaken" "I" (.int u2)) (F_turns : Fld Z h0 a1 "com/example/tidewright/tidewright/undersea/play/Progress" "turns" "I" (.int u3)) (F_productions : Fld Z h0 a1 "com/example/tidewright/tidewright/undersea/play/Progress" "productions" "I" (.int u4)) :
    MetFree l own_y3 (head1 (Jvm.Cond.code own_y3 prog_33_method_3_code 1 (some (.object "com/example/tidewright/tidewright/undersea/play/Progress")) :: ws) own_R3_1_5_56) (fun a U => a = #[(.ref a1)] ∧ Z.Warmed39 U.vm ∧ U.heap = h0) (fun _ _ _ _ _ => True) (fun _ U o U' => ∃ v L, o = .returned v ∧ Q4 Z a1 u0 u1 u2 u3 u4 h0 n0 v U'.heap L ∧ FrameEnd U o U' L (own_R3_1_5_56).cells (own_R3_1_5_56).slots) := by
  refine MetFree.of_bodySF (plainFor_of_name pn_0) hisR ?_
  intro p e s m args below meth c s₁ Bd hml0 hP hK
  obtain ⟨rfl, hZ, hh⟩ := hP
  have hx := Bd.exec
  have hby := Bd.bytes
  have hml : c.maxLocals = 1 := hml0
  have hown : s.vm.findClass "com/example/tidewright/tidewright/undersea/play/Progress" = some m.cls := findClass_of_methodNamed Bd.named
  have hnm := (name_of_methodNamed Bd.named Bd.method).1
  have hlk : meth.locks = false := BodyLoose.notSynchronized Bd
  have hrt := Bd.returns
  have X0 : Stand p l e own_R3_1_5_56 s m #[(.ref a1)] below meth c s₁ [] 0 0 := Stand.of_body Bd
  have e0 : s₁.heap = h0 := by rw [← hh, Bd.state]; rfl
  have N0 := Fr.nil n0
  refine (show Go p e below (fun s₂ o => ∃ v L, o = .returned v ∧ Q4 Z a1 u0 u1 u2 u3 u4 h0 n0 v s₂.heap L ∧ FrameEnd s o s₂ L 1 5) (s₁.setTop (entryFrame m #[(.ref a1)] 1)) from ?_)
  rw [ef4]
  obtain ⟨T10, h10, X10, e10, E10, A10, D10, -, st10⟩ := newO X0 hx hZ hown (own_w hw 34 rfl) (own_w hw 1 rfl) (own_w hw 2 rfl) e0 (g := (mkF m 0 #[.val (.ref a1)] [])) rfl (hb hby d5_0) (by decide) (by decide)
  obtain ⟨b10, g10⟩ : ∃ z, z = h0.size := ⟨_, rfl⟩
  rw [← g10] at A10 D10 st10
  have ne_a1_b10 : a1 ≠ b10 := Nat.ne_of_lt (Nat.lt_of_lt_of_le EX.lt (Nat.le_of_eq g10.symm))
  have ge_b10 : n0 ≤ b10 := Nat.le_trans Z0 (Nat.le_of_eq g10.symm)
  have sg_b10 : h0.size ≤ b10 := Nat.le_trans (Keep.refl h0 []).1 (Nat.le_of_eq g10.symm)
  have EX_10 := EX.ext E10
  have F_round_10 := F_round.ext E10
  have F_era_10 := F_era.ext E10
  have F_turnsTaken_10 := F_turnsTaken.ext E10
  have F_turns_10 := F_turns.ext E10
  have F_productions_10 := F_productions.ext E10
  have KK10 : Keep h0 h10 [] := (Keep.refl h0 []).ext E10
  have F_round_b10 : Fld Z h10 b10 "com/example/tidewright/tidewright/undersea/play/Progress" "round" "I" (.int (0 : Int32)) := D10 (Or.inr (own_w hw 15 rfl)) (ty := .int) (by decide)
  have F_era_b10 : Fld Z h10 b10 "com/example/tidewright/tidewright/undersea/play/Progress" "era" "I" (.int (0 : Int32)) := D10 (Or.inr (own_w hw 17 rfl)) (ty := .int) (by decide)
  have F_turnsTaken_b10 : Fld Z h10 b10 "com/example/tidewright/tidewright/undersea/play/Progress" "turnsTaken" "I" (.int (0 : Int32)) := D10 (Or.inr (own_w hw 19 rfl)) (ty := .int) (by decide)
  have F_turns_b10 : Fld Z h10 b10 "com/example/tidewright/tidewright/undersea/play/Progress" "turns" "I" (.int (0 : Int32)) := D10 (Or.inr (own_w hw 21 rfl)) (ty := .int) (by decide)
  have F_productions_b10 : Fld Z h10 b10 "com/example/tidewright/tidewright/undersea/play/Progress" "productions" "I" (.int (0 : Int32)) := D10 (Or.inr (own_w hw 23 rfl)) (ty := .int) (by decide)
  have sz10 : n0 ≤ h10.size := Nat.le_trans Z0 E10.1
  refine Go.st (U' := T10.setTop (mkF m 3 #[.val (.ref a1)] [(.ref b10)])) (fun t k => st10 _ k) ?_
  refine Go.st (U' := T10.setTop (mkF m 5 #[.val (.ref a1)] [(.ref a1), (.ref b10), (.ref b10)])) (fun t k => ?_) ?_
  · show Steps p.tables e below (T10.setTop (mkF m 3 #[.val (.ref a1)] [(.ref b10)])) _
    refine XS.dup X10.here hx rfl (hb hby d5_3) rfl rfl ?_
    show Steps p.tables e below (T10.setTop (mkF m 4 #[.val (.ref a1)] [(.ref b10), (.ref b10)])) _
    refine XS.aloadN X10.here hx rfl (hb hby d5_4) rfl rfl ?_
    exact k
  obtain ⟨T11, X11, e11, st11⟩ := getF X10 hx hZ hown (host := "") (Or.inl (own_w hw 14 rfl)) Via.refl e10 F_round_10 (g := (mkF m 5 #[.val (.ref a1)] [(.ref a1), (.ref b10), (.ref b10)])) rfl rfl (hb hby d5_5)
  refine Go.st (U' := T11.setTop (mkF m 8 #[.val (.ref a1)] [(.int u0), (.ref b10), (.ref b10)])) (fun t k => st11 _ k) ?_
  refine Go.st (U' := T11.setTop (mkF m 9 #[.val (.ref a1)] [(.ref a1), (.int u0), (.ref b10), (.ref b10)])) (fun t k => ?_) ?_
  · show Steps p.tables e below (T11.setTop (mkF m 8 #[.val (.ref a1)] [(.int u0), (.ref b10), (.ref b10)])) _
    refine XS.aloadN X11.here hx rfl (hb hby d5_8) rfl rfl ?_
    exact k
  obtain ⟨T12, X12, e12, st12⟩ := getF X11 hx hZ hown (host := "") (Or.inl (own_w hw 16 rfl)) Via.refl e11 F_era_10 (g := (mkF m 9 #[.val (.ref a1)] [(.ref a1), (.int u0), (.ref b10), (.ref b10)])) rfl rfl (hb hby d5_9)
  refine Go.st (U' := T12.setTop (mkF m 12 #[.val (.ref a1)] [(.int u1), (.int u0), (.ref b10), (.ref b10)])) (fun t k => st12 _ k) ?_
  refine Go.st (U' := T12.setTop (mkF m 13 #[.val (.ref a1)] [(.ref a1), (.int u1), (.int u0), (.ref b10), (.ref b10)])) (fun t k => ?_) ?_
  · show Steps p.tables e below (T12.setTop (mkF m 12 #[.val (.ref a1)] [(.int u1), (.int u0), (.ref b10), (.ref b10)])) _
    refine XS.aloadN X12.here hx rfl (hb hby d5_12) rfl rfl ?_
    exact k
  obtain ⟨T13, X13, e13, st13⟩ := getF X12 hx hZ hown (host := "") (Or.inl (own_w hw 18 rfl)) Via.refl e12 F_turnsTaken_10 (g := (mkF m 13 #[.val (.ref a1)] [(.ref a1), (.int u1), (.int u0), (.ref b10), (.ref b10)])) rfl rfl (hb hby d5_13)
  refine Go.st (U' := T13.setTop (mkF m 16 #[.val (.ref a1)] [(.int u2), (.int u1), (.int u0), (.ref b10), (.ref b10)])) (fun t k => st13 _ k) ?_
  refine Go.st (U' := T13.setTop (mkF m 17 #[.val (.ref a1)] [(.ref a1), (.int u2), (.int u1), (.int u0), (.ref b10), (.ref b10)])) (fun t k => ?_) ?_
  · show Steps p.tables e below (T13.setTop (mkF m 16 #[.val (.ref a1)] [(.int u2), (.int u1), (.int u0), (.ref b10), (.ref b10)])) _
    refine XS.aloadN X13.here hx rfl (hb hby d5_16) rfl rfl ?_
    exact k
  obtain ⟨T14, X14, e14, st14⟩ := getF X13 hx hZ hown (host := "") (Or.inl (own_w hw 20 rfl)) Via.refl e13 F_turns_10 (g := (mkF m 17 #[.val (.ref a1)] [(.ref a1), (.int u2), (.int u1), (.int u0), (.ref b10), (.ref b10)])) rfl rfl (hb hby d5_17)
  refine Go.st (U' := T14.setTop (mkF m 20 #[.val (.ref a1)] [(.int u3), (.int u2), (.int u1), (.int u0), (.ref b10), (.ref b10)])) (fun t k => st14 _ k) ?_
  refine Go.st (U' := T14.setTop (mkF m 21 #[.val (.ref a1)] [(.ref a1), (.int u3), (.int u2), (.int u1), (.int u0), (.ref b10), (.ref b10)])) (fun t k => ?_) ?_
  · show Steps p.tables e below (T14.setTop (mkF m 20 #[.val (.ref a1)] [(.int u3), (.int u2), (.int u1), (.int u0), (.ref b10), (.ref b10)])) _
    refine XS.aloadN X14.here hx rfl (hb hby d5_20) rfl rfl ?_
    exact k
  obtain ⟨T15, X15, e15, st15⟩ := getF X14 hx hZ hown (host := "") (Or.inl (own_w hw 22 rfl)) Via.refl e14 F_productions_10 (g := (mkF m 21 #[.val (.ref a1)] [(.ref a1), (.int u3), (.int u2), (.int u1), (.int u0), (.ref b10), (.ref b10)])) rfl rfl (hb hby d5_21)
  refine Go.st (U' := T15.setTop (mkF m 24 #[.val (.ref a1)] [(.int u4), (.int u3), (.int u2), (.int u1), (.int u0), (.ref b10), (.ref b10)])) (fun t k => st15 _ k) ?_
  refine Go.st (U' := T15.setTop (mkF m 26 #[.val (.ref a1)] [(.int (u4 + (1 : Int32))), (.int u3), (.int u2), (.int u1), (.int u0), (.ref b10), (.ref b10)])) (fun t k => ?_) ?_
  · show Steps p.tables e below (T15.setTop (mkF m 24 #[.val (.ref a1)] [(.int u4), (.int u3), (.int u2), (.int u1), (.int u0), (.ref b10), (.ref b10)])) _
    refine XS.iconst X15.here hx rfl (hb hby d5_24) ?_
    show Steps p.tables e below (T15.setTop (mkF m 25 #[.val (.ref a1)] [(.int (1 : Int32)), (.int u4), (.int u3), (.int u2), (.int u1), (.int u0), (.ref b10), (.ref b10)])) _
    refine XS.iadd X15.here hx rfl (hb hby d5_25) rfl ?_
    exact k
  obtain ⟨_, _, ⟨T16, L16, k16, n16⟩, -, X16, ⟨Lc16, hQ16, l16, y16, z16⟩, st16⟩ := X15.specialBack hx (y := own_y1) rfl hown (mvT hZ (own_w hw 35 rfl)) (mvT hZ (own_w hw 4 rfl)) (mvT hZ (own_w hw 5 rfl)) (by decide) (backOf (W := 1) (rm2 l Z a0 hw [] b10 u0 u1 u2 u3 (u4 + (1 : Int32)) (0 : Int32) (0 : Int32) (0 : Int32) (0 : Int32) (0 : Int32) h10 n0 sz10 A10 F_round_b10 F_era_b10 F_turnsTaken_b10 F_turns_b10 F_productions_b10 ge_b10) hZ (own_w hw 5 rfl) (own_w hw 2 rfl) (by decide) (by decide)) (g := (mkF m 26 #[.val (.ref a1)] [(.int (u4 + (1 : Int32))), (.int u3), (.int u2), (.int u1), (.int u0), (.ref b10), (.ref b10)])) rfl (by rw [hml]; rfl) (Steps.refl _) (a := b10) (argsL := [(.int u0), (.int u1), (.int u2), (.int u3), (.int (u4 + (1 : Int32)))]) (rest := [(.ref b10)]) (lenOf pd_1 rfl) rfl (by show 2 * 0 + _ ≤ _; exact Nat.le_of_eq rfl) (hb hby d5_26) (fun _ _ => ⟨rfl, e15, (by decide : 1 + 0 ≤ _), (by decide : 5 + 0 ≤ _)⟩)
  dsimp only [Pt.U, Pt.locs, Pt.cells, Pt.slots] at X16 l16 y16 z16 st16 hQ16
  subst l16 y16 z16
  obtain ⟨rfl, N16q, K16, P16_0, P16_1, P16_2, P16_3, P16_4, P16_5⟩ := hQ16
  have KK16 : Keep h0 T16.heap [] := KK10.trans K16 (allS (Or.inr sg_b10) all0)
  have EX_16 := EX_10.keep K16
  have F_round_16 := F_round_10.keep K16 (ninS ne_a1_b10 nin0)
  have F_era_16 := F_era_10.keep K16 (ninS ne_a1_b10 nin0)
  have F_turnsTaken_16 := F_turnsTaken_10.keep K16 (ninS ne_a1_b10 nin0)
  have F_turns_16 := F_turns_10.keep K16 (ninS ne_a1_b10 nin0)
  have F_productions_16 := F_productions_10.keep K16 (ninS ne_a1_b10 nin0)
  have Ex_b10_16 := A10.keep K16
  have sz16 : n0 ≤ T16.heap.size := Nat.le_trans sz10 K16.1
  have N16 := Fr.app N0 N16q
  refine Go.tr (U' := T16.setTop (mkF m 29 #[.val (.ref a1)] [(.ref b10)])) st16 ?_
  refine own_ret (Q := Q4 Z a1 u0 u1 u2 u3 u4 h0 n0) (v := some (.ref b10)) X16 hlk (fun h => by rw [hrt] at h; cases h) (by decide) (by decide) ?_ (fun fs hr => retOut X16 hx hrt rfl (Or.inr (Or.inr (Or.inr (Or.inr ⟨rfl, rfl, rfl⟩)))) (hb hby d5_29) hr)
  exact ⟨_, rfl, N16, KK16, ge_b10, sg_b10, P16_0, P16_5⟩
theorem d6_0 : decode prog_33_method_2_code 0 = .ok (.new 8, 3) := by decide +kernel
theorem d6_3 : decode prog_33_method_2_code 3 = .ok (.dup, 1) := by decide +kernel
theorem d6_4 : decode prog_33_method_2_code 4 = .ok (.aload_n 0, 1) := by decide +kernel
theorem d6_5 : decode prog_33_method_2_code 5 = .ok (.getfield 7, 3) := by decide +kernel
theorem d6_8 : decode prog_33_method_2_code 8 = .ok (.aload_n 0, 1) := by decide +kernel
theorem d6_9 : decode prog_33_method_2_code 9 = .ok (.getfield 13, 3) := by decide +kernel
theorem d6_12 : decode prog_33_method_2_code 12 = .ok (.aload_n 0, 1) := by decide +kernel
theorem d6_13 : decode prog_33_method_2_code 13 = .ok (.getfield 16, 3) := by decide +kernel
theorem d6_16 : decode prog_33_method_2_code 16 = .ok (.iconst 1, 1) := by decide +kernel
theorem d6_17 : decode prog_33_method_2_code 17 = .ok (.iadd, 1) := by decide +kernel
theorem d6_18 : decode prog_33_method_2_code 18 = .ok (.aload_n 0, 1) := by decide +kernel
theorem d6_19 : decode prog_33_method_2_code 19 = .ok (.getfield 19, 3) := by decide +kernel
theorem d6_22 : decode prog_33_method_2_code 22 = .ok (.iconst 1, 1) := by decide +kernel
theorem d6_23 : decode prog_33_method_2_code 23 = .ok (.iadd, 1) := by decide +kernel
theorem d6_24 : decode prog_33_method_2_code 24 = .ok (.aload_n 0, 1) := by decide +kernel
theorem d6_25 : decode prog_33_method_2_code 25 = .ok (.getfield 22, 3) := by decide +kernel
theorem d6_28 : decode prog_33_method_2_code 28 = .ok (.invokespecial 25, 3) := by decide +kernel
theorem d6_31 : decode prog_33_method_2_code 31 = .ok (.areturn, 1) := by decide +kernel
theorem ef5 (m : MethodId) (a1 : Addr) : entryFrame m #[(.ref a1)] 1 = mkF m 0 #[.val (.ref a1)] [] := by first | (simp [entryFrame, mkF, argsToLocals, Value.category]; done) | rfl
def Q5 (Z : State) (a1 : Addr) (u0 : Int32) (u1 : Int32) (u2 : Int32) (u3 : Int32) (u4 : Int32) (h0 : Heap) (n0 : Nat) (v : Option Value) (h : Heap) (L : List Loc) : Prop := ∃ b : Addr, v = some (.ref b) ∧ Fr n0 L ∧ Keep h0 h [] ∧ n0 ≤ b ∧ h0.size ≤ b ∧ Exa Z h b "com/example/tidewright/tidewright/undersea/play/Progress" ∧ Fld Z h b "com/example/tidewright/tidewright/undersea/play/Progress" "productions" "I" (.int u4)
set_option maxRecDepth 65536 in
set_option maxHeartbeats 40000000 in
theorem rm5 (l : Launch) (Z : State) (a0 : Array Value) (hw : ∀ d ∈ tables_1, d.before a0 Z = true) (ws : List Jvm.Cond) (a1 : Addr) (u0 : Int32) (u1 : Int32) (u2 : Int32) (u3 : Int32) (u4 : Int32) (h0 : Heap) (n0 : Nat) (Z0 : n0 ≤ h0.size) (EX : Exa Z h0 a1 "com/example/tidewright/tidewright/undersea/play/Progress") (F_round : Fld Z h0 a1 "com/example/tidewright/tidewright/undersea/play/Progress" "round" "I" (.int u0)) (F_era : Fld Z h0 a1 "com/example/tidewright/tidewright/undersea/play/Progress" "era" "I" (.int u1)) (F_turnsTaken : Fld Z h0 a1 "com/example/tidewright/tidewright/undersea/play/Progress" "turnsTaken" "I" (.int u2)) (F_turns : Fld Z h0 a1 "com/example/tidewright/tidewright/undersea/play/Progress" "turns" "I" (.int u3)) (F_productions : Fld Z h0 a1 "com/example/tidewright/tidewright/undersea/play/Progress" "productions" "I" (.int u4)) :
    MetFree l own_y4 (head1 (Jvm.Cond.code own_y4 prog_33_method_2_code 1 (some (.object "com/example/tidewright/tidewright/undersea/play/Progress")) :: ws) own_R3_1_5_56) (fun a U => a = #[(.ref a1)] ∧ Z.Warmed39 U.vm ∧ U.heap = h0) (fun _ _ _ _ _ => True) (fun _ U o U' => ∃ v L, o = .returned v ∧ Q5 Z a1 u0 u1 u2 u3 u4 h0 n0 v U'.heap L ∧ FrameEnd U o U' L (own_R3_1_5_56).cells (own_R3_1_5_56).slots) := by
  refine MetFree.of_bodySF (plainFor_of_name pn_0) hisR ?_
  intro p e s m args below meth c s₁ Bd hml0 hP hK
  obtain ⟨rfl, hZ, hh⟩ := hP
  have hx := Bd.exec
  have hby := Bd.bytes
  have hml : c.maxLocals = 1 := hml0
  have hown : s.vm.findClass "com/example/tidewright/tidewright/undersea/play/Progress" = some m.cls := findClass_of_methodNamed Bd.named
  have hnm := (name_of_methodNamed Bd.named Bd.method).1
  have hlk : meth.locks = false := BodyLoose.notSynchronized Bd
  have hrt := Bd.returns
  have X0 : Stand p l e own_R3_1_5_56 s m #[(.ref a1)] below meth c s₁ [] 0 0 := Stand.of_body Bd
  have e0 : s₁.heap = h0 := by rw [← hh, Bd.state]; rfl
  have N0 := Fr.nil n0
  refine (show Go p e below (fun s₂ o => ∃ v L, o = .returned v ∧ Q5 Z a1 u0 u1 u2 u3 u4 h0 n0 v s₂.heap L ∧ FrameEnd s o s₂ L 1 5) (s₁.setTop (entryFrame m #[(.ref a1)] 1)) from ?_)
  rw [ef5]
  obtain ⟨T17, h17, X17, e17, E17, A17, D17, -, st17⟩ := newO X0 hx hZ hown (own_w hw 34 rfl) (own_w hw 1 rfl) (own_w hw 2 rfl) e0 (g := (mkF m 0 #[.val (.ref a1)] [])) rfl (hb hby d6_0) (by decide) (by decide)
  obtain ⟨b17, g17⟩ : ∃ z, z = h0.size := ⟨_, rfl⟩
  rw [← g17] at A17 D17 st17
  have ne_a1_b17 : a1 ≠ b17 := Nat.ne_of_lt (Nat.lt_of_lt_of_le EX.lt (Nat.le_of_eq g17.symm))
  have ge_b17 : n0 ≤ b17 := Nat.le_trans Z0 (Nat.le_of_eq g17.symm)
  have sg_b17 : h0.size ≤ b17 := Nat.le_trans (Keep.refl h0 []).1 (Nat.le_of_eq g17.symm)
  have EX_17 := EX.ext E17
  have F_round_17 := F_round.ext E17
  have F_era_17 := F_era.ext E17
  have F_turnsTaken_17 := F_turnsTaken.ext E17
  have F_turns_17 := F_turns.ext E17
  have F_productions_17 := F_productions.ext E17
  have KK17 : Keep h0 h17 [] := (Keep.refl h0 []).ext E17
  have F_round_b17 : Fld Z h17 b17 "com/example/tidewright/tidewright/undersea/play/Progress" "round" "I" (.int (0 : Int32)) := D17 (Or.inr (own_w hw 15 rfl)) (ty := .int) (by decide)
  have F_era_b17 : Fld Z h17 b17 "com/example/tidewright/tidewright/undersea/play/Progress" "era" "I" (.int (0 : Int32)) := D17 (Or.inr (own_w hw 17 rfl)) (ty := .int) (by decide)
  have F_turnsTaken_b17 : Fld Z h17 b17 "com/example/tidewright/tidewright/undersea/play/Progress" "turnsTaken" "I" (.int (0 : Int32)) := D17 (Or.inr (own_w hw 19 rfl)) (ty := .int) (by decide)
  have F_turns_b17 : Fld Z h17 b17 "com/example/tidewright/tidewright/undersea/play/Progress" "turns" "I" (.int (0 : Int32)) := D17 (Or.inr (own_w hw 21 rfl)) (ty := .int) (by decide)
  have F_productions_b17 : Fld Z h17 b17 "com/example/tidewright/tidewright/undersea/play/Progress" "productions" "I" (.int (0 : Int32)) := D17 (Or.inr (own_w hw 23 rfl)) (ty := .int) (by decide)
  have sz17 : n0 ≤ h17.size := Nat.le_trans Z0 E17.1
  refine Go.st (U' := T17.setTop (mkF m 3 #[.val (.ref a1)] [(.ref b17)])) (fun t k => st17 _ k) ?_
  refine Go.st (U' := T17.setTop (mkF m 5 #[.val (.ref a1)] [(.ref a1), (.ref b17), (.ref b17)])) (fun t k => ?_) ?_
  · show Steps p.tables e below (T17.setTop (mkF m 3 #[.val (.ref a1)] [(.ref b17)])) _
    refine XS.dup X17.here hx rfl (hb hby d6_3) rfl rfl ?_
    show Steps p.tables e below (T17.setTop (mkF m 4 #[.val (.ref a1)] [(.ref b17), (.ref b17)])) _
    refine XS.aloadN X17.here hx rfl (hb hby d6_4) rfl rfl ?_
    exact k
  obtain ⟨T18, X18, e18, st18⟩ := getF X17 hx hZ hown (host := "") (Or.inl (own_w hw 14 rfl)) Via.refl e17 F_round_17 (g := (mkF m 5 #[.val (.ref a1)] [(.ref a1), (.ref b17), (.ref b17)])) rfl rfl (hb hby d6_5)
  refine Go.st (U' := T18.setTop (mkF m 8 #[.val (.ref a1)] [(.int u0), (.ref b17), (.ref b17)])) (fun t k => st18 _ k) ?_
  refine Go.st (U' := T18.setTop (mkF m 9 #[.val (.ref a1)] [(.ref a1), (.int u0), (.ref b17), (.ref b17)])) (fun t k => ?_) ?_
  · show Steps p.tables e below (T18.setTop (mkF m 8 #[.val (.ref a1)] [(.int u0), (.ref b17), (.ref b17)])) _
    refine XS.aloadN X18.here hx rfl (hb hby d6_8) rfl rfl ?_
    exact k
  obtain ⟨T19, X19, e19, st19⟩ := getF X18 hx hZ hown (host := "") (Or.inl (own_w hw 16 rfl)) Via.refl e18 F_era_17 (g := (mkF m 9 #[.val (.ref a1)] [(.ref a1), (.int u0), (.ref b17), (.ref b17)])) rfl rfl (hb hby d6_9)
  refine Go.st (U' := T19.setTop (mkF m 12 #[.val (.ref a1)] [(.int u1), (.int u0), (.ref b17), (.ref b17)])) (fun t k => st19 _ k) ?_
  refine Go.st (U' := T19.setTop (mkF m 13 #[.val (.ref a1)] [(.ref a1), (.int u1), (.int u0), (.ref b17), (.ref b17)])) (fun t k => ?_) ?_
  · show Steps p.tables e below (T19.setTop (mkF m 12 #[.val (.ref a1)] [(.int u1), (.int u0), (.ref b17), (.ref b17)])) _
    refine XS.aloadN X19.here hx rfl (hb hby d6_12) rfl rfl ?_
    exact k
  obtain ⟨T20, X20, e20, st20⟩ := getF X19 hx hZ hown (host := "") (Or.inl (own_w hw 18 rfl)) Via.refl e19 F_turnsTaken_17 (g := (mkF m 13 #[.val (.ref a1)] [(.ref a1), (.int u1), (.int u0), (.ref b17), (.ref b17)])) rfl rfl (hb hby d6_13)
  refine Go.st (U' := T20.setTop (mkF m 16 #[.val (.ref a1)] [(.int u2), (.int u1), (.int u0), (.ref b17), (.ref b17)])) (fun t k => st20 _ k) ?_
  refine Go.st (U' := T20.setTop (mkF m 19 #[.val (.ref a1)] [(.ref a1), (.int (u2 + (1 : Int32))), (.int u1), (.int u0), (.ref b17), (.ref b17)])) (fun t k => ?_) ?_
  · show Steps p.tables e below (T20.setTop (mkF m 16 #[.val (.ref a1)] [(.int u2), (.int u1), (.int u0), (.ref b17), (.ref b17)])) _
    refine XS.iconst X20.here hx rfl (hb hby d6_16) ?_
    show Steps p.tables e below (T20.setTop (mkF m 17 #[.val (.ref a1)] [(.int (1 : Int32)), (.int u2), (.int u1), (.int u0), (.ref b17), (.ref b17)])) _
    refine XS.iadd X20.here hx rfl (hb hby d6_17) rfl ?_
    show Steps p.tables e below (T20.setTop (mkF m 18 #[.val (.ref a1)] [(.int (u2 + (1 : Int32))), (.int u1), (.int u0), (.ref b17), (.ref b17)])) _
    refine XS.aloadN X20.here hx rfl (hb hby d6_18) rfl rfl ?_
    exact k
  obtain ⟨T21, X21, e21, st21⟩ := getF X20 hx hZ hown (host := "") (Or.inl (own_w hw 20 rfl)) Via.refl e20 F_turns_17 (g := (mkF m 19 #[.val (.ref a1)] [(.ref a1), (.int (u2 + (1 : Int32))), (.int u1), (.int u0), (.ref b17), (.ref b17)])) rfl rfl (hb hby d6_19)
  refine Go.st (U' := T21.setTop (mkF m 22 #[.val (.ref a1)] [(.int u3), (.int (u2 + (1 : Int32))), (.int u1), (.int u0), (.ref b17), (.ref b17)])) (fun t k => st21 _ k) ?_
  refine Go.st (U' := T21.setTop (mkF m 25 #[.val (.ref a1)] [(.ref a1), (.int (u3 + (1 : Int32))), (.int (u2 + (1 : Int32))), (.int u1), (.int u0), (.ref b17), (.ref b17)])) (fun t k => ?_) ?_
  · show Steps p.tables e below (T21.setTop (mkF m 22 #[.val (.ref a1)] [(.int u3), (.int (u2 + (1 : Int32))), (.int u1), (.int u0), (.ref b17), (.ref b17)])) _
    refine XS.iconst X21.here hx rfl (hb hby d6_22) ?_
    show Steps p.tables e below (T21.setTop (mkF m 23 #[.val (.ref a1)] [(.int (1 : Int32)), (.int u3), (.int (u2 + (1 : Int32))), (.int u1), (.int u0), (.ref b17), (.ref b17)])) _
    refine XS.iadd X21.here hx rfl (hb hby d6_23) rfl ?_
    show Steps p.tables e below (T21.setTop (mkF m 24 #[.val (.ref a1)] [(.int (u3 + (1 : Int32))), (.int (u2 + (1 : Int32))), (.int u1), (.int u0), (.ref b17), (.ref b17)])) _
    refine XS.aloadN X21.here hx rfl (hb hby d6_24) rfl rfl ?_
    exact k
  obtain ⟨T22, X22, e22, st22⟩ := getF X21 hx hZ hown (host := "") (Or.inl (own_w hw 22 rfl)) Via.refl e21 F_productions_17 (g := (mkF m 25 #[.val (.ref a1)] [(.ref a1), (.int (u3 + (1 : Int32))), (.int (u2 + (1 : Int32))), (.int u1), (.int u0), (.ref b17), (.ref b17)])) rfl rfl (hb hby d6_25)
  refine Go.st (U' := T22.setTop (mkF m 28 #[.val (.ref a1)] [(.int u4), (.int (u3 + (1 : Int32))), (.int (u2 + (1 : Int32))), (.int u1), (.int u0), (.ref b17), (.ref b17)])) (fun t k => st22 _ k) ?_
  obtain ⟨_, _, ⟨T23, L23, k23, n23⟩, -, X23, ⟨Lc23, hQ23, l23, y23, z23⟩, st23⟩ := X22.specialBack hx (y := own_y1) rfl hown (mvT hZ (own_w hw 35 rfl)) (mvT hZ (own_w hw 4 rfl)) (mvT hZ (own_w hw 5 rfl)) (by decide) (backOf (W := 1) (rm2 l Z a0 hw [] b17 u0 u1 (u2 + (1 : Int32)) (u3 + (1 : Int32)) u4 (0 : Int32) (0 : Int32) (0 : Int32) (0 : Int32) (0 : Int32) h17 n0 sz17 A17 F_round_b17 F_era_b17 F_turnsTaken_b17 F_turns_b17 F_productions_b17 ge_b17) hZ (own_w hw 5 rfl) (own_w hw 2 rfl) (by decide) (by decide)) (g := (mkF m 28 #[.val (.ref a1)] [(.int u4), (.int (u3 + (1 : Int32))), (.int (u2 + (1 : Int32))), (.int u1), (.int u0), (.ref b17), (.ref b17)])) rfl (by rw [hml]; rfl) (Steps.refl _) (a := b17) (argsL := [(.int u0), (.int u1), (.int (u2 + (1 : Int32))), (.int (u3 + (1 : Int32))), (.int u4)]) (rest := [(.ref b17)]) (lenOf pd_1 rfl) rfl (by show 2 * 0 + _ ≤ _; exact Nat.le_of_eq rfl) (hb hby d6_28) (fun _ _ => ⟨rfl, e22, (by decide : 1 + 0 ≤ _), (by decide : 5 + 0 ≤ _)⟩)
  dsimp only [Pt.U, Pt.locs, Pt.cells, Pt.slots] at X23 l23 y23 z23 st23 hQ23
  subst l23 y23 z23
  obtain ⟨rfl, N23q, K23, P23_0, P23_1, P23_2, P23_3, P23_4, P23_5⟩ := hQ23
  have KK23 : Keep h0 T23.heap [] := KK17.trans K23 (allS (Or.inr sg_b17) all0)
  have EX_23 := EX_17.keep K23
  have F_round_23 := F_round_17.keep K23 (ninS ne_a1_b17 nin0)
  have F_era_23 := F_era_17.keep K23 (ninS ne_a1_b17 nin0)
  have F_turnsTaken_23 := F_turnsTaken_17.keep K23 (ninS ne_a1_b17 nin0)
  have F_turns_23 := F_turns_17.keep K23 (ninS ne_a1_b17 nin0)
  have F_productions_23 := F_productions_17.keep K23 (ninS ne_a1_b17 nin0)
  have Ex_b17_23 := A17.keep K23
  have sz23 : n0 ≤ T23.heap.size := Nat.le_trans sz17 K23.1
  have N23 := Fr.app N0 N23q
  refine Go.tr (U' := T23.setTop (mkF m 31 #[.val (.ref a1)] [(.ref b17)])) st23 ?_
  refine own_ret (Q := Q5 Z a1 u0 u1 u2 u3 u4 h0 n0) (v := some (.ref b17)) X23 hlk (fun h => by rw [hrt] at h; cases h) (by decide) (by decide) ?_ (fun fs hr => retOut X23 hx hrt rfl (Or.inr (Or.inr (Or.inr (Or.inr ⟨rfl, rfl, rfl⟩)))) (hb hby d6_31) hr)
  exact ⟨_, rfl, N23, KK23, ge_b17, sg_b17, P23_0, P23_5⟩
theorem d7_0 : decode prog_33_method_5_code 0 = .ok (.new 8, 3) := by decide +kernel
theorem d7_3 : decode prog_33_method_5_code 3 = .ok (.dup, 1) := by decide +kernel
theorem d7_4 : decode prog_33_method_5_code 4 = .ok (.aload_n 0, 1) := by decide +kernel
theorem d7_5 : decode prog_33_method_5_code 5 = .ok (.getfield 7, 3) := by decide +kernel
theorem d7_8 : decode prog_33_method_5_code 8 = .ok (.iconst 1, 1) := by decide +kernel
theorem d7_9 : decode prog_33_method_5_code 9 = .ok (.iadd, 1) := by decide +kernel
theorem d7_10 : decode prog_33_method_5_code 10 = .ok (.aload_n 0, 1) := by decide +kernel
theorem d7_11 : decode prog_33_method_5_code 11 = .ok (.getfield 13, 3) := by decide +kernel
theorem d7_14 : decode prog_33_method_5_code 14 = .ok (.iconst 0, 1) := by decide +kernel
theorem d7_15 : decode prog_33_method_5_code 15 = .ok (.aload_n 0, 1) := by decide +kernel
theorem d7_16 : decode prog_33_method_5_code 16 = .ok (.getfield 19, 3) := by decide +kernel
theorem d7_19 : decode prog_33_method_5_code 19 = .ok (.aload_n 0, 1) := by decide +kernel
theorem d7_20 : decode prog_33_method_5_code 20 = .ok (.getfield 22, 3) := by decide +kernel
theorem d7_23 : decode prog_33_method_5_code 23 = .ok (.invokespecial 25, 3) := by decide +kernel
theorem d7_26 : decode prog_33_method_5_code 26 = .ok (.areturn, 1) := by decide +kernel
theorem ef6 (m : MethodId) (a1 : Addr) : entryFrame m #[(.ref a1)] 1 = mkF m 0 #[.val (.ref a1)] [] := by first | (simp [entryFrame, mkF, argsToLocals, Value.category]; done) | rfl
def Q6 (Z : State) (a1 : Addr) (u0 : Int32) (u1 : Int32) (u2 : Int32) (u3 : Int32) (u4 : Int32) (h0 : Heap) (n0 : Nat) (v : Option Value) (h : Heap) (L : List Loc) : Prop := ∃ b : Addr, v = some (.ref b) ∧ Fr n0 L ∧ Keep h0 h [] ∧ n0 ≤ b ∧ h0.size ≤ b ∧ Exa Z h b "com/example/tidewright/tidewright/undersea/play/Progress" ∧ Fld Z h b "com/example/tidewright/tidewright/undersea/play/Progress" "productions" "I" (.int u4)
set_option maxRecDepth 65536 in
set_option maxHeartbeats 40000000 in
theorem rm6 (l : Launch) (Z : State) (a0 : Array Value) (hw : ∀ d ∈ tables_1, d.before a0 Z = true) (ws : List Jvm.Cond) (a1 : Addr) (u0 : Int32) (u1 : Int32) (u2 : Int32) (u3 : Int32) (u4 : Int32) (h0 : Heap) (n0 : Nat) (Z0 : n0 ≤ h0.size) (EX : Exa Z h0 a1 "com/example/tidewright/tidewright/undersea/play/Progress") (F_round : Fld Z h0 a1 "com/example/tidewright/tidewright/undersea/play/Progress" "round" "I" (.int u0)) (F_era : Fld Z h0 a1 "com/example/tidewright/tidewright/undersea/play/Progress" "era" "I" (.int u1)) (F_turnsTaken : Fld Z h0 a1 "com/example/tidewright/tidewright/undersea/play/Progress" "turnsTaken" "I" (.int u2)) (F_turns : Fld Z h0 a1 "com/example/tidewright/tidewright/undersea/play/Progress" "turns" "I" (.int u3)) (F_productions : Fld Z h0 a1 "com/example/tidewright/tidewright/undersea/play/Progress" "productions" "I" (.int u4)) :
    MetFree l own_y5 (head1 (Jvm.Cond.code own_y5 prog_33_method_5_code 1 (some (.object "com/example/tidewright/tidewright/undersea/play/Progress")) :: ws) own_R3_1_5_56) (fun a U => a = #[(.ref a1)] ∧ Z.Warmed39 U.vm ∧ U.heap = h0) (fun _ _ _ _ _ => True) (fun _ U o U' => ∃ v L, o = .returned v ∧ Q6 Z a1 u0 u1 u2 u3 u4 h0 n0 v U'.heap L ∧ FrameEnd U o U' L (own_R3_1_5_56).cells (own_R3_1_5_56).slots) := by
  refine MetFree.of_bodySF (plainFor_of_name pn_0) hisR ?_
  intro p e s m args below meth c s₁ Bd hml0 hP hK
  obtain ⟨rfl, hZ, hh⟩ := hP
  have hx := Bd.exec
  have hby := Bd.bytes
  have hml : c.maxLocals = 1 := hml0
  have hown : s.vm.findClass "com/example/tidewright/tidewright/undersea/play/Progress" = some m.cls := findClass_of_methodNamed Bd.named
  have hnm := (name_of_methodNamed Bd.named Bd.method).1
  have hlk : meth.locks = false := BodyLoose.notSynchronized Bd
  have hrt := Bd.returns
  have X0 : Stand p l e own_R3_1_5_56 s m #[(.ref a1)] below meth c s₁ [] 0 0 := Stand.of_body Bd
  have e0 : s₁.heap = h0 := by rw [← hh, Bd.state]; rfl
  have N0 := Fr.nil n0
  refine (show Go p e below (fun s₂ o => ∃ v L, o = .returned v ∧ Q6 Z a1 u0 u1 u2 u3 u4 h0 n0 v s₂.heap L ∧ FrameEnd s o s₂ L 1 5) (s₁.setTop (entryFrame m #[(.ref a1)] 1)) from ?_)
  rw [ef6]
  obtain ⟨T24, h24, X24, e24, E24, A24, D24, -, st24⟩ := newO X0 hx hZ hown (own_w hw 34 rfl) (own_w hw 1 rfl) (own_w hw 2 rfl) e0 (g := (mkF m 0 #[.val (.ref a1)] [])) rfl (hb hby d7_0) (by decide) (by decide)
  obtain ⟨b24, g24⟩ : ∃ z, z = h0.size := ⟨_, rfl⟩
  rw [← g24] at A24 D24 st24
  have ne_a1_b24 : a1 ≠ b24 := Nat.ne_of_lt (Nat.lt_of_lt_of_le EX.lt (Nat.le_of_eq g24.symm))
  have ge_b24 : n0 ≤ b24 := Nat.le_trans Z0 (Nat.le_of_eq g24.symm)
  have sg_b24 : h0.size ≤ b24 := Nat.le_trans (Keep.refl h0 []).1 (Nat.le_of_eq g24.symm)
  have EX_24 := EX.ext E24
  have F_round_24 := F_round.ext E24
  have F_era_24 := F_era.ext E24
  have F_turnsTaken_24 := F_turnsTaken.ext E24
  have F_turns_24 := F_turns.ext E24
  have F_productions_24 := F_productions.ext E24
  have KK24 : Keep h0 h24 [] := (Keep.refl h0 []).ext E24
  have F_round_b24 : Fld Z h24 b24 "com/example/tidewright/tidewright/undersea/play/Progress" "round" "I" (.int (0 : Int32)) := D24 (Or.inr (own_w hw 15 rfl)) (ty := .int) (by decide)
  have F_era_b24 : Fld Z h24 b24 "com/example/tidewright/tidewright/undersea/play/Progress" "era" "I" (.int (0 : Int32)) := D24 (Or.inr (own_w hw 17 rfl)) (ty := .int) (by decide)
  have F_turnsTaken_b24 : Fld Z h24 b24 "com/example/tidewright/tidewright/undersea/play/Progress" "turnsTaken" "I" (.int (0 : Int32)) := D24 (Or.inr (own_w hw 19 rfl)) (ty := .int) (by decide)
  have F_turns_b24 : Fld Z h24 b24 "com/example/tidewright/tidewright/undersea/play/Progress" "turns" "I" (.int (0 : Int32)) := D24 (Or.inr (own_w hw 21 rfl)) (ty := .int) (by decide)
  have F_productions_b24 : Fld Z h24 b24 "com/example/tidewright/tidewright/undersea/play/Progress" "productions" "I" (.int (0 : Int32)) := D24 (Or.inr (own_w hw 23 rfl)) (ty := .int) (by decide)
  have sz24 : n0 ≤ h24.size := Nat.le_trans Z0 E24.1
  refine Go.st (U' := T24.setTop (mkF m 3 #[.val (.ref a1)] [(.ref b24)])) (fun t k => st24 _ k) ?_
  refine Go.st (U' := T24.setTop (mkF m 5 #[.val (.ref a1)] [(.ref a1), (.ref b24), (.ref b24)])) (fun t k => ?_) ?_
  · show Steps p.tables e below (T24.setTop (mkF m 3 #[.val (.ref a1)] [(.ref b24)])) _
    refine XS.dup X24.here hx rfl (hb hby d7_3) rfl rfl ?_
    show Steps p.tables e below (T24.setTop (mkF m 4 #[.val (.ref a1)] [(.ref b24), (.ref b24)])) _
    refine XS.aloadN X24.here hx rfl (hb hby d7_4) rfl rfl ?_
    exact k
  obtain ⟨T25, X25, e25, st25⟩ := getF X24 hx hZ hown (host := "") (Or.inl (own_w hw 14 rfl)) Via.refl e24 F_round_24 (g := (mkF m 5 #[.val (.ref a1)] [(.ref a1), (.ref b24), (.ref b24)])) rfl rfl (hb hby d7_5)
  refine Go.st (U' := T25.setTop (mkF m 8 #[.val (.ref a1)] [(.int u0), (.ref b24), (.ref b24)])) (fun t k => st25 _ k) ?_
  refine Go.st (U' := T25.setTop (mkF m 11 #[.val (.ref a1)] [(.ref a1), (.int (u0 + (1 : Int32))), (.ref b24), (.ref b24)])) (fun t k => ?_) ?_
  · show Steps p.tables e below (T25.setTop (mkF m 8 #[.val (.ref a1)] [(.int u0), (.ref b24), (.ref b24)])) _
    refine XS.iconst X25.here hx rfl (hb hby d7_8) ?_
    show Steps p.tables e below (T25.setTop (mkF m 9 #[.val (.ref a1)] [(.int (1 : Int32)), (.int u0), (.ref b24), (.ref b24)])) _
    refine XS.iadd X25.here hx rfl (hb hby d7_9) rfl ?_
    show Steps p.tables e below (T25.setTop (mkF m 10 #[.val (.ref a1)] [(.int (u0 + (1 : Int32))), (.ref b24), (.ref b24)])) _
    refine XS.aloadN X25.here hx rfl (hb hby d7_10) rfl rfl ?_
    exact k
  obtain ⟨T26, X26, e26, st26⟩ := getF X25 hx hZ hown (host := "") (Or.inl (own_w hw 16 rfl)) Via.refl e25 F_era_24 (g := (mkF m 11 #[.val (.ref a1)] [(.ref a1), (.int (u0 + (1 : Int32))), (.ref b24), (.ref b24)])) rfl rfl (hb hby d7_11)
  refine Go.st (U' := T26.setTop (mkF m 14 #[.val (.ref a1)] [(.int u1), (.int (u0 + (1 : Int32))), (.ref b24), (.ref b24)])) (fun t k => st26 _ k) ?_
  refine Go.st (U' := T26.setTop (mkF m 16 #[.val (.ref a1)] [(.ref a1), (.int (0 : Int32)), (.int u1), (.int (u0 + (1 : Int32))), (.ref b24), (.ref b24)])) (fun t k => ?_) ?_
  · show Steps p.tables e below (T26.setTop (mkF m 14 #[.val (.ref a1)] [(.int u1), (.int (u0 + (1 : Int32))), (.ref b24), (.ref b24)])) _
    refine XS.iconst X26.here hx rfl (hb hby d7_14) ?_
    show Steps p.tables e below (T26.setTop (mkF m 15 #[.val (.ref a1)] [(.int (0 : Int32)), (.int u1), (.int (u0 + (1 : Int32))), (.ref b24), (.ref b24)])) _
    refine XS.aloadN X26.here hx rfl (hb hby d7_15) rfl rfl ?_
    exact k
  obtain ⟨T27, X27, e27, st27⟩ := getF X26 hx hZ hown (host := "") (Or.inl (own_w hw 20 rfl)) Via.refl e26 F_turns_24 (g := (mkF m 16 #[.val (.ref a1)] [(.ref a1), (.int (0 : Int32)), (.int u1), (.int (u0 + (1 : Int32))), (.ref b24), (.ref b24)])) rfl rfl (hb hby d7_16)
  refine Go.st (U' := T27.setTop (mkF m 19 #[.val (.ref a1)] [(.int u3), (.int (0 : Int32)), (.int u1), (.int (u0 + (1 : Int32))), (.ref b24), (.ref b24)])) (fun t k => st27 _ k) ?_
  refine Go.st (U' := T27.setTop (mkF m 20 #[.val (.ref a1)] [(.ref a1), (.int u3), (.int (0 : Int32)), (.int u1), (.int (u0 + (1 : Int32))), (.ref b24), (.ref b24)])) (fun t k => ?_) ?_
  · show Steps p.tables e below (T27.setTop (mkF m 19 #[.val (.ref a1)] [(.int u3), (.int (0 : Int32)), (.int u1), (.int (u0 + (1 : Int32))), (.ref b24), (.ref b24)])) _
    refine XS.aloadN X27.here hx rfl (hb hby d7_19) rfl rfl ?_
    exact k
  obtain ⟨T28, X28, e28, st28⟩ := getF X27 hx hZ hown (host := "") (Or.inl (own_w hw 22 rfl)) Via.refl e27 F_productions_24 (g := (mkF m 20 #[.val (.ref a1)] [(.ref a1), (.int u3), (.int (0 : Int32)), (.int u1), (.int (u0 + (1 : Int32))), (.ref b24), (.ref b24)])) rfl rfl (hb hby d7_20)
  refine Go.st (U' := T28.setTop (mkF m 23 #[.val (.ref a1)] [(.int u4), (.int u3), (.int (0 : Int32)), (.int u1), (.int (u0 + (1 : Int32))), (.ref b24), (.ref b24)])) (fun t k => st28 _ k) ?_
  obtain ⟨_, _, ⟨T29, L29, k29, n29⟩, -, X29, ⟨Lc29, hQ29, l29, y29, z29⟩, st29⟩ := X28.specialBack hx (y := own_y1) rfl hown (mvT hZ (own_w hw 35 rfl)) (mvT hZ (own_w hw 4 rfl)) (mvT hZ (own_w hw 5 rfl)) (by decide) (backOf (W := 1) (rm2 l Z a0 hw [] b24 (u0 + (1 : Int32)) u1 (0 : Int32) u3 u4 (0 : Int32) (0 : Int32) (0 : Int32) (0 : Int32) (0 : Int32) h24 n0 sz24 A24 F_round_b24 F_era_b24 F_turnsTaken_b24 F_turns_b24 F_productions_b24 ge_b24) hZ (own_w hw 5 rfl) (own_w hw 2 rfl) (by decide) (by decide)) (g := (mkF m 23 #[.val (.ref a1)] [(.int u4), (.int u3), (.int (0 : Int32)), (.int u1), (.int (u0 + (1 : Int32))), (.ref b24), (.ref b24)])) rfl (by rw [hml]; rfl) (Steps.refl _) (a := b24) (argsL := [(.int (u0 + (1 : Int32))), (.int u1), (.int (0 : Int32)), (.int u3), (.int u4)]) (rest := [(.ref b24)]) (lenOf pd_1 rfl) rfl (by show 2 * 0 + _ ≤ _; exact Nat.le_of_eq rfl) (hb hby d7_23) (fun _ _ => ⟨rfl, e28, (by decide : 1 + 0 ≤ _), (by decide : 5 + 0 ≤ _)⟩)
  dsimp only [Pt.U, Pt.locs, Pt.cells, Pt.slots] at X29 l29 y29 z29 st29 hQ29
  subst l29 y29 z29
  obtain ⟨rfl, N29q, K29, P29_0, P29_1, P29_2, P29_3, P29_4, P29_5⟩ := hQ29
  have KK29 : Keep h0 T29.heap [] := KK24.trans K29 (allS (Or.inr sg_b24) all0)
  have EX_29 := EX_24.keep K29
  have F_round_29 := F_round_24.keep K29 (ninS ne_a1_b24 nin0)
  have F_era_29 := F_era_24.keep K29 (ninS ne_a1_b24 nin0)
  have F_turnsTaken_29 := F_turnsTaken_24.keep K29 (ninS ne_a1_b24 nin0)
  have F_turns_29 := F_turns_24.keep K29 (ninS ne_a1_b24 nin0)
  have F_productions_29 := F_productions_24.keep K29 (ninS ne_a1_b24 nin0)
  have Ex_b24_29 := A24.keep K29
  have sz29 : n0 ≤ T29.heap.size := Nat.le_trans sz24 K29.1
  have N29 := Fr.app N0 N29q
  refine Go.tr (U' := T29.setTop (mkF m 26 #[.val (.ref a1)] [(.ref b24)])) st29 ?_
  refine own_ret (Q := Q6 Z a1 u0 u1 u2 u3 u4 h0 n0) (v := some (.ref b24)) X29 hlk (fun h => by rw [hrt] at h; cases h) (by decide) (by decide) ?_ (fun fs hr => retOut X29 hx hrt rfl (Or.inr (Or.inr (Or.inr (Or.inr ⟨rfl, rfl, rfl⟩)))) (hb hby d7_26) hr)
  exact ⟨_, rfl, N29, KK29, ge_b24, sg_b24, P29_0, P29_5⟩
theorem d8_0 : decode prog_33_method_4_code 0 = .ok (.new 8, 3) := by decide +kernel
theorem d8_3 : decode prog_33_method_4_code 3 = .ok (.dup, 1) := by decide +kernel
theorem d8_4 : decode prog_33_method_4_code 4 = .ok (.aload_n 0, 1) := by decide +kernel
theorem d8_5 : decode prog_33_method_4_code 5 = .ok (.getfield 7, 3) := by decide +kernel
theorem d8_8 : decode prog_33_method_4_code 8 = .ok (.aload_n 0, 1) := by decide +kernel
theorem d8_9 : decode prog_33_method_4_code 9 = .ok (.getfield 13, 3) := by decide +kernel
theorem d8_12 : decode prog_33_method_4_code 12 = .ok (.iconst 1, 1) := by decide +kernel
theorem d8_13 : decode prog_33_method_4_code 13 = .ok (.iadd, 1) := by decide +kernel
theorem d8_14 : decode prog_33_method_4_code 14 = .ok (.aload_n 0, 1) := by decide +kernel
theorem d8_15 : decode prog_33_method_4_code 15 = .ok (.getfield 16, 3) := by decide +kernel
theorem d8_18 : decode prog_33_method_4_code 18 = .ok (.aload_n 0, 1) := by decide +kernel
theorem d8_19 : decode prog_33_method_4_code 19 = .ok (.getfield 19, 3) := by decide +kernel
theorem d8_22 : decode prog_33_method_4_code 22 = .ok (.aload_n 0, 1) := by decide +kernel
theorem d8_23 : decode prog_33_method_4_code 23 = .ok (.getfield 22, 3) := by decide +kernel
theorem d8_26 : decode prog_33_method_4_code 26 = .ok (.invokespecial 25, 3) := by decide +kernel
theorem d8_29 : decode prog_33_method_4_code 29 = .ok (.areturn, 1) := by decide +kernel
theorem ef7 (m : MethodId) (a1 : Addr) : entryFrame m #[(.ref a1)] 1 = mkF m 0 #[.val (.ref a1)] [] := by first | (simp [entryFrame, mkF, argsToLocals, Value.category]; done) | rfl
def Q7 (Z : State) (a1 : Addr) (u0 : Int32) (u1 : Int32) (u2 : Int32) (u3 : Int32) (u4 : Int32) (h0 : Heap) (n0 : Nat) (v : Option Value) (h : Heap) (L : List Loc) : Prop := ∃ b : Addr, v = some (.ref b) ∧ Fr n0 L ∧ Keep h0 h [] ∧ n0 ≤ b ∧ h0.size ≤ b ∧ Exa Z h b "com/example/tidewright/tidewright/undersea/play/Progress" ∧ Fld Z h b "com/example/tidewright/tidewright/undersea/play/Progress" "productions" "I" (.int u4)
set_option maxRecDepth 65536 in
set_option maxHeartbeats 40000000 in
theorem rm7 (l : Launch) (Z : State) (a0 : Array Value) (hw : ∀ d ∈ tables_1, d.before a0 Z = true) (ws : List Jvm.Cond) (a1 : Addr) (u0 : Int32) (u1 : Int32) (u2 : Int32) (u3 : Int32) (u4 : Int32) (h0 : Heap) (n0 : Nat) (Z0 : n0 ≤ h0.size) (EX : Exa Z h0 a1 "com/example/tidewright/tidewright/undersea/play/Progress") (F_round : Fld Z h0 a1 "com/example/tidewright/tidewright/undersea/play/Progress" "round" "I" (.int u0)) (F_era : Fld Z h0 a1 "com/example/tidewright/tidewright/undersea/play/Progress" "era" "I" (.int u1)) (F_turnsTaken : Fld Z h0 a1 "com/example/tidewright/tidewright/undersea/play/Progress" "turnsTaken" "I" (.int u2)) (F_turns : Fld Z h0 a1 "com/example/tidewright/tidewright/undersea/play/Progress" "turns" "I" (.int u3)) (F_productions : Fld Z h0 a1 "com/example/tidewright/tidewright/undersea/play/Progress" "productions" "I" (.int u4)) :
    MetFree l own_y6 (head1 (Jvm.Cond.code own_y6 prog_33_method_4_code 1 (some (.object "com/example/tidewright/tidewright/undersea/play/Progress")) :: ws) own_R3_1_5_56) (fun a U => a = #[(.ref a1)] ∧ Z.Warmed39 U.vm ∧ U.heap = h0) (fun _ _ _ _ _ => True) (fun _ U o U' => ∃ v L, o = .returned v ∧ Q7 Z a1 u0 u1 u2 u3 u4 h0 n0 v U'.heap L ∧ FrameEnd U o U' L (own_R3_1_5_56).cells (own_R3_1_5_56).slots) := by
  refine MetFree.of_bodySF (plainFor_of_name pn_0) hisR ?_
  intro p e s m args below meth c s₁ Bd hml0 hP hK
  obtain ⟨rfl, hZ, hh⟩ := hP
  have hx := Bd.exec
  have hby := Bd.bytes
  have hml : c.maxLocals = 1 := hml0
  have hown : s.vm.findClass "com/example/tidewright/tidewright/undersea/play/Progress" = some m.cls := findClass_of_methodNamed Bd.named
  have hnm := (name_of_methodNamed Bd.named Bd.method).1
  have hlk : meth.locks = false := BodyLoose.notSynchronized Bd
  have hrt := Bd.returns
  have X0 : Stand p l e own_R3_1_5_56 s m #[(.ref a1)] below meth c s₁ [] 0 0 := Stand.of_body Bd
  have e0 : s₁.heap = h0 := by rw [← hh, Bd.state]; rfl
  have N0 := Fr.nil n0
  refine (show Go p e below (fun s₂ o => ∃ v L, o = .returned v ∧ Q7 Z a1 u0 u1 u2 u3 u4 h0 n0 v s₂.heap L ∧ FrameEnd s o s₂ L 1 5) (s₁.setTop (entryFrame m #[(.ref a1)] 1)) from ?_)
  rw [ef7]
  obtain ⟨T30, h30, X30, e30, E30, A30, D30, -, st30⟩ := newO X0 hx hZ hown (own_w hw 34 rfl) (own_w hw 1 rfl) (own_w hw 2 rfl) e0 (g := (mkF m 0 #[.val (.ref a1)] [])) rfl (hb hby d8_0) (by decide) (by decide)
  obtain ⟨b30, g30⟩ : ∃ z, z = h0.size := ⟨_, rfl⟩
  rw [← g30] at A30 D30 st30
  have ne_a1_b30 : a1 ≠ b30 := Nat.ne_of_lt (Nat.lt_of_lt_of_le EX.lt (Nat.le_of_eq g30.symm))
  have ge_b30 : n0 ≤ b30 := Nat.le_trans Z0 (Nat.le_of_eq g30.symm)
  have sg_b30 : h0.size ≤ b30 := Nat.le_trans (Keep.refl h0 []).1 (Nat.le_of_eq g30.symm)
  have EX_30 := EX.ext E30
  have F_round_30 := F_round.ext E30
  have F_era_30 := F_era.ext E30
  have F_turnsTaken_30 := F_turnsTaken.ext E30
  have F_turns_30 := F_turns.ext E30
  have F_productions_30 := F_productions.ext E30
  have KK30 : Keep h0 h30 [] := (Keep.refl h0 []).ext E30
  have F_round_b30 : Fld Z h30 b30 "com/example/tidewright/tidewright/undersea/play/Progress" "round" "I" (.int (0 : Int32)) := D30 (Or.inr (own_w hw 15 rfl)) (ty := .int) (by decide)
  have F_era_b30 : Fld Z h30 b30 "com/example/tidewright/tidewright/undersea/play/Progress" "era" "I" (.int (0 : Int32)) := D30 (Or.inr (own_w hw 17 rfl)) (ty := .int) (by decide)
  have F_turnsTaken_b30 : Fld Z h30 b30 "com/example/tidewright/tidewright/undersea/play/Progress" "turnsTaken" "I" (.int (0 : Int32)) := D30 (Or.inr (own_w hw 19 rfl)) (ty := .int) (by decide)
  have F_turns_b30 : Fld Z h30 b30 "com/example/tidewright/tidewright/undersea/play/Progress" "turns" "I" (.int (0 : Int32)) := D30 (Or.inr (own_w hw 21 rfl)) (ty := .int) (by decide)
  have F_productions_b30 : Fld Z h30 b30 "com/example/tidewright/tidewright/undersea/play/Progress" "productions" "I" (.int (0 : Int32)) := D30 (Or.inr (own_w hw 23 rfl)) (ty := .int) (by decide)
  have sz30 : n0 ≤ h30.size := Nat.le_trans Z0 E30.1
  refine Go.st (U' := T30.setTop (mkF m 3 #[.val (.ref a1)] [(.ref b30)])) (fun t k => st30 _ k) ?_
  refine Go.st (U' := T30.setTop (mkF m 5 #[.val (.ref a1)] [(.ref a1), (.ref b30), (.ref b30)])) (fun t k => ?_) ?_
  · show Steps p.tables e below (T30.setTop (mkF m 3 #[.val (.ref a1)] [(.ref b30)])) _
    refine XS.dup X30.here hx rfl (hb hby d8_3) rfl rfl ?_
    show Steps p.tables e below (T30.setTop (mkF m 4 #[.val (.ref a1)] [(.ref b30), (.ref b30)])) _
    refine XS.aloadN X30.here hx rfl (hb hby d8_4) rfl rfl ?_
    exact k
  obtain ⟨T31, X31, e31, st31⟩ := getF X30 hx hZ hown (host := "") (Or.inl (own_w hw 14 rfl)) Via.refl e30 F_round_30 (g := (mkF m 5 #[.val (.ref a1)] [(.ref a1), (.ref b30), (.ref b30)])) rfl rfl (hb hby d8_5)
  refine Go.st (U' := T31.setTop (mkF m 8 #[.val (.ref a1)] [(.int u0), (.ref b30), (.ref b30)])) (fun t k => st31 _ k) ?_
  refine Go.st (U' := T31.setTop (mkF m 9 #[.val (.ref a1)] [(.ref a1), (.int u0), (.ref b30), (.ref b30)])) (fun t k => ?_) ?_
  · show Steps p.tables e below (T31.setTop (mkF m 8 #[.val (.ref a1)] [(.int u0), (.ref b30), (.ref b30)])) _
    refine XS.aloadN X31.here hx rfl (hb hby d8_8) rfl rfl ?_
    exact k
  obtain ⟨T32, X32, e32, st32⟩ := getF X31 hx hZ hown (host := "") (Or.inl (own_w hw 16 rfl)) Via.refl e31 F_era_30 (g := (mkF m 9 #[.val (.ref a1)] [(.ref a1), (.int u0), (.ref b30), (.ref b30)])) rfl rfl (hb hby d8_9)
  refine Go.st (U' := T32.setTop (mkF m 12 #[.val (.ref a1)] [(.int u1), (.int u0), (.ref b30), (.ref b30)])) (fun t k => st32 _ k) ?_
  refine Go.st (U' := T32.setTop (mkF m 15 #[.val (.ref a1)] [(.ref a1), (.int (u1 + (1 : Int32))), (.int u0), (.ref b30), (.ref b30)])) (fun t k => ?_) ?_
  · show Steps p.tables e below (T32.setTop (mkF m 12 #[.val (.ref a1)] [(.int u1), (.int u0), (.ref b30), (.ref b30)])) _
    refine XS.iconst X32.here hx rfl (hb hby d8_12) ?_
    show Steps p.tables e below (T32.setTop (mkF m 13 #[.val (.ref a1)] [(.int (1 : Int32)), (.int u1), (.int u0), (.ref b30), (.ref b30)])) _
    refine XS.iadd X32.here hx rfl (hb hby d8_13) rfl ?_
    show Steps p.tables e below (T32.setTop (mkF m 14 #[.val (.ref a1)] [(.int (u1 + (1 : Int32))), (.int u0), (.ref b30), (.ref b30)])) _
    refine XS.aloadN X32.here hx rfl (hb hby d8_14) rfl rfl ?_
    exact k
  obtain ⟨T33, X33, e33, st33⟩ := getF X32 hx hZ hown (host := "") (Or.inl (own_w hw 18 rfl)) Via.refl e32 F_turnsTaken_30 (g := (mkF m 15 #[.val (.ref a1)] [(.ref a1), (.int (u1 + (1 : Int32))), (.int u0), (.ref b30), (.ref b30)])) rfl rfl (hb hby d8_15)
  refine Go.st (U' := T33.setTop (mkF m 18 #[.val (.ref a1)] [(.int u2), (.int (u1 + (1 : Int32))), (.int u0), (.ref b30), (.ref b30)])) (fun t k => st33 _ k) ?_
  refine Go.st (U' := T33.setTop (mkF m 19 #[.val (.ref a1)] [(.ref a1), (.int u2), (.int (u1 + (1 : Int32))), (.int u0), (.ref b30), (.ref b30)])) (fun t k => ?_) ?_
  · show Steps p.tables e below (T33.setTop (mkF m 18 #[.val (.ref a1)] [(.int u2), (.int (u1 + (1 : Int32))), (.int u0), (.ref b30), (.ref b30)])) _
    refine XS.aloadN X33.here hx rfl (hb hby d8_18) rfl rfl ?_
    exact k
  obtain ⟨T34, X34, e34, st34⟩ := getF X33 hx hZ hown (host := "") (Or.inl (own_w hw 20 rfl)) Via.refl e33 F_turns_30 (g := (mkF m 19 #[.val (.ref a1)] [(.ref a1), (.int u2), (.int (u1 + (1 : Int32))), (.int u0), (.ref b30), (.ref b30)])) rfl rfl (hb hby d8_19)
  refine Go.st (U' := T34.setTop (mkF m 22 #[.val (.ref a1)] [(.int u3), (.int u2), (.int (u1 + (1 : Int32))), (.int u0), (.ref b30), (.ref b30)])) (fun t k => st34 _ k) ?_
  refine Go.st (U' := T34.setTop (mkF m 23 #[.val (.ref a1)] [(.ref a1), (.int u3), (.int u2), (.int (u1 + (1 : Int32))), (.int u0), (.ref b30), (.ref b30)])) (fun t k => ?_) ?_
  · show Steps p.tables e below (T34.setTop (mkF m 22 #[.val (.ref a1)] [(.int u3), (.int u2), (.int (u1 + (1 : Int32))), (.int u0), (.ref b30), (.ref b30)])) _
    refine XS.aloadN X34.here hx rfl (hb hby d8_22) rfl rfl ?_
    exact k
  obtain ⟨T35, X35, e35, st35⟩ := getF X34 hx hZ hown (host := "") (Or.inl (own_w hw 22 rfl)) Via.refl e34 F_productions_30 (g := (mkF m 23 #[.val (.ref a1)] [(.ref a1), (.int u3), (.int u2), (.int (u1 + (1 : Int32))), (.int u0), (.ref b30), (.ref b30)])) rfl rfl (hb hby d8_23)
  refine Go.st (U' := T35.setTop (mkF m 26 #[.val (.ref a1)] [(.int u4), (.int u3), (.int u2), (.int (u1 + (1 : Int32))), (.int u0), (.ref b30), (.ref b30)])) (fun t k => st35 _ k) ?_
  obtain ⟨_, _, ⟨T36, L36, k36, n36⟩, -, X36, ⟨Lc36, hQ36, l36, y36, z36⟩, st36⟩ := X35.specialBack hx (y := own_y1) rfl hown (mvT hZ (own_w hw 35 rfl)) (mvT hZ (own_w hw 4 rfl)) (mvT hZ (own_w hw 5 rfl)) (by decide) (backOf (W := 1) (rm2 l Z a0 hw [] b30 u0 (u1 + (1 : Int32)) u2 u3 u4 (0 : Int32) (0 : Int32) (0 : Int32) (0 : Int32) (0 : Int32) h30 n0 sz30 A30 F_round_b30 F_era_b30 F_turnsTaken_b30 F_turns_b30 F_productions_b30 ge_b30) hZ (own_w hw 5 rfl) (own_w hw 2 rfl) (by decide) (by decide)) (g := (mkF m 26 #[.val (.ref a1)] [(.int u4), (.int u3), (.int u2), (.int (u1 + (1 : Int32))), (.int u0), (.ref b30), (.ref b30)])) rfl (by rw [hml]; rfl) (Steps.refl _) (a := b30) (argsL := [(.int u0), (.int (u1 + (1 : Int32))), (.int u2), (.int u3), (.int u4)]) (rest := [(.ref b30)]) (lenOf pd_1 rfl) rfl (by show 2 * 0 + _ ≤ _; exact Nat.le_of_eq rfl) (hb hby d8_26) (fun _ _ => ⟨rfl, e35, (by decide : 1 + 0 ≤ _), (by decide : 5 + 0 ≤ _)⟩)
  dsimp only [Pt.U, Pt.locs, Pt.cells, Pt.slots] at X36 l36 y36 z36 st36 hQ36
  subst l36 y36 z36
  obtain ⟨rfl, N36q, K36, P36_0, P36_1, P36_2, P36_3, P36_4, P36_5⟩ := hQ36
  have KK36 : Keep h0 T36.heap [] := KK30.trans K36 (allS (Or.inr sg_b30) all0)
  have EX_36 := EX_30.keep K36
  have F_round_36 := F_round_30.keep K36 (ninS ne_a1_b30 nin0)
  have F_era_36 := F_era_30.keep K36 (ninS ne_a1_b30 nin0)
  have F_turnsTaken_36 := F_turnsTaken_30.keep K36 (ninS ne_a1_b30 nin0)
  have F_turns_36 := F_turns_30.keep K36 (ninS ne_a1_b30 nin0)
  have F_productions_36 := F_productions_30.keep K36 (ninS ne_a1_b30 nin0)
  have Ex_b30_36 := A30.keep K36
  have sz36 : n0 ≤ T36.heap.size := Nat.le_trans sz30 K36.1
  have N36 := Fr.app N0 N36q
  refine Go.tr (U' := T36.setTop (mkF m 29 #[.val (.ref a1)] [(.ref b30)])) st36 ?_
  refine own_ret (Q := Q7 Z a1 u0 u1 u2 u3 u4 h0 n0) (v := some (.ref b30)) X36 hlk (fun h => by rw [hrt] at h; cases h) (by decide) (by decide) ?_ (fun fs hr => retOut X36 hx hrt rfl (Or.inr (Or.inr (Or.inr (Or.inr ⟨rfl, rfl, rfl⟩)))) (hb hby d8_29) hr)
  exact ⟨_, rfl, N36, KK36, ge_b30, sg_b30, P36_0, P36_5⟩
theorem own_prod (u : Int32) : f3 (u + (1 : Int32)) = (if u = (2 : Int32) then (1 : Int32) else (0 : Int32)) := by
  by_cases h : u = (2 : Int32)
  · subst h; decide
  · have q : ¬ (u + (1 : Int32)) = (3 : Int32) := fun e => h (by
      have e2 := congrArg (fun z => z - (1 : Int32)) e
      simp only [Int32.add_sub_cancel] at e2
      exact e2)
    simp only [f3, if_neg h, if_neg q]
theorem pd_2 : parseMethodDescriptor "()Z" = some ⟨[], some .boolean⟩ := by decide +kernel
theorem pd_3 : parseMethodDescriptor "()Lcom/example/tidewright/tidewright/undersea/play/Progress;" = some ⟨[], some (.object "com/example/tidewright/tidewright/undersea/play/Progress")⟩ := by decide +kernel
theorem pn_1 : plainName "com/example/tidewright/tidewright/undersea/play/ProgressOverPinLaw" = true := by first | (simp [plainName, overriddenIn]; done) | decide +kernel
theorem ef0 (m : MethodId) (p0 : Int32) (p1 : Int32) (p2 : Int32) (p3 : Int32) (p4 : Int32) : entryFrame m #[(.int p0), (.int p1), (.int p2), (.int p3), (.int p4)] maxLocals = mkF m 0 #[.val (.int p0), .val (.int p1), .val (.int p2), .val (.int p3), .val (.int p4), .unset, .unset, .unset, .unset] [] := by first | (simp [entryFrame, mkF, argsToLocals, Value.category, maxLocals]; done) | rfl
def Q0 (Z : State) (p0 : Int32) (p1 : Int32) (p2 : Int32) (p3 : Int32) (p4 : Int32) (h0 : Heap) (n0 : Nat) (v : Option Value) (h : Heap) (L : List Loc) : Prop := v = some (.int 1) ∧ Fr n0 L
set_option maxRecDepth 65536 in
set_option maxHeartbeats 40000000 in
theorem rm0 (l : Launch) (Z : State) (a0 : Array Value) (hw : ∀ d ∈ tables_1, d.before a0 Z = true) (ws : List Jvm.Cond) (p0 : Int32) (p1 : Int32) (p2 : Int32) (p3 : Int32) (p4 : Int32) (h0 : Heap) (n0 : Nat) (Z0 : n0 ≤ h0.size) :
    MetFree l x (head1 (Jvm.Cond.code x code maxLocals ret :: ws) room_1) (fun a U => a = #[(.int p0), (.int p1), (.int p2), (.int p3), (.int p4)] ∧ Z.Warmed39 U.vm ∧ U.heap = h0) (fun _ _ _ _ _ => True) (fun _ U o U' => ∃ v L, o = .returned v ∧ Q0 Z p0 p1 p2 p3 p4 h0 n0 v U'.heap L ∧ FrameEnd U o U' L 24 128) := by
  refine MetFree.of_bodySF (plainFor_of_name pn_1) hisR ?_
  intro p e s m args below meth c s₁ Bd hml0 hP hK
  obtain ⟨rfl, hZ, hh⟩ := hP
  have hx := Bd.exec
  have hby := Bd.bytes
  have hml : c.maxLocals = 9 := hml0
  have hown : s.vm.findClass "com/example/tidewright/tidewright/undersea/play/ProgressOverPinLaw" = some m.cls := findClass_of_methodNamed Bd.named
  have hnm := (name_of_methodNamed Bd.named Bd.method).1
  have hlk : meth.locks = false := BodyLoose.notSynchronized Bd
  have hrt := Bd.returns
  have X0 : Stand p l e room_1 s m #[(.int p0), (.int p1), (.int p2), (.int p3), (.int p4)] below meth c s₁ [] 0 0 := Stand.of_body Bd
  have e0 : s₁.heap = h0 := by rw [← hh, Bd.state]; rfl
  have N0 := Fr.nil n0
  refine (show Go p e below (fun s₂ o => ∃ v L, o = .returned v ∧ Q0 Z p0 p1 p2 p3 p4 h0 n0 v s₂.heap L ∧ FrameEnd s o s₂ L 24 128) (s₁.setTop (entryFrame m #[(.int p0), (.int p1), (.int p2), (.int p3), (.int p4)] maxLocals)) from ?_)
  rw [ef0]
  obtain ⟨T37, h37, X37, e37, E37, A37, D37, -, st37⟩ := newO X0 hx hZ hown (own_w hw 0 rfl) (own_w hw 1 rfl) (own_w hw 2 rfl) e0 (g := (mkF m 0 #[.val (.int p0), .val (.int p1), .val (.int p2), .val (.int p3), .val (.int p4), .unset, .unset, .unset, .unset] [])) rfl (hb hby at_0) (by decide) (by decide)
  obtain ⟨b37, g37⟩ : ∃ z, z = h0.size := ⟨_, rfl⟩
  rw [← g37] at A37 D37 st37
  have ge_b37 : n0 ≤ b37 := Nat.le_trans Z0 (Nat.le_of_eq g37.symm)
  have F_round_b37 : Fld Z h37 b37 "com/example/tidewright/tidewright/undersea/play/Progress" "round" "I" (.int (0 : Int32)) := D37 (Or.inr (own_w hw 15 rfl)) (ty := .int) (by decide)
  have F_era_b37 : Fld Z h37 b37 "com/example/tidewright/tidewright/undersea/play/Progress" "era" "I" (.int (0 : Int32)) := D37 (Or.inr (own_w hw 17 rfl)) (ty := .int) (by decide)
  have F_turnsTaken_b37 : Fld Z h37 b37 "com/example/tidewright/tidewright/undersea/play/Progress" "turnsTaken" "I" (.int (0 : Int32)) := D37 (Or.inr (own_w hw 19 rfl)) (ty := .int) (by decide)
  have F_turns_b37 : Fld Z h37 b37 "com/example/tidewright/tidewright/undersea/play/Progress" "turns" "I" (.int (0 : Int32)) := D37 (Or.inr (own_w hw 21 rfl)) (ty := .int) (by decide)
  have F_productions_b37 : Fld Z h37 b37 "com/example/tidewright/tidewright/undersea/play/Progress" "productions" "I" (.int (0 : Int32)) := D37 (Or.inr (own_w hw 23 rfl)) (ty := .int) (by decide)
  have sz37 : n0 ≤ h37.size := Nat.le_trans Z0 E37.1
  refine Go.st (U' := T37.setTop (mkF m 3 #[.val (.int p0), .val (.int p1), .val (.int p2), .val (.int p3), .val (.int p4), .unset, .unset, .unset, .unset] [(.ref b37)])) (fun t k => st37 _ k) ?_
  refine Go.st (U' := T37.setTop (mkF m 10 #[.val (.int p0), .val (.int p1), .val (.int p2), .val (.int p3), .val (.int p4), .unset, .unset, .unset, .unset] [(.int p4), (.int p3), (.int p2), (.int p1), (.int p0), (.ref b37), (.ref b37)])) (fun t k => ?_) ?_
  · show Steps p.tables e below (T37.setTop (mkF m 3 #[.val (.int p0), .val (.int p1), .val (.int p2), .val (.int p3), .val (.int p4), .unset, .unset, .unset, .unset] [(.ref b37)])) _
    refine XS.dup X37.here hx rfl (hb hby at_3) rfl rfl ?_
    show Steps p.tables e below (T37.setTop (mkF m 4 #[.val (.int p0), .val (.int p1), .val (.int p2), .val (.int p3), .val (.int p4), .unset, .unset, .unset, .unset] [(.ref b37), (.ref b37)])) _
    refine XS.iloadN X37.here hx rfl (hb hby at_4) rfl ?_
    show Steps p.tables e below (T37.setTop (mkF m 5 #[.val (.int p0), .val (.int p1), .val (.int p2), .val (.int p3), .val (.int p4), .unset, .unset, .unset, .unset] [(.int p0), (.ref b37), (.ref b37)])) _
    refine XS.iloadN X37.here hx rfl (hb hby at_5) rfl ?_
    show Steps p.tables e below (T37.setTop (mkF m 6 #[.val (.int p0), .val (.int p1), .val (.int p2), .val (.int p3), .val (.int p4), .unset, .unset, .unset, .unset] [(.int p1), (.int p0), (.ref b37), (.ref b37)])) _
    refine XS.iloadN X37.here hx rfl (hb hby at_6) rfl ?_
    show Steps p.tables e below (T37.setTop (mkF m 7 #[.val (.int p0), .val (.int p1), .val (.int p2), .val (.int p3), .val (.int p4), .unset, .unset, .unset, .unset] [(.int p2), (.int p1), (.int p0), (.ref b37), (.ref b37)])) _
    refine XS.iloadN X37.here hx rfl (hb hby at_7) rfl ?_
    show Steps p.tables e below (T37.setTop (mkF m 8 #[.val (.int p0), .val (.int p1), .val (.int p2), .val (.int p3), .val (.int p4), .unset, .unset, .unset, .unset] [(.int p3), (.int p2), (.int p1), (.int p0), (.ref b37), (.ref b37)])) _
    refine XS.iload X37.here hx rfl (hb hby at_8) rfl ?_
    exact k
  obtain ⟨_, _, ⟨T38, L38, k38, n38⟩, -, X38, ⟨Lc38, hQ38, l38, y38, z38⟩, st38⟩ := X37.specialBack hx (y := own_y1) rfl hown (mvT hZ (own_w hw 3 rfl)) (mvT hZ (own_w hw 4 rfl)) (mvT hZ (own_w hw 5 rfl)) (by decide) (backOf (W := 1) (rm2 l Z a0 hw [] b37 p0 p1 p2 p3 p4 (0 : Int32) (0 : Int32) (0 : Int32) (0 : Int32) (0 : Int32) h37 n0 sz37 A37 F_round_b37 F_era_b37 F_turnsTaken_b37 F_turns_b37 F_productions_b37 ge_b37) hZ (own_w hw 5 rfl) (own_w hw 2 rfl) (by decide) (by decide)) (g := (mkF m 10 #[.val (.int p0), .val (.int p1), .val (.int p2), .val (.int p3), .val (.int p4), .unset, .unset, .unset, .unset] [(.int p4), (.int p3), (.int p2), (.int p1), (.int p0), (.ref b37), (.ref b37)])) rfl (by rw [hml]; rfl) (Steps.refl _) (a := b37) (argsL := [(.int p0), (.int p1), (.int p2), (.int p3), (.int p4)]) (rest := [(.ref b37)]) (lenOf pd_1 rfl) rfl (by show 2 * 0 + _ ≤ _; exact Nat.le_of_eq rfl) (hb hby at_10) (fun _ _ => ⟨rfl, e37, (by decide : 1 + 0 ≤ _), (by decide : 5 + 0 ≤ _)⟩)
  dsimp only [Pt.U, Pt.locs, Pt.cells, Pt.slots] at X38 l38 y38 z38 st38 hQ38
  subst l38 y38 z38
  obtain ⟨rfl, N38q, K38, P38_0, P38_1, P38_2, P38_3, P38_4, P38_5⟩ := hQ38
  have Ex_b37_38 := A37.keep K38
  have sz38 : n0 ≤ T38.heap.size := Nat.le_trans sz37 K38.1
  have N38 := Fr.app N0 N38q
  refine Go.tr (U' := T38.setTop (mkF m 13 #[.val (.int p0), .val (.int p1), .val (.int p2), .val (.int p3), .val (.int p4), .unset, .unset, .unset, .unset] [(.ref b37)])) st38 ?_
  refine Go.st (U' := T38.setTop (mkF m 17 #[.val (.int p0), .val (.int p1), .val (.int p2), .val (.int p3), .val (.int p4), .val (.ref b37), .unset, .unset, .unset] [(.ref b37)])) (fun t k => ?_) ?_
  · show Steps p.tables e below (T38.setTop (mkF m 13 #[.val (.int p0), .val (.int p1), .val (.int p2), .val (.int p3), .val (.int p4), .unset, .unset, .unset, .unset] [(.ref b37)])) _
    refine XS.astore X38.here hx rfl (hb hby at_13) rfl rfl (l' := #[.val (.int p0), .val (.int p1), .val (.int p2), .val (.int p3), .val (.int p4), .val (.ref b37), .unset, .unset, .unset]) rfl ?_
    show Steps p.tables e below (T38.setTop (mkF m 15 #[.val (.int p0), .val (.int p1), .val (.int p2), .val (.int p3), .val (.int p4), .val (.ref b37), .unset, .unset, .unset] [])) _
    refine XS.aload X38.here hx rfl (hb hby at_15) rfl rfl ?_
    exact k
  obtain ⟨cq39, kq39, q39a, q39b, q39c⟩ := isOf hZ rfl P38_0
  obtain ⟨_, _, ⟨T39, L39, k39, n39⟩, -, X39, ⟨Lc39, hQ39, l39, y39, z39⟩, st39⟩ := X38.virtualBack hx (y := own_y2) (z := own_y2) hown (mvT hZ (own_w hw 24 rfl)) (mvT hZ (own_w hw 25 rfl)) (notFace_of_selects (args := #[]) (mvT hZ (own_w hw 27 rfl))) (mvT hZ (own_w hw 27 rfl)) (mvT hZ (own_w hw 26 rfl)) (by decide) (backOf (W := 0) (rm3 l Z a0 hw [] b37 p4 T38.heap n0 sz38 P38_5) hZ (own_w hw 28 rfl) (own_w hw 2 rfl) (by decide) (by decide)) q39a q39c (g := (mkF m 17 #[.val (.int p0), .val (.int p1), .val (.int p2), .val (.int p3), .val (.int p4), .val (.ref b37), .unset, .unset, .unset] [(.ref b37)])) rfl (by rw [hml]; rfl) (Steps.refl _) (argsL := []) (rest := []) (lenOf pd_2 rfl) rfl (by show 2 * 0 + _ ≤ _; exact Nat.le_of_eq rfl) (hb hby at_17) (fun _ _ => ⟨rfl, rfl, (by decide : 1 + 0 ≤ _), (by decide : 5 + 0 ≤ _)⟩)
  dsimp only [Pt.U, Pt.locs, Pt.cells, Pt.slots] at X39 l39 y39 z39 st39 hQ39
  subst l39 y39 z39
  obtain ⟨rfl, N39q, e39⟩ := hQ39
  have N39 := Fr.app N38 N39q
  refine Go.tr (U' := T39.setTop (mkF m 20 #[.val (.int p0), .val (.int p1), .val (.int p2), .val (.int p3), .val (.int p4), .val (.ref b37), .unset, .unset, .unset] [(.int (f3 p4))])) st39 ?_
  refine Go.st (U' := T39.setTop (mkF m 22 #[.val (.int p0), .val (.int p1), .val (.int p2), .val (.int p3), .val (.int p4), .val (.ref b37), .val (.int (f3 p4)), .unset, .unset] [])) (fun t k => ?_) ?_
  · show Steps p.tables e below (T39.setTop (mkF m 20 #[.val (.int p0), .val (.int p1), .val (.int p2), .val (.int p3), .val (.int p4), .val (.ref b37), .unset, .unset, .unset] [(.int (f3 p4))])) _
    refine XS.istore X39.here hx rfl (hb hby at_20) rfl (l' := #[.val (.int p0), .val (.int p1), .val (.int p2), .val (.int p3), .val (.int p4), .val (.ref b37), .val (.int (f3 p4)), .unset, .unset]) rfl ?_
    exact k
  generalize hv_v40 : (f3 p4) = v40
  refine Go.st (U' := T39.setTop (mkF m 25 #[.val (.int p0), .val (.int p1), .val (.int p2), .val (.int p3), .val (.int p4), .val (.ref b37), .val (.int v40), .unset, .unset] [(.int (3 : Int32)), (.int p4)])) (fun t k => ?_) ?_
  · show Steps p.tables e below (T39.setTop (mkF m 22 #[.val (.int p0), .val (.int p1), .val (.int p2), .val (.int p3), .val (.int p4), .val (.ref b37), .val (.int v40), .unset, .unset] [])) _
    refine XS.iload X39.here hx rfl (hb hby at_22) rfl ?_
    show Steps p.tables e below (T39.setTop (mkF m 24 #[.val (.int p0), .val (.int p1), .val (.int p2), .val (.int p3), .val (.int p4), .val (.ref b37), .val (.int v40), .unset, .unset] [(.int p4)])) _
    refine XS.iconst X39.here hx rfl (hb hby at_24) ?_
    exact k
  refine Go.join (P := fun (v42 : Int32) => v42 = (if p4 = (3 : Int32) then (1 : Int32) else (0 : Int32))) (F := fun (v42 : Int32) => T39.setTop (mkF m 33 #[.val (.int p0), .val (.int p1), .val (.int p2), .val (.int p3), .val (.int p4), .val (.ref b37), .val (.int v40), .unset, .unset] [(.int v42)])) (fun J43 => ?_) (fun v42 hv_v42 => ?_)
  · by_cases hc41 : p4 = (3 : Int32)
    · refine Go.st (U' := T39.setTop (mkF m 33 #[.val (.int p0), .val (.int p1), .val (.int p2), .val (.int p3), .val (.int p4), .val (.ref b37), .val (.int v40), .unset, .unset] [(.int (1 : Int32))])) (fun t k => ?_) ?_
      · show Steps p.tables e below (T39.setTop (mkF m 25 #[.val (.int p0), .val (.int p1), .val (.int p2), .val (.int p3), .val (.int p4), .val (.ref b37), .val (.int v40), .unset, .unset] [(.int (3 : Int32)), (.int p4)])) _
        refine XS.icmpNo X39.here hx rfl (hb hby at_25) rfl (teq hc41).2 ?_
        show Steps p.tables e below (T39.setTop (mkF m 28 #[.val (.int p0), .val (.int p1), .val (.int p2), .val (.int p3), .val (.int p4), .val (.ref b37), .val (.int v40), .unset, .unset] [])) _
        refine XS.iconst X39.here hx rfl (hb hby at_28) ?_
        show Steps p.tables e below (T39.setTop (mkF m 29 #[.val (.int p0), .val (.int p1), .val (.int p2), .val (.int p3), .val (.int p4), .val (.ref b37), .val (.int v40), .unset, .unset] [(.int (1 : Int32))])) _
        refine XS.goto X39.here hx rfl (pc0 := 29) (pc' := 33) rfl (hb hby at_29) (by decide) (by decide) ?_
        exact k
      exact J43 _ (by first | rfl | simp only [if_pos hc41])
    · refine Go.st (U' := T39.setTop (mkF m 33 #[.val (.int p0), .val (.int p1), .val (.int p2), .val (.int p3), .val (.int p4), .val (.ref b37), .val (.int v40), .unset, .unset] [(.int (0 : Int32))])) (fun t k => ?_) ?_
      · show Steps p.tables e below (T39.setTop (mkF m 25 #[.val (.int p0), .val (.int p1), .val (.int p2), .val (.int p3), .val (.int p4), .val (.ref b37), .val (.int v40), .unset, .unset] [(.int (3 : Int32)), (.int p4)])) _
        refine XS.icmpYes X39.here hx rfl (pc0 := 25) (pc' := 32) rfl (hb hby at_25) rfl (feq hc41).2 (by decide) (by decide) ?_
        show Steps p.tables e below (T39.setTop (mkF m 32 #[.val (.int p0), .val (.int p1), .val (.int p2), .val (.int p3), .val (.int p4), .val (.ref b37), .val (.int v40), .unset, .unset] [])) _
        refine XS.iconst X39.here hx rfl (hb hby at_32) ?_
        exact k
      exact J43 _ (by first | rfl | simp only [if_neg hc41])
  refine Go.st (U' := T39.setTop (mkF m 46 #[.val (.int p0), .val (.int p1), .val (.int p2), .val (.int p3), .val (.int p4), .val (.ref b37), .val (.int v40), .val (.int v42), .unset] [(.ref b37)])) (fun t k => ?_) ?_
  · show Steps p.tables e below (T39.setTop (mkF m 33 #[.val (.int p0), .val (.int p1), .val (.int p2), .val (.int p3), .val (.int p4), .val (.ref b37), .val (.int v40), .unset, .unset] [(.int v42)])) _
    refine XS.istore X39.here hx rfl (hb hby at_33) rfl (l' := #[.val (.int p0), .val (.int p1), .val (.int p2), .val (.int p3), .val (.int p4), .val (.ref b37), .val (.int v40), .val (.int v42), .unset]) rfl ?_
    show Steps p.tables e below (T39.setTop (mkF m 35 #[.val (.int p0), .val (.int p1), .val (.int p2), .val (.int p3), .val (.int p4), .val (.ref b37), .val (.int v40), .val (.int v42), .unset] [])) _
    refine XS.iload X39.here hx rfl (hb hby at_35) rfl ?_
    show Steps p.tables e below (T39.setTop (mkF m 37 #[.val (.int p0), .val (.int p1), .val (.int p2), .val (.int p3), .val (.int p4), .val (.ref b37), .val (.int v40), .val (.int v42), .unset] [(.int v40)])) _
    refine XS.iload X39.here hx rfl (hb hby at_37) rfl ?_
    show Steps p.tables e below (T39.setTop (mkF m 39 #[.val (.int p0), .val (.int p1), .val (.int p2), .val (.int p3), .val (.int p4), .val (.ref b37), .val (.int v40), .val (.int v42), .unset] [(.int v42), (.int v40)])) _
    refine XS.icmpYes X39.here hx rfl (pc0 := 39) (pc' := 44) rfl (hb hby at_39) rfl (teq ((by subst hv_v40 hv_v42; rfl) : v40 = v42)).1 (by decide) (by decide) ?_
    show Steps p.tables e below (T39.setTop (mkF m 44 #[.val (.int p0), .val (.int p1), .val (.int p2), .val (.int p3), .val (.int p4), .val (.ref b37), .val (.int v40), .val (.int v42), .unset] [])) _
    refine XS.aload X39.here hx rfl (hb hby at_44) rfl rfl ?_
    exact k
  obtain ⟨cq44, kq44, q44a, q44b, q44c⟩ := isOf hZ e39 P38_0
  obtain ⟨_, _, ⟨T44, L44, k44, n44⟩, -, X44, ⟨Lc44, hQ44, l44, y44, z44⟩, st44⟩ := X39.virtualBack hx (y := own_y3) (z := own_y3) hown (mvT hZ (own_w hw 29 rfl)) (mvT hZ (own_w hw 30 rfl)) (notFace_of_selects (args := #[]) (mvT hZ (own_w hw 32 rfl))) (mvT hZ (own_w hw 32 rfl)) (mvT hZ (own_w hw 31 rfl)) (by decide) (backOf (W := 0) (rm4 l Z a0 hw [] b37 p0 p1 p2 p3 p4 T38.heap n0 sz38 P38_0 P38_1 P38_2 P38_3 P38_4 P38_5) hZ (own_w hw 33 rfl) (own_w hw 2 rfl) (by decide) (by decide)) q44a q44c (g := (mkF m 46 #[.val (.int p0), .val (.int p1), .val (.int p2), .val (.int p3), .val (.int p4), .val (.ref b37), .val (.int v40), .val (.int v42), .unset] [(.ref b37)])) rfl (by rw [hml]; rfl) (Steps.refl _) (argsL := []) (rest := []) (lenOf pd_3 rfl) rfl (by show 2 * 0 + _ ≤ _; exact Nat.le_of_eq rfl) (hb hby at_46) (fun _ _ => ⟨rfl, e39, (by decide : 1 + 1 ≤ _), (by decide : 5 + 5 ≤ _)⟩)
  dsimp only [Pt.U, Pt.locs, Pt.cells, Pt.slots] at X44 l44 y44 z44 st44 hQ44
  subst l44 y44 z44
  obtain ⟨b44, rfl, N44q, K44, ge_b44, sb_b44, P44_0, P44_1⟩ := hQ44
  have ne_b37_b44 : b37 ≠ b44 := Nat.ne_of_lt (Nat.lt_of_lt_of_le P38_0.lt sb_b44)
  have P38_0_44 := P38_0.keep K44
  have P38_1_44 := P38_1.keep K44 nin0
  have P38_2_44 := P38_2.keep K44 nin0
  have P38_3_44 := P38_3.keep K44 nin0
  have P38_4_44 := P38_4.keep K44 nin0
  have P38_5_44 := P38_5.keep K44 nin0
  have sz44 : n0 ≤ T44.heap.size := Nat.le_trans sz38 K44.1
  have N44 := Fr.app N39 N44q
  refine Go.tr (U' := T44.setTop (mkF m 49 #[.val (.int p0), .val (.int p1), .val (.int p2), .val (.int p3), .val (.int p4), .val (.ref b37), .val (.int v40), .val (.int v42), .unset] [(.ref b44)])) st44 ?_
  obtain ⟨cq45, kq45, q45a, q45b, q45c⟩ := isOf hZ rfl P44_0
  obtain ⟨_, _, ⟨T45, L45, k45, n45⟩, -, X45, ⟨Lc45, hQ45, l45, y45, z45⟩, st45⟩ := X44.virtualBack hx (y := own_y2) (z := own_y2) hown (mvT hZ (own_w hw 24 rfl)) (mvT hZ (own_w hw 25 rfl)) (notFace_of_selects (args := #[]) (mvT hZ (own_w hw 27 rfl))) (mvT hZ (own_w hw 27 rfl)) (mvT hZ (own_w hw 26 rfl)) (by decide) (backOf (W := 0) (rm3 l Z a0 hw [] b44 (p4 + (1 : Int32)) T44.heap n0 sz44 P44_1) hZ (own_w hw 28 rfl) (own_w hw 2 rfl) (by decide) (by decide)) q45a q45c (g := (mkF m 49 #[.val (.int p0), .val (.int p1), .val (.int p2), .val (.int p3), .val (.int p4), .val (.ref b37), .val (.int v40), .val (.int v42), .unset] [(.ref b44)])) rfl (by rw [hml]; rfl) (Steps.refl _) (argsL := []) (rest := []) (lenOf pd_2 rfl) rfl (by show 2 * 0 + _ ≤ _; exact Nat.le_of_eq rfl) (hb hby at_49) (fun _ _ => ⟨rfl, rfl, (by decide : 2 + 0 ≤ _), (by decide : 10 + 0 ≤ _)⟩)
  dsimp only [Pt.U, Pt.locs, Pt.cells, Pt.slots] at X45 l45 y45 z45 st45 hQ45
  subst l45 y45 z45
  obtain ⟨rfl, N45q, e45⟩ := hQ45
  have N45 := Fr.app N44 N45q
  refine Go.tr (U' := T45.setTop (mkF m 52 #[.val (.int p0), .val (.int p1), .val (.int p2), .val (.int p3), .val (.int p4), .val (.ref b37), .val (.int v40), .val (.int v42), .unset] [(.int (f3 (p4 + (1 : Int32))))])) st45 ?_
  refine Go.st (U' := T45.setTop (mkF m 54 #[.val (.int p0), .val (.int p1), .val (.int p2), .val (.int p3), .val (.int p4), .val (.ref b37), .val (.int v40), .val (.int v42), .val (.int (f3 (p4 + (1 : Int32))))] [])) (fun t k => ?_) ?_
  · show Steps p.tables e below (T45.setTop (mkF m 52 #[.val (.int p0), .val (.int p1), .val (.int p2), .val (.int p3), .val (.int p4), .val (.ref b37), .val (.int v40), .val (.int v42), .unset] [(.int (f3 (p4 + (1 : Int32))))])) _
    refine XS.istore X45.here hx rfl (hb hby at_52) rfl (l' := #[.val (.int p0), .val (.int p1), .val (.int p2), .val (.int p3), .val (.int p4), .val (.ref b37), .val (.int v40), .val (.int v42), .val (.int (f3 (p4 + (1 : Int32))))]) rfl ?_
    exact k
  generalize hv_v46 : (f3 (p4 + (1 : Int32))) = v46
  refine Go.st (U' := T45.setTop (mkF m 59 #[.val (.int p0), .val (.int p1), .val (.int p2), .val (.int p3), .val (.int p4), .val (.ref b37), .val (.int v40), .val (.int v42), .val (.int v46)] [(.int (2 : Int32)), (.int p4), (.int v46)])) (fun t k => ?_) ?_
  · show Steps p.tables e below (T45.setTop (mkF m 54 #[.val (.int p0), .val (.int p1), .val (.int p2), .val (.int p3), .val (.int p4), .val (.ref b37), .val (.int v40), .val (.int v42), .val (.int v46)] [])) _
    refine XS.iload X45.here hx rfl (hb hby at_54) rfl ?_
    show Steps p.tables e below (T45.setTop (mkF m 56 #[.val (.int p0), .val (.int p1), .val (.int p2), .val (.int p3), .val (.int p4), .val (.ref b37), .val (.int v40), .val (.int v42), .val (.int v46)] [(.int v46)])) _
    refine XS.iload X45.here hx rfl (hb hby at_56) rfl ?_
    show Steps p.tables e below (T45.setTop (mkF m 58 #[.val (.int p0), .val (.int p1), .val (.int p2), .val (.int p3), .val (.int p4), .val (.ref b37), .val (.int v40), .val (.int v42), .val (.int v46)] [(.int p4), (.int v46)])) _
    refine XS.iconst X45.here hx rfl (hb hby at_58) ?_
    exact k
  refine Go.join (P := fun (v48 : Int32) => v48 = (if p4 = (2 : Int32) then (1 : Int32) else (0 : Int32))) (F := fun (v48 : Int32) => T45.setTop (mkF m 67 #[.val (.int p0), .val (.int p1), .val (.int p2), .val (.int p3), .val (.int p4), .val (.ref b37), .val (.int v40), .val (.int v42), .val (.int v46)] [(.int v48), (.int v46)])) (fun J49 => ?_) (fun v48 hv_v48 => ?_)
  · by_cases hc47 : p4 = (2 : Int32)
    · refine Go.st (U' := T45.setTop (mkF m 67 #[.val (.int p0), .val (.int p1), .val (.int p2), .val (.int p3), .val (.int p4), .val (.ref b37), .val (.int v40), .val (.int v42), .val (.int v46)] [(.int (1 : Int32)), (.int v46)])) (fun t k => ?_) ?_
      · show Steps p.tables e below (T45.setTop (mkF m 59 #[.val (.int p0), .val (.int p1), .val (.int p2), .val (.int p3), .val (.int p4), .val (.ref b37), .val (.int v40), .val (.int v42), .val (.int v46)] [(.int (2 : Int32)), (.int p4), (.int v46)])) _
        refine XS.icmpNo X45.here hx rfl (hb hby at_59) rfl (teq hc47).2 ?_
        show Steps p.tables e below (T45.setTop (mkF m 62 #[.val (.int p0), .val (.int p1), .val (.int p2), .val (.int p3), .val (.int p4), .val (.ref b37), .val (.int v40), .val (.int v42), .val (.int v46)] [(.int v46)])) _
        refine XS.iconst X45.here hx rfl (hb hby at_62) ?_
        show Steps p.tables e below (T45.setTop (mkF m 63 #[.val (.int p0), .val (.int p1), .val (.int p2), .val (.int p3), .val (.int p4), .val (.ref b37), .val (.int v40), .val (.int v42), .val (.int v46)] [(.int (1 : Int32)), (.int v46)])) _
        refine XS.goto X45.here hx rfl (pc0 := 63) (pc' := 67) rfl (hb hby at_63) (by decide) (by decide) ?_
        exact k
      exact J49 _ (by first | rfl | simp only [if_pos hc47])
    · refine Go.st (U' := T45.setTop (mkF m 67 #[.val (.int p0), .val (.int p1), .val (.int p2), .val (.int p3), .val (.int p4), .val (.ref b37), .val (.int v40), .val (.int v42), .val (.int v46)] [(.int (0 : Int32)), (.int v46)])) (fun t k => ?_) ?_
      · show Steps p.tables e below (T45.setTop (mkF m 59 #[.val (.int p0), .val (.int p1), .val (.int p2), .val (.int p3), .val (.int p4), .val (.ref b37), .val (.int v40), .val (.int v42), .val (.int v46)] [(.int (2 : Int32)), (.int p4), (.int v46)])) _
        refine XS.icmpYes X45.here hx rfl (pc0 := 59) (pc' := 66) rfl (hb hby at_59) rfl (feq hc47).2 (by decide) (by decide) ?_
        show Steps p.tables e below (T45.setTop (mkF m 66 #[.val (.int p0), .val (.int p1), .val (.int p2), .val (.int p3), .val (.int p4), .val (.ref b37), .val (.int v40), .val (.int v42), .val (.int v46)] [(.int v46)])) _
        refine XS.iconst X45.here hx rfl (hb hby at_66) ?_
        exact k
      exact J49 _ (by first | rfl | simp only [if_neg hc47])
  refine Go.st (U' := T45.setTop (mkF m 74 #[.val (.int p0), .val (.int p1), .val (.int p2), .val (.int p3), .val (.int p4), .val (.ref b37), .val (.int v40), .val (.int v42), .val (.int v46)] [(.ref b37)])) (fun t k => ?_) ?_
  · show Steps p.tables e below (T45.setTop (mkF m 67 #[.val (.int p0), .val (.int p1), .val (.int p2), .val (.int p3), .val (.int p4), .val (.ref b37), .val (.int v40), .val (.int v42), .val (.int v46)] [(.int v48), (.int v46)])) _
    refine XS.icmpYes X45.here hx rfl (pc0 := 67) (pc' := 72) rfl (hb hby at_67) rfl (teq ((by subst hv_v46 hv_v48; exact own_prod p4) : v46 = v48)).1 (by decide) (by decide) ?_
    show Steps p.tables e below (T45.setTop (mkF m 72 #[.val (.int p0), .val (.int p1), .val (.int p2), .val (.int p3), .val (.int p4), .val (.ref b37), .val (.int v40), .val (.int v42), .val (.int v46)] [])) _
    refine XS.aload X45.here hx rfl (hb hby at_72) rfl rfl ?_
    exact k
  obtain ⟨cq50, kq50, q50a, q50b, q50c⟩ := isOf hZ e45 P38_0_44
  obtain ⟨_, _, ⟨T50, L50, k50, n50⟩, -, X50, ⟨Lc50, hQ50, l50, y50, z50⟩, st50⟩ := X45.virtualBack hx (y := own_y4) (z := own_y4) hown (mvT hZ (own_w hw 36 rfl)) (mvT hZ (own_w hw 37 rfl)) (notFace_of_selects (args := #[]) (mvT hZ (own_w hw 39 rfl))) (mvT hZ (own_w hw 39 rfl)) (mvT hZ (own_w hw 38 rfl)) (by decide) (backOf (W := 0) (rm5 l Z a0 hw [] b37 p0 p1 p2 p3 p4 T44.heap n0 sz44 P38_0_44 P38_1_44 P38_2_44 P38_3_44 P38_4_44 P38_5_44) hZ (own_w hw 40 rfl) (own_w hw 2 rfl) (by decide) (by decide)) q50a q50c (g := (mkF m 74 #[.val (.int p0), .val (.int p1), .val (.int p2), .val (.int p3), .val (.int p4), .val (.ref b37), .val (.int v40), .val (.int v42), .val (.int v46)] [(.ref b37)])) rfl (by rw [hml]; rfl) (Steps.refl _) (argsL := []) (rest := []) (lenOf pd_3 rfl) rfl (by show 2 * 0 + _ ≤ _; exact Nat.le_of_eq rfl) (hb hby at_74) (fun _ _ => ⟨rfl, e45, (by decide : 2 + 1 ≤ _), (by decide : 10 + 5 ≤ _)⟩)
  dsimp only [Pt.U, Pt.locs, Pt.cells, Pt.slots] at X50 l50 y50 z50 st50 hQ50
  subst l50 y50 z50
  obtain ⟨b50, rfl, N50q, K50, ge_b50, sb_b50, P50_0, P50_1⟩ := hQ50
  have ne_b37_b50 : b37 ≠ b50 := Nat.ne_of_lt (Nat.lt_of_lt_of_le P38_0_44.lt sb_b50)
  have ne_b44_b50 : b44 ≠ b50 := Nat.ne_of_lt (Nat.lt_of_lt_of_le P44_0.lt sb_b50)
  have P38_0_50 := P38_0_44.keep K50
  have P38_1_50 := P38_1_44.keep K50 nin0
  have P38_2_50 := P38_2_44.keep K50 nin0
  have P38_3_50 := P38_3_44.keep K50 nin0
  have P38_4_50 := P38_4_44.keep K50 nin0
  have P38_5_50 := P38_5_44.keep K50 nin0
  have P44_0_50 := P44_0.keep K50
  have P44_1_50 := P44_1.keep K50 nin0
  have sz50 : n0 ≤ T50.heap.size := Nat.le_trans sz44 K50.1
  have N50 := Fr.app N45 N50q
  refine Go.tr (U' := T50.setTop (mkF m 77 #[.val (.int p0), .val (.int p1), .val (.int p2), .val (.int p3), .val (.int p4), .val (.ref b37), .val (.int v40), .val (.int v42), .val (.int v46)] [(.ref b50)])) st50 ?_
  obtain ⟨cq51, kq51, q51a, q51b, q51c⟩ := isOf hZ rfl P50_0
  obtain ⟨_, _, ⟨T51, L51, k51, n51⟩, -, X51, ⟨Lc51, hQ51, l51, y51, z51⟩, st51⟩ := X50.virtualBack hx (y := own_y2) (z := own_y2) hown (mvT hZ (own_w hw 24 rfl)) (mvT hZ (own_w hw 25 rfl)) (notFace_of_selects (args := #[]) (mvT hZ (own_w hw 27 rfl))) (mvT hZ (own_w hw 27 rfl)) (mvT hZ (own_w hw 26 rfl)) (by decide) (backOf (W := 0) (rm3 l Z a0 hw [] b50 p4 T50.heap n0 sz50 P50_1) hZ (own_w hw 28 rfl) (own_w hw 2 rfl) (by decide) (by decide)) q51a q51c (g := (mkF m 77 #[.val (.int p0), .val (.int p1), .val (.int p2), .val (.int p3), .val (.int p4), .val (.ref b37), .val (.int v40), .val (.int v42), .val (.int v46)] [(.ref b50)])) rfl (by rw [hml]; rfl) (Steps.refl _) (argsL := []) (rest := []) (lenOf pd_2 rfl) rfl (by show 2 * 0 + _ ≤ _; exact Nat.le_of_eq rfl) (hb hby at_77) (fun _ _ => ⟨rfl, rfl, (by decide : 3 + 0 ≤ _), (by decide : 15 + 0 ≤ _)⟩)
  dsimp only [Pt.U, Pt.locs, Pt.cells, Pt.slots] at X51 l51 y51 z51 st51 hQ51
  subst l51 y51 z51
  obtain ⟨rfl, N51q, e51⟩ := hQ51
  have N51 := Fr.app N50 N51q
  refine Go.tr (U' := T51.setTop (mkF m 80 #[.val (.int p0), .val (.int p1), .val (.int p2), .val (.int p3), .val (.int p4), .val (.ref b37), .val (.int v40), .val (.int v42), .val (.int v46)] [(.int (f3 p4))])) st51 ?_
  refine Go.st (U' := T51.setTop (mkF m 89 #[.val (.int p0), .val (.int p1), .val (.int p2), .val (.int p3), .val (.int p4), .val (.ref b37), .val (.int v40), .val (.int v42), .val (.int v46)] [(.ref b37)])) (fun t k => ?_) ?_
  · show Steps p.tables e below (T51.setTop (mkF m 80 #[.val (.int p0), .val (.int p1), .val (.int p2), .val (.int p3), .val (.int p4), .val (.ref b37), .val (.int v40), .val (.int v42), .val (.int v46)] [(.int (f3 p4))])) _
    refine XS.iload X51.here hx rfl (hb hby at_80) rfl ?_
    show Steps p.tables e below (T51.setTop (mkF m 82 #[.val (.int p0), .val (.int p1), .val (.int p2), .val (.int p3), .val (.int p4), .val (.ref b37), .val (.int v40), .val (.int v42), .val (.int v46)] [(.int v42), (.int (f3 p4))])) _
    refine XS.icmpYes X51.here hx rfl (pc0 := 82) (pc' := 87) rfl (hb hby at_82) rfl (teq ((by subst hv_v42; rfl) : (f3 p4) = v42)).1 (by decide) (by decide) ?_
    show Steps p.tables e below (T51.setTop (mkF m 87 #[.val (.int p0), .val (.int p1), .val (.int p2), .val (.int p3), .val (.int p4), .val (.ref b37), .val (.int v40), .val (.int v42), .val (.int v46)] [])) _
    refine XS.aload X51.here hx rfl (hb hby at_87) rfl rfl ?_
    exact k
  obtain ⟨cq52, kq52, q52a, q52b, q52c⟩ := isOf hZ e51 P38_0_50
  obtain ⟨_, _, ⟨T52, L52, k52, n52⟩, -, X52, ⟨Lc52, hQ52, l52, y52, z52⟩, st52⟩ := X51.virtualBack hx (y := own_y5) (z := own_y5) hown (mvT hZ (own_w hw 41 rfl)) (mvT hZ (own_w hw 42 rfl)) (notFace_of_selects (args := #[]) (mvT hZ (own_w hw 44 rfl))) (mvT hZ (own_w hw 44 rfl)) (mvT hZ (own_w hw 43 rfl)) (by decide) (backOf (W := 0) (rm6 l Z a0 hw [] b37 p0 p1 p2 p3 p4 T50.heap n0 sz50 P38_0_50 P38_1_50 P38_2_50 P38_3_50 P38_4_50 P38_5_50) hZ (own_w hw 45 rfl) (own_w hw 2 rfl) (by decide) (by decide)) q52a q52c (g := (mkF m 89 #[.val (.int p0), .val (.int p1), .val (.int p2), .val (.int p3), .val (.int p4), .val (.ref b37), .val (.int v40), .val (.int v42), .val (.int v46)] [(.ref b37)])) rfl (by rw [hml]; rfl) (Steps.refl _) (argsL := []) (rest := []) (lenOf pd_3 rfl) rfl (by show 2 * 0 + _ ≤ _; exact Nat.le_of_eq rfl) (hb hby at_89) (fun _ _ => ⟨rfl, e51, (by decide : 3 + 1 ≤ _), (by decide : 15 + 5 ≤ _)⟩)
  dsimp only [Pt.U, Pt.locs, Pt.cells, Pt.slots] at X52 l52 y52 z52 st52 hQ52
  subst l52 y52 z52
  obtain ⟨b52, rfl, N52q, K52, ge_b52, sb_b52, P52_0, P52_1⟩ := hQ52
  have ne_b37_b52 : b37 ≠ b52 := Nat.ne_of_lt (Nat.lt_of_lt_of_le P38_0_50.lt sb_b52)
  have ne_b44_b52 : b44 ≠ b52 := Nat.ne_of_lt (Nat.lt_of_lt_of_le P44_0_50.lt sb_b52)
  have ne_b50_b52 : b50 ≠ b52 := Nat.ne_of_lt (Nat.lt_of_lt_of_le P50_0.lt sb_b52)
  have P38_0_52 := P38_0_50.keep K52
  have P38_1_52 := P38_1_50.keep K52 nin0
  have P38_2_52 := P38_2_50.keep K52 nin0
  have P38_3_52 := P38_3_50.keep K52 nin0
  have P38_4_52 := P38_4_50.keep K52 nin0
  have P38_5_52 := P38_5_50.keep K52 nin0
  have P44_0_52 := P44_0_50.keep K52
  have P44_1_52 := P44_1_50.keep K52 nin0
  have P50_0_52 := P50_0.keep K52
  have P50_1_52 := P50_1.keep K52 nin0
  have sz52 : n0 ≤ T52.heap.size := Nat.le_trans sz50 K52.1
  have N52 := Fr.app N51 N52q
  refine Go.tr (U' := T52.setTop (mkF m 92 #[.val (.int p0), .val (.int p1), .val (.int p2), .val (.int p3), .val (.int p4), .val (.ref b37), .val (.int v40), .val (.int v42), .val (.int v46)] [(.ref b52)])) st52 ?_
  obtain ⟨cq53, kq53, q53a, q53b, q53c⟩ := isOf hZ rfl P52_0
  obtain ⟨_, _, ⟨T53, L53, k53, n53⟩, -, X53, ⟨Lc53, hQ53, l53, y53, z53⟩, st53⟩ := X52.virtualBack hx (y := own_y2) (z := own_y2) hown (mvT hZ (own_w hw 24 rfl)) (mvT hZ (own_w hw 25 rfl)) (notFace_of_selects (args := #[]) (mvT hZ (own_w hw 27 rfl))) (mvT hZ (own_w hw 27 rfl)) (mvT hZ (own_w hw 26 rfl)) (by decide) (backOf (W := 0) (rm3 l Z a0 hw [] b52 p4 T52.heap n0 sz52 P52_1) hZ (own_w hw 28 rfl) (own_w hw 2 rfl) (by decide) (by decide)) q53a q53c (g := (mkF m 92 #[.val (.int p0), .val (.int p1), .val (.int p2), .val (.int p3), .val (.int p4), .val (.ref b37), .val (.int v40), .val (.int v42), .val (.int v46)] [(.ref b52)])) rfl (by rw [hml]; rfl) (Steps.refl _) (argsL := []) (rest := []) (lenOf pd_2 rfl) rfl (by show 2 * 0 + _ ≤ _; exact Nat.le_of_eq rfl) (hb hby at_92) (fun _ _ => ⟨rfl, rfl, (by decide : 4 + 0 ≤ _), (by decide : 20 + 0 ≤ _)⟩)
  dsimp only [Pt.U, Pt.locs, Pt.cells, Pt.slots] at X53 l53 y53 z53 st53 hQ53
  subst l53 y53 z53
  obtain ⟨rfl, N53q, e53⟩ := hQ53
  have N53 := Fr.app N52 N53q
  refine Go.tr (U' := T53.setTop (mkF m 95 #[.val (.int p0), .val (.int p1), .val (.int p2), .val (.int p3), .val (.int p4), .val (.ref b37), .val (.int v40), .val (.int v42), .val (.int v46)] [(.int (f3 p4))])) st53 ?_
  refine Go.st (U' := T53.setTop (mkF m 104 #[.val (.int p0), .val (.int p1), .val (.int p2), .val (.int p3), .val (.int p4), .val (.ref b37), .val (.int v40), .val (.int v42), .val (.int v46)] [(.ref b37)])) (fun t k => ?_) ?_
  · show Steps p.tables e below (T53.setTop (mkF m 95 #[.val (.int p0), .val (.int p1), .val (.int p2), .val (.int p3), .val (.int p4), .val (.ref b37), .val (.int v40), .val (.int v42), .val (.int v46)] [(.int (f3 p4))])) _
    refine XS.iload X53.here hx rfl (hb hby at_95) rfl ?_
    show Steps p.tables e below (T53.setTop (mkF m 97 #[.val (.int p0), .val (.int p1), .val (.int p2), .val (.int p3), .val (.int p4), .val (.ref b37), .val (.int v40), .val (.int v42), .val (.int v46)] [(.int v42), (.int (f3 p4))])) _
    refine XS.icmpYes X53.here hx rfl (pc0 := 97) (pc' := 102) rfl (hb hby at_97) rfl (teq ((by subst hv_v42; rfl) : (f3 p4) = v42)).1 (by decide) (by decide) ?_
    show Steps p.tables e below (T53.setTop (mkF m 102 #[.val (.int p0), .val (.int p1), .val (.int p2), .val (.int p3), .val (.int p4), .val (.ref b37), .val (.int v40), .val (.int v42), .val (.int v46)] [])) _
    refine XS.aload X53.here hx rfl (hb hby at_102) rfl rfl ?_
    exact k
  obtain ⟨cq54, kq54, q54a, q54b, q54c⟩ := isOf hZ e53 P38_0_52
  obtain ⟨_, _, ⟨T54, L54, k54, n54⟩, -, X54, ⟨Lc54, hQ54, l54, y54, z54⟩, st54⟩ := X53.virtualBack hx (y := own_y6) (z := own_y6) hown (mvT hZ (own_w hw 46 rfl)) (mvT hZ (own_w hw 47 rfl)) (notFace_of_selects (args := #[]) (mvT hZ (own_w hw 49 rfl))) (mvT hZ (own_w hw 49 rfl)) (mvT hZ (own_w hw 48 rfl)) (by decide) (backOf (W := 0) (rm7 l Z a0 hw [] b37 p0 p1 p2 p3 p4 T52.heap n0 sz52 P38_0_52 P38_1_52 P38_2_52 P38_3_52 P38_4_52 P38_5_52) hZ (own_w hw 50 rfl) (own_w hw 2 rfl) (by decide) (by decide)) q54a q54c (g := (mkF m 104 #[.val (.int p0), .val (.int p1), .val (.int p2), .val (.int p3), .val (.int p4), .val (.ref b37), .val (.int v40), .val (.int v42), .val (.int v46)] [(.ref b37)])) rfl (by rw [hml]; rfl) (Steps.refl _) (argsL := []) (rest := []) (lenOf pd_3 rfl) rfl (by show 2 * 0 + _ ≤ _; exact Nat.le_of_eq rfl) (hb hby at_104) (fun _ _ => ⟨rfl, e53, (by decide : 4 + 1 ≤ _), (by decide : 20 + 5 ≤ _)⟩)
  dsimp only [Pt.U, Pt.locs, Pt.cells, Pt.slots] at X54 l54 y54 z54 st54 hQ54
  subst l54 y54 z54
  obtain ⟨b54, rfl, N54q, K54, ge_b54, sb_b54, P54_0, P54_1⟩ := hQ54
  have ne_b37_b54 : b37 ≠ b54 := Nat.ne_of_lt (Nat.lt_of_lt_of_le P38_0_52.lt sb_b54)
  have ne_b44_b54 : b44 ≠ b54 := Nat.ne_of_lt (Nat.lt_of_lt_of_le P44_0_52.lt sb_b54)
  have ne_b50_b54 : b50 ≠ b54 := Nat.ne_of_lt (Nat.lt_of_lt_of_le P50_0_52.lt sb_b54)
  have ne_b52_b54 : b52 ≠ b54 := Nat.ne_of_lt (Nat.lt_of_lt_of_le P52_0.lt sb_b54)
  have P38_0_54 := P38_0_52.keep K54
  have P38_1_54 := P38_1_52.keep K54 nin0
  have P38_2_54 := P38_2_52.keep K54 nin0
  have P38_3_54 := P38_3_52.keep K54 nin0
  have P38_4_54 := P38_4_52.keep K54 nin0
  have P38_5_54 := P38_5_52.keep K54 nin0
  have P44_0_54 := P44_0_52.keep K54
  have P44_1_54 := P44_1_52.keep K54 nin0
  have P50_0_54 := P50_0_52.keep K54
  have P50_1_54 := P50_1_52.keep K54 nin0
  have P52_0_54 := P52_0.keep K54
  have P52_1_54 := P52_1.keep K54 nin0
  have sz54 : n0 ≤ T54.heap.size := Nat.le_trans sz52 K54.1
  have N54 := Fr.app N53 N54q
  refine Go.tr (U' := T54.setTop (mkF m 107 #[.val (.int p0), .val (.int p1), .val (.int p2), .val (.int p3), .val (.int p4), .val (.ref b37), .val (.int v40), .val (.int v42), .val (.int v46)] [(.ref b54)])) st54 ?_
  obtain ⟨cq55, kq55, q55a, q55b, q55c⟩ := isOf hZ rfl P54_0
  obtain ⟨_, _, ⟨T55, L55, k55, n55⟩, -, X55, ⟨Lc55, hQ55, l55, y55, z55⟩, st55⟩ := X54.virtualBack hx (y := own_y2) (z := own_y2) hown (mvT hZ (own_w hw 24 rfl)) (mvT hZ (own_w hw 25 rfl)) (notFace_of_selects (args := #[]) (mvT hZ (own_w hw 27 rfl))) (mvT hZ (own_w hw 27 rfl)) (mvT hZ (own_w hw 26 rfl)) (by decide) (backOf (W := 0) (rm3 l Z a0 hw [] b54 p4 T54.heap n0 sz54 P54_1) hZ (own_w hw 28 rfl) (own_w hw 2 rfl) (by decide) (by decide)) q55a q55c (g := (mkF m 107 #[.val (.int p0), .val (.int p1), .val (.int p2), .val (.int p3), .val (.int p4), .val (.ref b37), .val (.int v40), .val (.int v42), .val (.int v46)] [(.ref b54)])) rfl (by rw [hml]; rfl) (Steps.refl _) (argsL := []) (rest := []) (lenOf pd_2 rfl) rfl (by show 2 * 0 + _ ≤ _; exact Nat.le_of_eq rfl) (hb hby at_107) (fun _ _ => ⟨rfl, rfl, (by decide : 5 + 0 ≤ _), (by decide : 25 + 0 ≤ _)⟩)
  dsimp only [Pt.U, Pt.locs, Pt.cells, Pt.slots] at X55 l55 y55 z55 st55 hQ55
  subst l55 y55 z55
  obtain ⟨rfl, N55q, e55⟩ := hQ55
  have N55 := Fr.app N54 N55q
  refine Go.tr (U' := T55.setTop (mkF m 110 #[.val (.int p0), .val (.int p1), .val (.int p2), .val (.int p3), .val (.int p4), .val (.ref b37), .val (.int v40), .val (.int v42), .val (.int v46)] [(.int (f3 p4))])) st55 ?_
  refine Go.st (U' := T55.setTop (mkF m 118 #[.val (.int p0), .val (.int p1), .val (.int p2), .val (.int p3), .val (.int p4), .val (.ref b37), .val (.int v40), .val (.int v42), .val (.int v46)] [(.int (1 : Int32))])) (fun t k => ?_) ?_
  · show Steps p.tables e below (T55.setTop (mkF m 110 #[.val (.int p0), .val (.int p1), .val (.int p2), .val (.int p3), .val (.int p4), .val (.ref b37), .val (.int v40), .val (.int v42), .val (.int v46)] [(.int (f3 p4))])) _
    refine XS.iload X55.here hx rfl (hb hby at_110) rfl ?_
    show Steps p.tables e below (T55.setTop (mkF m 112 #[.val (.int p0), .val (.int p1), .val (.int p2), .val (.int p3), .val (.int p4), .val (.ref b37), .val (.int v40), .val (.int v42), .val (.int v46)] [(.int v42), (.int (f3 p4))])) _
    refine XS.icmpYes X55.here hx rfl (pc0 := 112) (pc' := 117) rfl (hb hby at_112) rfl (teq ((by subst hv_v42; rfl) : (f3 p4) = v42)).1 (by decide) (by decide) ?_
    show Steps p.tables e below (T55.setTop (mkF m 117 #[.val (.int p0), .val (.int p1), .val (.int p2), .val (.int p3), .val (.int p4), .val (.ref b37), .val (.int v40), .val (.int v42), .val (.int v46)] [])) _
    refine XS.iconst X55.here hx rfl (hb hby at_117) ?_
    exact k
  refine own_ret (Q := Q0 Z p0 p1 p2 p3 p4 h0 n0) (v := some (.int (1 : Int32))) X55 hlk (fun h => by rw [hrt] at h; cases h) (by decide) (by decide) ?_ (fun fs hr => retN X55 hx (t := .boolean) hrt (by simp) (hb hby at_118) hr)
  rw [e55]
  exact ⟨rfl, N55⟩
set_option maxRecDepth 65536 in
set_option maxHeartbeats 40000000 in
theorem comes_1 {Post : Tables → Env → Array Value → State → Outcome → State → Prop} (hpost : ∀ tb e args s v u, (limb_1_1.after args s (.returned v) u = true ∧ limb_1_2.after args s (.returned v) u = true ∧ True) → FrameEnd s (.returned v) u (Jvm.fieldLocs frame_1_writes args s ++ Jvm.arrayLocs frame_1_arrays args s ++ Jvm.staticLocs frame_1_statics s) 24 128 → Post tb e args s (.returned v) u) :
    ArmFor flags0 classFile x code maxLocals ret World_1 tables_1 room_1 Calls_1 rest_1 Pre_1 Post := by
  intro l hfl _ _ p e ha hc hk s m args below hf hA hF happ hP
  obtain ⟨hcalls, hrest, hpre⟩ := hP
  obtain ⟨-, -, -, hnamed, -, -, -, hat⟩ := (Spec.applies_iff hf).mp happ
  obtain ⟨hg, hn⟩ := and_e (Cond.before_iff.mp (show (Jvm.Cond.and given_1 narrow_1).before args s = true from hpre))
  obtain ⟨gg1, gg2⟩ := and_e hg
  obtain ⟨gg3, gg4⟩ := and_e gg2
  obtain ⟨gg5, gg6⟩ := and_e gg4
  obtain ⟨gg7, gg8⟩ := and_e gg6
  obtain ⟨gg9, gg10⟩ := and_e gg8
  obtain ⟨w0, w1, w2, w3, w4, rfl⟩ : ∃ w0 w1 w2 w3 w4 : Value, args = #[w0, w1, w2, w3, w4] := by
    have hs : args.size = 5 := by simpa [Cond.value, given_1] using gg1
    obtain ⟨L⟩ := args
    match L, hs with
    | [w0, w1, w2, w3, w4], _ => exact ⟨w0, w1, w2, w3, w4, rfl⟩
  have hw := fun d (hd : d ∈ tables_1) => atoms_spec (ws := Jvm.Cond.code x code maxLocals ret :: tables_1) hat d (List.mem_cons_of_mem _ hd)
  obtain ⟨i0, ei0⟩ := is_v gg3
  obtain rfl : w0 = (.int i0) := Option.some.inj ei0
  obtain ⟨i1, ei1⟩ := is_v gg5
  obtain rfl : w1 = (.int i1) := Option.some.inj ei1
  obtain ⟨i2, ei2⟩ := is_v gg7
  obtain rfl : w2 = (.int i2) := Option.some.inj ei2
  obtain ⟨i3, ei3⟩ := is_v gg9
  obtain rfl : w3 = (.int i3) := Option.some.inj ei3
  obtain ⟨i4, ei4⟩ := is_v gg10
  obtain rfl : w4 = (.int i4) := Option.some.inj ei4
  obtain ⟨n, o, h1, h2, h3, _, L, rfl, ⟨rfl, N⟩, hq⟩ := rm0 l s _ hw tables_1 i0 i1 i2 i3 i4 s.heap s.heap.size (Nat.le_refl _)  p e ha hc hk s m _ below hf ((Spec.applies_iff_loose hf).mp happ).1 ⟨rfl, State.Warmed39.refl s, rfl⟩ trivial
  refine ⟨n, _, h1, h2, h3, hpost _ _ _ _ _ _ ⟨Cond.after_iff.mpr rfl, Cond.after_iff.mpr (eq_i res_at (Term.int_eval (1)) rfl), trivial⟩ ⟨hq.1, hq.2.1, (hq.2.2.sift fun y hy => Or.inr (N y hy)).mono (by decide) (by decide)⟩⟩
theorem main_1_1 : Claimed_1_1 := comes_1 fun _ _ _ _ _ _ h hF => ⟨h.1, hF⟩
theorem main_1_2 : Claimed_1_2 := comes_1 fun _ _ _ _ _ _ h hF => ⟨h.2.1, hF⟩
end Jvm.Pilot.@@N@@
namespace Jvm.Pilot.@@N@@
open Jvm Jvm.ClassFile Sem Op Lib Jvm.Free Jvm.Stand Jvm.Pilot.@@N@@.Jvm.D
/-! MADE BY PROGRAM (witnessworld.py) out of the Statement's table words and the real class files: 8 classes; the members and pool entries that the words name. The judged class is class 1, her method 1. -/
namespace start1
open Jvm.ClassFile
def u (s : String) : CpInfo := .utf8 (stringToUtf16 s)
/-- a pool by its gaps: so many unusable entries, then the entry; so many at the end -/
def gap : Nat → List CpInfo → List CpInfo
  | 0, r => r
  | n + 1, r => .unusable :: gap n r
def poolList (es : List (Nat × CpInfo)) (last : Nat) : List CpInfo := es.foldr (fun e r => gap e.1 (e.2 :: r)) (gap last [])
def pool (es : List (Nat × CpInfo)) (last : Nat) : Array CpInfo := ⟨poolList es last⟩
def fileOf (pool : Array CpInfo) (this : Nat) (attrs : Array Attribute := #[]) (ms : Array MethodInfo := #[]) (fl : Nat := 33) (sup : Nat := 0) (ifs : Array Nat := #[]) (fds : Array FieldInfo := #[]) : ClassFile where
  minorVersion := 0
  majorVersion := 65
  constantPool := pool
  accessFlags := fl
  thisClass := this
  superClass := sup
  interfaces := ifs
  fields := fds
  methods := ms
  attributes := attrs
def plain (name : String) (sup : Option ClassId) : Class where
  name := name
  kind := .ordinary
  loader := none
  accessFlags := 33
  super := sup
  interfaces := #[]
  cf := none
  fields := #[]
  methods := #[]
  instanceTypes := #[]
  staticTypes := #[]
  resolved := #[]
  callSites := []
  init := .initialized
  statics := none
  mirror := none

def pool0 : Array CpInfo := pool [(5, u "<init>"), (0, u "()V"), (1, .class_ 10), (1, u "java/lang/Object")] 113

def k0c0 : Code := { maxStack := 0, maxLocals := 1, code := object_method_1_code, exceptionTable := #[], attributes := #[] }
def k0m0 : Method := { name := "<init>", desc := "()V", sig := { parameters := [], returnType := none }, accessFlags := 1, code := some k0c0 }
/-- java/lang/Object -/
def k0 : Class := { plain "java/lang/Object" none with
  accessFlags := 33
  interfaces := #[]
  cf := some (fileOf pool0 8 #[] #[{ accessFlags := 1, nameIndex := 5, descriptorIndex := 6, attributes := #[] }] 33 0 #[] #[])
  fields := #[]
  methods := #[k0m0]
  instanceTypes := #[]
  staticTypes := #[]
  resolved := Array.replicate 124 none
  statics := none }

def pool1 : Array CpInfo := pool [(2, .class_ 4), (1, u "java/lang/Object"), (0, u "<init>"), (0, u "()V"), (0, .class_ 8), (0, u "com/example/tidewright/tidewright/undersea/play/Progress"), (0, .methodref 7 10), (0, .nameAndType 5 11), (0, u "(IIIII)V"), (0, .methodref 7 13), (0, .nameAndType 14 15), (0, u "over"), (0, u "()Z"), (0, .methodref 7 17), (0, .nameAndType 18 19), (0, u "produced"), (0, u "()Lcom/example/tidewright/tidewright/undersea/play/Progress;"), (0, .methodref 7 21), (0, .nameAndType 22 19), (0, u "turnTaken"), (0, .methodref 7 24), (0, .nameAndType 25 19), (0, u "nextRound"), (0, .methodref 7 27), (0, .nameAndType 28 19), (0, u "nextEra"), (0, .class_ 30), (0, u "com/example/tidewright/tidewright/undersea/play/ProgressOverPinLaw"), (2, u "law"), (0, u "(IIIII)Z")] 3

def k1m0 : Method := { name := "<init>", desc := "()V", sig := { parameters := [], returnType := none }, accessFlags := 2, code := none }
def k1c1 : Code := { maxStack := 7, maxLocals := 9, code := code, exceptionTable := #[], attributes := #[] }
def k1m1 : Method := { name := "law", desc := "(IIIII)Z", sig := { parameters := [.int, .int, .int, .int, .int], returnType := some .boolean }, accessFlags := 9, code := some k1c1 }
/-- com/example/tidewright/tidewright/undersea/play/ProgressOverPinLaw -/
def k1 : Class := { plain "com/example/tidewright/tidewright/undersea/play/ProgressOverPinLaw" (some 0) with
  accessFlags := 49
  interfaces := #[]
  cf := some (fileOf pool1 29 #[] #[{ accessFlags := 2, nameIndex := 5, descriptorIndex := 6, attributes := #[] }, { accessFlags := 9, nameIndex := 33, descriptorIndex := 34, attributes := #[] }] 49 2 #[] #[])
  fields := #[]
  methods := #[k1m0, k1m1]
  instanceTypes := #[]
  staticTypes := #[]
  resolved := Array.replicate 38 none
  statics := none }

def pool2 : Array CpInfo := pool [(1, .methodref 2 3), (0, .class_ 4), (0, .nameAndType 5 6), (0, u "java/lang/Object"), (0, u "<init>"), (0, u "()V"), (0, .class_ 8), (0, u "java/lang/Record")] 13

def k2c0 : Code := { maxStack := 1, maxLocals := 1, code := jdk_30_method_1_code, exceptionTable := #[], attributes := #[] }
def k2m0 : Method := { name := "<init>", desc := "()V", sig := { parameters := [], returnType := none }, accessFlags := 4, code := some k2c0 }
/-- java/lang/Record -/
def k2 : Class := { plain "java/lang/Record" (some 0) with
  accessFlags := 1057
  interfaces := #[]
  cf := some (fileOf pool2 7 #[] #[{ accessFlags := 4, nameIndex := 5, descriptorIndex := 6, attributes := #[] }] 1057 2 #[] #[])
  fields := #[]
  methods := #[k2m0]
  instanceTypes := #[]
  staticTypes := #[]
  resolved := Array.replicate 22 none
  statics := none }

def pool3 : Array CpInfo := pool [(1, .methodref 2 3), (0, .class_ 4), (0, .nameAndType 5 6), (0, u "java/lang/Record"), (0, u "<init>"), (0, u "()V"), (0, .fieldref 8 9), (0, .class_ 10), (0, .nameAndType 11 12), (0, u "com/example/tidewright/tidewright/undersea/play/Progress"), (0, u "round"), (0, u "I"), (0, .fieldref 8 14), (0, .nameAndType 15 12), (0, u "era"), (0, .fieldref 8 17), (0, .nameAndType 18 12), (0, u "turnsTaken"), (0, .fieldref 8 20), (0, .nameAndType 21 12), (0, u "turns"), (0, .fieldref 8 23), (0, .nameAndType 24 12), (0, u "productions"), (0, .methodref 8 26), (0, .nameAndType 5 27), (0, u "(IIIII)V"), (21, u "turnTaken"), (0, u "()Lcom/example/tidewright/tidewright/undersea/play/Progress;"), (0, u "produced"), (0, u "nextEra"), (0, u "nextRound"), (1, u "()Z"), (1, u "over")] 27

def k3c0 : Code := { maxStack := 2, maxLocals := 6, code := prog_33_method_1_code, exceptionTable := #[], attributes := #[] }
def k3m0 : Method := { name := "<init>", desc := "(IIIII)V", sig := { parameters := [.int, .int, .int, .int, .int], returnType := none }, accessFlags := 0, code := some k3c0 }
def k3c1 : Code := { maxStack := 7, maxLocals := 1, code := prog_33_method_2_code, exceptionTable := #[], attributes := #[] }
def k3m1 : Method := { name := "turnTaken", desc := "()Lcom/example/tidewright/tidewright/undersea/play/Progress;", sig := { parameters := [], returnType := some (.object "com/example/tidewright/tidewright/undersea/play/Progress") }, accessFlags := 0, code := some k3c1 }
def k3c2 : Code := { maxStack := 8, maxLocals := 1, code := prog_33_method_3_code, exceptionTable := #[], attributes := #[] }
def k3m2 : Method := { name := "produced", desc := "()Lcom/example/tidewright/tidewright/undersea/play/Progress;", sig := { parameters := [], returnType := some (.object "com/example/tidewright/tidewright/undersea/play/Progress") }, accessFlags := 0, code := some k3c2 }
def k3c3 : Code := { maxStack := 7, maxLocals := 1, code := prog_33_method_4_code, exceptionTable := #[], attributes := #[] }
def k3m3 : Method := { name := "nextEra", desc := "()Lcom/example/tidewright/tidewright/undersea/play/Progress;", sig := { parameters := [], returnType := some (.object "com/example/tidewright/tidewright/undersea/play/Progress") }, accessFlags := 0, code := some k3c3 }
def k3c4 : Code := { maxStack := 7, maxLocals := 1, code := prog_33_method_5_code, exceptionTable := #[], attributes := #[] }
def k3m4 : Method := { name := "nextRound", desc := "()Lcom/example/tidewright/tidewright/undersea/play/Progress;", sig := { parameters := [], returnType := some (.object "com/example/tidewright/tidewright/undersea/play/Progress") }, accessFlags := 0, code := some k3c4 }
def k3c5 : Code := { maxStack := 2, maxLocals := 1, code := prog_33_method_7_code, exceptionTable := #[], attributes := #[] }
def k3m5 : Method := { name := "over", desc := "()Z", sig := { parameters := [], returnType := some .boolean }, accessFlags := 0, code := some k3c5 }
/-- com/example/tidewright/tidewright/undersea/play/Progress -/
def k3 : Class := { plain "com/example/tidewright/tidewright/undersea/play/Progress" (some 2) with
  accessFlags := 48
  interfaces := #[]
  cf := some (fileOf pool3 8 #[] #[{ accessFlags := 0, nameIndex := 5, descriptorIndex := 27, attributes := #[] }, { accessFlags := 0, nameIndex := 49, descriptorIndex := 50, attributes := #[] }, { accessFlags := 0, nameIndex := 51, descriptorIndex := 50, attributes := #[] }, { accessFlags := 0, nameIndex := 52, descriptorIndex := 50, attributes := #[] }, { accessFlags := 0, nameIndex := 53, descriptorIndex := 50, attributes := #[] }, { accessFlags := 0, nameIndex := 57, descriptorIndex := 55, attributes := #[] }] 48 2 #[] #[{ accessFlags := 18, nameIndex := 11, descriptorIndex := 12, attributes := #[] }, { accessFlags := 18, nameIndex := 15, descriptorIndex := 12, attributes := #[] }, { accessFlags := 18, nameIndex := 18, descriptorIndex := 12, attributes := #[] }, { accessFlags := 18, nameIndex := 21, descriptorIndex := 12, attributes := #[] }, { accessFlags := 18, nameIndex := 24, descriptorIndex := 12, attributes := #[] }])
  fields := #[{ name := "round", type := .int, accessFlags := 18, slot := 0, constantValue := 0 }, { name := "era", type := .int, accessFlags := 18, slot := 1, constantValue := 0 }, { name := "turnsTaken", type := .int, accessFlags := 18, slot := 2, constantValue := 0 }, { name := "turns", type := .int, accessFlags := 18, slot := 3, constantValue := 0 }, { name := "productions", type := .int, accessFlags := 18, slot := 4, constantValue := 0 }]
  methods := #[k3m0, k3m1, k3m2, k3m3, k3m4, k3m5]
  instanceTypes := #[.int, .int, .int, .int, .int]
  staticTypes := #[]
  resolved := Array.replicate 85 none
  statics := none }

def pool4 : Array CpInfo := pool [(1, u "java/lang/Cloneable"), (0, .class_ 1), (0, u "java/lang/Object"), (0, .class_ 3)] 3

/-- java/lang/Cloneable -/
def k4 : Class := { plain "java/lang/Cloneable" (some 0) with
  accessFlags := 1537
  interfaces := #[]
  cf := some (fileOf pool4 2 #[] #[] 1537 4 #[] #[])
  fields := #[]
  methods := #[]
  instanceTypes := #[]
  staticTypes := #[]
  resolved := Array.replicate 8 none
  statics := none }

def pool5 : Array CpInfo := pool [(1, u "java/io/Serializable"), (0, .class_ 1), (0, u "java/lang/Object"), (0, .class_ 3)] 3

/-- java/io/Serializable -/
def k5 : Class := { plain "java/io/Serializable" (some 0) with
  accessFlags := 1537
  interfaces := #[]
  cf := some (fileOf pool5 2 #[] #[] 1537 4 #[] #[])
  fields := #[]
  methods := #[]
  instanceTypes := #[]
  staticTypes := #[]
  resolved := Array.replicate 8 none
  statics := none }

/-- the primitive byte -/
def k6 : Class := { plain "byte" none with kind := .primitive 'B', accessFlags := 0x411 }
/-- [B -/
def k7 : Class := { plain "[B" (some 0) with kind := .array 6 .byte, interfaces := #[4, 5], accessFlags := 1041 }

def heap : Heap := #[]
def classes : Array Class := #[k0, k1, k2, k3, k4, k5, k6, k7]
def interned : List (Array UInt16 × Addr) := []
def slotsUsed : Nat := 0
def theMethod : MethodId := ⟨1, 1⟩
def args0 : Array Value := #[.int 5, .int 6, .int 7, .int 8, .int 9]
def aboutOver (below : List Frame) : State where
  vm := { classes := classes, interned := interned.toArray }
  heap := heap
  slotsUsed := slotsUsed
  threads := #[{ frames := .invoking theMethod args0 :: below }]
def below0 : List Frame := [.native { method := ⟨0, 0⟩, args := #[] }]
def about1 : State := aboutOver below0
def p0 : Program := .bare "" "" ""
def e0 : Env := launch0.env 0 0 0
theorem w_frames : about1.frames = Frame.invoking theMethod args0 :: below0 := rfl
set_option maxRecDepth 65536 in
theorem w_args : argsFit about1.vm theMethod args0 = true := by decide +kernel
set_option maxRecDepth 65536 in
theorem w_heap : heapFits about1 = true := by decide +kernel
set_option maxRecDepth 65536 in
theorem w_runnable : about1.curStatus? = some .runnable := by decide +kernel
set_option maxRecDepth 65536 in
theorem w_alone : about1.alone = true := by decide +kernel
set_option maxRecDepth 65536 in
theorem w_named : about1.methodNamed? x = some theMethod := by decide +kernel
set_option maxRecDepth 65536 in
theorem w_hears : about1.hears theMethod below0 = true := by decide +kernel
set_option maxRecDepth 65536 in
theorem w_ripe : about1.ripe theMethod args0 below0 = true := by decide +kernel
theorem w_running : about1.status = .running := rfl
set_option maxRecDepth 65536 in
theorem w_room : about1.hasRoom e0.platform room_1 = true :=
  launch0.hasRoom_least _ room_1 (by decide +kernel) (by decide +kernel) (by decide +kernel) (by decide +kernel) (by decide +kernel) (by decide +kernel)
theorem allAtoms_all (ts : List Jvm.Cond) (a : Array Jvm.Value) (st : Jvm.State) : (allAtoms ts).before a st = ts.all (fun c => c.before a st) := by
  induction ts with
  | nil => rfl
  | cons c t ih =>
    show (Jvm.Cond.and c (allAtoms t)).before a st = _
    rw [Jvm.Cond.before_and, ih, List.all_cons]
def words1 : List Jvm.Cond := Jvm.Cond.code x code maxLocals ret :: tables_1
/-- a 'code' word, met by the world's own term for the bytes: nothing is compared byte by byte -/
theorem code_word {y : MethodName} {bytes : ByteArray} {mx : Nat} {rt : Option FieldType} {a : Array Value} {s : State} {m : MethodId} {meth : Method} {c : Code} (h1 : s.methodNamed? y = some m) (h2 : s.vm.method? m = some meth) (h3 : meth.code = some c) (h4 : c.code = bytes)
    (h5 : (c.maxLocals == mx && c.exceptionTable.isEmpty && decide (c.maxStack ≤ mostOperands) && decide (meth.sig.returnType = rt) && !meth.locks && decide (parseMethodDescriptor y.desc = some meth.sig)) = true) : (Jvm.Cond.code y bytes mx rt).before a s = true := by
  simp only [Bool.and_eq_true, beq_iff_eq, Bool.not_eq_true', decide_eq_true_eq] at h5
  obtain ⟨⟨⟨⟨⟨g1, g2⟩, g3⟩, g4⟩, g5⟩, g6⟩ := h5
  simp [Cond.before, Cond.holds, Cond.value, h1, h2, h3, h4, g1, g2, g3, g4, g5, g6]
def isCode : Jvm.Cond → Bool
  | .code _ _ _ _ => true
  | _ => false
theorem all_split {L : List Jvm.Cond} {P : Jvm.Cond → Bool} (h1 : L.all (fun c => isCode c || P c) = true) (h2 : ∀ c ∈ L.filter isCode, P c = true) : L.all P = true := by
  refine List.all_eq_true.mpr fun c hc => ?_
  have h := List.all_eq_true.mp h1 c hc
  rcases Bool.eq_false_or_eq_true (isCode c) with hi | hi
  · exact h2 c (List.mem_filter.mpr ⟨hc, hi⟩)
  · simpa [hi] using h
set_option maxRecDepth 65536 in
theorem w_c0 : (Jvm.Cond.code x code maxLocals ret).before args0 about1 = true := code_word (m := ⟨1, 1⟩) (meth := k1m1) (c := k1c1) (by decide +kernel) rfl rfl rfl (by decide +kernel)
set_option maxRecDepth 65536 in
theorem w_c1 : (Jvm.Cond.code ({ cls := "com/example/tidewright/tidewright/undersea/play/Progress", name := "<init>", desc := "(IIIII)V" } : Jvm.MethodName) prog_33_method_1_code (6 : Nat) (Option.none : Option Jvm.ClassFile.FieldType)).before args0 about1 = true := code_word (m := ⟨3, 0⟩) (meth := k3m0) (c := k3c0) (by decide +kernel) rfl rfl rfl (by decide +kernel)
set_option maxRecDepth 65536 in
theorem w_c2 : (Jvm.Cond.code ({ cls := "java/lang/Record", name := "<init>", desc := "()V" } : Jvm.MethodName) jdk_30_method_1_code (1 : Nat) (Option.none : Option Jvm.ClassFile.FieldType)).before args0 about1 = true := code_word (m := ⟨2, 0⟩) (meth := k2m0) (c := k2c0) (by decide +kernel) rfl rfl rfl (by decide +kernel)
set_option maxRecDepth 65536 in
theorem w_c3 : (Jvm.Cond.code ({ cls := "java/lang/Object", name := "<init>", desc := "()V" } : Jvm.MethodName) object_method_1_code (1 : Nat) (Option.none : Option Jvm.ClassFile.FieldType)).before args0 about1 = true := code_word (m := ⟨0, 0⟩) (meth := k0m0) (c := k0c0) (by decide +kernel) rfl rfl rfl (by decide +kernel)
set_option maxRecDepth 65536 in
theorem w_c4 : (Jvm.Cond.code ({ cls := "com/example/tidewright/tidewright/undersea/play/Progress", name := "over", desc := "()Z" } : Jvm.MethodName) prog_33_method_7_code (1 : Nat) (Option.some Jvm.ClassFile.FieldType.boolean)).before args0 about1 = true := code_word (m := ⟨3, 5⟩) (meth := k3m5) (c := k3c5) (by decide +kernel) rfl rfl rfl (by decide +kernel)
set_option maxRecDepth 65536 in
theorem w_c5 : (Jvm.Cond.code ({ cls := "com/example/tidewright/tidewright/undersea/play/Progress", name := "produced", desc := "()Lcom/example/tidewright/tidewright/undersea/play/Progress;" } : Jvm.MethodName) prog_33_method_3_code (1 : Nat) (Option.some (Jvm.ClassFile.FieldType.object "com/example/tidewright/tidewright/undersea/play/Progress"))).before args0 about1 = true := code_word (m := ⟨3, 2⟩) (meth := k3m2) (c := k3c2) (by decide +kernel) rfl rfl rfl (by decide +kernel)
set_option maxRecDepth 65536 in
theorem w_c6 : (Jvm.Cond.code ({ cls := "com/example/tidewright/tidewright/undersea/play/Progress", name := "turnTaken", desc := "()Lcom/example/tidewright/tidewright/undersea/play/Progress;" } : Jvm.MethodName) prog_33_method_2_code (1 : Nat) (Option.some (Jvm.ClassFile.FieldType.object "com/example/tidewright/tidewright/undersea/play/Progress"))).before args0 about1 = true := code_word (m := ⟨3, 1⟩) (meth := k3m1) (c := k3c1) (by decide +kernel) rfl rfl rfl (by decide +kernel)
set_option maxRecDepth 65536 in
theorem w_c7 : (Jvm.Cond.code ({ cls := "com/example/tidewright/tidewright/undersea/play/Progress", name := "nextRound", desc := "()Lcom/example/tidewright/tidewright/undersea/play/Progress;" } : Jvm.MethodName) prog_33_method_5_code (1 : Nat) (Option.some (Jvm.ClassFile.FieldType.object "com/example/tidewright/tidewright/undersea/play/Progress"))).before args0 about1 = true := code_word (m := ⟨3, 4⟩) (meth := k3m4) (c := k3c4) (by decide +kernel) rfl rfl rfl (by decide +kernel)
set_option maxRecDepth 65536 in
theorem w_c8 : (Jvm.Cond.code ({ cls := "com/example/tidewright/tidewright/undersea/play/Progress", name := "nextEra", desc := "()Lcom/example/tidewright/tidewright/undersea/play/Progress;" } : Jvm.MethodName) prog_33_method_4_code (1 : Nat) (Option.some (Jvm.ClassFile.FieldType.object "com/example/tidewright/tidewright/undersea/play/Progress"))).before args0 about1 = true := code_word (m := ⟨3, 3⟩) (meth := k3m3) (c := k3c3) (by decide +kernel) rfl rfl rfl (by decide +kernel)
def codes1 : List Jvm.Cond := [Jvm.Cond.code x code maxLocals ret, Jvm.Cond.code ({ cls := "com/example/tidewright/tidewright/undersea/play/Progress", name := "<init>", desc := "(IIIII)V" } : Jvm.MethodName) prog_33_method_1_code (6 : Nat) (Option.none : Option Jvm.ClassFile.FieldType), Jvm.Cond.code ({ cls := "java/lang/Record", name := "<init>", desc := "()V" } : Jvm.MethodName) jdk_30_method_1_code (1 : Nat) (Option.none : Option Jvm.ClassFile.FieldType), Jvm.Cond.code ({ cls := "java/lang/Object", name := "<init>", desc := "()V" } : Jvm.MethodName) object_method_1_code (1 : Nat) (Option.none : Option Jvm.ClassFile.FieldType), Jvm.Cond.code ({ cls := "com/example/tidewright/tidewright/undersea/play/Progress", name := "over", desc := "()Z" } : Jvm.MethodName) prog_33_method_7_code (1 : Nat) (Option.some Jvm.ClassFile.FieldType.boolean), Jvm.Cond.code ({ cls := "com/example/tidewright/tidewright/undersea/play/Progress", name := "produced", desc := "()Lcom/example/tidewright/tidewright/undersea/play/Progress;" } : Jvm.MethodName) prog_33_method_3_code (1 : Nat) (Option.some (Jvm.ClassFile.FieldType.object "com/example/tidewright/tidewright/undersea/play/Progress")), Jvm.Cond.code ({ cls := "com/example/tidewright/tidewright/undersea/play/Progress", name := "turnTaken", desc := "()Lcom/example/tidewright/tidewright/undersea/play/Progress;" } : Jvm.MethodName) prog_33_method_2_code (1 : Nat) (Option.some (Jvm.ClassFile.FieldType.object "com/example/tidewright/tidewright/undersea/play/Progress")), Jvm.Cond.code ({ cls := "com/example/tidewright/tidewright/undersea/play/Progress", name := "nextRound", desc := "()Lcom/example/tidewright/tidewright/undersea/play/Progress;" } : Jvm.MethodName) prog_33_method_5_code (1 : Nat) (Option.some (Jvm.ClassFile.FieldType.object "com/example/tidewright/tidewright/undersea/play/Progress")), Jvm.Cond.code ({ cls := "com/example/tidewright/tidewright/undersea/play/Progress", name := "nextEra", desc := "()Lcom/example/tidewright/tidewright/undersea/play/Progress;" } : Jvm.MethodName) prog_33_method_4_code (1 : Nat) (Option.some (Jvm.ClassFile.FieldType.object "com/example/tidewright/tidewright/undersea/play/Progress"))]
set_option maxRecDepth 65536 in
theorem codes_eq : words1.filter isCode = codes1 := rfl
theorem w_codes : ∀ c ∈ words1.filter isCode, c.before args0 about1 = true := by
  rw [codes_eq]
  intro c hc
  simp only [codes1, List.mem_cons, List.not_mem_nil, or_false] at hc
  rcases hc with rfl | rfl | rfl | rfl | rfl | rfl | rfl | rfl | rfl
  · exact w_c0
  · exact w_c1
  · exact w_c2
  · exact w_c3
  · exact w_c4
  · exact w_c5
  · exact w_c6
  · exact w_c7
  · exact w_c8
set_option maxRecDepth 65536 in
theorem w_t1 : (words1.take 24).all (fun c => isCode c || c.before args0 about1) = true := by decide +kernel
set_option maxRecDepth 65536 in
theorem w_t2 : ((words1.drop 24).take 24).all (fun c => isCode c || c.before args0 about1) = true := by decide +kernel
set_option maxRecDepth 65536 in
theorem w_t3 : ((words1.drop 24).drop 24).all (fun c => isCode c || c.before args0 about1) = true := by decide +kernel
theorem w_tables : (allAtoms (Jvm.Cond.code x code maxLocals ret :: tables_1)).before args0 about1 = true := by
  rw [allAtoms_all]
  show words1.all (fun c => c.before args0 about1) = true
  refine all_split ?_ w_codes
  rw [← List.take_append_drop 24 words1, List.all_append, w_t1, ← List.take_append_drop 24 (words1.drop 24), List.all_append, w_t2, w_t3]
  rfl
set_option maxRecDepth 65536 in
theorem w_case : (Jvm.Cond.and given_1 narrow_1).before args0 about1 = true := by decide +kernel
theorem w_applies : (headSpec (Jvm.Cond.code x code maxLocals ret :: tables_1) room_1).applies x e0.platform about1 = true :=
  (Spec.applies_iff w_frames).mpr ⟨w_running, w_runnable, w_alone, w_named, w_hears, w_ripe, w_room, w_tables⟩
theorem atStart : AtStart classFile x code maxLocals ret World_1 tables_1 room_1 Calls_1 rest_1 Pre_1 launch0 p0 e0 about1 theMethod args0 below0 :=
  ⟨lists_1, trivial, launch0.admits_env _ _ _, launch0.least_env, fairChoices_fair.cas, fairChoices_fair.clock, w_frames, w_args, w_heap, w_applies, trivial, trivial, w_case⟩
end start1
theorem witness_1 : WitnessClaimed_1 := ⟨start1.p0, start1.e0, start1.about1, start1.theMethod, start1.args0, start1.below0, start1.atStart⟩
end Jvm.Pilot.@@N@@
