import JvmDerived
import JvmDerived.Pilot.@@N@@Statement
import JvmDerived.Pilot.@@N@@Code
set_option linter.unusedVariables false
set_option linter.unusedSimpArgs false
namespace Jvm.Pilot.@@N@@
open Jvm Jvm.ClassFile Sem Op Lib Jvm.Free Jvm.Stand Jvm.LawKit Jvm.RoadKit Bundle Jvm.Pilot.@@N@@.Jvm.D
theorem own_w {Z : State} {a0 : Array Value} {d : Jvm.Cond} (hw : ∀ d ∈ tables_1, d.before a0 Z = true) (i : Nat) (h : tables_1[i]? = some d) : d.before a0 Z = true := hw d (List.mem_of_getElem? h)
/-- from U the run comes to an end of which G says -/
def Go (p : Program) (e : Env) (below : List Frame) (G : State → Outcome → Prop) (U : State) : Prop := ∃ s₂ o, Steps p.tables e below U s₂ ∧ s₂.status = .running ∧ Ended s₂ below o ∧ G s₂ o
theorem Go.st {p : Program} {e : Env} {below : List Frame} {G : State → Outcome → Prop} {U U' : State} (h : ∀ t, Steps p.tables e below U' t → Steps p.tables e below U t) (k : Go p e below G U') : Go p e below G U := by
  obtain ⟨t, o, h1, r⟩ := k
  exact ⟨t, o, h _ h1, r⟩
theorem Go.tr {p : Program} {e : Env} {below : List Frame} {G : State → Outcome → Prop} {U U' : State} (h : Steps p.tables e below U U') (k : Go p e below G U') : Go p e below G U := by
  obtain ⟨t, o, h1, r⟩ := k
  exact ⟨t, o, h.trans h1, r⟩
theorem Go.join {p : Program} {e : Env} {below : List Frame} {G : State → Outcome → Prop} {U : State} {α : Type} {P : α → Prop} {F : α → State} (h2 : (∀ v, P v → Go p e below G (F v)) → Go p e below G U) (h1 : ∀ v, P v → Go p e below G (F v)) : Go p e below G U := h2 h1
theorem Go.join2 {p : Program} {e : Env} {below : List Frame} {G : State → Outcome → Prop} {U : State} {α β : Type} {P : α → β → Prop} {F : α → β → State} (h2 : (∀ v w, P v w → Go p e below G (F v w)) → Go p e below G U) (h1 : ∀ v w, P v w → Go p e below G (F v w)) : Go p e below G U := h2 h1
theorem Go.join3 {p : Program} {e : Env} {below : List Frame} {G : State → Outcome → Prop} {U : State} {α β γ : Type} {P : α → β → γ → Prop} {F : α → β → γ → State} (h2 : (∀ v w u, P v w u → Go p e below G (F v w u)) → Go p e below G U) (h1 : ∀ v w u, P v w u → Go p e below G (F v w u)) : Go p e below G U := h2 h1
theorem own_ret {p : Program} {l : Launch} {e : Env} {R : Room} {s : State} {m : MethodId} {args : Array Value} {below : List Frame} {meth : Method} {c : Code} {T U : State} {locs : List Loc} {cells slots : Nat} {Q : Option Value → Heap → List Loc → Prop} {rc rs : Nat} {v : Option Value}
    (X : Stand p l e R s m args below meth c T locs cells slots) (hlk : meth.locks = false) (hv : meth.sig.returnType = none → v = none) (hc : cells ≤ rc) (hs : slots ≤ rs) (hq : Q v T.heap locs)
    (st : ∀ fs, (∀ (f : JFrame) (acts : List Action), f.method = m → f.locked = none → f.entered = [] → (doReturn e (T.setTop f) acts v).1 = T.setFrames fs) → Steps p.tables e below U (T.setFrames fs)) :
    Go p e below (fun s₂ o => ∃ v L, o = .returned v ∧ Q v s₂.heap L ∧ FrameEnd s o s₂ L rc rs) U := by
  obtain ⟨fs, hr, hrun, hended, hW, hsame⟩ := X.leave (v := v) hv hlk
  exact ⟨_, _, st fs hr, hrun, hended, _, _, rfl, hq, ⟨_, rfl⟩, hW, hsame.mono hc hs⟩
theorem own_getI (L : List Int32) (i : Nat) : (L.map Value.int).getD i (.int 0) = .int (L.getD i 0) := by
  induction L generalizing i with
  | nil => rfl
  | cons a r ih => cases i with
    | zero => rfl
    | succ i => exact ih i
theorem own_getJ (L : List Int64) (i : Nat) : (L.map Value.long).getD i (.long 0) = .long (L.getD i 0) := by
  induction L generalizing i with
  | nil => rfl
  | cons a r ih => cases i with
    | zero => rfl
    | succ i => exact ih i
theorem own_getP {P : Int32 → Prop} (h0 : P 0) (L : List Int32) (h : ∀ x ∈ L, P x) (i : Nat) : P (L.getD i 0) := by
  induction L generalizing i with
  | nil => exact h0
  | cons a r ih => cases i with
    | zero => exact h a (List.mem_cons_self ..)
    | succ i => exact ih (fun x hx => h x (List.mem_cons_of_mem _ hx)) i
theorem own_mk (x m n : Int32) (k : Nat) (hk : k ≤ 31) (hm : m.toBitVec.toNat = 2 ^ k - 1) (hn : ((2 ^ k : Nat) : Int) ≤ n.toInt) : ¬ (x &&& m) < 0 ∧ (x &&& m) < n := by
  have h := c_mask x m k hk hm
  have h2 : (0 : Int) < ((2 ^ k : Nat) : Int) := Int.ofNat_lt.mpr (Nat.two_pow_pos k)
  have h3 := Int.emod_nonneg x.toInt (Int.ne_of_gt h2)
  have h4 := Int.emod_lt_of_pos x.toInt h2
  rw [Int32.lt_iff_toInt_lt, Int32.lt_iff_toInt_lt, h]
  exact ⟨Int.not_lt.mpr h3, Int.lt_of_lt_of_le h4 hn⟩
abbrev own_y0 : MethodName := ⟨"com/example/portcullis/portcullis/io/MessageHeader", "startsWithMagic", "([B)Z"⟩
theorem d1_0 : decode prog_22_method_2_code 0 = .ok (.aload_n 0, 1) := by decide +kernel
theorem d1_1 : decode prog_22_method_2_code 1 = .ok (.arraylength, 1) := by decide +kernel
theorem d1_2 : decode prog_22_method_2_code 2 = .ok (.iconst 4, 1) := by decide +kernel
theorem d1_3 : decode prog_22_method_2_code 3 = .ok (.if_icmp .lt 39, 3) := by decide +kernel
theorem d1_42 : decode prog_22_method_2_code 42 = .ok (.iconst 0, 1) := by decide +kernel
theorem d1_43 : decode prog_22_method_2_code 43 = .ok (.ireturn, 1) := by decide +kernel
theorem pn_0 : plainName "com/example/portcullis/portcullis/io/MessageHeader" = true := by first | (simp [plainName, overriddenIn]; done) | decide +kernel
theorem ef1_0 (m : MethodId) (a1 : Addr) : entryFrame m #[(.ref a1)] 1 = mkF m 0 #[.val (.ref a1)] [] := by first | (simp [entryFrame, mkF, argsToLocals, Value.category]; done) | rfl
abbrev own_R0_0_0_0 : Room := { frames := 0, cells := 0, slots := 0, locals := 0 }
def g0  : Int32 := (0 : Int32)
def Q1_0 (Z : State) (a1 : Addr) (k1 : ClassId) (h0 : Heap) (n0 : Nat) (v : Option Value) (h : Heap) (L : List Loc) : Prop := v = some (.int (g0 )) ∧ Fr n0 L ∧ h = h0
set_option maxRecDepth 65536 in
set_option maxHeartbeats 40000000 in
theorem rm1_0 (l : Launch) (Z : State) (a0 : Array Value) (hw : ∀ d ∈ tables_1, d.before a0 Z = true) (ws : List Jvm.Cond) (a1 : Addr) (k1 : ClassId) (h0 : Heap) (n0 : Nat) (Z0 : n0 ≤ h0.size) (VA : Arv Z h0 a1 k1 .byte (0 : Int32) [] (.int (0 : Int32))) :
    MetFree l own_y0 (head1 (Jvm.Cond.code own_y0 prog_22_method_2_code 1 (some .boolean) :: ws) own_R0_0_0_0) (fun a U => a = #[(.ref a1)] ∧ Z.Warmed39 U.vm ∧ U.heap = h0) (fun _ _ _ _ _ => True) (fun _ U o U' => ∃ v L, o = .returned v ∧ Q1_0 Z a1 k1 h0 n0 v U'.heap L ∧ FrameEnd U o U' L (own_R0_0_0_0).cells (own_R0_0_0_0).slots) := by
  refine MetFree.of_bodySF (plainFor_of_name pn_0) hisR ?_
  intro p e s m args below meth c s₁ Bd hml0 hP hK
  obtain ⟨rfl, hZ, hh⟩ := hP
  have hx := Bd.exec
  have hby := Bd.bytes
  have hml : c.maxLocals = 1 := hml0
  have hown : s.vm.findClass "com/example/portcullis/portcullis/io/MessageHeader" = some m.cls := findClass_of_methodNamed Bd.named
  have hnm := (name_of_methodNamed Bd.named Bd.method).1
  have hlk : meth.locks = false := BodyLoose.notSynchronized Bd
  have hrt := Bd.returns
  have X0 : Stand p l e own_R0_0_0_0 s m #[(.ref a1)] below meth c s₁ [] 0 0 := Stand.of_body Bd
  have e0 : s₁.heap = h0 := by rw [← hh, Bd.state]; rfl
  have N0 := Fr.nil n0
  refine (show Go p e below (fun s₂ o => ∃ v L, o = .returned v ∧ Q1_0 Z a1 k1 h0 n0 v s₂.heap L ∧ FrameEnd s o s₂ L 0 0) (s₁.setTop (entryFrame m #[(.ref a1)] 1)) from ?_)
  rw [ef1_0]
  obtain ⟨cl101, Ar101, q101, S101, N101, H101, G101⟩ := id VA
  refine Go.st (U' := s₁.setTop (mkF m 43 #[.val (.ref a1)] [(.int (0 : Int32))])) (fun t k => ?_) ?_
  · show Steps p.tables e below (s₁.setTop (mkF m 0 #[.val (.ref a1)] [])) _
    refine XS.aloadN X0.here hx rfl (hb hby d1_0) rfl rfl ?_
    show Steps p.tables e below (s₁.setTop (mkF m 1 #[.val (.ref a1)] [(.ref a1)])) _
    refine X0.arraylength hx (by rw [e0]; exact Ar101.1) (State.isArrayOf_alike hZ.alike Ar101.2.1) (g := (mkF m 1 #[.val (.ref a1)] [(.ref a1)])) rfl rfl (hb hby d1_1) _ ?_
    rw [len_of S101 N101]
    show Steps p.tables e below (s₁.setTop (mkF m 2 #[.val (.ref a1)] [(.int (0 : Int32))])) _
    refine XS.iconst X0.here hx rfl (hb hby d1_2) ?_
    show Steps p.tables e below (s₁.setTop (mkF m 3 #[.val (.ref a1)] [(.int (4 : Int32)), (.int (0 : Int32))])) _
    refine XS.icmpYes X0.here hx rfl (pc0 := 3) (pc' := 42) rfl (hb hby d1_3) rfl (tlt (by decide : (0 : Int32) < (4 : Int32))).1 (by decide) (by decide) ?_
    show Steps p.tables e below (s₁.setTop (mkF m 42 #[.val (.ref a1)] [])) _
    refine XS.iconst X0.here hx rfl (hb hby d1_42) ?_
    exact k
  refine own_ret (Q := Q1_0 Z a1 k1 h0 n0) (v := some (.int (0 : Int32))) X0 hlk (fun h => by rw [hrt] at h; cases h) (by decide) (by decide) ?_ (fun fs hr => retN X0 hx (t := .boolean) hrt (by simp) (hb hby d1_43) hr)
  rw [e0]
  exact ⟨(by first | rfl | simp only [g0]), N0, rfl⟩
theorem ef1_1 (m : MethodId) (a1 : Addr) : entryFrame m #[(.ref a1)] 1 = mkF m 0 #[.val (.ref a1)] [] := by first | (simp [entryFrame, mkF, argsToLocals, Value.category]; done) | rfl
def g1  : Int32 := (0 : Int32)
def Q1_1 (Z : State) (a1 : Addr) (k1 : ClassId) (ee0 : Int32) (h0 : Heap) (n0 : Nat) (v : Option Value) (h : Heap) (L : List Loc) : Prop := v = some (.int (g1 )) ∧ Fr n0 L ∧ h = h0
set_option maxRecDepth 65536 in
set_option maxHeartbeats 40000000 in
theorem rm1_1 (l : Launch) (Z : State) (a0 : Array Value) (hw : ∀ d ∈ tables_1, d.before a0 Z = true) (ws : List Jvm.Cond) (a1 : Addr) (k1 : ClassId) (ee0 : Int32) (h0 : Heap) (n0 : Nat) (Z0 : n0 ≤ h0.size) (VA : Arv Z h0 a1 k1 .byte (1 : Int32) [(.int ee0)] (.int (0 : Int32))) :
    MetFree l own_y0 (head1 (Jvm.Cond.code own_y0 prog_22_method_2_code 1 (some .boolean) :: ws) own_R0_0_0_0) (fun a U => a = #[(.ref a1)] ∧ Z.Warmed39 U.vm ∧ U.heap = h0) (fun _ _ _ _ _ => True) (fun _ U o U' => ∃ v L, o = .returned v ∧ Q1_1 Z a1 k1 ee0 h0 n0 v U'.heap L ∧ FrameEnd U o U' L (own_R0_0_0_0).cells (own_R0_0_0_0).slots) := by
  refine MetFree.of_bodySF (plainFor_of_name pn_0) hisR ?_
  intro p e s m args below meth c s₁ Bd hml0 hP hK
  obtain ⟨rfl, hZ, hh⟩ := hP
  have hx := Bd.exec
  have hby := Bd.bytes
  have hml : c.maxLocals = 1 := hml0
  have hown : s.vm.findClass "com/example/portcullis/portcullis/io/MessageHeader" = some m.cls := findClass_of_methodNamed Bd.named
  have hnm := (name_of_methodNamed Bd.named Bd.method).1
  have hlk : meth.locks = false := BodyLoose.notSynchronized Bd
  have hrt := Bd.returns
  have X0 : Stand p l e own_R0_0_0_0 s m #[(.ref a1)] below meth c s₁ [] 0 0 := Stand.of_body Bd
  have e0 : s₁.heap = h0 := by rw [← hh, Bd.state]; rfl
  have N0 := Fr.nil n0
  refine (show Go p e below (fun s₂ o => ∃ v L, o = .returned v ∧ Q1_1 Z a1 k1 ee0 h0 n0 v s₂.heap L ∧ FrameEnd s o s₂ L 0 0) (s₁.setTop (entryFrame m #[(.ref a1)] 1)) from ?_)
  rw [ef1_1]
  obtain ⟨cl102, Ar102, q102, S102, N102, H102, G102⟩ := id VA
  refine Go.st (U' := s₁.setTop (mkF m 43 #[.val (.ref a1)] [(.int (0 : Int32))])) (fun t k => ?_) ?_
  · show Steps p.tables e below (s₁.setTop (mkF m 0 #[.val (.ref a1)] [])) _
    refine XS.aloadN X0.here hx rfl (hb hby d1_0) rfl rfl ?_
    show Steps p.tables e below (s₁.setTop (mkF m 1 #[.val (.ref a1)] [(.ref a1)])) _
    refine X0.arraylength hx (by rw [e0]; exact Ar102.1) (State.isArrayOf_alike hZ.alike Ar102.2.1) (g := (mkF m 1 #[.val (.ref a1)] [(.ref a1)])) rfl rfl (hb hby d1_1) _ ?_
    rw [len_of S102 N102]
    show Steps p.tables e below (s₁.setTop (mkF m 2 #[.val (.ref a1)] [(.int (1 : Int32))])) _
    refine XS.iconst X0.here hx rfl (hb hby d1_2) ?_
    show Steps p.tables e below (s₁.setTop (mkF m 3 #[.val (.ref a1)] [(.int (4 : Int32)), (.int (1 : Int32))])) _
    refine XS.icmpYes X0.here hx rfl (pc0 := 3) (pc' := 42) rfl (hb hby d1_3) rfl (tlt (by decide : (1 : Int32) < (4 : Int32))).1 (by decide) (by decide) ?_
    show Steps p.tables e below (s₁.setTop (mkF m 42 #[.val (.ref a1)] [])) _
    refine XS.iconst X0.here hx rfl (hb hby d1_42) ?_
    exact k
  refine own_ret (Q := Q1_1 Z a1 k1 ee0 h0 n0) (v := some (.int (0 : Int32))) X0 hlk (fun h => by rw [hrt] at h; cases h) (by decide) (by decide) ?_ (fun fs hr => retN X0 hx (t := .boolean) hrt (by simp) (hb hby d1_43) hr)
  rw [e0]
  exact ⟨(by first | rfl | simp only [g1]), N0, rfl⟩
theorem ef1_2 (m : MethodId) (a1 : Addr) : entryFrame m #[(.ref a1)] 1 = mkF m 0 #[.val (.ref a1)] [] := by first | (simp [entryFrame, mkF, argsToLocals, Value.category]; done) | rfl
def g2  : Int32 := (0 : Int32)
def Q1_2 (Z : State) (a1 : Addr) (k1 : ClassId) (ee0 : Int32) (ee1 : Int32) (h0 : Heap) (n0 : Nat) (v : Option Value) (h : Heap) (L : List Loc) : Prop := v = some (.int (g2 )) ∧ Fr n0 L ∧ h = h0
set_option maxRecDepth 65536 in
set_option maxHeartbeats 40000000 in
theorem rm1_2 (l : Launch) (Z : State) (a0 : Array Value) (hw : ∀ d ∈ tables_1, d.before a0 Z = true) (ws : List Jvm.Cond) (a1 : Addr) (k1 : ClassId) (ee0 : Int32) (ee1 : Int32) (h0 : Heap) (n0 : Nat) (Z0 : n0 ≤ h0.size) (VA : Arv Z h0 a1 k1 .byte (2 : Int32) [(.int ee0), (.int ee1)] (.int (0 : Int32))) :
    MetFree l own_y0 (head1 (Jvm.Cond.code own_y0 prog_22_method_2_code 1 (some .boolean) :: ws) own_R0_0_0_0) (fun a U => a = #[(.ref a1)] ∧ Z.Warmed39 U.vm ∧ U.heap = h0) (fun _ _ _ _ _ => True) (fun _ U o U' => ∃ v L, o = .returned v ∧ Q1_2 Z a1 k1 ee0 ee1 h0 n0 v U'.heap L ∧ FrameEnd U o U' L (own_R0_0_0_0).cells (own_R0_0_0_0).slots) := by
  refine MetFree.of_bodySF (plainFor_of_name pn_0) hisR ?_
  intro p e s m args below meth c s₁ Bd hml0 hP hK
  obtain ⟨rfl, hZ, hh⟩ := hP
  have hx := Bd.exec
  have hby := Bd.bytes
  have hml : c.maxLocals = 1 := hml0
  have hown : s.vm.findClass "com/example/portcullis/portcullis/io/MessageHeader" = some m.cls := findClass_of_methodNamed Bd.named
  have hnm := (name_of_methodNamed Bd.named Bd.method).1
  have hlk : meth.locks = false := BodyLoose.notSynchronized Bd
  have hrt := Bd.returns
  have X0 : Stand p l e own_R0_0_0_0 s m #[(.ref a1)] below meth c s₁ [] 0 0 := Stand.of_body Bd
  have e0 : s₁.heap = h0 := by rw [← hh, Bd.state]; rfl
  have N0 := Fr.nil n0
  refine (show Go p e below (fun s₂ o => ∃ v L, o = .returned v ∧ Q1_2 Z a1 k1 ee0 ee1 h0 n0 v s₂.heap L ∧ FrameEnd s o s₂ L 0 0) (s₁.setTop (entryFrame m #[(.ref a1)] 1)) from ?_)
  rw [ef1_2]
  obtain ⟨cl103, Ar103, q103, S103, N103, H103, G103⟩ := id VA
  refine Go.st (U' := s₁.setTop (mkF m 43 #[.val (.ref a1)] [(.int (0 : Int32))])) (fun t k => ?_) ?_
  · show Steps p.tables e below (s₁.setTop (mkF m 0 #[.val (.ref a1)] [])) _
    refine XS.aloadN X0.here hx rfl (hb hby d1_0) rfl rfl ?_
    show Steps p.tables e below (s₁.setTop (mkF m 1 #[.val (.ref a1)] [(.ref a1)])) _
    refine X0.arraylength hx (by rw [e0]; exact Ar103.1) (State.isArrayOf_alike hZ.alike Ar103.2.1) (g := (mkF m 1 #[.val (.ref a1)] [(.ref a1)])) rfl rfl (hb hby d1_1) _ ?_
    rw [len_of S103 N103]
    show Steps p.tables e below (s₁.setTop (mkF m 2 #[.val (.ref a1)] [(.int (2 : Int32))])) _
    refine XS.iconst X0.here hx rfl (hb hby d1_2) ?_
    show Steps p.tables e below (s₁.setTop (mkF m 3 #[.val (.ref a1)] [(.int (4 : Int32)), (.int (2 : Int32))])) _
    refine XS.icmpYes X0.here hx rfl (pc0 := 3) (pc' := 42) rfl (hb hby d1_3) rfl (tlt (by decide : (2 : Int32) < (4 : Int32))).1 (by decide) (by decide) ?_
    show Steps p.tables e below (s₁.setTop (mkF m 42 #[.val (.ref a1)] [])) _
    refine XS.iconst X0.here hx rfl (hb hby d1_42) ?_
    exact k
  refine own_ret (Q := Q1_2 Z a1 k1 ee0 ee1 h0 n0) (v := some (.int (0 : Int32))) X0 hlk (fun h => by rw [hrt] at h; cases h) (by decide) (by decide) ?_ (fun fs hr => retN X0 hx (t := .boolean) hrt (by simp) (hb hby d1_43) hr)
  rw [e0]
  exact ⟨(by first | rfl | simp only [g2]), N0, rfl⟩
theorem ef1_3 (m : MethodId) (a1 : Addr) : entryFrame m #[(.ref a1)] 1 = mkF m 0 #[.val (.ref a1)] [] := by first | (simp [entryFrame, mkF, argsToLocals, Value.category]; done) | rfl
def g3  : Int32 := (0 : Int32)
def Q1_3 (Z : State) (a1 : Addr) (k1 : ClassId) (ee0 : Int32) (ee1 : Int32) (ee2 : Int32) (h0 : Heap) (n0 : Nat) (v : Option Value) (h : Heap) (L : List Loc) : Prop := v = some (.int (g3 )) ∧ Fr n0 L ∧ h = h0
set_option maxRecDepth 65536 in
set_option maxHeartbeats 40000000 in
theorem rm1_3 (l : Launch) (Z : State) (a0 : Array Value) (hw : ∀ d ∈ tables_1, d.before a0 Z = true) (ws : List Jvm.Cond) (a1 : Addr) (k1 : ClassId) (ee0 : Int32) (ee1 : Int32) (ee2 : Int32) (h0 : Heap) (n0 : Nat) (Z0 : n0 ≤ h0.size) (VA : Arv Z h0 a1 k1 .byte (3 : Int32) [(.int ee0), (.int ee1), (.int ee2)] (.int (0 : Int32))) :
    MetFree l own_y0 (head1 (Jvm.Cond.code own_y0 prog_22_method_2_code 1 (some .boolean) :: ws) own_R0_0_0_0) (fun a U => a = #[(.ref a1)] ∧ Z.Warmed39 U.vm ∧ U.heap = h0) (fun _ _ _ _ _ => True) (fun _ U o U' => ∃ v L, o = .returned v ∧ Q1_3 Z a1 k1 ee0 ee1 ee2 h0 n0 v U'.heap L ∧ FrameEnd U o U' L (own_R0_0_0_0).cells (own_R0_0_0_0).slots) := by
  refine MetFree.of_bodySF (plainFor_of_name pn_0) hisR ?_
  intro p e s m args below meth c s₁ Bd hml0 hP hK
  obtain ⟨rfl, hZ, hh⟩ := hP
  have hx := Bd.exec
  have hby := Bd.bytes
  have hml : c.maxLocals = 1 := hml0
  have hown : s.vm.findClass "com/example/portcullis/portcullis/io/MessageHeader" = some m.cls := findClass_of_methodNamed Bd.named
  have hnm := (name_of_methodNamed Bd.named Bd.method).1
  have hlk : meth.locks = false := BodyLoose.notSynchronized Bd
  have hrt := Bd.returns
  have X0 : Stand p l e own_R0_0_0_0 s m #[(.ref a1)] below meth c s₁ [] 0 0 := Stand.of_body Bd
  have e0 : s₁.heap = h0 := by rw [← hh, Bd.state]; rfl
  have N0 := Fr.nil n0
  refine (show Go p e below (fun s₂ o => ∃ v L, o = .returned v ∧ Q1_3 Z a1 k1 ee0 ee1 ee2 h0 n0 v s₂.heap L ∧ FrameEnd s o s₂ L 0 0) (s₁.setTop (entryFrame m #[(.ref a1)] 1)) from ?_)
  rw [ef1_3]
  obtain ⟨cl104, Ar104, q104, S104, N104, H104, G104⟩ := id VA
  refine Go.st (U' := s₁.setTop (mkF m 43 #[.val (.ref a1)] [(.int (0 : Int32))])) (fun t k => ?_) ?_
  · show Steps p.tables e below (s₁.setTop (mkF m 0 #[.val (.ref a1)] [])) _
    refine XS.aloadN X0.here hx rfl (hb hby d1_0) rfl rfl ?_
    show Steps p.tables e below (s₁.setTop (mkF m 1 #[.val (.ref a1)] [(.ref a1)])) _
    refine X0.arraylength hx (by rw [e0]; exact Ar104.1) (State.isArrayOf_alike hZ.alike Ar104.2.1) (g := (mkF m 1 #[.val (.ref a1)] [(.ref a1)])) rfl rfl (hb hby d1_1) _ ?_
    rw [len_of S104 N104]
    show Steps p.tables e below (s₁.setTop (mkF m 2 #[.val (.ref a1)] [(.int (3 : Int32))])) _
    refine XS.iconst X0.here hx rfl (hb hby d1_2) ?_
    show Steps p.tables e below (s₁.setTop (mkF m 3 #[.val (.ref a1)] [(.int (4 : Int32)), (.int (3 : Int32))])) _
    refine XS.icmpYes X0.here hx rfl (pc0 := 3) (pc' := 42) rfl (hb hby d1_3) rfl (tlt (by decide : (3 : Int32) < (4 : Int32))).1 (by decide) (by decide) ?_
    show Steps p.tables e below (s₁.setTop (mkF m 42 #[.val (.ref a1)] [])) _
    refine XS.iconst X0.here hx rfl (hb hby d1_42) ?_
    exact k
  refine own_ret (Q := Q1_3 Z a1 k1 ee0 ee1 ee2 h0 n0) (v := some (.int (0 : Int32))) X0 hlk (fun h => by rw [hrt] at h; cases h) (by decide) (by decide) ?_ (fun fs hr => retN X0 hx (t := .boolean) hrt (by simp) (hb hby d1_43) hr)
  rw [e0]
  exact ⟨(by first | rfl | simp only [g3]), N0, rfl⟩
theorem d1_6 : decode prog_22_method_2_code 6 = .ok (.aload_n 0, 1) := by decide +kernel
theorem d1_7 : decode prog_22_method_2_code 7 = .ok (.iconst 0, 1) := by decide +kernel
theorem d1_8 : decode prog_22_method_2_code 8 = .ok (.baload, 1) := by decide +kernel
theorem d1_9 : decode prog_22_method_2_code 9 = .ok (.bipush 71, 2) := by decide +kernel
theorem d1_11 : decode prog_22_method_2_code 11 = .ok (.if_icmp .ne 31, 3) := by decide +kernel
theorem d1_14 : decode prog_22_method_2_code 14 = .ok (.aload_n 0, 1) := by decide +kernel
theorem d1_15 : decode prog_22_method_2_code 15 = .ok (.iconst 1, 1) := by decide +kernel
theorem d1_16 : decode prog_22_method_2_code 16 = .ok (.baload, 1) := by decide +kernel
theorem d1_17 : decode prog_22_method_2_code 17 = .ok (.bipush 73, 2) := by decide +kernel
theorem d1_19 : decode prog_22_method_2_code 19 = .ok (.if_icmp .ne 23, 3) := by decide +kernel
theorem d1_22 : decode prog_22_method_2_code 22 = .ok (.aload_n 0, 1) := by decide +kernel
theorem d1_23 : decode prog_22_method_2_code 23 = .ok (.iconst 2, 1) := by decide +kernel
theorem d1_24 : decode prog_22_method_2_code 24 = .ok (.baload, 1) := by decide +kernel
theorem d1_25 : decode prog_22_method_2_code 25 = .ok (.bipush 79, 2) := by decide +kernel
theorem d1_27 : decode prog_22_method_2_code 27 = .ok (.if_icmp .ne 15, 3) := by decide +kernel
theorem d1_30 : decode prog_22_method_2_code 30 = .ok (.aload_n 0, 1) := by decide +kernel
theorem d1_31 : decode prog_22_method_2_code 31 = .ok (.iconst 3, 1) := by decide +kernel
theorem d1_32 : decode prog_22_method_2_code 32 = .ok (.baload, 1) := by decide +kernel
theorem d1_33 : decode prog_22_method_2_code 33 = .ok (.bipush 80, 2) := by decide +kernel
theorem d1_35 : decode prog_22_method_2_code 35 = .ok (.if_icmp .ne 7, 3) := by decide +kernel
theorem d1_38 : decode prog_22_method_2_code 38 = .ok (.iconst 1, 1) := by decide +kernel
theorem d1_39 : decode prog_22_method_2_code 39 = .ok (.goto 4, 3) := by decide +kernel
theorem ef1_4 (m : MethodId) (a1 : Addr) : entryFrame m #[(.ref a1)] 1 = mkF m 0 #[.val (.ref a1)] [] := by first | (simp [entryFrame, mkF, argsToLocals, Value.category]; done) | rfl
def g4 (ee0 : Int32) (ee1 : Int32) (ee2 : Int32) (ee3 : Int32) : Int32 := (if ee0 = (71 : Int32) then (if ee1 = (73 : Int32) then (if ee2 = (79 : Int32) then (if ee3 = (80 : Int32) then (1 : Int32) else (0 : Int32)) else (0 : Int32)) else (0 : Int32)) else (0 : Int32))
def Q1_4 (Z : State) (a1 : Addr) (k1 : ClassId) (ee0 : Int32) (ee1 : Int32) (ee2 : Int32) (ee3 : Int32) (h0 : Heap) (n0 : Nat) (v : Option Value) (h : Heap) (L : List Loc) : Prop := v = some (.int (g4 ee0 ee1 ee2 ee3)) ∧ Fr n0 L ∧ h = h0
set_option maxRecDepth 65536 in
set_option maxHeartbeats 40000000 in
theorem rm1_4 (l : Launch) (Z : State) (a0 : Array Value) (hw : ∀ d ∈ tables_1, d.before a0 Z = true) (ws : List Jvm.Cond) (a1 : Addr) (k1 : ClassId) (ee0 : Int32) (ee1 : Int32) (ee2 : Int32) (ee3 : Int32) (h0 : Heap) (n0 : Nat) (Z0 : n0 ≤ h0.size) (VA : Arv Z h0 a1 k1 .byte (4 : Int32) [(.int ee0), (.int ee1), (.int ee2), (.int ee3)] (.int (0 : Int32))) :
    MetFree l own_y0 (head1 (Jvm.Cond.code own_y0 prog_22_method_2_code 1 (some .boolean) :: ws) own_R0_0_0_0) (fun a U => a = #[(.ref a1)] ∧ Z.Warmed39 U.vm ∧ U.heap = h0) (fun _ _ _ _ _ => True) (fun _ U o U' => ∃ v L, o = .returned v ∧ Q1_4 Z a1 k1 ee0 ee1 ee2 ee3 h0 n0 v U'.heap L ∧ FrameEnd U o U' L (own_R0_0_0_0).cells (own_R0_0_0_0).slots) := by
  refine MetFree.of_bodySF (plainFor_of_name pn_0) hisR ?_
  intro p e s m args below meth c s₁ Bd hml0 hP hK
  obtain ⟨rfl, hZ, hh⟩ := hP
  have hx := Bd.exec
  have hby := Bd.bytes
  have hml : c.maxLocals = 1 := hml0
  have hown : s.vm.findClass "com/example/portcullis/portcullis/io/MessageHeader" = some m.cls := findClass_of_methodNamed Bd.named
  have hnm := (name_of_methodNamed Bd.named Bd.method).1
  have hlk : meth.locks = false := BodyLoose.notSynchronized Bd
  have hrt := Bd.returns
  have X0 : Stand p l e own_R0_0_0_0 s m #[(.ref a1)] below meth c s₁ [] 0 0 := Stand.of_body Bd
  have e0 : s₁.heap = h0 := by rw [← hh, Bd.state]; rfl
  have N0 := Fr.nil n0
  refine (show Go p e below (fun s₂ o => ∃ v L, o = .returned v ∧ Q1_4 Z a1 k1 ee0 ee1 ee2 ee3 h0 n0 v s₂.heap L ∧ FrameEnd s o s₂ L 0 0) (s₁.setTop (entryFrame m #[(.ref a1)] 1)) from ?_)
  rw [ef1_4]
  obtain ⟨cl105, Ar105, q105, S105, N105, H105, G105⟩ := id VA
  refine Go.st (U' := s₁.setTop (mkF m 11 #[.val (.ref a1)] [(.int (71 : Int32)), (.int ee0)])) (fun t k => ?_) ?_
  · show Steps p.tables e below (s₁.setTop (mkF m 0 #[.val (.ref a1)] [])) _
    refine XS.aloadN X0.here hx rfl (hb hby d1_0) rfl rfl ?_
    show Steps p.tables e below (s₁.setTop (mkF m 1 #[.val (.ref a1)] [(.ref a1)])) _
    refine X0.arraylength hx (by rw [e0]; exact Ar105.1) (State.isArrayOf_alike hZ.alike Ar105.2.1) (g := (mkF m 1 #[.val (.ref a1)] [(.ref a1)])) rfl rfl (hb hby d1_1) _ ?_
    rw [len_of S105 N105]
    show Steps p.tables e below (s₁.setTop (mkF m 2 #[.val (.ref a1)] [(.int (4 : Int32))])) _
    refine XS.iconst X0.here hx rfl (hb hby d1_2) ?_
    show Steps p.tables e below (s₁.setTop (mkF m 3 #[.val (.ref a1)] [(.int (4 : Int32)), (.int (4 : Int32))])) _
    refine XS.icmpNo X0.here hx rfl (hb hby d1_3) rfl (flt (by decide : ¬ ((4 : Int32) < (4 : Int32)))).1 ?_
    show Steps p.tables e below (s₁.setTop (mkF m 6 #[.val (.ref a1)] [])) _
    refine XS.aloadN X0.here hx rfl (hb hby d1_6) rfl rfl ?_
    show Steps p.tables e below (s₁.setTop (mkF m 7 #[.val (.ref a1)] [(.ref a1)])) _
    refine XS.iconst X0.here hx rfl (hb hby d1_7) ?_
    show Steps p.tables e below (s₁.setTop (mkF m 8 #[.val (.ref a1)] [(.int (0 : Int32)), (.ref a1)])) _
    refine X0.baloadBytes hx (j := (0 : Int32)) (v := (.int ee0)) (by rw [e0]; exact Ar105.1) (State.isArrayOf_alike hZ.alike Ar105.2.1) Ar105.2.2 (inb_of (j := (0 : Int32)) S105 ⟨by decide, by decide⟩) (Has.at H105 (inb_of (j := (0 : Int32)) S105 ⟨by decide, by decide⟩) rfl) (g := (mkF m 8 #[.val (.ref a1)] [(.int (0 : Int32)), (.ref a1)])) rfl rfl (hb hby d1_8) _ ?_
    show Steps p.tables e below (s₁.setTop (mkF m 9 #[.val (.ref a1)] [(.int ee0)])) _
    refine XS.bipush X0.here hx rfl (hb hby d1_9) ?_
    exact k
  by_cases hc106 : ee0 = (71 : Int32)
  · refine Go.st (U' := s₁.setTop (mkF m 19 #[.val (.ref a1)] [(.int (73 : Int32)), (.int ee1)])) (fun t k => ?_) ?_
    · show Steps p.tables e below (s₁.setTop (mkF m 11 #[.val (.ref a1)] [(.int (71 : Int32)), (.int ee0)])) _
      refine XS.icmpNo X0.here hx rfl (hb hby d1_11) rfl (teq hc106).2 ?_
      show Steps p.tables e below (s₁.setTop (mkF m 14 #[.val (.ref a1)] [])) _
      refine XS.aloadN X0.here hx rfl (hb hby d1_14) rfl rfl ?_
      show Steps p.tables e below (s₁.setTop (mkF m 15 #[.val (.ref a1)] [(.ref a1)])) _
      refine XS.iconst X0.here hx rfl (hb hby d1_15) ?_
      show Steps p.tables e below (s₁.setTop (mkF m 16 #[.val (.ref a1)] [(.int (1 : Int32)), (.ref a1)])) _
      refine X0.baloadBytes hx (j := (1 : Int32)) (v := (.int ee1)) (by rw [e0]; exact Ar105.1) (State.isArrayOf_alike hZ.alike Ar105.2.1) Ar105.2.2 (inb_of (j := (1 : Int32)) S105 ⟨by decide, by decide⟩) (Has.at H105 (inb_of (j := (1 : Int32)) S105 ⟨by decide, by decide⟩) rfl) (g := (mkF m 16 #[.val (.ref a1)] [(.int (1 : Int32)), (.ref a1)])) rfl rfl (hb hby d1_16) _ ?_
      show Steps p.tables e below (s₁.setTop (mkF m 17 #[.val (.ref a1)] [(.int ee1)])) _
      refine XS.bipush X0.here hx rfl (hb hby d1_17) ?_
      exact k
    by_cases hc107 : ee1 = (73 : Int32)
    · refine Go.st (U' := s₁.setTop (mkF m 27 #[.val (.ref a1)] [(.int (79 : Int32)), (.int ee2)])) (fun t k => ?_) ?_
      · show Steps p.tables e below (s₁.setTop (mkF m 19 #[.val (.ref a1)] [(.int (73 : Int32)), (.int ee1)])) _
        refine XS.icmpNo X0.here hx rfl (hb hby d1_19) rfl (teq hc107).2 ?_
        show Steps p.tables e below (s₁.setTop (mkF m 22 #[.val (.ref a1)] [])) _
        refine XS.aloadN X0.here hx rfl (hb hby d1_22) rfl rfl ?_
        show Steps p.tables e below (s₁.setTop (mkF m 23 #[.val (.ref a1)] [(.ref a1)])) _
        refine XS.iconst X0.here hx rfl (hb hby d1_23) ?_
        show Steps p.tables e below (s₁.setTop (mkF m 24 #[.val (.ref a1)] [(.int (2 : Int32)), (.ref a1)])) _
        refine X0.baloadBytes hx (j := (2 : Int32)) (v := (.int ee2)) (by rw [e0]; exact Ar105.1) (State.isArrayOf_alike hZ.alike Ar105.2.1) Ar105.2.2 (inb_of (j := (2 : Int32)) S105 ⟨by decide, by decide⟩) (Has.at H105 (inb_of (j := (2 : Int32)) S105 ⟨by decide, by decide⟩) rfl) (g := (mkF m 24 #[.val (.ref a1)] [(.int (2 : Int32)), (.ref a1)])) rfl rfl (hb hby d1_24) _ ?_
        show Steps p.tables e below (s₁.setTop (mkF m 25 #[.val (.ref a1)] [(.int ee2)])) _
        refine XS.bipush X0.here hx rfl (hb hby d1_25) ?_
        exact k
      by_cases hc108 : ee2 = (79 : Int32)
      · refine Go.st (U' := s₁.setTop (mkF m 35 #[.val (.ref a1)] [(.int (80 : Int32)), (.int ee3)])) (fun t k => ?_) ?_
        · show Steps p.tables e below (s₁.setTop (mkF m 27 #[.val (.ref a1)] [(.int (79 : Int32)), (.int ee2)])) _
          refine XS.icmpNo X0.here hx rfl (hb hby d1_27) rfl (teq hc108).2 ?_
          show Steps p.tables e below (s₁.setTop (mkF m 30 #[.val (.ref a1)] [])) _
          refine XS.aloadN X0.here hx rfl (hb hby d1_30) rfl rfl ?_
          show Steps p.tables e below (s₁.setTop (mkF m 31 #[.val (.ref a1)] [(.ref a1)])) _
          refine XS.iconst X0.here hx rfl (hb hby d1_31) ?_
          show Steps p.tables e below (s₁.setTop (mkF m 32 #[.val (.ref a1)] [(.int (3 : Int32)), (.ref a1)])) _
          refine X0.baloadBytes hx (j := (3 : Int32)) (v := (.int ee3)) (by rw [e0]; exact Ar105.1) (State.isArrayOf_alike hZ.alike Ar105.2.1) Ar105.2.2 (inb_of (j := (3 : Int32)) S105 ⟨by decide, by decide⟩) (Has.at H105 (inb_of (j := (3 : Int32)) S105 ⟨by decide, by decide⟩) rfl) (g := (mkF m 32 #[.val (.ref a1)] [(.int (3 : Int32)), (.ref a1)])) rfl rfl (hb hby d1_32) _ ?_
          show Steps p.tables e below (s₁.setTop (mkF m 33 #[.val (.ref a1)] [(.int ee3)])) _
          refine XS.bipush X0.here hx rfl (hb hby d1_33) ?_
          exact k
        by_cases hc109 : ee3 = (80 : Int32)
        · refine Go.st (U' := s₁.setTop (mkF m 43 #[.val (.ref a1)] [(.int (1 : Int32))])) (fun t k => ?_) ?_
          · show Steps p.tables e below (s₁.setTop (mkF m 35 #[.val (.ref a1)] [(.int (80 : Int32)), (.int ee3)])) _
            refine XS.icmpNo X0.here hx rfl (hb hby d1_35) rfl (teq hc109).2 ?_
            show Steps p.tables e below (s₁.setTop (mkF m 38 #[.val (.ref a1)] [])) _
            refine XS.iconst X0.here hx rfl (hb hby d1_38) ?_
            show Steps p.tables e below (s₁.setTop (mkF m 39 #[.val (.ref a1)] [(.int (1 : Int32))])) _
            refine XS.goto X0.here hx rfl (pc0 := 39) (pc' := 43) rfl (hb hby d1_39) (by decide) (by decide) ?_
            exact k
          refine own_ret (Q := Q1_4 Z a1 k1 ee0 ee1 ee2 ee3 h0 n0) (v := some (.int (1 : Int32))) X0 hlk (fun h => by rw [hrt] at h; cases h) (by decide) (by decide) ?_ (fun fs hr => retN X0 hx (t := .boolean) hrt (by simp) (hb hby d1_43) hr)
          rw [e0]
          exact ⟨(by first | rfl | simp only [g4, if_pos hc106, if_pos hc107, if_pos hc108, if_pos hc109]), N0, rfl⟩
        · refine Go.st (U' := s₁.setTop (mkF m 43 #[.val (.ref a1)] [(.int (0 : Int32))])) (fun t k => ?_) ?_
          · show Steps p.tables e below (s₁.setTop (mkF m 35 #[.val (.ref a1)] [(.int (80 : Int32)), (.int ee3)])) _
            refine XS.icmpYes X0.here hx rfl (pc0 := 35) (pc' := 42) rfl (hb hby d1_35) rfl (feq hc109).2 (by decide) (by decide) ?_
            show Steps p.tables e below (s₁.setTop (mkF m 42 #[.val (.ref a1)] [])) _
            refine XS.iconst X0.here hx rfl (hb hby d1_42) ?_
            exact k
          refine own_ret (Q := Q1_4 Z a1 k1 ee0 ee1 ee2 ee3 h0 n0) (v := some (.int (0 : Int32))) X0 hlk (fun h => by rw [hrt] at h; cases h) (by decide) (by decide) ?_ (fun fs hr => retN X0 hx (t := .boolean) hrt (by simp) (hb hby d1_43) hr)
          rw [e0]
          exact ⟨(by first | rfl | simp only [g4, if_pos hc106, if_pos hc107, if_pos hc108, if_neg hc109]), N0, rfl⟩
      · refine Go.st (U' := s₁.setTop (mkF m 43 #[.val (.ref a1)] [(.int (0 : Int32))])) (fun t k => ?_) ?_
        · show Steps p.tables e below (s₁.setTop (mkF m 27 #[.val (.ref a1)] [(.int (79 : Int32)), (.int ee2)])) _
          refine XS.icmpYes X0.here hx rfl (pc0 := 27) (pc' := 42) rfl (hb hby d1_27) rfl (feq hc108).2 (by decide) (by decide) ?_
          show Steps p.tables e below (s₁.setTop (mkF m 42 #[.val (.ref a1)] [])) _
          refine XS.iconst X0.here hx rfl (hb hby d1_42) ?_
          exact k
        refine own_ret (Q := Q1_4 Z a1 k1 ee0 ee1 ee2 ee3 h0 n0) (v := some (.int (0 : Int32))) X0 hlk (fun h => by rw [hrt] at h; cases h) (by decide) (by decide) ?_ (fun fs hr => retN X0 hx (t := .boolean) hrt (by simp) (hb hby d1_43) hr)
        rw [e0]
        exact ⟨(by first | rfl | simp only [g4, if_pos hc106, if_pos hc107, if_neg hc108]), N0, rfl⟩
    · refine Go.st (U' := s₁.setTop (mkF m 43 #[.val (.ref a1)] [(.int (0 : Int32))])) (fun t k => ?_) ?_
      · show Steps p.tables e below (s₁.setTop (mkF m 19 #[.val (.ref a1)] [(.int (73 : Int32)), (.int ee1)])) _
        refine XS.icmpYes X0.here hx rfl (pc0 := 19) (pc' := 42) rfl (hb hby d1_19) rfl (feq hc107).2 (by decide) (by decide) ?_
        show Steps p.tables e below (s₁.setTop (mkF m 42 #[.val (.ref a1)] [])) _
        refine XS.iconst X0.here hx rfl (hb hby d1_42) ?_
        exact k
      refine own_ret (Q := Q1_4 Z a1 k1 ee0 ee1 ee2 ee3 h0 n0) (v := some (.int (0 : Int32))) X0 hlk (fun h => by rw [hrt] at h; cases h) (by decide) (by decide) ?_ (fun fs hr => retN X0 hx (t := .boolean) hrt (by simp) (hb hby d1_43) hr)
      rw [e0]
      exact ⟨(by first | rfl | simp only [g4, if_pos hc106, if_neg hc107]), N0, rfl⟩
  · refine Go.st (U' := s₁.setTop (mkF m 43 #[.val (.ref a1)] [(.int (0 : Int32))])) (fun t k => ?_) ?_
    · show Steps p.tables e below (s₁.setTop (mkF m 11 #[.val (.ref a1)] [(.int (71 : Int32)), (.int ee0)])) _
      refine XS.icmpYes X0.here hx rfl (pc0 := 11) (pc' := 42) rfl (hb hby d1_11) rfl (feq hc106).2 (by decide) (by decide) ?_
      show Steps p.tables e below (s₁.setTop (mkF m 42 #[.val (.ref a1)] [])) _
      refine XS.iconst X0.here hx rfl (hb hby d1_42) ?_
      exact k
    refine own_ret (Q := Q1_4 Z a1 k1 ee0 ee1 ee2 ee3 h0 n0) (v := some (.int (0 : Int32))) X0 hlk (fun h => by rw [hrt] at h; cases h) (by decide) (by decide) ?_ (fun fs hr => retN X0 hx (t := .boolean) hrt (by simp) (hb hby d1_43) hr)
    rw [e0]
    exact ⟨(by first | rfl | simp only [g4, if_neg hc106]), N0, rfl⟩
theorem ef1_5 (m : MethodId) (a1 : Addr) : entryFrame m #[(.ref a1)] 1 = mkF m 0 #[.val (.ref a1)] [] := by first | (simp [entryFrame, mkF, argsToLocals, Value.category]; done) | rfl
def g5 (ee0 : Int32) (ee1 : Int32) (ee2 : Int32) (ee3 : Int32) : Int32 := (if ee0 = (71 : Int32) then (if ee1 = (73 : Int32) then (if ee2 = (79 : Int32) then (if ee3 = (80 : Int32) then (1 : Int32) else (0 : Int32)) else (0 : Int32)) else (0 : Int32)) else (0 : Int32))
def Q1_5 (Z : State) (a1 : Addr) (k1 : ClassId) (ee0 : Int32) (ee1 : Int32) (ee2 : Int32) (ee3 : Int32) (ee4 : Int32) (h0 : Heap) (n0 : Nat) (v : Option Value) (h : Heap) (L : List Loc) : Prop := v = some (.int (g5 ee0 ee1 ee2 ee3)) ∧ Fr n0 L ∧ h = h0
set_option maxRecDepth 65536 in
set_option maxHeartbeats 40000000 in
theorem rm1_5 (l : Launch) (Z : State) (a0 : Array Value) (hw : ∀ d ∈ tables_1, d.before a0 Z = true) (ws : List Jvm.Cond) (a1 : Addr) (k1 : ClassId) (ee0 : Int32) (ee1 : Int32) (ee2 : Int32) (ee3 : Int32) (ee4 : Int32) (h0 : Heap) (n0 : Nat) (Z0 : n0 ≤ h0.size) (VA : Arv Z h0 a1 k1 .byte (5 : Int32) [(.int ee0), (.int ee1), (.int ee2), (.int ee3), (.int ee4)] (.int (0 : Int32))) :
    MetFree l own_y0 (head1 (Jvm.Cond.code own_y0 prog_22_method_2_code 1 (some .boolean) :: ws) own_R0_0_0_0) (fun a U => a = #[(.ref a1)] ∧ Z.Warmed39 U.vm ∧ U.heap = h0) (fun _ _ _ _ _ => True) (fun _ U o U' => ∃ v L, o = .returned v ∧ Q1_5 Z a1 k1 ee0 ee1 ee2 ee3 ee4 h0 n0 v U'.heap L ∧ FrameEnd U o U' L (own_R0_0_0_0).cells (own_R0_0_0_0).slots) := by
  refine MetFree.of_bodySF (plainFor_of_name pn_0) hisR ?_
  intro p e s m args below meth c s₁ Bd hml0 hP hK
  obtain ⟨rfl, hZ, hh⟩ := hP
  have hx := Bd.exec
  have hby := Bd.bytes
  have hml : c.maxLocals = 1 := hml0
  have hown : s.vm.findClass "com/example/portcullis/portcullis/io/MessageHeader" = some m.cls := findClass_of_methodNamed Bd.named
  have hnm := (name_of_methodNamed Bd.named Bd.method).1
  have hlk : meth.locks = false := BodyLoose.notSynchronized Bd
  have hrt := Bd.returns
  have X0 : Stand p l e own_R0_0_0_0 s m #[(.ref a1)] below meth c s₁ [] 0 0 := Stand.of_body Bd
  have e0 : s₁.heap = h0 := by rw [← hh, Bd.state]; rfl
  have N0 := Fr.nil n0
  refine (show Go p e below (fun s₂ o => ∃ v L, o = .returned v ∧ Q1_5 Z a1 k1 ee0 ee1 ee2 ee3 ee4 h0 n0 v s₂.heap L ∧ FrameEnd s o s₂ L 0 0) (s₁.setTop (entryFrame m #[(.ref a1)] 1)) from ?_)
  rw [ef1_5]
  obtain ⟨cl110, Ar110, q110, S110, N110, H110, G110⟩ := id VA
  refine Go.st (U' := s₁.setTop (mkF m 11 #[.val (.ref a1)] [(.int (71 : Int32)), (.int ee0)])) (fun t k => ?_) ?_
  · show Steps p.tables e below (s₁.setTop (mkF m 0 #[.val (.ref a1)] [])) _
    refine XS.aloadN X0.here hx rfl (hb hby d1_0) rfl rfl ?_
    show Steps p.tables e below (s₁.setTop (mkF m 1 #[.val (.ref a1)] [(.ref a1)])) _
    refine X0.arraylength hx (by rw [e0]; exact Ar110.1) (State.isArrayOf_alike hZ.alike Ar110.2.1) (g := (mkF m 1 #[.val (.ref a1)] [(.ref a1)])) rfl rfl (hb hby d1_1) _ ?_
    rw [len_of S110 N110]
    show Steps p.tables e below (s₁.setTop (mkF m 2 #[.val (.ref a1)] [(.int (5 : Int32))])) _
    refine XS.iconst X0.here hx rfl (hb hby d1_2) ?_
    show Steps p.tables e below (s₁.setTop (mkF m 3 #[.val (.ref a1)] [(.int (4 : Int32)), (.int (5 : Int32))])) _
    refine XS.icmpNo X0.here hx rfl (hb hby d1_3) rfl (flt (by decide : ¬ ((5 : Int32) < (4 : Int32)))).1 ?_
    show Steps p.tables e below (s₁.setTop (mkF m 6 #[.val (.ref a1)] [])) _
    refine XS.aloadN X0.here hx rfl (hb hby d1_6) rfl rfl ?_
    show Steps p.tables e below (s₁.setTop (mkF m 7 #[.val (.ref a1)] [(.ref a1)])) _
    refine XS.iconst X0.here hx rfl (hb hby d1_7) ?_
    show Steps p.tables e below (s₁.setTop (mkF m 8 #[.val (.ref a1)] [(.int (0 : Int32)), (.ref a1)])) _
    refine X0.baloadBytes hx (j := (0 : Int32)) (v := (.int ee0)) (by rw [e0]; exact Ar110.1) (State.isArrayOf_alike hZ.alike Ar110.2.1) Ar110.2.2 (inb_of (j := (0 : Int32)) S110 ⟨by decide, by decide⟩) (Has.at H110 (inb_of (j := (0 : Int32)) S110 ⟨by decide, by decide⟩) rfl) (g := (mkF m 8 #[.val (.ref a1)] [(.int (0 : Int32)), (.ref a1)])) rfl rfl (hb hby d1_8) _ ?_
    show Steps p.tables e below (s₁.setTop (mkF m 9 #[.val (.ref a1)] [(.int ee0)])) _
    refine XS.bipush X0.here hx rfl (hb hby d1_9) ?_
    exact k
  by_cases hc111 : ee0 = (71 : Int32)
  · refine Go.st (U' := s₁.setTop (mkF m 19 #[.val (.ref a1)] [(.int (73 : Int32)), (.int ee1)])) (fun t k => ?_) ?_
    · show Steps p.tables e below (s₁.setTop (mkF m 11 #[.val (.ref a1)] [(.int (71 : Int32)), (.int ee0)])) _
      refine XS.icmpNo X0.here hx rfl (hb hby d1_11) rfl (teq hc111).2 ?_
      show Steps p.tables e below (s₁.setTop (mkF m 14 #[.val (.ref a1)] [])) _
      refine XS.aloadN X0.here hx rfl (hb hby d1_14) rfl rfl ?_
      show Steps p.tables e below (s₁.setTop (mkF m 15 #[.val (.ref a1)] [(.ref a1)])) _
      refine XS.iconst X0.here hx rfl (hb hby d1_15) ?_
      show Steps p.tables e below (s₁.setTop (mkF m 16 #[.val (.ref a1)] [(.int (1 : Int32)), (.ref a1)])) _
      refine X0.baloadBytes hx (j := (1 : Int32)) (v := (.int ee1)) (by rw [e0]; exact Ar110.1) (State.isArrayOf_alike hZ.alike Ar110.2.1) Ar110.2.2 (inb_of (j := (1 : Int32)) S110 ⟨by decide, by decide⟩) (Has.at H110 (inb_of (j := (1 : Int32)) S110 ⟨by decide, by decide⟩) rfl) (g := (mkF m 16 #[.val (.ref a1)] [(.int (1 : Int32)), (.ref a1)])) rfl rfl (hb hby d1_16) _ ?_
      show Steps p.tables e below (s₁.setTop (mkF m 17 #[.val (.ref a1)] [(.int ee1)])) _
      refine XS.bipush X0.here hx rfl (hb hby d1_17) ?_
      exact k
    by_cases hc112 : ee1 = (73 : Int32)
    · refine Go.st (U' := s₁.setTop (mkF m 27 #[.val (.ref a1)] [(.int (79 : Int32)), (.int ee2)])) (fun t k => ?_) ?_
      · show Steps p.tables e below (s₁.setTop (mkF m 19 #[.val (.ref a1)] [(.int (73 : Int32)), (.int ee1)])) _
        refine XS.icmpNo X0.here hx rfl (hb hby d1_19) rfl (teq hc112).2 ?_
        show Steps p.tables e below (s₁.setTop (mkF m 22 #[.val (.ref a1)] [])) _
        refine XS.aloadN X0.here hx rfl (hb hby d1_22) rfl rfl ?_
        show Steps p.tables e below (s₁.setTop (mkF m 23 #[.val (.ref a1)] [(.ref a1)])) _
        refine XS.iconst X0.here hx rfl (hb hby d1_23) ?_
        show Steps p.tables e below (s₁.setTop (mkF m 24 #[.val (.ref a1)] [(.int (2 : Int32)), (.ref a1)])) _
        refine X0.baloadBytes hx (j := (2 : Int32)) (v := (.int ee2)) (by rw [e0]; exact Ar110.1) (State.isArrayOf_alike hZ.alike Ar110.2.1) Ar110.2.2 (inb_of (j := (2 : Int32)) S110 ⟨by decide, by decide⟩) (Has.at H110 (inb_of (j := (2 : Int32)) S110 ⟨by decide, by decide⟩) rfl) (g := (mkF m 24 #[.val (.ref a1)] [(.int (2 : Int32)), (.ref a1)])) rfl rfl (hb hby d1_24) _ ?_
        show Steps p.tables e below (s₁.setTop (mkF m 25 #[.val (.ref a1)] [(.int ee2)])) _
        refine XS.bipush X0.here hx rfl (hb hby d1_25) ?_
        exact k
      by_cases hc113 : ee2 = (79 : Int32)
      · refine Go.st (U' := s₁.setTop (mkF m 35 #[.val (.ref a1)] [(.int (80 : Int32)), (.int ee3)])) (fun t k => ?_) ?_
        · show Steps p.tables e below (s₁.setTop (mkF m 27 #[.val (.ref a1)] [(.int (79 : Int32)), (.int ee2)])) _
          refine XS.icmpNo X0.here hx rfl (hb hby d1_27) rfl (teq hc113).2 ?_
          show Steps p.tables e below (s₁.setTop (mkF m 30 #[.val (.ref a1)] [])) _
          refine XS.aloadN X0.here hx rfl (hb hby d1_30) rfl rfl ?_
          show Steps p.tables e below (s₁.setTop (mkF m 31 #[.val (.ref a1)] [(.ref a1)])) _
          refine XS.iconst X0.here hx rfl (hb hby d1_31) ?_
          show Steps p.tables e below (s₁.setTop (mkF m 32 #[.val (.ref a1)] [(.int (3 : Int32)), (.ref a1)])) _
          refine X0.baloadBytes hx (j := (3 : Int32)) (v := (.int ee3)) (by rw [e0]; exact Ar110.1) (State.isArrayOf_alike hZ.alike Ar110.2.1) Ar110.2.2 (inb_of (j := (3 : Int32)) S110 ⟨by decide, by decide⟩) (Has.at H110 (inb_of (j := (3 : Int32)) S110 ⟨by decide, by decide⟩) rfl) (g := (mkF m 32 #[.val (.ref a1)] [(.int (3 : Int32)), (.ref a1)])) rfl rfl (hb hby d1_32) _ ?_
          show Steps p.tables e below (s₁.setTop (mkF m 33 #[.val (.ref a1)] [(.int ee3)])) _
          refine XS.bipush X0.here hx rfl (hb hby d1_33) ?_
          exact k
        by_cases hc114 : ee3 = (80 : Int32)
        · refine Go.st (U' := s₁.setTop (mkF m 43 #[.val (.ref a1)] [(.int (1 : Int32))])) (fun t k => ?_) ?_
          · show Steps p.tables e below (s₁.setTop (mkF m 35 #[.val (.ref a1)] [(.int (80 : Int32)), (.int ee3)])) _
            refine XS.icmpNo X0.here hx rfl (hb hby d1_35) rfl (teq hc114).2 ?_
            show Steps p.tables e below (s₁.setTop (mkF m 38 #[.val (.ref a1)] [])) _
            refine XS.iconst X0.here hx rfl (hb hby d1_38) ?_
            show Steps p.tables e below (s₁.setTop (mkF m 39 #[.val (.ref a1)] [(.int (1 : Int32))])) _
            refine XS.goto X0.here hx rfl (pc0 := 39) (pc' := 43) rfl (hb hby d1_39) (by decide) (by decide) ?_
            exact k
          refine own_ret (Q := Q1_5 Z a1 k1 ee0 ee1 ee2 ee3 ee4 h0 n0) (v := some (.int (1 : Int32))) X0 hlk (fun h => by rw [hrt] at h; cases h) (by decide) (by decide) ?_ (fun fs hr => retN X0 hx (t := .boolean) hrt (by simp) (hb hby d1_43) hr)
          rw [e0]
          exact ⟨(by first | rfl | simp only [g5, if_pos hc111, if_pos hc112, if_pos hc113, if_pos hc114]), N0, rfl⟩
        · refine Go.st (U' := s₁.setTop (mkF m 43 #[.val (.ref a1)] [(.int (0 : Int32))])) (fun t k => ?_) ?_
          · show Steps p.tables e below (s₁.setTop (mkF m 35 #[.val (.ref a1)] [(.int (80 : Int32)), (.int ee3)])) _
            refine XS.icmpYes X0.here hx rfl (pc0 := 35) (pc' := 42) rfl (hb hby d1_35) rfl (feq hc114).2 (by decide) (by decide) ?_
            show Steps p.tables e below (s₁.setTop (mkF m 42 #[.val (.ref a1)] [])) _
            refine XS.iconst X0.here hx rfl (hb hby d1_42) ?_
            exact k
          refine own_ret (Q := Q1_5 Z a1 k1 ee0 ee1 ee2 ee3 ee4 h0 n0) (v := some (.int (0 : Int32))) X0 hlk (fun h => by rw [hrt] at h; cases h) (by decide) (by decide) ?_ (fun fs hr => retN X0 hx (t := .boolean) hrt (by simp) (hb hby d1_43) hr)
          rw [e0]
          exact ⟨(by first | rfl | simp only [g5, if_pos hc111, if_pos hc112, if_pos hc113, if_neg hc114]), N0, rfl⟩
      · refine Go.st (U' := s₁.setTop (mkF m 43 #[.val (.ref a1)] [(.int (0 : Int32))])) (fun t k => ?_) ?_
        · show Steps p.tables e below (s₁.setTop (mkF m 27 #[.val (.ref a1)] [(.int (79 : Int32)), (.int ee2)])) _
          refine XS.icmpYes X0.here hx rfl (pc0 := 27) (pc' := 42) rfl (hb hby d1_27) rfl (feq hc113).2 (by decide) (by decide) ?_
          show Steps p.tables e below (s₁.setTop (mkF m 42 #[.val (.ref a1)] [])) _
          refine XS.iconst X0.here hx rfl (hb hby d1_42) ?_
          exact k
        refine own_ret (Q := Q1_5 Z a1 k1 ee0 ee1 ee2 ee3 ee4 h0 n0) (v := some (.int (0 : Int32))) X0 hlk (fun h => by rw [hrt] at h; cases h) (by decide) (by decide) ?_ (fun fs hr => retN X0 hx (t := .boolean) hrt (by simp) (hb hby d1_43) hr)
        rw [e0]
        exact ⟨(by first | rfl | simp only [g5, if_pos hc111, if_pos hc112, if_neg hc113]), N0, rfl⟩
    · refine Go.st (U' := s₁.setTop (mkF m 43 #[.val (.ref a1)] [(.int (0 : Int32))])) (fun t k => ?_) ?_
      · show Steps p.tables e below (s₁.setTop (mkF m 19 #[.val (.ref a1)] [(.int (73 : Int32)), (.int ee1)])) _
        refine XS.icmpYes X0.here hx rfl (pc0 := 19) (pc' := 42) rfl (hb hby d1_19) rfl (feq hc112).2 (by decide) (by decide) ?_
        show Steps p.tables e below (s₁.setTop (mkF m 42 #[.val (.ref a1)] [])) _
        refine XS.iconst X0.here hx rfl (hb hby d1_42) ?_
        exact k
      refine own_ret (Q := Q1_5 Z a1 k1 ee0 ee1 ee2 ee3 ee4 h0 n0) (v := some (.int (0 : Int32))) X0 hlk (fun h => by rw [hrt] at h; cases h) (by decide) (by decide) ?_ (fun fs hr => retN X0 hx (t := .boolean) hrt (by simp) (hb hby d1_43) hr)
      rw [e0]
      exact ⟨(by first | rfl | simp only [g5, if_pos hc111, if_neg hc112]), N0, rfl⟩
  · refine Go.st (U' := s₁.setTop (mkF m 43 #[.val (.ref a1)] [(.int (0 : Int32))])) (fun t k => ?_) ?_
    · show Steps p.tables e below (s₁.setTop (mkF m 11 #[.val (.ref a1)] [(.int (71 : Int32)), (.int ee0)])) _
      refine XS.icmpYes X0.here hx rfl (pc0 := 11) (pc' := 42) rfl (hb hby d1_11) rfl (feq hc111).2 (by decide) (by decide) ?_
      show Steps p.tables e below (s₁.setTop (mkF m 42 #[.val (.ref a1)] [])) _
      refine XS.iconst X0.here hx rfl (hb hby d1_42) ?_
      exact k
    refine own_ret (Q := Q1_5 Z a1 k1 ee0 ee1 ee2 ee3 ee4 h0 n0) (v := some (.int (0 : Int32))) X0 hlk (fun h => by rw [hrt] at h; cases h) (by decide) (by decide) ?_ (fun fs hr => retN X0 hx (t := .boolean) hrt (by simp) (hb hby d1_43) hr)
    rw [e0]
    exact ⟨(by first | rfl | simp only [g5, if_neg hc111]), N0, rfl⟩
theorem ef1_6 (m : MethodId) (a1 : Addr) : entryFrame m #[(.ref a1)] 1 = mkF m 0 #[.val (.ref a1)] [] := by first | (simp [entryFrame, mkF, argsToLocals, Value.category]; done) | rfl
def g6 (ee0 : Int32) (ee1 : Int32) (ee2 : Int32) (ee3 : Int32) : Int32 := (if ee0 = (71 : Int32) then (if ee1 = (73 : Int32) then (if ee2 = (79 : Int32) then (if ee3 = (80 : Int32) then (1 : Int32) else (0 : Int32)) else (0 : Int32)) else (0 : Int32)) else (0 : Int32))
def Q1_6 (Z : State) (a1 : Addr) (k1 : ClassId) (ee0 : Int32) (ee1 : Int32) (ee2 : Int32) (ee3 : Int32) (ee4 : Int32) (ee5 : Int32) (h0 : Heap) (n0 : Nat) (v : Option Value) (h : Heap) (L : List Loc) : Prop := v = some (.int (g6 ee0 ee1 ee2 ee3)) ∧ Fr n0 L ∧ h = h0
set_option maxRecDepth 65536 in
set_option maxHeartbeats 40000000 in
theorem rm1_6 (l : Launch) (Z : State) (a0 : Array Value) (hw : ∀ d ∈ tables_1, d.before a0 Z = true) (ws : List Jvm.Cond) (a1 : Addr) (k1 : ClassId) (ee0 : Int32) (ee1 : Int32) (ee2 : Int32) (ee3 : Int32) (ee4 : Int32) (ee5 : Int32) (h0 : Heap) (n0 : Nat) (Z0 : n0 ≤ h0.size) (VA : Arv Z h0 a1 k1 .byte (6 : Int32) [(.int ee0), (.int ee1), (.int ee2), (.int ee3), (.int ee4), (.int ee5)] (.int (0 : Int32))) :
    MetFree l own_y0 (head1 (Jvm.Cond.code own_y0 prog_22_method_2_code 1 (some .boolean) :: ws) own_R0_0_0_0) (fun a U => a = #[(.ref a1)] ∧ Z.Warmed39 U.vm ∧ U.heap = h0) (fun _ _ _ _ _ => True) (fun _ U o U' => ∃ v L, o = .returned v ∧ Q1_6 Z a1 k1 ee0 ee1 ee2 ee3 ee4 ee5 h0 n0 v U'.heap L ∧ FrameEnd U o U' L (own_R0_0_0_0).cells (own_R0_0_0_0).slots) := by
  refine MetFree.of_bodySF (plainFor_of_name pn_0) hisR ?_
  intro p e s m args below meth c s₁ Bd hml0 hP hK
  obtain ⟨rfl, hZ, hh⟩ := hP
  have hx := Bd.exec
  have hby := Bd.bytes
  have hml : c.maxLocals = 1 := hml0
  have hown : s.vm.findClass "com/example/portcullis/portcullis/io/MessageHeader" = some m.cls := findClass_of_methodNamed Bd.named
  have hnm := (name_of_methodNamed Bd.named Bd.method).1
  have hlk : meth.locks = false := BodyLoose.notSynchronized Bd
  have hrt := Bd.returns
  have X0 : Stand p l e own_R0_0_0_0 s m #[(.ref a1)] below meth c s₁ [] 0 0 := Stand.of_body Bd
  have e0 : s₁.heap = h0 := by rw [← hh, Bd.state]; rfl
  have N0 := Fr.nil n0
  refine (show Go p e below (fun s₂ o => ∃ v L, o = .returned v ∧ Q1_6 Z a1 k1 ee0 ee1 ee2 ee3 ee4 ee5 h0 n0 v s₂.heap L ∧ FrameEnd s o s₂ L 0 0) (s₁.setTop (entryFrame m #[(.ref a1)] 1)) from ?_)
  rw [ef1_6]
  obtain ⟨cl115, Ar115, q115, S115, N115, H115, G115⟩ := id VA
  refine Go.st (U' := s₁.setTop (mkF m 11 #[.val (.ref a1)] [(.int (71 : Int32)), (.int ee0)])) (fun t k => ?_) ?_
  · show Steps p.tables e below (s₁.setTop (mkF m 0 #[.val (.ref a1)] [])) _
    refine XS.aloadN X0.here hx rfl (hb hby d1_0) rfl rfl ?_
    show Steps p.tables e below (s₁.setTop (mkF m 1 #[.val (.ref a1)] [(.ref a1)])) _
    refine X0.arraylength hx (by rw [e0]; exact Ar115.1) (State.isArrayOf_alike hZ.alike Ar115.2.1) (g := (mkF m 1 #[.val (.ref a1)] [(.ref a1)])) rfl rfl (hb hby d1_1) _ ?_
    rw [len_of S115 N115]
    show Steps p.tables e below (s₁.setTop (mkF m 2 #[.val (.ref a1)] [(.int (6 : Int32))])) _
    refine XS.iconst X0.here hx rfl (hb hby d1_2) ?_
    show Steps p.tables e below (s₁.setTop (mkF m 3 #[.val (.ref a1)] [(.int (4 : Int32)), (.int (6 : Int32))])) _
    refine XS.icmpNo X0.here hx rfl (hb hby d1_3) rfl (flt (by decide : ¬ ((6 : Int32) < (4 : Int32)))).1 ?_
    show Steps p.tables e below (s₁.setTop (mkF m 6 #[.val (.ref a1)] [])) _
    refine XS.aloadN X0.here hx rfl (hb hby d1_6) rfl rfl ?_
    show Steps p.tables e below (s₁.setTop (mkF m 7 #[.val (.ref a1)] [(.ref a1)])) _
    refine XS.iconst X0.here hx rfl (hb hby d1_7) ?_
    show Steps p.tables e below (s₁.setTop (mkF m 8 #[.val (.ref a1)] [(.int (0 : Int32)), (.ref a1)])) _
    refine X0.baloadBytes hx (j := (0 : Int32)) (v := (.int ee0)) (by rw [e0]; exact Ar115.1) (State.isArrayOf_alike hZ.alike Ar115.2.1) Ar115.2.2 (inb_of (j := (0 : Int32)) S115 ⟨by decide, by decide⟩) (Has.at H115 (inb_of (j := (0 : Int32)) S115 ⟨by decide, by decide⟩) rfl) (g := (mkF m 8 #[.val (.ref a1)] [(.int (0 : Int32)), (.ref a1)])) rfl rfl (hb hby d1_8) _ ?_
    show Steps p.tables e below (s₁.setTop (mkF m 9 #[.val (.ref a1)] [(.int ee0)])) _
    refine XS.bipush X0.here hx rfl (hb hby d1_9) ?_
    exact k
  by_cases hc116 : ee0 = (71 : Int32)
  · refine Go.st (U' := s₁.setTop (mkF m 19 #[.val (.ref a1)] [(.int (73 : Int32)), (.int ee1)])) (fun t k => ?_) ?_
    · show Steps p.tables e below (s₁.setTop (mkF m 11 #[.val (.ref a1)] [(.int (71 : Int32)), (.int ee0)])) _
      refine XS.icmpNo X0.here hx rfl (hb hby d1_11) rfl (teq hc116).2 ?_
      show Steps p.tables e below (s₁.setTop (mkF m 14 #[.val (.ref a1)] [])) _
      refine XS.aloadN X0.here hx rfl (hb hby d1_14) rfl rfl ?_
      show Steps p.tables e below (s₁.setTop (mkF m 15 #[.val (.ref a1)] [(.ref a1)])) _
      refine XS.iconst X0.here hx rfl (hb hby d1_15) ?_
      show Steps p.tables e below (s₁.setTop (mkF m 16 #[.val (.ref a1)] [(.int (1 : Int32)), (.ref a1)])) _
      refine X0.baloadBytes hx (j := (1 : Int32)) (v := (.int ee1)) (by rw [e0]; exact Ar115.1) (State.isArrayOf_alike hZ.alike Ar115.2.1) Ar115.2.2 (inb_of (j := (1 : Int32)) S115 ⟨by decide, by decide⟩) (Has.at H115 (inb_of (j := (1 : Int32)) S115 ⟨by decide, by decide⟩) rfl) (g := (mkF m 16 #[.val (.ref a1)] [(.int (1 : Int32)), (.ref a1)])) rfl rfl (hb hby d1_16) _ ?_
      show Steps p.tables e below (s₁.setTop (mkF m 17 #[.val (.ref a1)] [(.int ee1)])) _
      refine XS.bipush X0.here hx rfl (hb hby d1_17) ?_
      exact k
    by_cases hc117 : ee1 = (73 : Int32)
    · refine Go.st (U' := s₁.setTop (mkF m 27 #[.val (.ref a1)] [(.int (79 : Int32)), (.int ee2)])) (fun t k => ?_) ?_
      · show Steps p.tables e below (s₁.setTop (mkF m 19 #[.val (.ref a1)] [(.int (73 : Int32)), (.int ee1)])) _
        refine XS.icmpNo X0.here hx rfl (hb hby d1_19) rfl (teq hc117).2 ?_
        show Steps p.tables e below (s₁.setTop (mkF m 22 #[.val (.ref a1)] [])) _
        refine XS.aloadN X0.here hx rfl (hb hby d1_22) rfl rfl ?_
        show Steps p.tables e below (s₁.setTop (mkF m 23 #[.val (.ref a1)] [(.ref a1)])) _
        refine XS.iconst X0.here hx rfl (hb hby d1_23) ?_
        show Steps p.tables e below (s₁.setTop (mkF m 24 #[.val (.ref a1)] [(.int (2 : Int32)), (.ref a1)])) _
        refine X0.baloadBytes hx (j := (2 : Int32)) (v := (.int ee2)) (by rw [e0]; exact Ar115.1) (State.isArrayOf_alike hZ.alike Ar115.2.1) Ar115.2.2 (inb_of (j := (2 : Int32)) S115 ⟨by decide, by decide⟩) (Has.at H115 (inb_of (j := (2 : Int32)) S115 ⟨by decide, by decide⟩) rfl) (g := (mkF m 24 #[.val (.ref a1)] [(.int (2 : Int32)), (.ref a1)])) rfl rfl (hb hby d1_24) _ ?_
        show Steps p.tables e below (s₁.setTop (mkF m 25 #[.val (.ref a1)] [(.int ee2)])) _
        refine XS.bipush X0.here hx rfl (hb hby d1_25) ?_
        exact k
      by_cases hc118 : ee2 = (79 : Int32)
      · refine Go.st (U' := s₁.setTop (mkF m 35 #[.val (.ref a1)] [(.int (80 : Int32)), (.int ee3)])) (fun t k => ?_) ?_
        · show Steps p.tables e below (s₁.setTop (mkF m 27 #[.val (.ref a1)] [(.int (79 : Int32)), (.int ee2)])) _
          refine XS.icmpNo X0.here hx rfl (hb hby d1_27) rfl (teq hc118).2 ?_
          show Steps p.tables e below (s₁.setTop (mkF m 30 #[.val (.ref a1)] [])) _
          refine XS.aloadN X0.here hx rfl (hb hby d1_30) rfl rfl ?_
          show Steps p.tables e below (s₁.setTop (mkF m 31 #[.val (.ref a1)] [(.ref a1)])) _
          refine XS.iconst X0.here hx rfl (hb hby d1_31) ?_
          show Steps p.tables e below (s₁.setTop (mkF m 32 #[.val (.ref a1)] [(.int (3 : Int32)), (.ref a1)])) _
          refine X0.baloadBytes hx (j := (3 : Int32)) (v := (.int ee3)) (by rw [e0]; exact Ar115.1) (State.isArrayOf_alike hZ.alike Ar115.2.1) Ar115.2.2 (inb_of (j := (3 : Int32)) S115 ⟨by decide, by decide⟩) (Has.at H115 (inb_of (j := (3 : Int32)) S115 ⟨by decide, by decide⟩) rfl) (g := (mkF m 32 #[.val (.ref a1)] [(.int (3 : Int32)), (.ref a1)])) rfl rfl (hb hby d1_32) _ ?_
          show Steps p.tables e below (s₁.setTop (mkF m 33 #[.val (.ref a1)] [(.int ee3)])) _
          refine XS.bipush X0.here hx rfl (hb hby d1_33) ?_
          exact k
        by_cases hc119 : ee3 = (80 : Int32)
        · refine Go.st (U' := s₁.setTop (mkF m 43 #[.val (.ref a1)] [(.int (1 : Int32))])) (fun t k => ?_) ?_
          · show Steps p.tables e below (s₁.setTop (mkF m 35 #[.val (.ref a1)] [(.int (80 : Int32)), (.int ee3)])) _
            refine XS.icmpNo X0.here hx rfl (hb hby d1_35) rfl (teq hc119).2 ?_
            show Steps p.tables e below (s₁.setTop (mkF m 38 #[.val (.ref a1)] [])) _
            refine XS.iconst X0.here hx rfl (hb hby d1_38) ?_
            show Steps p.tables e below (s₁.setTop (mkF m 39 #[.val (.ref a1)] [(.int (1 : Int32))])) _
            refine XS.goto X0.here hx rfl (pc0 := 39) (pc' := 43) rfl (hb hby d1_39) (by decide) (by decide) ?_
            exact k
          refine own_ret (Q := Q1_6 Z a1 k1 ee0 ee1 ee2 ee3 ee4 ee5 h0 n0) (v := some (.int (1 : Int32))) X0 hlk (fun h => by rw [hrt] at h; cases h) (by decide) (by decide) ?_ (fun fs hr => retN X0 hx (t := .boolean) hrt (by simp) (hb hby d1_43) hr)
          rw [e0]
          exact ⟨(by first | rfl | simp only [g6, if_pos hc116, if_pos hc117, if_pos hc118, if_pos hc119]), N0, rfl⟩
        · refine Go.st (U' := s₁.setTop (mkF m 43 #[.val (.ref a1)] [(.int (0 : Int32))])) (fun t k => ?_) ?_
          · show Steps p.tables e below (s₁.setTop (mkF m 35 #[.val (.ref a1)] [(.int (80 : Int32)), (.int ee3)])) _
            refine XS.icmpYes X0.here hx rfl (pc0 := 35) (pc' := 42) rfl (hb hby d1_35) rfl (feq hc119).2 (by decide) (by decide) ?_
            show Steps p.tables e below (s₁.setTop (mkF m 42 #[.val (.ref a1)] [])) _
            refine XS.iconst X0.here hx rfl (hb hby d1_42) ?_
            exact k
          refine own_ret (Q := Q1_6 Z a1 k1 ee0 ee1 ee2 ee3 ee4 ee5 h0 n0) (v := some (.int (0 : Int32))) X0 hlk (fun h => by rw [hrt] at h; cases h) (by decide) (by decide) ?_ (fun fs hr => retN X0 hx (t := .boolean) hrt (by simp) (hb hby d1_43) hr)
          rw [e0]
          exact ⟨(by first | rfl | simp only [g6, if_pos hc116, if_pos hc117, if_pos hc118, if_neg hc119]), N0, rfl⟩
      · refine Go.st (U' := s₁.setTop (mkF m 43 #[.val (.ref a1)] [(.int (0 : Int32))])) (fun t k => ?_) ?_
        · show Steps p.tables e below (s₁.setTop (mkF m 27 #[.val (.ref a1)] [(.int (79 : Int32)), (.int ee2)])) _
          refine XS.icmpYes X0.here hx rfl (pc0 := 27) (pc' := 42) rfl (hb hby d1_27) rfl (feq hc118).2 (by decide) (by decide) ?_
          show Steps p.tables e below (s₁.setTop (mkF m 42 #[.val (.ref a1)] [])) _
          refine XS.iconst X0.here hx rfl (hb hby d1_42) ?_
          exact k
        refine own_ret (Q := Q1_6 Z a1 k1 ee0 ee1 ee2 ee3 ee4 ee5 h0 n0) (v := some (.int (0 : Int32))) X0 hlk (fun h => by rw [hrt] at h; cases h) (by decide) (by decide) ?_ (fun fs hr => retN X0 hx (t := .boolean) hrt (by simp) (hb hby d1_43) hr)
        rw [e0]
        exact ⟨(by first | rfl | simp only [g6, if_pos hc116, if_pos hc117, if_neg hc118]), N0, rfl⟩
    · refine Go.st (U' := s₁.setTop (mkF m 43 #[.val (.ref a1)] [(.int (0 : Int32))])) (fun t k => ?_) ?_
      · show Steps p.tables e below (s₁.setTop (mkF m 19 #[.val (.ref a1)] [(.int (73 : Int32)), (.int ee1)])) _
        refine XS.icmpYes X0.here hx rfl (pc0 := 19) (pc' := 42) rfl (hb hby d1_19) rfl (feq hc117).2 (by decide) (by decide) ?_
        show Steps p.tables e below (s₁.setTop (mkF m 42 #[.val (.ref a1)] [])) _
        refine XS.iconst X0.here hx rfl (hb hby d1_42) ?_
        exact k
      refine own_ret (Q := Q1_6 Z a1 k1 ee0 ee1 ee2 ee3 ee4 ee5 h0 n0) (v := some (.int (0 : Int32))) X0 hlk (fun h => by rw [hrt] at h; cases h) (by decide) (by decide) ?_ (fun fs hr => retN X0 hx (t := .boolean) hrt (by simp) (hb hby d1_43) hr)
      rw [e0]
      exact ⟨(by first | rfl | simp only [g6, if_pos hc116, if_neg hc117]), N0, rfl⟩
  · refine Go.st (U' := s₁.setTop (mkF m 43 #[.val (.ref a1)] [(.int (0 : Int32))])) (fun t k => ?_) ?_
    · show Steps p.tables e below (s₁.setTop (mkF m 11 #[.val (.ref a1)] [(.int (71 : Int32)), (.int ee0)])) _
      refine XS.icmpYes X0.here hx rfl (pc0 := 11) (pc' := 42) rfl (hb hby d1_11) rfl (feq hc116).2 (by decide) (by decide) ?_
      show Steps p.tables e below (s₁.setTop (mkF m 42 #[.val (.ref a1)] [])) _
      refine XS.iconst X0.here hx rfl (hb hby d1_42) ?_
      exact k
    refine own_ret (Q := Q1_6 Z a1 k1 ee0 ee1 ee2 ee3 ee4 ee5 h0 n0) (v := some (.int (0 : Int32))) X0 hlk (fun h => by rw [hrt] at h; cases h) (by decide) (by decide) ?_ (fun fs hr => retN X0 hx (t := .boolean) hrt (by simp) (hb hby d1_43) hr)
    rw [e0]
    exact ⟨(by first | rfl | simp only [g6, if_neg hc116]), N0, rfl⟩
theorem ef1_7 (m : MethodId) (a1 : Addr) : entryFrame m #[(.ref a1)] 1 = mkF m 0 #[.val (.ref a1)] [] := by first | (simp [entryFrame, mkF, argsToLocals, Value.category]; done) | rfl
def g7 (ee0 : Int32) (ee1 : Int32) (ee2 : Int32) (ee3 : Int32) : Int32 := (if ee0 = (71 : Int32) then (if ee1 = (73 : Int32) then (if ee2 = (79 : Int32) then (if ee3 = (80 : Int32) then (1 : Int32) else (0 : Int32)) else (0 : Int32)) else (0 : Int32)) else (0 : Int32))
def Q1_7 (Z : State) (a1 : Addr) (k1 : ClassId) (ee0 : Int32) (ee1 : Int32) (ee2 : Int32) (ee3 : Int32) (ee4 : Int32) (ee5 : Int32) (ee6 : Int32) (h0 : Heap) (n0 : Nat) (v : Option Value) (h : Heap) (L : List Loc) : Prop := v = some (.int (g7 ee0 ee1 ee2 ee3)) ∧ Fr n0 L ∧ h = h0
set_option maxRecDepth 65536 in
set_option maxHeartbeats 40000000 in
theorem rm1_7 (l : Launch) (Z : State) (a0 : Array Value) (hw : ∀ d ∈ tables_1, d.before a0 Z = true) (ws : List Jvm.Cond) (a1 : Addr) (k1 : ClassId) (ee0 : Int32) (ee1 : Int32) (ee2 : Int32) (ee3 : Int32) (ee4 : Int32) (ee5 : Int32) (ee6 : Int32) (h0 : Heap) (n0 : Nat) (Z0 : n0 ≤ h0.size) (VA : Arv Z h0 a1 k1 .byte (7 : Int32) [(.int ee0), (.int ee1), (.int ee2), (.int ee3), (.int ee4), (.int ee5), (.int ee6)] (.int (0 : Int32))) :
    MetFree l own_y0 (head1 (Jvm.Cond.code own_y0 prog_22_method_2_code 1 (some .boolean) :: ws) own_R0_0_0_0) (fun a U => a = #[(.ref a1)] ∧ Z.Warmed39 U.vm ∧ U.heap = h0) (fun _ _ _ _ _ => True) (fun _ U o U' => ∃ v L, o = .returned v ∧ Q1_7 Z a1 k1 ee0 ee1 ee2 ee3 ee4 ee5 ee6 h0 n0 v U'.heap L ∧ FrameEnd U o U' L (own_R0_0_0_0).cells (own_R0_0_0_0).slots) := by
  refine MetFree.of_bodySF (plainFor_of_name pn_0) hisR ?_
  intro p e s m args below meth c s₁ Bd hml0 hP hK
  obtain ⟨rfl, hZ, hh⟩ := hP
  have hx := Bd.exec
  have hby := Bd.bytes
  have hml : c.maxLocals = 1 := hml0
  have hown : s.vm.findClass "com/example/portcullis/portcullis/io/MessageHeader" = some m.cls := findClass_of_methodNamed Bd.named
  have hnm := (name_of_methodNamed Bd.named Bd.method).1
  have hlk : meth.locks = false := BodyLoose.notSynchronized Bd
  have hrt := Bd.returns
  have X0 : Stand p l e own_R0_0_0_0 s m #[(.ref a1)] below meth c s₁ [] 0 0 := Stand.of_body Bd
  have e0 : s₁.heap = h0 := by rw [← hh, Bd.state]; rfl
  have N0 := Fr.nil n0
  refine (show Go p e below (fun s₂ o => ∃ v L, o = .returned v ∧ Q1_7 Z a1 k1 ee0 ee1 ee2 ee3 ee4 ee5 ee6 h0 n0 v s₂.heap L ∧ FrameEnd s o s₂ L 0 0) (s₁.setTop (entryFrame m #[(.ref a1)] 1)) from ?_)
  rw [ef1_7]
  obtain ⟨cl120, Ar120, q120, S120, N120, H120, G120⟩ := id VA
  refine Go.st (U' := s₁.setTop (mkF m 11 #[.val (.ref a1)] [(.int (71 : Int32)), (.int ee0)])) (fun t k => ?_) ?_
  · show Steps p.tables e below (s₁.setTop (mkF m 0 #[.val (.ref a1)] [])) _
    refine XS.aloadN X0.here hx rfl (hb hby d1_0) rfl rfl ?_
    show Steps p.tables e below (s₁.setTop (mkF m 1 #[.val (.ref a1)] [(.ref a1)])) _
    refine X0.arraylength hx (by rw [e0]; exact Ar120.1) (State.isArrayOf_alike hZ.alike Ar120.2.1) (g := (mkF m 1 #[.val (.ref a1)] [(.ref a1)])) rfl rfl (hb hby d1_1) _ ?_
    rw [len_of S120 N120]
    show Steps p.tables e below (s₁.setTop (mkF m 2 #[.val (.ref a1)] [(.int (7 : Int32))])) _
    refine XS.iconst X0.here hx rfl (hb hby d1_2) ?_
    show Steps p.tables e below (s₁.setTop (mkF m 3 #[.val (.ref a1)] [(.int (4 : Int32)), (.int (7 : Int32))])) _
    refine XS.icmpNo X0.here hx rfl (hb hby d1_3) rfl (flt (by decide : ¬ ((7 : Int32) < (4 : Int32)))).1 ?_
    show Steps p.tables e below (s₁.setTop (mkF m 6 #[.val (.ref a1)] [])) _
    refine XS.aloadN X0.here hx rfl (hb hby d1_6) rfl rfl ?_
    show Steps p.tables e below (s₁.setTop (mkF m 7 #[.val (.ref a1)] [(.ref a1)])) _
    refine XS.iconst X0.here hx rfl (hb hby d1_7) ?_
    show Steps p.tables e below (s₁.setTop (mkF m 8 #[.val (.ref a1)] [(.int (0 : Int32)), (.ref a1)])) _
    refine X0.baloadBytes hx (j := (0 : Int32)) (v := (.int ee0)) (by rw [e0]; exact Ar120.1) (State.isArrayOf_alike hZ.alike Ar120.2.1) Ar120.2.2 (inb_of (j := (0 : Int32)) S120 ⟨by decide, by decide⟩) (Has.at H120 (inb_of (j := (0 : Int32)) S120 ⟨by decide, by decide⟩) rfl) (g := (mkF m 8 #[.val (.ref a1)] [(.int (0 : Int32)), (.ref a1)])) rfl rfl (hb hby d1_8) _ ?_
    show Steps p.tables e below (s₁.setTop (mkF m 9 #[.val (.ref a1)] [(.int ee0)])) _
    refine XS.bipush X0.here hx rfl (hb hby d1_9) ?_
    exact k
  by_cases hc121 : ee0 = (71 : Int32)
  · refine Go.st (U' := s₁.setTop (mkF m 19 #[.val (.ref a1)] [(.int (73 : Int32)), (.int ee1)])) (fun t k => ?_) ?_
    · show Steps p.tables e below (s₁.setTop (mkF m 11 #[.val (.ref a1)] [(.int (71 : Int32)), (.int ee0)])) _
      refine XS.icmpNo X0.here hx rfl (hb hby d1_11) rfl (teq hc121).2 ?_
      show Steps p.tables e below (s₁.setTop (mkF m 14 #[.val (.ref a1)] [])) _
      refine XS.aloadN X0.here hx rfl (hb hby d1_14) rfl rfl ?_
      show Steps p.tables e below (s₁.setTop (mkF m 15 #[.val (.ref a1)] [(.ref a1)])) _
      refine XS.iconst X0.here hx rfl (hb hby d1_15) ?_
      show Steps p.tables e below (s₁.setTop (mkF m 16 #[.val (.ref a1)] [(.int (1 : Int32)), (.ref a1)])) _
      refine X0.baloadBytes hx (j := (1 : Int32)) (v := (.int ee1)) (by rw [e0]; exact Ar120.1) (State.isArrayOf_alike hZ.alike Ar120.2.1) Ar120.2.2 (inb_of (j := (1 : Int32)) S120 ⟨by decide, by decide⟩) (Has.at H120 (inb_of (j := (1 : Int32)) S120 ⟨by decide, by decide⟩) rfl) (g := (mkF m 16 #[.val (.ref a1)] [(.int (1 : Int32)), (.ref a1)])) rfl rfl (hb hby d1_16) _ ?_
      show Steps p.tables e below (s₁.setTop (mkF m 17 #[.val (.ref a1)] [(.int ee1)])) _
      refine XS.bipush X0.here hx rfl (hb hby d1_17) ?_
      exact k
    by_cases hc122 : ee1 = (73 : Int32)
    · refine Go.st (U' := s₁.setTop (mkF m 27 #[.val (.ref a1)] [(.int (79 : Int32)), (.int ee2)])) (fun t k => ?_) ?_
      · show Steps p.tables e below (s₁.setTop (mkF m 19 #[.val (.ref a1)] [(.int (73 : Int32)), (.int ee1)])) _
        refine XS.icmpNo X0.here hx rfl (hb hby d1_19) rfl (teq hc122).2 ?_
        show Steps p.tables e below (s₁.setTop (mkF m 22 #[.val (.ref a1)] [])) _
        refine XS.aloadN X0.here hx rfl (hb hby d1_22) rfl rfl ?_
        show Steps p.tables e below (s₁.setTop (mkF m 23 #[.val (.ref a1)] [(.ref a1)])) _
        refine XS.iconst X0.here hx rfl (hb hby d1_23) ?_
        show Steps p.tables e below (s₁.setTop (mkF m 24 #[.val (.ref a1)] [(.int (2 : Int32)), (.ref a1)])) _
        refine X0.baloadBytes hx (j := (2 : Int32)) (v := (.int ee2)) (by rw [e0]; exact Ar120.1) (State.isArrayOf_alike hZ.alike Ar120.2.1) Ar120.2.2 (inb_of (j := (2 : Int32)) S120 ⟨by decide, by decide⟩) (Has.at H120 (inb_of (j := (2 : Int32)) S120 ⟨by decide, by decide⟩) rfl) (g := (mkF m 24 #[.val (.ref a1)] [(.int (2 : Int32)), (.ref a1)])) rfl rfl (hb hby d1_24) _ ?_
        show Steps p.tables e below (s₁.setTop (mkF m 25 #[.val (.ref a1)] [(.int ee2)])) _
        refine XS.bipush X0.here hx rfl (hb hby d1_25) ?_
        exact k
      by_cases hc123 : ee2 = (79 : Int32)
      · refine Go.st (U' := s₁.setTop (mkF m 35 #[.val (.ref a1)] [(.int (80 : Int32)), (.int ee3)])) (fun t k => ?_) ?_
        · show Steps p.tables e below (s₁.setTop (mkF m 27 #[.val (.ref a1)] [(.int (79 : Int32)), (.int ee2)])) _
          refine XS.icmpNo X0.here hx rfl (hb hby d1_27) rfl (teq hc123).2 ?_
          show Steps p.tables e below (s₁.setTop (mkF m 30 #[.val (.ref a1)] [])) _
          refine XS.aloadN X0.here hx rfl (hb hby d1_30) rfl rfl ?_
          show Steps p.tables e below (s₁.setTop (mkF m 31 #[.val (.ref a1)] [(.ref a1)])) _
          refine XS.iconst X0.here hx rfl (hb hby d1_31) ?_
          show Steps p.tables e below (s₁.setTop (mkF m 32 #[.val (.ref a1)] [(.int (3 : Int32)), (.ref a1)])) _
          refine X0.baloadBytes hx (j := (3 : Int32)) (v := (.int ee3)) (by rw [e0]; exact Ar120.1) (State.isArrayOf_alike hZ.alike Ar120.2.1) Ar120.2.2 (inb_of (j := (3 : Int32)) S120 ⟨by decide, by decide⟩) (Has.at H120 (inb_of (j := (3 : Int32)) S120 ⟨by decide, by decide⟩) rfl) (g := (mkF m 32 #[.val (.ref a1)] [(.int (3 : Int32)), (.ref a1)])) rfl rfl (hb hby d1_32) _ ?_
          show Steps p.tables e below (s₁.setTop (mkF m 33 #[.val (.ref a1)] [(.int ee3)])) _
          refine XS.bipush X0.here hx rfl (hb hby d1_33) ?_
          exact k
        by_cases hc124 : ee3 = (80 : Int32)
        · refine Go.st (U' := s₁.setTop (mkF m 43 #[.val (.ref a1)] [(.int (1 : Int32))])) (fun t k => ?_) ?_
          · show Steps p.tables e below (s₁.setTop (mkF m 35 #[.val (.ref a1)] [(.int (80 : Int32)), (.int ee3)])) _
            refine XS.icmpNo X0.here hx rfl (hb hby d1_35) rfl (teq hc124).2 ?_
            show Steps p.tables e below (s₁.setTop (mkF m 38 #[.val (.ref a1)] [])) _
            refine XS.iconst X0.here hx rfl (hb hby d1_38) ?_
            show Steps p.tables e below (s₁.setTop (mkF m 39 #[.val (.ref a1)] [(.int (1 : Int32))])) _
            refine XS.goto X0.here hx rfl (pc0 := 39) (pc' := 43) rfl (hb hby d1_39) (by decide) (by decide) ?_
            exact k
          refine own_ret (Q := Q1_7 Z a1 k1 ee0 ee1 ee2 ee3 ee4 ee5 ee6 h0 n0) (v := some (.int (1 : Int32))) X0 hlk (fun h => by rw [hrt] at h; cases h) (by decide) (by decide) ?_ (fun fs hr => retN X0 hx (t := .boolean) hrt (by simp) (hb hby d1_43) hr)
          rw [e0]
          exact ⟨(by first | rfl | simp only [g7, if_pos hc121, if_pos hc122, if_pos hc123, if_pos hc124]), N0, rfl⟩
        · refine Go.st (U' := s₁.setTop (mkF m 43 #[.val (.ref a1)] [(.int (0 : Int32))])) (fun t k => ?_) ?_
          · show Steps p.tables e below (s₁.setTop (mkF m 35 #[.val (.ref a1)] [(.int (80 : Int32)), (.int ee3)])) _
            refine XS.icmpYes X0.here hx rfl (pc0 := 35) (pc' := 42) rfl (hb hby d1_35) rfl (feq hc124).2 (by decide) (by decide) ?_
            show Steps p.tables e below (s₁.setTop (mkF m 42 #[.val (.ref a1)] [])) _
            refine XS.iconst X0.here hx rfl (hb hby d1_42) ?_
            exact k
          refine own_ret (Q := Q1_7 Z a1 k1 ee0 ee1 ee2 ee3 ee4 ee5 ee6 h0 n0) (v := some (.int (0 : Int32))) X0 hlk (fun h => by rw [hrt] at h; cases h) (by decide) (by decide) ?_ (fun fs hr => retN X0 hx (t := .boolean) hrt (by simp) (hb hby d1_43) hr)
          rw [e0]
          exact ⟨(by first | rfl | simp only [g7, if_pos hc121, if_pos hc122, if_pos hc123, if_neg hc124]), N0, rfl⟩
      · refine Go.st (U' := s₁.setTop (mkF m 43 #[.val (.ref a1)] [(.int (0 : Int32))])) (fun t k => ?_) ?_
        · show Steps p.tables e below (s₁.setTop (mkF m 27 #[.val (.ref a1)] [(.int (79 : Int32)), (.int ee2)])) _
          refine XS.icmpYes X0.here hx rfl (pc0 := 27) (pc' := 42) rfl (hb hby d1_27) rfl (feq hc123).2 (by decide) (by decide) ?_
          show Steps p.tables e below (s₁.setTop (mkF m 42 #[.val (.ref a1)] [])) _
          refine XS.iconst X0.here hx rfl (hb hby d1_42) ?_
          exact k
        refine own_ret (Q := Q1_7 Z a1 k1 ee0 ee1 ee2 ee3 ee4 ee5 ee6 h0 n0) (v := some (.int (0 : Int32))) X0 hlk (fun h => by rw [hrt] at h; cases h) (by decide) (by decide) ?_ (fun fs hr => retN X0 hx (t := .boolean) hrt (by simp) (hb hby d1_43) hr)
        rw [e0]
        exact ⟨(by first | rfl | simp only [g7, if_pos hc121, if_pos hc122, if_neg hc123]), N0, rfl⟩
    · refine Go.st (U' := s₁.setTop (mkF m 43 #[.val (.ref a1)] [(.int (0 : Int32))])) (fun t k => ?_) ?_
      · show Steps p.tables e below (s₁.setTop (mkF m 19 #[.val (.ref a1)] [(.int (73 : Int32)), (.int ee1)])) _
        refine XS.icmpYes X0.here hx rfl (pc0 := 19) (pc' := 42) rfl (hb hby d1_19) rfl (feq hc122).2 (by decide) (by decide) ?_
        show Steps p.tables e below (s₁.setTop (mkF m 42 #[.val (.ref a1)] [])) _
        refine XS.iconst X0.here hx rfl (hb hby d1_42) ?_
        exact k
      refine own_ret (Q := Q1_7 Z a1 k1 ee0 ee1 ee2 ee3 ee4 ee5 ee6 h0 n0) (v := some (.int (0 : Int32))) X0 hlk (fun h => by rw [hrt] at h; cases h) (by decide) (by decide) ?_ (fun fs hr => retN X0 hx (t := .boolean) hrt (by simp) (hb hby d1_43) hr)
      rw [e0]
      exact ⟨(by first | rfl | simp only [g7, if_pos hc121, if_neg hc122]), N0, rfl⟩
  · refine Go.st (U' := s₁.setTop (mkF m 43 #[.val (.ref a1)] [(.int (0 : Int32))])) (fun t k => ?_) ?_
    · show Steps p.tables e below (s₁.setTop (mkF m 11 #[.val (.ref a1)] [(.int (71 : Int32)), (.int ee0)])) _
      refine XS.icmpYes X0.here hx rfl (pc0 := 11) (pc' := 42) rfl (hb hby d1_11) rfl (feq hc121).2 (by decide) (by decide) ?_
      show Steps p.tables e below (s₁.setTop (mkF m 42 #[.val (.ref a1)] [])) _
      refine XS.iconst X0.here hx rfl (hb hby d1_42) ?_
      exact k
    refine own_ret (Q := Q1_7 Z a1 k1 ee0 ee1 ee2 ee3 ee4 ee5 ee6 h0 n0) (v := some (.int (0 : Int32))) X0 hlk (fun h => by rw [hrt] at h; cases h) (by decide) (by decide) ?_ (fun fs hr => retN X0 hx (t := .boolean) hrt (by simp) (hb hby d1_43) hr)
    rw [e0]
    exact ⟨(by first | rfl | simp only [g7, if_neg hc121]), N0, rfl⟩
theorem own_bb {c : Prop} [Decidable c] {k x v : Int32} (hk : k.toInt8.toInt32 = k) (h : v = (if c then (x.toInt8.toInt32) else k)) : v.toInt8.toInt32 = v := by
  subst h
  split
  · rw [Int8.toInt8_toInt32]
  · exact hk
theorem own_n (x v : Int32) (h : (x &&& (7 : Int32)) = v) : v = (0 : Int32) ∨ v = (1 : Int32) ∨ v = (2 : Int32) ∨ v = (3 : Int32) ∨ v = (4 : Int32) ∨ v = (5 : Int32) ∨ v = (6 : Int32) ∨ v = (7 : Int32) := by
  have h1 := c_mask x 7 3 (by decide) (by decide)
  rw [h] at h1
  simp only [← Int32.toInt_inj, Int32.reduceToInt] at *
  omega
theorem own_law4 (v0 v1 v2 v3 d x : Int32) (h0 : v0.toInt8.toInt32 = v0) (h1 : v1.toInt8.toInt32 = v1) (h2 : v2.toInt8.toInt32 = v2) (h3 : v3.toInt8.toInt32 = v3)
    (hd : ((((v0 ^^^ (71 : Int32)) ||| (v1 ^^^ (73 : Int32))) ||| (v2 ^^^ (79 : Int32))) ||| (v3 ^^^ (80 : Int32))) = d) (hx : x = (if d = (0 : Int32) then (1 : Int32) else (0 : Int32))) :
    (g4 (v0.toInt8.toInt32) (v1.toInt8.toInt32) (v2.toInt8.toInt32) (v3.toInt8.toInt32)) = x := by
  subst hd hx
  rw [h0, h1, h2, h3]
  simp only [Int32.or_eq_zero_iff, Int32.xor_eq_zero_iff, g4]
  repeat' split
  all_goals first | rfl | (exfalso; simp_all)
theorem own_law5 (v0 v1 v2 v3 d x : Int32) (h0 : v0.toInt8.toInt32 = v0) (h1 : v1.toInt8.toInt32 = v1) (h2 : v2.toInt8.toInt32 = v2) (h3 : v3.toInt8.toInt32 = v3)
    (hd : ((((v0 ^^^ (71 : Int32)) ||| (v1 ^^^ (73 : Int32))) ||| (v2 ^^^ (79 : Int32))) ||| (v3 ^^^ (80 : Int32))) = d) (hx : x = (if d = (0 : Int32) then (1 : Int32) else (0 : Int32))) :
    (g5 (v0.toInt8.toInt32) (v1.toInt8.toInt32) (v2.toInt8.toInt32) (v3.toInt8.toInt32)) = x := by
  subst hd hx
  rw [h0, h1, h2, h3]
  simp only [Int32.or_eq_zero_iff, Int32.xor_eq_zero_iff, g5]
  repeat' split
  all_goals first | rfl | (exfalso; simp_all)
theorem own_law6 (v0 v1 v2 v3 d x : Int32) (h0 : v0.toInt8.toInt32 = v0) (h1 : v1.toInt8.toInt32 = v1) (h2 : v2.toInt8.toInt32 = v2) (h3 : v3.toInt8.toInt32 = v3)
    (hd : ((((v0 ^^^ (71 : Int32)) ||| (v1 ^^^ (73 : Int32))) ||| (v2 ^^^ (79 : Int32))) ||| (v3 ^^^ (80 : Int32))) = d) (hx : x = (if d = (0 : Int32) then (1 : Int32) else (0 : Int32))) :
    (g6 (v0.toInt8.toInt32) (v1.toInt8.toInt32) (v2.toInt8.toInt32) (v3.toInt8.toInt32)) = x := by
  subst hd hx
  rw [h0, h1, h2, h3]
  simp only [Int32.or_eq_zero_iff, Int32.xor_eq_zero_iff, g6]
  repeat' split
  all_goals first | rfl | (exfalso; simp_all)
theorem own_law7 (v0 v1 v2 v3 d x : Int32) (h0 : v0.toInt8.toInt32 = v0) (h1 : v1.toInt8.toInt32 = v1) (h2 : v2.toInt8.toInt32 = v2) (h3 : v3.toInt8.toInt32 = v3)
    (hd : ((((v0 ^^^ (71 : Int32)) ||| (v1 ^^^ (73 : Int32))) ||| (v2 ^^^ (79 : Int32))) ||| (v3 ^^^ (80 : Int32))) = d) (hx : x = (if d = (0 : Int32) then (1 : Int32) else (0 : Int32))) :
    (g7 (v0.toInt8.toInt32) (v1.toInt8.toInt32) (v2.toInt8.toInt32) (v3.toInt8.toInt32)) = x := by
  subst hd hx
  rw [h0, h1, h2, h3]
  simp only [Int32.or_eq_zero_iff, Int32.xor_eq_zero_iff, g7]
  repeat' split
  all_goals first | rfl | (exfalso; simp_all)
theorem pd_0 : parseMethodDescriptor "([B)Z" = some ⟨[(.array .byte)], some .boolean⟩ := by decide +kernel
theorem pn_1 : plainName "com/example/portcullis/portcullis/io/MessageHeaderStartsWithMagicPinLaw" = true := by first | (simp [plainName, overriddenIn]; done) | decide +kernel
theorem ef0 (m : MethodId) (p0 : Int32) (p1 : Int32) (p2 : Int32) (p3 : Int32) (p4 : Int32) (p5 : Int32) : entryFrame m #[(.int p0), (.int p1), (.int p2), (.int p3), (.int p4), (.int p5)] maxLocals = mkF m 0 #[.val (.int p0), .val (.int p1), .val (.int p2), .val (.int p3), .val (.int p4), .val (.int p5), .unset, .unset, .unset, .unset, .unset, .unset, .unset, .unset] [] := by first | (simp [entryFrame, mkF, argsToLocals, Value.category, maxLocals]; done) | rfl
def Q0 (Z : State) (p0 : Int32) (p1 : Int32) (p2 : Int32) (p3 : Int32) (p4 : Int32) (p5 : Int32) (h0 : Heap) (n0 : Nat) (v : Option Value) (h : Heap) (L : List Loc) : Prop := v = some (.int 1) ∧ Fr n0 L
set_option maxRecDepth 65536 in
set_option maxHeartbeats 40000000 in
theorem rm0 (l : Launch) (Z : State) (a0 : Array Value) (hw : ∀ d ∈ tables_1, d.before a0 Z = true) (ws : List Jvm.Cond) (p0 : Int32) (p1 : Int32) (p2 : Int32) (p3 : Int32) (p4 : Int32) (p5 : Int32) (h0 : Heap) (n0 : Nat) (Z0 : n0 ≤ h0.size) :
    MetFree l x (head1 (Jvm.Cond.code x code maxLocals ret :: ws) room_1) (fun a U => a = #[(.int p0), (.int p1), (.int p2), (.int p3), (.int p4), (.int p5)] ∧ Z.Warmed39 U.vm ∧ U.heap = h0) (fun _ _ _ _ _ => True) (fun _ U o U' => ∃ v L, o = .returned v ∧ Q0 Z p0 p1 p2 p3 p4 p5 h0 n0 v U'.heap L ∧ FrameEnd U o U' L 16 128) := by
  refine MetFree.of_bodySF (plainFor_of_name pn_1) hisR ?_
  intro p e s m args below meth c s₁ Bd hml0 hP hK
  obtain ⟨rfl, hZ, hh⟩ := hP
  have hx := Bd.exec
  have hby := Bd.bytes
  have hml : c.maxLocals = 14 := hml0
  have hown : s.vm.findClass "com/example/portcullis/portcullis/io/MessageHeaderStartsWithMagicPinLaw" = some m.cls := findClass_of_methodNamed Bd.named
  have hnm := (name_of_methodNamed Bd.named Bd.method).1
  have hlk : meth.locks = false := BodyLoose.notSynchronized Bd
  have hrt := Bd.returns
  have X0 : Stand p l e room_1 s m #[(.int p0), (.int p1), (.int p2), (.int p3), (.int p4), (.int p5)] below meth c s₁ [] 0 0 := Stand.of_body Bd
  have e0 : s₁.heap = h0 := by rw [← hh, Bd.state]; rfl
  have N0 := Fr.nil n0
  refine (show Go p e below (fun s₂ o => ∃ v L, o = .returned v ∧ Q0 Z p0 p1 p2 p3 p4 p5 h0 n0 v s₂.heap L ∧ FrameEnd s o s₂ L 16 128) (s₁.setTop (entryFrame m #[(.int p0), (.int p1), (.int p2), (.int p3), (.int p4), (.int p5)] maxLocals)) from ?_)
  rw [ef0]
  refine Go.st (U' := s₁.setTop (mkF m 6 #[.val (.int p0), .val (.int p1), .val (.int p2), .val (.int p3), .val (.int p4), .val (.int p5), .val (.int (p0 &&& (7 : Int32))), .unset, .unset, .unset, .unset, .unset, .unset, .unset] [])) (fun t k => ?_) ?_
  · show Steps p.tables e below (s₁.setTop (mkF m 0 #[.val (.int p0), .val (.int p1), .val (.int p2), .val (.int p3), .val (.int p4), .val (.int p5), .unset, .unset, .unset, .unset, .unset, .unset, .unset, .unset] [])) _
    refine XS.iloadN X0.here hx rfl (hb hby at_0) rfl ?_
    show Steps p.tables e below (s₁.setTop (mkF m 1 #[.val (.int p0), .val (.int p1), .val (.int p2), .val (.int p3), .val (.int p4), .val (.int p5), .unset, .unset, .unset, .unset, .unset, .unset, .unset, .unset] [(.int p0)])) _
    refine XS.bipush X0.here hx rfl (hb hby at_1) ?_
    show Steps p.tables e below (s₁.setTop (mkF m 3 #[.val (.int p0), .val (.int p1), .val (.int p2), .val (.int p3), .val (.int p4), .val (.int p5), .unset, .unset, .unset, .unset, .unset, .unset, .unset, .unset] [(.int (7 : Int32)), (.int p0)])) _
    refine XS.iand X0.here hx rfl (hb hby at_3) rfl ?_
    show Steps p.tables e below (s₁.setTop (mkF m 4 #[.val (.int p0), .val (.int p1), .val (.int p2), .val (.int p3), .val (.int p4), .val (.int p5), .unset, .unset, .unset, .unset, .unset, .unset, .unset, .unset] [(.int (p0 &&& (7 : Int32)))])) _
    refine XS.istore X0.here hx rfl (hb hby at_4) rfl (l' := #[.val (.int p0), .val (.int p1), .val (.int p2), .val (.int p3), .val (.int p4), .val (.int p5), .val (.int (p0 &&& (7 : Int32))), .unset, .unset, .unset, .unset, .unset, .unset, .unset]) rfl ?_
    exact k
  generalize hv_v125 : (p0 &&& (7 : Int32)) = v125
  refine Go.st (U' := s₁.setTop (mkF m 9 #[.val (.int p0), .val (.int p1), .val (.int p2), .val (.int p3), .val (.int p4), .val (.int p5), .val (.int v125), .unset, .unset, .unset, .unset, .unset, .unset, .unset] [(.int (p1 &&& (1 : Int32)))])) (fun t k => ?_) ?_
  · show Steps p.tables e below (s₁.setTop (mkF m 6 #[.val (.int p0), .val (.int p1), .val (.int p2), .val (.int p3), .val (.int p4), .val (.int p5), .val (.int v125), .unset, .unset, .unset, .unset, .unset, .unset, .unset] [])) _
    refine XS.iloadN X0.here hx rfl (hb hby at_6) rfl ?_
    show Steps p.tables e below (s₁.setTop (mkF m 7 #[.val (.int p0), .val (.int p1), .val (.int p2), .val (.int p3), .val (.int p4), .val (.int p5), .val (.int v125), .unset, .unset, .unset, .unset, .unset, .unset, .unset] [(.int p1)])) _
    refine XS.iconst X0.here hx rfl (hb hby at_7) ?_
    show Steps p.tables e below (s₁.setTop (mkF m 8 #[.val (.int p0), .val (.int p1), .val (.int p2), .val (.int p3), .val (.int p4), .val (.int p5), .val (.int v125), .unset, .unset, .unset, .unset, .unset, .unset, .unset] [(.int (1 : Int32)), (.int p1)])) _
    refine XS.iand X0.here hx rfl (hb hby at_8) rfl ?_
    exact k
  refine Go.join (P := fun (v127 : Int32) => v127 = (if (p1 &&& (1 : Int32)) = (0 : Int32) then (p2.toInt8.toInt32) else (71 : Int32))) (F := fun (v127 : Int32) => s₁.setTop (mkF m 19 #[.val (.int p0), .val (.int p1), .val (.int p2), .val (.int p3), .val (.int p4), .val (.int p5), .val (.int v125), .unset, .unset, .unset, .unset, .unset, .unset, .unset] [(.int v127)])) (fun J128 => ?_) (fun v127 hv_v127 => ?_)
  · by_cases hc126 : (p1 &&& (1 : Int32)) = (0 : Int32)
    · refine Go.st (U' := s₁.setTop (mkF m 19 #[.val (.int p0), .val (.int p1), .val (.int p2), .val (.int p3), .val (.int p4), .val (.int p5), .val (.int v125), .unset, .unset, .unset, .unset, .unset, .unset, .unset] [(.int (p2.toInt8.toInt32))])) (fun t k => ?_) ?_
      · show Steps p.tables e below (s₁.setTop (mkF m 9 #[.val (.int p0), .val (.int p1), .val (.int p2), .val (.int p3), .val (.int p4), .val (.int p5), .val (.int v125), .unset, .unset, .unset, .unset, .unset, .unset, .unset] [(.int (p1 &&& (1 : Int32)))])) _
        refine XS.ifYes X0.here hx rfl (pc0 := 9) (pc' := 17) rfl (hb hby at_9) rfl ((if0 _ _).trans (teq hc126).1) (by decide) (by decide) ?_
        show Steps p.tables e below (s₁.setTop (mkF m 17 #[.val (.int p0), .val (.int p1), .val (.int p2), .val (.int p3), .val (.int p4), .val (.int p5), .val (.int v125), .unset, .unset, .unset, .unset, .unset, .unset, .unset] [])) _
        refine XS.iloadN X0.here hx rfl (hb hby at_17) rfl ?_
        show Steps p.tables e below (s₁.setTop (mkF m 18 #[.val (.int p0), .val (.int p1), .val (.int p2), .val (.int p3), .val (.int p4), .val (.int p5), .val (.int v125), .unset, .unset, .unset, .unset, .unset, .unset, .unset] [(.int p2)])) _
        refine XS.i2b X0.here hx rfl (hb hby at_18) rfl ?_
        exact k
      exact J128 _ (by first | rfl | simp only [if_pos hc126])
    · refine Go.st (U' := s₁.setTop (mkF m 19 #[.val (.int p0), .val (.int p1), .val (.int p2), .val (.int p3), .val (.int p4), .val (.int p5), .val (.int v125), .unset, .unset, .unset, .unset, .unset, .unset, .unset] [(.int (71 : Int32))])) (fun t k => ?_) ?_
      · show Steps p.tables e below (s₁.setTop (mkF m 9 #[.val (.int p0), .val (.int p1), .val (.int p2), .val (.int p3), .val (.int p4), .val (.int p5), .val (.int v125), .unset, .unset, .unset, .unset, .unset, .unset, .unset] [(.int (p1 &&& (1 : Int32)))])) _
        refine XS.ifNo X0.here hx rfl (hb hby at_9) rfl ((if0 _ _).trans (feq hc126).1) ?_
        show Steps p.tables e below (s₁.setTop (mkF m 12 #[.val (.int p0), .val (.int p1), .val (.int p2), .val (.int p3), .val (.int p4), .val (.int p5), .val (.int v125), .unset, .unset, .unset, .unset, .unset, .unset, .unset] [])) _
        refine XS.bipush X0.here hx rfl (hb hby at_12) ?_
        show Steps p.tables e below (s₁.setTop (mkF m 14 #[.val (.int p0), .val (.int p1), .val (.int p2), .val (.int p3), .val (.int p4), .val (.int p5), .val (.int v125), .unset, .unset, .unset, .unset, .unset, .unset, .unset] [(.int (71 : Int32))])) _
        refine XS.goto X0.here hx rfl (pc0 := 14) (pc' := 19) rfl (hb hby at_14) (by decide) (by decide) ?_
        exact k
      exact J128 _ (by first | rfl | simp only [if_neg hc126])
  refine Go.st (U' := s₁.setTop (mkF m 24 #[.val (.int p0), .val (.int p1), .val (.int p2), .val (.int p3), .val (.int p4), .val (.int p5), .val (.int v125), .val (.int v127), .unset, .unset, .unset, .unset, .unset, .unset] [(.int (p1 &&& (2 : Int32)))])) (fun t k => ?_) ?_
  · show Steps p.tables e below (s₁.setTop (mkF m 19 #[.val (.int p0), .val (.int p1), .val (.int p2), .val (.int p3), .val (.int p4), .val (.int p5), .val (.int v125), .unset, .unset, .unset, .unset, .unset, .unset, .unset] [(.int v127)])) _
    refine XS.istore X0.here hx rfl (hb hby at_19) rfl (l' := #[.val (.int p0), .val (.int p1), .val (.int p2), .val (.int p3), .val (.int p4), .val (.int p5), .val (.int v125), .val (.int v127), .unset, .unset, .unset, .unset, .unset, .unset]) rfl ?_
    show Steps p.tables e below (s₁.setTop (mkF m 21 #[.val (.int p0), .val (.int p1), .val (.int p2), .val (.int p3), .val (.int p4), .val (.int p5), .val (.int v125), .val (.int v127), .unset, .unset, .unset, .unset, .unset, .unset] [])) _
    refine XS.iloadN X0.here hx rfl (hb hby at_21) rfl ?_
    show Steps p.tables e below (s₁.setTop (mkF m 22 #[.val (.int p0), .val (.int p1), .val (.int p2), .val (.int p3), .val (.int p4), .val (.int p5), .val (.int v125), .val (.int v127), .unset, .unset, .unset, .unset, .unset, .unset] [(.int p1)])) _
    refine XS.iconst X0.here hx rfl (hb hby at_22) ?_
    show Steps p.tables e below (s₁.setTop (mkF m 23 #[.val (.int p0), .val (.int p1), .val (.int p2), .val (.int p3), .val (.int p4), .val (.int p5), .val (.int v125), .val (.int v127), .unset, .unset, .unset, .unset, .unset, .unset] [(.int (2 : Int32)), (.int p1)])) _
    refine XS.iand X0.here hx rfl (hb hby at_23) rfl ?_
    exact k
  refine Go.join (P := fun (v130 : Int32) => v130 = (if (p1 &&& (2 : Int32)) = (0 : Int32) then (p3.toInt8.toInt32) else (73 : Int32))) (F := fun (v130 : Int32) => s₁.setTop (mkF m 34 #[.val (.int p0), .val (.int p1), .val (.int p2), .val (.int p3), .val (.int p4), .val (.int p5), .val (.int v125), .val (.int v127), .unset, .unset, .unset, .unset, .unset, .unset] [(.int v130)])) (fun J131 => ?_) (fun v130 hv_v130 => ?_)
  · by_cases hc129 : (p1 &&& (2 : Int32)) = (0 : Int32)
    · refine Go.st (U' := s₁.setTop (mkF m 34 #[.val (.int p0), .val (.int p1), .val (.int p2), .val (.int p3), .val (.int p4), .val (.int p5), .val (.int v125), .val (.int v127), .unset, .unset, .unset, .unset, .unset, .unset] [(.int (p3.toInt8.toInt32))])) (fun t k => ?_) ?_
      · show Steps p.tables e below (s₁.setTop (mkF m 24 #[.val (.int p0), .val (.int p1), .val (.int p2), .val (.int p3), .val (.int p4), .val (.int p5), .val (.int v125), .val (.int v127), .unset, .unset, .unset, .unset, .unset, .unset] [(.int (p1 &&& (2 : Int32)))])) _
        refine XS.ifYes X0.here hx rfl (pc0 := 24) (pc' := 32) rfl (hb hby at_24) rfl ((if0 _ _).trans (teq hc129).1) (by decide) (by decide) ?_
        show Steps p.tables e below (s₁.setTop (mkF m 32 #[.val (.int p0), .val (.int p1), .val (.int p2), .val (.int p3), .val (.int p4), .val (.int p5), .val (.int v125), .val (.int v127), .unset, .unset, .unset, .unset, .unset, .unset] [])) _
        refine XS.iloadN X0.here hx rfl (hb hby at_32) rfl ?_
        show Steps p.tables e below (s₁.setTop (mkF m 33 #[.val (.int p0), .val (.int p1), .val (.int p2), .val (.int p3), .val (.int p4), .val (.int p5), .val (.int v125), .val (.int v127), .unset, .unset, .unset, .unset, .unset, .unset] [(.int p3)])) _
        refine XS.i2b X0.here hx rfl (hb hby at_33) rfl ?_
        exact k
      exact J131 _ (by first | rfl | simp only [if_pos hc129])
    · refine Go.st (U' := s₁.setTop (mkF m 34 #[.val (.int p0), .val (.int p1), .val (.int p2), .val (.int p3), .val (.int p4), .val (.int p5), .val (.int v125), .val (.int v127), .unset, .unset, .unset, .unset, .unset, .unset] [(.int (73 : Int32))])) (fun t k => ?_) ?_
      · show Steps p.tables e below (s₁.setTop (mkF m 24 #[.val (.int p0), .val (.int p1), .val (.int p2), .val (.int p3), .val (.int p4), .val (.int p5), .val (.int v125), .val (.int v127), .unset, .unset, .unset, .unset, .unset, .unset] [(.int (p1 &&& (2 : Int32)))])) _
        refine XS.ifNo X0.here hx rfl (hb hby at_24) rfl ((if0 _ _).trans (feq hc129).1) ?_
        show Steps p.tables e below (s₁.setTop (mkF m 27 #[.val (.int p0), .val (.int p1), .val (.int p2), .val (.int p3), .val (.int p4), .val (.int p5), .val (.int v125), .val (.int v127), .unset, .unset, .unset, .unset, .unset, .unset] [])) _
        refine XS.bipush X0.here hx rfl (hb hby at_27) ?_
        show Steps p.tables e below (s₁.setTop (mkF m 29 #[.val (.int p0), .val (.int p1), .val (.int p2), .val (.int p3), .val (.int p4), .val (.int p5), .val (.int v125), .val (.int v127), .unset, .unset, .unset, .unset, .unset, .unset] [(.int (73 : Int32))])) _
        refine XS.goto X0.here hx rfl (pc0 := 29) (pc' := 34) rfl (hb hby at_29) (by decide) (by decide) ?_
        exact k
      exact J131 _ (by first | rfl | simp only [if_neg hc129])
  refine Go.st (U' := s₁.setTop (mkF m 39 #[.val (.int p0), .val (.int p1), .val (.int p2), .val (.int p3), .val (.int p4), .val (.int p5), .val (.int v125), .val (.int v127), .val (.int v130), .unset, .unset, .unset, .unset, .unset] [(.int (p1 &&& (4 : Int32)))])) (fun t k => ?_) ?_
  · show Steps p.tables e below (s₁.setTop (mkF m 34 #[.val (.int p0), .val (.int p1), .val (.int p2), .val (.int p3), .val (.int p4), .val (.int p5), .val (.int v125), .val (.int v127), .unset, .unset, .unset, .unset, .unset, .unset] [(.int v130)])) _
    refine XS.istore X0.here hx rfl (hb hby at_34) rfl (l' := #[.val (.int p0), .val (.int p1), .val (.int p2), .val (.int p3), .val (.int p4), .val (.int p5), .val (.int v125), .val (.int v127), .val (.int v130), .unset, .unset, .unset, .unset, .unset]) rfl ?_
    show Steps p.tables e below (s₁.setTop (mkF m 36 #[.val (.int p0), .val (.int p1), .val (.int p2), .val (.int p3), .val (.int p4), .val (.int p5), .val (.int v125), .val (.int v127), .val (.int v130), .unset, .unset, .unset, .unset, .unset] [])) _
    refine XS.iloadN X0.here hx rfl (hb hby at_36) rfl ?_
    show Steps p.tables e below (s₁.setTop (mkF m 37 #[.val (.int p0), .val (.int p1), .val (.int p2), .val (.int p3), .val (.int p4), .val (.int p5), .val (.int v125), .val (.int v127), .val (.int v130), .unset, .unset, .unset, .unset, .unset] [(.int p1)])) _
    refine XS.iconst X0.here hx rfl (hb hby at_37) ?_
    show Steps p.tables e below (s₁.setTop (mkF m 38 #[.val (.int p0), .val (.int p1), .val (.int p2), .val (.int p3), .val (.int p4), .val (.int p5), .val (.int v125), .val (.int v127), .val (.int v130), .unset, .unset, .unset, .unset, .unset] [(.int (4 : Int32)), (.int p1)])) _
    refine XS.iand X0.here hx rfl (hb hby at_38) rfl ?_
    exact k
  refine Go.join (P := fun (v133 : Int32) => v133 = (if (p1 &&& (4 : Int32)) = (0 : Int32) then (p4.toInt8.toInt32) else (79 : Int32))) (F := fun (v133 : Int32) => s₁.setTop (mkF m 50 #[.val (.int p0), .val (.int p1), .val (.int p2), .val (.int p3), .val (.int p4), .val (.int p5), .val (.int v125), .val (.int v127), .val (.int v130), .unset, .unset, .unset, .unset, .unset] [(.int v133)])) (fun J134 => ?_) (fun v133 hv_v133 => ?_)
  · by_cases hc132 : (p1 &&& (4 : Int32)) = (0 : Int32)
    · refine Go.st (U' := s₁.setTop (mkF m 50 #[.val (.int p0), .val (.int p1), .val (.int p2), .val (.int p3), .val (.int p4), .val (.int p5), .val (.int v125), .val (.int v127), .val (.int v130), .unset, .unset, .unset, .unset, .unset] [(.int (p4.toInt8.toInt32))])) (fun t k => ?_) ?_
      · show Steps p.tables e below (s₁.setTop (mkF m 39 #[.val (.int p0), .val (.int p1), .val (.int p2), .val (.int p3), .val (.int p4), .val (.int p5), .val (.int v125), .val (.int v127), .val (.int v130), .unset, .unset, .unset, .unset, .unset] [(.int (p1 &&& (4 : Int32)))])) _
        refine XS.ifYes X0.here hx rfl (pc0 := 39) (pc' := 47) rfl (hb hby at_39) rfl ((if0 _ _).trans (teq hc132).1) (by decide) (by decide) ?_
        show Steps p.tables e below (s₁.setTop (mkF m 47 #[.val (.int p0), .val (.int p1), .val (.int p2), .val (.int p3), .val (.int p4), .val (.int p5), .val (.int v125), .val (.int v127), .val (.int v130), .unset, .unset, .unset, .unset, .unset] [])) _
        refine XS.iload X0.here hx rfl (hb hby at_47) rfl ?_
        show Steps p.tables e below (s₁.setTop (mkF m 49 #[.val (.int p0), .val (.int p1), .val (.int p2), .val (.int p3), .val (.int p4), .val (.int p5), .val (.int v125), .val (.int v127), .val (.int v130), .unset, .unset, .unset, .unset, .unset] [(.int p4)])) _
        refine XS.i2b X0.here hx rfl (hb hby at_49) rfl ?_
        exact k
      exact J134 _ (by first | rfl | simp only [if_pos hc132])
    · refine Go.st (U' := s₁.setTop (mkF m 50 #[.val (.int p0), .val (.int p1), .val (.int p2), .val (.int p3), .val (.int p4), .val (.int p5), .val (.int v125), .val (.int v127), .val (.int v130), .unset, .unset, .unset, .unset, .unset] [(.int (79 : Int32))])) (fun t k => ?_) ?_
      · show Steps p.tables e below (s₁.setTop (mkF m 39 #[.val (.int p0), .val (.int p1), .val (.int p2), .val (.int p3), .val (.int p4), .val (.int p5), .val (.int v125), .val (.int v127), .val (.int v130), .unset, .unset, .unset, .unset, .unset] [(.int (p1 &&& (4 : Int32)))])) _
        refine XS.ifNo X0.here hx rfl (hb hby at_39) rfl ((if0 _ _).trans (feq hc132).1) ?_
        show Steps p.tables e below (s₁.setTop (mkF m 42 #[.val (.int p0), .val (.int p1), .val (.int p2), .val (.int p3), .val (.int p4), .val (.int p5), .val (.int v125), .val (.int v127), .val (.int v130), .unset, .unset, .unset, .unset, .unset] [])) _
        refine XS.bipush X0.here hx rfl (hb hby at_42) ?_
        show Steps p.tables e below (s₁.setTop (mkF m 44 #[.val (.int p0), .val (.int p1), .val (.int p2), .val (.int p3), .val (.int p4), .val (.int p5), .val (.int v125), .val (.int v127), .val (.int v130), .unset, .unset, .unset, .unset, .unset] [(.int (79 : Int32))])) _
        refine XS.goto X0.here hx rfl (pc0 := 44) (pc' := 50) rfl (hb hby at_44) (by decide) (by decide) ?_
        exact k
      exact J134 _ (by first | rfl | simp only [if_neg hc132])
  refine Go.st (U' := s₁.setTop (mkF m 56 #[.val (.int p0), .val (.int p1), .val (.int p2), .val (.int p3), .val (.int p4), .val (.int p5), .val (.int v125), .val (.int v127), .val (.int v130), .val (.int v133), .unset, .unset, .unset, .unset] [(.int (p1 &&& (8 : Int32)))])) (fun t k => ?_) ?_
  · show Steps p.tables e below (s₁.setTop (mkF m 50 #[.val (.int p0), .val (.int p1), .val (.int p2), .val (.int p3), .val (.int p4), .val (.int p5), .val (.int v125), .val (.int v127), .val (.int v130), .unset, .unset, .unset, .unset, .unset] [(.int v133)])) _
    refine XS.istore X0.here hx rfl (hb hby at_50) rfl (l' := #[.val (.int p0), .val (.int p1), .val (.int p2), .val (.int p3), .val (.int p4), .val (.int p5), .val (.int v125), .val (.int v127), .val (.int v130), .val (.int v133), .unset, .unset, .unset, .unset]) rfl ?_
    show Steps p.tables e below (s₁.setTop (mkF m 52 #[.val (.int p0), .val (.int p1), .val (.int p2), .val (.int p3), .val (.int p4), .val (.int p5), .val (.int v125), .val (.int v127), .val (.int v130), .val (.int v133), .unset, .unset, .unset, .unset] [])) _
    refine XS.iloadN X0.here hx rfl (hb hby at_52) rfl ?_
    show Steps p.tables e below (s₁.setTop (mkF m 53 #[.val (.int p0), .val (.int p1), .val (.int p2), .val (.int p3), .val (.int p4), .val (.int p5), .val (.int v125), .val (.int v127), .val (.int v130), .val (.int v133), .unset, .unset, .unset, .unset] [(.int p1)])) _
    refine XS.bipush X0.here hx rfl (hb hby at_53) ?_
    show Steps p.tables e below (s₁.setTop (mkF m 55 #[.val (.int p0), .val (.int p1), .val (.int p2), .val (.int p3), .val (.int p4), .val (.int p5), .val (.int v125), .val (.int v127), .val (.int v130), .val (.int v133), .unset, .unset, .unset, .unset] [(.int (8 : Int32)), (.int p1)])) _
    refine XS.iand X0.here hx rfl (hb hby at_55) rfl ?_
    exact k
  refine Go.join (P := fun (v136 : Int32) => v136 = (if (p1 &&& (8 : Int32)) = (0 : Int32) then (p5.toInt8.toInt32) else (80 : Int32))) (F := fun (v136 : Int32) => s₁.setTop (mkF m 67 #[.val (.int p0), .val (.int p1), .val (.int p2), .val (.int p3), .val (.int p4), .val (.int p5), .val (.int v125), .val (.int v127), .val (.int v130), .val (.int v133), .unset, .unset, .unset, .unset] [(.int v136)])) (fun J137 => ?_) (fun v136 hv_v136 => ?_)
  · by_cases hc135 : (p1 &&& (8 : Int32)) = (0 : Int32)
    · refine Go.st (U' := s₁.setTop (mkF m 67 #[.val (.int p0), .val (.int p1), .val (.int p2), .val (.int p3), .val (.int p4), .val (.int p5), .val (.int v125), .val (.int v127), .val (.int v130), .val (.int v133), .unset, .unset, .unset, .unset] [(.int (p5.toInt8.toInt32))])) (fun t k => ?_) ?_
      · show Steps p.tables e below (s₁.setTop (mkF m 56 #[.val (.int p0), .val (.int p1), .val (.int p2), .val (.int p3), .val (.int p4), .val (.int p5), .val (.int v125), .val (.int v127), .val (.int v130), .val (.int v133), .unset, .unset, .unset, .unset] [(.int (p1 &&& (8 : Int32)))])) _
        refine XS.ifYes X0.here hx rfl (pc0 := 56) (pc' := 64) rfl (hb hby at_56) rfl ((if0 _ _).trans (teq hc135).1) (by decide) (by decide) ?_
        show Steps p.tables e below (s₁.setTop (mkF m 64 #[.val (.int p0), .val (.int p1), .val (.int p2), .val (.int p3), .val (.int p4), .val (.int p5), .val (.int v125), .val (.int v127), .val (.int v130), .val (.int v133), .unset, .unset, .unset, .unset] [])) _
        refine XS.iload X0.here hx rfl (hb hby at_64) rfl ?_
        show Steps p.tables e below (s₁.setTop (mkF m 66 #[.val (.int p0), .val (.int p1), .val (.int p2), .val (.int p3), .val (.int p4), .val (.int p5), .val (.int v125), .val (.int v127), .val (.int v130), .val (.int v133), .unset, .unset, .unset, .unset] [(.int p5)])) _
        refine XS.i2b X0.here hx rfl (hb hby at_66) rfl ?_
        exact k
      exact J137 _ (by first | rfl | simp only [if_pos hc135])
    · refine Go.st (U' := s₁.setTop (mkF m 67 #[.val (.int p0), .val (.int p1), .val (.int p2), .val (.int p3), .val (.int p4), .val (.int p5), .val (.int v125), .val (.int v127), .val (.int v130), .val (.int v133), .unset, .unset, .unset, .unset] [(.int (80 : Int32))])) (fun t k => ?_) ?_
      · show Steps p.tables e below (s₁.setTop (mkF m 56 #[.val (.int p0), .val (.int p1), .val (.int p2), .val (.int p3), .val (.int p4), .val (.int p5), .val (.int v125), .val (.int v127), .val (.int v130), .val (.int v133), .unset, .unset, .unset, .unset] [(.int (p1 &&& (8 : Int32)))])) _
        refine XS.ifNo X0.here hx rfl (hb hby at_56) rfl ((if0 _ _).trans (feq hc135).1) ?_
        show Steps p.tables e below (s₁.setTop (mkF m 59 #[.val (.int p0), .val (.int p1), .val (.int p2), .val (.int p3), .val (.int p4), .val (.int p5), .val (.int v125), .val (.int v127), .val (.int v130), .val (.int v133), .unset, .unset, .unset, .unset] [])) _
        refine XS.bipush X0.here hx rfl (hb hby at_59) ?_
        show Steps p.tables e below (s₁.setTop (mkF m 61 #[.val (.int p0), .val (.int p1), .val (.int p2), .val (.int p3), .val (.int p4), .val (.int p5), .val (.int v125), .val (.int v127), .val (.int v130), .val (.int v133), .unset, .unset, .unset, .unset] [(.int (80 : Int32))])) _
        refine XS.goto X0.here hx rfl (pc0 := 61) (pc' := 67) rfl (hb hby at_61) (by decide) (by decide) ?_
        exact k
      exact J137 _ (by first | rfl | simp only [if_neg hc135])
  refine Go.st (U' := s₁.setTop (mkF m 69 #[.val (.int p0), .val (.int p1), .val (.int p2), .val (.int p3), .val (.int p4), .val (.int p5), .val (.int v125), .val (.int v127), .val (.int v130), .val (.int v133), .val (.int v136), .unset, .unset, .unset] [])) (fun t k => ?_) ?_
  · show Steps p.tables e below (s₁.setTop (mkF m 67 #[.val (.int p0), .val (.int p1), .val (.int p2), .val (.int p3), .val (.int p4), .val (.int p5), .val (.int v125), .val (.int v127), .val (.int v130), .val (.int v133), .unset, .unset, .unset, .unset] [(.int v136)])) _
    refine XS.istore X0.here hx rfl (hb hby at_67) rfl (l' := #[.val (.int p0), .val (.int p1), .val (.int p2), .val (.int p3), .val (.int p4), .val (.int p5), .val (.int v125), .val (.int v127), .val (.int v130), .val (.int v133), .val (.int v136), .unset, .unset, .unset]) rfl ?_
    exact k
  rcases own_n p0 v125 hv_v125 with rfl | rfl | rfl | rfl | rfl | rfl | rfl | rfl
  · refine Go.st (U' := s₁.setTop (mkF m 71 #[.val (.int p0), .val (.int p1), .val (.int p2), .val (.int p3), .val (.int p4), .val (.int p5), .val (.int (0 : Int32)), .val (.int v127), .val (.int v130), .val (.int v133), .val (.int v136), .unset, .unset, .unset] [(.int (0 : Int32))])) (fun t k => ?_) ?_
    · show Steps p.tables e below (s₁.setTop (mkF m 69 #[.val (.int p0), .val (.int p1), .val (.int p2), .val (.int p3), .val (.int p4), .val (.int p5), .val (.int (0 : Int32)), .val (.int v127), .val (.int v130), .val (.int v133), .val (.int v136), .unset, .unset, .unset] [])) _
      refine XS.iload X0.here hx rfl (hb hby at_69) rfl ?_
      exact k
    obtain ⟨T138, h138, k138, X138, e138, E138, A138, st138⟩ := newP X0 hx hZ (own_w hw 0 rfl) e0 (g := (mkF m 71 #[.val (.int p0), .val (.int p1), .val (.int p2), .val (.int p3), .val (.int p4), .val (.int p5), .val (.int (0 : Int32)), .val (.int v127), .val (.int v130), .val (.int v133), .val (.int v136), .unset, .unset, .unset] [(.int (0 : Int32))])) rfl (hb hby at_71) rfl (by decide) (cap := 0) (by decide) (by decide) (by decide) (by decide)
    obtain ⟨b138, g138⟩ : ∃ z, z = h0.size := ⟨_, rfl⟩
    rw [← g138] at A138 st138
    have ge_b138 : n0 ≤ b138 := Nat.le_trans Z0 (Nat.le_of_eq g138.symm)
    have V_b138 : Arv Z h138 b138 k138 .byte (0 : Int32) [] (.int (0 : Int32)) := (Arv.new A138 (by decide)).pad (pad_rep [] (.int (0 : Int32)) 0)
    have sz138 : n0 ≤ h138.size := Nat.le_trans Z0 E138.1
    refine Go.st (U' := T138.setTop (mkF m 73 #[.val (.int p0), .val (.int p1), .val (.int p2), .val (.int p3), .val (.int p4), .val (.int p5), .val (.int (0 : Int32)), .val (.int v127), .val (.int v130), .val (.int v133), .val (.int v136), .unset, .unset, .unset] [(.ref b138)])) (fun t k => st138 _ k) ?_
    refine Go.st (U' := T138.setTop (mkF m 195 #[.val (.int p0), .val (.int p1), .val (.int p2), .val (.int p3), .val (.int p4), .val (.int p5), .val (.int (0 : Int32)), .val (.int v127), .val (.int v130), .val (.int v133), .val (.int v136), .val (.ref b138), .val (.int ((((v127 ^^^ (71 : Int32)) ||| (v130 ^^^ (73 : Int32))) ||| (v133 ^^^ (79 : Int32))) ||| (v136 ^^^ (80 : Int32)))), .unset] [])) (fun t k => ?_) ?_
    · show Steps p.tables e below (T138.setTop (mkF m 73 #[.val (.int p0), .val (.int p1), .val (.int p2), .val (.int p3), .val (.int p4), .val (.int p5), .val (.int (0 : Int32)), .val (.int v127), .val (.int v130), .val (.int v133), .val (.int v136), .unset, .unset, .unset] [(.ref b138)])) _
      refine XS.astore X138.here hx rfl (hb hby at_73) rfl rfl (l' := #[.val (.int p0), .val (.int p1), .val (.int p2), .val (.int p3), .val (.int p4), .val (.int p5), .val (.int (0 : Int32)), .val (.int v127), .val (.int v130), .val (.int v133), .val (.int v136), .val (.ref b138), .unset, .unset]) rfl ?_
      show Steps p.tables e below (T138.setTop (mkF m 75 #[.val (.int p0), .val (.int p1), .val (.int p2), .val (.int p3), .val (.int p4), .val (.int p5), .val (.int (0 : Int32)), .val (.int v127), .val (.int v130), .val (.int v133), .val (.int v136), .val (.ref b138), .unset, .unset] [])) _
      refine XS.iload X138.here hx rfl (hb hby at_75) rfl ?_
      show Steps p.tables e below (T138.setTop (mkF m 77 #[.val (.int p0), .val (.int p1), .val (.int p2), .val (.int p3), .val (.int p4), .val (.int p5), .val (.int (0 : Int32)), .val (.int v127), .val (.int v130), .val (.int v133), .val (.int v136), .val (.ref b138), .unset, .unset] [(.int (0 : Int32))])) _
      refine XS.ifYes X138.here hx rfl (pc0 := 77) (pc' := 86) rfl (hb hby at_77) rfl ((if0 _ _).trans (flt (by decide : ¬ ((0 : Int32) < (0 : Int32)))).2.2.2) (by decide) (by decide) ?_
      show Steps p.tables e below (T138.setTop (mkF m 86 #[.val (.int p0), .val (.int p1), .val (.int p2), .val (.int p3), .val (.int p4), .val (.int p5), .val (.int (0 : Int32)), .val (.int v127), .val (.int v130), .val (.int v133), .val (.int v136), .val (.ref b138), .unset, .unset] [])) _
      refine XS.iload X138.here hx rfl (hb hby at_86) rfl ?_
      show Steps p.tables e below (T138.setTop (mkF m 88 #[.val (.int p0), .val (.int p1), .val (.int p2), .val (.int p3), .val (.int p4), .val (.int p5), .val (.int (0 : Int32)), .val (.int v127), .val (.int v130), .val (.int v133), .val (.int v136), .val (.ref b138), .unset, .unset] [(.int (0 : Int32))])) _
      refine XS.iconst X138.here hx rfl (hb hby at_88) ?_
      show Steps p.tables e below (T138.setTop (mkF m 89 #[.val (.int p0), .val (.int p1), .val (.int p2), .val (.int p3), .val (.int p4), .val (.int p5), .val (.int (0 : Int32)), .val (.int v127), .val (.int v130), .val (.int v133), .val (.int v136), .val (.ref b138), .unset, .unset] [(.int (1 : Int32)), (.int (0 : Int32))])) _
      refine XS.icmpYes X138.here hx rfl (pc0 := 89) (pc' := 98) rfl (hb hby at_89) rfl (flt (by decide : ¬ ((1 : Int32) < (0 : Int32)))).2.2.2 (by decide) (by decide) ?_
      show Steps p.tables e below (T138.setTop (mkF m 98 #[.val (.int p0), .val (.int p1), .val (.int p2), .val (.int p3), .val (.int p4), .val (.int p5), .val (.int (0 : Int32)), .val (.int v127), .val (.int v130), .val (.int v133), .val (.int v136), .val (.ref b138), .unset, .unset] [])) _
      refine XS.iload X138.here hx rfl (hb hby at_98) rfl ?_
      show Steps p.tables e below (T138.setTop (mkF m 100 #[.val (.int p0), .val (.int p1), .val (.int p2), .val (.int p3), .val (.int p4), .val (.int p5), .val (.int (0 : Int32)), .val (.int v127), .val (.int v130), .val (.int v133), .val (.int v136), .val (.ref b138), .unset, .unset] [(.int (0 : Int32))])) _
      refine XS.iconst X138.here hx rfl (hb hby at_100) ?_
      show Steps p.tables e below (T138.setTop (mkF m 101 #[.val (.int p0), .val (.int p1), .val (.int p2), .val (.int p3), .val (.int p4), .val (.int p5), .val (.int (0 : Int32)), .val (.int v127), .val (.int v130), .val (.int v133), .val (.int v136), .val (.ref b138), .unset, .unset] [(.int (2 : Int32)), (.int (0 : Int32))])) _
      refine XS.icmpYes X138.here hx rfl (pc0 := 101) (pc' := 110) rfl (hb hby at_101) rfl (flt (by decide : ¬ ((2 : Int32) < (0 : Int32)))).2.2.2 (by decide) (by decide) ?_
      show Steps p.tables e below (T138.setTop (mkF m 110 #[.val (.int p0), .val (.int p1), .val (.int p2), .val (.int p3), .val (.int p4), .val (.int p5), .val (.int (0 : Int32)), .val (.int v127), .val (.int v130), .val (.int v133), .val (.int v136), .val (.ref b138), .unset, .unset] [])) _
      refine XS.iload X138.here hx rfl (hb hby at_110) rfl ?_
      show Steps p.tables e below (T138.setTop (mkF m 112 #[.val (.int p0), .val (.int p1), .val (.int p2), .val (.int p3), .val (.int p4), .val (.int p5), .val (.int (0 : Int32)), .val (.int v127), .val (.int v130), .val (.int v133), .val (.int v136), .val (.ref b138), .unset, .unset] [(.int (0 : Int32))])) _
      refine XS.iconst X138.here hx rfl (hb hby at_112) ?_
      show Steps p.tables e below (T138.setTop (mkF m 113 #[.val (.int p0), .val (.int p1), .val (.int p2), .val (.int p3), .val (.int p4), .val (.int p5), .val (.int (0 : Int32)), .val (.int v127), .val (.int v130), .val (.int v133), .val (.int v136), .val (.ref b138), .unset, .unset] [(.int (3 : Int32)), (.int (0 : Int32))])) _
      refine XS.icmpYes X138.here hx rfl (pc0 := 113) (pc' := 122) rfl (hb hby at_113) rfl (flt (by decide : ¬ ((3 : Int32) < (0 : Int32)))).2.2.2 (by decide) (by decide) ?_
      show Steps p.tables e below (T138.setTop (mkF m 122 #[.val (.int p0), .val (.int p1), .val (.int p2), .val (.int p3), .val (.int p4), .val (.int p5), .val (.int (0 : Int32)), .val (.int v127), .val (.int v130), .val (.int v133), .val (.int v136), .val (.ref b138), .unset, .unset] [])) _
      refine XS.iload X138.here hx rfl (hb hby at_122) rfl ?_
      show Steps p.tables e below (T138.setTop (mkF m 124 #[.val (.int p0), .val (.int p1), .val (.int p2), .val (.int p3), .val (.int p4), .val (.int p5), .val (.int (0 : Int32)), .val (.int v127), .val (.int v130), .val (.int v133), .val (.int v136), .val (.ref b138), .unset, .unset] [(.int (0 : Int32))])) _
      refine XS.iconst X138.here hx rfl (hb hby at_124) ?_
      show Steps p.tables e below (T138.setTop (mkF m 125 #[.val (.int p0), .val (.int p1), .val (.int p2), .val (.int p3), .val (.int p4), .val (.int p5), .val (.int (0 : Int32)), .val (.int v127), .val (.int v130), .val (.int v133), .val (.int v136), .val (.ref b138), .unset, .unset] [(.int (4 : Int32)), (.int (0 : Int32))])) _
      refine XS.icmpYes X138.here hx rfl (pc0 := 125) (pc' := 137) rfl (hb hby at_125) rfl (flt (by decide : ¬ ((4 : Int32) < (0 : Int32)))).2.2.2 (by decide) (by decide) ?_
      show Steps p.tables e below (T138.setTop (mkF m 137 #[.val (.int p0), .val (.int p1), .val (.int p2), .val (.int p3), .val (.int p4), .val (.int p5), .val (.int (0 : Int32)), .val (.int v127), .val (.int v130), .val (.int v133), .val (.int v136), .val (.ref b138), .unset, .unset] [])) _
      refine XS.iload X138.here hx rfl (hb hby at_137) rfl ?_
      show Steps p.tables e below (T138.setTop (mkF m 139 #[.val (.int p0), .val (.int p1), .val (.int p2), .val (.int p3), .val (.int p4), .val (.int p5), .val (.int (0 : Int32)), .val (.int v127), .val (.int v130), .val (.int v133), .val (.int v136), .val (.ref b138), .unset, .unset] [(.int (0 : Int32))])) _
      refine XS.iconst X138.here hx rfl (hb hby at_139) ?_
      show Steps p.tables e below (T138.setTop (mkF m 140 #[.val (.int p0), .val (.int p1), .val (.int p2), .val (.int p3), .val (.int p4), .val (.int p5), .val (.int (0 : Int32)), .val (.int v127), .val (.int v130), .val (.int v133), .val (.int v136), .val (.ref b138), .unset, .unset] [(.int (5 : Int32)), (.int (0 : Int32))])) _
      refine XS.icmpYes X138.here hx rfl (pc0 := 140) (pc' := 152) rfl (hb hby at_140) rfl (flt (by decide : ¬ ((5 : Int32) < (0 : Int32)))).2.2.2 (by decide) (by decide) ?_
      show Steps p.tables e below (T138.setTop (mkF m 152 #[.val (.int p0), .val (.int p1), .val (.int p2), .val (.int p3), .val (.int p4), .val (.int p5), .val (.int (0 : Int32)), .val (.int v127), .val (.int v130), .val (.int v133), .val (.int v136), .val (.ref b138), .unset, .unset] [])) _
      refine XS.iload X138.here hx rfl (hb hby at_152) rfl ?_
      show Steps p.tables e below (T138.setTop (mkF m 154 #[.val (.int p0), .val (.int p1), .val (.int p2), .val (.int p3), .val (.int p4), .val (.int p5), .val (.int (0 : Int32)), .val (.int v127), .val (.int v130), .val (.int v133), .val (.int v136), .val (.ref b138), .unset, .unset] [(.int (0 : Int32))])) _
      refine XS.bipush X138.here hx rfl (hb hby at_154) ?_
      show Steps p.tables e below (T138.setTop (mkF m 156 #[.val (.int p0), .val (.int p1), .val (.int p2), .val (.int p3), .val (.int p4), .val (.int p5), .val (.int (0 : Int32)), .val (.int v127), .val (.int v130), .val (.int v133), .val (.int v136), .val (.ref b138), .unset, .unset] [(.int (6 : Int32)), (.int (0 : Int32))])) _
      refine XS.icmpYes X138.here hx rfl (pc0 := 156) (pc' := 170) rfl (hb hby at_156) rfl (flt (by decide : ¬ ((6 : Int32) < (0 : Int32)))).2.2.2 (by decide) (by decide) ?_
      show Steps p.tables e below (T138.setTop (mkF m 170 #[.val (.int p0), .val (.int p1), .val (.int p2), .val (.int p3), .val (.int p4), .val (.int p5), .val (.int (0 : Int32)), .val (.int v127), .val (.int v130), .val (.int v133), .val (.int v136), .val (.ref b138), .unset, .unset] [])) _
      refine XS.iload X138.here hx rfl (hb hby at_170) rfl ?_
      show Steps p.tables e below (T138.setTop (mkF m 172 #[.val (.int p0), .val (.int p1), .val (.int p2), .val (.int p3), .val (.int p4), .val (.int p5), .val (.int (0 : Int32)), .val (.int v127), .val (.int v130), .val (.int v133), .val (.int v136), .val (.ref b138), .unset, .unset] [(.int v127)])) _
      refine XS.bipush X138.here hx rfl (hb hby at_172) ?_
      show Steps p.tables e below (T138.setTop (mkF m 174 #[.val (.int p0), .val (.int p1), .val (.int p2), .val (.int p3), .val (.int p4), .val (.int p5), .val (.int (0 : Int32)), .val (.int v127), .val (.int v130), .val (.int v133), .val (.int v136), .val (.ref b138), .unset, .unset] [(.int (71 : Int32)), (.int v127)])) _
      refine XS.ixor X138.here hx rfl (hb hby at_174) rfl ?_
      show Steps p.tables e below (T138.setTop (mkF m 175 #[.val (.int p0), .val (.int p1), .val (.int p2), .val (.int p3), .val (.int p4), .val (.int p5), .val (.int (0 : Int32)), .val (.int v127), .val (.int v130), .val (.int v133), .val (.int v136), .val (.ref b138), .unset, .unset] [(.int (v127 ^^^ (71 : Int32)))])) _
      refine XS.iload X138.here hx rfl (hb hby at_175) rfl ?_
      show Steps p.tables e below (T138.setTop (mkF m 177 #[.val (.int p0), .val (.int p1), .val (.int p2), .val (.int p3), .val (.int p4), .val (.int p5), .val (.int (0 : Int32)), .val (.int v127), .val (.int v130), .val (.int v133), .val (.int v136), .val (.ref b138), .unset, .unset] [(.int v130), (.int (v127 ^^^ (71 : Int32)))])) _
      refine XS.bipush X138.here hx rfl (hb hby at_177) ?_
      show Steps p.tables e below (T138.setTop (mkF m 179 #[.val (.int p0), .val (.int p1), .val (.int p2), .val (.int p3), .val (.int p4), .val (.int p5), .val (.int (0 : Int32)), .val (.int v127), .val (.int v130), .val (.int v133), .val (.int v136), .val (.ref b138), .unset, .unset] [(.int (73 : Int32)), (.int v130), (.int (v127 ^^^ (71 : Int32)))])) _
      refine XS.ixor X138.here hx rfl (hb hby at_179) rfl ?_
      show Steps p.tables e below (T138.setTop (mkF m 180 #[.val (.int p0), .val (.int p1), .val (.int p2), .val (.int p3), .val (.int p4), .val (.int p5), .val (.int (0 : Int32)), .val (.int v127), .val (.int v130), .val (.int v133), .val (.int v136), .val (.ref b138), .unset, .unset] [(.int (v130 ^^^ (73 : Int32))), (.int (v127 ^^^ (71 : Int32)))])) _
      refine XS.ior X138.here hx rfl (hb hby at_180) rfl ?_
      show Steps p.tables e below (T138.setTop (mkF m 181 #[.val (.int p0), .val (.int p1), .val (.int p2), .val (.int p3), .val (.int p4), .val (.int p5), .val (.int (0 : Int32)), .val (.int v127), .val (.int v130), .val (.int v133), .val (.int v136), .val (.ref b138), .unset, .unset] [(.int ((v127 ^^^ (71 : Int32)) ||| (v130 ^^^ (73 : Int32))))])) _
      refine XS.iload X138.here hx rfl (hb hby at_181) rfl ?_
      show Steps p.tables e below (T138.setTop (mkF m 183 #[.val (.int p0), .val (.int p1), .val (.int p2), .val (.int p3), .val (.int p4), .val (.int p5), .val (.int (0 : Int32)), .val (.int v127), .val (.int v130), .val (.int v133), .val (.int v136), .val (.ref b138), .unset, .unset] [(.int v133), (.int ((v127 ^^^ (71 : Int32)) ||| (v130 ^^^ (73 : Int32))))])) _
      refine XS.bipush X138.here hx rfl (hb hby at_183) ?_
      show Steps p.tables e below (T138.setTop (mkF m 185 #[.val (.int p0), .val (.int p1), .val (.int p2), .val (.int p3), .val (.int p4), .val (.int p5), .val (.int (0 : Int32)), .val (.int v127), .val (.int v130), .val (.int v133), .val (.int v136), .val (.ref b138), .unset, .unset] [(.int (79 : Int32)), (.int v133), (.int ((v127 ^^^ (71 : Int32)) ||| (v130 ^^^ (73 : Int32))))])) _
      refine XS.ixor X138.here hx rfl (hb hby at_185) rfl ?_
      show Steps p.tables e below (T138.setTop (mkF m 186 #[.val (.int p0), .val (.int p1), .val (.int p2), .val (.int p3), .val (.int p4), .val (.int p5), .val (.int (0 : Int32)), .val (.int v127), .val (.int v130), .val (.int v133), .val (.int v136), .val (.ref b138), .unset, .unset] [(.int (v133 ^^^ (79 : Int32))), (.int ((v127 ^^^ (71 : Int32)) ||| (v130 ^^^ (73 : Int32))))])) _
      refine XS.ior X138.here hx rfl (hb hby at_186) rfl ?_
      show Steps p.tables e below (T138.setTop (mkF m 187 #[.val (.int p0), .val (.int p1), .val (.int p2), .val (.int p3), .val (.int p4), .val (.int p5), .val (.int (0 : Int32)), .val (.int v127), .val (.int v130), .val (.int v133), .val (.int v136), .val (.ref b138), .unset, .unset] [(.int (((v127 ^^^ (71 : Int32)) ||| (v130 ^^^ (73 : Int32))) ||| (v133 ^^^ (79 : Int32))))])) _
      refine XS.iload X138.here hx rfl (hb hby at_187) rfl ?_
      show Steps p.tables e below (T138.setTop (mkF m 189 #[.val (.int p0), .val (.int p1), .val (.int p2), .val (.int p3), .val (.int p4), .val (.int p5), .val (.int (0 : Int32)), .val (.int v127), .val (.int v130), .val (.int v133), .val (.int v136), .val (.ref b138), .unset, .unset] [(.int v136), (.int (((v127 ^^^ (71 : Int32)) ||| (v130 ^^^ (73 : Int32))) ||| (v133 ^^^ (79 : Int32))))])) _
      refine XS.bipush X138.here hx rfl (hb hby at_189) ?_
      show Steps p.tables e below (T138.setTop (mkF m 191 #[.val (.int p0), .val (.int p1), .val (.int p2), .val (.int p3), .val (.int p4), .val (.int p5), .val (.int (0 : Int32)), .val (.int v127), .val (.int v130), .val (.int v133), .val (.int v136), .val (.ref b138), .unset, .unset] [(.int (80 : Int32)), (.int v136), (.int (((v127 ^^^ (71 : Int32)) ||| (v130 ^^^ (73 : Int32))) ||| (v133 ^^^ (79 : Int32))))])) _
      refine XS.ixor X138.here hx rfl (hb hby at_191) rfl ?_
      show Steps p.tables e below (T138.setTop (mkF m 192 #[.val (.int p0), .val (.int p1), .val (.int p2), .val (.int p3), .val (.int p4), .val (.int p5), .val (.int (0 : Int32)), .val (.int v127), .val (.int v130), .val (.int v133), .val (.int v136), .val (.ref b138), .unset, .unset] [(.int (v136 ^^^ (80 : Int32))), (.int (((v127 ^^^ (71 : Int32)) ||| (v130 ^^^ (73 : Int32))) ||| (v133 ^^^ (79 : Int32))))])) _
      refine XS.ior X138.here hx rfl (hb hby at_192) rfl ?_
      show Steps p.tables e below (T138.setTop (mkF m 193 #[.val (.int p0), .val (.int p1), .val (.int p2), .val (.int p3), .val (.int p4), .val (.int p5), .val (.int (0 : Int32)), .val (.int v127), .val (.int v130), .val (.int v133), .val (.int v136), .val (.ref b138), .unset, .unset] [(.int ((((v127 ^^^ (71 : Int32)) ||| (v130 ^^^ (73 : Int32))) ||| (v133 ^^^ (79 : Int32))) ||| (v136 ^^^ (80 : Int32))))])) _
      refine XS.istore X138.here hx rfl (hb hby at_193) rfl (l' := #[.val (.int p0), .val (.int p1), .val (.int p2), .val (.int p3), .val (.int p4), .val (.int p5), .val (.int (0 : Int32)), .val (.int v127), .val (.int v130), .val (.int v133), .val (.int v136), .val (.ref b138), .val (.int ((((v127 ^^^ (71 : Int32)) ||| (v130 ^^^ (73 : Int32))) ||| (v133 ^^^ (79 : Int32))) ||| (v136 ^^^ (80 : Int32)))), .unset]) rfl ?_
      exact k
    generalize hv_v139 : ((((v127 ^^^ (71 : Int32)) ||| (v130 ^^^ (73 : Int32))) ||| (v133 ^^^ (79 : Int32))) ||| (v136 ^^^ (80 : Int32))) = v139
    refine Go.st (U' := T138.setTop (mkF m 215 #[.val (.int p0), .val (.int p1), .val (.int p2), .val (.int p3), .val (.int p4), .val (.int p5), .val (.int (0 : Int32)), .val (.int v127), .val (.int v130), .val (.int v133), .val (.int v136), .val (.ref b138), .val (.int v139), .val (.int (0 : Int32))] [(.ref b138)])) (fun t k => ?_) ?_
    · show Steps p.tables e below (T138.setTop (mkF m 195 #[.val (.int p0), .val (.int p1), .val (.int p2), .val (.int p3), .val (.int p4), .val (.int p5), .val (.int (0 : Int32)), .val (.int v127), .val (.int v130), .val (.int v133), .val (.int v136), .val (.ref b138), .val (.int v139), .unset] [])) _
      refine XS.iload X138.here hx rfl (hb hby at_195) rfl ?_
      show Steps p.tables e below (T138.setTop (mkF m 197 #[.val (.int p0), .val (.int p1), .val (.int p2), .val (.int p3), .val (.int p4), .val (.int p5), .val (.int (0 : Int32)), .val (.int v127), .val (.int v130), .val (.int v133), .val (.int v136), .val (.ref b138), .val (.int v139), .unset] [(.int (0 : Int32))])) _
      refine XS.iconst X138.here hx rfl (hb hby at_197) ?_
      show Steps p.tables e below (T138.setTop (mkF m 198 #[.val (.int p0), .val (.int p1), .val (.int p2), .val (.int p3), .val (.int p4), .val (.int p5), .val (.int (0 : Int32)), .val (.int v127), .val (.int v130), .val (.int v133), .val (.int v136), .val (.ref b138), .val (.int v139), .unset] [(.int (4 : Int32)), (.int (0 : Int32))])) _
      refine XS.icmpYes X138.here hx rfl (pc0 := 198) (pc' := 210) rfl (hb hby at_198) rfl (tlt (by decide : (0 : Int32) < (4 : Int32))).1 (by decide) (by decide) ?_
      show Steps p.tables e below (T138.setTop (mkF m 210 #[.val (.int p0), .val (.int p1), .val (.int p2), .val (.int p3), .val (.int p4), .val (.int p5), .val (.int (0 : Int32)), .val (.int v127), .val (.int v130), .val (.int v133), .val (.int v136), .val (.ref b138), .val (.int v139), .unset] [])) _
      refine XS.iconst X138.here hx rfl (hb hby at_210) ?_
      show Steps p.tables e below (T138.setTop (mkF m 211 #[.val (.int p0), .val (.int p1), .val (.int p2), .val (.int p3), .val (.int p4), .val (.int p5), .val (.int (0 : Int32)), .val (.int v127), .val (.int v130), .val (.int v133), .val (.int v136), .val (.ref b138), .val (.int v139), .unset] [(.int (0 : Int32))])) _
      refine XS.istore X138.here hx rfl (hb hby at_211) rfl (l' := #[.val (.int p0), .val (.int p1), .val (.int p2), .val (.int p3), .val (.int p4), .val (.int p5), .val (.int (0 : Int32)), .val (.int v127), .val (.int v130), .val (.int v133), .val (.int v136), .val (.ref b138), .val (.int v139), .val (.int (0 : Int32))]) rfl ?_
      show Steps p.tables e below (T138.setTop (mkF m 213 #[.val (.int p0), .val (.int p1), .val (.int p2), .val (.int p3), .val (.int p4), .val (.int p5), .val (.int (0 : Int32)), .val (.int v127), .val (.int v130), .val (.int v133), .val (.int v136), .val (.ref b138), .val (.int v139), .val (.int (0 : Int32))] [])) _
      refine XS.aload X138.here hx rfl (hb hby at_213) rfl rfl ?_
      exact k
    obtain ⟨_, _, ⟨T140, L140, k140, n140⟩, -, X140, ⟨Lc140, hQ140, l140, y140, z140⟩, st140⟩ := Jvm.LawKit.callS X138 hx (y := own_y0) hown (mvT hZ (own_w hw 1 rfl)) (mvT hZ (own_w hw 2 rfl)) (mvT hZ (own_w hw 3 rfl)) (mvT hZ (own_w hw 4 rfl)) (by decide) (backOf (W := 0) (rm1_0 l Z a0 hw [] b138 k138 h138 n0 sz138 V_b138) hZ (own_w hw 4 rfl) (own_w hw 3 rfl) (by decide) (by decide)) (g := (mkF m 215 #[.val (.int p0), .val (.int p1), .val (.int p2), .val (.int p3), .val (.int p4), .val (.int p5), .val (.int (0 : Int32)), .val (.int v127), .val (.int v130), .val (.int v133), .val (.int v136), .val (.ref b138), .val (.int v139), .val (.int (0 : Int32))] [(.ref b138)])) rfl (by rw [hml]; rfl) (argsL := [(.ref b138)]) (rest := []) (lenOf pd_0 rfl) rfl (by show 2 * 0 + _ ≤ _; exact Nat.le_of_eq rfl) (hb hby at_215) (fun _ _ => ⟨rfl, e138, (by decide : 1 + 0 ≤ _), (by decide : 0 + 0 ≤ _)⟩)
    dsimp only [Pt.U, Pt.locs, Pt.cells, Pt.slots] at X140 l140 y140 z140 st140 hQ140
    subst l140 y140 z140
    obtain ⟨rfl, N140q, e140⟩ := hQ140
    have N140 := Fr.app N0 N140q
    refine Go.st (U' := T140.setTop (mkF m 218 #[.val (.int p0), .val (.int p1), .val (.int p2), .val (.int p3), .val (.int p4), .val (.int p5), .val (.int (0 : Int32)), .val (.int v127), .val (.int v130), .val (.int v133), .val (.int v136), .val (.ref b138), .val (.int v139), .val (.int (0 : Int32))] [(.int (g0 ))])) (fun t k => st140 _ k) ?_
    refine Go.st (U' := T140.setTop (mkF m 228 #[.val (.int p0), .val (.int p1), .val (.int p2), .val (.int p3), .val (.int p4), .val (.int p5), .val (.int (0 : Int32)), .val (.int v127), .val (.int v130), .val (.int v133), .val (.int v136), .val (.ref b138), .val (.int v139), .val (.int (0 : Int32))] [(.int (1 : Int32))])) (fun t k => ?_) ?_
    · show Steps p.tables e below (T140.setTop (mkF m 218 #[.val (.int p0), .val (.int p1), .val (.int p2), .val (.int p3), .val (.int p4), .val (.int p5), .val (.int (0 : Int32)), .val (.int v127), .val (.int v130), .val (.int v133), .val (.int v136), .val (.ref b138), .val (.int v139), .val (.int (0 : Int32))] [(.int (g0 ))])) _
      refine XS.iload X140.here hx rfl (hb hby at_218) rfl ?_
      show Steps p.tables e below (T140.setTop (mkF m 220 #[.val (.int p0), .val (.int p1), .val (.int p2), .val (.int p3), .val (.int p4), .val (.int p5), .val (.int (0 : Int32)), .val (.int v127), .val (.int v130), .val (.int v133), .val (.int v136), .val (.ref b138), .val (.int v139), .val (.int (0 : Int32))] [(.int (0 : Int32)), (.int (g0 ))])) _
      refine XS.icmpNo X140.here hx rfl (hb hby at_220) rfl (teq (rfl : (g0 ) = (0 : Int32))).2 ?_
      show Steps p.tables e below (T140.setTop (mkF m 223 #[.val (.int p0), .val (.int p1), .val (.int p2), .val (.int p3), .val (.int p4), .val (.int p5), .val (.int (0 : Int32)), .val (.int v127), .val (.int v130), .val (.int v133), .val (.int v136), .val (.ref b138), .val (.int v139), .val (.int (0 : Int32))] [])) _
      refine XS.iconst X140.here hx rfl (hb hby at_223) ?_
      show Steps p.tables e below (T140.setTop (mkF m 224 #[.val (.int p0), .val (.int p1), .val (.int p2), .val (.int p3), .val (.int p4), .val (.int p5), .val (.int (0 : Int32)), .val (.int v127), .val (.int v130), .val (.int v133), .val (.int v136), .val (.ref b138), .val (.int v139), .val (.int (0 : Int32))] [(.int (1 : Int32))])) _
      refine XS.goto X140.here hx rfl (pc0 := 224) (pc' := 228) rfl (hb hby at_224) (by decide) (by decide) ?_
      exact k
    refine own_ret (Q := Q0 Z p0 p1 p2 p3 p4 p5 h0 n0) (v := some (.int (1 : Int32))) X140 hlk (fun h => by rw [hrt] at h; cases h) (by decide) (by decide) ?_ (fun fs hr => retN X140 hx (t := .boolean) hrt (by simp) (hb hby at_228) hr)
    rw [e140]
    exact ⟨rfl, N140⟩
  · refine Go.st (U' := s₁.setTop (mkF m 71 #[.val (.int p0), .val (.int p1), .val (.int p2), .val (.int p3), .val (.int p4), .val (.int p5), .val (.int (1 : Int32)), .val (.int v127), .val (.int v130), .val (.int v133), .val (.int v136), .unset, .unset, .unset] [(.int (1 : Int32))])) (fun t k => ?_) ?_
    · show Steps p.tables e below (s₁.setTop (mkF m 69 #[.val (.int p0), .val (.int p1), .val (.int p2), .val (.int p3), .val (.int p4), .val (.int p5), .val (.int (1 : Int32)), .val (.int v127), .val (.int v130), .val (.int v133), .val (.int v136), .unset, .unset, .unset] [])) _
      refine XS.iload X0.here hx rfl (hb hby at_69) rfl ?_
      exact k
    obtain ⟨T141, h141, k141, X141, e141, E141, A141, st141⟩ := newP X0 hx hZ (own_w hw 0 rfl) e0 (g := (mkF m 71 #[.val (.int p0), .val (.int p1), .val (.int p2), .val (.int p3), .val (.int p4), .val (.int p5), .val (.int (1 : Int32)), .val (.int v127), .val (.int v130), .val (.int v133), .val (.int v136), .unset, .unset, .unset] [(.int (1 : Int32))])) rfl (hb hby at_71) rfl (by decide) (cap := 1) (by decide) (by decide) (by decide) (by decide)
    obtain ⟨b141, g141⟩ : ∃ z, z = h0.size := ⟨_, rfl⟩
    rw [← g141] at A141 st141
    have ge_b141 : n0 ≤ b141 := Nat.le_trans Z0 (Nat.le_of_eq g141.symm)
    have V_b141 : Arv Z h141 b141 k141 .byte (1 : Int32) [(.int (0 : Int32))] (.int (0 : Int32)) := (Arv.new A141 (by decide)).pad (pad_rep [] (.int (0 : Int32)) 1)
    have sz141 : n0 ≤ h141.size := Nat.le_trans Z0 E141.1
    refine Go.st (U' := T141.setTop (mkF m 73 #[.val (.int p0), .val (.int p1), .val (.int p2), .val (.int p3), .val (.int p4), .val (.int p5), .val (.int (1 : Int32)), .val (.int v127), .val (.int v130), .val (.int v133), .val (.int v136), .unset, .unset, .unset] [(.ref b141)])) (fun t k => st141 _ k) ?_
    refine Go.st (U' := T141.setTop (mkF m 85 #[.val (.int p0), .val (.int p1), .val (.int p2), .val (.int p3), .val (.int p4), .val (.int p5), .val (.int (1 : Int32)), .val (.int v127), .val (.int v130), .val (.int v133), .val (.int v136), .val (.ref b141), .unset, .unset] [(.int v127), (.int (0 : Int32)), (.ref b141)])) (fun t k => ?_) ?_
    · show Steps p.tables e below (T141.setTop (mkF m 73 #[.val (.int p0), .val (.int p1), .val (.int p2), .val (.int p3), .val (.int p4), .val (.int p5), .val (.int (1 : Int32)), .val (.int v127), .val (.int v130), .val (.int v133), .val (.int v136), .unset, .unset, .unset] [(.ref b141)])) _
      refine XS.astore X141.here hx rfl (hb hby at_73) rfl rfl (l' := #[.val (.int p0), .val (.int p1), .val (.int p2), .val (.int p3), .val (.int p4), .val (.int p5), .val (.int (1 : Int32)), .val (.int v127), .val (.int v130), .val (.int v133), .val (.int v136), .val (.ref b141), .unset, .unset]) rfl ?_
      show Steps p.tables e below (T141.setTop (mkF m 75 #[.val (.int p0), .val (.int p1), .val (.int p2), .val (.int p3), .val (.int p4), .val (.int p5), .val (.int (1 : Int32)), .val (.int v127), .val (.int v130), .val (.int v133), .val (.int v136), .val (.ref b141), .unset, .unset] [])) _
      refine XS.iload X141.here hx rfl (hb hby at_75) rfl ?_
      show Steps p.tables e below (T141.setTop (mkF m 77 #[.val (.int p0), .val (.int p1), .val (.int p2), .val (.int p3), .val (.int p4), .val (.int p5), .val (.int (1 : Int32)), .val (.int v127), .val (.int v130), .val (.int v133), .val (.int v136), .val (.ref b141), .unset, .unset] [(.int (1 : Int32))])) _
      refine XS.ifNo X141.here hx rfl (hb hby at_77) rfl ((if0 _ _).trans (tlt (by decide : (0 : Int32) < (1 : Int32))).2.2.2) ?_
      show Steps p.tables e below (T141.setTop (mkF m 80 #[.val (.int p0), .val (.int p1), .val (.int p2), .val (.int p3), .val (.int p4), .val (.int p5), .val (.int (1 : Int32)), .val (.int v127), .val (.int v130), .val (.int v133), .val (.int v136), .val (.ref b141), .unset, .unset] [])) _
      refine XS.aload X141.here hx rfl (hb hby at_80) rfl rfl ?_
      show Steps p.tables e below (T141.setTop (mkF m 82 #[.val (.int p0), .val (.int p1), .val (.int p2), .val (.int p3), .val (.int p4), .val (.int p5), .val (.int (1 : Int32)), .val (.int v127), .val (.int v130), .val (.int v133), .val (.int v136), .val (.ref b141), .unset, .unset] [(.ref b141)])) _
      refine XS.iconst X141.here hx rfl (hb hby at_82) ?_
      show Steps p.tables e below (T141.setTop (mkF m 83 #[.val (.int p0), .val (.int p1), .val (.int p2), .val (.int p3), .val (.int p4), .val (.int p5), .val (.int (1 : Int32)), .val (.int v127), .val (.int v130), .val (.int v133), .val (.int v136), .val (.ref b141), .unset, .unset] [(.int (0 : Int32)), (.ref b141)])) _
      refine XS.iload X141.here hx rfl (hb hby at_83) rfl ?_
      exact k
    obtain ⟨cl143, Ar143, q143, S143, N143, H143, G143⟩ := id V_b141
    obtain ⟨T142, h142, X142, e142, W142, st142⟩ := stB X141 hx hZ e141 Ar143 (j := (0 : Int32)) (inb_of (j := (0 : Int32)) S143 ⟨by decide, by decide⟩) (g := (mkF m 85 #[.val (.int p0), .val (.int p1), .val (.int p2), .val (.int p3), .val (.int p4), .val (.int p5), .val (.int (1 : Int32)), .val (.int v127), .val (.int v130), .val (.int v133), .val (.int v136), .val (.ref b141), .unset, .unset] [(.int v127), (.int (0 : Int32)), (.ref b141)])) rfl rfl (hb hby at_85)
    have V_b141_142 := Arv.set Ar143 q143 S143 N143 H143 G143 (fits_nar_byte _) W142 0 rfl (Nat.le_of_ble_eq_true rfl)
    have N142 := Fr.snoc X142 N0 ge_b141
    have sz142 : n0 ≤ h142.size := Nat.le_trans sz141 (Nat.le_of_eq W142.size.symm)
    refine Go.st (U' := T142.setTop (mkF m 86 #[.val (.int p0), .val (.int p1), .val (.int p2), .val (.int p3), .val (.int p4), .val (.int p5), .val (.int (1 : Int32)), .val (.int v127), .val (.int v130), .val (.int v133), .val (.int v136), .val (.ref b141), .unset, .unset] [])) (fun t k => st142 _ k) ?_
    refine Go.st (U' := T142.setTop (mkF m 195 #[.val (.int p0), .val (.int p1), .val (.int p2), .val (.int p3), .val (.int p4), .val (.int p5), .val (.int (1 : Int32)), .val (.int v127), .val (.int v130), .val (.int v133), .val (.int v136), .val (.ref b141), .val (.int ((((v127 ^^^ (71 : Int32)) ||| (v130 ^^^ (73 : Int32))) ||| (v133 ^^^ (79 : Int32))) ||| (v136 ^^^ (80 : Int32)))), .unset] [])) (fun t k => ?_) ?_
    · show Steps p.tables e below (T142.setTop (mkF m 86 #[.val (.int p0), .val (.int p1), .val (.int p2), .val (.int p3), .val (.int p4), .val (.int p5), .val (.int (1 : Int32)), .val (.int v127), .val (.int v130), .val (.int v133), .val (.int v136), .val (.ref b141), .unset, .unset] [])) _
      refine XS.iload X142.here hx rfl (hb hby at_86) rfl ?_
      show Steps p.tables e below (T142.setTop (mkF m 88 #[.val (.int p0), .val (.int p1), .val (.int p2), .val (.int p3), .val (.int p4), .val (.int p5), .val (.int (1 : Int32)), .val (.int v127), .val (.int v130), .val (.int v133), .val (.int v136), .val (.ref b141), .unset, .unset] [(.int (1 : Int32))])) _
      refine XS.iconst X142.here hx rfl (hb hby at_88) ?_
      show Steps p.tables e below (T142.setTop (mkF m 89 #[.val (.int p0), .val (.int p1), .val (.int p2), .val (.int p3), .val (.int p4), .val (.int p5), .val (.int (1 : Int32)), .val (.int v127), .val (.int v130), .val (.int v133), .val (.int v136), .val (.ref b141), .unset, .unset] [(.int (1 : Int32)), (.int (1 : Int32))])) _
      refine XS.icmpYes X142.here hx rfl (pc0 := 89) (pc' := 98) rfl (hb hby at_89) rfl (flt (by decide : ¬ ((1 : Int32) < (1 : Int32)))).2.2.2 (by decide) (by decide) ?_
      show Steps p.tables e below (T142.setTop (mkF m 98 #[.val (.int p0), .val (.int p1), .val (.int p2), .val (.int p3), .val (.int p4), .val (.int p5), .val (.int (1 : Int32)), .val (.int v127), .val (.int v130), .val (.int v133), .val (.int v136), .val (.ref b141), .unset, .unset] [])) _
      refine XS.iload X142.here hx rfl (hb hby at_98) rfl ?_
      show Steps p.tables e below (T142.setTop (mkF m 100 #[.val (.int p0), .val (.int p1), .val (.int p2), .val (.int p3), .val (.int p4), .val (.int p5), .val (.int (1 : Int32)), .val (.int v127), .val (.int v130), .val (.int v133), .val (.int v136), .val (.ref b141), .unset, .unset] [(.int (1 : Int32))])) _
      refine XS.iconst X142.here hx rfl (hb hby at_100) ?_
      show Steps p.tables e below (T142.setTop (mkF m 101 #[.val (.int p0), .val (.int p1), .val (.int p2), .val (.int p3), .val (.int p4), .val (.int p5), .val (.int (1 : Int32)), .val (.int v127), .val (.int v130), .val (.int v133), .val (.int v136), .val (.ref b141), .unset, .unset] [(.int (2 : Int32)), (.int (1 : Int32))])) _
      refine XS.icmpYes X142.here hx rfl (pc0 := 101) (pc' := 110) rfl (hb hby at_101) rfl (flt (by decide : ¬ ((2 : Int32) < (1 : Int32)))).2.2.2 (by decide) (by decide) ?_
      show Steps p.tables e below (T142.setTop (mkF m 110 #[.val (.int p0), .val (.int p1), .val (.int p2), .val (.int p3), .val (.int p4), .val (.int p5), .val (.int (1 : Int32)), .val (.int v127), .val (.int v130), .val (.int v133), .val (.int v136), .val (.ref b141), .unset, .unset] [])) _
      refine XS.iload X142.here hx rfl (hb hby at_110) rfl ?_
      show Steps p.tables e below (T142.setTop (mkF m 112 #[.val (.int p0), .val (.int p1), .val (.int p2), .val (.int p3), .val (.int p4), .val (.int p5), .val (.int (1 : Int32)), .val (.int v127), .val (.int v130), .val (.int v133), .val (.int v136), .val (.ref b141), .unset, .unset] [(.int (1 : Int32))])) _
      refine XS.iconst X142.here hx rfl (hb hby at_112) ?_
      show Steps p.tables e below (T142.setTop (mkF m 113 #[.val (.int p0), .val (.int p1), .val (.int p2), .val (.int p3), .val (.int p4), .val (.int p5), .val (.int (1 : Int32)), .val (.int v127), .val (.int v130), .val (.int v133), .val (.int v136), .val (.ref b141), .unset, .unset] [(.int (3 : Int32)), (.int (1 : Int32))])) _
      refine XS.icmpYes X142.here hx rfl (pc0 := 113) (pc' := 122) rfl (hb hby at_113) rfl (flt (by decide : ¬ ((3 : Int32) < (1 : Int32)))).2.2.2 (by decide) (by decide) ?_
      show Steps p.tables e below (T142.setTop (mkF m 122 #[.val (.int p0), .val (.int p1), .val (.int p2), .val (.int p3), .val (.int p4), .val (.int p5), .val (.int (1 : Int32)), .val (.int v127), .val (.int v130), .val (.int v133), .val (.int v136), .val (.ref b141), .unset, .unset] [])) _
      refine XS.iload X142.here hx rfl (hb hby at_122) rfl ?_
      show Steps p.tables e below (T142.setTop (mkF m 124 #[.val (.int p0), .val (.int p1), .val (.int p2), .val (.int p3), .val (.int p4), .val (.int p5), .val (.int (1 : Int32)), .val (.int v127), .val (.int v130), .val (.int v133), .val (.int v136), .val (.ref b141), .unset, .unset] [(.int (1 : Int32))])) _
      refine XS.iconst X142.here hx rfl (hb hby at_124) ?_
      show Steps p.tables e below (T142.setTop (mkF m 125 #[.val (.int p0), .val (.int p1), .val (.int p2), .val (.int p3), .val (.int p4), .val (.int p5), .val (.int (1 : Int32)), .val (.int v127), .val (.int v130), .val (.int v133), .val (.int v136), .val (.ref b141), .unset, .unset] [(.int (4 : Int32)), (.int (1 : Int32))])) _
      refine XS.icmpYes X142.here hx rfl (pc0 := 125) (pc' := 137) rfl (hb hby at_125) rfl (flt (by decide : ¬ ((4 : Int32) < (1 : Int32)))).2.2.2 (by decide) (by decide) ?_
      show Steps p.tables e below (T142.setTop (mkF m 137 #[.val (.int p0), .val (.int p1), .val (.int p2), .val (.int p3), .val (.int p4), .val (.int p5), .val (.int (1 : Int32)), .val (.int v127), .val (.int v130), .val (.int v133), .val (.int v136), .val (.ref b141), .unset, .unset] [])) _
      refine XS.iload X142.here hx rfl (hb hby at_137) rfl ?_
      show Steps p.tables e below (T142.setTop (mkF m 139 #[.val (.int p0), .val (.int p1), .val (.int p2), .val (.int p3), .val (.int p4), .val (.int p5), .val (.int (1 : Int32)), .val (.int v127), .val (.int v130), .val (.int v133), .val (.int v136), .val (.ref b141), .unset, .unset] [(.int (1 : Int32))])) _
      refine XS.iconst X142.here hx rfl (hb hby at_139) ?_
      show Steps p.tables e below (T142.setTop (mkF m 140 #[.val (.int p0), .val (.int p1), .val (.int p2), .val (.int p3), .val (.int p4), .val (.int p5), .val (.int (1 : Int32)), .val (.int v127), .val (.int v130), .val (.int v133), .val (.int v136), .val (.ref b141), .unset, .unset] [(.int (5 : Int32)), (.int (1 : Int32))])) _
      refine XS.icmpYes X142.here hx rfl (pc0 := 140) (pc' := 152) rfl (hb hby at_140) rfl (flt (by decide : ¬ ((5 : Int32) < (1 : Int32)))).2.2.2 (by decide) (by decide) ?_
      show Steps p.tables e below (T142.setTop (mkF m 152 #[.val (.int p0), .val (.int p1), .val (.int p2), .val (.int p3), .val (.int p4), .val (.int p5), .val (.int (1 : Int32)), .val (.int v127), .val (.int v130), .val (.int v133), .val (.int v136), .val (.ref b141), .unset, .unset] [])) _
      refine XS.iload X142.here hx rfl (hb hby at_152) rfl ?_
      show Steps p.tables e below (T142.setTop (mkF m 154 #[.val (.int p0), .val (.int p1), .val (.int p2), .val (.int p3), .val (.int p4), .val (.int p5), .val (.int (1 : Int32)), .val (.int v127), .val (.int v130), .val (.int v133), .val (.int v136), .val (.ref b141), .unset, .unset] [(.int (1 : Int32))])) _
      refine XS.bipush X142.here hx rfl (hb hby at_154) ?_
      show Steps p.tables e below (T142.setTop (mkF m 156 #[.val (.int p0), .val (.int p1), .val (.int p2), .val (.int p3), .val (.int p4), .val (.int p5), .val (.int (1 : Int32)), .val (.int v127), .val (.int v130), .val (.int v133), .val (.int v136), .val (.ref b141), .unset, .unset] [(.int (6 : Int32)), (.int (1 : Int32))])) _
      refine XS.icmpYes X142.here hx rfl (pc0 := 156) (pc' := 170) rfl (hb hby at_156) rfl (flt (by decide : ¬ ((6 : Int32) < (1 : Int32)))).2.2.2 (by decide) (by decide) ?_
      show Steps p.tables e below (T142.setTop (mkF m 170 #[.val (.int p0), .val (.int p1), .val (.int p2), .val (.int p3), .val (.int p4), .val (.int p5), .val (.int (1 : Int32)), .val (.int v127), .val (.int v130), .val (.int v133), .val (.int v136), .val (.ref b141), .unset, .unset] [])) _
      refine XS.iload X142.here hx rfl (hb hby at_170) rfl ?_
      show Steps p.tables e below (T142.setTop (mkF m 172 #[.val (.int p0), .val (.int p1), .val (.int p2), .val (.int p3), .val (.int p4), .val (.int p5), .val (.int (1 : Int32)), .val (.int v127), .val (.int v130), .val (.int v133), .val (.int v136), .val (.ref b141), .unset, .unset] [(.int v127)])) _
      refine XS.bipush X142.here hx rfl (hb hby at_172) ?_
      show Steps p.tables e below (T142.setTop (mkF m 174 #[.val (.int p0), .val (.int p1), .val (.int p2), .val (.int p3), .val (.int p4), .val (.int p5), .val (.int (1 : Int32)), .val (.int v127), .val (.int v130), .val (.int v133), .val (.int v136), .val (.ref b141), .unset, .unset] [(.int (71 : Int32)), (.int v127)])) _
      refine XS.ixor X142.here hx rfl (hb hby at_174) rfl ?_
      show Steps p.tables e below (T142.setTop (mkF m 175 #[.val (.int p0), .val (.int p1), .val (.int p2), .val (.int p3), .val (.int p4), .val (.int p5), .val (.int (1 : Int32)), .val (.int v127), .val (.int v130), .val (.int v133), .val (.int v136), .val (.ref b141), .unset, .unset] [(.int (v127 ^^^ (71 : Int32)))])) _
      refine XS.iload X142.here hx rfl (hb hby at_175) rfl ?_
      show Steps p.tables e below (T142.setTop (mkF m 177 #[.val (.int p0), .val (.int p1), .val (.int p2), .val (.int p3), .val (.int p4), .val (.int p5), .val (.int (1 : Int32)), .val (.int v127), .val (.int v130), .val (.int v133), .val (.int v136), .val (.ref b141), .unset, .unset] [(.int v130), (.int (v127 ^^^ (71 : Int32)))])) _
      refine XS.bipush X142.here hx rfl (hb hby at_177) ?_
      show Steps p.tables e below (T142.setTop (mkF m 179 #[.val (.int p0), .val (.int p1), .val (.int p2), .val (.int p3), .val (.int p4), .val (.int p5), .val (.int (1 : Int32)), .val (.int v127), .val (.int v130), .val (.int v133), .val (.int v136), .val (.ref b141), .unset, .unset] [(.int (73 : Int32)), (.int v130), (.int (v127 ^^^ (71 : Int32)))])) _
      refine XS.ixor X142.here hx rfl (hb hby at_179) rfl ?_
      show Steps p.tables e below (T142.setTop (mkF m 180 #[.val (.int p0), .val (.int p1), .val (.int p2), .val (.int p3), .val (.int p4), .val (.int p5), .val (.int (1 : Int32)), .val (.int v127), .val (.int v130), .val (.int v133), .val (.int v136), .val (.ref b141), .unset, .unset] [(.int (v130 ^^^ (73 : Int32))), (.int (v127 ^^^ (71 : Int32)))])) _
      refine XS.ior X142.here hx rfl (hb hby at_180) rfl ?_
      show Steps p.tables e below (T142.setTop (mkF m 181 #[.val (.int p0), .val (.int p1), .val (.int p2), .val (.int p3), .val (.int p4), .val (.int p5), .val (.int (1 : Int32)), .val (.int v127), .val (.int v130), .val (.int v133), .val (.int v136), .val (.ref b141), .unset, .unset] [(.int ((v127 ^^^ (71 : Int32)) ||| (v130 ^^^ (73 : Int32))))])) _
      refine XS.iload X142.here hx rfl (hb hby at_181) rfl ?_
      show Steps p.tables e below (T142.setTop (mkF m 183 #[.val (.int p0), .val (.int p1), .val (.int p2), .val (.int p3), .val (.int p4), .val (.int p5), .val (.int (1 : Int32)), .val (.int v127), .val (.int v130), .val (.int v133), .val (.int v136), .val (.ref b141), .unset, .unset] [(.int v133), (.int ((v127 ^^^ (71 : Int32)) ||| (v130 ^^^ (73 : Int32))))])) _
      refine XS.bipush X142.here hx rfl (hb hby at_183) ?_
      show Steps p.tables e below (T142.setTop (mkF m 185 #[.val (.int p0), .val (.int p1), .val (.int p2), .val (.int p3), .val (.int p4), .val (.int p5), .val (.int (1 : Int32)), .val (.int v127), .val (.int v130), .val (.int v133), .val (.int v136), .val (.ref b141), .unset, .unset] [(.int (79 : Int32)), (.int v133), (.int ((v127 ^^^ (71 : Int32)) ||| (v130 ^^^ (73 : Int32))))])) _
      refine XS.ixor X142.here hx rfl (hb hby at_185) rfl ?_
      show Steps p.tables e below (T142.setTop (mkF m 186 #[.val (.int p0), .val (.int p1), .val (.int p2), .val (.int p3), .val (.int p4), .val (.int p5), .val (.int (1 : Int32)), .val (.int v127), .val (.int v130), .val (.int v133), .val (.int v136), .val (.ref b141), .unset, .unset] [(.int (v133 ^^^ (79 : Int32))), (.int ((v127 ^^^ (71 : Int32)) ||| (v130 ^^^ (73 : Int32))))])) _
      refine XS.ior X142.here hx rfl (hb hby at_186) rfl ?_
      show Steps p.tables e below (T142.setTop (mkF m 187 #[.val (.int p0), .val (.int p1), .val (.int p2), .val (.int p3), .val (.int p4), .val (.int p5), .val (.int (1 : Int32)), .val (.int v127), .val (.int v130), .val (.int v133), .val (.int v136), .val (.ref b141), .unset, .unset] [(.int (((v127 ^^^ (71 : Int32)) ||| (v130 ^^^ (73 : Int32))) ||| (v133 ^^^ (79 : Int32))))])) _
      refine XS.iload X142.here hx rfl (hb hby at_187) rfl ?_
      show Steps p.tables e below (T142.setTop (mkF m 189 #[.val (.int p0), .val (.int p1), .val (.int p2), .val (.int p3), .val (.int p4), .val (.int p5), .val (.int (1 : Int32)), .val (.int v127), .val (.int v130), .val (.int v133), .val (.int v136), .val (.ref b141), .unset, .unset] [(.int v136), (.int (((v127 ^^^ (71 : Int32)) ||| (v130 ^^^ (73 : Int32))) ||| (v133 ^^^ (79 : Int32))))])) _
      refine XS.bipush X142.here hx rfl (hb hby at_189) ?_
      show Steps p.tables e below (T142.setTop (mkF m 191 #[.val (.int p0), .val (.int p1), .val (.int p2), .val (.int p3), .val (.int p4), .val (.int p5), .val (.int (1 : Int32)), .val (.int v127), .val (.int v130), .val (.int v133), .val (.int v136), .val (.ref b141), .unset, .unset] [(.int (80 : Int32)), (.int v136), (.int (((v127 ^^^ (71 : Int32)) ||| (v130 ^^^ (73 : Int32))) ||| (v133 ^^^ (79 : Int32))))])) _
      refine XS.ixor X142.here hx rfl (hb hby at_191) rfl ?_
      show Steps p.tables e below (T142.setTop (mkF m 192 #[.val (.int p0), .val (.int p1), .val (.int p2), .val (.int p3), .val (.int p4), .val (.int p5), .val (.int (1 : Int32)), .val (.int v127), .val (.int v130), .val (.int v133), .val (.int v136), .val (.ref b141), .unset, .unset] [(.int (v136 ^^^ (80 : Int32))), (.int (((v127 ^^^ (71 : Int32)) ||| (v130 ^^^ (73 : Int32))) ||| (v133 ^^^ (79 : Int32))))])) _
      refine XS.ior X142.here hx rfl (hb hby at_192) rfl ?_
      show Steps p.tables e below (T142.setTop (mkF m 193 #[.val (.int p0), .val (.int p1), .val (.int p2), .val (.int p3), .val (.int p4), .val (.int p5), .val (.int (1 : Int32)), .val (.int v127), .val (.int v130), .val (.int v133), .val (.int v136), .val (.ref b141), .unset, .unset] [(.int ((((v127 ^^^ (71 : Int32)) ||| (v130 ^^^ (73 : Int32))) ||| (v133 ^^^ (79 : Int32))) ||| (v136 ^^^ (80 : Int32))))])) _
      refine XS.istore X142.here hx rfl (hb hby at_193) rfl (l' := #[.val (.int p0), .val (.int p1), .val (.int p2), .val (.int p3), .val (.int p4), .val (.int p5), .val (.int (1 : Int32)), .val (.int v127), .val (.int v130), .val (.int v133), .val (.int v136), .val (.ref b141), .val (.int ((((v127 ^^^ (71 : Int32)) ||| (v130 ^^^ (73 : Int32))) ||| (v133 ^^^ (79 : Int32))) ||| (v136 ^^^ (80 : Int32)))), .unset]) rfl ?_
      exact k
    generalize hv_v144 : ((((v127 ^^^ (71 : Int32)) ||| (v130 ^^^ (73 : Int32))) ||| (v133 ^^^ (79 : Int32))) ||| (v136 ^^^ (80 : Int32))) = v144
    refine Go.st (U' := T142.setTop (mkF m 215 #[.val (.int p0), .val (.int p1), .val (.int p2), .val (.int p3), .val (.int p4), .val (.int p5), .val (.int (1 : Int32)), .val (.int v127), .val (.int v130), .val (.int v133), .val (.int v136), .val (.ref b141), .val (.int v144), .val (.int (0 : Int32))] [(.ref b141)])) (fun t k => ?_) ?_
    · show Steps p.tables e below (T142.setTop (mkF m 195 #[.val (.int p0), .val (.int p1), .val (.int p2), .val (.int p3), .val (.int p4), .val (.int p5), .val (.int (1 : Int32)), .val (.int v127), .val (.int v130), .val (.int v133), .val (.int v136), .val (.ref b141), .val (.int v144), .unset] [])) _
      refine XS.iload X142.here hx rfl (hb hby at_195) rfl ?_
      show Steps p.tables e below (T142.setTop (mkF m 197 #[.val (.int p0), .val (.int p1), .val (.int p2), .val (.int p3), .val (.int p4), .val (.int p5), .val (.int (1 : Int32)), .val (.int v127), .val (.int v130), .val (.int v133), .val (.int v136), .val (.ref b141), .val (.int v144), .unset] [(.int (1 : Int32))])) _
      refine XS.iconst X142.here hx rfl (hb hby at_197) ?_
      show Steps p.tables e below (T142.setTop (mkF m 198 #[.val (.int p0), .val (.int p1), .val (.int p2), .val (.int p3), .val (.int p4), .val (.int p5), .val (.int (1 : Int32)), .val (.int v127), .val (.int v130), .val (.int v133), .val (.int v136), .val (.ref b141), .val (.int v144), .unset] [(.int (4 : Int32)), (.int (1 : Int32))])) _
      refine XS.icmpYes X142.here hx rfl (pc0 := 198) (pc' := 210) rfl (hb hby at_198) rfl (tlt (by decide : (1 : Int32) < (4 : Int32))).1 (by decide) (by decide) ?_
      show Steps p.tables e below (T142.setTop (mkF m 210 #[.val (.int p0), .val (.int p1), .val (.int p2), .val (.int p3), .val (.int p4), .val (.int p5), .val (.int (1 : Int32)), .val (.int v127), .val (.int v130), .val (.int v133), .val (.int v136), .val (.ref b141), .val (.int v144), .unset] [])) _
      refine XS.iconst X142.here hx rfl (hb hby at_210) ?_
      show Steps p.tables e below (T142.setTop (mkF m 211 #[.val (.int p0), .val (.int p1), .val (.int p2), .val (.int p3), .val (.int p4), .val (.int p5), .val (.int (1 : Int32)), .val (.int v127), .val (.int v130), .val (.int v133), .val (.int v136), .val (.ref b141), .val (.int v144), .unset] [(.int (0 : Int32))])) _
      refine XS.istore X142.here hx rfl (hb hby at_211) rfl (l' := #[.val (.int p0), .val (.int p1), .val (.int p2), .val (.int p3), .val (.int p4), .val (.int p5), .val (.int (1 : Int32)), .val (.int v127), .val (.int v130), .val (.int v133), .val (.int v136), .val (.ref b141), .val (.int v144), .val (.int (0 : Int32))]) rfl ?_
      show Steps p.tables e below (T142.setTop (mkF m 213 #[.val (.int p0), .val (.int p1), .val (.int p2), .val (.int p3), .val (.int p4), .val (.int p5), .val (.int (1 : Int32)), .val (.int v127), .val (.int v130), .val (.int v133), .val (.int v136), .val (.ref b141), .val (.int v144), .val (.int (0 : Int32))] [])) _
      refine XS.aload X142.here hx rfl (hb hby at_213) rfl rfl ?_
      exact k
    obtain ⟨_, _, ⟨T145, L145, k145, n145⟩, -, X145, ⟨Lc145, hQ145, l145, y145, z145⟩, st145⟩ := Jvm.LawKit.callS X142 hx (y := own_y0) hown (mvT hZ (own_w hw 1 rfl)) (mvT hZ (own_w hw 2 rfl)) (mvT hZ (own_w hw 3 rfl)) (mvT hZ (own_w hw 4 rfl)) (by decide) (backOf (W := 0) (rm1_1 l Z a0 hw [] b141 k141 (v127.toInt8.toInt32) h142 n0 sz142 V_b141_142) hZ (own_w hw 4 rfl) (own_w hw 3 rfl) (by decide) (by decide)) (g := (mkF m 215 #[.val (.int p0), .val (.int p1), .val (.int p2), .val (.int p3), .val (.int p4), .val (.int p5), .val (.int (1 : Int32)), .val (.int v127), .val (.int v130), .val (.int v133), .val (.int v136), .val (.ref b141), .val (.int v144), .val (.int (0 : Int32))] [(.ref b141)])) rfl (by rw [hml]; rfl) (argsL := [(.ref b141)]) (rest := []) (lenOf pd_0 rfl) rfl (by show 2 * 0 + _ ≤ _; exact Nat.le_of_eq rfl) (hb hby at_215) (fun _ _ => ⟨rfl, e142, (by decide : 1 + 0 ≤ _), (by decide : 1 + 0 ≤ _)⟩)
    dsimp only [Pt.U, Pt.locs, Pt.cells, Pt.slots] at X145 l145 y145 z145 st145 hQ145
    subst l145 y145 z145
    obtain ⟨rfl, N145q, e145⟩ := hQ145
    have N145 := Fr.app N142 N145q
    refine Go.st (U' := T145.setTop (mkF m 218 #[.val (.int p0), .val (.int p1), .val (.int p2), .val (.int p3), .val (.int p4), .val (.int p5), .val (.int (1 : Int32)), .val (.int v127), .val (.int v130), .val (.int v133), .val (.int v136), .val (.ref b141), .val (.int v144), .val (.int (0 : Int32))] [(.int (g1 ))])) (fun t k => st145 _ k) ?_
    refine Go.st (U' := T145.setTop (mkF m 228 #[.val (.int p0), .val (.int p1), .val (.int p2), .val (.int p3), .val (.int p4), .val (.int p5), .val (.int (1 : Int32)), .val (.int v127), .val (.int v130), .val (.int v133), .val (.int v136), .val (.ref b141), .val (.int v144), .val (.int (0 : Int32))] [(.int (1 : Int32))])) (fun t k => ?_) ?_
    · show Steps p.tables e below (T145.setTop (mkF m 218 #[.val (.int p0), .val (.int p1), .val (.int p2), .val (.int p3), .val (.int p4), .val (.int p5), .val (.int (1 : Int32)), .val (.int v127), .val (.int v130), .val (.int v133), .val (.int v136), .val (.ref b141), .val (.int v144), .val (.int (0 : Int32))] [(.int (g1 ))])) _
      refine XS.iload X145.here hx rfl (hb hby at_218) rfl ?_
      show Steps p.tables e below (T145.setTop (mkF m 220 #[.val (.int p0), .val (.int p1), .val (.int p2), .val (.int p3), .val (.int p4), .val (.int p5), .val (.int (1 : Int32)), .val (.int v127), .val (.int v130), .val (.int v133), .val (.int v136), .val (.ref b141), .val (.int v144), .val (.int (0 : Int32))] [(.int (0 : Int32)), (.int (g1 ))])) _
      refine XS.icmpNo X145.here hx rfl (hb hby at_220) rfl (teq (rfl : (g1 ) = (0 : Int32))).2 ?_
      show Steps p.tables e below (T145.setTop (mkF m 223 #[.val (.int p0), .val (.int p1), .val (.int p2), .val (.int p3), .val (.int p4), .val (.int p5), .val (.int (1 : Int32)), .val (.int v127), .val (.int v130), .val (.int v133), .val (.int v136), .val (.ref b141), .val (.int v144), .val (.int (0 : Int32))] [])) _
      refine XS.iconst X145.here hx rfl (hb hby at_223) ?_
      show Steps p.tables e below (T145.setTop (mkF m 224 #[.val (.int p0), .val (.int p1), .val (.int p2), .val (.int p3), .val (.int p4), .val (.int p5), .val (.int (1 : Int32)), .val (.int v127), .val (.int v130), .val (.int v133), .val (.int v136), .val (.ref b141), .val (.int v144), .val (.int (0 : Int32))] [(.int (1 : Int32))])) _
      refine XS.goto X145.here hx rfl (pc0 := 224) (pc' := 228) rfl (hb hby at_224) (by decide) (by decide) ?_
      exact k
    refine own_ret (Q := Q0 Z p0 p1 p2 p3 p4 p5 h0 n0) (v := some (.int (1 : Int32))) X145 hlk (fun h => by rw [hrt] at h; cases h) (by decide) (by decide) ?_ (fun fs hr => retN X145 hx (t := .boolean) hrt (by simp) (hb hby at_228) hr)
    rw [e145]
    exact ⟨rfl, N145⟩
  · refine Go.st (U' := s₁.setTop (mkF m 71 #[.val (.int p0), .val (.int p1), .val (.int p2), .val (.int p3), .val (.int p4), .val (.int p5), .val (.int (2 : Int32)), .val (.int v127), .val (.int v130), .val (.int v133), .val (.int v136), .unset, .unset, .unset] [(.int (2 : Int32))])) (fun t k => ?_) ?_
    · show Steps p.tables e below (s₁.setTop (mkF m 69 #[.val (.int p0), .val (.int p1), .val (.int p2), .val (.int p3), .val (.int p4), .val (.int p5), .val (.int (2 : Int32)), .val (.int v127), .val (.int v130), .val (.int v133), .val (.int v136), .unset, .unset, .unset] [])) _
      refine XS.iload X0.here hx rfl (hb hby at_69) rfl ?_
      exact k
    obtain ⟨T146, h146, k146, X146, e146, E146, A146, st146⟩ := newP X0 hx hZ (own_w hw 0 rfl) e0 (g := (mkF m 71 #[.val (.int p0), .val (.int p1), .val (.int p2), .val (.int p3), .val (.int p4), .val (.int p5), .val (.int (2 : Int32)), .val (.int v127), .val (.int v130), .val (.int v133), .val (.int v136), .unset, .unset, .unset] [(.int (2 : Int32))])) rfl (hb hby at_71) rfl (by decide) (cap := 2) (by decide) (by decide) (by decide) (by decide)
    obtain ⟨b146, g146⟩ : ∃ z, z = h0.size := ⟨_, rfl⟩
    rw [← g146] at A146 st146
    have ge_b146 : n0 ≤ b146 := Nat.le_trans Z0 (Nat.le_of_eq g146.symm)
    have V_b146 : Arv Z h146 b146 k146 .byte (2 : Int32) [(.int (0 : Int32)), (.int (0 : Int32))] (.int (0 : Int32)) := (Arv.new A146 (by decide)).pad (pad_rep [] (.int (0 : Int32)) 2)
    have sz146 : n0 ≤ h146.size := Nat.le_trans Z0 E146.1
    refine Go.st (U' := T146.setTop (mkF m 73 #[.val (.int p0), .val (.int p1), .val (.int p2), .val (.int p3), .val (.int p4), .val (.int p5), .val (.int (2 : Int32)), .val (.int v127), .val (.int v130), .val (.int v133), .val (.int v136), .unset, .unset, .unset] [(.ref b146)])) (fun t k => st146 _ k) ?_
    refine Go.st (U' := T146.setTop (mkF m 85 #[.val (.int p0), .val (.int p1), .val (.int p2), .val (.int p3), .val (.int p4), .val (.int p5), .val (.int (2 : Int32)), .val (.int v127), .val (.int v130), .val (.int v133), .val (.int v136), .val (.ref b146), .unset, .unset] [(.int v127), (.int (0 : Int32)), (.ref b146)])) (fun t k => ?_) ?_
    · show Steps p.tables e below (T146.setTop (mkF m 73 #[.val (.int p0), .val (.int p1), .val (.int p2), .val (.int p3), .val (.int p4), .val (.int p5), .val (.int (2 : Int32)), .val (.int v127), .val (.int v130), .val (.int v133), .val (.int v136), .unset, .unset, .unset] [(.ref b146)])) _
      refine XS.astore X146.here hx rfl (hb hby at_73) rfl rfl (l' := #[.val (.int p0), .val (.int p1), .val (.int p2), .val (.int p3), .val (.int p4), .val (.int p5), .val (.int (2 : Int32)), .val (.int v127), .val (.int v130), .val (.int v133), .val (.int v136), .val (.ref b146), .unset, .unset]) rfl ?_
      show Steps p.tables e below (T146.setTop (mkF m 75 #[.val (.int p0), .val (.int p1), .val (.int p2), .val (.int p3), .val (.int p4), .val (.int p5), .val (.int (2 : Int32)), .val (.int v127), .val (.int v130), .val (.int v133), .val (.int v136), .val (.ref b146), .unset, .unset] [])) _
      refine XS.iload X146.here hx rfl (hb hby at_75) rfl ?_
      show Steps p.tables e below (T146.setTop (mkF m 77 #[.val (.int p0), .val (.int p1), .val (.int p2), .val (.int p3), .val (.int p4), .val (.int p5), .val (.int (2 : Int32)), .val (.int v127), .val (.int v130), .val (.int v133), .val (.int v136), .val (.ref b146), .unset, .unset] [(.int (2 : Int32))])) _
      refine XS.ifNo X146.here hx rfl (hb hby at_77) rfl ((if0 _ _).trans (tlt (by decide : (0 : Int32) < (2 : Int32))).2.2.2) ?_
      show Steps p.tables e below (T146.setTop (mkF m 80 #[.val (.int p0), .val (.int p1), .val (.int p2), .val (.int p3), .val (.int p4), .val (.int p5), .val (.int (2 : Int32)), .val (.int v127), .val (.int v130), .val (.int v133), .val (.int v136), .val (.ref b146), .unset, .unset] [])) _
      refine XS.aload X146.here hx rfl (hb hby at_80) rfl rfl ?_
      show Steps p.tables e below (T146.setTop (mkF m 82 #[.val (.int p0), .val (.int p1), .val (.int p2), .val (.int p3), .val (.int p4), .val (.int p5), .val (.int (2 : Int32)), .val (.int v127), .val (.int v130), .val (.int v133), .val (.int v136), .val (.ref b146), .unset, .unset] [(.ref b146)])) _
      refine XS.iconst X146.here hx rfl (hb hby at_82) ?_
      show Steps p.tables e below (T146.setTop (mkF m 83 #[.val (.int p0), .val (.int p1), .val (.int p2), .val (.int p3), .val (.int p4), .val (.int p5), .val (.int (2 : Int32)), .val (.int v127), .val (.int v130), .val (.int v133), .val (.int v136), .val (.ref b146), .unset, .unset] [(.int (0 : Int32)), (.ref b146)])) _
      refine XS.iload X146.here hx rfl (hb hby at_83) rfl ?_
      exact k
    obtain ⟨cl148, Ar148, q148, S148, N148, H148, G148⟩ := id V_b146
    obtain ⟨T147, h147, X147, e147, W147, st147⟩ := stB X146 hx hZ e146 Ar148 (j := (0 : Int32)) (inb_of (j := (0 : Int32)) S148 ⟨by decide, by decide⟩) (g := (mkF m 85 #[.val (.int p0), .val (.int p1), .val (.int p2), .val (.int p3), .val (.int p4), .val (.int p5), .val (.int (2 : Int32)), .val (.int v127), .val (.int v130), .val (.int v133), .val (.int v136), .val (.ref b146), .unset, .unset] [(.int v127), (.int (0 : Int32)), (.ref b146)])) rfl rfl (hb hby at_85)
    have V_b146_147 := Arv.set Ar148 q148 S148 N148 H148 G148 (fits_nar_byte _) W147 0 rfl (Nat.le_of_ble_eq_true rfl)
    have N147 := Fr.snoc X147 N0 ge_b146
    have sz147 : n0 ≤ h147.size := Nat.le_trans sz146 (Nat.le_of_eq W147.size.symm)
    refine Go.st (U' := T147.setTop (mkF m 86 #[.val (.int p0), .val (.int p1), .val (.int p2), .val (.int p3), .val (.int p4), .val (.int p5), .val (.int (2 : Int32)), .val (.int v127), .val (.int v130), .val (.int v133), .val (.int v136), .val (.ref b146), .unset, .unset] [])) (fun t k => st147 _ k) ?_
    refine Go.st (U' := T147.setTop (mkF m 97 #[.val (.int p0), .val (.int p1), .val (.int p2), .val (.int p3), .val (.int p4), .val (.int p5), .val (.int (2 : Int32)), .val (.int v127), .val (.int v130), .val (.int v133), .val (.int v136), .val (.ref b146), .unset, .unset] [(.int v130), (.int (1 : Int32)), (.ref b146)])) (fun t k => ?_) ?_
    · show Steps p.tables e below (T147.setTop (mkF m 86 #[.val (.int p0), .val (.int p1), .val (.int p2), .val (.int p3), .val (.int p4), .val (.int p5), .val (.int (2 : Int32)), .val (.int v127), .val (.int v130), .val (.int v133), .val (.int v136), .val (.ref b146), .unset, .unset] [])) _
      refine XS.iload X147.here hx rfl (hb hby at_86) rfl ?_
      show Steps p.tables e below (T147.setTop (mkF m 88 #[.val (.int p0), .val (.int p1), .val (.int p2), .val (.int p3), .val (.int p4), .val (.int p5), .val (.int (2 : Int32)), .val (.int v127), .val (.int v130), .val (.int v133), .val (.int v136), .val (.ref b146), .unset, .unset] [(.int (2 : Int32))])) _
      refine XS.iconst X147.here hx rfl (hb hby at_88) ?_
      show Steps p.tables e below (T147.setTop (mkF m 89 #[.val (.int p0), .val (.int p1), .val (.int p2), .val (.int p3), .val (.int p4), .val (.int p5), .val (.int (2 : Int32)), .val (.int v127), .val (.int v130), .val (.int v133), .val (.int v136), .val (.ref b146), .unset, .unset] [(.int (1 : Int32)), (.int (2 : Int32))])) _
      refine XS.icmpNo X147.here hx rfl (hb hby at_89) rfl (tlt (by decide : (1 : Int32) < (2 : Int32))).2.2.2 ?_
      show Steps p.tables e below (T147.setTop (mkF m 92 #[.val (.int p0), .val (.int p1), .val (.int p2), .val (.int p3), .val (.int p4), .val (.int p5), .val (.int (2 : Int32)), .val (.int v127), .val (.int v130), .val (.int v133), .val (.int v136), .val (.ref b146), .unset, .unset] [])) _
      refine XS.aload X147.here hx rfl (hb hby at_92) rfl rfl ?_
      show Steps p.tables e below (T147.setTop (mkF m 94 #[.val (.int p0), .val (.int p1), .val (.int p2), .val (.int p3), .val (.int p4), .val (.int p5), .val (.int (2 : Int32)), .val (.int v127), .val (.int v130), .val (.int v133), .val (.int v136), .val (.ref b146), .unset, .unset] [(.ref b146)])) _
      refine XS.iconst X147.here hx rfl (hb hby at_94) ?_
      show Steps p.tables e below (T147.setTop (mkF m 95 #[.val (.int p0), .val (.int p1), .val (.int p2), .val (.int p3), .val (.int p4), .val (.int p5), .val (.int (2 : Int32)), .val (.int v127), .val (.int v130), .val (.int v133), .val (.int v136), .val (.ref b146), .unset, .unset] [(.int (1 : Int32)), (.ref b146)])) _
      refine XS.iload X147.here hx rfl (hb hby at_95) rfl ?_
      exact k
    obtain ⟨cl150, Ar150, q150, S150, N150, H150, G150⟩ := id V_b146_147
    obtain ⟨T149, h149, X149, e149, W149, st149⟩ := stB X147 hx hZ e147 Ar150 (j := (1 : Int32)) (inb_of (j := (1 : Int32)) S150 ⟨by decide, by decide⟩) (g := (mkF m 97 #[.val (.int p0), .val (.int p1), .val (.int p2), .val (.int p3), .val (.int p4), .val (.int p5), .val (.int (2 : Int32)), .val (.int v127), .val (.int v130), .val (.int v133), .val (.int v136), .val (.ref b146), .unset, .unset] [(.int v130), (.int (1 : Int32)), (.ref b146)])) rfl rfl (hb hby at_97)
    have V_b146_149 := Arv.set Ar150 q150 S150 N150 H150 G150 (fits_nar_byte _) W149 1 rfl (Nat.le_of_ble_eq_true rfl)
    have N149 := Fr.snoc X149 N147 ge_b146
    have sz149 : n0 ≤ h149.size := Nat.le_trans sz147 (Nat.le_of_eq W149.size.symm)
    refine Go.st (U' := T149.setTop (mkF m 98 #[.val (.int p0), .val (.int p1), .val (.int p2), .val (.int p3), .val (.int p4), .val (.int p5), .val (.int (2 : Int32)), .val (.int v127), .val (.int v130), .val (.int v133), .val (.int v136), .val (.ref b146), .unset, .unset] [])) (fun t k => st149 _ k) ?_
    refine Go.st (U' := T149.setTop (mkF m 195 #[.val (.int p0), .val (.int p1), .val (.int p2), .val (.int p3), .val (.int p4), .val (.int p5), .val (.int (2 : Int32)), .val (.int v127), .val (.int v130), .val (.int v133), .val (.int v136), .val (.ref b146), .val (.int ((((v127 ^^^ (71 : Int32)) ||| (v130 ^^^ (73 : Int32))) ||| (v133 ^^^ (79 : Int32))) ||| (v136 ^^^ (80 : Int32)))), .unset] [])) (fun t k => ?_) ?_
    · show Steps p.tables e below (T149.setTop (mkF m 98 #[.val (.int p0), .val (.int p1), .val (.int p2), .val (.int p3), .val (.int p4), .val (.int p5), .val (.int (2 : Int32)), .val (.int v127), .val (.int v130), .val (.int v133), .val (.int v136), .val (.ref b146), .unset, .unset] [])) _
      refine XS.iload X149.here hx rfl (hb hby at_98) rfl ?_
      show Steps p.tables e below (T149.setTop (mkF m 100 #[.val (.int p0), .val (.int p1), .val (.int p2), .val (.int p3), .val (.int p4), .val (.int p5), .val (.int (2 : Int32)), .val (.int v127), .val (.int v130), .val (.int v133), .val (.int v136), .val (.ref b146), .unset, .unset] [(.int (2 : Int32))])) _
      refine XS.iconst X149.here hx rfl (hb hby at_100) ?_
      show Steps p.tables e below (T149.setTop (mkF m 101 #[.val (.int p0), .val (.int p1), .val (.int p2), .val (.int p3), .val (.int p4), .val (.int p5), .val (.int (2 : Int32)), .val (.int v127), .val (.int v130), .val (.int v133), .val (.int v136), .val (.ref b146), .unset, .unset] [(.int (2 : Int32)), (.int (2 : Int32))])) _
      refine XS.icmpYes X149.here hx rfl (pc0 := 101) (pc' := 110) rfl (hb hby at_101) rfl (flt (by decide : ¬ ((2 : Int32) < (2 : Int32)))).2.2.2 (by decide) (by decide) ?_
      show Steps p.tables e below (T149.setTop (mkF m 110 #[.val (.int p0), .val (.int p1), .val (.int p2), .val (.int p3), .val (.int p4), .val (.int p5), .val (.int (2 : Int32)), .val (.int v127), .val (.int v130), .val (.int v133), .val (.int v136), .val (.ref b146), .unset, .unset] [])) _
      refine XS.iload X149.here hx rfl (hb hby at_110) rfl ?_
      show Steps p.tables e below (T149.setTop (mkF m 112 #[.val (.int p0), .val (.int p1), .val (.int p2), .val (.int p3), .val (.int p4), .val (.int p5), .val (.int (2 : Int32)), .val (.int v127), .val (.int v130), .val (.int v133), .val (.int v136), .val (.ref b146), .unset, .unset] [(.int (2 : Int32))])) _
      refine XS.iconst X149.here hx rfl (hb hby at_112) ?_
      show Steps p.tables e below (T149.setTop (mkF m 113 #[.val (.int p0), .val (.int p1), .val (.int p2), .val (.int p3), .val (.int p4), .val (.int p5), .val (.int (2 : Int32)), .val (.int v127), .val (.int v130), .val (.int v133), .val (.int v136), .val (.ref b146), .unset, .unset] [(.int (3 : Int32)), (.int (2 : Int32))])) _
      refine XS.icmpYes X149.here hx rfl (pc0 := 113) (pc' := 122) rfl (hb hby at_113) rfl (flt (by decide : ¬ ((3 : Int32) < (2 : Int32)))).2.2.2 (by decide) (by decide) ?_
      show Steps p.tables e below (T149.setTop (mkF m 122 #[.val (.int p0), .val (.int p1), .val (.int p2), .val (.int p3), .val (.int p4), .val (.int p5), .val (.int (2 : Int32)), .val (.int v127), .val (.int v130), .val (.int v133), .val (.int v136), .val (.ref b146), .unset, .unset] [])) _
      refine XS.iload X149.here hx rfl (hb hby at_122) rfl ?_
      show Steps p.tables e below (T149.setTop (mkF m 124 #[.val (.int p0), .val (.int p1), .val (.int p2), .val (.int p3), .val (.int p4), .val (.int p5), .val (.int (2 : Int32)), .val (.int v127), .val (.int v130), .val (.int v133), .val (.int v136), .val (.ref b146), .unset, .unset] [(.int (2 : Int32))])) _
      refine XS.iconst X149.here hx rfl (hb hby at_124) ?_
      show Steps p.tables e below (T149.setTop (mkF m 125 #[.val (.int p0), .val (.int p1), .val (.int p2), .val (.int p3), .val (.int p4), .val (.int p5), .val (.int (2 : Int32)), .val (.int v127), .val (.int v130), .val (.int v133), .val (.int v136), .val (.ref b146), .unset, .unset] [(.int (4 : Int32)), (.int (2 : Int32))])) _
      refine XS.icmpYes X149.here hx rfl (pc0 := 125) (pc' := 137) rfl (hb hby at_125) rfl (flt (by decide : ¬ ((4 : Int32) < (2 : Int32)))).2.2.2 (by decide) (by decide) ?_
      show Steps p.tables e below (T149.setTop (mkF m 137 #[.val (.int p0), .val (.int p1), .val (.int p2), .val (.int p3), .val (.int p4), .val (.int p5), .val (.int (2 : Int32)), .val (.int v127), .val (.int v130), .val (.int v133), .val (.int v136), .val (.ref b146), .unset, .unset] [])) _
      refine XS.iload X149.here hx rfl (hb hby at_137) rfl ?_
      show Steps p.tables e below (T149.setTop (mkF m 139 #[.val (.int p0), .val (.int p1), .val (.int p2), .val (.int p3), .val (.int p4), .val (.int p5), .val (.int (2 : Int32)), .val (.int v127), .val (.int v130), .val (.int v133), .val (.int v136), .val (.ref b146), .unset, .unset] [(.int (2 : Int32))])) _
      refine XS.iconst X149.here hx rfl (hb hby at_139) ?_
      show Steps p.tables e below (T149.setTop (mkF m 140 #[.val (.int p0), .val (.int p1), .val (.int p2), .val (.int p3), .val (.int p4), .val (.int p5), .val (.int (2 : Int32)), .val (.int v127), .val (.int v130), .val (.int v133), .val (.int v136), .val (.ref b146), .unset, .unset] [(.int (5 : Int32)), (.int (2 : Int32))])) _
      refine XS.icmpYes X149.here hx rfl (pc0 := 140) (pc' := 152) rfl (hb hby at_140) rfl (flt (by decide : ¬ ((5 : Int32) < (2 : Int32)))).2.2.2 (by decide) (by decide) ?_
      show Steps p.tables e below (T149.setTop (mkF m 152 #[.val (.int p0), .val (.int p1), .val (.int p2), .val (.int p3), .val (.int p4), .val (.int p5), .val (.int (2 : Int32)), .val (.int v127), .val (.int v130), .val (.int v133), .val (.int v136), .val (.ref b146), .unset, .unset] [])) _
      refine XS.iload X149.here hx rfl (hb hby at_152) rfl ?_
      show Steps p.tables e below (T149.setTop (mkF m 154 #[.val (.int p0), .val (.int p1), .val (.int p2), .val (.int p3), .val (.int p4), .val (.int p5), .val (.int (2 : Int32)), .val (.int v127), .val (.int v130), .val (.int v133), .val (.int v136), .val (.ref b146), .unset, .unset] [(.int (2 : Int32))])) _
      refine XS.bipush X149.here hx rfl (hb hby at_154) ?_
      show Steps p.tables e below (T149.setTop (mkF m 156 #[.val (.int p0), .val (.int p1), .val (.int p2), .val (.int p3), .val (.int p4), .val (.int p5), .val (.int (2 : Int32)), .val (.int v127), .val (.int v130), .val (.int v133), .val (.int v136), .val (.ref b146), .unset, .unset] [(.int (6 : Int32)), (.int (2 : Int32))])) _
      refine XS.icmpYes X149.here hx rfl (pc0 := 156) (pc' := 170) rfl (hb hby at_156) rfl (flt (by decide : ¬ ((6 : Int32) < (2 : Int32)))).2.2.2 (by decide) (by decide) ?_
      show Steps p.tables e below (T149.setTop (mkF m 170 #[.val (.int p0), .val (.int p1), .val (.int p2), .val (.int p3), .val (.int p4), .val (.int p5), .val (.int (2 : Int32)), .val (.int v127), .val (.int v130), .val (.int v133), .val (.int v136), .val (.ref b146), .unset, .unset] [])) _
      refine XS.iload X149.here hx rfl (hb hby at_170) rfl ?_
      show Steps p.tables e below (T149.setTop (mkF m 172 #[.val (.int p0), .val (.int p1), .val (.int p2), .val (.int p3), .val (.int p4), .val (.int p5), .val (.int (2 : Int32)), .val (.int v127), .val (.int v130), .val (.int v133), .val (.int v136), .val (.ref b146), .unset, .unset] [(.int v127)])) _
      refine XS.bipush X149.here hx rfl (hb hby at_172) ?_
      show Steps p.tables e below (T149.setTop (mkF m 174 #[.val (.int p0), .val (.int p1), .val (.int p2), .val (.int p3), .val (.int p4), .val (.int p5), .val (.int (2 : Int32)), .val (.int v127), .val (.int v130), .val (.int v133), .val (.int v136), .val (.ref b146), .unset, .unset] [(.int (71 : Int32)), (.int v127)])) _
      refine XS.ixor X149.here hx rfl (hb hby at_174) rfl ?_
      show Steps p.tables e below (T149.setTop (mkF m 175 #[.val (.int p0), .val (.int p1), .val (.int p2), .val (.int p3), .val (.int p4), .val (.int p5), .val (.int (2 : Int32)), .val (.int v127), .val (.int v130), .val (.int v133), .val (.int v136), .val (.ref b146), .unset, .unset] [(.int (v127 ^^^ (71 : Int32)))])) _
      refine XS.iload X149.here hx rfl (hb hby at_175) rfl ?_
      show Steps p.tables e below (T149.setTop (mkF m 177 #[.val (.int p0), .val (.int p1), .val (.int p2), .val (.int p3), .val (.int p4), .val (.int p5), .val (.int (2 : Int32)), .val (.int v127), .val (.int v130), .val (.int v133), .val (.int v136), .val (.ref b146), .unset, .unset] [(.int v130), (.int (v127 ^^^ (71 : Int32)))])) _
      refine XS.bipush X149.here hx rfl (hb hby at_177) ?_
      show Steps p.tables e below (T149.setTop (mkF m 179 #[.val (.int p0), .val (.int p1), .val (.int p2), .val (.int p3), .val (.int p4), .val (.int p5), .val (.int (2 : Int32)), .val (.int v127), .val (.int v130), .val (.int v133), .val (.int v136), .val (.ref b146), .unset, .unset] [(.int (73 : Int32)), (.int v130), (.int (v127 ^^^ (71 : Int32)))])) _
      refine XS.ixor X149.here hx rfl (hb hby at_179) rfl ?_
      show Steps p.tables e below (T149.setTop (mkF m 180 #[.val (.int p0), .val (.int p1), .val (.int p2), .val (.int p3), .val (.int p4), .val (.int p5), .val (.int (2 : Int32)), .val (.int v127), .val (.int v130), .val (.int v133), .val (.int v136), .val (.ref b146), .unset, .unset] [(.int (v130 ^^^ (73 : Int32))), (.int (v127 ^^^ (71 : Int32)))])) _
      refine XS.ior X149.here hx rfl (hb hby at_180) rfl ?_
      show Steps p.tables e below (T149.setTop (mkF m 181 #[.val (.int p0), .val (.int p1), .val (.int p2), .val (.int p3), .val (.int p4), .val (.int p5), .val (.int (2 : Int32)), .val (.int v127), .val (.int v130), .val (.int v133), .val (.int v136), .val (.ref b146), .unset, .unset] [(.int ((v127 ^^^ (71 : Int32)) ||| (v130 ^^^ (73 : Int32))))])) _
      refine XS.iload X149.here hx rfl (hb hby at_181) rfl ?_
      show Steps p.tables e below (T149.setTop (mkF m 183 #[.val (.int p0), .val (.int p1), .val (.int p2), .val (.int p3), .val (.int p4), .val (.int p5), .val (.int (2 : Int32)), .val (.int v127), .val (.int v130), .val (.int v133), .val (.int v136), .val (.ref b146), .unset, .unset] [(.int v133), (.int ((v127 ^^^ (71 : Int32)) ||| (v130 ^^^ (73 : Int32))))])) _
      refine XS.bipush X149.here hx rfl (hb hby at_183) ?_
      show Steps p.tables e below (T149.setTop (mkF m 185 #[.val (.int p0), .val (.int p1), .val (.int p2), .val (.int p3), .val (.int p4), .val (.int p5), .val (.int (2 : Int32)), .val (.int v127), .val (.int v130), .val (.int v133), .val (.int v136), .val (.ref b146), .unset, .unset] [(.int (79 : Int32)), (.int v133), (.int ((v127 ^^^ (71 : Int32)) ||| (v130 ^^^ (73 : Int32))))])) _
      refine XS.ixor X149.here hx rfl (hb hby at_185) rfl ?_
      show Steps p.tables e below (T149.setTop (mkF m 186 #[.val (.int p0), .val (.int p1), .val (.int p2), .val (.int p3), .val (.int p4), .val (.int p5), .val (.int (2 : Int32)), .val (.int v127), .val (.int v130), .val (.int v133), .val (.int v136), .val (.ref b146), .unset, .unset] [(.int (v133 ^^^ (79 : Int32))), (.int ((v127 ^^^ (71 : Int32)) ||| (v130 ^^^ (73 : Int32))))])) _
      refine XS.ior X149.here hx rfl (hb hby at_186) rfl ?_
      show Steps p.tables e below (T149.setTop (mkF m 187 #[.val (.int p0), .val (.int p1), .val (.int p2), .val (.int p3), .val (.int p4), .val (.int p5), .val (.int (2 : Int32)), .val (.int v127), .val (.int v130), .val (.int v133), .val (.int v136), .val (.ref b146), .unset, .unset] [(.int (((v127 ^^^ (71 : Int32)) ||| (v130 ^^^ (73 : Int32))) ||| (v133 ^^^ (79 : Int32))))])) _
      refine XS.iload X149.here hx rfl (hb hby at_187) rfl ?_
      show Steps p.tables e below (T149.setTop (mkF m 189 #[.val (.int p0), .val (.int p1), .val (.int p2), .val (.int p3), .val (.int p4), .val (.int p5), .val (.int (2 : Int32)), .val (.int v127), .val (.int v130), .val (.int v133), .val (.int v136), .val (.ref b146), .unset, .unset] [(.int v136), (.int (((v127 ^^^ (71 : Int32)) ||| (v130 ^^^ (73 : Int32))) ||| (v133 ^^^ (79 : Int32))))])) _
      refine XS.bipush X149.here hx rfl (hb hby at_189) ?_
      show Steps p.tables e below (T149.setTop (mkF m 191 #[.val (.int p0), .val (.int p1), .val (.int p2), .val (.int p3), .val (.int p4), .val (.int p5), .val (.int (2 : Int32)), .val (.int v127), .val (.int v130), .val (.int v133), .val (.int v136), .val (.ref b146), .unset, .unset] [(.int (80 : Int32)), (.int v136), (.int (((v127 ^^^ (71 : Int32)) ||| (v130 ^^^ (73 : Int32))) ||| (v133 ^^^ (79 : Int32))))])) _
      refine XS.ixor X149.here hx rfl (hb hby at_191) rfl ?_
      show Steps p.tables e below (T149.setTop (mkF m 192 #[.val (.int p0), .val (.int p1), .val (.int p2), .val (.int p3), .val (.int p4), .val (.int p5), .val (.int (2 : Int32)), .val (.int v127), .val (.int v130), .val (.int v133), .val (.int v136), .val (.ref b146), .unset, .unset] [(.int (v136 ^^^ (80 : Int32))), (.int (((v127 ^^^ (71 : Int32)) ||| (v130 ^^^ (73 : Int32))) ||| (v133 ^^^ (79 : Int32))))])) _
      refine XS.ior X149.here hx rfl (hb hby at_192) rfl ?_
      show Steps p.tables e below (T149.setTop (mkF m 193 #[.val (.int p0), .val (.int p1), .val (.int p2), .val (.int p3), .val (.int p4), .val (.int p5), .val (.int (2 : Int32)), .val (.int v127), .val (.int v130), .val (.int v133), .val (.int v136), .val (.ref b146), .unset, .unset] [(.int ((((v127 ^^^ (71 : Int32)) ||| (v130 ^^^ (73 : Int32))) ||| (v133 ^^^ (79 : Int32))) ||| (v136 ^^^ (80 : Int32))))])) _
      refine XS.istore X149.here hx rfl (hb hby at_193) rfl (l' := #[.val (.int p0), .val (.int p1), .val (.int p2), .val (.int p3), .val (.int p4), .val (.int p5), .val (.int (2 : Int32)), .val (.int v127), .val (.int v130), .val (.int v133), .val (.int v136), .val (.ref b146), .val (.int ((((v127 ^^^ (71 : Int32)) ||| (v130 ^^^ (73 : Int32))) ||| (v133 ^^^ (79 : Int32))) ||| (v136 ^^^ (80 : Int32)))), .unset]) rfl ?_
      exact k
    generalize hv_v151 : ((((v127 ^^^ (71 : Int32)) ||| (v130 ^^^ (73 : Int32))) ||| (v133 ^^^ (79 : Int32))) ||| (v136 ^^^ (80 : Int32))) = v151
    refine Go.st (U' := T149.setTop (mkF m 215 #[.val (.int p0), .val (.int p1), .val (.int p2), .val (.int p3), .val (.int p4), .val (.int p5), .val (.int (2 : Int32)), .val (.int v127), .val (.int v130), .val (.int v133), .val (.int v136), .val (.ref b146), .val (.int v151), .val (.int (0 : Int32))] [(.ref b146)])) (fun t k => ?_) ?_
    · show Steps p.tables e below (T149.setTop (mkF m 195 #[.val (.int p0), .val (.int p1), .val (.int p2), .val (.int p3), .val (.int p4), .val (.int p5), .val (.int (2 : Int32)), .val (.int v127), .val (.int v130), .val (.int v133), .val (.int v136), .val (.ref b146), .val (.int v151), .unset] [])) _
      refine XS.iload X149.here hx rfl (hb hby at_195) rfl ?_
      show Steps p.tables e below (T149.setTop (mkF m 197 #[.val (.int p0), .val (.int p1), .val (.int p2), .val (.int p3), .val (.int p4), .val (.int p5), .val (.int (2 : Int32)), .val (.int v127), .val (.int v130), .val (.int v133), .val (.int v136), .val (.ref b146), .val (.int v151), .unset] [(.int (2 : Int32))])) _
      refine XS.iconst X149.here hx rfl (hb hby at_197) ?_
      show Steps p.tables e below (T149.setTop (mkF m 198 #[.val (.int p0), .val (.int p1), .val (.int p2), .val (.int p3), .val (.int p4), .val (.int p5), .val (.int (2 : Int32)), .val (.int v127), .val (.int v130), .val (.int v133), .val (.int v136), .val (.ref b146), .val (.int v151), .unset] [(.int (4 : Int32)), (.int (2 : Int32))])) _
      refine XS.icmpYes X149.here hx rfl (pc0 := 198) (pc' := 210) rfl (hb hby at_198) rfl (tlt (by decide : (2 : Int32) < (4 : Int32))).1 (by decide) (by decide) ?_
      show Steps p.tables e below (T149.setTop (mkF m 210 #[.val (.int p0), .val (.int p1), .val (.int p2), .val (.int p3), .val (.int p4), .val (.int p5), .val (.int (2 : Int32)), .val (.int v127), .val (.int v130), .val (.int v133), .val (.int v136), .val (.ref b146), .val (.int v151), .unset] [])) _
      refine XS.iconst X149.here hx rfl (hb hby at_210) ?_
      show Steps p.tables e below (T149.setTop (mkF m 211 #[.val (.int p0), .val (.int p1), .val (.int p2), .val (.int p3), .val (.int p4), .val (.int p5), .val (.int (2 : Int32)), .val (.int v127), .val (.int v130), .val (.int v133), .val (.int v136), .val (.ref b146), .val (.int v151), .unset] [(.int (0 : Int32))])) _
      refine XS.istore X149.here hx rfl (hb hby at_211) rfl (l' := #[.val (.int p0), .val (.int p1), .val (.int p2), .val (.int p3), .val (.int p4), .val (.int p5), .val (.int (2 : Int32)), .val (.int v127), .val (.int v130), .val (.int v133), .val (.int v136), .val (.ref b146), .val (.int v151), .val (.int (0 : Int32))]) rfl ?_
      show Steps p.tables e below (T149.setTop (mkF m 213 #[.val (.int p0), .val (.int p1), .val (.int p2), .val (.int p3), .val (.int p4), .val (.int p5), .val (.int (2 : Int32)), .val (.int v127), .val (.int v130), .val (.int v133), .val (.int v136), .val (.ref b146), .val (.int v151), .val (.int (0 : Int32))] [])) _
      refine XS.aload X149.here hx rfl (hb hby at_213) rfl rfl ?_
      exact k
    obtain ⟨_, _, ⟨T152, L152, k152, n152⟩, -, X152, ⟨Lc152, hQ152, l152, y152, z152⟩, st152⟩ := Jvm.LawKit.callS X149 hx (y := own_y0) hown (mvT hZ (own_w hw 1 rfl)) (mvT hZ (own_w hw 2 rfl)) (mvT hZ (own_w hw 3 rfl)) (mvT hZ (own_w hw 4 rfl)) (by decide) (backOf (W := 0) (rm1_2 l Z a0 hw [] b146 k146 (v127.toInt8.toInt32) (v130.toInt8.toInt32) h149 n0 sz149 V_b146_149) hZ (own_w hw 4 rfl) (own_w hw 3 rfl) (by decide) (by decide)) (g := (mkF m 215 #[.val (.int p0), .val (.int p1), .val (.int p2), .val (.int p3), .val (.int p4), .val (.int p5), .val (.int (2 : Int32)), .val (.int v127), .val (.int v130), .val (.int v133), .val (.int v136), .val (.ref b146), .val (.int v151), .val (.int (0 : Int32))] [(.ref b146)])) rfl (by rw [hml]; rfl) (argsL := [(.ref b146)]) (rest := []) (lenOf pd_0 rfl) rfl (by show 2 * 0 + _ ≤ _; exact Nat.le_of_eq rfl) (hb hby at_215) (fun _ _ => ⟨rfl, e149, (by decide : 1 + 0 ≤ _), (by decide : 2 + 0 ≤ _)⟩)
    dsimp only [Pt.U, Pt.locs, Pt.cells, Pt.slots] at X152 l152 y152 z152 st152 hQ152
    subst l152 y152 z152
    obtain ⟨rfl, N152q, e152⟩ := hQ152
    have N152 := Fr.app N149 N152q
    refine Go.st (U' := T152.setTop (mkF m 218 #[.val (.int p0), .val (.int p1), .val (.int p2), .val (.int p3), .val (.int p4), .val (.int p5), .val (.int (2 : Int32)), .val (.int v127), .val (.int v130), .val (.int v133), .val (.int v136), .val (.ref b146), .val (.int v151), .val (.int (0 : Int32))] [(.int (g2 ))])) (fun t k => st152 _ k) ?_
    refine Go.st (U' := T152.setTop (mkF m 228 #[.val (.int p0), .val (.int p1), .val (.int p2), .val (.int p3), .val (.int p4), .val (.int p5), .val (.int (2 : Int32)), .val (.int v127), .val (.int v130), .val (.int v133), .val (.int v136), .val (.ref b146), .val (.int v151), .val (.int (0 : Int32))] [(.int (1 : Int32))])) (fun t k => ?_) ?_
    · show Steps p.tables e below (T152.setTop (mkF m 218 #[.val (.int p0), .val (.int p1), .val (.int p2), .val (.int p3), .val (.int p4), .val (.int p5), .val (.int (2 : Int32)), .val (.int v127), .val (.int v130), .val (.int v133), .val (.int v136), .val (.ref b146), .val (.int v151), .val (.int (0 : Int32))] [(.int (g2 ))])) _
      refine XS.iload X152.here hx rfl (hb hby at_218) rfl ?_
      show Steps p.tables e below (T152.setTop (mkF m 220 #[.val (.int p0), .val (.int p1), .val (.int p2), .val (.int p3), .val (.int p4), .val (.int p5), .val (.int (2 : Int32)), .val (.int v127), .val (.int v130), .val (.int v133), .val (.int v136), .val (.ref b146), .val (.int v151), .val (.int (0 : Int32))] [(.int (0 : Int32)), (.int (g2 ))])) _
      refine XS.icmpNo X152.here hx rfl (hb hby at_220) rfl (teq (rfl : (g2 ) = (0 : Int32))).2 ?_
      show Steps p.tables e below (T152.setTop (mkF m 223 #[.val (.int p0), .val (.int p1), .val (.int p2), .val (.int p3), .val (.int p4), .val (.int p5), .val (.int (2 : Int32)), .val (.int v127), .val (.int v130), .val (.int v133), .val (.int v136), .val (.ref b146), .val (.int v151), .val (.int (0 : Int32))] [])) _
      refine XS.iconst X152.here hx rfl (hb hby at_223) ?_
      show Steps p.tables e below (T152.setTop (mkF m 224 #[.val (.int p0), .val (.int p1), .val (.int p2), .val (.int p3), .val (.int p4), .val (.int p5), .val (.int (2 : Int32)), .val (.int v127), .val (.int v130), .val (.int v133), .val (.int v136), .val (.ref b146), .val (.int v151), .val (.int (0 : Int32))] [(.int (1 : Int32))])) _
      refine XS.goto X152.here hx rfl (pc0 := 224) (pc' := 228) rfl (hb hby at_224) (by decide) (by decide) ?_
      exact k
    refine own_ret (Q := Q0 Z p0 p1 p2 p3 p4 p5 h0 n0) (v := some (.int (1 : Int32))) X152 hlk (fun h => by rw [hrt] at h; cases h) (by decide) (by decide) ?_ (fun fs hr => retN X152 hx (t := .boolean) hrt (by simp) (hb hby at_228) hr)
    rw [e152]
    exact ⟨rfl, N152⟩
  · refine Go.st (U' := s₁.setTop (mkF m 71 #[.val (.int p0), .val (.int p1), .val (.int p2), .val (.int p3), .val (.int p4), .val (.int p5), .val (.int (3 : Int32)), .val (.int v127), .val (.int v130), .val (.int v133), .val (.int v136), .unset, .unset, .unset] [(.int (3 : Int32))])) (fun t k => ?_) ?_
    · show Steps p.tables e below (s₁.setTop (mkF m 69 #[.val (.int p0), .val (.int p1), .val (.int p2), .val (.int p3), .val (.int p4), .val (.int p5), .val (.int (3 : Int32)), .val (.int v127), .val (.int v130), .val (.int v133), .val (.int v136), .unset, .unset, .unset] [])) _
      refine XS.iload X0.here hx rfl (hb hby at_69) rfl ?_
      exact k
    obtain ⟨T153, h153, k153, X153, e153, E153, A153, st153⟩ := newP X0 hx hZ (own_w hw 0 rfl) e0 (g := (mkF m 71 #[.val (.int p0), .val (.int p1), .val (.int p2), .val (.int p3), .val (.int p4), .val (.int p5), .val (.int (3 : Int32)), .val (.int v127), .val (.int v130), .val (.int v133), .val (.int v136), .unset, .unset, .unset] [(.int (3 : Int32))])) rfl (hb hby at_71) rfl (by decide) (cap := 3) (by decide) (by decide) (by decide) (by decide)
    obtain ⟨b153, g153⟩ : ∃ z, z = h0.size := ⟨_, rfl⟩
    rw [← g153] at A153 st153
    have ge_b153 : n0 ≤ b153 := Nat.le_trans Z0 (Nat.le_of_eq g153.symm)
    have V_b153 : Arv Z h153 b153 k153 .byte (3 : Int32) [(.int (0 : Int32)), (.int (0 : Int32)), (.int (0 : Int32))] (.int (0 : Int32)) := (Arv.new A153 (by decide)).pad (pad_rep [] (.int (0 : Int32)) 3)
    have sz153 : n0 ≤ h153.size := Nat.le_trans Z0 E153.1
    refine Go.st (U' := T153.setTop (mkF m 73 #[.val (.int p0), .val (.int p1), .val (.int p2), .val (.int p3), .val (.int p4), .val (.int p5), .val (.int (3 : Int32)), .val (.int v127), .val (.int v130), .val (.int v133), .val (.int v136), .unset, .unset, .unset] [(.ref b153)])) (fun t k => st153 _ k) ?_
    refine Go.st (U' := T153.setTop (mkF m 85 #[.val (.int p0), .val (.int p1), .val (.int p2), .val (.int p3), .val (.int p4), .val (.int p5), .val (.int (3 : Int32)), .val (.int v127), .val (.int v130), .val (.int v133), .val (.int v136), .val (.ref b153), .unset, .unset] [(.int v127), (.int (0 : Int32)), (.ref b153)])) (fun t k => ?_) ?_
    · show Steps p.tables e below (T153.setTop (mkF m 73 #[.val (.int p0), .val (.int p1), .val (.int p2), .val (.int p3), .val (.int p4), .val (.int p5), .val (.int (3 : Int32)), .val (.int v127), .val (.int v130), .val (.int v133), .val (.int v136), .unset, .unset, .unset] [(.ref b153)])) _
      refine XS.astore X153.here hx rfl (hb hby at_73) rfl rfl (l' := #[.val (.int p0), .val (.int p1), .val (.int p2), .val (.int p3), .val (.int p4), .val (.int p5), .val (.int (3 : Int32)), .val (.int v127), .val (.int v130), .val (.int v133), .val (.int v136), .val (.ref b153), .unset, .unset]) rfl ?_
      show Steps p.tables e below (T153.setTop (mkF m 75 #[.val (.int p0), .val (.int p1), .val (.int p2), .val (.int p3), .val (.int p4), .val (.int p5), .val (.int (3 : Int32)), .val (.int v127), .val (.int v130), .val (.int v133), .val (.int v136), .val (.ref b153), .unset, .unset] [])) _
      refine XS.iload X153.here hx rfl (hb hby at_75) rfl ?_
      show Steps p.tables e below (T153.setTop (mkF m 77 #[.val (.int p0), .val (.int p1), .val (.int p2), .val (.int p3), .val (.int p4), .val (.int p5), .val (.int (3 : Int32)), .val (.int v127), .val (.int v130), .val (.int v133), .val (.int v136), .val (.ref b153), .unset, .unset] [(.int (3 : Int32))])) _
      refine XS.ifNo X153.here hx rfl (hb hby at_77) rfl ((if0 _ _).trans (tlt (by decide : (0 : Int32) < (3 : Int32))).2.2.2) ?_
      show Steps p.tables e below (T153.setTop (mkF m 80 #[.val (.int p0), .val (.int p1), .val (.int p2), .val (.int p3), .val (.int p4), .val (.int p5), .val (.int (3 : Int32)), .val (.int v127), .val (.int v130), .val (.int v133), .val (.int v136), .val (.ref b153), .unset, .unset] [])) _
      refine XS.aload X153.here hx rfl (hb hby at_80) rfl rfl ?_
      show Steps p.tables e below (T153.setTop (mkF m 82 #[.val (.int p0), .val (.int p1), .val (.int p2), .val (.int p3), .val (.int p4), .val (.int p5), .val (.int (3 : Int32)), .val (.int v127), .val (.int v130), .val (.int v133), .val (.int v136), .val (.ref b153), .unset, .unset] [(.ref b153)])) _
      refine XS.iconst X153.here hx rfl (hb hby at_82) ?_
      show Steps p.tables e below (T153.setTop (mkF m 83 #[.val (.int p0), .val (.int p1), .val (.int p2), .val (.int p3), .val (.int p4), .val (.int p5), .val (.int (3 : Int32)), .val (.int v127), .val (.int v130), .val (.int v133), .val (.int v136), .val (.ref b153), .unset, .unset] [(.int (0 : Int32)), (.ref b153)])) _
      refine XS.iload X153.here hx rfl (hb hby at_83) rfl ?_
      exact k
    obtain ⟨cl155, Ar155, q155, S155, N155, H155, G155⟩ := id V_b153
    obtain ⟨T154, h154, X154, e154, W154, st154⟩ := stB X153 hx hZ e153 Ar155 (j := (0 : Int32)) (inb_of (j := (0 : Int32)) S155 ⟨by decide, by decide⟩) (g := (mkF m 85 #[.val (.int p0), .val (.int p1), .val (.int p2), .val (.int p3), .val (.int p4), .val (.int p5), .val (.int (3 : Int32)), .val (.int v127), .val (.int v130), .val (.int v133), .val (.int v136), .val (.ref b153), .unset, .unset] [(.int v127), (.int (0 : Int32)), (.ref b153)])) rfl rfl (hb hby at_85)
    have V_b153_154 := Arv.set Ar155 q155 S155 N155 H155 G155 (fits_nar_byte _) W154 0 rfl (Nat.le_of_ble_eq_true rfl)
    have N154 := Fr.snoc X154 N0 ge_b153
    have sz154 : n0 ≤ h154.size := Nat.le_trans sz153 (Nat.le_of_eq W154.size.symm)
    refine Go.st (U' := T154.setTop (mkF m 86 #[.val (.int p0), .val (.int p1), .val (.int p2), .val (.int p3), .val (.int p4), .val (.int p5), .val (.int (3 : Int32)), .val (.int v127), .val (.int v130), .val (.int v133), .val (.int v136), .val (.ref b153), .unset, .unset] [])) (fun t k => st154 _ k) ?_
    refine Go.st (U' := T154.setTop (mkF m 97 #[.val (.int p0), .val (.int p1), .val (.int p2), .val (.int p3), .val (.int p4), .val (.int p5), .val (.int (3 : Int32)), .val (.int v127), .val (.int v130), .val (.int v133), .val (.int v136), .val (.ref b153), .unset, .unset] [(.int v130), (.int (1 : Int32)), (.ref b153)])) (fun t k => ?_) ?_
    · show Steps p.tables e below (T154.setTop (mkF m 86 #[.val (.int p0), .val (.int p1), .val (.int p2), .val (.int p3), .val (.int p4), .val (.int p5), .val (.int (3 : Int32)), .val (.int v127), .val (.int v130), .val (.int v133), .val (.int v136), .val (.ref b153), .unset, .unset] [])) _
      refine XS.iload X154.here hx rfl (hb hby at_86) rfl ?_
      show Steps p.tables e below (T154.setTop (mkF m 88 #[.val (.int p0), .val (.int p1), .val (.int p2), .val (.int p3), .val (.int p4), .val (.int p5), .val (.int (3 : Int32)), .val (.int v127), .val (.int v130), .val (.int v133), .val (.int v136), .val (.ref b153), .unset, .unset] [(.int (3 : Int32))])) _
      refine XS.iconst X154.here hx rfl (hb hby at_88) ?_
      show Steps p.tables e below (T154.setTop (mkF m 89 #[.val (.int p0), .val (.int p1), .val (.int p2), .val (.int p3), .val (.int p4), .val (.int p5), .val (.int (3 : Int32)), .val (.int v127), .val (.int v130), .val (.int v133), .val (.int v136), .val (.ref b153), .unset, .unset] [(.int (1 : Int32)), (.int (3 : Int32))])) _
      refine XS.icmpNo X154.here hx rfl (hb hby at_89) rfl (tlt (by decide : (1 : Int32) < (3 : Int32))).2.2.2 ?_
      show Steps p.tables e below (T154.setTop (mkF m 92 #[.val (.int p0), .val (.int p1), .val (.int p2), .val (.int p3), .val (.int p4), .val (.int p5), .val (.int (3 : Int32)), .val (.int v127), .val (.int v130), .val (.int v133), .val (.int v136), .val (.ref b153), .unset, .unset] [])) _
      refine XS.aload X154.here hx rfl (hb hby at_92) rfl rfl ?_
      show Steps p.tables e below (T154.setTop (mkF m 94 #[.val (.int p0), .val (.int p1), .val (.int p2), .val (.int p3), .val (.int p4), .val (.int p5), .val (.int (3 : Int32)), .val (.int v127), .val (.int v130), .val (.int v133), .val (.int v136), .val (.ref b153), .unset, .unset] [(.ref b153)])) _
      refine XS.iconst X154.here hx rfl (hb hby at_94) ?_
      show Steps p.tables e below (T154.setTop (mkF m 95 #[.val (.int p0), .val (.int p1), .val (.int p2), .val (.int p3), .val (.int p4), .val (.int p5), .val (.int (3 : Int32)), .val (.int v127), .val (.int v130), .val (.int v133), .val (.int v136), .val (.ref b153), .unset, .unset] [(.int (1 : Int32)), (.ref b153)])) _
      refine XS.iload X154.here hx rfl (hb hby at_95) rfl ?_
      exact k
    obtain ⟨cl157, Ar157, q157, S157, N157, H157, G157⟩ := id V_b153_154
    obtain ⟨T156, h156, X156, e156, W156, st156⟩ := stB X154 hx hZ e154 Ar157 (j := (1 : Int32)) (inb_of (j := (1 : Int32)) S157 ⟨by decide, by decide⟩) (g := (mkF m 97 #[.val (.int p0), .val (.int p1), .val (.int p2), .val (.int p3), .val (.int p4), .val (.int p5), .val (.int (3 : Int32)), .val (.int v127), .val (.int v130), .val (.int v133), .val (.int v136), .val (.ref b153), .unset, .unset] [(.int v130), (.int (1 : Int32)), (.ref b153)])) rfl rfl (hb hby at_97)
    have V_b153_156 := Arv.set Ar157 q157 S157 N157 H157 G157 (fits_nar_byte _) W156 1 rfl (Nat.le_of_ble_eq_true rfl)
    have N156 := Fr.snoc X156 N154 ge_b153
    have sz156 : n0 ≤ h156.size := Nat.le_trans sz154 (Nat.le_of_eq W156.size.symm)
    refine Go.st (U' := T156.setTop (mkF m 98 #[.val (.int p0), .val (.int p1), .val (.int p2), .val (.int p3), .val (.int p4), .val (.int p5), .val (.int (3 : Int32)), .val (.int v127), .val (.int v130), .val (.int v133), .val (.int v136), .val (.ref b153), .unset, .unset] [])) (fun t k => st156 _ k) ?_
    refine Go.st (U' := T156.setTop (mkF m 109 #[.val (.int p0), .val (.int p1), .val (.int p2), .val (.int p3), .val (.int p4), .val (.int p5), .val (.int (3 : Int32)), .val (.int v127), .val (.int v130), .val (.int v133), .val (.int v136), .val (.ref b153), .unset, .unset] [(.int v133), (.int (2 : Int32)), (.ref b153)])) (fun t k => ?_) ?_
    · show Steps p.tables e below (T156.setTop (mkF m 98 #[.val (.int p0), .val (.int p1), .val (.int p2), .val (.int p3), .val (.int p4), .val (.int p5), .val (.int (3 : Int32)), .val (.int v127), .val (.int v130), .val (.int v133), .val (.int v136), .val (.ref b153), .unset, .unset] [])) _
      refine XS.iload X156.here hx rfl (hb hby at_98) rfl ?_
      show Steps p.tables e below (T156.setTop (mkF m 100 #[.val (.int p0), .val (.int p1), .val (.int p2), .val (.int p3), .val (.int p4), .val (.int p5), .val (.int (3 : Int32)), .val (.int v127), .val (.int v130), .val (.int v133), .val (.int v136), .val (.ref b153), .unset, .unset] [(.int (3 : Int32))])) _
      refine XS.iconst X156.here hx rfl (hb hby at_100) ?_
      show Steps p.tables e below (T156.setTop (mkF m 101 #[.val (.int p0), .val (.int p1), .val (.int p2), .val (.int p3), .val (.int p4), .val (.int p5), .val (.int (3 : Int32)), .val (.int v127), .val (.int v130), .val (.int v133), .val (.int v136), .val (.ref b153), .unset, .unset] [(.int (2 : Int32)), (.int (3 : Int32))])) _
      refine XS.icmpNo X156.here hx rfl (hb hby at_101) rfl (tlt (by decide : (2 : Int32) < (3 : Int32))).2.2.2 ?_
      show Steps p.tables e below (T156.setTop (mkF m 104 #[.val (.int p0), .val (.int p1), .val (.int p2), .val (.int p3), .val (.int p4), .val (.int p5), .val (.int (3 : Int32)), .val (.int v127), .val (.int v130), .val (.int v133), .val (.int v136), .val (.ref b153), .unset, .unset] [])) _
      refine XS.aload X156.here hx rfl (hb hby at_104) rfl rfl ?_
      show Steps p.tables e below (T156.setTop (mkF m 106 #[.val (.int p0), .val (.int p1), .val (.int p2), .val (.int p3), .val (.int p4), .val (.int p5), .val (.int (3 : Int32)), .val (.int v127), .val (.int v130), .val (.int v133), .val (.int v136), .val (.ref b153), .unset, .unset] [(.ref b153)])) _
      refine XS.iconst X156.here hx rfl (hb hby at_106) ?_
      show Steps p.tables e below (T156.setTop (mkF m 107 #[.val (.int p0), .val (.int p1), .val (.int p2), .val (.int p3), .val (.int p4), .val (.int p5), .val (.int (3 : Int32)), .val (.int v127), .val (.int v130), .val (.int v133), .val (.int v136), .val (.ref b153), .unset, .unset] [(.int (2 : Int32)), (.ref b153)])) _
      refine XS.iload X156.here hx rfl (hb hby at_107) rfl ?_
      exact k
    obtain ⟨cl159, Ar159, q159, S159, N159, H159, G159⟩ := id V_b153_156
    obtain ⟨T158, h158, X158, e158, W158, st158⟩ := stB X156 hx hZ e156 Ar159 (j := (2 : Int32)) (inb_of (j := (2 : Int32)) S159 ⟨by decide, by decide⟩) (g := (mkF m 109 #[.val (.int p0), .val (.int p1), .val (.int p2), .val (.int p3), .val (.int p4), .val (.int p5), .val (.int (3 : Int32)), .val (.int v127), .val (.int v130), .val (.int v133), .val (.int v136), .val (.ref b153), .unset, .unset] [(.int v133), (.int (2 : Int32)), (.ref b153)])) rfl rfl (hb hby at_109)
    have V_b153_158 := Arv.set Ar159 q159 S159 N159 H159 G159 (fits_nar_byte _) W158 2 rfl (Nat.le_of_ble_eq_true rfl)
    have N158 := Fr.snoc X158 N156 ge_b153
    have sz158 : n0 ≤ h158.size := Nat.le_trans sz156 (Nat.le_of_eq W158.size.symm)
    refine Go.st (U' := T158.setTop (mkF m 110 #[.val (.int p0), .val (.int p1), .val (.int p2), .val (.int p3), .val (.int p4), .val (.int p5), .val (.int (3 : Int32)), .val (.int v127), .val (.int v130), .val (.int v133), .val (.int v136), .val (.ref b153), .unset, .unset] [])) (fun t k => st158 _ k) ?_
    refine Go.st (U' := T158.setTop (mkF m 195 #[.val (.int p0), .val (.int p1), .val (.int p2), .val (.int p3), .val (.int p4), .val (.int p5), .val (.int (3 : Int32)), .val (.int v127), .val (.int v130), .val (.int v133), .val (.int v136), .val (.ref b153), .val (.int ((((v127 ^^^ (71 : Int32)) ||| (v130 ^^^ (73 : Int32))) ||| (v133 ^^^ (79 : Int32))) ||| (v136 ^^^ (80 : Int32)))), .unset] [])) (fun t k => ?_) ?_
    · show Steps p.tables e below (T158.setTop (mkF m 110 #[.val (.int p0), .val (.int p1), .val (.int p2), .val (.int p3), .val (.int p4), .val (.int p5), .val (.int (3 : Int32)), .val (.int v127), .val (.int v130), .val (.int v133), .val (.int v136), .val (.ref b153), .unset, .unset] [])) _
      refine XS.iload X158.here hx rfl (hb hby at_110) rfl ?_
      show Steps p.tables e below (T158.setTop (mkF m 112 #[.val (.int p0), .val (.int p1), .val (.int p2), .val (.int p3), .val (.int p4), .val (.int p5), .val (.int (3 : Int32)), .val (.int v127), .val (.int v130), .val (.int v133), .val (.int v136), .val (.ref b153), .unset, .unset] [(.int (3 : Int32))])) _
      refine XS.iconst X158.here hx rfl (hb hby at_112) ?_
      show Steps p.tables e below (T158.setTop (mkF m 113 #[.val (.int p0), .val (.int p1), .val (.int p2), .val (.int p3), .val (.int p4), .val (.int p5), .val (.int (3 : Int32)), .val (.int v127), .val (.int v130), .val (.int v133), .val (.int v136), .val (.ref b153), .unset, .unset] [(.int (3 : Int32)), (.int (3 : Int32))])) _
      refine XS.icmpYes X158.here hx rfl (pc0 := 113) (pc' := 122) rfl (hb hby at_113) rfl (flt (by decide : ¬ ((3 : Int32) < (3 : Int32)))).2.2.2 (by decide) (by decide) ?_
      show Steps p.tables e below (T158.setTop (mkF m 122 #[.val (.int p0), .val (.int p1), .val (.int p2), .val (.int p3), .val (.int p4), .val (.int p5), .val (.int (3 : Int32)), .val (.int v127), .val (.int v130), .val (.int v133), .val (.int v136), .val (.ref b153), .unset, .unset] [])) _
      refine XS.iload X158.here hx rfl (hb hby at_122) rfl ?_
      show Steps p.tables e below (T158.setTop (mkF m 124 #[.val (.int p0), .val (.int p1), .val (.int p2), .val (.int p3), .val (.int p4), .val (.int p5), .val (.int (3 : Int32)), .val (.int v127), .val (.int v130), .val (.int v133), .val (.int v136), .val (.ref b153), .unset, .unset] [(.int (3 : Int32))])) _
      refine XS.iconst X158.here hx rfl (hb hby at_124) ?_
      show Steps p.tables e below (T158.setTop (mkF m 125 #[.val (.int p0), .val (.int p1), .val (.int p2), .val (.int p3), .val (.int p4), .val (.int p5), .val (.int (3 : Int32)), .val (.int v127), .val (.int v130), .val (.int v133), .val (.int v136), .val (.ref b153), .unset, .unset] [(.int (4 : Int32)), (.int (3 : Int32))])) _
      refine XS.icmpYes X158.here hx rfl (pc0 := 125) (pc' := 137) rfl (hb hby at_125) rfl (flt (by decide : ¬ ((4 : Int32) < (3 : Int32)))).2.2.2 (by decide) (by decide) ?_
      show Steps p.tables e below (T158.setTop (mkF m 137 #[.val (.int p0), .val (.int p1), .val (.int p2), .val (.int p3), .val (.int p4), .val (.int p5), .val (.int (3 : Int32)), .val (.int v127), .val (.int v130), .val (.int v133), .val (.int v136), .val (.ref b153), .unset, .unset] [])) _
      refine XS.iload X158.here hx rfl (hb hby at_137) rfl ?_
      show Steps p.tables e below (T158.setTop (mkF m 139 #[.val (.int p0), .val (.int p1), .val (.int p2), .val (.int p3), .val (.int p4), .val (.int p5), .val (.int (3 : Int32)), .val (.int v127), .val (.int v130), .val (.int v133), .val (.int v136), .val (.ref b153), .unset, .unset] [(.int (3 : Int32))])) _
      refine XS.iconst X158.here hx rfl (hb hby at_139) ?_
      show Steps p.tables e below (T158.setTop (mkF m 140 #[.val (.int p0), .val (.int p1), .val (.int p2), .val (.int p3), .val (.int p4), .val (.int p5), .val (.int (3 : Int32)), .val (.int v127), .val (.int v130), .val (.int v133), .val (.int v136), .val (.ref b153), .unset, .unset] [(.int (5 : Int32)), (.int (3 : Int32))])) _
      refine XS.icmpYes X158.here hx rfl (pc0 := 140) (pc' := 152) rfl (hb hby at_140) rfl (flt (by decide : ¬ ((5 : Int32) < (3 : Int32)))).2.2.2 (by decide) (by decide) ?_
      show Steps p.tables e below (T158.setTop (mkF m 152 #[.val (.int p0), .val (.int p1), .val (.int p2), .val (.int p3), .val (.int p4), .val (.int p5), .val (.int (3 : Int32)), .val (.int v127), .val (.int v130), .val (.int v133), .val (.int v136), .val (.ref b153), .unset, .unset] [])) _
      refine XS.iload X158.here hx rfl (hb hby at_152) rfl ?_
      show Steps p.tables e below (T158.setTop (mkF m 154 #[.val (.int p0), .val (.int p1), .val (.int p2), .val (.int p3), .val (.int p4), .val (.int p5), .val (.int (3 : Int32)), .val (.int v127), .val (.int v130), .val (.int v133), .val (.int v136), .val (.ref b153), .unset, .unset] [(.int (3 : Int32))])) _
      refine XS.bipush X158.here hx rfl (hb hby at_154) ?_
      show Steps p.tables e below (T158.setTop (mkF m 156 #[.val (.int p0), .val (.int p1), .val (.int p2), .val (.int p3), .val (.int p4), .val (.int p5), .val (.int (3 : Int32)), .val (.int v127), .val (.int v130), .val (.int v133), .val (.int v136), .val (.ref b153), .unset, .unset] [(.int (6 : Int32)), (.int (3 : Int32))])) _
      refine XS.icmpYes X158.here hx rfl (pc0 := 156) (pc' := 170) rfl (hb hby at_156) rfl (flt (by decide : ¬ ((6 : Int32) < (3 : Int32)))).2.2.2 (by decide) (by decide) ?_
      show Steps p.tables e below (T158.setTop (mkF m 170 #[.val (.int p0), .val (.int p1), .val (.int p2), .val (.int p3), .val (.int p4), .val (.int p5), .val (.int (3 : Int32)), .val (.int v127), .val (.int v130), .val (.int v133), .val (.int v136), .val (.ref b153), .unset, .unset] [])) _
      refine XS.iload X158.here hx rfl (hb hby at_170) rfl ?_
      show Steps p.tables e below (T158.setTop (mkF m 172 #[.val (.int p0), .val (.int p1), .val (.int p2), .val (.int p3), .val (.int p4), .val (.int p5), .val (.int (3 : Int32)), .val (.int v127), .val (.int v130), .val (.int v133), .val (.int v136), .val (.ref b153), .unset, .unset] [(.int v127)])) _
      refine XS.bipush X158.here hx rfl (hb hby at_172) ?_
      show Steps p.tables e below (T158.setTop (mkF m 174 #[.val (.int p0), .val (.int p1), .val (.int p2), .val (.int p3), .val (.int p4), .val (.int p5), .val (.int (3 : Int32)), .val (.int v127), .val (.int v130), .val (.int v133), .val (.int v136), .val (.ref b153), .unset, .unset] [(.int (71 : Int32)), (.int v127)])) _
      refine XS.ixor X158.here hx rfl (hb hby at_174) rfl ?_
      show Steps p.tables e below (T158.setTop (mkF m 175 #[.val (.int p0), .val (.int p1), .val (.int p2), .val (.int p3), .val (.int p4), .val (.int p5), .val (.int (3 : Int32)), .val (.int v127), .val (.int v130), .val (.int v133), .val (.int v136), .val (.ref b153), .unset, .unset] [(.int (v127 ^^^ (71 : Int32)))])) _
      refine XS.iload X158.here hx rfl (hb hby at_175) rfl ?_
      show Steps p.tables e below (T158.setTop (mkF m 177 #[.val (.int p0), .val (.int p1), .val (.int p2), .val (.int p3), .val (.int p4), .val (.int p5), .val (.int (3 : Int32)), .val (.int v127), .val (.int v130), .val (.int v133), .val (.int v136), .val (.ref b153), .unset, .unset] [(.int v130), (.int (v127 ^^^ (71 : Int32)))])) _
      refine XS.bipush X158.here hx rfl (hb hby at_177) ?_
      show Steps p.tables e below (T158.setTop (mkF m 179 #[.val (.int p0), .val (.int p1), .val (.int p2), .val (.int p3), .val (.int p4), .val (.int p5), .val (.int (3 : Int32)), .val (.int v127), .val (.int v130), .val (.int v133), .val (.int v136), .val (.ref b153), .unset, .unset] [(.int (73 : Int32)), (.int v130), (.int (v127 ^^^ (71 : Int32)))])) _
      refine XS.ixor X158.here hx rfl (hb hby at_179) rfl ?_
      show Steps p.tables e below (T158.setTop (mkF m 180 #[.val (.int p0), .val (.int p1), .val (.int p2), .val (.int p3), .val (.int p4), .val (.int p5), .val (.int (3 : Int32)), .val (.int v127), .val (.int v130), .val (.int v133), .val (.int v136), .val (.ref b153), .unset, .unset] [(.int (v130 ^^^ (73 : Int32))), (.int (v127 ^^^ (71 : Int32)))])) _
      refine XS.ior X158.here hx rfl (hb hby at_180) rfl ?_
      show Steps p.tables e below (T158.setTop (mkF m 181 #[.val (.int p0), .val (.int p1), .val (.int p2), .val (.int p3), .val (.int p4), .val (.int p5), .val (.int (3 : Int32)), .val (.int v127), .val (.int v130), .val (.int v133), .val (.int v136), .val (.ref b153), .unset, .unset] [(.int ((v127 ^^^ (71 : Int32)) ||| (v130 ^^^ (73 : Int32))))])) _
      refine XS.iload X158.here hx rfl (hb hby at_181) rfl ?_
      show Steps p.tables e below (T158.setTop (mkF m 183 #[.val (.int p0), .val (.int p1), .val (.int p2), .val (.int p3), .val (.int p4), .val (.int p5), .val (.int (3 : Int32)), .val (.int v127), .val (.int v130), .val (.int v133), .val (.int v136), .val (.ref b153), .unset, .unset] [(.int v133), (.int ((v127 ^^^ (71 : Int32)) ||| (v130 ^^^ (73 : Int32))))])) _
      refine XS.bipush X158.here hx rfl (hb hby at_183) ?_
      show Steps p.tables e below (T158.setTop (mkF m 185 #[.val (.int p0), .val (.int p1), .val (.int p2), .val (.int p3), .val (.int p4), .val (.int p5), .val (.int (3 : Int32)), .val (.int v127), .val (.int v130), .val (.int v133), .val (.int v136), .val (.ref b153), .unset, .unset] [(.int (79 : Int32)), (.int v133), (.int ((v127 ^^^ (71 : Int32)) ||| (v130 ^^^ (73 : Int32))))])) _
      refine XS.ixor X158.here hx rfl (hb hby at_185) rfl ?_
      show Steps p.tables e below (T158.setTop (mkF m 186 #[.val (.int p0), .val (.int p1), .val (.int p2), .val (.int p3), .val (.int p4), .val (.int p5), .val (.int (3 : Int32)), .val (.int v127), .val (.int v130), .val (.int v133), .val (.int v136), .val (.ref b153), .unset, .unset] [(.int (v133 ^^^ (79 : Int32))), (.int ((v127 ^^^ (71 : Int32)) ||| (v130 ^^^ (73 : Int32))))])) _
      refine XS.ior X158.here hx rfl (hb hby at_186) rfl ?_
      show Steps p.tables e below (T158.setTop (mkF m 187 #[.val (.int p0), .val (.int p1), .val (.int p2), .val (.int p3), .val (.int p4), .val (.int p5), .val (.int (3 : Int32)), .val (.int v127), .val (.int v130), .val (.int v133), .val (.int v136), .val (.ref b153), .unset, .unset] [(.int (((v127 ^^^ (71 : Int32)) ||| (v130 ^^^ (73 : Int32))) ||| (v133 ^^^ (79 : Int32))))])) _
      refine XS.iload X158.here hx rfl (hb hby at_187) rfl ?_
      show Steps p.tables e below (T158.setTop (mkF m 189 #[.val (.int p0), .val (.int p1), .val (.int p2), .val (.int p3), .val (.int p4), .val (.int p5), .val (.int (3 : Int32)), .val (.int v127), .val (.int v130), .val (.int v133), .val (.int v136), .val (.ref b153), .unset, .unset] [(.int v136), (.int (((v127 ^^^ (71 : Int32)) ||| (v130 ^^^ (73 : Int32))) ||| (v133 ^^^ (79 : Int32))))])) _
      refine XS.bipush X158.here hx rfl (hb hby at_189) ?_
      show Steps p.tables e below (T158.setTop (mkF m 191 #[.val (.int p0), .val (.int p1), .val (.int p2), .val (.int p3), .val (.int p4), .val (.int p5), .val (.int (3 : Int32)), .val (.int v127), .val (.int v130), .val (.int v133), .val (.int v136), .val (.ref b153), .unset, .unset] [(.int (80 : Int32)), (.int v136), (.int (((v127 ^^^ (71 : Int32)) ||| (v130 ^^^ (73 : Int32))) ||| (v133 ^^^ (79 : Int32))))])) _
      refine XS.ixor X158.here hx rfl (hb hby at_191) rfl ?_
      show Steps p.tables e below (T158.setTop (mkF m 192 #[.val (.int p0), .val (.int p1), .val (.int p2), .val (.int p3), .val (.int p4), .val (.int p5), .val (.int (3 : Int32)), .val (.int v127), .val (.int v130), .val (.int v133), .val (.int v136), .val (.ref b153), .unset, .unset] [(.int (v136 ^^^ (80 : Int32))), (.int (((v127 ^^^ (71 : Int32)) ||| (v130 ^^^ (73 : Int32))) ||| (v133 ^^^ (79 : Int32))))])) _
      refine XS.ior X158.here hx rfl (hb hby at_192) rfl ?_
      show Steps p.tables e below (T158.setTop (mkF m 193 #[.val (.int p0), .val (.int p1), .val (.int p2), .val (.int p3), .val (.int p4), .val (.int p5), .val (.int (3 : Int32)), .val (.int v127), .val (.int v130), .val (.int v133), .val (.int v136), .val (.ref b153), .unset, .unset] [(.int ((((v127 ^^^ (71 : Int32)) ||| (v130 ^^^ (73 : Int32))) ||| (v133 ^^^ (79 : Int32))) ||| (v136 ^^^ (80 : Int32))))])) _
      refine XS.istore X158.here hx rfl (hb hby at_193) rfl (l' := #[.val (.int p0), .val (.int p1), .val (.int p2), .val (.int p3), .val (.int p4), .val (.int p5), .val (.int (3 : Int32)), .val (.int v127), .val (.int v130), .val (.int v133), .val (.int v136), .val (.ref b153), .val (.int ((((v127 ^^^ (71 : Int32)) ||| (v130 ^^^ (73 : Int32))) ||| (v133 ^^^ (79 : Int32))) ||| (v136 ^^^ (80 : Int32)))), .unset]) rfl ?_
      exact k
    generalize hv_v160 : ((((v127 ^^^ (71 : Int32)) ||| (v130 ^^^ (73 : Int32))) ||| (v133 ^^^ (79 : Int32))) ||| (v136 ^^^ (80 : Int32))) = v160
    refine Go.st (U' := T158.setTop (mkF m 215 #[.val (.int p0), .val (.int p1), .val (.int p2), .val (.int p3), .val (.int p4), .val (.int p5), .val (.int (3 : Int32)), .val (.int v127), .val (.int v130), .val (.int v133), .val (.int v136), .val (.ref b153), .val (.int v160), .val (.int (0 : Int32))] [(.ref b153)])) (fun t k => ?_) ?_
    · show Steps p.tables e below (T158.setTop (mkF m 195 #[.val (.int p0), .val (.int p1), .val (.int p2), .val (.int p3), .val (.int p4), .val (.int p5), .val (.int (3 : Int32)), .val (.int v127), .val (.int v130), .val (.int v133), .val (.int v136), .val (.ref b153), .val (.int v160), .unset] [])) _
      refine XS.iload X158.here hx rfl (hb hby at_195) rfl ?_
      show Steps p.tables e below (T158.setTop (mkF m 197 #[.val (.int p0), .val (.int p1), .val (.int p2), .val (.int p3), .val (.int p4), .val (.int p5), .val (.int (3 : Int32)), .val (.int v127), .val (.int v130), .val (.int v133), .val (.int v136), .val (.ref b153), .val (.int v160), .unset] [(.int (3 : Int32))])) _
      refine XS.iconst X158.here hx rfl (hb hby at_197) ?_
      show Steps p.tables e below (T158.setTop (mkF m 198 #[.val (.int p0), .val (.int p1), .val (.int p2), .val (.int p3), .val (.int p4), .val (.int p5), .val (.int (3 : Int32)), .val (.int v127), .val (.int v130), .val (.int v133), .val (.int v136), .val (.ref b153), .val (.int v160), .unset] [(.int (4 : Int32)), (.int (3 : Int32))])) _
      refine XS.icmpYes X158.here hx rfl (pc0 := 198) (pc' := 210) rfl (hb hby at_198) rfl (tlt (by decide : (3 : Int32) < (4 : Int32))).1 (by decide) (by decide) ?_
      show Steps p.tables e below (T158.setTop (mkF m 210 #[.val (.int p0), .val (.int p1), .val (.int p2), .val (.int p3), .val (.int p4), .val (.int p5), .val (.int (3 : Int32)), .val (.int v127), .val (.int v130), .val (.int v133), .val (.int v136), .val (.ref b153), .val (.int v160), .unset] [])) _
      refine XS.iconst X158.here hx rfl (hb hby at_210) ?_
      show Steps p.tables e below (T158.setTop (mkF m 211 #[.val (.int p0), .val (.int p1), .val (.int p2), .val (.int p3), .val (.int p4), .val (.int p5), .val (.int (3 : Int32)), .val (.int v127), .val (.int v130), .val (.int v133), .val (.int v136), .val (.ref b153), .val (.int v160), .unset] [(.int (0 : Int32))])) _
      refine XS.istore X158.here hx rfl (hb hby at_211) rfl (l' := #[.val (.int p0), .val (.int p1), .val (.int p2), .val (.int p3), .val (.int p4), .val (.int p5), .val (.int (3 : Int32)), .val (.int v127), .val (.int v130), .val (.int v133), .val (.int v136), .val (.ref b153), .val (.int v160), .val (.int (0 : Int32))]) rfl ?_
      show Steps p.tables e below (T158.setTop (mkF m 213 #[.val (.int p0), .val (.int p1), .val (.int p2), .val (.int p3), .val (.int p4), .val (.int p5), .val (.int (3 : Int32)), .val (.int v127), .val (.int v130), .val (.int v133), .val (.int v136), .val (.ref b153), .val (.int v160), .val (.int (0 : Int32))] [])) _
      refine XS.aload X158.here hx rfl (hb hby at_213) rfl rfl ?_
      exact k
    obtain ⟨_, _, ⟨T161, L161, k161, n161⟩, -, X161, ⟨Lc161, hQ161, l161, y161, z161⟩, st161⟩ := Jvm.LawKit.callS X158 hx (y := own_y0) hown (mvT hZ (own_w hw 1 rfl)) (mvT hZ (own_w hw 2 rfl)) (mvT hZ (own_w hw 3 rfl)) (mvT hZ (own_w hw 4 rfl)) (by decide) (backOf (W := 0) (rm1_3 l Z a0 hw [] b153 k153 (v127.toInt8.toInt32) (v130.toInt8.toInt32) (v133.toInt8.toInt32) h158 n0 sz158 V_b153_158) hZ (own_w hw 4 rfl) (own_w hw 3 rfl) (by decide) (by decide)) (g := (mkF m 215 #[.val (.int p0), .val (.int p1), .val (.int p2), .val (.int p3), .val (.int p4), .val (.int p5), .val (.int (3 : Int32)), .val (.int v127), .val (.int v130), .val (.int v133), .val (.int v136), .val (.ref b153), .val (.int v160), .val (.int (0 : Int32))] [(.ref b153)])) rfl (by rw [hml]; rfl) (argsL := [(.ref b153)]) (rest := []) (lenOf pd_0 rfl) rfl (by show 2 * 0 + _ ≤ _; exact Nat.le_of_eq rfl) (hb hby at_215) (fun _ _ => ⟨rfl, e158, (by decide : 1 + 0 ≤ _), (by decide : 3 + 0 ≤ _)⟩)
    dsimp only [Pt.U, Pt.locs, Pt.cells, Pt.slots] at X161 l161 y161 z161 st161 hQ161
    subst l161 y161 z161
    obtain ⟨rfl, N161q, e161⟩ := hQ161
    have N161 := Fr.app N158 N161q
    refine Go.st (U' := T161.setTop (mkF m 218 #[.val (.int p0), .val (.int p1), .val (.int p2), .val (.int p3), .val (.int p4), .val (.int p5), .val (.int (3 : Int32)), .val (.int v127), .val (.int v130), .val (.int v133), .val (.int v136), .val (.ref b153), .val (.int v160), .val (.int (0 : Int32))] [(.int (g3 ))])) (fun t k => st161 _ k) ?_
    refine Go.st (U' := T161.setTop (mkF m 228 #[.val (.int p0), .val (.int p1), .val (.int p2), .val (.int p3), .val (.int p4), .val (.int p5), .val (.int (3 : Int32)), .val (.int v127), .val (.int v130), .val (.int v133), .val (.int v136), .val (.ref b153), .val (.int v160), .val (.int (0 : Int32))] [(.int (1 : Int32))])) (fun t k => ?_) ?_
    · show Steps p.tables e below (T161.setTop (mkF m 218 #[.val (.int p0), .val (.int p1), .val (.int p2), .val (.int p3), .val (.int p4), .val (.int p5), .val (.int (3 : Int32)), .val (.int v127), .val (.int v130), .val (.int v133), .val (.int v136), .val (.ref b153), .val (.int v160), .val (.int (0 : Int32))] [(.int (g3 ))])) _
      refine XS.iload X161.here hx rfl (hb hby at_218) rfl ?_
      show Steps p.tables e below (T161.setTop (mkF m 220 #[.val (.int p0), .val (.int p1), .val (.int p2), .val (.int p3), .val (.int p4), .val (.int p5), .val (.int (3 : Int32)), .val (.int v127), .val (.int v130), .val (.int v133), .val (.int v136), .val (.ref b153), .val (.int v160), .val (.int (0 : Int32))] [(.int (0 : Int32)), (.int (g3 ))])) _
      refine XS.icmpNo X161.here hx rfl (hb hby at_220) rfl (teq (rfl : (g3 ) = (0 : Int32))).2 ?_
      show Steps p.tables e below (T161.setTop (mkF m 223 #[.val (.int p0), .val (.int p1), .val (.int p2), .val (.int p3), .val (.int p4), .val (.int p5), .val (.int (3 : Int32)), .val (.int v127), .val (.int v130), .val (.int v133), .val (.int v136), .val (.ref b153), .val (.int v160), .val (.int (0 : Int32))] [])) _
      refine XS.iconst X161.here hx rfl (hb hby at_223) ?_
      show Steps p.tables e below (T161.setTop (mkF m 224 #[.val (.int p0), .val (.int p1), .val (.int p2), .val (.int p3), .val (.int p4), .val (.int p5), .val (.int (3 : Int32)), .val (.int v127), .val (.int v130), .val (.int v133), .val (.int v136), .val (.ref b153), .val (.int v160), .val (.int (0 : Int32))] [(.int (1 : Int32))])) _
      refine XS.goto X161.here hx rfl (pc0 := 224) (pc' := 228) rfl (hb hby at_224) (by decide) (by decide) ?_
      exact k
    refine own_ret (Q := Q0 Z p0 p1 p2 p3 p4 p5 h0 n0) (v := some (.int (1 : Int32))) X161 hlk (fun h => by rw [hrt] at h; cases h) (by decide) (by decide) ?_ (fun fs hr => retN X161 hx (t := .boolean) hrt (by simp) (hb hby at_228) hr)
    rw [e161]
    exact ⟨rfl, N161⟩
  · refine Go.st (U' := s₁.setTop (mkF m 71 #[.val (.int p0), .val (.int p1), .val (.int p2), .val (.int p3), .val (.int p4), .val (.int p5), .val (.int (4 : Int32)), .val (.int v127), .val (.int v130), .val (.int v133), .val (.int v136), .unset, .unset, .unset] [(.int (4 : Int32))])) (fun t k => ?_) ?_
    · show Steps p.tables e below (s₁.setTop (mkF m 69 #[.val (.int p0), .val (.int p1), .val (.int p2), .val (.int p3), .val (.int p4), .val (.int p5), .val (.int (4 : Int32)), .val (.int v127), .val (.int v130), .val (.int v133), .val (.int v136), .unset, .unset, .unset] [])) _
      refine XS.iload X0.here hx rfl (hb hby at_69) rfl ?_
      exact k
    obtain ⟨T162, h162, k162, X162, e162, E162, A162, st162⟩ := newP X0 hx hZ (own_w hw 0 rfl) e0 (g := (mkF m 71 #[.val (.int p0), .val (.int p1), .val (.int p2), .val (.int p3), .val (.int p4), .val (.int p5), .val (.int (4 : Int32)), .val (.int v127), .val (.int v130), .val (.int v133), .val (.int v136), .unset, .unset, .unset] [(.int (4 : Int32))])) rfl (hb hby at_71) rfl (by decide) (cap := 4) (by decide) (by decide) (by decide) (by decide)
    obtain ⟨b162, g162⟩ : ∃ z, z = h0.size := ⟨_, rfl⟩
    rw [← g162] at A162 st162
    have ge_b162 : n0 ≤ b162 := Nat.le_trans Z0 (Nat.le_of_eq g162.symm)
    have V_b162 : Arv Z h162 b162 k162 .byte (4 : Int32) [(.int (0 : Int32)), (.int (0 : Int32)), (.int (0 : Int32)), (.int (0 : Int32))] (.int (0 : Int32)) := (Arv.new A162 (by decide)).pad (pad_rep [] (.int (0 : Int32)) 4)
    have sz162 : n0 ≤ h162.size := Nat.le_trans Z0 E162.1
    refine Go.st (U' := T162.setTop (mkF m 73 #[.val (.int p0), .val (.int p1), .val (.int p2), .val (.int p3), .val (.int p4), .val (.int p5), .val (.int (4 : Int32)), .val (.int v127), .val (.int v130), .val (.int v133), .val (.int v136), .unset, .unset, .unset] [(.ref b162)])) (fun t k => st162 _ k) ?_
    refine Go.st (U' := T162.setTop (mkF m 85 #[.val (.int p0), .val (.int p1), .val (.int p2), .val (.int p3), .val (.int p4), .val (.int p5), .val (.int (4 : Int32)), .val (.int v127), .val (.int v130), .val (.int v133), .val (.int v136), .val (.ref b162), .unset, .unset] [(.int v127), (.int (0 : Int32)), (.ref b162)])) (fun t k => ?_) ?_
    · show Steps p.tables e below (T162.setTop (mkF m 73 #[.val (.int p0), .val (.int p1), .val (.int p2), .val (.int p3), .val (.int p4), .val (.int p5), .val (.int (4 : Int32)), .val (.int v127), .val (.int v130), .val (.int v133), .val (.int v136), .unset, .unset, .unset] [(.ref b162)])) _
      refine XS.astore X162.here hx rfl (hb hby at_73) rfl rfl (l' := #[.val (.int p0), .val (.int p1), .val (.int p2), .val (.int p3), .val (.int p4), .val (.int p5), .val (.int (4 : Int32)), .val (.int v127), .val (.int v130), .val (.int v133), .val (.int v136), .val (.ref b162), .unset, .unset]) rfl ?_
      show Steps p.tables e below (T162.setTop (mkF m 75 #[.val (.int p0), .val (.int p1), .val (.int p2), .val (.int p3), .val (.int p4), .val (.int p5), .val (.int (4 : Int32)), .val (.int v127), .val (.int v130), .val (.int v133), .val (.int v136), .val (.ref b162), .unset, .unset] [])) _
      refine XS.iload X162.here hx rfl (hb hby at_75) rfl ?_
      show Steps p.tables e below (T162.setTop (mkF m 77 #[.val (.int p0), .val (.int p1), .val (.int p2), .val (.int p3), .val (.int p4), .val (.int p5), .val (.int (4 : Int32)), .val (.int v127), .val (.int v130), .val (.int v133), .val (.int v136), .val (.ref b162), .unset, .unset] [(.int (4 : Int32))])) _
      refine XS.ifNo X162.here hx rfl (hb hby at_77) rfl ((if0 _ _).trans (tlt (by decide : (0 : Int32) < (4 : Int32))).2.2.2) ?_
      show Steps p.tables e below (T162.setTop (mkF m 80 #[.val (.int p0), .val (.int p1), .val (.int p2), .val (.int p3), .val (.int p4), .val (.int p5), .val (.int (4 : Int32)), .val (.int v127), .val (.int v130), .val (.int v133), .val (.int v136), .val (.ref b162), .unset, .unset] [])) _
      refine XS.aload X162.here hx rfl (hb hby at_80) rfl rfl ?_
      show Steps p.tables e below (T162.setTop (mkF m 82 #[.val (.int p0), .val (.int p1), .val (.int p2), .val (.int p3), .val (.int p4), .val (.int p5), .val (.int (4 : Int32)), .val (.int v127), .val (.int v130), .val (.int v133), .val (.int v136), .val (.ref b162), .unset, .unset] [(.ref b162)])) _
      refine XS.iconst X162.here hx rfl (hb hby at_82) ?_
      show Steps p.tables e below (T162.setTop (mkF m 83 #[.val (.int p0), .val (.int p1), .val (.int p2), .val (.int p3), .val (.int p4), .val (.int p5), .val (.int (4 : Int32)), .val (.int v127), .val (.int v130), .val (.int v133), .val (.int v136), .val (.ref b162), .unset, .unset] [(.int (0 : Int32)), (.ref b162)])) _
      refine XS.iload X162.here hx rfl (hb hby at_83) rfl ?_
      exact k
    obtain ⟨cl164, Ar164, q164, S164, N164, H164, G164⟩ := id V_b162
    obtain ⟨T163, h163, X163, e163, W163, st163⟩ := stB X162 hx hZ e162 Ar164 (j := (0 : Int32)) (inb_of (j := (0 : Int32)) S164 ⟨by decide, by decide⟩) (g := (mkF m 85 #[.val (.int p0), .val (.int p1), .val (.int p2), .val (.int p3), .val (.int p4), .val (.int p5), .val (.int (4 : Int32)), .val (.int v127), .val (.int v130), .val (.int v133), .val (.int v136), .val (.ref b162), .unset, .unset] [(.int v127), (.int (0 : Int32)), (.ref b162)])) rfl rfl (hb hby at_85)
    have V_b162_163 := Arv.set Ar164 q164 S164 N164 H164 G164 (fits_nar_byte _) W163 0 rfl (Nat.le_of_ble_eq_true rfl)
    have N163 := Fr.snoc X163 N0 ge_b162
    have sz163 : n0 ≤ h163.size := Nat.le_trans sz162 (Nat.le_of_eq W163.size.symm)
    refine Go.st (U' := T163.setTop (mkF m 86 #[.val (.int p0), .val (.int p1), .val (.int p2), .val (.int p3), .val (.int p4), .val (.int p5), .val (.int (4 : Int32)), .val (.int v127), .val (.int v130), .val (.int v133), .val (.int v136), .val (.ref b162), .unset, .unset] [])) (fun t k => st163 _ k) ?_
    refine Go.st (U' := T163.setTop (mkF m 97 #[.val (.int p0), .val (.int p1), .val (.int p2), .val (.int p3), .val (.int p4), .val (.int p5), .val (.int (4 : Int32)), .val (.int v127), .val (.int v130), .val (.int v133), .val (.int v136), .val (.ref b162), .unset, .unset] [(.int v130), (.int (1 : Int32)), (.ref b162)])) (fun t k => ?_) ?_
    · show Steps p.tables e below (T163.setTop (mkF m 86 #[.val (.int p0), .val (.int p1), .val (.int p2), .val (.int p3), .val (.int p4), .val (.int p5), .val (.int (4 : Int32)), .val (.int v127), .val (.int v130), .val (.int v133), .val (.int v136), .val (.ref b162), .unset, .unset] [])) _
      refine XS.iload X163.here hx rfl (hb hby at_86) rfl ?_
      show Steps p.tables e below (T163.setTop (mkF m 88 #[.val (.int p0), .val (.int p1), .val (.int p2), .val (.int p3), .val (.int p4), .val (.int p5), .val (.int (4 : Int32)), .val (.int v127), .val (.int v130), .val (.int v133), .val (.int v136), .val (.ref b162), .unset, .unset] [(.int (4 : Int32))])) _
      refine XS.iconst X163.here hx rfl (hb hby at_88) ?_
      show Steps p.tables e below (T163.setTop (mkF m 89 #[.val (.int p0), .val (.int p1), .val (.int p2), .val (.int p3), .val (.int p4), .val (.int p5), .val (.int (4 : Int32)), .val (.int v127), .val (.int v130), .val (.int v133), .val (.int v136), .val (.ref b162), .unset, .unset] [(.int (1 : Int32)), (.int (4 : Int32))])) _
      refine XS.icmpNo X163.here hx rfl (hb hby at_89) rfl (tlt (by decide : (1 : Int32) < (4 : Int32))).2.2.2 ?_
      show Steps p.tables e below (T163.setTop (mkF m 92 #[.val (.int p0), .val (.int p1), .val (.int p2), .val (.int p3), .val (.int p4), .val (.int p5), .val (.int (4 : Int32)), .val (.int v127), .val (.int v130), .val (.int v133), .val (.int v136), .val (.ref b162), .unset, .unset] [])) _
      refine XS.aload X163.here hx rfl (hb hby at_92) rfl rfl ?_
      show Steps p.tables e below (T163.setTop (mkF m 94 #[.val (.int p0), .val (.int p1), .val (.int p2), .val (.int p3), .val (.int p4), .val (.int p5), .val (.int (4 : Int32)), .val (.int v127), .val (.int v130), .val (.int v133), .val (.int v136), .val (.ref b162), .unset, .unset] [(.ref b162)])) _
      refine XS.iconst X163.here hx rfl (hb hby at_94) ?_
      show Steps p.tables e below (T163.setTop (mkF m 95 #[.val (.int p0), .val (.int p1), .val (.int p2), .val (.int p3), .val (.int p4), .val (.int p5), .val (.int (4 : Int32)), .val (.int v127), .val (.int v130), .val (.int v133), .val (.int v136), .val (.ref b162), .unset, .unset] [(.int (1 : Int32)), (.ref b162)])) _
      refine XS.iload X163.here hx rfl (hb hby at_95) rfl ?_
      exact k
    obtain ⟨cl166, Ar166, q166, S166, N166, H166, G166⟩ := id V_b162_163
    obtain ⟨T165, h165, X165, e165, W165, st165⟩ := stB X163 hx hZ e163 Ar166 (j := (1 : Int32)) (inb_of (j := (1 : Int32)) S166 ⟨by decide, by decide⟩) (g := (mkF m 97 #[.val (.int p0), .val (.int p1), .val (.int p2), .val (.int p3), .val (.int p4), .val (.int p5), .val (.int (4 : Int32)), .val (.int v127), .val (.int v130), .val (.int v133), .val (.int v136), .val (.ref b162), .unset, .unset] [(.int v130), (.int (1 : Int32)), (.ref b162)])) rfl rfl (hb hby at_97)
    have V_b162_165 := Arv.set Ar166 q166 S166 N166 H166 G166 (fits_nar_byte _) W165 1 rfl (Nat.le_of_ble_eq_true rfl)
    have N165 := Fr.snoc X165 N163 ge_b162
    have sz165 : n0 ≤ h165.size := Nat.le_trans sz163 (Nat.le_of_eq W165.size.symm)
    refine Go.st (U' := T165.setTop (mkF m 98 #[.val (.int p0), .val (.int p1), .val (.int p2), .val (.int p3), .val (.int p4), .val (.int p5), .val (.int (4 : Int32)), .val (.int v127), .val (.int v130), .val (.int v133), .val (.int v136), .val (.ref b162), .unset, .unset] [])) (fun t k => st165 _ k) ?_
    refine Go.st (U' := T165.setTop (mkF m 109 #[.val (.int p0), .val (.int p1), .val (.int p2), .val (.int p3), .val (.int p4), .val (.int p5), .val (.int (4 : Int32)), .val (.int v127), .val (.int v130), .val (.int v133), .val (.int v136), .val (.ref b162), .unset, .unset] [(.int v133), (.int (2 : Int32)), (.ref b162)])) (fun t k => ?_) ?_
    · show Steps p.tables e below (T165.setTop (mkF m 98 #[.val (.int p0), .val (.int p1), .val (.int p2), .val (.int p3), .val (.int p4), .val (.int p5), .val (.int (4 : Int32)), .val (.int v127), .val (.int v130), .val (.int v133), .val (.int v136), .val (.ref b162), .unset, .unset] [])) _
      refine XS.iload X165.here hx rfl (hb hby at_98) rfl ?_
      show Steps p.tables e below (T165.setTop (mkF m 100 #[.val (.int p0), .val (.int p1), .val (.int p2), .val (.int p3), .val (.int p4), .val (.int p5), .val (.int (4 : Int32)), .val (.int v127), .val (.int v130), .val (.int v133), .val (.int v136), .val (.ref b162), .unset, .unset] [(.int (4 : Int32))])) _
      refine XS.iconst X165.here hx rfl (hb hby at_100) ?_
      show Steps p.tables e below (T165.setTop (mkF m 101 #[.val (.int p0), .val (.int p1), .val (.int p2), .val (.int p3), .val (.int p4), .val (.int p5), .val (.int (4 : Int32)), .val (.int v127), .val (.int v130), .val (.int v133), .val (.int v136), .val (.ref b162), .unset, .unset] [(.int (2 : Int32)), (.int (4 : Int32))])) _
      refine XS.icmpNo X165.here hx rfl (hb hby at_101) rfl (tlt (by decide : (2 : Int32) < (4 : Int32))).2.2.2 ?_
      show Steps p.tables e below (T165.setTop (mkF m 104 #[.val (.int p0), .val (.int p1), .val (.int p2), .val (.int p3), .val (.int p4), .val (.int p5), .val (.int (4 : Int32)), .val (.int v127), .val (.int v130), .val (.int v133), .val (.int v136), .val (.ref b162), .unset, .unset] [])) _
      refine XS.aload X165.here hx rfl (hb hby at_104) rfl rfl ?_
      show Steps p.tables e below (T165.setTop (mkF m 106 #[.val (.int p0), .val (.int p1), .val (.int p2), .val (.int p3), .val (.int p4), .val (.int p5), .val (.int (4 : Int32)), .val (.int v127), .val (.int v130), .val (.int v133), .val (.int v136), .val (.ref b162), .unset, .unset] [(.ref b162)])) _
      refine XS.iconst X165.here hx rfl (hb hby at_106) ?_
      show Steps p.tables e below (T165.setTop (mkF m 107 #[.val (.int p0), .val (.int p1), .val (.int p2), .val (.int p3), .val (.int p4), .val (.int p5), .val (.int (4 : Int32)), .val (.int v127), .val (.int v130), .val (.int v133), .val (.int v136), .val (.ref b162), .unset, .unset] [(.int (2 : Int32)), (.ref b162)])) _
      refine XS.iload X165.here hx rfl (hb hby at_107) rfl ?_
      exact k
    obtain ⟨cl168, Ar168, q168, S168, N168, H168, G168⟩ := id V_b162_165
    obtain ⟨T167, h167, X167, e167, W167, st167⟩ := stB X165 hx hZ e165 Ar168 (j := (2 : Int32)) (inb_of (j := (2 : Int32)) S168 ⟨by decide, by decide⟩) (g := (mkF m 109 #[.val (.int p0), .val (.int p1), .val (.int p2), .val (.int p3), .val (.int p4), .val (.int p5), .val (.int (4 : Int32)), .val (.int v127), .val (.int v130), .val (.int v133), .val (.int v136), .val (.ref b162), .unset, .unset] [(.int v133), (.int (2 : Int32)), (.ref b162)])) rfl rfl (hb hby at_109)
    have V_b162_167 := Arv.set Ar168 q168 S168 N168 H168 G168 (fits_nar_byte _) W167 2 rfl (Nat.le_of_ble_eq_true rfl)
    have N167 := Fr.snoc X167 N165 ge_b162
    have sz167 : n0 ≤ h167.size := Nat.le_trans sz165 (Nat.le_of_eq W167.size.symm)
    refine Go.st (U' := T167.setTop (mkF m 110 #[.val (.int p0), .val (.int p1), .val (.int p2), .val (.int p3), .val (.int p4), .val (.int p5), .val (.int (4 : Int32)), .val (.int v127), .val (.int v130), .val (.int v133), .val (.int v136), .val (.ref b162), .unset, .unset] [])) (fun t k => st167 _ k) ?_
    refine Go.st (U' := T167.setTop (mkF m 121 #[.val (.int p0), .val (.int p1), .val (.int p2), .val (.int p3), .val (.int p4), .val (.int p5), .val (.int (4 : Int32)), .val (.int v127), .val (.int v130), .val (.int v133), .val (.int v136), .val (.ref b162), .unset, .unset] [(.int v136), (.int (3 : Int32)), (.ref b162)])) (fun t k => ?_) ?_
    · show Steps p.tables e below (T167.setTop (mkF m 110 #[.val (.int p0), .val (.int p1), .val (.int p2), .val (.int p3), .val (.int p4), .val (.int p5), .val (.int (4 : Int32)), .val (.int v127), .val (.int v130), .val (.int v133), .val (.int v136), .val (.ref b162), .unset, .unset] [])) _
      refine XS.iload X167.here hx rfl (hb hby at_110) rfl ?_
      show Steps p.tables e below (T167.setTop (mkF m 112 #[.val (.int p0), .val (.int p1), .val (.int p2), .val (.int p3), .val (.int p4), .val (.int p5), .val (.int (4 : Int32)), .val (.int v127), .val (.int v130), .val (.int v133), .val (.int v136), .val (.ref b162), .unset, .unset] [(.int (4 : Int32))])) _
      refine XS.iconst X167.here hx rfl (hb hby at_112) ?_
      show Steps p.tables e below (T167.setTop (mkF m 113 #[.val (.int p0), .val (.int p1), .val (.int p2), .val (.int p3), .val (.int p4), .val (.int p5), .val (.int (4 : Int32)), .val (.int v127), .val (.int v130), .val (.int v133), .val (.int v136), .val (.ref b162), .unset, .unset] [(.int (3 : Int32)), (.int (4 : Int32))])) _
      refine XS.icmpNo X167.here hx rfl (hb hby at_113) rfl (tlt (by decide : (3 : Int32) < (4 : Int32))).2.2.2 ?_
      show Steps p.tables e below (T167.setTop (mkF m 116 #[.val (.int p0), .val (.int p1), .val (.int p2), .val (.int p3), .val (.int p4), .val (.int p5), .val (.int (4 : Int32)), .val (.int v127), .val (.int v130), .val (.int v133), .val (.int v136), .val (.ref b162), .unset, .unset] [])) _
      refine XS.aload X167.here hx rfl (hb hby at_116) rfl rfl ?_
      show Steps p.tables e below (T167.setTop (mkF m 118 #[.val (.int p0), .val (.int p1), .val (.int p2), .val (.int p3), .val (.int p4), .val (.int p5), .val (.int (4 : Int32)), .val (.int v127), .val (.int v130), .val (.int v133), .val (.int v136), .val (.ref b162), .unset, .unset] [(.ref b162)])) _
      refine XS.iconst X167.here hx rfl (hb hby at_118) ?_
      show Steps p.tables e below (T167.setTop (mkF m 119 #[.val (.int p0), .val (.int p1), .val (.int p2), .val (.int p3), .val (.int p4), .val (.int p5), .val (.int (4 : Int32)), .val (.int v127), .val (.int v130), .val (.int v133), .val (.int v136), .val (.ref b162), .unset, .unset] [(.int (3 : Int32)), (.ref b162)])) _
      refine XS.iload X167.here hx rfl (hb hby at_119) rfl ?_
      exact k
    obtain ⟨cl170, Ar170, q170, S170, N170, H170, G170⟩ := id V_b162_167
    obtain ⟨T169, h169, X169, e169, W169, st169⟩ := stB X167 hx hZ e167 Ar170 (j := (3 : Int32)) (inb_of (j := (3 : Int32)) S170 ⟨by decide, by decide⟩) (g := (mkF m 121 #[.val (.int p0), .val (.int p1), .val (.int p2), .val (.int p3), .val (.int p4), .val (.int p5), .val (.int (4 : Int32)), .val (.int v127), .val (.int v130), .val (.int v133), .val (.int v136), .val (.ref b162), .unset, .unset] [(.int v136), (.int (3 : Int32)), (.ref b162)])) rfl rfl (hb hby at_121)
    have V_b162_169 := Arv.set Ar170 q170 S170 N170 H170 G170 (fits_nar_byte _) W169 3 rfl (Nat.le_of_ble_eq_true rfl)
    have N169 := Fr.snoc X169 N167 ge_b162
    have sz169 : n0 ≤ h169.size := Nat.le_trans sz167 (Nat.le_of_eq W169.size.symm)
    refine Go.st (U' := T169.setTop (mkF m 122 #[.val (.int p0), .val (.int p1), .val (.int p2), .val (.int p3), .val (.int p4), .val (.int p5), .val (.int (4 : Int32)), .val (.int v127), .val (.int v130), .val (.int v133), .val (.int v136), .val (.ref b162), .unset, .unset] [])) (fun t k => st169 _ k) ?_
    refine Go.st (U' := T169.setTop (mkF m 195 #[.val (.int p0), .val (.int p1), .val (.int p2), .val (.int p3), .val (.int p4), .val (.int p5), .val (.int (4 : Int32)), .val (.int v127), .val (.int v130), .val (.int v133), .val (.int v136), .val (.ref b162), .val (.int ((((v127 ^^^ (71 : Int32)) ||| (v130 ^^^ (73 : Int32))) ||| (v133 ^^^ (79 : Int32))) ||| (v136 ^^^ (80 : Int32)))), .unset] [])) (fun t k => ?_) ?_
    · show Steps p.tables e below (T169.setTop (mkF m 122 #[.val (.int p0), .val (.int p1), .val (.int p2), .val (.int p3), .val (.int p4), .val (.int p5), .val (.int (4 : Int32)), .val (.int v127), .val (.int v130), .val (.int v133), .val (.int v136), .val (.ref b162), .unset, .unset] [])) _
      refine XS.iload X169.here hx rfl (hb hby at_122) rfl ?_
      show Steps p.tables e below (T169.setTop (mkF m 124 #[.val (.int p0), .val (.int p1), .val (.int p2), .val (.int p3), .val (.int p4), .val (.int p5), .val (.int (4 : Int32)), .val (.int v127), .val (.int v130), .val (.int v133), .val (.int v136), .val (.ref b162), .unset, .unset] [(.int (4 : Int32))])) _
      refine XS.iconst X169.here hx rfl (hb hby at_124) ?_
      show Steps p.tables e below (T169.setTop (mkF m 125 #[.val (.int p0), .val (.int p1), .val (.int p2), .val (.int p3), .val (.int p4), .val (.int p5), .val (.int (4 : Int32)), .val (.int v127), .val (.int v130), .val (.int v133), .val (.int v136), .val (.ref b162), .unset, .unset] [(.int (4 : Int32)), (.int (4 : Int32))])) _
      refine XS.icmpYes X169.here hx rfl (pc0 := 125) (pc' := 137) rfl (hb hby at_125) rfl (flt (by decide : ¬ ((4 : Int32) < (4 : Int32)))).2.2.2 (by decide) (by decide) ?_
      show Steps p.tables e below (T169.setTop (mkF m 137 #[.val (.int p0), .val (.int p1), .val (.int p2), .val (.int p3), .val (.int p4), .val (.int p5), .val (.int (4 : Int32)), .val (.int v127), .val (.int v130), .val (.int v133), .val (.int v136), .val (.ref b162), .unset, .unset] [])) _
      refine XS.iload X169.here hx rfl (hb hby at_137) rfl ?_
      show Steps p.tables e below (T169.setTop (mkF m 139 #[.val (.int p0), .val (.int p1), .val (.int p2), .val (.int p3), .val (.int p4), .val (.int p5), .val (.int (4 : Int32)), .val (.int v127), .val (.int v130), .val (.int v133), .val (.int v136), .val (.ref b162), .unset, .unset] [(.int (4 : Int32))])) _
      refine XS.iconst X169.here hx rfl (hb hby at_139) ?_
      show Steps p.tables e below (T169.setTop (mkF m 140 #[.val (.int p0), .val (.int p1), .val (.int p2), .val (.int p3), .val (.int p4), .val (.int p5), .val (.int (4 : Int32)), .val (.int v127), .val (.int v130), .val (.int v133), .val (.int v136), .val (.ref b162), .unset, .unset] [(.int (5 : Int32)), (.int (4 : Int32))])) _
      refine XS.icmpYes X169.here hx rfl (pc0 := 140) (pc' := 152) rfl (hb hby at_140) rfl (flt (by decide : ¬ ((5 : Int32) < (4 : Int32)))).2.2.2 (by decide) (by decide) ?_
      show Steps p.tables e below (T169.setTop (mkF m 152 #[.val (.int p0), .val (.int p1), .val (.int p2), .val (.int p3), .val (.int p4), .val (.int p5), .val (.int (4 : Int32)), .val (.int v127), .val (.int v130), .val (.int v133), .val (.int v136), .val (.ref b162), .unset, .unset] [])) _
      refine XS.iload X169.here hx rfl (hb hby at_152) rfl ?_
      show Steps p.tables e below (T169.setTop (mkF m 154 #[.val (.int p0), .val (.int p1), .val (.int p2), .val (.int p3), .val (.int p4), .val (.int p5), .val (.int (4 : Int32)), .val (.int v127), .val (.int v130), .val (.int v133), .val (.int v136), .val (.ref b162), .unset, .unset] [(.int (4 : Int32))])) _
      refine XS.bipush X169.here hx rfl (hb hby at_154) ?_
      show Steps p.tables e below (T169.setTop (mkF m 156 #[.val (.int p0), .val (.int p1), .val (.int p2), .val (.int p3), .val (.int p4), .val (.int p5), .val (.int (4 : Int32)), .val (.int v127), .val (.int v130), .val (.int v133), .val (.int v136), .val (.ref b162), .unset, .unset] [(.int (6 : Int32)), (.int (4 : Int32))])) _
      refine XS.icmpYes X169.here hx rfl (pc0 := 156) (pc' := 170) rfl (hb hby at_156) rfl (flt (by decide : ¬ ((6 : Int32) < (4 : Int32)))).2.2.2 (by decide) (by decide) ?_
      show Steps p.tables e below (T169.setTop (mkF m 170 #[.val (.int p0), .val (.int p1), .val (.int p2), .val (.int p3), .val (.int p4), .val (.int p5), .val (.int (4 : Int32)), .val (.int v127), .val (.int v130), .val (.int v133), .val (.int v136), .val (.ref b162), .unset, .unset] [])) _
      refine XS.iload X169.here hx rfl (hb hby at_170) rfl ?_
      show Steps p.tables e below (T169.setTop (mkF m 172 #[.val (.int p0), .val (.int p1), .val (.int p2), .val (.int p3), .val (.int p4), .val (.int p5), .val (.int (4 : Int32)), .val (.int v127), .val (.int v130), .val (.int v133), .val (.int v136), .val (.ref b162), .unset, .unset] [(.int v127)])) _
      refine XS.bipush X169.here hx rfl (hb hby at_172) ?_
      show Steps p.tables e below (T169.setTop (mkF m 174 #[.val (.int p0), .val (.int p1), .val (.int p2), .val (.int p3), .val (.int p4), .val (.int p5), .val (.int (4 : Int32)), .val (.int v127), .val (.int v130), .val (.int v133), .val (.int v136), .val (.ref b162), .unset, .unset] [(.int (71 : Int32)), (.int v127)])) _
      refine XS.ixor X169.here hx rfl (hb hby at_174) rfl ?_
      show Steps p.tables e below (T169.setTop (mkF m 175 #[.val (.int p0), .val (.int p1), .val (.int p2), .val (.int p3), .val (.int p4), .val (.int p5), .val (.int (4 : Int32)), .val (.int v127), .val (.int v130), .val (.int v133), .val (.int v136), .val (.ref b162), .unset, .unset] [(.int (v127 ^^^ (71 : Int32)))])) _
      refine XS.iload X169.here hx rfl (hb hby at_175) rfl ?_
      show Steps p.tables e below (T169.setTop (mkF m 177 #[.val (.int p0), .val (.int p1), .val (.int p2), .val (.int p3), .val (.int p4), .val (.int p5), .val (.int (4 : Int32)), .val (.int v127), .val (.int v130), .val (.int v133), .val (.int v136), .val (.ref b162), .unset, .unset] [(.int v130), (.int (v127 ^^^ (71 : Int32)))])) _
      refine XS.bipush X169.here hx rfl (hb hby at_177) ?_
      show Steps p.tables e below (T169.setTop (mkF m 179 #[.val (.int p0), .val (.int p1), .val (.int p2), .val (.int p3), .val (.int p4), .val (.int p5), .val (.int (4 : Int32)), .val (.int v127), .val (.int v130), .val (.int v133), .val (.int v136), .val (.ref b162), .unset, .unset] [(.int (73 : Int32)), (.int v130), (.int (v127 ^^^ (71 : Int32)))])) _
      refine XS.ixor X169.here hx rfl (hb hby at_179) rfl ?_
      show Steps p.tables e below (T169.setTop (mkF m 180 #[.val (.int p0), .val (.int p1), .val (.int p2), .val (.int p3), .val (.int p4), .val (.int p5), .val (.int (4 : Int32)), .val (.int v127), .val (.int v130), .val (.int v133), .val (.int v136), .val (.ref b162), .unset, .unset] [(.int (v130 ^^^ (73 : Int32))), (.int (v127 ^^^ (71 : Int32)))])) _
      refine XS.ior X169.here hx rfl (hb hby at_180) rfl ?_
      show Steps p.tables e below (T169.setTop (mkF m 181 #[.val (.int p0), .val (.int p1), .val (.int p2), .val (.int p3), .val (.int p4), .val (.int p5), .val (.int (4 : Int32)), .val (.int v127), .val (.int v130), .val (.int v133), .val (.int v136), .val (.ref b162), .unset, .unset] [(.int ((v127 ^^^ (71 : Int32)) ||| (v130 ^^^ (73 : Int32))))])) _
      refine XS.iload X169.here hx rfl (hb hby at_181) rfl ?_
      show Steps p.tables e below (T169.setTop (mkF m 183 #[.val (.int p0), .val (.int p1), .val (.int p2), .val (.int p3), .val (.int p4), .val (.int p5), .val (.int (4 : Int32)), .val (.int v127), .val (.int v130), .val (.int v133), .val (.int v136), .val (.ref b162), .unset, .unset] [(.int v133), (.int ((v127 ^^^ (71 : Int32)) ||| (v130 ^^^ (73 : Int32))))])) _
      refine XS.bipush X169.here hx rfl (hb hby at_183) ?_
      show Steps p.tables e below (T169.setTop (mkF m 185 #[.val (.int p0), .val (.int p1), .val (.int p2), .val (.int p3), .val (.int p4), .val (.int p5), .val (.int (4 : Int32)), .val (.int v127), .val (.int v130), .val (.int v133), .val (.int v136), .val (.ref b162), .unset, .unset] [(.int (79 : Int32)), (.int v133), (.int ((v127 ^^^ (71 : Int32)) ||| (v130 ^^^ (73 : Int32))))])) _
      refine XS.ixor X169.here hx rfl (hb hby at_185) rfl ?_
      show Steps p.tables e below (T169.setTop (mkF m 186 #[.val (.int p0), .val (.int p1), .val (.int p2), .val (.int p3), .val (.int p4), .val (.int p5), .val (.int (4 : Int32)), .val (.int v127), .val (.int v130), .val (.int v133), .val (.int v136), .val (.ref b162), .unset, .unset] [(.int (v133 ^^^ (79 : Int32))), (.int ((v127 ^^^ (71 : Int32)) ||| (v130 ^^^ (73 : Int32))))])) _
      refine XS.ior X169.here hx rfl (hb hby at_186) rfl ?_
      show Steps p.tables e below (T169.setTop (mkF m 187 #[.val (.int p0), .val (.int p1), .val (.int p2), .val (.int p3), .val (.int p4), .val (.int p5), .val (.int (4 : Int32)), .val (.int v127), .val (.int v130), .val (.int v133), .val (.int v136), .val (.ref b162), .unset, .unset] [(.int (((v127 ^^^ (71 : Int32)) ||| (v130 ^^^ (73 : Int32))) ||| (v133 ^^^ (79 : Int32))))])) _
      refine XS.iload X169.here hx rfl (hb hby at_187) rfl ?_
      show Steps p.tables e below (T169.setTop (mkF m 189 #[.val (.int p0), .val (.int p1), .val (.int p2), .val (.int p3), .val (.int p4), .val (.int p5), .val (.int (4 : Int32)), .val (.int v127), .val (.int v130), .val (.int v133), .val (.int v136), .val (.ref b162), .unset, .unset] [(.int v136), (.int (((v127 ^^^ (71 : Int32)) ||| (v130 ^^^ (73 : Int32))) ||| (v133 ^^^ (79 : Int32))))])) _
      refine XS.bipush X169.here hx rfl (hb hby at_189) ?_
      show Steps p.tables e below (T169.setTop (mkF m 191 #[.val (.int p0), .val (.int p1), .val (.int p2), .val (.int p3), .val (.int p4), .val (.int p5), .val (.int (4 : Int32)), .val (.int v127), .val (.int v130), .val (.int v133), .val (.int v136), .val (.ref b162), .unset, .unset] [(.int (80 : Int32)), (.int v136), (.int (((v127 ^^^ (71 : Int32)) ||| (v130 ^^^ (73 : Int32))) ||| (v133 ^^^ (79 : Int32))))])) _
      refine XS.ixor X169.here hx rfl (hb hby at_191) rfl ?_
      show Steps p.tables e below (T169.setTop (mkF m 192 #[.val (.int p0), .val (.int p1), .val (.int p2), .val (.int p3), .val (.int p4), .val (.int p5), .val (.int (4 : Int32)), .val (.int v127), .val (.int v130), .val (.int v133), .val (.int v136), .val (.ref b162), .unset, .unset] [(.int (v136 ^^^ (80 : Int32))), (.int (((v127 ^^^ (71 : Int32)) ||| (v130 ^^^ (73 : Int32))) ||| (v133 ^^^ (79 : Int32))))])) _
      refine XS.ior X169.here hx rfl (hb hby at_192) rfl ?_
      show Steps p.tables e below (T169.setTop (mkF m 193 #[.val (.int p0), .val (.int p1), .val (.int p2), .val (.int p3), .val (.int p4), .val (.int p5), .val (.int (4 : Int32)), .val (.int v127), .val (.int v130), .val (.int v133), .val (.int v136), .val (.ref b162), .unset, .unset] [(.int ((((v127 ^^^ (71 : Int32)) ||| (v130 ^^^ (73 : Int32))) ||| (v133 ^^^ (79 : Int32))) ||| (v136 ^^^ (80 : Int32))))])) _
      refine XS.istore X169.here hx rfl (hb hby at_193) rfl (l' := #[.val (.int p0), .val (.int p1), .val (.int p2), .val (.int p3), .val (.int p4), .val (.int p5), .val (.int (4 : Int32)), .val (.int v127), .val (.int v130), .val (.int v133), .val (.int v136), .val (.ref b162), .val (.int ((((v127 ^^^ (71 : Int32)) ||| (v130 ^^^ (73 : Int32))) ||| (v133 ^^^ (79 : Int32))) ||| (v136 ^^^ (80 : Int32)))), .unset]) rfl ?_
      exact k
    generalize hv_v171 : ((((v127 ^^^ (71 : Int32)) ||| (v130 ^^^ (73 : Int32))) ||| (v133 ^^^ (79 : Int32))) ||| (v136 ^^^ (80 : Int32))) = v171
    refine Go.st (U' := T169.setTop (mkF m 203 #[.val (.int p0), .val (.int p1), .val (.int p2), .val (.int p3), .val (.int p4), .val (.int p5), .val (.int (4 : Int32)), .val (.int v127), .val (.int v130), .val (.int v133), .val (.int v136), .val (.ref b162), .val (.int v171), .unset] [(.int v171)])) (fun t k => ?_) ?_
    · show Steps p.tables e below (T169.setTop (mkF m 195 #[.val (.int p0), .val (.int p1), .val (.int p2), .val (.int p3), .val (.int p4), .val (.int p5), .val (.int (4 : Int32)), .val (.int v127), .val (.int v130), .val (.int v133), .val (.int v136), .val (.ref b162), .val (.int v171), .unset] [])) _
      refine XS.iload X169.here hx rfl (hb hby at_195) rfl ?_
      show Steps p.tables e below (T169.setTop (mkF m 197 #[.val (.int p0), .val (.int p1), .val (.int p2), .val (.int p3), .val (.int p4), .val (.int p5), .val (.int (4 : Int32)), .val (.int v127), .val (.int v130), .val (.int v133), .val (.int v136), .val (.ref b162), .val (.int v171), .unset] [(.int (4 : Int32))])) _
      refine XS.iconst X169.here hx rfl (hb hby at_197) ?_
      show Steps p.tables e below (T169.setTop (mkF m 198 #[.val (.int p0), .val (.int p1), .val (.int p2), .val (.int p3), .val (.int p4), .val (.int p5), .val (.int (4 : Int32)), .val (.int v127), .val (.int v130), .val (.int v133), .val (.int v136), .val (.ref b162), .val (.int v171), .unset] [(.int (4 : Int32)), (.int (4 : Int32))])) _
      refine XS.icmpNo X169.here hx rfl (hb hby at_198) rfl (flt (by decide : ¬ ((4 : Int32) < (4 : Int32)))).1 ?_
      show Steps p.tables e below (T169.setTop (mkF m 201 #[.val (.int p0), .val (.int p1), .val (.int p2), .val (.int p3), .val (.int p4), .val (.int p5), .val (.int (4 : Int32)), .val (.int v127), .val (.int v130), .val (.int v133), .val (.int v136), .val (.ref b162), .val (.int v171), .unset] [])) _
      refine XS.iload X169.here hx rfl (hb hby at_201) rfl ?_
      exact k
    refine Go.join (P := fun (v173 : Int32) => v173 = (if v171 = (0 : Int32) then (1 : Int32) else (0 : Int32))) (F := fun (v173 : Int32) => T169.setTop (mkF m 211 #[.val (.int p0), .val (.int p1), .val (.int p2), .val (.int p3), .val (.int p4), .val (.int p5), .val (.int (4 : Int32)), .val (.int v127), .val (.int v130), .val (.int v133), .val (.int v136), .val (.ref b162), .val (.int v171), .unset] [(.int v173)])) (fun J174 => ?_) (fun v173 hv_v173 => ?_)
    · by_cases hc172 : v171 = (0 : Int32)
      · refine Go.st (U' := T169.setTop (mkF m 211 #[.val (.int p0), .val (.int p1), .val (.int p2), .val (.int p3), .val (.int p4), .val (.int p5), .val (.int (4 : Int32)), .val (.int v127), .val (.int v130), .val (.int v133), .val (.int v136), .val (.ref b162), .val (.int v171), .unset] [(.int (1 : Int32))])) (fun t k => ?_) ?_
        · show Steps p.tables e below (T169.setTop (mkF m 203 #[.val (.int p0), .val (.int p1), .val (.int p2), .val (.int p3), .val (.int p4), .val (.int p5), .val (.int (4 : Int32)), .val (.int v127), .val (.int v130), .val (.int v133), .val (.int v136), .val (.ref b162), .val (.int v171), .unset] [(.int v171)])) _
          refine XS.ifNo X169.here hx rfl (hb hby at_203) rfl ((if0 _ _).trans (teq hc172).2) ?_
          show Steps p.tables e below (T169.setTop (mkF m 206 #[.val (.int p0), .val (.int p1), .val (.int p2), .val (.int p3), .val (.int p4), .val (.int p5), .val (.int (4 : Int32)), .val (.int v127), .val (.int v130), .val (.int v133), .val (.int v136), .val (.ref b162), .val (.int v171), .unset] [])) _
          refine XS.iconst X169.here hx rfl (hb hby at_206) ?_
          show Steps p.tables e below (T169.setTop (mkF m 207 #[.val (.int p0), .val (.int p1), .val (.int p2), .val (.int p3), .val (.int p4), .val (.int p5), .val (.int (4 : Int32)), .val (.int v127), .val (.int v130), .val (.int v133), .val (.int v136), .val (.ref b162), .val (.int v171), .unset] [(.int (1 : Int32))])) _
          refine XS.goto X169.here hx rfl (pc0 := 207) (pc' := 211) rfl (hb hby at_207) (by decide) (by decide) ?_
          exact k
        exact J174 _ (by first | rfl | simp only [if_pos hc172])
      · refine Go.st (U' := T169.setTop (mkF m 211 #[.val (.int p0), .val (.int p1), .val (.int p2), .val (.int p3), .val (.int p4), .val (.int p5), .val (.int (4 : Int32)), .val (.int v127), .val (.int v130), .val (.int v133), .val (.int v136), .val (.ref b162), .val (.int v171), .unset] [(.int (0 : Int32))])) (fun t k => ?_) ?_
        · show Steps p.tables e below (T169.setTop (mkF m 203 #[.val (.int p0), .val (.int p1), .val (.int p2), .val (.int p3), .val (.int p4), .val (.int p5), .val (.int (4 : Int32)), .val (.int v127), .val (.int v130), .val (.int v133), .val (.int v136), .val (.ref b162), .val (.int v171), .unset] [(.int v171)])) _
          refine XS.ifYes X169.here hx rfl (pc0 := 203) (pc' := 210) rfl (hb hby at_203) rfl ((if0 _ _).trans (feq hc172).2) (by decide) (by decide) ?_
          show Steps p.tables e below (T169.setTop (mkF m 210 #[.val (.int p0), .val (.int p1), .val (.int p2), .val (.int p3), .val (.int p4), .val (.int p5), .val (.int (4 : Int32)), .val (.int v127), .val (.int v130), .val (.int v133), .val (.int v136), .val (.ref b162), .val (.int v171), .unset] [])) _
          refine XS.iconst X169.here hx rfl (hb hby at_210) ?_
          exact k
        exact J174 _ (by first | rfl | simp only [if_neg hc172])
    refine Go.st (U' := T169.setTop (mkF m 215 #[.val (.int p0), .val (.int p1), .val (.int p2), .val (.int p3), .val (.int p4), .val (.int p5), .val (.int (4 : Int32)), .val (.int v127), .val (.int v130), .val (.int v133), .val (.int v136), .val (.ref b162), .val (.int v171), .val (.int v173)] [(.ref b162)])) (fun t k => ?_) ?_
    · show Steps p.tables e below (T169.setTop (mkF m 211 #[.val (.int p0), .val (.int p1), .val (.int p2), .val (.int p3), .val (.int p4), .val (.int p5), .val (.int (4 : Int32)), .val (.int v127), .val (.int v130), .val (.int v133), .val (.int v136), .val (.ref b162), .val (.int v171), .unset] [(.int v173)])) _
      refine XS.istore X169.here hx rfl (hb hby at_211) rfl (l' := #[.val (.int p0), .val (.int p1), .val (.int p2), .val (.int p3), .val (.int p4), .val (.int p5), .val (.int (4 : Int32)), .val (.int v127), .val (.int v130), .val (.int v133), .val (.int v136), .val (.ref b162), .val (.int v171), .val (.int v173)]) rfl ?_
      show Steps p.tables e below (T169.setTop (mkF m 213 #[.val (.int p0), .val (.int p1), .val (.int p2), .val (.int p3), .val (.int p4), .val (.int p5), .val (.int (4 : Int32)), .val (.int v127), .val (.int v130), .val (.int v133), .val (.int v136), .val (.ref b162), .val (.int v171), .val (.int v173)] [])) _
      refine XS.aload X169.here hx rfl (hb hby at_213) rfl rfl ?_
      exact k
    obtain ⟨_, _, ⟨T175, L175, k175, n175⟩, -, X175, ⟨Lc175, hQ175, l175, y175, z175⟩, st175⟩ := Jvm.LawKit.callS X169 hx (y := own_y0) hown (mvT hZ (own_w hw 1 rfl)) (mvT hZ (own_w hw 2 rfl)) (mvT hZ (own_w hw 3 rfl)) (mvT hZ (own_w hw 4 rfl)) (by decide) (backOf (W := 0) (rm1_4 l Z a0 hw [] b162 k162 (v127.toInt8.toInt32) (v130.toInt8.toInt32) (v133.toInt8.toInt32) (v136.toInt8.toInt32) h169 n0 sz169 V_b162_169) hZ (own_w hw 4 rfl) (own_w hw 3 rfl) (by decide) (by decide)) (g := (mkF m 215 #[.val (.int p0), .val (.int p1), .val (.int p2), .val (.int p3), .val (.int p4), .val (.int p5), .val (.int (4 : Int32)), .val (.int v127), .val (.int v130), .val (.int v133), .val (.int v136), .val (.ref b162), .val (.int v171), .val (.int v173)] [(.ref b162)])) rfl (by rw [hml]; rfl) (argsL := [(.ref b162)]) (rest := []) (lenOf pd_0 rfl) rfl (by show 2 * 0 + _ ≤ _; exact Nat.le_of_eq rfl) (hb hby at_215) (fun _ _ => ⟨rfl, e169, (by decide : 1 + 0 ≤ _), (by decide : 4 + 0 ≤ _)⟩)
    dsimp only [Pt.U, Pt.locs, Pt.cells, Pt.slots] at X175 l175 y175 z175 st175 hQ175
    subst l175 y175 z175
    obtain ⟨rfl, N175q, e175⟩ := hQ175
    have N175 := Fr.app N169 N175q
    refine Go.st (U' := T175.setTop (mkF m 218 #[.val (.int p0), .val (.int p1), .val (.int p2), .val (.int p3), .val (.int p4), .val (.int p5), .val (.int (4 : Int32)), .val (.int v127), .val (.int v130), .val (.int v133), .val (.int v136), .val (.ref b162), .val (.int v171), .val (.int v173)] [(.int (g4 (v127.toInt8.toInt32) (v130.toInt8.toInt32) (v133.toInt8.toInt32) (v136.toInt8.toInt32)))])) (fun t k => st175 _ k) ?_
    refine Go.st (U' := T175.setTop (mkF m 228 #[.val (.int p0), .val (.int p1), .val (.int p2), .val (.int p3), .val (.int p4), .val (.int p5), .val (.int (4 : Int32)), .val (.int v127), .val (.int v130), .val (.int v133), .val (.int v136), .val (.ref b162), .val (.int v171), .val (.int v173)] [(.int (1 : Int32))])) (fun t k => ?_) ?_
    · show Steps p.tables e below (T175.setTop (mkF m 218 #[.val (.int p0), .val (.int p1), .val (.int p2), .val (.int p3), .val (.int p4), .val (.int p5), .val (.int (4 : Int32)), .val (.int v127), .val (.int v130), .val (.int v133), .val (.int v136), .val (.ref b162), .val (.int v171), .val (.int v173)] [(.int (g4 (v127.toInt8.toInt32) (v130.toInt8.toInt32) (v133.toInt8.toInt32) (v136.toInt8.toInt32)))])) _
      refine XS.iload X175.here hx rfl (hb hby at_218) rfl ?_
      show Steps p.tables e below (T175.setTop (mkF m 220 #[.val (.int p0), .val (.int p1), .val (.int p2), .val (.int p3), .val (.int p4), .val (.int p5), .val (.int (4 : Int32)), .val (.int v127), .val (.int v130), .val (.int v133), .val (.int v136), .val (.ref b162), .val (.int v171), .val (.int v173)] [(.int v173), (.int (g4 (v127.toInt8.toInt32) (v130.toInt8.toInt32) (v133.toInt8.toInt32) (v136.toInt8.toInt32)))])) _
      refine XS.icmpNo X175.here hx rfl (hb hby at_220) rfl (teq (own_law4 v127 v130 v133 v136 v171 v173 (own_bb (by decide) hv_v127) (own_bb (by decide) hv_v130) (own_bb (by decide) hv_v133) (own_bb (by decide) hv_v136) hv_v171 hv_v173 : (g4 (v127.toInt8.toInt32) (v130.toInt8.toInt32) (v133.toInt8.toInt32) (v136.toInt8.toInt32)) = v173)).2 ?_
      show Steps p.tables e below (T175.setTop (mkF m 223 #[.val (.int p0), .val (.int p1), .val (.int p2), .val (.int p3), .val (.int p4), .val (.int p5), .val (.int (4 : Int32)), .val (.int v127), .val (.int v130), .val (.int v133), .val (.int v136), .val (.ref b162), .val (.int v171), .val (.int v173)] [])) _
      refine XS.iconst X175.here hx rfl (hb hby at_223) ?_
      show Steps p.tables e below (T175.setTop (mkF m 224 #[.val (.int p0), .val (.int p1), .val (.int p2), .val (.int p3), .val (.int p4), .val (.int p5), .val (.int (4 : Int32)), .val (.int v127), .val (.int v130), .val (.int v133), .val (.int v136), .val (.ref b162), .val (.int v171), .val (.int v173)] [(.int (1 : Int32))])) _
      refine XS.goto X175.here hx rfl (pc0 := 224) (pc' := 228) rfl (hb hby at_224) (by decide) (by decide) ?_
      exact k
    refine own_ret (Q := Q0 Z p0 p1 p2 p3 p4 p5 h0 n0) (v := some (.int (1 : Int32))) X175 hlk (fun h => by rw [hrt] at h; cases h) (by decide) (by decide) ?_ (fun fs hr => retN X175 hx (t := .boolean) hrt (by simp) (hb hby at_228) hr)
    rw [e175]
    exact ⟨rfl, N175⟩
  · refine Go.st (U' := s₁.setTop (mkF m 71 #[.val (.int p0), .val (.int p1), .val (.int p2), .val (.int p3), .val (.int p4), .val (.int p5), .val (.int (5 : Int32)), .val (.int v127), .val (.int v130), .val (.int v133), .val (.int v136), .unset, .unset, .unset] [(.int (5 : Int32))])) (fun t k => ?_) ?_
    · show Steps p.tables e below (s₁.setTop (mkF m 69 #[.val (.int p0), .val (.int p1), .val (.int p2), .val (.int p3), .val (.int p4), .val (.int p5), .val (.int (5 : Int32)), .val (.int v127), .val (.int v130), .val (.int v133), .val (.int v136), .unset, .unset, .unset] [])) _
      refine XS.iload X0.here hx rfl (hb hby at_69) rfl ?_
      exact k
    obtain ⟨T176, h176, k176, X176, e176, E176, A176, st176⟩ := newP X0 hx hZ (own_w hw 0 rfl) e0 (g := (mkF m 71 #[.val (.int p0), .val (.int p1), .val (.int p2), .val (.int p3), .val (.int p4), .val (.int p5), .val (.int (5 : Int32)), .val (.int v127), .val (.int v130), .val (.int v133), .val (.int v136), .unset, .unset, .unset] [(.int (5 : Int32))])) rfl (hb hby at_71) rfl (by decide) (cap := 5) (by decide) (by decide) (by decide) (by decide)
    obtain ⟨b176, g176⟩ : ∃ z, z = h0.size := ⟨_, rfl⟩
    rw [← g176] at A176 st176
    have ge_b176 : n0 ≤ b176 := Nat.le_trans Z0 (Nat.le_of_eq g176.symm)
    have V_b176 : Arv Z h176 b176 k176 .byte (5 : Int32) [(.int (0 : Int32)), (.int (0 : Int32)), (.int (0 : Int32)), (.int (0 : Int32)), (.int (0 : Int32))] (.int (0 : Int32)) := (Arv.new A176 (by decide)).pad (pad_rep [] (.int (0 : Int32)) 5)
    have sz176 : n0 ≤ h176.size := Nat.le_trans Z0 E176.1
    refine Go.st (U' := T176.setTop (mkF m 73 #[.val (.int p0), .val (.int p1), .val (.int p2), .val (.int p3), .val (.int p4), .val (.int p5), .val (.int (5 : Int32)), .val (.int v127), .val (.int v130), .val (.int v133), .val (.int v136), .unset, .unset, .unset] [(.ref b176)])) (fun t k => st176 _ k) ?_
    refine Go.st (U' := T176.setTop (mkF m 85 #[.val (.int p0), .val (.int p1), .val (.int p2), .val (.int p3), .val (.int p4), .val (.int p5), .val (.int (5 : Int32)), .val (.int v127), .val (.int v130), .val (.int v133), .val (.int v136), .val (.ref b176), .unset, .unset] [(.int v127), (.int (0 : Int32)), (.ref b176)])) (fun t k => ?_) ?_
    · show Steps p.tables e below (T176.setTop (mkF m 73 #[.val (.int p0), .val (.int p1), .val (.int p2), .val (.int p3), .val (.int p4), .val (.int p5), .val (.int (5 : Int32)), .val (.int v127), .val (.int v130), .val (.int v133), .val (.int v136), .unset, .unset, .unset] [(.ref b176)])) _
      refine XS.astore X176.here hx rfl (hb hby at_73) rfl rfl (l' := #[.val (.int p0), .val (.int p1), .val (.int p2), .val (.int p3), .val (.int p4), .val (.int p5), .val (.int (5 : Int32)), .val (.int v127), .val (.int v130), .val (.int v133), .val (.int v136), .val (.ref b176), .unset, .unset]) rfl ?_
      show Steps p.tables e below (T176.setTop (mkF m 75 #[.val (.int p0), .val (.int p1), .val (.int p2), .val (.int p3), .val (.int p4), .val (.int p5), .val (.int (5 : Int32)), .val (.int v127), .val (.int v130), .val (.int v133), .val (.int v136), .val (.ref b176), .unset, .unset] [])) _
      refine XS.iload X176.here hx rfl (hb hby at_75) rfl ?_
      show Steps p.tables e below (T176.setTop (mkF m 77 #[.val (.int p0), .val (.int p1), .val (.int p2), .val (.int p3), .val (.int p4), .val (.int p5), .val (.int (5 : Int32)), .val (.int v127), .val (.int v130), .val (.int v133), .val (.int v136), .val (.ref b176), .unset, .unset] [(.int (5 : Int32))])) _
      refine XS.ifNo X176.here hx rfl (hb hby at_77) rfl ((if0 _ _).trans (tlt (by decide : (0 : Int32) < (5 : Int32))).2.2.2) ?_
      show Steps p.tables e below (T176.setTop (mkF m 80 #[.val (.int p0), .val (.int p1), .val (.int p2), .val (.int p3), .val (.int p4), .val (.int p5), .val (.int (5 : Int32)), .val (.int v127), .val (.int v130), .val (.int v133), .val (.int v136), .val (.ref b176), .unset, .unset] [])) _
      refine XS.aload X176.here hx rfl (hb hby at_80) rfl rfl ?_
      show Steps p.tables e below (T176.setTop (mkF m 82 #[.val (.int p0), .val (.int p1), .val (.int p2), .val (.int p3), .val (.int p4), .val (.int p5), .val (.int (5 : Int32)), .val (.int v127), .val (.int v130), .val (.int v133), .val (.int v136), .val (.ref b176), .unset, .unset] [(.ref b176)])) _
      refine XS.iconst X176.here hx rfl (hb hby at_82) ?_
      show Steps p.tables e below (T176.setTop (mkF m 83 #[.val (.int p0), .val (.int p1), .val (.int p2), .val (.int p3), .val (.int p4), .val (.int p5), .val (.int (5 : Int32)), .val (.int v127), .val (.int v130), .val (.int v133), .val (.int v136), .val (.ref b176), .unset, .unset] [(.int (0 : Int32)), (.ref b176)])) _
      refine XS.iload X176.here hx rfl (hb hby at_83) rfl ?_
      exact k
    obtain ⟨cl178, Ar178, q178, S178, N178, H178, G178⟩ := id V_b176
    obtain ⟨T177, h177, X177, e177, W177, st177⟩ := stB X176 hx hZ e176 Ar178 (j := (0 : Int32)) (inb_of (j := (0 : Int32)) S178 ⟨by decide, by decide⟩) (g := (mkF m 85 #[.val (.int p0), .val (.int p1), .val (.int p2), .val (.int p3), .val (.int p4), .val (.int p5), .val (.int (5 : Int32)), .val (.int v127), .val (.int v130), .val (.int v133), .val (.int v136), .val (.ref b176), .unset, .unset] [(.int v127), (.int (0 : Int32)), (.ref b176)])) rfl rfl (hb hby at_85)
    have V_b176_177 := Arv.set Ar178 q178 S178 N178 H178 G178 (fits_nar_byte _) W177 0 rfl (Nat.le_of_ble_eq_true rfl)
    have N177 := Fr.snoc X177 N0 ge_b176
    have sz177 : n0 ≤ h177.size := Nat.le_trans sz176 (Nat.le_of_eq W177.size.symm)
    refine Go.st (U' := T177.setTop (mkF m 86 #[.val (.int p0), .val (.int p1), .val (.int p2), .val (.int p3), .val (.int p4), .val (.int p5), .val (.int (5 : Int32)), .val (.int v127), .val (.int v130), .val (.int v133), .val (.int v136), .val (.ref b176), .unset, .unset] [])) (fun t k => st177 _ k) ?_
    refine Go.st (U' := T177.setTop (mkF m 97 #[.val (.int p0), .val (.int p1), .val (.int p2), .val (.int p3), .val (.int p4), .val (.int p5), .val (.int (5 : Int32)), .val (.int v127), .val (.int v130), .val (.int v133), .val (.int v136), .val (.ref b176), .unset, .unset] [(.int v130), (.int (1 : Int32)), (.ref b176)])) (fun t k => ?_) ?_
    · show Steps p.tables e below (T177.setTop (mkF m 86 #[.val (.int p0), .val (.int p1), .val (.int p2), .val (.int p3), .val (.int p4), .val (.int p5), .val (.int (5 : Int32)), .val (.int v127), .val (.int v130), .val (.int v133), .val (.int v136), .val (.ref b176), .unset, .unset] [])) _
      refine XS.iload X177.here hx rfl (hb hby at_86) rfl ?_
      show Steps p.tables e below (T177.setTop (mkF m 88 #[.val (.int p0), .val (.int p1), .val (.int p2), .val (.int p3), .val (.int p4), .val (.int p5), .val (.int (5 : Int32)), .val (.int v127), .val (.int v130), .val (.int v133), .val (.int v136), .val (.ref b176), .unset, .unset] [(.int (5 : Int32))])) _
      refine XS.iconst X177.here hx rfl (hb hby at_88) ?_
      show Steps p.tables e below (T177.setTop (mkF m 89 #[.val (.int p0), .val (.int p1), .val (.int p2), .val (.int p3), .val (.int p4), .val (.int p5), .val (.int (5 : Int32)), .val (.int v127), .val (.int v130), .val (.int v133), .val (.int v136), .val (.ref b176), .unset, .unset] [(.int (1 : Int32)), (.int (5 : Int32))])) _
      refine XS.icmpNo X177.here hx rfl (hb hby at_89) rfl (tlt (by decide : (1 : Int32) < (5 : Int32))).2.2.2 ?_
      show Steps p.tables e below (T177.setTop (mkF m 92 #[.val (.int p0), .val (.int p1), .val (.int p2), .val (.int p3), .val (.int p4), .val (.int p5), .val (.int (5 : Int32)), .val (.int v127), .val (.int v130), .val (.int v133), .val (.int v136), .val (.ref b176), .unset, .unset] [])) _
      refine XS.aload X177.here hx rfl (hb hby at_92) rfl rfl ?_
      show Steps p.tables e below (T177.setTop (mkF m 94 #[.val (.int p0), .val (.int p1), .val (.int p2), .val (.int p3), .val (.int p4), .val (.int p5), .val (.int (5 : Int32)), .val (.int v127), .val (.int v130), .val (.int v133), .val (.int v136), .val (.ref b176), .unset, .unset] [(.ref b176)])) _
      refine XS.iconst X177.here hx rfl (hb hby at_94) ?_
      show Steps p.tables e below (T177.setTop (mkF m 95 #[.val (.int p0), .val (.int p1), .val (.int p2), .val (.int p3), .val (.int p4), .val (.int p5), .val (.int (5 : Int32)), .val (.int v127), .val (.int v130), .val (.int v133), .val (.int v136), .val (.ref b176), .unset, .unset] [(.int (1 : Int32)), (.ref b176)])) _
      refine XS.iload X177.here hx rfl (hb hby at_95) rfl ?_
      exact k
    obtain ⟨cl180, Ar180, q180, S180, N180, H180, G180⟩ := id V_b176_177
    obtain ⟨T179, h179, X179, e179, W179, st179⟩ := stB X177 hx hZ e177 Ar180 (j := (1 : Int32)) (inb_of (j := (1 : Int32)) S180 ⟨by decide, by decide⟩) (g := (mkF m 97 #[.val (.int p0), .val (.int p1), .val (.int p2), .val (.int p3), .val (.int p4), .val (.int p5), .val (.int (5 : Int32)), .val (.int v127), .val (.int v130), .val (.int v133), .val (.int v136), .val (.ref b176), .unset, .unset] [(.int v130), (.int (1 : Int32)), (.ref b176)])) rfl rfl (hb hby at_97)
    have V_b176_179 := Arv.set Ar180 q180 S180 N180 H180 G180 (fits_nar_byte _) W179 1 rfl (Nat.le_of_ble_eq_true rfl)
    have N179 := Fr.snoc X179 N177 ge_b176
    have sz179 : n0 ≤ h179.size := Nat.le_trans sz177 (Nat.le_of_eq W179.size.symm)
    refine Go.st (U' := T179.setTop (mkF m 98 #[.val (.int p0), .val (.int p1), .val (.int p2), .val (.int p3), .val (.int p4), .val (.int p5), .val (.int (5 : Int32)), .val (.int v127), .val (.int v130), .val (.int v133), .val (.int v136), .val (.ref b176), .unset, .unset] [])) (fun t k => st179 _ k) ?_
    refine Go.st (U' := T179.setTop (mkF m 109 #[.val (.int p0), .val (.int p1), .val (.int p2), .val (.int p3), .val (.int p4), .val (.int p5), .val (.int (5 : Int32)), .val (.int v127), .val (.int v130), .val (.int v133), .val (.int v136), .val (.ref b176), .unset, .unset] [(.int v133), (.int (2 : Int32)), (.ref b176)])) (fun t k => ?_) ?_
    · show Steps p.tables e below (T179.setTop (mkF m 98 #[.val (.int p0), .val (.int p1), .val (.int p2), .val (.int p3), .val (.int p4), .val (.int p5), .val (.int (5 : Int32)), .val (.int v127), .val (.int v130), .val (.int v133), .val (.int v136), .val (.ref b176), .unset, .unset] [])) _
      refine XS.iload X179.here hx rfl (hb hby at_98) rfl ?_
      show Steps p.tables e below (T179.setTop (mkF m 100 #[.val (.int p0), .val (.int p1), .val (.int p2), .val (.int p3), .val (.int p4), .val (.int p5), .val (.int (5 : Int32)), .val (.int v127), .val (.int v130), .val (.int v133), .val (.int v136), .val (.ref b176), .unset, .unset] [(.int (5 : Int32))])) _
      refine XS.iconst X179.here hx rfl (hb hby at_100) ?_
      show Steps p.tables e below (T179.setTop (mkF m 101 #[.val (.int p0), .val (.int p1), .val (.int p2), .val (.int p3), .val (.int p4), .val (.int p5), .val (.int (5 : Int32)), .val (.int v127), .val (.int v130), .val (.int v133), .val (.int v136), .val (.ref b176), .unset, .unset] [(.int (2 : Int32)), (.int (5 : Int32))])) _
      refine XS.icmpNo X179.here hx rfl (hb hby at_101) rfl (tlt (by decide : (2 : Int32) < (5 : Int32))).2.2.2 ?_
      show Steps p.tables e below (T179.setTop (mkF m 104 #[.val (.int p0), .val (.int p1), .val (.int p2), .val (.int p3), .val (.int p4), .val (.int p5), .val (.int (5 : Int32)), .val (.int v127), .val (.int v130), .val (.int v133), .val (.int v136), .val (.ref b176), .unset, .unset] [])) _
      refine XS.aload X179.here hx rfl (hb hby at_104) rfl rfl ?_
      show Steps p.tables e below (T179.setTop (mkF m 106 #[.val (.int p0), .val (.int p1), .val (.int p2), .val (.int p3), .val (.int p4), .val (.int p5), .val (.int (5 : Int32)), .val (.int v127), .val (.int v130), .val (.int v133), .val (.int v136), .val (.ref b176), .unset, .unset] [(.ref b176)])) _
      refine XS.iconst X179.here hx rfl (hb hby at_106) ?_
      show Steps p.tables e below (T179.setTop (mkF m 107 #[.val (.int p0), .val (.int p1), .val (.int p2), .val (.int p3), .val (.int p4), .val (.int p5), .val (.int (5 : Int32)), .val (.int v127), .val (.int v130), .val (.int v133), .val (.int v136), .val (.ref b176), .unset, .unset] [(.int (2 : Int32)), (.ref b176)])) _
      refine XS.iload X179.here hx rfl (hb hby at_107) rfl ?_
      exact k
    obtain ⟨cl182, Ar182, q182, S182, N182, H182, G182⟩ := id V_b176_179
    obtain ⟨T181, h181, X181, e181, W181, st181⟩ := stB X179 hx hZ e179 Ar182 (j := (2 : Int32)) (inb_of (j := (2 : Int32)) S182 ⟨by decide, by decide⟩) (g := (mkF m 109 #[.val (.int p0), .val (.int p1), .val (.int p2), .val (.int p3), .val (.int p4), .val (.int p5), .val (.int (5 : Int32)), .val (.int v127), .val (.int v130), .val (.int v133), .val (.int v136), .val (.ref b176), .unset, .unset] [(.int v133), (.int (2 : Int32)), (.ref b176)])) rfl rfl (hb hby at_109)
    have V_b176_181 := Arv.set Ar182 q182 S182 N182 H182 G182 (fits_nar_byte _) W181 2 rfl (Nat.le_of_ble_eq_true rfl)
    have N181 := Fr.snoc X181 N179 ge_b176
    have sz181 : n0 ≤ h181.size := Nat.le_trans sz179 (Nat.le_of_eq W181.size.symm)
    refine Go.st (U' := T181.setTop (mkF m 110 #[.val (.int p0), .val (.int p1), .val (.int p2), .val (.int p3), .val (.int p4), .val (.int p5), .val (.int (5 : Int32)), .val (.int v127), .val (.int v130), .val (.int v133), .val (.int v136), .val (.ref b176), .unset, .unset] [])) (fun t k => st181 _ k) ?_
    refine Go.st (U' := T181.setTop (mkF m 121 #[.val (.int p0), .val (.int p1), .val (.int p2), .val (.int p3), .val (.int p4), .val (.int p5), .val (.int (5 : Int32)), .val (.int v127), .val (.int v130), .val (.int v133), .val (.int v136), .val (.ref b176), .unset, .unset] [(.int v136), (.int (3 : Int32)), (.ref b176)])) (fun t k => ?_) ?_
    · show Steps p.tables e below (T181.setTop (mkF m 110 #[.val (.int p0), .val (.int p1), .val (.int p2), .val (.int p3), .val (.int p4), .val (.int p5), .val (.int (5 : Int32)), .val (.int v127), .val (.int v130), .val (.int v133), .val (.int v136), .val (.ref b176), .unset, .unset] [])) _
      refine XS.iload X181.here hx rfl (hb hby at_110) rfl ?_
      show Steps p.tables e below (T181.setTop (mkF m 112 #[.val (.int p0), .val (.int p1), .val (.int p2), .val (.int p3), .val (.int p4), .val (.int p5), .val (.int (5 : Int32)), .val (.int v127), .val (.int v130), .val (.int v133), .val (.int v136), .val (.ref b176), .unset, .unset] [(.int (5 : Int32))])) _
      refine XS.iconst X181.here hx rfl (hb hby at_112) ?_
      show Steps p.tables e below (T181.setTop (mkF m 113 #[.val (.int p0), .val (.int p1), .val (.int p2), .val (.int p3), .val (.int p4), .val (.int p5), .val (.int (5 : Int32)), .val (.int v127), .val (.int v130), .val (.int v133), .val (.int v136), .val (.ref b176), .unset, .unset] [(.int (3 : Int32)), (.int (5 : Int32))])) _
      refine XS.icmpNo X181.here hx rfl (hb hby at_113) rfl (tlt (by decide : (3 : Int32) < (5 : Int32))).2.2.2 ?_
      show Steps p.tables e below (T181.setTop (mkF m 116 #[.val (.int p0), .val (.int p1), .val (.int p2), .val (.int p3), .val (.int p4), .val (.int p5), .val (.int (5 : Int32)), .val (.int v127), .val (.int v130), .val (.int v133), .val (.int v136), .val (.ref b176), .unset, .unset] [])) _
      refine XS.aload X181.here hx rfl (hb hby at_116) rfl rfl ?_
      show Steps p.tables e below (T181.setTop (mkF m 118 #[.val (.int p0), .val (.int p1), .val (.int p2), .val (.int p3), .val (.int p4), .val (.int p5), .val (.int (5 : Int32)), .val (.int v127), .val (.int v130), .val (.int v133), .val (.int v136), .val (.ref b176), .unset, .unset] [(.ref b176)])) _
      refine XS.iconst X181.here hx rfl (hb hby at_118) ?_
      show Steps p.tables e below (T181.setTop (mkF m 119 #[.val (.int p0), .val (.int p1), .val (.int p2), .val (.int p3), .val (.int p4), .val (.int p5), .val (.int (5 : Int32)), .val (.int v127), .val (.int v130), .val (.int v133), .val (.int v136), .val (.ref b176), .unset, .unset] [(.int (3 : Int32)), (.ref b176)])) _
      refine XS.iload X181.here hx rfl (hb hby at_119) rfl ?_
      exact k
    obtain ⟨cl184, Ar184, q184, S184, N184, H184, G184⟩ := id V_b176_181
    obtain ⟨T183, h183, X183, e183, W183, st183⟩ := stB X181 hx hZ e181 Ar184 (j := (3 : Int32)) (inb_of (j := (3 : Int32)) S184 ⟨by decide, by decide⟩) (g := (mkF m 121 #[.val (.int p0), .val (.int p1), .val (.int p2), .val (.int p3), .val (.int p4), .val (.int p5), .val (.int (5 : Int32)), .val (.int v127), .val (.int v130), .val (.int v133), .val (.int v136), .val (.ref b176), .unset, .unset] [(.int v136), (.int (3 : Int32)), (.ref b176)])) rfl rfl (hb hby at_121)
    have V_b176_183 := Arv.set Ar184 q184 S184 N184 H184 G184 (fits_nar_byte _) W183 3 rfl (Nat.le_of_ble_eq_true rfl)
    have N183 := Fr.snoc X183 N181 ge_b176
    have sz183 : n0 ≤ h183.size := Nat.le_trans sz181 (Nat.le_of_eq W183.size.symm)
    refine Go.st (U' := T183.setTop (mkF m 122 #[.val (.int p0), .val (.int p1), .val (.int p2), .val (.int p3), .val (.int p4), .val (.int p5), .val (.int (5 : Int32)), .val (.int v127), .val (.int v130), .val (.int v133), .val (.int v136), .val (.ref b176), .unset, .unset] [])) (fun t k => st183 _ k) ?_
    refine Go.st (U' := T183.setTop (mkF m 136 #[.val (.int p0), .val (.int p1), .val (.int p2), .val (.int p3), .val (.int p4), .val (.int p5), .val (.int (5 : Int32)), .val (.int v127), .val (.int v130), .val (.int v133), .val (.int v136), .val (.ref b176), .unset, .unset] [(.int (((p2.toUInt32 >>> ((8 : Int32) &&& 31).toUInt32).toInt32).toInt8.toInt32)), (.int (4 : Int32)), (.ref b176)])) (fun t k => ?_) ?_
    · show Steps p.tables e below (T183.setTop (mkF m 122 #[.val (.int p0), .val (.int p1), .val (.int p2), .val (.int p3), .val (.int p4), .val (.int p5), .val (.int (5 : Int32)), .val (.int v127), .val (.int v130), .val (.int v133), .val (.int v136), .val (.ref b176), .unset, .unset] [])) _
      refine XS.iload X183.here hx rfl (hb hby at_122) rfl ?_
      show Steps p.tables e below (T183.setTop (mkF m 124 #[.val (.int p0), .val (.int p1), .val (.int p2), .val (.int p3), .val (.int p4), .val (.int p5), .val (.int (5 : Int32)), .val (.int v127), .val (.int v130), .val (.int v133), .val (.int v136), .val (.ref b176), .unset, .unset] [(.int (5 : Int32))])) _
      refine XS.iconst X183.here hx rfl (hb hby at_124) ?_
      show Steps p.tables e below (T183.setTop (mkF m 125 #[.val (.int p0), .val (.int p1), .val (.int p2), .val (.int p3), .val (.int p4), .val (.int p5), .val (.int (5 : Int32)), .val (.int v127), .val (.int v130), .val (.int v133), .val (.int v136), .val (.ref b176), .unset, .unset] [(.int (4 : Int32)), (.int (5 : Int32))])) _
      refine XS.icmpNo X183.here hx rfl (hb hby at_125) rfl (tlt (by decide : (4 : Int32) < (5 : Int32))).2.2.2 ?_
      show Steps p.tables e below (T183.setTop (mkF m 128 #[.val (.int p0), .val (.int p1), .val (.int p2), .val (.int p3), .val (.int p4), .val (.int p5), .val (.int (5 : Int32)), .val (.int v127), .val (.int v130), .val (.int v133), .val (.int v136), .val (.ref b176), .unset, .unset] [])) _
      refine XS.aload X183.here hx rfl (hb hby at_128) rfl rfl ?_
      show Steps p.tables e below (T183.setTop (mkF m 130 #[.val (.int p0), .val (.int p1), .val (.int p2), .val (.int p3), .val (.int p4), .val (.int p5), .val (.int (5 : Int32)), .val (.int v127), .val (.int v130), .val (.int v133), .val (.int v136), .val (.ref b176), .unset, .unset] [(.ref b176)])) _
      refine XS.iconst X183.here hx rfl (hb hby at_130) ?_
      show Steps p.tables e below (T183.setTop (mkF m 131 #[.val (.int p0), .val (.int p1), .val (.int p2), .val (.int p3), .val (.int p4), .val (.int p5), .val (.int (5 : Int32)), .val (.int v127), .val (.int v130), .val (.int v133), .val (.int v136), .val (.ref b176), .unset, .unset] [(.int (4 : Int32)), (.ref b176)])) _
      refine XS.iloadN X183.here hx rfl (hb hby at_131) rfl ?_
      show Steps p.tables e below (T183.setTop (mkF m 132 #[.val (.int p0), .val (.int p1), .val (.int p2), .val (.int p3), .val (.int p4), .val (.int p5), .val (.int (5 : Int32)), .val (.int v127), .val (.int v130), .val (.int v133), .val (.int v136), .val (.ref b176), .unset, .unset] [(.int p2), (.int (4 : Int32)), (.ref b176)])) _
      refine XS.bipush X183.here hx rfl (hb hby at_132) ?_
      show Steps p.tables e below (T183.setTop (mkF m 134 #[.val (.int p0), .val (.int p1), .val (.int p2), .val (.int p3), .val (.int p4), .val (.int p5), .val (.int (5 : Int32)), .val (.int v127), .val (.int v130), .val (.int v133), .val (.int v136), .val (.ref b176), .unset, .unset] [(.int (8 : Int32)), (.int p2), (.int (4 : Int32)), (.ref b176)])) _
      refine XS.iushr X183.here hx rfl (hb hby at_134) rfl ?_
      show Steps p.tables e below (T183.setTop (mkF m 135 #[.val (.int p0), .val (.int p1), .val (.int p2), .val (.int p3), .val (.int p4), .val (.int p5), .val (.int (5 : Int32)), .val (.int v127), .val (.int v130), .val (.int v133), .val (.int v136), .val (.ref b176), .unset, .unset] [(.int ((p2.toUInt32 >>> ((8 : Int32) &&& 31).toUInt32).toInt32)), (.int (4 : Int32)), (.ref b176)])) _
      refine XS.i2b X183.here hx rfl (hb hby at_135) rfl ?_
      exact k
    obtain ⟨cl186, Ar186, q186, S186, N186, H186, G186⟩ := id V_b176_183
    obtain ⟨T185, h185, X185, e185, W185, st185⟩ := stB X183 hx hZ e183 Ar186 (j := (4 : Int32)) (inb_of (j := (4 : Int32)) S186 ⟨by decide, by decide⟩) (g := (mkF m 136 #[.val (.int p0), .val (.int p1), .val (.int p2), .val (.int p3), .val (.int p4), .val (.int p5), .val (.int (5 : Int32)), .val (.int v127), .val (.int v130), .val (.int v133), .val (.int v136), .val (.ref b176), .unset, .unset] [(.int (((p2.toUInt32 >>> ((8 : Int32) &&& 31).toUInt32).toInt32).toInt8.toInt32)), (.int (4 : Int32)), (.ref b176)])) rfl rfl (hb hby at_136)
    have V_b176_185 := Arv.set Ar186 q186 S186 N186 H186 G186 (fits_nar_byte _) W185 4 rfl (Nat.le_of_ble_eq_true rfl)
    have N185 := Fr.snoc X185 N183 ge_b176
    have sz185 : n0 ≤ h185.size := Nat.le_trans sz183 (Nat.le_of_eq W185.size.symm)
    refine Go.st (U' := T185.setTop (mkF m 137 #[.val (.int p0), .val (.int p1), .val (.int p2), .val (.int p3), .val (.int p4), .val (.int p5), .val (.int (5 : Int32)), .val (.int v127), .val (.int v130), .val (.int v133), .val (.int v136), .val (.ref b176), .unset, .unset] [])) (fun t k => st185 _ k) ?_
    refine Go.st (U' := T185.setTop (mkF m 195 #[.val (.int p0), .val (.int p1), .val (.int p2), .val (.int p3), .val (.int p4), .val (.int p5), .val (.int (5 : Int32)), .val (.int v127), .val (.int v130), .val (.int v133), .val (.int v136), .val (.ref b176), .val (.int ((((v127 ^^^ (71 : Int32)) ||| (v130 ^^^ (73 : Int32))) ||| (v133 ^^^ (79 : Int32))) ||| (v136 ^^^ (80 : Int32)))), .unset] [])) (fun t k => ?_) ?_
    · show Steps p.tables e below (T185.setTop (mkF m 137 #[.val (.int p0), .val (.int p1), .val (.int p2), .val (.int p3), .val (.int p4), .val (.int p5), .val (.int (5 : Int32)), .val (.int v127), .val (.int v130), .val (.int v133), .val (.int v136), .val (.ref b176), .unset, .unset] [])) _
      refine XS.iload X185.here hx rfl (hb hby at_137) rfl ?_
      show Steps p.tables e below (T185.setTop (mkF m 139 #[.val (.int p0), .val (.int p1), .val (.int p2), .val (.int p3), .val (.int p4), .val (.int p5), .val (.int (5 : Int32)), .val (.int v127), .val (.int v130), .val (.int v133), .val (.int v136), .val (.ref b176), .unset, .unset] [(.int (5 : Int32))])) _
      refine XS.iconst X185.here hx rfl (hb hby at_139) ?_
      show Steps p.tables e below (T185.setTop (mkF m 140 #[.val (.int p0), .val (.int p1), .val (.int p2), .val (.int p3), .val (.int p4), .val (.int p5), .val (.int (5 : Int32)), .val (.int v127), .val (.int v130), .val (.int v133), .val (.int v136), .val (.ref b176), .unset, .unset] [(.int (5 : Int32)), (.int (5 : Int32))])) _
      refine XS.icmpYes X185.here hx rfl (pc0 := 140) (pc' := 152) rfl (hb hby at_140) rfl (flt (by decide : ¬ ((5 : Int32) < (5 : Int32)))).2.2.2 (by decide) (by decide) ?_
      show Steps p.tables e below (T185.setTop (mkF m 152 #[.val (.int p0), .val (.int p1), .val (.int p2), .val (.int p3), .val (.int p4), .val (.int p5), .val (.int (5 : Int32)), .val (.int v127), .val (.int v130), .val (.int v133), .val (.int v136), .val (.ref b176), .unset, .unset] [])) _
      refine XS.iload X185.here hx rfl (hb hby at_152) rfl ?_
      show Steps p.tables e below (T185.setTop (mkF m 154 #[.val (.int p0), .val (.int p1), .val (.int p2), .val (.int p3), .val (.int p4), .val (.int p5), .val (.int (5 : Int32)), .val (.int v127), .val (.int v130), .val (.int v133), .val (.int v136), .val (.ref b176), .unset, .unset] [(.int (5 : Int32))])) _
      refine XS.bipush X185.here hx rfl (hb hby at_154) ?_
      show Steps p.tables e below (T185.setTop (mkF m 156 #[.val (.int p0), .val (.int p1), .val (.int p2), .val (.int p3), .val (.int p4), .val (.int p5), .val (.int (5 : Int32)), .val (.int v127), .val (.int v130), .val (.int v133), .val (.int v136), .val (.ref b176), .unset, .unset] [(.int (6 : Int32)), (.int (5 : Int32))])) _
      refine XS.icmpYes X185.here hx rfl (pc0 := 156) (pc' := 170) rfl (hb hby at_156) rfl (flt (by decide : ¬ ((6 : Int32) < (5 : Int32)))).2.2.2 (by decide) (by decide) ?_
      show Steps p.tables e below (T185.setTop (mkF m 170 #[.val (.int p0), .val (.int p1), .val (.int p2), .val (.int p3), .val (.int p4), .val (.int p5), .val (.int (5 : Int32)), .val (.int v127), .val (.int v130), .val (.int v133), .val (.int v136), .val (.ref b176), .unset, .unset] [])) _
      refine XS.iload X185.here hx rfl (hb hby at_170) rfl ?_
      show Steps p.tables e below (T185.setTop (mkF m 172 #[.val (.int p0), .val (.int p1), .val (.int p2), .val (.int p3), .val (.int p4), .val (.int p5), .val (.int (5 : Int32)), .val (.int v127), .val (.int v130), .val (.int v133), .val (.int v136), .val (.ref b176), .unset, .unset] [(.int v127)])) _
      refine XS.bipush X185.here hx rfl (hb hby at_172) ?_
      show Steps p.tables e below (T185.setTop (mkF m 174 #[.val (.int p0), .val (.int p1), .val (.int p2), .val (.int p3), .val (.int p4), .val (.int p5), .val (.int (5 : Int32)), .val (.int v127), .val (.int v130), .val (.int v133), .val (.int v136), .val (.ref b176), .unset, .unset] [(.int (71 : Int32)), (.int v127)])) _
      refine XS.ixor X185.here hx rfl (hb hby at_174) rfl ?_
      show Steps p.tables e below (T185.setTop (mkF m 175 #[.val (.int p0), .val (.int p1), .val (.int p2), .val (.int p3), .val (.int p4), .val (.int p5), .val (.int (5 : Int32)), .val (.int v127), .val (.int v130), .val (.int v133), .val (.int v136), .val (.ref b176), .unset, .unset] [(.int (v127 ^^^ (71 : Int32)))])) _
      refine XS.iload X185.here hx rfl (hb hby at_175) rfl ?_
      show Steps p.tables e below (T185.setTop (mkF m 177 #[.val (.int p0), .val (.int p1), .val (.int p2), .val (.int p3), .val (.int p4), .val (.int p5), .val (.int (5 : Int32)), .val (.int v127), .val (.int v130), .val (.int v133), .val (.int v136), .val (.ref b176), .unset, .unset] [(.int v130), (.int (v127 ^^^ (71 : Int32)))])) _
      refine XS.bipush X185.here hx rfl (hb hby at_177) ?_
      show Steps p.tables e below (T185.setTop (mkF m 179 #[.val (.int p0), .val (.int p1), .val (.int p2), .val (.int p3), .val (.int p4), .val (.int p5), .val (.int (5 : Int32)), .val (.int v127), .val (.int v130), .val (.int v133), .val (.int v136), .val (.ref b176), .unset, .unset] [(.int (73 : Int32)), (.int v130), (.int (v127 ^^^ (71 : Int32)))])) _
      refine XS.ixor X185.here hx rfl (hb hby at_179) rfl ?_
      show Steps p.tables e below (T185.setTop (mkF m 180 #[.val (.int p0), .val (.int p1), .val (.int p2), .val (.int p3), .val (.int p4), .val (.int p5), .val (.int (5 : Int32)), .val (.int v127), .val (.int v130), .val (.int v133), .val (.int v136), .val (.ref b176), .unset, .unset] [(.int (v130 ^^^ (73 : Int32))), (.int (v127 ^^^ (71 : Int32)))])) _
      refine XS.ior X185.here hx rfl (hb hby at_180) rfl ?_
      show Steps p.tables e below (T185.setTop (mkF m 181 #[.val (.int p0), .val (.int p1), .val (.int p2), .val (.int p3), .val (.int p4), .val (.int p5), .val (.int (5 : Int32)), .val (.int v127), .val (.int v130), .val (.int v133), .val (.int v136), .val (.ref b176), .unset, .unset] [(.int ((v127 ^^^ (71 : Int32)) ||| (v130 ^^^ (73 : Int32))))])) _
      refine XS.iload X185.here hx rfl (hb hby at_181) rfl ?_
      show Steps p.tables e below (T185.setTop (mkF m 183 #[.val (.int p0), .val (.int p1), .val (.int p2), .val (.int p3), .val (.int p4), .val (.int p5), .val (.int (5 : Int32)), .val (.int v127), .val (.int v130), .val (.int v133), .val (.int v136), .val (.ref b176), .unset, .unset] [(.int v133), (.int ((v127 ^^^ (71 : Int32)) ||| (v130 ^^^ (73 : Int32))))])) _
      refine XS.bipush X185.here hx rfl (hb hby at_183) ?_
      show Steps p.tables e below (T185.setTop (mkF m 185 #[.val (.int p0), .val (.int p1), .val (.int p2), .val (.int p3), .val (.int p4), .val (.int p5), .val (.int (5 : Int32)), .val (.int v127), .val (.int v130), .val (.int v133), .val (.int v136), .val (.ref b176), .unset, .unset] [(.int (79 : Int32)), (.int v133), (.int ((v127 ^^^ (71 : Int32)) ||| (v130 ^^^ (73 : Int32))))])) _
      refine XS.ixor X185.here hx rfl (hb hby at_185) rfl ?_
      show Steps p.tables e below (T185.setTop (mkF m 186 #[.val (.int p0), .val (.int p1), .val (.int p2), .val (.int p3), .val (.int p4), .val (.int p5), .val (.int (5 : Int32)), .val (.int v127), .val (.int v130), .val (.int v133), .val (.int v136), .val (.ref b176), .unset, .unset] [(.int (v133 ^^^ (79 : Int32))), (.int ((v127 ^^^ (71 : Int32)) ||| (v130 ^^^ (73 : Int32))))])) _
      refine XS.ior X185.here hx rfl (hb hby at_186) rfl ?_
      show Steps p.tables e below (T185.setTop (mkF m 187 #[.val (.int p0), .val (.int p1), .val (.int p2), .val (.int p3), .val (.int p4), .val (.int p5), .val (.int (5 : Int32)), .val (.int v127), .val (.int v130), .val (.int v133), .val (.int v136), .val (.ref b176), .unset, .unset] [(.int (((v127 ^^^ (71 : Int32)) ||| (v130 ^^^ (73 : Int32))) ||| (v133 ^^^ (79 : Int32))))])) _
      refine XS.iload X185.here hx rfl (hb hby at_187) rfl ?_
      show Steps p.tables e below (T185.setTop (mkF m 189 #[.val (.int p0), .val (.int p1), .val (.int p2), .val (.int p3), .val (.int p4), .val (.int p5), .val (.int (5 : Int32)), .val (.int v127), .val (.int v130), .val (.int v133), .val (.int v136), .val (.ref b176), .unset, .unset] [(.int v136), (.int (((v127 ^^^ (71 : Int32)) ||| (v130 ^^^ (73 : Int32))) ||| (v133 ^^^ (79 : Int32))))])) _
      refine XS.bipush X185.here hx rfl (hb hby at_189) ?_
      show Steps p.tables e below (T185.setTop (mkF m 191 #[.val (.int p0), .val (.int p1), .val (.int p2), .val (.int p3), .val (.int p4), .val (.int p5), .val (.int (5 : Int32)), .val (.int v127), .val (.int v130), .val (.int v133), .val (.int v136), .val (.ref b176), .unset, .unset] [(.int (80 : Int32)), (.int v136), (.int (((v127 ^^^ (71 : Int32)) ||| (v130 ^^^ (73 : Int32))) ||| (v133 ^^^ (79 : Int32))))])) _
      refine XS.ixor X185.here hx rfl (hb hby at_191) rfl ?_
      show Steps p.tables e below (T185.setTop (mkF m 192 #[.val (.int p0), .val (.int p1), .val (.int p2), .val (.int p3), .val (.int p4), .val (.int p5), .val (.int (5 : Int32)), .val (.int v127), .val (.int v130), .val (.int v133), .val (.int v136), .val (.ref b176), .unset, .unset] [(.int (v136 ^^^ (80 : Int32))), (.int (((v127 ^^^ (71 : Int32)) ||| (v130 ^^^ (73 : Int32))) ||| (v133 ^^^ (79 : Int32))))])) _
      refine XS.ior X185.here hx rfl (hb hby at_192) rfl ?_
      show Steps p.tables e below (T185.setTop (mkF m 193 #[.val (.int p0), .val (.int p1), .val (.int p2), .val (.int p3), .val (.int p4), .val (.int p5), .val (.int (5 : Int32)), .val (.int v127), .val (.int v130), .val (.int v133), .val (.int v136), .val (.ref b176), .unset, .unset] [(.int ((((v127 ^^^ (71 : Int32)) ||| (v130 ^^^ (73 : Int32))) ||| (v133 ^^^ (79 : Int32))) ||| (v136 ^^^ (80 : Int32))))])) _
      refine XS.istore X185.here hx rfl (hb hby at_193) rfl (l' := #[.val (.int p0), .val (.int p1), .val (.int p2), .val (.int p3), .val (.int p4), .val (.int p5), .val (.int (5 : Int32)), .val (.int v127), .val (.int v130), .val (.int v133), .val (.int v136), .val (.ref b176), .val (.int ((((v127 ^^^ (71 : Int32)) ||| (v130 ^^^ (73 : Int32))) ||| (v133 ^^^ (79 : Int32))) ||| (v136 ^^^ (80 : Int32)))), .unset]) rfl ?_
      exact k
    generalize hv_v187 : ((((v127 ^^^ (71 : Int32)) ||| (v130 ^^^ (73 : Int32))) ||| (v133 ^^^ (79 : Int32))) ||| (v136 ^^^ (80 : Int32))) = v187
    refine Go.st (U' := T185.setTop (mkF m 203 #[.val (.int p0), .val (.int p1), .val (.int p2), .val (.int p3), .val (.int p4), .val (.int p5), .val (.int (5 : Int32)), .val (.int v127), .val (.int v130), .val (.int v133), .val (.int v136), .val (.ref b176), .val (.int v187), .unset] [(.int v187)])) (fun t k => ?_) ?_
    · show Steps p.tables e below (T185.setTop (mkF m 195 #[.val (.int p0), .val (.int p1), .val (.int p2), .val (.int p3), .val (.int p4), .val (.int p5), .val (.int (5 : Int32)), .val (.int v127), .val (.int v130), .val (.int v133), .val (.int v136), .val (.ref b176), .val (.int v187), .unset] [])) _
      refine XS.iload X185.here hx rfl (hb hby at_195) rfl ?_
      show Steps p.tables e below (T185.setTop (mkF m 197 #[.val (.int p0), .val (.int p1), .val (.int p2), .val (.int p3), .val (.int p4), .val (.int p5), .val (.int (5 : Int32)), .val (.int v127), .val (.int v130), .val (.int v133), .val (.int v136), .val (.ref b176), .val (.int v187), .unset] [(.int (5 : Int32))])) _
      refine XS.iconst X185.here hx rfl (hb hby at_197) ?_
      show Steps p.tables e below (T185.setTop (mkF m 198 #[.val (.int p0), .val (.int p1), .val (.int p2), .val (.int p3), .val (.int p4), .val (.int p5), .val (.int (5 : Int32)), .val (.int v127), .val (.int v130), .val (.int v133), .val (.int v136), .val (.ref b176), .val (.int v187), .unset] [(.int (4 : Int32)), (.int (5 : Int32))])) _
      refine XS.icmpNo X185.here hx rfl (hb hby at_198) rfl (flt (by decide : ¬ ((5 : Int32) < (4 : Int32)))).1 ?_
      show Steps p.tables e below (T185.setTop (mkF m 201 #[.val (.int p0), .val (.int p1), .val (.int p2), .val (.int p3), .val (.int p4), .val (.int p5), .val (.int (5 : Int32)), .val (.int v127), .val (.int v130), .val (.int v133), .val (.int v136), .val (.ref b176), .val (.int v187), .unset] [])) _
      refine XS.iload X185.here hx rfl (hb hby at_201) rfl ?_
      exact k
    refine Go.join (P := fun (v189 : Int32) => v189 = (if v187 = (0 : Int32) then (1 : Int32) else (0 : Int32))) (F := fun (v189 : Int32) => T185.setTop (mkF m 211 #[.val (.int p0), .val (.int p1), .val (.int p2), .val (.int p3), .val (.int p4), .val (.int p5), .val (.int (5 : Int32)), .val (.int v127), .val (.int v130), .val (.int v133), .val (.int v136), .val (.ref b176), .val (.int v187), .unset] [(.int v189)])) (fun J190 => ?_) (fun v189 hv_v189 => ?_)
    · by_cases hc188 : v187 = (0 : Int32)
      · refine Go.st (U' := T185.setTop (mkF m 211 #[.val (.int p0), .val (.int p1), .val (.int p2), .val (.int p3), .val (.int p4), .val (.int p5), .val (.int (5 : Int32)), .val (.int v127), .val (.int v130), .val (.int v133), .val (.int v136), .val (.ref b176), .val (.int v187), .unset] [(.int (1 : Int32))])) (fun t k => ?_) ?_
        · show Steps p.tables e below (T185.setTop (mkF m 203 #[.val (.int p0), .val (.int p1), .val (.int p2), .val (.int p3), .val (.int p4), .val (.int p5), .val (.int (5 : Int32)), .val (.int v127), .val (.int v130), .val (.int v133), .val (.int v136), .val (.ref b176), .val (.int v187), .unset] [(.int v187)])) _
          refine XS.ifNo X185.here hx rfl (hb hby at_203) rfl ((if0 _ _).trans (teq hc188).2) ?_
          show Steps p.tables e below (T185.setTop (mkF m 206 #[.val (.int p0), .val (.int p1), .val (.int p2), .val (.int p3), .val (.int p4), .val (.int p5), .val (.int (5 : Int32)), .val (.int v127), .val (.int v130), .val (.int v133), .val (.int v136), .val (.ref b176), .val (.int v187), .unset] [])) _
          refine XS.iconst X185.here hx rfl (hb hby at_206) ?_
          show Steps p.tables e below (T185.setTop (mkF m 207 #[.val (.int p0), .val (.int p1), .val (.int p2), .val (.int p3), .val (.int p4), .val (.int p5), .val (.int (5 : Int32)), .val (.int v127), .val (.int v130), .val (.int v133), .val (.int v136), .val (.ref b176), .val (.int v187), .unset] [(.int (1 : Int32))])) _
          refine XS.goto X185.here hx rfl (pc0 := 207) (pc' := 211) rfl (hb hby at_207) (by decide) (by decide) ?_
          exact k
        exact J190 _ (by first | rfl | simp only [if_pos hc188])
      · refine Go.st (U' := T185.setTop (mkF m 211 #[.val (.int p0), .val (.int p1), .val (.int p2), .val (.int p3), .val (.int p4), .val (.int p5), .val (.int (5 : Int32)), .val (.int v127), .val (.int v130), .val (.int v133), .val (.int v136), .val (.ref b176), .val (.int v187), .unset] [(.int (0 : Int32))])) (fun t k => ?_) ?_
        · show Steps p.tables e below (T185.setTop (mkF m 203 #[.val (.int p0), .val (.int p1), .val (.int p2), .val (.int p3), .val (.int p4), .val (.int p5), .val (.int (5 : Int32)), .val (.int v127), .val (.int v130), .val (.int v133), .val (.int v136), .val (.ref b176), .val (.int v187), .unset] [(.int v187)])) _
          refine XS.ifYes X185.here hx rfl (pc0 := 203) (pc' := 210) rfl (hb hby at_203) rfl ((if0 _ _).trans (feq hc188).2) (by decide) (by decide) ?_
          show Steps p.tables e below (T185.setTop (mkF m 210 #[.val (.int p0), .val (.int p1), .val (.int p2), .val (.int p3), .val (.int p4), .val (.int p5), .val (.int (5 : Int32)), .val (.int v127), .val (.int v130), .val (.int v133), .val (.int v136), .val (.ref b176), .val (.int v187), .unset] [])) _
          refine XS.iconst X185.here hx rfl (hb hby at_210) ?_
          exact k
        exact J190 _ (by first | rfl | simp only [if_neg hc188])
    refine Go.st (U' := T185.setTop (mkF m 215 #[.val (.int p0), .val (.int p1), .val (.int p2), .val (.int p3), .val (.int p4), .val (.int p5), .val (.int (5 : Int32)), .val (.int v127), .val (.int v130), .val (.int v133), .val (.int v136), .val (.ref b176), .val (.int v187), .val (.int v189)] [(.ref b176)])) (fun t k => ?_) ?_
    · show Steps p.tables e below (T185.setTop (mkF m 211 #[.val (.int p0), .val (.int p1), .val (.int p2), .val (.int p3), .val (.int p4), .val (.int p5), .val (.int (5 : Int32)), .val (.int v127), .val (.int v130), .val (.int v133), .val (.int v136), .val (.ref b176), .val (.int v187), .unset] [(.int v189)])) _
      refine XS.istore X185.here hx rfl (hb hby at_211) rfl (l' := #[.val (.int p0), .val (.int p1), .val (.int p2), .val (.int p3), .val (.int p4), .val (.int p5), .val (.int (5 : Int32)), .val (.int v127), .val (.int v130), .val (.int v133), .val (.int v136), .val (.ref b176), .val (.int v187), .val (.int v189)]) rfl ?_
      show Steps p.tables e below (T185.setTop (mkF m 213 #[.val (.int p0), .val (.int p1), .val (.int p2), .val (.int p3), .val (.int p4), .val (.int p5), .val (.int (5 : Int32)), .val (.int v127), .val (.int v130), .val (.int v133), .val (.int v136), .val (.ref b176), .val (.int v187), .val (.int v189)] [])) _
      refine XS.aload X185.here hx rfl (hb hby at_213) rfl rfl ?_
      exact k
    obtain ⟨_, _, ⟨T191, L191, k191, n191⟩, -, X191, ⟨Lc191, hQ191, l191, y191, z191⟩, st191⟩ := Jvm.LawKit.callS X185 hx (y := own_y0) hown (mvT hZ (own_w hw 1 rfl)) (mvT hZ (own_w hw 2 rfl)) (mvT hZ (own_w hw 3 rfl)) (mvT hZ (own_w hw 4 rfl)) (by decide) (backOf (W := 0) (rm1_5 l Z a0 hw [] b176 k176 (v127.toInt8.toInt32) (v130.toInt8.toInt32) (v133.toInt8.toInt32) (v136.toInt8.toInt32) ((((p2.toUInt32 >>> ((8 : Int32) &&& 31).toUInt32).toInt32).toInt8.toInt32).toInt8.toInt32) h185 n0 sz185 V_b176_185) hZ (own_w hw 4 rfl) (own_w hw 3 rfl) (by decide) (by decide)) (g := (mkF m 215 #[.val (.int p0), .val (.int p1), .val (.int p2), .val (.int p3), .val (.int p4), .val (.int p5), .val (.int (5 : Int32)), .val (.int v127), .val (.int v130), .val (.int v133), .val (.int v136), .val (.ref b176), .val (.int v187), .val (.int v189)] [(.ref b176)])) rfl (by rw [hml]; rfl) (argsL := [(.ref b176)]) (rest := []) (lenOf pd_0 rfl) rfl (by show 2 * 0 + _ ≤ _; exact Nat.le_of_eq rfl) (hb hby at_215) (fun _ _ => ⟨rfl, e185, (by decide : 1 + 0 ≤ _), (by decide : 5 + 0 ≤ _)⟩)
    dsimp only [Pt.U, Pt.locs, Pt.cells, Pt.slots] at X191 l191 y191 z191 st191 hQ191
    subst l191 y191 z191
    obtain ⟨rfl, N191q, e191⟩ := hQ191
    have N191 := Fr.app N185 N191q
    refine Go.st (U' := T191.setTop (mkF m 218 #[.val (.int p0), .val (.int p1), .val (.int p2), .val (.int p3), .val (.int p4), .val (.int p5), .val (.int (5 : Int32)), .val (.int v127), .val (.int v130), .val (.int v133), .val (.int v136), .val (.ref b176), .val (.int v187), .val (.int v189)] [(.int (g5 (v127.toInt8.toInt32) (v130.toInt8.toInt32) (v133.toInt8.toInt32) (v136.toInt8.toInt32)))])) (fun t k => st191 _ k) ?_
    refine Go.st (U' := T191.setTop (mkF m 228 #[.val (.int p0), .val (.int p1), .val (.int p2), .val (.int p3), .val (.int p4), .val (.int p5), .val (.int (5 : Int32)), .val (.int v127), .val (.int v130), .val (.int v133), .val (.int v136), .val (.ref b176), .val (.int v187), .val (.int v189)] [(.int (1 : Int32))])) (fun t k => ?_) ?_
    · show Steps p.tables e below (T191.setTop (mkF m 218 #[.val (.int p0), .val (.int p1), .val (.int p2), .val (.int p3), .val (.int p4), .val (.int p5), .val (.int (5 : Int32)), .val (.int v127), .val (.int v130), .val (.int v133), .val (.int v136), .val (.ref b176), .val (.int v187), .val (.int v189)] [(.int (g5 (v127.toInt8.toInt32) (v130.toInt8.toInt32) (v133.toInt8.toInt32) (v136.toInt8.toInt32)))])) _
      refine XS.iload X191.here hx rfl (hb hby at_218) rfl ?_
      show Steps p.tables e below (T191.setTop (mkF m 220 #[.val (.int p0), .val (.int p1), .val (.int p2), .val (.int p3), .val (.int p4), .val (.int p5), .val (.int (5 : Int32)), .val (.int v127), .val (.int v130), .val (.int v133), .val (.int v136), .val (.ref b176), .val (.int v187), .val (.int v189)] [(.int v189), (.int (g5 (v127.toInt8.toInt32) (v130.toInt8.toInt32) (v133.toInt8.toInt32) (v136.toInt8.toInt32)))])) _
      refine XS.icmpNo X191.here hx rfl (hb hby at_220) rfl (teq (own_law5 v127 v130 v133 v136 v187 v189 (own_bb (by decide) hv_v127) (own_bb (by decide) hv_v130) (own_bb (by decide) hv_v133) (own_bb (by decide) hv_v136) hv_v187 hv_v189 : (g5 (v127.toInt8.toInt32) (v130.toInt8.toInt32) (v133.toInt8.toInt32) (v136.toInt8.toInt32)) = v189)).2 ?_
      show Steps p.tables e below (T191.setTop (mkF m 223 #[.val (.int p0), .val (.int p1), .val (.int p2), .val (.int p3), .val (.int p4), .val (.int p5), .val (.int (5 : Int32)), .val (.int v127), .val (.int v130), .val (.int v133), .val (.int v136), .val (.ref b176), .val (.int v187), .val (.int v189)] [])) _
      refine XS.iconst X191.here hx rfl (hb hby at_223) ?_
      show Steps p.tables e below (T191.setTop (mkF m 224 #[.val (.int p0), .val (.int p1), .val (.int p2), .val (.int p3), .val (.int p4), .val (.int p5), .val (.int (5 : Int32)), .val (.int v127), .val (.int v130), .val (.int v133), .val (.int v136), .val (.ref b176), .val (.int v187), .val (.int v189)] [(.int (1 : Int32))])) _
      refine XS.goto X191.here hx rfl (pc0 := 224) (pc' := 228) rfl (hb hby at_224) (by decide) (by decide) ?_
      exact k
    refine own_ret (Q := Q0 Z p0 p1 p2 p3 p4 p5 h0 n0) (v := some (.int (1 : Int32))) X191 hlk (fun h => by rw [hrt] at h; cases h) (by decide) (by decide) ?_ (fun fs hr => retN X191 hx (t := .boolean) hrt (by simp) (hb hby at_228) hr)
    rw [e191]
    exact ⟨rfl, N191⟩
  · refine Go.st (U' := s₁.setTop (mkF m 71 #[.val (.int p0), .val (.int p1), .val (.int p2), .val (.int p3), .val (.int p4), .val (.int p5), .val (.int (6 : Int32)), .val (.int v127), .val (.int v130), .val (.int v133), .val (.int v136), .unset, .unset, .unset] [(.int (6 : Int32))])) (fun t k => ?_) ?_
    · show Steps p.tables e below (s₁.setTop (mkF m 69 #[.val (.int p0), .val (.int p1), .val (.int p2), .val (.int p3), .val (.int p4), .val (.int p5), .val (.int (6 : Int32)), .val (.int v127), .val (.int v130), .val (.int v133), .val (.int v136), .unset, .unset, .unset] [])) _
      refine XS.iload X0.here hx rfl (hb hby at_69) rfl ?_
      exact k
    obtain ⟨T192, h192, k192, X192, e192, E192, A192, st192⟩ := newP X0 hx hZ (own_w hw 0 rfl) e0 (g := (mkF m 71 #[.val (.int p0), .val (.int p1), .val (.int p2), .val (.int p3), .val (.int p4), .val (.int p5), .val (.int (6 : Int32)), .val (.int v127), .val (.int v130), .val (.int v133), .val (.int v136), .unset, .unset, .unset] [(.int (6 : Int32))])) rfl (hb hby at_71) rfl (by decide) (cap := 6) (by decide) (by decide) (by decide) (by decide)
    obtain ⟨b192, g192⟩ : ∃ z, z = h0.size := ⟨_, rfl⟩
    rw [← g192] at A192 st192
    have ge_b192 : n0 ≤ b192 := Nat.le_trans Z0 (Nat.le_of_eq g192.symm)
    have V_b192 : Arv Z h192 b192 k192 .byte (6 : Int32) [(.int (0 : Int32)), (.int (0 : Int32)), (.int (0 : Int32)), (.int (0 : Int32)), (.int (0 : Int32)), (.int (0 : Int32))] (.int (0 : Int32)) := (Arv.new A192 (by decide)).pad (pad_rep [] (.int (0 : Int32)) 6)
    have sz192 : n0 ≤ h192.size := Nat.le_trans Z0 E192.1
    refine Go.st (U' := T192.setTop (mkF m 73 #[.val (.int p0), .val (.int p1), .val (.int p2), .val (.int p3), .val (.int p4), .val (.int p5), .val (.int (6 : Int32)), .val (.int v127), .val (.int v130), .val (.int v133), .val (.int v136), .unset, .unset, .unset] [(.ref b192)])) (fun t k => st192 _ k) ?_
    refine Go.st (U' := T192.setTop (mkF m 85 #[.val (.int p0), .val (.int p1), .val (.int p2), .val (.int p3), .val (.int p4), .val (.int p5), .val (.int (6 : Int32)), .val (.int v127), .val (.int v130), .val (.int v133), .val (.int v136), .val (.ref b192), .unset, .unset] [(.int v127), (.int (0 : Int32)), (.ref b192)])) (fun t k => ?_) ?_
    · show Steps p.tables e below (T192.setTop (mkF m 73 #[.val (.int p0), .val (.int p1), .val (.int p2), .val (.int p3), .val (.int p4), .val (.int p5), .val (.int (6 : Int32)), .val (.int v127), .val (.int v130), .val (.int v133), .val (.int v136), .unset, .unset, .unset] [(.ref b192)])) _
      refine XS.astore X192.here hx rfl (hb hby at_73) rfl rfl (l' := #[.val (.int p0), .val (.int p1), .val (.int p2), .val (.int p3), .val (.int p4), .val (.int p5), .val (.int (6 : Int32)), .val (.int v127), .val (.int v130), .val (.int v133), .val (.int v136), .val (.ref b192), .unset, .unset]) rfl ?_
      show Steps p.tables e below (T192.setTop (mkF m 75 #[.val (.int p0), .val (.int p1), .val (.int p2), .val (.int p3), .val (.int p4), .val (.int p5), .val (.int (6 : Int32)), .val (.int v127), .val (.int v130), .val (.int v133), .val (.int v136), .val (.ref b192), .unset, .unset] [])) _
      refine XS.iload X192.here hx rfl (hb hby at_75) rfl ?_
      show Steps p.tables e below (T192.setTop (mkF m 77 #[.val (.int p0), .val (.int p1), .val (.int p2), .val (.int p3), .val (.int p4), .val (.int p5), .val (.int (6 : Int32)), .val (.int v127), .val (.int v130), .val (.int v133), .val (.int v136), .val (.ref b192), .unset, .unset] [(.int (6 : Int32))])) _
      refine XS.ifNo X192.here hx rfl (hb hby at_77) rfl ((if0 _ _).trans (tlt (by decide : (0 : Int32) < (6 : Int32))).2.2.2) ?_
      show Steps p.tables e below (T192.setTop (mkF m 80 #[.val (.int p0), .val (.int p1), .val (.int p2), .val (.int p3), .val (.int p4), .val (.int p5), .val (.int (6 : Int32)), .val (.int v127), .val (.int v130), .val (.int v133), .val (.int v136), .val (.ref b192), .unset, .unset] [])) _
      refine XS.aload X192.here hx rfl (hb hby at_80) rfl rfl ?_
      show Steps p.tables e below (T192.setTop (mkF m 82 #[.val (.int p0), .val (.int p1), .val (.int p2), .val (.int p3), .val (.int p4), .val (.int p5), .val (.int (6 : Int32)), .val (.int v127), .val (.int v130), .val (.int v133), .val (.int v136), .val (.ref b192), .unset, .unset] [(.ref b192)])) _
      refine XS.iconst X192.here hx rfl (hb hby at_82) ?_
      show Steps p.tables e below (T192.setTop (mkF m 83 #[.val (.int p0), .val (.int p1), .val (.int p2), .val (.int p3), .val (.int p4), .val (.int p5), .val (.int (6 : Int32)), .val (.int v127), .val (.int v130), .val (.int v133), .val (.int v136), .val (.ref b192), .unset, .unset] [(.int (0 : Int32)), (.ref b192)])) _
      refine XS.iload X192.here hx rfl (hb hby at_83) rfl ?_
      exact k
    obtain ⟨cl194, Ar194, q194, S194, N194, H194, G194⟩ := id V_b192
    obtain ⟨T193, h193, X193, e193, W193, st193⟩ := stB X192 hx hZ e192 Ar194 (j := (0 : Int32)) (inb_of (j := (0 : Int32)) S194 ⟨by decide, by decide⟩) (g := (mkF m 85 #[.val (.int p0), .val (.int p1), .val (.int p2), .val (.int p3), .val (.int p4), .val (.int p5), .val (.int (6 : Int32)), .val (.int v127), .val (.int v130), .val (.int v133), .val (.int v136), .val (.ref b192), .unset, .unset] [(.int v127), (.int (0 : Int32)), (.ref b192)])) rfl rfl (hb hby at_85)
    have V_b192_193 := Arv.set Ar194 q194 S194 N194 H194 G194 (fits_nar_byte _) W193 0 rfl (Nat.le_of_ble_eq_true rfl)
    have N193 := Fr.snoc X193 N0 ge_b192
    have sz193 : n0 ≤ h193.size := Nat.le_trans sz192 (Nat.le_of_eq W193.size.symm)
    refine Go.st (U' := T193.setTop (mkF m 86 #[.val (.int p0), .val (.int p1), .val (.int p2), .val (.int p3), .val (.int p4), .val (.int p5), .val (.int (6 : Int32)), .val (.int v127), .val (.int v130), .val (.int v133), .val (.int v136), .val (.ref b192), .unset, .unset] [])) (fun t k => st193 _ k) ?_
    refine Go.st (U' := T193.setTop (mkF m 97 #[.val (.int p0), .val (.int p1), .val (.int p2), .val (.int p3), .val (.int p4), .val (.int p5), .val (.int (6 : Int32)), .val (.int v127), .val (.int v130), .val (.int v133), .val (.int v136), .val (.ref b192), .unset, .unset] [(.int v130), (.int (1 : Int32)), (.ref b192)])) (fun t k => ?_) ?_
    · show Steps p.tables e below (T193.setTop (mkF m 86 #[.val (.int p0), .val (.int p1), .val (.int p2), .val (.int p3), .val (.int p4), .val (.int p5), .val (.int (6 : Int32)), .val (.int v127), .val (.int v130), .val (.int v133), .val (.int v136), .val (.ref b192), .unset, .unset] [])) _
      refine XS.iload X193.here hx rfl (hb hby at_86) rfl ?_
      show Steps p.tables e below (T193.setTop (mkF m 88 #[.val (.int p0), .val (.int p1), .val (.int p2), .val (.int p3), .val (.int p4), .val (.int p5), .val (.int (6 : Int32)), .val (.int v127), .val (.int v130), .val (.int v133), .val (.int v136), .val (.ref b192), .unset, .unset] [(.int (6 : Int32))])) _
      refine XS.iconst X193.here hx rfl (hb hby at_88) ?_
      show Steps p.tables e below (T193.setTop (mkF m 89 #[.val (.int p0), .val (.int p1), .val (.int p2), .val (.int p3), .val (.int p4), .val (.int p5), .val (.int (6 : Int32)), .val (.int v127), .val (.int v130), .val (.int v133), .val (.int v136), .val (.ref b192), .unset, .unset] [(.int (1 : Int32)), (.int (6 : Int32))])) _
      refine XS.icmpNo X193.here hx rfl (hb hby at_89) rfl (tlt (by decide : (1 : Int32) < (6 : Int32))).2.2.2 ?_
      show Steps p.tables e below (T193.setTop (mkF m 92 #[.val (.int p0), .val (.int p1), .val (.int p2), .val (.int p3), .val (.int p4), .val (.int p5), .val (.int (6 : Int32)), .val (.int v127), .val (.int v130), .val (.int v133), .val (.int v136), .val (.ref b192), .unset, .unset] [])) _
      refine XS.aload X193.here hx rfl (hb hby at_92) rfl rfl ?_
      show Steps p.tables e below (T193.setTop (mkF m 94 #[.val (.int p0), .val (.int p1), .val (.int p2), .val (.int p3), .val (.int p4), .val (.int p5), .val (.int (6 : Int32)), .val (.int v127), .val (.int v130), .val (.int v133), .val (.int v136), .val (.ref b192), .unset, .unset] [(.ref b192)])) _
      refine XS.iconst X193.here hx rfl (hb hby at_94) ?_
      show Steps p.tables e below (T193.setTop (mkF m 95 #[.val (.int p0), .val (.int p1), .val (.int p2), .val (.int p3), .val (.int p4), .val (.int p5), .val (.int (6 : Int32)), .val (.int v127), .val (.int v130), .val (.int v133), .val (.int v136), .val (.ref b192), .unset, .unset] [(.int (1 : Int32)), (.ref b192)])) _
      refine XS.iload X193.here hx rfl (hb hby at_95) rfl ?_
      exact k
    obtain ⟨cl196, Ar196, q196, S196, N196, H196, G196⟩ := id V_b192_193
    obtain ⟨T195, h195, X195, e195, W195, st195⟩ := stB X193 hx hZ e193 Ar196 (j := (1 : Int32)) (inb_of (j := (1 : Int32)) S196 ⟨by decide, by decide⟩) (g := (mkF m 97 #[.val (.int p0), .val (.int p1), .val (.int p2), .val (.int p3), .val (.int p4), .val (.int p5), .val (.int (6 : Int32)), .val (.int v127), .val (.int v130), .val (.int v133), .val (.int v136), .val (.ref b192), .unset, .unset] [(.int v130), (.int (1 : Int32)), (.ref b192)])) rfl rfl (hb hby at_97)
    have V_b192_195 := Arv.set Ar196 q196 S196 N196 H196 G196 (fits_nar_byte _) W195 1 rfl (Nat.le_of_ble_eq_true rfl)
    have N195 := Fr.snoc X195 N193 ge_b192
    have sz195 : n0 ≤ h195.size := Nat.le_trans sz193 (Nat.le_of_eq W195.size.symm)
    refine Go.st (U' := T195.setTop (mkF m 98 #[.val (.int p0), .val (.int p1), .val (.int p2), .val (.int p3), .val (.int p4), .val (.int p5), .val (.int (6 : Int32)), .val (.int v127), .val (.int v130), .val (.int v133), .val (.int v136), .val (.ref b192), .unset, .unset] [])) (fun t k => st195 _ k) ?_
    refine Go.st (U' := T195.setTop (mkF m 109 #[.val (.int p0), .val (.int p1), .val (.int p2), .val (.int p3), .val (.int p4), .val (.int p5), .val (.int (6 : Int32)), .val (.int v127), .val (.int v130), .val (.int v133), .val (.int v136), .val (.ref b192), .unset, .unset] [(.int v133), (.int (2 : Int32)), (.ref b192)])) (fun t k => ?_) ?_
    · show Steps p.tables e below (T195.setTop (mkF m 98 #[.val (.int p0), .val (.int p1), .val (.int p2), .val (.int p3), .val (.int p4), .val (.int p5), .val (.int (6 : Int32)), .val (.int v127), .val (.int v130), .val (.int v133), .val (.int v136), .val (.ref b192), .unset, .unset] [])) _
      refine XS.iload X195.here hx rfl (hb hby at_98) rfl ?_
      show Steps p.tables e below (T195.setTop (mkF m 100 #[.val (.int p0), .val (.int p1), .val (.int p2), .val (.int p3), .val (.int p4), .val (.int p5), .val (.int (6 : Int32)), .val (.int v127), .val (.int v130), .val (.int v133), .val (.int v136), .val (.ref b192), .unset, .unset] [(.int (6 : Int32))])) _
      refine XS.iconst X195.here hx rfl (hb hby at_100) ?_
      show Steps p.tables e below (T195.setTop (mkF m 101 #[.val (.int p0), .val (.int p1), .val (.int p2), .val (.int p3), .val (.int p4), .val (.int p5), .val (.int (6 : Int32)), .val (.int v127), .val (.int v130), .val (.int v133), .val (.int v136), .val (.ref b192), .unset, .unset] [(.int (2 : Int32)), (.int (6 : Int32))])) _
      refine XS.icmpNo X195.here hx rfl (hb hby at_101) rfl (tlt (by decide : (2 : Int32) < (6 : Int32))).2.2.2 ?_
      show Steps p.tables e below (T195.setTop (mkF m 104 #[.val (.int p0), .val (.int p1), .val (.int p2), .val (.int p3), .val (.int p4), .val (.int p5), .val (.int (6 : Int32)), .val (.int v127), .val (.int v130), .val (.int v133), .val (.int v136), .val (.ref b192), .unset, .unset] [])) _
      refine XS.aload X195.here hx rfl (hb hby at_104) rfl rfl ?_
      show Steps p.tables e below (T195.setTop (mkF m 106 #[.val (.int p0), .val (.int p1), .val (.int p2), .val (.int p3), .val (.int p4), .val (.int p5), .val (.int (6 : Int32)), .val (.int v127), .val (.int v130), .val (.int v133), .val (.int v136), .val (.ref b192), .unset, .unset] [(.ref b192)])) _
      refine XS.iconst X195.here hx rfl (hb hby at_106) ?_
      show Steps p.tables e below (T195.setTop (mkF m 107 #[.val (.int p0), .val (.int p1), .val (.int p2), .val (.int p3), .val (.int p4), .val (.int p5), .val (.int (6 : Int32)), .val (.int v127), .val (.int v130), .val (.int v133), .val (.int v136), .val (.ref b192), .unset, .unset] [(.int (2 : Int32)), (.ref b192)])) _
      refine XS.iload X195.here hx rfl (hb hby at_107) rfl ?_
      exact k
    obtain ⟨cl198, Ar198, q198, S198, N198, H198, G198⟩ := id V_b192_195
    obtain ⟨T197, h197, X197, e197, W197, st197⟩ := stB X195 hx hZ e195 Ar198 (j := (2 : Int32)) (inb_of (j := (2 : Int32)) S198 ⟨by decide, by decide⟩) (g := (mkF m 109 #[.val (.int p0), .val (.int p1), .val (.int p2), .val (.int p3), .val (.int p4), .val (.int p5), .val (.int (6 : Int32)), .val (.int v127), .val (.int v130), .val (.int v133), .val (.int v136), .val (.ref b192), .unset, .unset] [(.int v133), (.int (2 : Int32)), (.ref b192)])) rfl rfl (hb hby at_109)
    have V_b192_197 := Arv.set Ar198 q198 S198 N198 H198 G198 (fits_nar_byte _) W197 2 rfl (Nat.le_of_ble_eq_true rfl)
    have N197 := Fr.snoc X197 N195 ge_b192
    have sz197 : n0 ≤ h197.size := Nat.le_trans sz195 (Nat.le_of_eq W197.size.symm)
    refine Go.st (U' := T197.setTop (mkF m 110 #[.val (.int p0), .val (.int p1), .val (.int p2), .val (.int p3), .val (.int p4), .val (.int p5), .val (.int (6 : Int32)), .val (.int v127), .val (.int v130), .val (.int v133), .val (.int v136), .val (.ref b192), .unset, .unset] [])) (fun t k => st197 _ k) ?_
    refine Go.st (U' := T197.setTop (mkF m 121 #[.val (.int p0), .val (.int p1), .val (.int p2), .val (.int p3), .val (.int p4), .val (.int p5), .val (.int (6 : Int32)), .val (.int v127), .val (.int v130), .val (.int v133), .val (.int v136), .val (.ref b192), .unset, .unset] [(.int v136), (.int (3 : Int32)), (.ref b192)])) (fun t k => ?_) ?_
    · show Steps p.tables e below (T197.setTop (mkF m 110 #[.val (.int p0), .val (.int p1), .val (.int p2), .val (.int p3), .val (.int p4), .val (.int p5), .val (.int (6 : Int32)), .val (.int v127), .val (.int v130), .val (.int v133), .val (.int v136), .val (.ref b192), .unset, .unset] [])) _
      refine XS.iload X197.here hx rfl (hb hby at_110) rfl ?_
      show Steps p.tables e below (T197.setTop (mkF m 112 #[.val (.int p0), .val (.int p1), .val (.int p2), .val (.int p3), .val (.int p4), .val (.int p5), .val (.int (6 : Int32)), .val (.int v127), .val (.int v130), .val (.int v133), .val (.int v136), .val (.ref b192), .unset, .unset] [(.int (6 : Int32))])) _
      refine XS.iconst X197.here hx rfl (hb hby at_112) ?_
      show Steps p.tables e below (T197.setTop (mkF m 113 #[.val (.int p0), .val (.int p1), .val (.int p2), .val (.int p3), .val (.int p4), .val (.int p5), .val (.int (6 : Int32)), .val (.int v127), .val (.int v130), .val (.int v133), .val (.int v136), .val (.ref b192), .unset, .unset] [(.int (3 : Int32)), (.int (6 : Int32))])) _
      refine XS.icmpNo X197.here hx rfl (hb hby at_113) rfl (tlt (by decide : (3 : Int32) < (6 : Int32))).2.2.2 ?_
      show Steps p.tables e below (T197.setTop (mkF m 116 #[.val (.int p0), .val (.int p1), .val (.int p2), .val (.int p3), .val (.int p4), .val (.int p5), .val (.int (6 : Int32)), .val (.int v127), .val (.int v130), .val (.int v133), .val (.int v136), .val (.ref b192), .unset, .unset] [])) _
      refine XS.aload X197.here hx rfl (hb hby at_116) rfl rfl ?_
      show Steps p.tables e below (T197.setTop (mkF m 118 #[.val (.int p0), .val (.int p1), .val (.int p2), .val (.int p3), .val (.int p4), .val (.int p5), .val (.int (6 : Int32)), .val (.int v127), .val (.int v130), .val (.int v133), .val (.int v136), .val (.ref b192), .unset, .unset] [(.ref b192)])) _
      refine XS.iconst X197.here hx rfl (hb hby at_118) ?_
      show Steps p.tables e below (T197.setTop (mkF m 119 #[.val (.int p0), .val (.int p1), .val (.int p2), .val (.int p3), .val (.int p4), .val (.int p5), .val (.int (6 : Int32)), .val (.int v127), .val (.int v130), .val (.int v133), .val (.int v136), .val (.ref b192), .unset, .unset] [(.int (3 : Int32)), (.ref b192)])) _
      refine XS.iload X197.here hx rfl (hb hby at_119) rfl ?_
      exact k
    obtain ⟨cl200, Ar200, q200, S200, N200, H200, G200⟩ := id V_b192_197
    obtain ⟨T199, h199, X199, e199, W199, st199⟩ := stB X197 hx hZ e197 Ar200 (j := (3 : Int32)) (inb_of (j := (3 : Int32)) S200 ⟨by decide, by decide⟩) (g := (mkF m 121 #[.val (.int p0), .val (.int p1), .val (.int p2), .val (.int p3), .val (.int p4), .val (.int p5), .val (.int (6 : Int32)), .val (.int v127), .val (.int v130), .val (.int v133), .val (.int v136), .val (.ref b192), .unset, .unset] [(.int v136), (.int (3 : Int32)), (.ref b192)])) rfl rfl (hb hby at_121)
    have V_b192_199 := Arv.set Ar200 q200 S200 N200 H200 G200 (fits_nar_byte _) W199 3 rfl (Nat.le_of_ble_eq_true rfl)
    have N199 := Fr.snoc X199 N197 ge_b192
    have sz199 : n0 ≤ h199.size := Nat.le_trans sz197 (Nat.le_of_eq W199.size.symm)
    refine Go.st (U' := T199.setTop (mkF m 122 #[.val (.int p0), .val (.int p1), .val (.int p2), .val (.int p3), .val (.int p4), .val (.int p5), .val (.int (6 : Int32)), .val (.int v127), .val (.int v130), .val (.int v133), .val (.int v136), .val (.ref b192), .unset, .unset] [])) (fun t k => st199 _ k) ?_
    refine Go.st (U' := T199.setTop (mkF m 136 #[.val (.int p0), .val (.int p1), .val (.int p2), .val (.int p3), .val (.int p4), .val (.int p5), .val (.int (6 : Int32)), .val (.int v127), .val (.int v130), .val (.int v133), .val (.int v136), .val (.ref b192), .unset, .unset] [(.int (((p2.toUInt32 >>> ((8 : Int32) &&& 31).toUInt32).toInt32).toInt8.toInt32)), (.int (4 : Int32)), (.ref b192)])) (fun t k => ?_) ?_
    · show Steps p.tables e below (T199.setTop (mkF m 122 #[.val (.int p0), .val (.int p1), .val (.int p2), .val (.int p3), .val (.int p4), .val (.int p5), .val (.int (6 : Int32)), .val (.int v127), .val (.int v130), .val (.int v133), .val (.int v136), .val (.ref b192), .unset, .unset] [])) _
      refine XS.iload X199.here hx rfl (hb hby at_122) rfl ?_
      show Steps p.tables e below (T199.setTop (mkF m 124 #[.val (.int p0), .val (.int p1), .val (.int p2), .val (.int p3), .val (.int p4), .val (.int p5), .val (.int (6 : Int32)), .val (.int v127), .val (.int v130), .val (.int v133), .val (.int v136), .val (.ref b192), .unset, .unset] [(.int (6 : Int32))])) _
      refine XS.iconst X199.here hx rfl (hb hby at_124) ?_
      show Steps p.tables e below (T199.setTop (mkF m 125 #[.val (.int p0), .val (.int p1), .val (.int p2), .val (.int p3), .val (.int p4), .val (.int p5), .val (.int (6 : Int32)), .val (.int v127), .val (.int v130), .val (.int v133), .val (.int v136), .val (.ref b192), .unset, .unset] [(.int (4 : Int32)), (.int (6 : Int32))])) _
      refine XS.icmpNo X199.here hx rfl (hb hby at_125) rfl (tlt (by decide : (4 : Int32) < (6 : Int32))).2.2.2 ?_
      show Steps p.tables e below (T199.setTop (mkF m 128 #[.val (.int p0), .val (.int p1), .val (.int p2), .val (.int p3), .val (.int p4), .val (.int p5), .val (.int (6 : Int32)), .val (.int v127), .val (.int v130), .val (.int v133), .val (.int v136), .val (.ref b192), .unset, .unset] [])) _
      refine XS.aload X199.here hx rfl (hb hby at_128) rfl rfl ?_
      show Steps p.tables e below (T199.setTop (mkF m 130 #[.val (.int p0), .val (.int p1), .val (.int p2), .val (.int p3), .val (.int p4), .val (.int p5), .val (.int (6 : Int32)), .val (.int v127), .val (.int v130), .val (.int v133), .val (.int v136), .val (.ref b192), .unset, .unset] [(.ref b192)])) _
      refine XS.iconst X199.here hx rfl (hb hby at_130) ?_
      show Steps p.tables e below (T199.setTop (mkF m 131 #[.val (.int p0), .val (.int p1), .val (.int p2), .val (.int p3), .val (.int p4), .val (.int p5), .val (.int (6 : Int32)), .val (.int v127), .val (.int v130), .val (.int v133), .val (.int v136), .val (.ref b192), .unset, .unset] [(.int (4 : Int32)), (.ref b192)])) _
      refine XS.iloadN X199.here hx rfl (hb hby at_131) rfl ?_
      show Steps p.tables e below (T199.setTop (mkF m 132 #[.val (.int p0), .val (.int p1), .val (.int p2), .val (.int p3), .val (.int p4), .val (.int p5), .val (.int (6 : Int32)), .val (.int v127), .val (.int v130), .val (.int v133), .val (.int v136), .val (.ref b192), .unset, .unset] [(.int p2), (.int (4 : Int32)), (.ref b192)])) _
      refine XS.bipush X199.here hx rfl (hb hby at_132) ?_
      show Steps p.tables e below (T199.setTop (mkF m 134 #[.val (.int p0), .val (.int p1), .val (.int p2), .val (.int p3), .val (.int p4), .val (.int p5), .val (.int (6 : Int32)), .val (.int v127), .val (.int v130), .val (.int v133), .val (.int v136), .val (.ref b192), .unset, .unset] [(.int (8 : Int32)), (.int p2), (.int (4 : Int32)), (.ref b192)])) _
      refine XS.iushr X199.here hx rfl (hb hby at_134) rfl ?_
      show Steps p.tables e below (T199.setTop (mkF m 135 #[.val (.int p0), .val (.int p1), .val (.int p2), .val (.int p3), .val (.int p4), .val (.int p5), .val (.int (6 : Int32)), .val (.int v127), .val (.int v130), .val (.int v133), .val (.int v136), .val (.ref b192), .unset, .unset] [(.int ((p2.toUInt32 >>> ((8 : Int32) &&& 31).toUInt32).toInt32)), (.int (4 : Int32)), (.ref b192)])) _
      refine XS.i2b X199.here hx rfl (hb hby at_135) rfl ?_
      exact k
    obtain ⟨cl202, Ar202, q202, S202, N202, H202, G202⟩ := id V_b192_199
    obtain ⟨T201, h201, X201, e201, W201, st201⟩ := stB X199 hx hZ e199 Ar202 (j := (4 : Int32)) (inb_of (j := (4 : Int32)) S202 ⟨by decide, by decide⟩) (g := (mkF m 136 #[.val (.int p0), .val (.int p1), .val (.int p2), .val (.int p3), .val (.int p4), .val (.int p5), .val (.int (6 : Int32)), .val (.int v127), .val (.int v130), .val (.int v133), .val (.int v136), .val (.ref b192), .unset, .unset] [(.int (((p2.toUInt32 >>> ((8 : Int32) &&& 31).toUInt32).toInt32).toInt8.toInt32)), (.int (4 : Int32)), (.ref b192)])) rfl rfl (hb hby at_136)
    have V_b192_201 := Arv.set Ar202 q202 S202 N202 H202 G202 (fits_nar_byte _) W201 4 rfl (Nat.le_of_ble_eq_true rfl)
    have N201 := Fr.snoc X201 N199 ge_b192
    have sz201 : n0 ≤ h201.size := Nat.le_trans sz199 (Nat.le_of_eq W201.size.symm)
    refine Go.st (U' := T201.setTop (mkF m 137 #[.val (.int p0), .val (.int p1), .val (.int p2), .val (.int p3), .val (.int p4), .val (.int p5), .val (.int (6 : Int32)), .val (.int v127), .val (.int v130), .val (.int v133), .val (.int v136), .val (.ref b192), .unset, .unset] [])) (fun t k => st201 _ k) ?_
    refine Go.st (U' := T201.setTop (mkF m 151 #[.val (.int p0), .val (.int p1), .val (.int p2), .val (.int p3), .val (.int p4), .val (.int p5), .val (.int (6 : Int32)), .val (.int v127), .val (.int v130), .val (.int v133), .val (.int v136), .val (.ref b192), .unset, .unset] [(.int (((p3.toUInt32 >>> ((8 : Int32) &&& 31).toUInt32).toInt32).toInt8.toInt32)), (.int (5 : Int32)), (.ref b192)])) (fun t k => ?_) ?_
    · show Steps p.tables e below (T201.setTop (mkF m 137 #[.val (.int p0), .val (.int p1), .val (.int p2), .val (.int p3), .val (.int p4), .val (.int p5), .val (.int (6 : Int32)), .val (.int v127), .val (.int v130), .val (.int v133), .val (.int v136), .val (.ref b192), .unset, .unset] [])) _
      refine XS.iload X201.here hx rfl (hb hby at_137) rfl ?_
      show Steps p.tables e below (T201.setTop (mkF m 139 #[.val (.int p0), .val (.int p1), .val (.int p2), .val (.int p3), .val (.int p4), .val (.int p5), .val (.int (6 : Int32)), .val (.int v127), .val (.int v130), .val (.int v133), .val (.int v136), .val (.ref b192), .unset, .unset] [(.int (6 : Int32))])) _
      refine XS.iconst X201.here hx rfl (hb hby at_139) ?_
      show Steps p.tables e below (T201.setTop (mkF m 140 #[.val (.int p0), .val (.int p1), .val (.int p2), .val (.int p3), .val (.int p4), .val (.int p5), .val (.int (6 : Int32)), .val (.int v127), .val (.int v130), .val (.int v133), .val (.int v136), .val (.ref b192), .unset, .unset] [(.int (5 : Int32)), (.int (6 : Int32))])) _
      refine XS.icmpNo X201.here hx rfl (hb hby at_140) rfl (tlt (by decide : (5 : Int32) < (6 : Int32))).2.2.2 ?_
      show Steps p.tables e below (T201.setTop (mkF m 143 #[.val (.int p0), .val (.int p1), .val (.int p2), .val (.int p3), .val (.int p4), .val (.int p5), .val (.int (6 : Int32)), .val (.int v127), .val (.int v130), .val (.int v133), .val (.int v136), .val (.ref b192), .unset, .unset] [])) _
      refine XS.aload X201.here hx rfl (hb hby at_143) rfl rfl ?_
      show Steps p.tables e below (T201.setTop (mkF m 145 #[.val (.int p0), .val (.int p1), .val (.int p2), .val (.int p3), .val (.int p4), .val (.int p5), .val (.int (6 : Int32)), .val (.int v127), .val (.int v130), .val (.int v133), .val (.int v136), .val (.ref b192), .unset, .unset] [(.ref b192)])) _
      refine XS.iconst X201.here hx rfl (hb hby at_145) ?_
      show Steps p.tables e below (T201.setTop (mkF m 146 #[.val (.int p0), .val (.int p1), .val (.int p2), .val (.int p3), .val (.int p4), .val (.int p5), .val (.int (6 : Int32)), .val (.int v127), .val (.int v130), .val (.int v133), .val (.int v136), .val (.ref b192), .unset, .unset] [(.int (5 : Int32)), (.ref b192)])) _
      refine XS.iloadN X201.here hx rfl (hb hby at_146) rfl ?_
      show Steps p.tables e below (T201.setTop (mkF m 147 #[.val (.int p0), .val (.int p1), .val (.int p2), .val (.int p3), .val (.int p4), .val (.int p5), .val (.int (6 : Int32)), .val (.int v127), .val (.int v130), .val (.int v133), .val (.int v136), .val (.ref b192), .unset, .unset] [(.int p3), (.int (5 : Int32)), (.ref b192)])) _
      refine XS.bipush X201.here hx rfl (hb hby at_147) ?_
      show Steps p.tables e below (T201.setTop (mkF m 149 #[.val (.int p0), .val (.int p1), .val (.int p2), .val (.int p3), .val (.int p4), .val (.int p5), .val (.int (6 : Int32)), .val (.int v127), .val (.int v130), .val (.int v133), .val (.int v136), .val (.ref b192), .unset, .unset] [(.int (8 : Int32)), (.int p3), (.int (5 : Int32)), (.ref b192)])) _
      refine XS.iushr X201.here hx rfl (hb hby at_149) rfl ?_
      show Steps p.tables e below (T201.setTop (mkF m 150 #[.val (.int p0), .val (.int p1), .val (.int p2), .val (.int p3), .val (.int p4), .val (.int p5), .val (.int (6 : Int32)), .val (.int v127), .val (.int v130), .val (.int v133), .val (.int v136), .val (.ref b192), .unset, .unset] [(.int ((p3.toUInt32 >>> ((8 : Int32) &&& 31).toUInt32).toInt32)), (.int (5 : Int32)), (.ref b192)])) _
      refine XS.i2b X201.here hx rfl (hb hby at_150) rfl ?_
      exact k
    obtain ⟨cl204, Ar204, q204, S204, N204, H204, G204⟩ := id V_b192_201
    obtain ⟨T203, h203, X203, e203, W203, st203⟩ := stB X201 hx hZ e201 Ar204 (j := (5 : Int32)) (inb_of (j := (5 : Int32)) S204 ⟨by decide, by decide⟩) (g := (mkF m 151 #[.val (.int p0), .val (.int p1), .val (.int p2), .val (.int p3), .val (.int p4), .val (.int p5), .val (.int (6 : Int32)), .val (.int v127), .val (.int v130), .val (.int v133), .val (.int v136), .val (.ref b192), .unset, .unset] [(.int (((p3.toUInt32 >>> ((8 : Int32) &&& 31).toUInt32).toInt32).toInt8.toInt32)), (.int (5 : Int32)), (.ref b192)])) rfl rfl (hb hby at_151)
    have V_b192_203 := Arv.set Ar204 q204 S204 N204 H204 G204 (fits_nar_byte _) W203 5 rfl (Nat.le_of_ble_eq_true rfl)
    have N203 := Fr.snoc X203 N201 ge_b192
    have sz203 : n0 ≤ h203.size := Nat.le_trans sz201 (Nat.le_of_eq W203.size.symm)
    refine Go.st (U' := T203.setTop (mkF m 152 #[.val (.int p0), .val (.int p1), .val (.int p2), .val (.int p3), .val (.int p4), .val (.int p5), .val (.int (6 : Int32)), .val (.int v127), .val (.int v130), .val (.int v133), .val (.int v136), .val (.ref b192), .unset, .unset] [])) (fun t k => st203 _ k) ?_
    refine Go.st (U' := T203.setTop (mkF m 195 #[.val (.int p0), .val (.int p1), .val (.int p2), .val (.int p3), .val (.int p4), .val (.int p5), .val (.int (6 : Int32)), .val (.int v127), .val (.int v130), .val (.int v133), .val (.int v136), .val (.ref b192), .val (.int ((((v127 ^^^ (71 : Int32)) ||| (v130 ^^^ (73 : Int32))) ||| (v133 ^^^ (79 : Int32))) ||| (v136 ^^^ (80 : Int32)))), .unset] [])) (fun t k => ?_) ?_
    · show Steps p.tables e below (T203.setTop (mkF m 152 #[.val (.int p0), .val (.int p1), .val (.int p2), .val (.int p3), .val (.int p4), .val (.int p5), .val (.int (6 : Int32)), .val (.int v127), .val (.int v130), .val (.int v133), .val (.int v136), .val (.ref b192), .unset, .unset] [])) _
      refine XS.iload X203.here hx rfl (hb hby at_152) rfl ?_
      show Steps p.tables e below (T203.setTop (mkF m 154 #[.val (.int p0), .val (.int p1), .val (.int p2), .val (.int p3), .val (.int p4), .val (.int p5), .val (.int (6 : Int32)), .val (.int v127), .val (.int v130), .val (.int v133), .val (.int v136), .val (.ref b192), .unset, .unset] [(.int (6 : Int32))])) _
      refine XS.bipush X203.here hx rfl (hb hby at_154) ?_
      show Steps p.tables e below (T203.setTop (mkF m 156 #[.val (.int p0), .val (.int p1), .val (.int p2), .val (.int p3), .val (.int p4), .val (.int p5), .val (.int (6 : Int32)), .val (.int v127), .val (.int v130), .val (.int v133), .val (.int v136), .val (.ref b192), .unset, .unset] [(.int (6 : Int32)), (.int (6 : Int32))])) _
      refine XS.icmpYes X203.here hx rfl (pc0 := 156) (pc' := 170) rfl (hb hby at_156) rfl (flt (by decide : ¬ ((6 : Int32) < (6 : Int32)))).2.2.2 (by decide) (by decide) ?_
      show Steps p.tables e below (T203.setTop (mkF m 170 #[.val (.int p0), .val (.int p1), .val (.int p2), .val (.int p3), .val (.int p4), .val (.int p5), .val (.int (6 : Int32)), .val (.int v127), .val (.int v130), .val (.int v133), .val (.int v136), .val (.ref b192), .unset, .unset] [])) _
      refine XS.iload X203.here hx rfl (hb hby at_170) rfl ?_
      show Steps p.tables e below (T203.setTop (mkF m 172 #[.val (.int p0), .val (.int p1), .val (.int p2), .val (.int p3), .val (.int p4), .val (.int p5), .val (.int (6 : Int32)), .val (.int v127), .val (.int v130), .val (.int v133), .val (.int v136), .val (.ref b192), .unset, .unset] [(.int v127)])) _
      refine XS.bipush X203.here hx rfl (hb hby at_172) ?_
      show Steps p.tables e below (T203.setTop (mkF m 174 #[.val (.int p0), .val (.int p1), .val (.int p2), .val (.int p3), .val (.int p4), .val (.int p5), .val (.int (6 : Int32)), .val (.int v127), .val (.int v130), .val (.int v133), .val (.int v136), .val (.ref b192), .unset, .unset] [(.int (71 : Int32)), (.int v127)])) _
      refine XS.ixor X203.here hx rfl (hb hby at_174) rfl ?_
      show Steps p.tables e below (T203.setTop (mkF m 175 #[.val (.int p0), .val (.int p1), .val (.int p2), .val (.int p3), .val (.int p4), .val (.int p5), .val (.int (6 : Int32)), .val (.int v127), .val (.int v130), .val (.int v133), .val (.int v136), .val (.ref b192), .unset, .unset] [(.int (v127 ^^^ (71 : Int32)))])) _
      refine XS.iload X203.here hx rfl (hb hby at_175) rfl ?_
      show Steps p.tables e below (T203.setTop (mkF m 177 #[.val (.int p0), .val (.int p1), .val (.int p2), .val (.int p3), .val (.int p4), .val (.int p5), .val (.int (6 : Int32)), .val (.int v127), .val (.int v130), .val (.int v133), .val (.int v136), .val (.ref b192), .unset, .unset] [(.int v130), (.int (v127 ^^^ (71 : Int32)))])) _
      refine XS.bipush X203.here hx rfl (hb hby at_177) ?_
      show Steps p.tables e below (T203.setTop (mkF m 179 #[.val (.int p0), .val (.int p1), .val (.int p2), .val (.int p3), .val (.int p4), .val (.int p5), .val (.int (6 : Int32)), .val (.int v127), .val (.int v130), .val (.int v133), .val (.int v136), .val (.ref b192), .unset, .unset] [(.int (73 : Int32)), (.int v130), (.int (v127 ^^^ (71 : Int32)))])) _
      refine XS.ixor X203.here hx rfl (hb hby at_179) rfl ?_
      show Steps p.tables e below (T203.setTop (mkF m 180 #[.val (.int p0), .val (.int p1), .val (.int p2), .val (.int p3), .val (.int p4), .val (.int p5), .val (.int (6 : Int32)), .val (.int v127), .val (.int v130), .val (.int v133), .val (.int v136), .val (.ref b192), .unset, .unset] [(.int (v130 ^^^ (73 : Int32))), (.int (v127 ^^^ (71 : Int32)))])) _
      refine XS.ior X203.here hx rfl (hb hby at_180) rfl ?_
      show Steps p.tables e below (T203.setTop (mkF m 181 #[.val (.int p0), .val (.int p1), .val (.int p2), .val (.int p3), .val (.int p4), .val (.int p5), .val (.int (6 : Int32)), .val (.int v127), .val (.int v130), .val (.int v133), .val (.int v136), .val (.ref b192), .unset, .unset] [(.int ((v127 ^^^ (71 : Int32)) ||| (v130 ^^^ (73 : Int32))))])) _
      refine XS.iload X203.here hx rfl (hb hby at_181) rfl ?_
      show Steps p.tables e below (T203.setTop (mkF m 183 #[.val (.int p0), .val (.int p1), .val (.int p2), .val (.int p3), .val (.int p4), .val (.int p5), .val (.int (6 : Int32)), .val (.int v127), .val (.int v130), .val (.int v133), .val (.int v136), .val (.ref b192), .unset, .unset] [(.int v133), (.int ((v127 ^^^ (71 : Int32)) ||| (v130 ^^^ (73 : Int32))))])) _
      refine XS.bipush X203.here hx rfl (hb hby at_183) ?_
      show Steps p.tables e below (T203.setTop (mkF m 185 #[.val (.int p0), .val (.int p1), .val (.int p2), .val (.int p3), .val (.int p4), .val (.int p5), .val (.int (6 : Int32)), .val (.int v127), .val (.int v130), .val (.int v133), .val (.int v136), .val (.ref b192), .unset, .unset] [(.int (79 : Int32)), (.int v133), (.int ((v127 ^^^ (71 : Int32)) ||| (v130 ^^^ (73 : Int32))))])) _
      refine XS.ixor X203.here hx rfl (hb hby at_185) rfl ?_
      show Steps p.tables e below (T203.setTop (mkF m 186 #[.val (.int p0), .val (.int p1), .val (.int p2), .val (.int p3), .val (.int p4), .val (.int p5), .val (.int (6 : Int32)), .val (.int v127), .val (.int v130), .val (.int v133), .val (.int v136), .val (.ref b192), .unset, .unset] [(.int (v133 ^^^ (79 : Int32))), (.int ((v127 ^^^ (71 : Int32)) ||| (v130 ^^^ (73 : Int32))))])) _
      refine XS.ior X203.here hx rfl (hb hby at_186) rfl ?_
      show Steps p.tables e below (T203.setTop (mkF m 187 #[.val (.int p0), .val (.int p1), .val (.int p2), .val (.int p3), .val (.int p4), .val (.int p5), .val (.int (6 : Int32)), .val (.int v127), .val (.int v130), .val (.int v133), .val (.int v136), .val (.ref b192), .unset, .unset] [(.int (((v127 ^^^ (71 : Int32)) ||| (v130 ^^^ (73 : Int32))) ||| (v133 ^^^ (79 : Int32))))])) _
      refine XS.iload X203.here hx rfl (hb hby at_187) rfl ?_
      show Steps p.tables e below (T203.setTop (mkF m 189 #[.val (.int p0), .val (.int p1), .val (.int p2), .val (.int p3), .val (.int p4), .val (.int p5), .val (.int (6 : Int32)), .val (.int v127), .val (.int v130), .val (.int v133), .val (.int v136), .val (.ref b192), .unset, .unset] [(.int v136), (.int (((v127 ^^^ (71 : Int32)) ||| (v130 ^^^ (73 : Int32))) ||| (v133 ^^^ (79 : Int32))))])) _
      refine XS.bipush X203.here hx rfl (hb hby at_189) ?_
      show Steps p.tables e below (T203.setTop (mkF m 191 #[.val (.int p0), .val (.int p1), .val (.int p2), .val (.int p3), .val (.int p4), .val (.int p5), .val (.int (6 : Int32)), .val (.int v127), .val (.int v130), .val (.int v133), .val (.int v136), .val (.ref b192), .unset, .unset] [(.int (80 : Int32)), (.int v136), (.int (((v127 ^^^ (71 : Int32)) ||| (v130 ^^^ (73 : Int32))) ||| (v133 ^^^ (79 : Int32))))])) _
      refine XS.ixor X203.here hx rfl (hb hby at_191) rfl ?_
      show Steps p.tables e below (T203.setTop (mkF m 192 #[.val (.int p0), .val (.int p1), .val (.int p2), .val (.int p3), .val (.int p4), .val (.int p5), .val (.int (6 : Int32)), .val (.int v127), .val (.int v130), .val (.int v133), .val (.int v136), .val (.ref b192), .unset, .unset] [(.int (v136 ^^^ (80 : Int32))), (.int (((v127 ^^^ (71 : Int32)) ||| (v130 ^^^ (73 : Int32))) ||| (v133 ^^^ (79 : Int32))))])) _
      refine XS.ior X203.here hx rfl (hb hby at_192) rfl ?_
      show Steps p.tables e below (T203.setTop (mkF m 193 #[.val (.int p0), .val (.int p1), .val (.int p2), .val (.int p3), .val (.int p4), .val (.int p5), .val (.int (6 : Int32)), .val (.int v127), .val (.int v130), .val (.int v133), .val (.int v136), .val (.ref b192), .unset, .unset] [(.int ((((v127 ^^^ (71 : Int32)) ||| (v130 ^^^ (73 : Int32))) ||| (v133 ^^^ (79 : Int32))) ||| (v136 ^^^ (80 : Int32))))])) _
      refine XS.istore X203.here hx rfl (hb hby at_193) rfl (l' := #[.val (.int p0), .val (.int p1), .val (.int p2), .val (.int p3), .val (.int p4), .val (.int p5), .val (.int (6 : Int32)), .val (.int v127), .val (.int v130), .val (.int v133), .val (.int v136), .val (.ref b192), .val (.int ((((v127 ^^^ (71 : Int32)) ||| (v130 ^^^ (73 : Int32))) ||| (v133 ^^^ (79 : Int32))) ||| (v136 ^^^ (80 : Int32)))), .unset]) rfl ?_
      exact k
    generalize hv_v205 : ((((v127 ^^^ (71 : Int32)) ||| (v130 ^^^ (73 : Int32))) ||| (v133 ^^^ (79 : Int32))) ||| (v136 ^^^ (80 : Int32))) = v205
    refine Go.st (U' := T203.setTop (mkF m 203 #[.val (.int p0), .val (.int p1), .val (.int p2), .val (.int p3), .val (.int p4), .val (.int p5), .val (.int (6 : Int32)), .val (.int v127), .val (.int v130), .val (.int v133), .val (.int v136), .val (.ref b192), .val (.int v205), .unset] [(.int v205)])) (fun t k => ?_) ?_
    · show Steps p.tables e below (T203.setTop (mkF m 195 #[.val (.int p0), .val (.int p1), .val (.int p2), .val (.int p3), .val (.int p4), .val (.int p5), .val (.int (6 : Int32)), .val (.int v127), .val (.int v130), .val (.int v133), .val (.int v136), .val (.ref b192), .val (.int v205), .unset] [])) _
      refine XS.iload X203.here hx rfl (hb hby at_195) rfl ?_
      show Steps p.tables e below (T203.setTop (mkF m 197 #[.val (.int p0), .val (.int p1), .val (.int p2), .val (.int p3), .val (.int p4), .val (.int p5), .val (.int (6 : Int32)), .val (.int v127), .val (.int v130), .val (.int v133), .val (.int v136), .val (.ref b192), .val (.int v205), .unset] [(.int (6 : Int32))])) _
      refine XS.iconst X203.here hx rfl (hb hby at_197) ?_
      show Steps p.tables e below (T203.setTop (mkF m 198 #[.val (.int p0), .val (.int p1), .val (.int p2), .val (.int p3), .val (.int p4), .val (.int p5), .val (.int (6 : Int32)), .val (.int v127), .val (.int v130), .val (.int v133), .val (.int v136), .val (.ref b192), .val (.int v205), .unset] [(.int (4 : Int32)), (.int (6 : Int32))])) _
      refine XS.icmpNo X203.here hx rfl (hb hby at_198) rfl (flt (by decide : ¬ ((6 : Int32) < (4 : Int32)))).1 ?_
      show Steps p.tables e below (T203.setTop (mkF m 201 #[.val (.int p0), .val (.int p1), .val (.int p2), .val (.int p3), .val (.int p4), .val (.int p5), .val (.int (6 : Int32)), .val (.int v127), .val (.int v130), .val (.int v133), .val (.int v136), .val (.ref b192), .val (.int v205), .unset] [])) _
      refine XS.iload X203.here hx rfl (hb hby at_201) rfl ?_
      exact k
    refine Go.join (P := fun (v207 : Int32) => v207 = (if v205 = (0 : Int32) then (1 : Int32) else (0 : Int32))) (F := fun (v207 : Int32) => T203.setTop (mkF m 211 #[.val (.int p0), .val (.int p1), .val (.int p2), .val (.int p3), .val (.int p4), .val (.int p5), .val (.int (6 : Int32)), .val (.int v127), .val (.int v130), .val (.int v133), .val (.int v136), .val (.ref b192), .val (.int v205), .unset] [(.int v207)])) (fun J208 => ?_) (fun v207 hv_v207 => ?_)
    · by_cases hc206 : v205 = (0 : Int32)
      · refine Go.st (U' := T203.setTop (mkF m 211 #[.val (.int p0), .val (.int p1), .val (.int p2), .val (.int p3), .val (.int p4), .val (.int p5), .val (.int (6 : Int32)), .val (.int v127), .val (.int v130), .val (.int v133), .val (.int v136), .val (.ref b192), .val (.int v205), .unset] [(.int (1 : Int32))])) (fun t k => ?_) ?_
        · show Steps p.tables e below (T203.setTop (mkF m 203 #[.val (.int p0), .val (.int p1), .val (.int p2), .val (.int p3), .val (.int p4), .val (.int p5), .val (.int (6 : Int32)), .val (.int v127), .val (.int v130), .val (.int v133), .val (.int v136), .val (.ref b192), .val (.int v205), .unset] [(.int v205)])) _
          refine XS.ifNo X203.here hx rfl (hb hby at_203) rfl ((if0 _ _).trans (teq hc206).2) ?_
          show Steps p.tables e below (T203.setTop (mkF m 206 #[.val (.int p0), .val (.int p1), .val (.int p2), .val (.int p3), .val (.int p4), .val (.int p5), .val (.int (6 : Int32)), .val (.int v127), .val (.int v130), .val (.int v133), .val (.int v136), .val (.ref b192), .val (.int v205), .unset] [])) _
          refine XS.iconst X203.here hx rfl (hb hby at_206) ?_
          show Steps p.tables e below (T203.setTop (mkF m 207 #[.val (.int p0), .val (.int p1), .val (.int p2), .val (.int p3), .val (.int p4), .val (.int p5), .val (.int (6 : Int32)), .val (.int v127), .val (.int v130), .val (.int v133), .val (.int v136), .val (.ref b192), .val (.int v205), .unset] [(.int (1 : Int32))])) _
          refine XS.goto X203.here hx rfl (pc0 := 207) (pc' := 211) rfl (hb hby at_207) (by decide) (by decide) ?_
          exact k
        exact J208 _ (by first | rfl | simp only [if_pos hc206])
      · refine Go.st (U' := T203.setTop (mkF m 211 #[.val (.int p0), .val (.int p1), .val (.int p2), .val (.int p3), .val (.int p4), .val (.int p5), .val (.int (6 : Int32)), .val (.int v127), .val (.int v130), .val (.int v133), .val (.int v136), .val (.ref b192), .val (.int v205), .unset] [(.int (0 : Int32))])) (fun t k => ?_) ?_
        · show Steps p.tables e below (T203.setTop (mkF m 203 #[.val (.int p0), .val (.int p1), .val (.int p2), .val (.int p3), .val (.int p4), .val (.int p5), .val (.int (6 : Int32)), .val (.int v127), .val (.int v130), .val (.int v133), .val (.int v136), .val (.ref b192), .val (.int v205), .unset] [(.int v205)])) _
          refine XS.ifYes X203.here hx rfl (pc0 := 203) (pc' := 210) rfl (hb hby at_203) rfl ((if0 _ _).trans (feq hc206).2) (by decide) (by decide) ?_
          show Steps p.tables e below (T203.setTop (mkF m 210 #[.val (.int p0), .val (.int p1), .val (.int p2), .val (.int p3), .val (.int p4), .val (.int p5), .val (.int (6 : Int32)), .val (.int v127), .val (.int v130), .val (.int v133), .val (.int v136), .val (.ref b192), .val (.int v205), .unset] [])) _
          refine XS.iconst X203.here hx rfl (hb hby at_210) ?_
          exact k
        exact J208 _ (by first | rfl | simp only [if_neg hc206])
    refine Go.st (U' := T203.setTop (mkF m 215 #[.val (.int p0), .val (.int p1), .val (.int p2), .val (.int p3), .val (.int p4), .val (.int p5), .val (.int (6 : Int32)), .val (.int v127), .val (.int v130), .val (.int v133), .val (.int v136), .val (.ref b192), .val (.int v205), .val (.int v207)] [(.ref b192)])) (fun t k => ?_) ?_
    · show Steps p.tables e below (T203.setTop (mkF m 211 #[.val (.int p0), .val (.int p1), .val (.int p2), .val (.int p3), .val (.int p4), .val (.int p5), .val (.int (6 : Int32)), .val (.int v127), .val (.int v130), .val (.int v133), .val (.int v136), .val (.ref b192), .val (.int v205), .unset] [(.int v207)])) _
      refine XS.istore X203.here hx rfl (hb hby at_211) rfl (l' := #[.val (.int p0), .val (.int p1), .val (.int p2), .val (.int p3), .val (.int p4), .val (.int p5), .val (.int (6 : Int32)), .val (.int v127), .val (.int v130), .val (.int v133), .val (.int v136), .val (.ref b192), .val (.int v205), .val (.int v207)]) rfl ?_
      show Steps p.tables e below (T203.setTop (mkF m 213 #[.val (.int p0), .val (.int p1), .val (.int p2), .val (.int p3), .val (.int p4), .val (.int p5), .val (.int (6 : Int32)), .val (.int v127), .val (.int v130), .val (.int v133), .val (.int v136), .val (.ref b192), .val (.int v205), .val (.int v207)] [])) _
      refine XS.aload X203.here hx rfl (hb hby at_213) rfl rfl ?_
      exact k
    obtain ⟨_, _, ⟨T209, L209, k209, n209⟩, -, X209, ⟨Lc209, hQ209, l209, y209, z209⟩, st209⟩ := Jvm.LawKit.callS X203 hx (y := own_y0) hown (mvT hZ (own_w hw 1 rfl)) (mvT hZ (own_w hw 2 rfl)) (mvT hZ (own_w hw 3 rfl)) (mvT hZ (own_w hw 4 rfl)) (by decide) (backOf (W := 0) (rm1_6 l Z a0 hw [] b192 k192 (v127.toInt8.toInt32) (v130.toInt8.toInt32) (v133.toInt8.toInt32) (v136.toInt8.toInt32) ((((p2.toUInt32 >>> ((8 : Int32) &&& 31).toUInt32).toInt32).toInt8.toInt32).toInt8.toInt32) ((((p3.toUInt32 >>> ((8 : Int32) &&& 31).toUInt32).toInt32).toInt8.toInt32).toInt8.toInt32) h203 n0 sz203 V_b192_203) hZ (own_w hw 4 rfl) (own_w hw 3 rfl) (by decide) (by decide)) (g := (mkF m 215 #[.val (.int p0), .val (.int p1), .val (.int p2), .val (.int p3), .val (.int p4), .val (.int p5), .val (.int (6 : Int32)), .val (.int v127), .val (.int v130), .val (.int v133), .val (.int v136), .val (.ref b192), .val (.int v205), .val (.int v207)] [(.ref b192)])) rfl (by rw [hml]; rfl) (argsL := [(.ref b192)]) (rest := []) (lenOf pd_0 rfl) rfl (by show 2 * 0 + _ ≤ _; exact Nat.le_of_eq rfl) (hb hby at_215) (fun _ _ => ⟨rfl, e203, (by decide : 1 + 0 ≤ _), (by decide : 6 + 0 ≤ _)⟩)
    dsimp only [Pt.U, Pt.locs, Pt.cells, Pt.slots] at X209 l209 y209 z209 st209 hQ209
    subst l209 y209 z209
    obtain ⟨rfl, N209q, e209⟩ := hQ209
    have N209 := Fr.app N203 N209q
    refine Go.st (U' := T209.setTop (mkF m 218 #[.val (.int p0), .val (.int p1), .val (.int p2), .val (.int p3), .val (.int p4), .val (.int p5), .val (.int (6 : Int32)), .val (.int v127), .val (.int v130), .val (.int v133), .val (.int v136), .val (.ref b192), .val (.int v205), .val (.int v207)] [(.int (g6 (v127.toInt8.toInt32) (v130.toInt8.toInt32) (v133.toInt8.toInt32) (v136.toInt8.toInt32)))])) (fun t k => st209 _ k) ?_
    refine Go.st (U' := T209.setTop (mkF m 228 #[.val (.int p0), .val (.int p1), .val (.int p2), .val (.int p3), .val (.int p4), .val (.int p5), .val (.int (6 : Int32)), .val (.int v127), .val (.int v130), .val (.int v133), .val (.int v136), .val (.ref b192), .val (.int v205), .val (.int v207)] [(.int (1 : Int32))])) (fun t k => ?_) ?_
    · show Steps p.tables e below (T209.setTop (mkF m 218 #[.val (.int p0), .val (.int p1), .val (.int p2), .val (.int p3), .val (.int p4), .val (.int p5), .val (.int (6 : Int32)), .val (.int v127), .val (.int v130), .val (.int v133), .val (.int v136), .val (.ref b192), .val (.int v205), .val (.int v207)] [(.int (g6 (v127.toInt8.toInt32) (v130.toInt8.toInt32) (v133.toInt8.toInt32) (v136.toInt8.toInt32)))])) _
      refine XS.iload X209.here hx rfl (hb hby at_218) rfl ?_
      show Steps p.tables e below (T209.setTop (mkF m 220 #[.val (.int p0), .val (.int p1), .val (.int p2), .val (.int p3), .val (.int p4), .val (.int p5), .val (.int (6 : Int32)), .val (.int v127), .val (.int v130), .val (.int v133), .val (.int v136), .val (.ref b192), .val (.int v205), .val (.int v207)] [(.int v207), (.int (g6 (v127.toInt8.toInt32) (v130.toInt8.toInt32) (v133.toInt8.toInt32) (v136.toInt8.toInt32)))])) _
      refine XS.icmpNo X209.here hx rfl (hb hby at_220) rfl (teq (own_law6 v127 v130 v133 v136 v205 v207 (own_bb (by decide) hv_v127) (own_bb (by decide) hv_v130) (own_bb (by decide) hv_v133) (own_bb (by decide) hv_v136) hv_v205 hv_v207 : (g6 (v127.toInt8.toInt32) (v130.toInt8.toInt32) (v133.toInt8.toInt32) (v136.toInt8.toInt32)) = v207)).2 ?_
      show Steps p.tables e below (T209.setTop (mkF m 223 #[.val (.int p0), .val (.int p1), .val (.int p2), .val (.int p3), .val (.int p4), .val (.int p5), .val (.int (6 : Int32)), .val (.int v127), .val (.int v130), .val (.int v133), .val (.int v136), .val (.ref b192), .val (.int v205), .val (.int v207)] [])) _
      refine XS.iconst X209.here hx rfl (hb hby at_223) ?_
      show Steps p.tables e below (T209.setTop (mkF m 224 #[.val (.int p0), .val (.int p1), .val (.int p2), .val (.int p3), .val (.int p4), .val (.int p5), .val (.int (6 : Int32)), .val (.int v127), .val (.int v130), .val (.int v133), .val (.int v136), .val (.ref b192), .val (.int v205), .val (.int v207)] [(.int (1 : Int32))])) _
      refine XS.goto X209.here hx rfl (pc0 := 224) (pc' := 228) rfl (hb hby at_224) (by decide) (by decide) ?_
      exact k
    refine own_ret (Q := Q0 Z p0 p1 p2 p3 p4 p5 h0 n0) (v := some (.int (1 : Int32))) X209 hlk (fun h => by rw [hrt] at h; cases h) (by decide) (by decide) ?_ (fun fs hr => retN X209 hx (t := .boolean) hrt (by simp) (hb hby at_228) hr)
    rw [e209]
    exact ⟨rfl, N209⟩
  · refine Go.st (U' := s₁.setTop (mkF m 71 #[.val (.int p0), .val (.int p1), .val (.int p2), .val (.int p3), .val (.int p4), .val (.int p5), .val (.int (7 : Int32)), .val (.int v127), .val (.int v130), .val (.int v133), .val (.int v136), .unset, .unset, .unset] [(.int (7 : Int32))])) (fun t k => ?_) ?_
    · show Steps p.tables e below (s₁.setTop (mkF m 69 #[.val (.int p0), .val (.int p1), .val (.int p2), .val (.int p3), .val (.int p4), .val (.int p5), .val (.int (7 : Int32)), .val (.int v127), .val (.int v130), .val (.int v133), .val (.int v136), .unset, .unset, .unset] [])) _
      refine XS.iload X0.here hx rfl (hb hby at_69) rfl ?_
      exact k
    obtain ⟨T210, h210, k210, X210, e210, E210, A210, st210⟩ := newP X0 hx hZ (own_w hw 0 rfl) e0 (g := (mkF m 71 #[.val (.int p0), .val (.int p1), .val (.int p2), .val (.int p3), .val (.int p4), .val (.int p5), .val (.int (7 : Int32)), .val (.int v127), .val (.int v130), .val (.int v133), .val (.int v136), .unset, .unset, .unset] [(.int (7 : Int32))])) rfl (hb hby at_71) rfl (by decide) (cap := 7) (by decide) (by decide) (by decide) (by decide)
    obtain ⟨b210, g210⟩ : ∃ z, z = h0.size := ⟨_, rfl⟩
    rw [← g210] at A210 st210
    have ge_b210 : n0 ≤ b210 := Nat.le_trans Z0 (Nat.le_of_eq g210.symm)
    have V_b210 : Arv Z h210 b210 k210 .byte (7 : Int32) [(.int (0 : Int32)), (.int (0 : Int32)), (.int (0 : Int32)), (.int (0 : Int32)), (.int (0 : Int32)), (.int (0 : Int32)), (.int (0 : Int32))] (.int (0 : Int32)) := (Arv.new A210 (by decide)).pad (pad_rep [] (.int (0 : Int32)) 7)
    have sz210 : n0 ≤ h210.size := Nat.le_trans Z0 E210.1
    refine Go.st (U' := T210.setTop (mkF m 73 #[.val (.int p0), .val (.int p1), .val (.int p2), .val (.int p3), .val (.int p4), .val (.int p5), .val (.int (7 : Int32)), .val (.int v127), .val (.int v130), .val (.int v133), .val (.int v136), .unset, .unset, .unset] [(.ref b210)])) (fun t k => st210 _ k) ?_
    refine Go.st (U' := T210.setTop (mkF m 85 #[.val (.int p0), .val (.int p1), .val (.int p2), .val (.int p3), .val (.int p4), .val (.int p5), .val (.int (7 : Int32)), .val (.int v127), .val (.int v130), .val (.int v133), .val (.int v136), .val (.ref b210), .unset, .unset] [(.int v127), (.int (0 : Int32)), (.ref b210)])) (fun t k => ?_) ?_
    · show Steps p.tables e below (T210.setTop (mkF m 73 #[.val (.int p0), .val (.int p1), .val (.int p2), .val (.int p3), .val (.int p4), .val (.int p5), .val (.int (7 : Int32)), .val (.int v127), .val (.int v130), .val (.int v133), .val (.int v136), .unset, .unset, .unset] [(.ref b210)])) _
      refine XS.astore X210.here hx rfl (hb hby at_73) rfl rfl (l' := #[.val (.int p0), .val (.int p1), .val (.int p2), .val (.int p3), .val (.int p4), .val (.int p5), .val (.int (7 : Int32)), .val (.int v127), .val (.int v130), .val (.int v133), .val (.int v136), .val (.ref b210), .unset, .unset]) rfl ?_
      show Steps p.tables e below (T210.setTop (mkF m 75 #[.val (.int p0), .val (.int p1), .val (.int p2), .val (.int p3), .val (.int p4), .val (.int p5), .val (.int (7 : Int32)), .val (.int v127), .val (.int v130), .val (.int v133), .val (.int v136), .val (.ref b210), .unset, .unset] [])) _
      refine XS.iload X210.here hx rfl (hb hby at_75) rfl ?_
      show Steps p.tables e below (T210.setTop (mkF m 77 #[.val (.int p0), .val (.int p1), .val (.int p2), .val (.int p3), .val (.int p4), .val (.int p5), .val (.int (7 : Int32)), .val (.int v127), .val (.int v130), .val (.int v133), .val (.int v136), .val (.ref b210), .unset, .unset] [(.int (7 : Int32))])) _
      refine XS.ifNo X210.here hx rfl (hb hby at_77) rfl ((if0 _ _).trans (tlt (by decide : (0 : Int32) < (7 : Int32))).2.2.2) ?_
      show Steps p.tables e below (T210.setTop (mkF m 80 #[.val (.int p0), .val (.int p1), .val (.int p2), .val (.int p3), .val (.int p4), .val (.int p5), .val (.int (7 : Int32)), .val (.int v127), .val (.int v130), .val (.int v133), .val (.int v136), .val (.ref b210), .unset, .unset] [])) _
      refine XS.aload X210.here hx rfl (hb hby at_80) rfl rfl ?_
      show Steps p.tables e below (T210.setTop (mkF m 82 #[.val (.int p0), .val (.int p1), .val (.int p2), .val (.int p3), .val (.int p4), .val (.int p5), .val (.int (7 : Int32)), .val (.int v127), .val (.int v130), .val (.int v133), .val (.int v136), .val (.ref b210), .unset, .unset] [(.ref b210)])) _
      refine XS.iconst X210.here hx rfl (hb hby at_82) ?_
      show Steps p.tables e below (T210.setTop (mkF m 83 #[.val (.int p0), .val (.int p1), .val (.int p2), .val (.int p3), .val (.int p4), .val (.int p5), .val (.int (7 : Int32)), .val (.int v127), .val (.int v130), .val (.int v133), .val (.int v136), .val (.ref b210), .unset, .unset] [(.int (0 : Int32)), (.ref b210)])) _
      refine XS.iload X210.here hx rfl (hb hby at_83) rfl ?_
      exact k
    obtain ⟨cl212, Ar212, q212, S212, N212, H212, G212⟩ := id V_b210
    obtain ⟨T211, h211, X211, e211, W211, st211⟩ := stB X210 hx hZ e210 Ar212 (j := (0 : Int32)) (inb_of (j := (0 : Int32)) S212 ⟨by decide, by decide⟩) (g := (mkF m 85 #[.val (.int p0), .val (.int p1), .val (.int p2), .val (.int p3), .val (.int p4), .val (.int p5), .val (.int (7 : Int32)), .val (.int v127), .val (.int v130), .val (.int v133), .val (.int v136), .val (.ref b210), .unset, .unset] [(.int v127), (.int (0 : Int32)), (.ref b210)])) rfl rfl (hb hby at_85)
    have V_b210_211 := Arv.set Ar212 q212 S212 N212 H212 G212 (fits_nar_byte _) W211 0 rfl (Nat.le_of_ble_eq_true rfl)
    have N211 := Fr.snoc X211 N0 ge_b210
    have sz211 : n0 ≤ h211.size := Nat.le_trans sz210 (Nat.le_of_eq W211.size.symm)
    refine Go.st (U' := T211.setTop (mkF m 86 #[.val (.int p0), .val (.int p1), .val (.int p2), .val (.int p3), .val (.int p4), .val (.int p5), .val (.int (7 : Int32)), .val (.int v127), .val (.int v130), .val (.int v133), .val (.int v136), .val (.ref b210), .unset, .unset] [])) (fun t k => st211 _ k) ?_
    refine Go.st (U' := T211.setTop (mkF m 97 #[.val (.int p0), .val (.int p1), .val (.int p2), .val (.int p3), .val (.int p4), .val (.int p5), .val (.int (7 : Int32)), .val (.int v127), .val (.int v130), .val (.int v133), .val (.int v136), .val (.ref b210), .unset, .unset] [(.int v130), (.int (1 : Int32)), (.ref b210)])) (fun t k => ?_) ?_
    · show Steps p.tables e below (T211.setTop (mkF m 86 #[.val (.int p0), .val (.int p1), .val (.int p2), .val (.int p3), .val (.int p4), .val (.int p5), .val (.int (7 : Int32)), .val (.int v127), .val (.int v130), .val (.int v133), .val (.int v136), .val (.ref b210), .unset, .unset] [])) _
      refine XS.iload X211.here hx rfl (hb hby at_86) rfl ?_
      show Steps p.tables e below (T211.setTop (mkF m 88 #[.val (.int p0), .val (.int p1), .val (.int p2), .val (.int p3), .val (.int p4), .val (.int p5), .val (.int (7 : Int32)), .val (.int v127), .val (.int v130), .val (.int v133), .val (.int v136), .val (.ref b210), .unset, .unset] [(.int (7 : Int32))])) _
      refine XS.iconst X211.here hx rfl (hb hby at_88) ?_
      show Steps p.tables e below (T211.setTop (mkF m 89 #[.val (.int p0), .val (.int p1), .val (.int p2), .val (.int p3), .val (.int p4), .val (.int p5), .val (.int (7 : Int32)), .val (.int v127), .val (.int v130), .val (.int v133), .val (.int v136), .val (.ref b210), .unset, .unset] [(.int (1 : Int32)), (.int (7 : Int32))])) _
      refine XS.icmpNo X211.here hx rfl (hb hby at_89) rfl (tlt (by decide : (1 : Int32) < (7 : Int32))).2.2.2 ?_
      show Steps p.tables e below (T211.setTop (mkF m 92 #[.val (.int p0), .val (.int p1), .val (.int p2), .val (.int p3), .val (.int p4), .val (.int p5), .val (.int (7 : Int32)), .val (.int v127), .val (.int v130), .val (.int v133), .val (.int v136), .val (.ref b210), .unset, .unset] [])) _
      refine XS.aload X211.here hx rfl (hb hby at_92) rfl rfl ?_
      show Steps p.tables e below (T211.setTop (mkF m 94 #[.val (.int p0), .val (.int p1), .val (.int p2), .val (.int p3), .val (.int p4), .val (.int p5), .val (.int (7 : Int32)), .val (.int v127), .val (.int v130), .val (.int v133), .val (.int v136), .val (.ref b210), .unset, .unset] [(.ref b210)])) _
      refine XS.iconst X211.here hx rfl (hb hby at_94) ?_
      show Steps p.tables e below (T211.setTop (mkF m 95 #[.val (.int p0), .val (.int p1), .val (.int p2), .val (.int p3), .val (.int p4), .val (.int p5), .val (.int (7 : Int32)), .val (.int v127), .val (.int v130), .val (.int v133), .val (.int v136), .val (.ref b210), .unset, .unset] [(.int (1 : Int32)), (.ref b210)])) _
      refine XS.iload X211.here hx rfl (hb hby at_95) rfl ?_
      exact k
    obtain ⟨cl214, Ar214, q214, S214, N214, H214, G214⟩ := id V_b210_211
    obtain ⟨T213, h213, X213, e213, W213, st213⟩ := stB X211 hx hZ e211 Ar214 (j := (1 : Int32)) (inb_of (j := (1 : Int32)) S214 ⟨by decide, by decide⟩) (g := (mkF m 97 #[.val (.int p0), .val (.int p1), .val (.int p2), .val (.int p3), .val (.int p4), .val (.int p5), .val (.int (7 : Int32)), .val (.int v127), .val (.int v130), .val (.int v133), .val (.int v136), .val (.ref b210), .unset, .unset] [(.int v130), (.int (1 : Int32)), (.ref b210)])) rfl rfl (hb hby at_97)
    have V_b210_213 := Arv.set Ar214 q214 S214 N214 H214 G214 (fits_nar_byte _) W213 1 rfl (Nat.le_of_ble_eq_true rfl)
    have N213 := Fr.snoc X213 N211 ge_b210
    have sz213 : n0 ≤ h213.size := Nat.le_trans sz211 (Nat.le_of_eq W213.size.symm)
    refine Go.st (U' := T213.setTop (mkF m 98 #[.val (.int p0), .val (.int p1), .val (.int p2), .val (.int p3), .val (.int p4), .val (.int p5), .val (.int (7 : Int32)), .val (.int v127), .val (.int v130), .val (.int v133), .val (.int v136), .val (.ref b210), .unset, .unset] [])) (fun t k => st213 _ k) ?_
    refine Go.st (U' := T213.setTop (mkF m 109 #[.val (.int p0), .val (.int p1), .val (.int p2), .val (.int p3), .val (.int p4), .val (.int p5), .val (.int (7 : Int32)), .val (.int v127), .val (.int v130), .val (.int v133), .val (.int v136), .val (.ref b210), .unset, .unset] [(.int v133), (.int (2 : Int32)), (.ref b210)])) (fun t k => ?_) ?_
    · show Steps p.tables e below (T213.setTop (mkF m 98 #[.val (.int p0), .val (.int p1), .val (.int p2), .val (.int p3), .val (.int p4), .val (.int p5), .val (.int (7 : Int32)), .val (.int v127), .val (.int v130), .val (.int v133), .val (.int v136), .val (.ref b210), .unset, .unset] [])) _
      refine XS.iload X213.here hx rfl (hb hby at_98) rfl ?_
      show Steps p.tables e below (T213.setTop (mkF m 100 #[.val (.int p0), .val (.int p1), .val (.int p2), .val (.int p3), .val (.int p4), .val (.int p5), .val (.int (7 : Int32)), .val (.int v127), .val (.int v130), .val (.int v133), .val (.int v136), .val (.ref b210), .unset, .unset] [(.int (7 : Int32))])) _
      refine XS.iconst X213.here hx rfl (hb hby at_100) ?_
      show Steps p.tables e below (T213.setTop (mkF m 101 #[.val (.int p0), .val (.int p1), .val (.int p2), .val (.int p3), .val (.int p4), .val (.int p5), .val (.int (7 : Int32)), .val (.int v127), .val (.int v130), .val (.int v133), .val (.int v136), .val (.ref b210), .unset, .unset] [(.int (2 : Int32)), (.int (7 : Int32))])) _
      refine XS.icmpNo X213.here hx rfl (hb hby at_101) rfl (tlt (by decide : (2 : Int32) < (7 : Int32))).2.2.2 ?_
      show Steps p.tables e below (T213.setTop (mkF m 104 #[.val (.int p0), .val (.int p1), .val (.int p2), .val (.int p3), .val (.int p4), .val (.int p5), .val (.int (7 : Int32)), .val (.int v127), .val (.int v130), .val (.int v133), .val (.int v136), .val (.ref b210), .unset, .unset] [])) _
      refine XS.aload X213.here hx rfl (hb hby at_104) rfl rfl ?_
      show Steps p.tables e below (T213.setTop (mkF m 106 #[.val (.int p0), .val (.int p1), .val (.int p2), .val (.int p3), .val (.int p4), .val (.int p5), .val (.int (7 : Int32)), .val (.int v127), .val (.int v130), .val (.int v133), .val (.int v136), .val (.ref b210), .unset, .unset] [(.ref b210)])) _
      refine XS.iconst X213.here hx rfl (hb hby at_106) ?_
      show Steps p.tables e below (T213.setTop (mkF m 107 #[.val (.int p0), .val (.int p1), .val (.int p2), .val (.int p3), .val (.int p4), .val (.int p5), .val (.int (7 : Int32)), .val (.int v127), .val (.int v130), .val (.int v133), .val (.int v136), .val (.ref b210), .unset, .unset] [(.int (2 : Int32)), (.ref b210)])) _
      refine XS.iload X213.here hx rfl (hb hby at_107) rfl ?_
      exact k
    obtain ⟨cl216, Ar216, q216, S216, N216, H216, G216⟩ := id V_b210_213
    obtain ⟨T215, h215, X215, e215, W215, st215⟩ := stB X213 hx hZ e213 Ar216 (j := (2 : Int32)) (inb_of (j := (2 : Int32)) S216 ⟨by decide, by decide⟩) (g := (mkF m 109 #[.val (.int p0), .val (.int p1), .val (.int p2), .val (.int p3), .val (.int p4), .val (.int p5), .val (.int (7 : Int32)), .val (.int v127), .val (.int v130), .val (.int v133), .val (.int v136), .val (.ref b210), .unset, .unset] [(.int v133), (.int (2 : Int32)), (.ref b210)])) rfl rfl (hb hby at_109)
    have V_b210_215 := Arv.set Ar216 q216 S216 N216 H216 G216 (fits_nar_byte _) W215 2 rfl (Nat.le_of_ble_eq_true rfl)
    have N215 := Fr.snoc X215 N213 ge_b210
    have sz215 : n0 ≤ h215.size := Nat.le_trans sz213 (Nat.le_of_eq W215.size.symm)
    refine Go.st (U' := T215.setTop (mkF m 110 #[.val (.int p0), .val (.int p1), .val (.int p2), .val (.int p3), .val (.int p4), .val (.int p5), .val (.int (7 : Int32)), .val (.int v127), .val (.int v130), .val (.int v133), .val (.int v136), .val (.ref b210), .unset, .unset] [])) (fun t k => st215 _ k) ?_
    refine Go.st (U' := T215.setTop (mkF m 121 #[.val (.int p0), .val (.int p1), .val (.int p2), .val (.int p3), .val (.int p4), .val (.int p5), .val (.int (7 : Int32)), .val (.int v127), .val (.int v130), .val (.int v133), .val (.int v136), .val (.ref b210), .unset, .unset] [(.int v136), (.int (3 : Int32)), (.ref b210)])) (fun t k => ?_) ?_
    · show Steps p.tables e below (T215.setTop (mkF m 110 #[.val (.int p0), .val (.int p1), .val (.int p2), .val (.int p3), .val (.int p4), .val (.int p5), .val (.int (7 : Int32)), .val (.int v127), .val (.int v130), .val (.int v133), .val (.int v136), .val (.ref b210), .unset, .unset] [])) _
      refine XS.iload X215.here hx rfl (hb hby at_110) rfl ?_
      show Steps p.tables e below (T215.setTop (mkF m 112 #[.val (.int p0), .val (.int p1), .val (.int p2), .val (.int p3), .val (.int p4), .val (.int p5), .val (.int (7 : Int32)), .val (.int v127), .val (.int v130), .val (.int v133), .val (.int v136), .val (.ref b210), .unset, .unset] [(.int (7 : Int32))])) _
      refine XS.iconst X215.here hx rfl (hb hby at_112) ?_
      show Steps p.tables e below (T215.setTop (mkF m 113 #[.val (.int p0), .val (.int p1), .val (.int p2), .val (.int p3), .val (.int p4), .val (.int p5), .val (.int (7 : Int32)), .val (.int v127), .val (.int v130), .val (.int v133), .val (.int v136), .val (.ref b210), .unset, .unset] [(.int (3 : Int32)), (.int (7 : Int32))])) _
      refine XS.icmpNo X215.here hx rfl (hb hby at_113) rfl (tlt (by decide : (3 : Int32) < (7 : Int32))).2.2.2 ?_
      show Steps p.tables e below (T215.setTop (mkF m 116 #[.val (.int p0), .val (.int p1), .val (.int p2), .val (.int p3), .val (.int p4), .val (.int p5), .val (.int (7 : Int32)), .val (.int v127), .val (.int v130), .val (.int v133), .val (.int v136), .val (.ref b210), .unset, .unset] [])) _
      refine XS.aload X215.here hx rfl (hb hby at_116) rfl rfl ?_
      show Steps p.tables e below (T215.setTop (mkF m 118 #[.val (.int p0), .val (.int p1), .val (.int p2), .val (.int p3), .val (.int p4), .val (.int p5), .val (.int (7 : Int32)), .val (.int v127), .val (.int v130), .val (.int v133), .val (.int v136), .val (.ref b210), .unset, .unset] [(.ref b210)])) _
      refine XS.iconst X215.here hx rfl (hb hby at_118) ?_
      show Steps p.tables e below (T215.setTop (mkF m 119 #[.val (.int p0), .val (.int p1), .val (.int p2), .val (.int p3), .val (.int p4), .val (.int p5), .val (.int (7 : Int32)), .val (.int v127), .val (.int v130), .val (.int v133), .val (.int v136), .val (.ref b210), .unset, .unset] [(.int (3 : Int32)), (.ref b210)])) _
      refine XS.iload X215.here hx rfl (hb hby at_119) rfl ?_
      exact k
    obtain ⟨cl218, Ar218, q218, S218, N218, H218, G218⟩ := id V_b210_215
    obtain ⟨T217, h217, X217, e217, W217, st217⟩ := stB X215 hx hZ e215 Ar218 (j := (3 : Int32)) (inb_of (j := (3 : Int32)) S218 ⟨by decide, by decide⟩) (g := (mkF m 121 #[.val (.int p0), .val (.int p1), .val (.int p2), .val (.int p3), .val (.int p4), .val (.int p5), .val (.int (7 : Int32)), .val (.int v127), .val (.int v130), .val (.int v133), .val (.int v136), .val (.ref b210), .unset, .unset] [(.int v136), (.int (3 : Int32)), (.ref b210)])) rfl rfl (hb hby at_121)
    have V_b210_217 := Arv.set Ar218 q218 S218 N218 H218 G218 (fits_nar_byte _) W217 3 rfl (Nat.le_of_ble_eq_true rfl)
    have N217 := Fr.snoc X217 N215 ge_b210
    have sz217 : n0 ≤ h217.size := Nat.le_trans sz215 (Nat.le_of_eq W217.size.symm)
    refine Go.st (U' := T217.setTop (mkF m 122 #[.val (.int p0), .val (.int p1), .val (.int p2), .val (.int p3), .val (.int p4), .val (.int p5), .val (.int (7 : Int32)), .val (.int v127), .val (.int v130), .val (.int v133), .val (.int v136), .val (.ref b210), .unset, .unset] [])) (fun t k => st217 _ k) ?_
    refine Go.st (U' := T217.setTop (mkF m 136 #[.val (.int p0), .val (.int p1), .val (.int p2), .val (.int p3), .val (.int p4), .val (.int p5), .val (.int (7 : Int32)), .val (.int v127), .val (.int v130), .val (.int v133), .val (.int v136), .val (.ref b210), .unset, .unset] [(.int (((p2.toUInt32 >>> ((8 : Int32) &&& 31).toUInt32).toInt32).toInt8.toInt32)), (.int (4 : Int32)), (.ref b210)])) (fun t k => ?_) ?_
    · show Steps p.tables e below (T217.setTop (mkF m 122 #[.val (.int p0), .val (.int p1), .val (.int p2), .val (.int p3), .val (.int p4), .val (.int p5), .val (.int (7 : Int32)), .val (.int v127), .val (.int v130), .val (.int v133), .val (.int v136), .val (.ref b210), .unset, .unset] [])) _
      refine XS.iload X217.here hx rfl (hb hby at_122) rfl ?_
      show Steps p.tables e below (T217.setTop (mkF m 124 #[.val (.int p0), .val (.int p1), .val (.int p2), .val (.int p3), .val (.int p4), .val (.int p5), .val (.int (7 : Int32)), .val (.int v127), .val (.int v130), .val (.int v133), .val (.int v136), .val (.ref b210), .unset, .unset] [(.int (7 : Int32))])) _
      refine XS.iconst X217.here hx rfl (hb hby at_124) ?_
      show Steps p.tables e below (T217.setTop (mkF m 125 #[.val (.int p0), .val (.int p1), .val (.int p2), .val (.int p3), .val (.int p4), .val (.int p5), .val (.int (7 : Int32)), .val (.int v127), .val (.int v130), .val (.int v133), .val (.int v136), .val (.ref b210), .unset, .unset] [(.int (4 : Int32)), (.int (7 : Int32))])) _
      refine XS.icmpNo X217.here hx rfl (hb hby at_125) rfl (tlt (by decide : (4 : Int32) < (7 : Int32))).2.2.2 ?_
      show Steps p.tables e below (T217.setTop (mkF m 128 #[.val (.int p0), .val (.int p1), .val (.int p2), .val (.int p3), .val (.int p4), .val (.int p5), .val (.int (7 : Int32)), .val (.int v127), .val (.int v130), .val (.int v133), .val (.int v136), .val (.ref b210), .unset, .unset] [])) _
      refine XS.aload X217.here hx rfl (hb hby at_128) rfl rfl ?_
      show Steps p.tables e below (T217.setTop (mkF m 130 #[.val (.int p0), .val (.int p1), .val (.int p2), .val (.int p3), .val (.int p4), .val (.int p5), .val (.int (7 : Int32)), .val (.int v127), .val (.int v130), .val (.int v133), .val (.int v136), .val (.ref b210), .unset, .unset] [(.ref b210)])) _
      refine XS.iconst X217.here hx rfl (hb hby at_130) ?_
      show Steps p.tables e below (T217.setTop (mkF m 131 #[.val (.int p0), .val (.int p1), .val (.int p2), .val (.int p3), .val (.int p4), .val (.int p5), .val (.int (7 : Int32)), .val (.int v127), .val (.int v130), .val (.int v133), .val (.int v136), .val (.ref b210), .unset, .unset] [(.int (4 : Int32)), (.ref b210)])) _
      refine XS.iloadN X217.here hx rfl (hb hby at_131) rfl ?_
      show Steps p.tables e below (T217.setTop (mkF m 132 #[.val (.int p0), .val (.int p1), .val (.int p2), .val (.int p3), .val (.int p4), .val (.int p5), .val (.int (7 : Int32)), .val (.int v127), .val (.int v130), .val (.int v133), .val (.int v136), .val (.ref b210), .unset, .unset] [(.int p2), (.int (4 : Int32)), (.ref b210)])) _
      refine XS.bipush X217.here hx rfl (hb hby at_132) ?_
      show Steps p.tables e below (T217.setTop (mkF m 134 #[.val (.int p0), .val (.int p1), .val (.int p2), .val (.int p3), .val (.int p4), .val (.int p5), .val (.int (7 : Int32)), .val (.int v127), .val (.int v130), .val (.int v133), .val (.int v136), .val (.ref b210), .unset, .unset] [(.int (8 : Int32)), (.int p2), (.int (4 : Int32)), (.ref b210)])) _
      refine XS.iushr X217.here hx rfl (hb hby at_134) rfl ?_
      show Steps p.tables e below (T217.setTop (mkF m 135 #[.val (.int p0), .val (.int p1), .val (.int p2), .val (.int p3), .val (.int p4), .val (.int p5), .val (.int (7 : Int32)), .val (.int v127), .val (.int v130), .val (.int v133), .val (.int v136), .val (.ref b210), .unset, .unset] [(.int ((p2.toUInt32 >>> ((8 : Int32) &&& 31).toUInt32).toInt32)), (.int (4 : Int32)), (.ref b210)])) _
      refine XS.i2b X217.here hx rfl (hb hby at_135) rfl ?_
      exact k
    obtain ⟨cl220, Ar220, q220, S220, N220, H220, G220⟩ := id V_b210_217
    obtain ⟨T219, h219, X219, e219, W219, st219⟩ := stB X217 hx hZ e217 Ar220 (j := (4 : Int32)) (inb_of (j := (4 : Int32)) S220 ⟨by decide, by decide⟩) (g := (mkF m 136 #[.val (.int p0), .val (.int p1), .val (.int p2), .val (.int p3), .val (.int p4), .val (.int p5), .val (.int (7 : Int32)), .val (.int v127), .val (.int v130), .val (.int v133), .val (.int v136), .val (.ref b210), .unset, .unset] [(.int (((p2.toUInt32 >>> ((8 : Int32) &&& 31).toUInt32).toInt32).toInt8.toInt32)), (.int (4 : Int32)), (.ref b210)])) rfl rfl (hb hby at_136)
    have V_b210_219 := Arv.set Ar220 q220 S220 N220 H220 G220 (fits_nar_byte _) W219 4 rfl (Nat.le_of_ble_eq_true rfl)
    have N219 := Fr.snoc X219 N217 ge_b210
    have sz219 : n0 ≤ h219.size := Nat.le_trans sz217 (Nat.le_of_eq W219.size.symm)
    refine Go.st (U' := T219.setTop (mkF m 137 #[.val (.int p0), .val (.int p1), .val (.int p2), .val (.int p3), .val (.int p4), .val (.int p5), .val (.int (7 : Int32)), .val (.int v127), .val (.int v130), .val (.int v133), .val (.int v136), .val (.ref b210), .unset, .unset] [])) (fun t k => st219 _ k) ?_
    refine Go.st (U' := T219.setTop (mkF m 151 #[.val (.int p0), .val (.int p1), .val (.int p2), .val (.int p3), .val (.int p4), .val (.int p5), .val (.int (7 : Int32)), .val (.int v127), .val (.int v130), .val (.int v133), .val (.int v136), .val (.ref b210), .unset, .unset] [(.int (((p3.toUInt32 >>> ((8 : Int32) &&& 31).toUInt32).toInt32).toInt8.toInt32)), (.int (5 : Int32)), (.ref b210)])) (fun t k => ?_) ?_
    · show Steps p.tables e below (T219.setTop (mkF m 137 #[.val (.int p0), .val (.int p1), .val (.int p2), .val (.int p3), .val (.int p4), .val (.int p5), .val (.int (7 : Int32)), .val (.int v127), .val (.int v130), .val (.int v133), .val (.int v136), .val (.ref b210), .unset, .unset] [])) _
      refine XS.iload X219.here hx rfl (hb hby at_137) rfl ?_
      show Steps p.tables e below (T219.setTop (mkF m 139 #[.val (.int p0), .val (.int p1), .val (.int p2), .val (.int p3), .val (.int p4), .val (.int p5), .val (.int (7 : Int32)), .val (.int v127), .val (.int v130), .val (.int v133), .val (.int v136), .val (.ref b210), .unset, .unset] [(.int (7 : Int32))])) _
      refine XS.iconst X219.here hx rfl (hb hby at_139) ?_
      show Steps p.tables e below (T219.setTop (mkF m 140 #[.val (.int p0), .val (.int p1), .val (.int p2), .val (.int p3), .val (.int p4), .val (.int p5), .val (.int (7 : Int32)), .val (.int v127), .val (.int v130), .val (.int v133), .val (.int v136), .val (.ref b210), .unset, .unset] [(.int (5 : Int32)), (.int (7 : Int32))])) _
      refine XS.icmpNo X219.here hx rfl (hb hby at_140) rfl (tlt (by decide : (5 : Int32) < (7 : Int32))).2.2.2 ?_
      show Steps p.tables e below (T219.setTop (mkF m 143 #[.val (.int p0), .val (.int p1), .val (.int p2), .val (.int p3), .val (.int p4), .val (.int p5), .val (.int (7 : Int32)), .val (.int v127), .val (.int v130), .val (.int v133), .val (.int v136), .val (.ref b210), .unset, .unset] [])) _
      refine XS.aload X219.here hx rfl (hb hby at_143) rfl rfl ?_
      show Steps p.tables e below (T219.setTop (mkF m 145 #[.val (.int p0), .val (.int p1), .val (.int p2), .val (.int p3), .val (.int p4), .val (.int p5), .val (.int (7 : Int32)), .val (.int v127), .val (.int v130), .val (.int v133), .val (.int v136), .val (.ref b210), .unset, .unset] [(.ref b210)])) _
      refine XS.iconst X219.here hx rfl (hb hby at_145) ?_
      show Steps p.tables e below (T219.setTop (mkF m 146 #[.val (.int p0), .val (.int p1), .val (.int p2), .val (.int p3), .val (.int p4), .val (.int p5), .val (.int (7 : Int32)), .val (.int v127), .val (.int v130), .val (.int v133), .val (.int v136), .val (.ref b210), .unset, .unset] [(.int (5 : Int32)), (.ref b210)])) _
      refine XS.iloadN X219.here hx rfl (hb hby at_146) rfl ?_
      show Steps p.tables e below (T219.setTop (mkF m 147 #[.val (.int p0), .val (.int p1), .val (.int p2), .val (.int p3), .val (.int p4), .val (.int p5), .val (.int (7 : Int32)), .val (.int v127), .val (.int v130), .val (.int v133), .val (.int v136), .val (.ref b210), .unset, .unset] [(.int p3), (.int (5 : Int32)), (.ref b210)])) _
      refine XS.bipush X219.here hx rfl (hb hby at_147) ?_
      show Steps p.tables e below (T219.setTop (mkF m 149 #[.val (.int p0), .val (.int p1), .val (.int p2), .val (.int p3), .val (.int p4), .val (.int p5), .val (.int (7 : Int32)), .val (.int v127), .val (.int v130), .val (.int v133), .val (.int v136), .val (.ref b210), .unset, .unset] [(.int (8 : Int32)), (.int p3), (.int (5 : Int32)), (.ref b210)])) _
      refine XS.iushr X219.here hx rfl (hb hby at_149) rfl ?_
      show Steps p.tables e below (T219.setTop (mkF m 150 #[.val (.int p0), .val (.int p1), .val (.int p2), .val (.int p3), .val (.int p4), .val (.int p5), .val (.int (7 : Int32)), .val (.int v127), .val (.int v130), .val (.int v133), .val (.int v136), .val (.ref b210), .unset, .unset] [(.int ((p3.toUInt32 >>> ((8 : Int32) &&& 31).toUInt32).toInt32)), (.int (5 : Int32)), (.ref b210)])) _
      refine XS.i2b X219.here hx rfl (hb hby at_150) rfl ?_
      exact k
    obtain ⟨cl222, Ar222, q222, S222, N222, H222, G222⟩ := id V_b210_219
    obtain ⟨T221, h221, X221, e221, W221, st221⟩ := stB X219 hx hZ e219 Ar222 (j := (5 : Int32)) (inb_of (j := (5 : Int32)) S222 ⟨by decide, by decide⟩) (g := (mkF m 151 #[.val (.int p0), .val (.int p1), .val (.int p2), .val (.int p3), .val (.int p4), .val (.int p5), .val (.int (7 : Int32)), .val (.int v127), .val (.int v130), .val (.int v133), .val (.int v136), .val (.ref b210), .unset, .unset] [(.int (((p3.toUInt32 >>> ((8 : Int32) &&& 31).toUInt32).toInt32).toInt8.toInt32)), (.int (5 : Int32)), (.ref b210)])) rfl rfl (hb hby at_151)
    have V_b210_221 := Arv.set Ar222 q222 S222 N222 H222 G222 (fits_nar_byte _) W221 5 rfl (Nat.le_of_ble_eq_true rfl)
    have N221 := Fr.snoc X221 N219 ge_b210
    have sz221 : n0 ≤ h221.size := Nat.le_trans sz219 (Nat.le_of_eq W221.size.symm)
    refine Go.st (U' := T221.setTop (mkF m 152 #[.val (.int p0), .val (.int p1), .val (.int p2), .val (.int p3), .val (.int p4), .val (.int p5), .val (.int (7 : Int32)), .val (.int v127), .val (.int v130), .val (.int v133), .val (.int v136), .val (.ref b210), .unset, .unset] [])) (fun t k => st221 _ k) ?_
    refine Go.st (U' := T221.setTop (mkF m 169 #[.val (.int p0), .val (.int p1), .val (.int p2), .val (.int p3), .val (.int p4), .val (.int p5), .val (.int (7 : Int32)), .val (.int v127), .val (.int v130), .val (.int v133), .val (.int v136), .val (.ref b210), .unset, .unset] [(.int (((p4.toUInt32 >>> ((8 : Int32) &&& 31).toUInt32).toInt32).toInt8.toInt32)), (.int (6 : Int32)), (.ref b210)])) (fun t k => ?_) ?_
    · show Steps p.tables e below (T221.setTop (mkF m 152 #[.val (.int p0), .val (.int p1), .val (.int p2), .val (.int p3), .val (.int p4), .val (.int p5), .val (.int (7 : Int32)), .val (.int v127), .val (.int v130), .val (.int v133), .val (.int v136), .val (.ref b210), .unset, .unset] [])) _
      refine XS.iload X221.here hx rfl (hb hby at_152) rfl ?_
      show Steps p.tables e below (T221.setTop (mkF m 154 #[.val (.int p0), .val (.int p1), .val (.int p2), .val (.int p3), .val (.int p4), .val (.int p5), .val (.int (7 : Int32)), .val (.int v127), .val (.int v130), .val (.int v133), .val (.int v136), .val (.ref b210), .unset, .unset] [(.int (7 : Int32))])) _
      refine XS.bipush X221.here hx rfl (hb hby at_154) ?_
      show Steps p.tables e below (T221.setTop (mkF m 156 #[.val (.int p0), .val (.int p1), .val (.int p2), .val (.int p3), .val (.int p4), .val (.int p5), .val (.int (7 : Int32)), .val (.int v127), .val (.int v130), .val (.int v133), .val (.int v136), .val (.ref b210), .unset, .unset] [(.int (6 : Int32)), (.int (7 : Int32))])) _
      refine XS.icmpNo X221.here hx rfl (hb hby at_156) rfl (tlt (by decide : (6 : Int32) < (7 : Int32))).2.2.2 ?_
      show Steps p.tables e below (T221.setTop (mkF m 159 #[.val (.int p0), .val (.int p1), .val (.int p2), .val (.int p3), .val (.int p4), .val (.int p5), .val (.int (7 : Int32)), .val (.int v127), .val (.int v130), .val (.int v133), .val (.int v136), .val (.ref b210), .unset, .unset] [])) _
      refine XS.aload X221.here hx rfl (hb hby at_159) rfl rfl ?_
      show Steps p.tables e below (T221.setTop (mkF m 161 #[.val (.int p0), .val (.int p1), .val (.int p2), .val (.int p3), .val (.int p4), .val (.int p5), .val (.int (7 : Int32)), .val (.int v127), .val (.int v130), .val (.int v133), .val (.int v136), .val (.ref b210), .unset, .unset] [(.ref b210)])) _
      refine XS.bipush X221.here hx rfl (hb hby at_161) ?_
      show Steps p.tables e below (T221.setTop (mkF m 163 #[.val (.int p0), .val (.int p1), .val (.int p2), .val (.int p3), .val (.int p4), .val (.int p5), .val (.int (7 : Int32)), .val (.int v127), .val (.int v130), .val (.int v133), .val (.int v136), .val (.ref b210), .unset, .unset] [(.int (6 : Int32)), (.ref b210)])) _
      refine XS.iload X221.here hx rfl (hb hby at_163) rfl ?_
      show Steps p.tables e below (T221.setTop (mkF m 165 #[.val (.int p0), .val (.int p1), .val (.int p2), .val (.int p3), .val (.int p4), .val (.int p5), .val (.int (7 : Int32)), .val (.int v127), .val (.int v130), .val (.int v133), .val (.int v136), .val (.ref b210), .unset, .unset] [(.int p4), (.int (6 : Int32)), (.ref b210)])) _
      refine XS.bipush X221.here hx rfl (hb hby at_165) ?_
      show Steps p.tables e below (T221.setTop (mkF m 167 #[.val (.int p0), .val (.int p1), .val (.int p2), .val (.int p3), .val (.int p4), .val (.int p5), .val (.int (7 : Int32)), .val (.int v127), .val (.int v130), .val (.int v133), .val (.int v136), .val (.ref b210), .unset, .unset] [(.int (8 : Int32)), (.int p4), (.int (6 : Int32)), (.ref b210)])) _
      refine XS.iushr X221.here hx rfl (hb hby at_167) rfl ?_
      show Steps p.tables e below (T221.setTop (mkF m 168 #[.val (.int p0), .val (.int p1), .val (.int p2), .val (.int p3), .val (.int p4), .val (.int p5), .val (.int (7 : Int32)), .val (.int v127), .val (.int v130), .val (.int v133), .val (.int v136), .val (.ref b210), .unset, .unset] [(.int ((p4.toUInt32 >>> ((8 : Int32) &&& 31).toUInt32).toInt32)), (.int (6 : Int32)), (.ref b210)])) _
      refine XS.i2b X221.here hx rfl (hb hby at_168) rfl ?_
      exact k
    obtain ⟨cl224, Ar224, q224, S224, N224, H224, G224⟩ := id V_b210_221
    obtain ⟨T223, h223, X223, e223, W223, st223⟩ := stB X221 hx hZ e221 Ar224 (j := (6 : Int32)) (inb_of (j := (6 : Int32)) S224 ⟨by decide, by decide⟩) (g := (mkF m 169 #[.val (.int p0), .val (.int p1), .val (.int p2), .val (.int p3), .val (.int p4), .val (.int p5), .val (.int (7 : Int32)), .val (.int v127), .val (.int v130), .val (.int v133), .val (.int v136), .val (.ref b210), .unset, .unset] [(.int (((p4.toUInt32 >>> ((8 : Int32) &&& 31).toUInt32).toInt32).toInt8.toInt32)), (.int (6 : Int32)), (.ref b210)])) rfl rfl (hb hby at_169)
    have V_b210_223 := Arv.set Ar224 q224 S224 N224 H224 G224 (fits_nar_byte _) W223 6 rfl (Nat.le_of_ble_eq_true rfl)
    have N223 := Fr.snoc X223 N221 ge_b210
    have sz223 : n0 ≤ h223.size := Nat.le_trans sz221 (Nat.le_of_eq W223.size.symm)
    refine Go.st (U' := T223.setTop (mkF m 170 #[.val (.int p0), .val (.int p1), .val (.int p2), .val (.int p3), .val (.int p4), .val (.int p5), .val (.int (7 : Int32)), .val (.int v127), .val (.int v130), .val (.int v133), .val (.int v136), .val (.ref b210), .unset, .unset] [])) (fun t k => st223 _ k) ?_
    refine Go.st (U' := T223.setTop (mkF m 195 #[.val (.int p0), .val (.int p1), .val (.int p2), .val (.int p3), .val (.int p4), .val (.int p5), .val (.int (7 : Int32)), .val (.int v127), .val (.int v130), .val (.int v133), .val (.int v136), .val (.ref b210), .val (.int ((((v127 ^^^ (71 : Int32)) ||| (v130 ^^^ (73 : Int32))) ||| (v133 ^^^ (79 : Int32))) ||| (v136 ^^^ (80 : Int32)))), .unset] [])) (fun t k => ?_) ?_
    · show Steps p.tables e below (T223.setTop (mkF m 170 #[.val (.int p0), .val (.int p1), .val (.int p2), .val (.int p3), .val (.int p4), .val (.int p5), .val (.int (7 : Int32)), .val (.int v127), .val (.int v130), .val (.int v133), .val (.int v136), .val (.ref b210), .unset, .unset] [])) _
      refine XS.iload X223.here hx rfl (hb hby at_170) rfl ?_
      show Steps p.tables e below (T223.setTop (mkF m 172 #[.val (.int p0), .val (.int p1), .val (.int p2), .val (.int p3), .val (.int p4), .val (.int p5), .val (.int (7 : Int32)), .val (.int v127), .val (.int v130), .val (.int v133), .val (.int v136), .val (.ref b210), .unset, .unset] [(.int v127)])) _
      refine XS.bipush X223.here hx rfl (hb hby at_172) ?_
      show Steps p.tables e below (T223.setTop (mkF m 174 #[.val (.int p0), .val (.int p1), .val (.int p2), .val (.int p3), .val (.int p4), .val (.int p5), .val (.int (7 : Int32)), .val (.int v127), .val (.int v130), .val (.int v133), .val (.int v136), .val (.ref b210), .unset, .unset] [(.int (71 : Int32)), (.int v127)])) _
      refine XS.ixor X223.here hx rfl (hb hby at_174) rfl ?_
      show Steps p.tables e below (T223.setTop (mkF m 175 #[.val (.int p0), .val (.int p1), .val (.int p2), .val (.int p3), .val (.int p4), .val (.int p5), .val (.int (7 : Int32)), .val (.int v127), .val (.int v130), .val (.int v133), .val (.int v136), .val (.ref b210), .unset, .unset] [(.int (v127 ^^^ (71 : Int32)))])) _
      refine XS.iload X223.here hx rfl (hb hby at_175) rfl ?_
      show Steps p.tables e below (T223.setTop (mkF m 177 #[.val (.int p0), .val (.int p1), .val (.int p2), .val (.int p3), .val (.int p4), .val (.int p5), .val (.int (7 : Int32)), .val (.int v127), .val (.int v130), .val (.int v133), .val (.int v136), .val (.ref b210), .unset, .unset] [(.int v130), (.int (v127 ^^^ (71 : Int32)))])) _
      refine XS.bipush X223.here hx rfl (hb hby at_177) ?_
      show Steps p.tables e below (T223.setTop (mkF m 179 #[.val (.int p0), .val (.int p1), .val (.int p2), .val (.int p3), .val (.int p4), .val (.int p5), .val (.int (7 : Int32)), .val (.int v127), .val (.int v130), .val (.int v133), .val (.int v136), .val (.ref b210), .unset, .unset] [(.int (73 : Int32)), (.int v130), (.int (v127 ^^^ (71 : Int32)))])) _
      refine XS.ixor X223.here hx rfl (hb hby at_179) rfl ?_
      show Steps p.tables e below (T223.setTop (mkF m 180 #[.val (.int p0), .val (.int p1), .val (.int p2), .val (.int p3), .val (.int p4), .val (.int p5), .val (.int (7 : Int32)), .val (.int v127), .val (.int v130), .val (.int v133), .val (.int v136), .val (.ref b210), .unset, .unset] [(.int (v130 ^^^ (73 : Int32))), (.int (v127 ^^^ (71 : Int32)))])) _
      refine XS.ior X223.here hx rfl (hb hby at_180) rfl ?_
      show Steps p.tables e below (T223.setTop (mkF m 181 #[.val (.int p0), .val (.int p1), .val (.int p2), .val (.int p3), .val (.int p4), .val (.int p5), .val (.int (7 : Int32)), .val (.int v127), .val (.int v130), .val (.int v133), .val (.int v136), .val (.ref b210), .unset, .unset] [(.int ((v127 ^^^ (71 : Int32)) ||| (v130 ^^^ (73 : Int32))))])) _
      refine XS.iload X223.here hx rfl (hb hby at_181) rfl ?_
      show Steps p.tables e below (T223.setTop (mkF m 183 #[.val (.int p0), .val (.int p1), .val (.int p2), .val (.int p3), .val (.int p4), .val (.int p5), .val (.int (7 : Int32)), .val (.int v127), .val (.int v130), .val (.int v133), .val (.int v136), .val (.ref b210), .unset, .unset] [(.int v133), (.int ((v127 ^^^ (71 : Int32)) ||| (v130 ^^^ (73 : Int32))))])) _
      refine XS.bipush X223.here hx rfl (hb hby at_183) ?_
      show Steps p.tables e below (T223.setTop (mkF m 185 #[.val (.int p0), .val (.int p1), .val (.int p2), .val (.int p3), .val (.int p4), .val (.int p5), .val (.int (7 : Int32)), .val (.int v127), .val (.int v130), .val (.int v133), .val (.int v136), .val (.ref b210), .unset, .unset] [(.int (79 : Int32)), (.int v133), (.int ((v127 ^^^ (71 : Int32)) ||| (v130 ^^^ (73 : Int32))))])) _
      refine XS.ixor X223.here hx rfl (hb hby at_185) rfl ?_
      show Steps p.tables e below (T223.setTop (mkF m 186 #[.val (.int p0), .val (.int p1), .val (.int p2), .val (.int p3), .val (.int p4), .val (.int p5), .val (.int (7 : Int32)), .val (.int v127), .val (.int v130), .val (.int v133), .val (.int v136), .val (.ref b210), .unset, .unset] [(.int (v133 ^^^ (79 : Int32))), (.int ((v127 ^^^ (71 : Int32)) ||| (v130 ^^^ (73 : Int32))))])) _
      refine XS.ior X223.here hx rfl (hb hby at_186) rfl ?_
      show Steps p.tables e below (T223.setTop (mkF m 187 #[.val (.int p0), .val (.int p1), .val (.int p2), .val (.int p3), .val (.int p4), .val (.int p5), .val (.int (7 : Int32)), .val (.int v127), .val (.int v130), .val (.int v133), .val (.int v136), .val (.ref b210), .unset, .unset] [(.int (((v127 ^^^ (71 : Int32)) ||| (v130 ^^^ (73 : Int32))) ||| (v133 ^^^ (79 : Int32))))])) _
      refine XS.iload X223.here hx rfl (hb hby at_187) rfl ?_
      show Steps p.tables e below (T223.setTop (mkF m 189 #[.val (.int p0), .val (.int p1), .val (.int p2), .val (.int p3), .val (.int p4), .val (.int p5), .val (.int (7 : Int32)), .val (.int v127), .val (.int v130), .val (.int v133), .val (.int v136), .val (.ref b210), .unset, .unset] [(.int v136), (.int (((v127 ^^^ (71 : Int32)) ||| (v130 ^^^ (73 : Int32))) ||| (v133 ^^^ (79 : Int32))))])) _
      refine XS.bipush X223.here hx rfl (hb hby at_189) ?_
      show Steps p.tables e below (T223.setTop (mkF m 191 #[.val (.int p0), .val (.int p1), .val (.int p2), .val (.int p3), .val (.int p4), .val (.int p5), .val (.int (7 : Int32)), .val (.int v127), .val (.int v130), .val (.int v133), .val (.int v136), .val (.ref b210), .unset, .unset] [(.int (80 : Int32)), (.int v136), (.int (((v127 ^^^ (71 : Int32)) ||| (v130 ^^^ (73 : Int32))) ||| (v133 ^^^ (79 : Int32))))])) _
      refine XS.ixor X223.here hx rfl (hb hby at_191) rfl ?_
      show Steps p.tables e below (T223.setTop (mkF m 192 #[.val (.int p0), .val (.int p1), .val (.int p2), .val (.int p3), .val (.int p4), .val (.int p5), .val (.int (7 : Int32)), .val (.int v127), .val (.int v130), .val (.int v133), .val (.int v136), .val (.ref b210), .unset, .unset] [(.int (v136 ^^^ (80 : Int32))), (.int (((v127 ^^^ (71 : Int32)) ||| (v130 ^^^ (73 : Int32))) ||| (v133 ^^^ (79 : Int32))))])) _
      refine XS.ior X223.here hx rfl (hb hby at_192) rfl ?_
      show Steps p.tables e below (T223.setTop (mkF m 193 #[.val (.int p0), .val (.int p1), .val (.int p2), .val (.int p3), .val (.int p4), .val (.int p5), .val (.int (7 : Int32)), .val (.int v127), .val (.int v130), .val (.int v133), .val (.int v136), .val (.ref b210), .unset, .unset] [(.int ((((v127 ^^^ (71 : Int32)) ||| (v130 ^^^ (73 : Int32))) ||| (v133 ^^^ (79 : Int32))) ||| (v136 ^^^ (80 : Int32))))])) _
      refine XS.istore X223.here hx rfl (hb hby at_193) rfl (l' := #[.val (.int p0), .val (.int p1), .val (.int p2), .val (.int p3), .val (.int p4), .val (.int p5), .val (.int (7 : Int32)), .val (.int v127), .val (.int v130), .val (.int v133), .val (.int v136), .val (.ref b210), .val (.int ((((v127 ^^^ (71 : Int32)) ||| (v130 ^^^ (73 : Int32))) ||| (v133 ^^^ (79 : Int32))) ||| (v136 ^^^ (80 : Int32)))), .unset]) rfl ?_
      exact k
    generalize hv_v225 : ((((v127 ^^^ (71 : Int32)) ||| (v130 ^^^ (73 : Int32))) ||| (v133 ^^^ (79 : Int32))) ||| (v136 ^^^ (80 : Int32))) = v225
    refine Go.st (U' := T223.setTop (mkF m 203 #[.val (.int p0), .val (.int p1), .val (.int p2), .val (.int p3), .val (.int p4), .val (.int p5), .val (.int (7 : Int32)), .val (.int v127), .val (.int v130), .val (.int v133), .val (.int v136), .val (.ref b210), .val (.int v225), .unset] [(.int v225)])) (fun t k => ?_) ?_
    · show Steps p.tables e below (T223.setTop (mkF m 195 #[.val (.int p0), .val (.int p1), .val (.int p2), .val (.int p3), .val (.int p4), .val (.int p5), .val (.int (7 : Int32)), .val (.int v127), .val (.int v130), .val (.int v133), .val (.int v136), .val (.ref b210), .val (.int v225), .unset] [])) _
      refine XS.iload X223.here hx rfl (hb hby at_195) rfl ?_
      show Steps p.tables e below (T223.setTop (mkF m 197 #[.val (.int p0), .val (.int p1), .val (.int p2), .val (.int p3), .val (.int p4), .val (.int p5), .val (.int (7 : Int32)), .val (.int v127), .val (.int v130), .val (.int v133), .val (.int v136), .val (.ref b210), .val (.int v225), .unset] [(.int (7 : Int32))])) _
      refine XS.iconst X223.here hx rfl (hb hby at_197) ?_
      show Steps p.tables e below (T223.setTop (mkF m 198 #[.val (.int p0), .val (.int p1), .val (.int p2), .val (.int p3), .val (.int p4), .val (.int p5), .val (.int (7 : Int32)), .val (.int v127), .val (.int v130), .val (.int v133), .val (.int v136), .val (.ref b210), .val (.int v225), .unset] [(.int (4 : Int32)), (.int (7 : Int32))])) _
      refine XS.icmpNo X223.here hx rfl (hb hby at_198) rfl (flt (by decide : ¬ ((7 : Int32) < (4 : Int32)))).1 ?_
      show Steps p.tables e below (T223.setTop (mkF m 201 #[.val (.int p0), .val (.int p1), .val (.int p2), .val (.int p3), .val (.int p4), .val (.int p5), .val (.int (7 : Int32)), .val (.int v127), .val (.int v130), .val (.int v133), .val (.int v136), .val (.ref b210), .val (.int v225), .unset] [])) _
      refine XS.iload X223.here hx rfl (hb hby at_201) rfl ?_
      exact k
    refine Go.join (P := fun (v227 : Int32) => v227 = (if v225 = (0 : Int32) then (1 : Int32) else (0 : Int32))) (F := fun (v227 : Int32) => T223.setTop (mkF m 211 #[.val (.int p0), .val (.int p1), .val (.int p2), .val (.int p3), .val (.int p4), .val (.int p5), .val (.int (7 : Int32)), .val (.int v127), .val (.int v130), .val (.int v133), .val (.int v136), .val (.ref b210), .val (.int v225), .unset] [(.int v227)])) (fun J228 => ?_) (fun v227 hv_v227 => ?_)
    · by_cases hc226 : v225 = (0 : Int32)
      · refine Go.st (U' := T223.setTop (mkF m 211 #[.val (.int p0), .val (.int p1), .val (.int p2), .val (.int p3), .val (.int p4), .val (.int p5), .val (.int (7 : Int32)), .val (.int v127), .val (.int v130), .val (.int v133), .val (.int v136), .val (.ref b210), .val (.int v225), .unset] [(.int (1 : Int32))])) (fun t k => ?_) ?_
        · show Steps p.tables e below (T223.setTop (mkF m 203 #[.val (.int p0), .val (.int p1), .val (.int p2), .val (.int p3), .val (.int p4), .val (.int p5), .val (.int (7 : Int32)), .val (.int v127), .val (.int v130), .val (.int v133), .val (.int v136), .val (.ref b210), .val (.int v225), .unset] [(.int v225)])) _
          refine XS.ifNo X223.here hx rfl (hb hby at_203) rfl ((if0 _ _).trans (teq hc226).2) ?_
          show Steps p.tables e below (T223.setTop (mkF m 206 #[.val (.int p0), .val (.int p1), .val (.int p2), .val (.int p3), .val (.int p4), .val (.int p5), .val (.int (7 : Int32)), .val (.int v127), .val (.int v130), .val (.int v133), .val (.int v136), .val (.ref b210), .val (.int v225), .unset] [])) _
          refine XS.iconst X223.here hx rfl (hb hby at_206) ?_
          show Steps p.tables e below (T223.setTop (mkF m 207 #[.val (.int p0), .val (.int p1), .val (.int p2), .val (.int p3), .val (.int p4), .val (.int p5), .val (.int (7 : Int32)), .val (.int v127), .val (.int v130), .val (.int v133), .val (.int v136), .val (.ref b210), .val (.int v225), .unset] [(.int (1 : Int32))])) _
          refine XS.goto X223.here hx rfl (pc0 := 207) (pc' := 211) rfl (hb hby at_207) (by decide) (by decide) ?_
          exact k
        exact J228 _ (by first | rfl | simp only [if_pos hc226])
      · refine Go.st (U' := T223.setTop (mkF m 211 #[.val (.int p0), .val (.int p1), .val (.int p2), .val (.int p3), .val (.int p4), .val (.int p5), .val (.int (7 : Int32)), .val (.int v127), .val (.int v130), .val (.int v133), .val (.int v136), .val (.ref b210), .val (.int v225), .unset] [(.int (0 : Int32))])) (fun t k => ?_) ?_
        · show Steps p.tables e below (T223.setTop (mkF m 203 #[.val (.int p0), .val (.int p1), .val (.int p2), .val (.int p3), .val (.int p4), .val (.int p5), .val (.int (7 : Int32)), .val (.int v127), .val (.int v130), .val (.int v133), .val (.int v136), .val (.ref b210), .val (.int v225), .unset] [(.int v225)])) _
          refine XS.ifYes X223.here hx rfl (pc0 := 203) (pc' := 210) rfl (hb hby at_203) rfl ((if0 _ _).trans (feq hc226).2) (by decide) (by decide) ?_
          show Steps p.tables e below (T223.setTop (mkF m 210 #[.val (.int p0), .val (.int p1), .val (.int p2), .val (.int p3), .val (.int p4), .val (.int p5), .val (.int (7 : Int32)), .val (.int v127), .val (.int v130), .val (.int v133), .val (.int v136), .val (.ref b210), .val (.int v225), .unset] [])) _
          refine XS.iconst X223.here hx rfl (hb hby at_210) ?_
          exact k
        exact J228 _ (by first | rfl | simp only [if_neg hc226])
    refine Go.st (U' := T223.setTop (mkF m 215 #[.val (.int p0), .val (.int p1), .val (.int p2), .val (.int p3), .val (.int p4), .val (.int p5), .val (.int (7 : Int32)), .val (.int v127), .val (.int v130), .val (.int v133), .val (.int v136), .val (.ref b210), .val (.int v225), .val (.int v227)] [(.ref b210)])) (fun t k => ?_) ?_
    · show Steps p.tables e below (T223.setTop (mkF m 211 #[.val (.int p0), .val (.int p1), .val (.int p2), .val (.int p3), .val (.int p4), .val (.int p5), .val (.int (7 : Int32)), .val (.int v127), .val (.int v130), .val (.int v133), .val (.int v136), .val (.ref b210), .val (.int v225), .unset] [(.int v227)])) _
      refine XS.istore X223.here hx rfl (hb hby at_211) rfl (l' := #[.val (.int p0), .val (.int p1), .val (.int p2), .val (.int p3), .val (.int p4), .val (.int p5), .val (.int (7 : Int32)), .val (.int v127), .val (.int v130), .val (.int v133), .val (.int v136), .val (.ref b210), .val (.int v225), .val (.int v227)]) rfl ?_
      show Steps p.tables e below (T223.setTop (mkF m 213 #[.val (.int p0), .val (.int p1), .val (.int p2), .val (.int p3), .val (.int p4), .val (.int p5), .val (.int (7 : Int32)), .val (.int v127), .val (.int v130), .val (.int v133), .val (.int v136), .val (.ref b210), .val (.int v225), .val (.int v227)] [])) _
      refine XS.aload X223.here hx rfl (hb hby at_213) rfl rfl ?_
      exact k
    obtain ⟨_, _, ⟨T229, L229, k229, n229⟩, -, X229, ⟨Lc229, hQ229, l229, y229, z229⟩, st229⟩ := Jvm.LawKit.callS X223 hx (y := own_y0) hown (mvT hZ (own_w hw 1 rfl)) (mvT hZ (own_w hw 2 rfl)) (mvT hZ (own_w hw 3 rfl)) (mvT hZ (own_w hw 4 rfl)) (by decide) (backOf (W := 0) (rm1_7 l Z a0 hw [] b210 k210 (v127.toInt8.toInt32) (v130.toInt8.toInt32) (v133.toInt8.toInt32) (v136.toInt8.toInt32) ((((p2.toUInt32 >>> ((8 : Int32) &&& 31).toUInt32).toInt32).toInt8.toInt32).toInt8.toInt32) ((((p3.toUInt32 >>> ((8 : Int32) &&& 31).toUInt32).toInt32).toInt8.toInt32).toInt8.toInt32) ((((p4.toUInt32 >>> ((8 : Int32) &&& 31).toUInt32).toInt32).toInt8.toInt32).toInt8.toInt32) h223 n0 sz223 V_b210_223) hZ (own_w hw 4 rfl) (own_w hw 3 rfl) (by decide) (by decide)) (g := (mkF m 215 #[.val (.int p0), .val (.int p1), .val (.int p2), .val (.int p3), .val (.int p4), .val (.int p5), .val (.int (7 : Int32)), .val (.int v127), .val (.int v130), .val (.int v133), .val (.int v136), .val (.ref b210), .val (.int v225), .val (.int v227)] [(.ref b210)])) rfl (by rw [hml]; rfl) (argsL := [(.ref b210)]) (rest := []) (lenOf pd_0 rfl) rfl (by show 2 * 0 + _ ≤ _; exact Nat.le_of_eq rfl) (hb hby at_215) (fun _ _ => ⟨rfl, e223, (by decide : 1 + 0 ≤ _), (by decide : 7 + 0 ≤ _)⟩)
    dsimp only [Pt.U, Pt.locs, Pt.cells, Pt.slots] at X229 l229 y229 z229 st229 hQ229
    subst l229 y229 z229
    obtain ⟨rfl, N229q, e229⟩ := hQ229
    have N229 := Fr.app N223 N229q
    refine Go.st (U' := T229.setTop (mkF m 218 #[.val (.int p0), .val (.int p1), .val (.int p2), .val (.int p3), .val (.int p4), .val (.int p5), .val (.int (7 : Int32)), .val (.int v127), .val (.int v130), .val (.int v133), .val (.int v136), .val (.ref b210), .val (.int v225), .val (.int v227)] [(.int (g7 (v127.toInt8.toInt32) (v130.toInt8.toInt32) (v133.toInt8.toInt32) (v136.toInt8.toInt32)))])) (fun t k => st229 _ k) ?_
    refine Go.st (U' := T229.setTop (mkF m 228 #[.val (.int p0), .val (.int p1), .val (.int p2), .val (.int p3), .val (.int p4), .val (.int p5), .val (.int (7 : Int32)), .val (.int v127), .val (.int v130), .val (.int v133), .val (.int v136), .val (.ref b210), .val (.int v225), .val (.int v227)] [(.int (1 : Int32))])) (fun t k => ?_) ?_
    · show Steps p.tables e below (T229.setTop (mkF m 218 #[.val (.int p0), .val (.int p1), .val (.int p2), .val (.int p3), .val (.int p4), .val (.int p5), .val (.int (7 : Int32)), .val (.int v127), .val (.int v130), .val (.int v133), .val (.int v136), .val (.ref b210), .val (.int v225), .val (.int v227)] [(.int (g7 (v127.toInt8.toInt32) (v130.toInt8.toInt32) (v133.toInt8.toInt32) (v136.toInt8.toInt32)))])) _
      refine XS.iload X229.here hx rfl (hb hby at_218) rfl ?_
      show Steps p.tables e below (T229.setTop (mkF m 220 #[.val (.int p0), .val (.int p1), .val (.int p2), .val (.int p3), .val (.int p4), .val (.int p5), .val (.int (7 : Int32)), .val (.int v127), .val (.int v130), .val (.int v133), .val (.int v136), .val (.ref b210), .val (.int v225), .val (.int v227)] [(.int v227), (.int (g7 (v127.toInt8.toInt32) (v130.toInt8.toInt32) (v133.toInt8.toInt32) (v136.toInt8.toInt32)))])) _
      refine XS.icmpNo X229.here hx rfl (hb hby at_220) rfl (teq (own_law7 v127 v130 v133 v136 v225 v227 (own_bb (by decide) hv_v127) (own_bb (by decide) hv_v130) (own_bb (by decide) hv_v133) (own_bb (by decide) hv_v136) hv_v225 hv_v227 : (g7 (v127.toInt8.toInt32) (v130.toInt8.toInt32) (v133.toInt8.toInt32) (v136.toInt8.toInt32)) = v227)).2 ?_
      show Steps p.tables e below (T229.setTop (mkF m 223 #[.val (.int p0), .val (.int p1), .val (.int p2), .val (.int p3), .val (.int p4), .val (.int p5), .val (.int (7 : Int32)), .val (.int v127), .val (.int v130), .val (.int v133), .val (.int v136), .val (.ref b210), .val (.int v225), .val (.int v227)] [])) _
      refine XS.iconst X229.here hx rfl (hb hby at_223) ?_
      show Steps p.tables e below (T229.setTop (mkF m 224 #[.val (.int p0), .val (.int p1), .val (.int p2), .val (.int p3), .val (.int p4), .val (.int p5), .val (.int (7 : Int32)), .val (.int v127), .val (.int v130), .val (.int v133), .val (.int v136), .val (.ref b210), .val (.int v225), .val (.int v227)] [(.int (1 : Int32))])) _
      refine XS.goto X229.here hx rfl (pc0 := 224) (pc' := 228) rfl (hb hby at_224) (by decide) (by decide) ?_
      exact k
    refine own_ret (Q := Q0 Z p0 p1 p2 p3 p4 p5 h0 n0) (v := some (.int (1 : Int32))) X229 hlk (fun h => by rw [hrt] at h; cases h) (by decide) (by decide) ?_ (fun fs hr => retN X229 hx (t := .boolean) hrt (by simp) (hb hby at_228) hr)
    rw [e229]
    exact ⟨rfl, N229⟩
set_option maxRecDepth 65536 in
set_option maxHeartbeats 40000000 in
theorem comes_1 {Post : Tables → Env → Array Value → State → Outcome → State → Prop} (hpost : ∀ tb e args s v u, (limb_1_1.after args s (.returned v) u = true ∧ limb_1_2.after args s (.returned v) u = true ∧ True) → FrameEnd s (.returned v) u (Jvm.fieldLocs frame_1_writes args s ++ Jvm.arrayLocs frame_1_arrays args s ++ Jvm.staticLocs frame_1_statics s) 16 128 → Post tb e args s (.returned v) u) :
    ArmFor flags0 classFile x code maxLocals ret World_1 tables_1 room_1 Calls_1 rest_1 Pre_1 Post := by
  intro l hfl _ _ p e ha hc hk s m args below hf hA hF happ hP
  obtain ⟨hcalls, hrest, hpre⟩ := hP
  obtain ⟨-, -, -, hnamed, -, -, -, hat⟩ := (Spec.applies_iff hf).mp happ
  obtain ⟨hg, hn⟩ := and_e (Cond.before_iff.mp (show (Jvm.Cond.and given_1 narrow_1).before args s = true from hpre))
  obtain ⟨gg1, gg2⟩ := and_e hg
  obtain ⟨gg3, gg4⟩ := and_e gg2
  obtain ⟨gg5, gg6⟩ := and_e gg4
  obtain ⟨gg7, gg8⟩ := and_e gg6
  obtain ⟨gg9, gg10⟩ := and_e gg8
  obtain ⟨gg11, gg12⟩ := and_e gg10
  obtain ⟨w0, w1, w2, w3, w4, w5, rfl⟩ : ∃ w0 w1 w2 w3 w4 w5 : Value, args = #[w0, w1, w2, w3, w4, w5] := by
    have hs : args.size = 6 := by simpa [Cond.value, given_1] using gg1
    obtain ⟨L⟩ := args
    match L, hs with
    | [w0, w1, w2, w3, w4, w5], _ => exact ⟨w0, w1, w2, w3, w4, w5, rfl⟩
  have hw := fun d (hd : d ∈ tables_1) => atoms_spec (ws := Jvm.Cond.code x code maxLocals ret :: tables_1) hat d (List.mem_cons_of_mem _ hd)
  obtain ⟨i0, ei0⟩ := is_v gg3
  obtain rfl : w0 = (.int i0) := Option.some.inj ei0
  obtain ⟨i1, ei1⟩ := is_v gg5
  obtain rfl : w1 = (.int i1) := Option.some.inj ei1
  obtain ⟨i2, ei2⟩ := is_v gg7
  obtain rfl : w2 = (.int i2) := Option.some.inj ei2
  obtain ⟨i3, ei3⟩ := is_v gg9
  obtain rfl : w3 = (.int i3) := Option.some.inj ei3
  obtain ⟨i4, ei4⟩ := is_v gg11
  obtain rfl : w4 = (.int i4) := Option.some.inj ei4
  obtain ⟨i5, ei5⟩ := is_v gg12
  obtain rfl : w5 = (.int i5) := Option.some.inj ei5
  obtain ⟨n, o, h1, h2, h3, _, L, rfl, ⟨rfl, N⟩, hq⟩ := rm0 l s _ hw tables_1 i0 i1 i2 i3 i4 i5 s.heap s.heap.size (Nat.le_refl _)  p e ha hc hk s m _ below hf ((Spec.applies_iff_loose hf).mp happ).1 ⟨rfl, State.Warmed39.refl s, rfl⟩ trivial
  refine ⟨n, _, h1, h2, h3, hpost _ _ _ _ _ _ ⟨Cond.after_iff.mpr rfl, Cond.after_iff.mpr (eq_i res_at (Term.int_eval (1)) rfl), trivial⟩ ⟨hq.1, hq.2.1, (hq.2.2.sift fun y hy => Or.inr (N y hy)).mono (by decide) (by decide)⟩⟩
theorem main_1_1 : Claimed_1_1 := comes_1 fun _ _ _ _ _ _ h hF => ⟨h.1, hF⟩
theorem main_1_2 : Claimed_1_2 := comes_1 fun _ _ _ _ _ _ h hF => ⟨h.2.1, hF⟩
end Jvm.Pilot.@@N@@
namespace Jvm.Pilot.@@N@@
open Jvm Jvm.ClassFile Sem Op Lib Jvm.Free Jvm.Stand Jvm.Pilot.@@N@@.Jvm.D
/-! MADE BY PROGRAM (witnessworld.py) out of the Statement's table words and the real class files: 10 classes; the members and pool entries that the words name. The judged class is class 1, her method 1. -/
namespace start1
open Jvm.ClassFile
def u (s : String) : CpInfo := .utf8 (stringToUtf16 s)
/-- a pool by its gaps: so many unusable entries, then the entry; so many at the end -/
def gap : Nat → List CpInfo → List CpInfo
  | 0, r => r
  | n + 1, r => .unusable :: gap n r
def poolList (es : List (Nat × CpInfo)) (last : Nat) : List CpInfo := es.foldr (fun e r => gap e.1 (e.2 :: r)) (gap last [])
def pool (es : List (Nat × CpInfo)) (last : Nat) : Array CpInfo := ⟨poolList es last⟩
def fileOf (pool : Array CpInfo) (this : Nat) (attrs : Array Attribute := #[]) (ms : Array MethodInfo := #[]) (fl : Nat := 33) (sup : Nat := 0) (ifs : Array Nat := #[]) (fds : Array FieldInfo := #[]) : ClassFile where
  minorVersion := 0
  majorVersion := 65
  constantPool := pool
  accessFlags := fl
  thisClass := this
  superClass := sup
  interfaces := ifs
  fields := fds
  methods := ms
  attributes := attrs
def plain (name : String) (sup : Option ClassId) : Class where
  name := name
  kind := .ordinary
  loader := none
  accessFlags := 33
  super := sup
  interfaces := #[]
  cf := none
  fields := #[]
  methods := #[]
  instanceTypes := #[]
  staticTypes := #[]
  resolved := #[]
  callSites := []
  init := .initialized
  statics := none
  mirror := none

def pool0 : Array CpInfo := pool [(5, u "<init>"), (0, u "()V"), (1, .class_ 10), (1, u "java/lang/Object")] 113

def k0m0 : Method := { name := "<init>", desc := "()V", sig := { parameters := [], returnType := none }, accessFlags := 1, code := none }
/-- java/lang/Object -/
def k0 : Class := { plain "java/lang/Object" none with
  accessFlags := 33
  interfaces := #[]
  cf := some (fileOf pool0 8 #[] #[{ accessFlags := 1, nameIndex := 5, descriptorIndex := 6, attributes := #[] }] 33 0 #[] #[])
  fields := #[]
  methods := #[k0m0]
  instanceTypes := #[]
  staticTypes := #[]
  resolved := Array.replicate 124 none
  statics := none }

def pool1 : Array CpInfo := pool [(2, .class_ 4), (1, u "java/lang/Object"), (0, u "<init>"), (0, u "()V"), (0, .methodref 8 9), (0, .class_ 10), (0, .nameAndType 11 12), (0, u "com/example/portcullis/portcullis/io/MessageHeader"), (0, u "startsWithMagic"), (0, u "([B)Z"), (0, .class_ 14), (0, u "com/example/portcullis/portcullis/io/MessageHeaderStartsWithMagicPinLaw"), (2, u "law"), (0, u "(IIIIII)Z")] 5

def k1m0 : Method := { name := "<init>", desc := "()V", sig := { parameters := [], returnType := none }, accessFlags := 1, code := none }
def k1c1 : Code := { maxStack := 4, maxLocals := 14, code := code, exceptionTable := #[], attributes := #[] }
def k1m1 : Method := { name := "law", desc := "(IIIIII)Z", sig := { parameters := [.int, .int, .int, .int, .int, .int], returnType := some .boolean }, accessFlags := 9, code := some k1c1 }
/-- com/example/portcullis/portcullis/io/MessageHeaderStartsWithMagicPinLaw -/
def k1 : Class := { plain "com/example/portcullis/portcullis/io/MessageHeaderStartsWithMagicPinLaw" (some 0) with
  accessFlags := 49
  interfaces := #[]
  cf := some (fileOf pool1 13 #[] #[{ accessFlags := 1, nameIndex := 5, descriptorIndex := 6, attributes := #[] }, { accessFlags := 9, nameIndex := 17, descriptorIndex := 18, attributes := #[] }] 49 2 #[] #[])
  fields := #[]
  methods := #[k1m0, k1m1]
  instanceTypes := #[]
  staticTypes := #[]
  resolved := Array.replicate 24 none
  statics := none }

def pool2 : Array CpInfo := pool [(2, .class_ 4), (1, u "java/lang/Object"), (0, u "<init>"), (0, u "()V"), (0, .class_ 8), (0, u "java/lang/Record")] 13

def k2m0 : Method := { name := "<init>", desc := "()V", sig := { parameters := [], returnType := none }, accessFlags := 4, code := none }
/-- java/lang/Record -/
def k2 : Class := { plain "java/lang/Record" (some 0) with
  accessFlags := 1057
  interfaces := #[]
  cf := some (fileOf pool2 7 #[] #[{ accessFlags := 4, nameIndex := 5, descriptorIndex := 6, attributes := #[] }] 1057 2 #[] #[])
  fields := #[]
  methods := #[k2m0]
  instanceTypes := #[]
  staticTypes := #[]
  resolved := Array.replicate 22 none
  statics := none }

def pool3 : Array CpInfo := pool [(2, .class_ 4), (1, u "java/lang/Record"), (3, .class_ 10), (1, u "com/example/portcullis/portcullis/io/MessageHeader"), (0, u "type"), (0, u "Lcom/example/portcullis/portcullis/io/MessageType;"), (2, u "littleEndian"), (0, u "Z"), (2, u "bodySize"), (0, u "J"), (2, u "startsWithMagic"), (0, u "([B)Z"), (100, u "SIZE"), (0, u "I"), (2, u "FLAG_LITTLE_ENDIAN"), (1, u "FLAG_FRAGMENT")] 34

def k3c0 : Code := { maxStack := 2, maxLocals := 1, code := prog_22_method_2_code, exceptionTable := #[], attributes := #[] }
def k3m0 : Method := { name := "startsWithMagic", desc := "([B)Z", sig := { parameters := [(.array .byte)], returnType := some .boolean }, accessFlags := 9, code := some k3c0 }
/-- com/example/portcullis/portcullis/io/MessageHeader -/
def k3 : Class := { plain "com/example/portcullis/portcullis/io/MessageHeader" (some 2) with
  accessFlags := 49
  interfaces := #[]
  cf := some (fileOf pool3 8 #[] #[{ accessFlags := 9, nameIndex := 23, descriptorIndex := 24, attributes := #[] }] 49 2 #[] #[{ accessFlags := 18, nameIndex := 11, descriptorIndex := 12, attributes := #[] }, { accessFlags := 18, nameIndex := 15, descriptorIndex := 16, attributes := #[] }, { accessFlags := 18, nameIndex := 19, descriptorIndex := 20, attributes := #[] }, { accessFlags := 25, nameIndex := 125, descriptorIndex := 126, attributes := #[] }, { accessFlags := 26, nameIndex := 129, descriptorIndex := 126, attributes := #[] }, { accessFlags := 26, nameIndex := 131, descriptorIndex := 126, attributes := #[] }])
  fields := #[{ name := "type", type := (.object "com/example/portcullis/portcullis/io/MessageType"), accessFlags := 18, slot := 0, constantValue := 0 }, { name := "littleEndian", type := .boolean, accessFlags := 18, slot := 1, constantValue := 0 }, { name := "bodySize", type := .long, accessFlags := 18, slot := 2, constantValue := 0 }, { name := "SIZE", type := .int, accessFlags := 25, slot := 0, constantValue := 0 }, { name := "FLAG_LITTLE_ENDIAN", type := .int, accessFlags := 26, slot := 1, constantValue := 0 }, { name := "FLAG_FRAGMENT", type := .int, accessFlags := 26, slot := 2, constantValue := 0 }]
  methods := #[k3m0]
  instanceTypes := #[(.object "com/example/portcullis/portcullis/io/MessageType"), .boolean, .long]
  staticTypes := #[.int, .int, .int]
  resolved := Array.replicate 166 none
  statics := none }

def pool4 : Array CpInfo := pool [(1, u "java/lang/Cloneable"), (0, .class_ 1), (0, u "java/lang/Object"), (0, .class_ 3)] 3

/-- java/lang/Cloneable -/
def k4 : Class := { plain "java/lang/Cloneable" (some 0) with
  accessFlags := 1537
  interfaces := #[]
  cf := some (fileOf pool4 2 #[] #[] 1537 4 #[] #[])
  fields := #[]
  methods := #[]
  instanceTypes := #[]
  staticTypes := #[]
  resolved := Array.replicate 8 none
  statics := none }

def pool5 : Array CpInfo := pool [(1, u "java/io/Serializable"), (0, .class_ 1), (0, u "java/lang/Object"), (0, .class_ 3)] 3

/-- java/io/Serializable -/
def k5 : Class := { plain "java/io/Serializable" (some 0) with
  accessFlags := 1537
  interfaces := #[]
  cf := some (fileOf pool5 2 #[] #[] 1537 4 #[] #[])
  fields := #[]
  methods := #[]
  instanceTypes := #[]
  staticTypes := #[]
  resolved := Array.replicate 8 none
  statics := none }

/-- the primitive byte -/
def k6 : Class := { plain "byte" none with kind := .primitive 'B', accessFlags := 0x411 }
/-- [B -/
def k7 : Class := { plain "[B" (some 0) with kind := .array 6 .byte, interfaces := #[4, 5], accessFlags := 1041 }

/-- the primitive int -/
def k8 : Class := { plain "int" none with kind := .primitive 'I', accessFlags := 0x411 }
/-- [I -/
def k9 : Class := { plain "[I" (some 0) with kind := .array 8 .int, interfaces := #[4, 5], accessFlags := 1041 }

def heap : Heap := #[]
def classes : Array Class := #[k0, k1, k2, k3, k4, k5, k6, k7, k8, k9]
def interned : List (Array UInt16 × Addr) := []
def slotsUsed : Nat := 0
def theMethod : MethodId := ⟨1, 1⟩
def args0 : Array Value := #[.int 5, .int 6, .int 7, .int 8, .int 9, .int 10]
def aboutOver (below : List Frame) : State where
  vm := { classes := classes, interned := interned.toArray }
  heap := heap
  slotsUsed := slotsUsed
  threads := #[{ frames := .invoking theMethod args0 :: below }]
def below0 : List Frame := [.native { method := ⟨0, 0⟩, args := #[] }]
def about1 : State := aboutOver below0
def p0 : Program := .bare "" "" ""
def e0 : Env := launch0.env 0 0 0
theorem w_frames : about1.frames = Frame.invoking theMethod args0 :: below0 := rfl
set_option maxRecDepth 65536 in
theorem w_args : argsFit about1.vm theMethod args0 = true := by decide +kernel
set_option maxRecDepth 65536 in
theorem w_heap : heapFits about1 = true := by decide +kernel
set_option maxRecDepth 65536 in
theorem w_runnable : about1.curStatus? = some .runnable := by decide +kernel
set_option maxRecDepth 65536 in
theorem w_alone : about1.alone = true := by decide +kernel
set_option maxRecDepth 65536 in
theorem w_named : about1.methodNamed? x = some theMethod := by decide +kernel
set_option maxRecDepth 65536 in
theorem w_hears : about1.hears theMethod below0 = true := by decide +kernel
set_option maxRecDepth 65536 in
theorem w_ripe : about1.ripe theMethod args0 below0 = true := by decide +kernel
theorem w_running : about1.status = .running := rfl
set_option maxRecDepth 65536 in
theorem w_room : about1.hasRoom e0.platform room_1 = true :=
  launch0.hasRoom_least _ room_1 (by decide +kernel) (by decide +kernel) (by decide +kernel) (by decide +kernel) (by decide +kernel) (by decide +kernel)
theorem allAtoms_all (ts : List Jvm.Cond) (a : Array Jvm.Value) (st : Jvm.State) : (allAtoms ts).before a st = ts.all (fun c => c.before a st) := by
  induction ts with
  | nil => rfl
  | cons c t ih =>
    show (Jvm.Cond.and c (allAtoms t)).before a st = _
    rw [Jvm.Cond.before_and, ih, List.all_cons]
def words1 : List Jvm.Cond := Jvm.Cond.code x code maxLocals ret :: tables_1
/-- a 'code' word, met by the world's own term for the bytes: nothing is compared byte by byte -/
theorem code_word {y : MethodName} {bytes : ByteArray} {mx : Nat} {rt : Option FieldType} {a : Array Value} {s : State} {m : MethodId} {meth : Method} {c : Code} (h1 : s.methodNamed? y = some m) (h2 : s.vm.method? m = some meth) (h3 : meth.code = some c) (h4 : c.code = bytes)
    (h5 : (c.maxLocals == mx && c.exceptionTable.isEmpty && decide (c.maxStack ≤ mostOperands) && decide (meth.sig.returnType = rt) && !meth.locks && decide (parseMethodDescriptor y.desc = some meth.sig)) = true) : (Jvm.Cond.code y bytes mx rt).before a s = true := by
  simp only [Bool.and_eq_true, beq_iff_eq, Bool.not_eq_true', decide_eq_true_eq] at h5
  obtain ⟨⟨⟨⟨⟨g1, g2⟩, g3⟩, g4⟩, g5⟩, g6⟩ := h5
  simp [Cond.before, Cond.holds, Cond.value, h1, h2, h3, h4, g1, g2, g3, g4, g5, g6]
def isCode : Jvm.Cond → Bool
  | .code _ _ _ _ => true
  | _ => false
theorem all_split {L : List Jvm.Cond} {P : Jvm.Cond → Bool} (h1 : L.all (fun c => isCode c || P c) = true) (h2 : ∀ c ∈ L.filter isCode, P c = true) : L.all P = true := by
  refine List.all_eq_true.mpr fun c hc => ?_
  have h := List.all_eq_true.mp h1 c hc
  rcases Bool.eq_false_or_eq_true (isCode c) with hi | hi
  · exact h2 c (List.mem_filter.mpr ⟨hc, hi⟩)
  · simpa [hi] using h
set_option maxRecDepth 65536 in
theorem w_c0 : (Jvm.Cond.code x code maxLocals ret).before args0 about1 = true := code_word (m := ⟨1, 1⟩) (meth := k1m1) (c := k1c1) (by decide +kernel) rfl rfl rfl (by decide +kernel)
set_option maxRecDepth 65536 in
theorem w_c1 : (Jvm.Cond.code ({ cls := "com/example/portcullis/portcullis/io/MessageHeader", name := "startsWithMagic", desc := "([B)Z" } : Jvm.MethodName) prog_22_method_2_code (1 : Nat) (Option.some Jvm.ClassFile.FieldType.boolean)).before args0 about1 = true := code_word (m := ⟨3, 0⟩) (meth := k3m0) (c := k3c0) (by decide +kernel) rfl rfl rfl (by decide +kernel)
def codes1 : List Jvm.Cond := [Jvm.Cond.code x code maxLocals ret, Jvm.Cond.code ({ cls := "com/example/portcullis/portcullis/io/MessageHeader", name := "startsWithMagic", desc := "([B)Z" } : Jvm.MethodName) prog_22_method_2_code (1 : Nat) (Option.some Jvm.ClassFile.FieldType.boolean)]
set_option maxRecDepth 65536 in
theorem codes_eq : words1.filter isCode = codes1 := rfl
theorem w_codes : ∀ c ∈ words1.filter isCode, c.before args0 about1 = true := by
  rw [codes_eq]
  intro c hc
  simp only [codes1, List.mem_cons, List.not_mem_nil, or_false] at hc
  rcases hc with rfl | rfl
  · exact w_c0
  · exact w_c1
set_option maxRecDepth 65536 in
theorem w_t1 : words1.all (fun c => isCode c || c.before args0 about1) = true := by decide +kernel
theorem w_tables : (allAtoms (Jvm.Cond.code x code maxLocals ret :: tables_1)).before args0 about1 = true := by
  rw [allAtoms_all]
  show words1.all (fun c => c.before args0 about1) = true
  refine all_split ?_ w_codes
  rw [w_t1]
set_option maxRecDepth 65536 in
theorem w_case : (Jvm.Cond.and given_1 narrow_1).before args0 about1 = true := by decide +kernel
theorem w_applies : (headSpec (Jvm.Cond.code x code maxLocals ret :: tables_1) room_1).applies x e0.platform about1 = true :=
  (Spec.applies_iff w_frames).mpr ⟨w_running, w_runnable, w_alone, w_named, w_hears, w_ripe, w_room, w_tables⟩
theorem atStart : AtStart classFile x code maxLocals ret World_1 tables_1 room_1 Calls_1 rest_1 Pre_1 launch0 p0 e0 about1 theMethod args0 below0 :=
  ⟨lists_1, trivial, launch0.admits_env _ _ _, launch0.least_env, fairChoices_fair.cas, fairChoices_fair.clock, w_frames, w_args, w_heap, w_applies, trivial, trivial, w_case⟩
end start1
theorem witness_1 : WitnessClaimed_1 := ⟨start1.p0, start1.e0, start1.about1, start1.theMethod, start1.args0, start1.below0, start1.atStart⟩
end Jvm.Pilot.@@N@@
