import JvmDerived
import JvmDerived.Pilot.@@N@@Statement
import JvmDerived.Pilot.@@N@@Code
set_option linter.unusedVariables false
set_option linter.unusedSimpArgs false
namespace Jvm.Pilot.@@N@@
open Jvm Jvm.ClassFile Sem Op Lib Jvm.Free Jvm.Stand Jvm.LawKit Jvm.RoadKit Bundle Jvm.Pilot.@@N@@.Jvm.D
theorem own_w {Z : State} {a0 : Array Value} {d : Jvm.Cond} (hw : ∀ d ∈ tables_1, d.before a0 Z = true) (i : Nat) (h : tables_1[i]? = some d) : d.before a0 Z = true := hw d (List.mem_of_getElem? h)
/-- from U the run comes to an end of which G says -/
def Go (p : Program) (e : Env) (below : List Frame) (G : State → Outcome → Prop) (U : State) : Prop := ∃ s₂ o, Steps p.tables e below U s₂ ∧ s₂.status = .running ∧ Ended s₂ below o ∧ G s₂ o
theorem Go.st {p : Program} {e : Env} {below : List Frame} {G : State → Outcome → Prop} {U U' : State} (h : ∀ t, Steps p.tables e below U' t → Steps p.tables e below U t) (k : Go p e below G U') : Go p e below G U := by
  obtain ⟨t, o, h1, r⟩ := k
  exact ⟨t, o, h _ h1, r⟩
theorem Go.tr {p : Program} {e : Env} {below : List Frame} {G : State → Outcome → Prop} {U U' : State} (h : Steps p.tables e below U U') (k : Go p e below G U') : Go p e below G U := by
  obtain ⟨t, o, h1, r⟩ := k
  exact ⟨t, o, h.trans h1, r⟩
theorem Go.join {p : Program} {e : Env} {below : List Frame} {G : State → Outcome → Prop} {U : State} {α : Type} {P : α → Prop} {F : α → State} (h2 : (∀ v, P v → Go p e below G (F v)) → Go p e below G U) (h1 : ∀ v, P v → Go p e below G (F v)) : Go p e below G U := h2 h1
theorem Go.join2 {p : Program} {e : Env} {below : List Frame} {G : State → Outcome → Prop} {U : State} {α β : Type} {P : α → β → Prop} {F : α → β → State} (h2 : (∀ v w, P v w → Go p e below G (F v w)) → Go p e below G U) (h1 : ∀ v w, P v w → Go p e below G (F v w)) : Go p e below G U := h2 h1
theorem Go.join3 {p : Program} {e : Env} {below : List Frame} {G : State → Outcome → Prop} {U : State} {α β γ : Type} {P : α → β → γ → Prop} {F : α → β → γ → State} (h2 : (∀ v w u, P v w u → Go p e below G (F v w u)) → Go p e below G U) (h1 : ∀ v w u, P v w u → Go p e below G (F v w u)) : Go p e below G U := h2 h1
theorem own_ret {p : Program} {l : Launch} {e : Env} {R : Room} {s : State} {m : MethodId} {args : Array Value} {below : List Frame} {meth : Method} {c : Code} {T U : State} {locs : List Loc} {cells slots : Nat} {Q : Option Value → Heap → List Loc → Prop} {rc rs : Nat} {v : Option Value}
    (X : Stand p l e R s m args below meth c T locs cells slots) (hlk : meth.locks = false) (hv : meth.sig.returnType = none → v = none) (hc : cells ≤ rc) (hs : slots ≤ rs) (hq : Q v T.heap locs)
    (st : ∀ fs, (∀ (f : JFrame) (acts : List Action), f.method = m → f.locked = none → f.entered = [] → (doReturn e (T.setTop f) acts v).1 = T.setFrames fs) → Steps p.tables e below U (T.setFrames fs)) :
    Go p e below (fun s₂ o => ∃ v L, o = .returned v ∧ Q v s₂.heap L ∧ FrameEnd s o s₂ L rc rs) U := by
  obtain ⟨fs, hr, hrun, hended, hW, hsame⟩ := X.leave (v := v) hv hlk
  exact ⟨_, _, st fs hr, hrun, hended, _, _, rfl, hq, ⟨_, rfl⟩, hW, hsame.mono hc hs⟩
theorem own_getI (L : List Int32) (i : Nat) : (L.map Value.int).getD i (.int 0) = .int (L.getD i 0) := by
  induction L generalizing i with
  | nil => rfl
  | cons a r ih => cases i with
    | zero => rfl
    | succ i => exact ih i
theorem own_getJ (L : List Int64) (i : Nat) : (L.map Value.long).getD i (.long 0) = .long (L.getD i 0) := by
  induction L generalizing i with
  | nil => rfl
  | cons a r ih => cases i with
    | zero => rfl
    | succ i => exact ih i
theorem own_getP {P : Int32 → Prop} (h0 : P 0) (L : List Int32) (h : ∀ x ∈ L, P x) (i : Nat) : P (L.getD i 0) := by
  induction L generalizing i with
  | nil => exact h0
  | cons a r ih => cases i with
    | zero => exact h a (List.mem_cons_self ..)
    | succ i => exact ih (fun x hx => h x (List.mem_cons_of_mem _ hx)) i
theorem own_mk (x m n : Int32) (k : Nat) (hk : k ≤ 31) (hm : m.toBitVec.toNat = 2 ^ k - 1) (hn : ((2 ^ k : Nat) : Int) ≤ n.toInt) : ¬ (x &&& m) < 0 ∧ (x &&& m) < n := by
  have h := c_mask x m k hk hm
  have h2 : (0 : Int) < ((2 ^ k : Nat) : Int) := Int.ofNat_lt.mpr (Nat.two_pow_pos k)
  have h3 := Int.emod_nonneg x.toInt (Int.ne_of_gt h2)
  have h4 := Int.emod_lt_of_pos x.toInt h2
  rw [Int32.lt_iff_toInt_lt, Int32.lt_iff_toInt_lt, h]
  exact ⟨Int.not_lt.mpr h3, Int.lt_of_lt_of_le h4 hn⟩
abbrev own_y0 : MethodName := ⟨"com/example/ligature/ligature/graph/IntList", "<init>", "()V"⟩
abbrev own_y1 : MethodName := ⟨"com/example/ligature/ligature/graph/IntList", "add", "(I)V"⟩
abbrev own_y2 : MethodName := ⟨"com/example/ligature/ligature/graph/IntList", "removeLast", "()I"⟩
abbrev own_y3 : MethodName := ⟨"com/example/ligature/ligature/graph/IntList", "size", "()I"⟩
abbrev own_y4 : MethodName := ⟨"com/example/ligature/ligature/graph/IntList", "get", "(I)I"⟩
theorem d1_0 : decode prog_4_method_1_code 0 = .ok (.aload_n 0, 1) := by decide +kernel
theorem d1_1 : decode prog_4_method_1_code 1 = .ok (.invokespecial 1, 3) := by decide +kernel
theorem d1_4 : decode prog_4_method_1_code 4 = .ok (.aload_n 0, 1) := by decide +kernel
theorem d1_5 : decode prog_4_method_1_code 5 = .ok (.bipush 16, 2) := by decide +kernel
theorem d1_7 : decode prog_4_method_1_code 7 = .ok (.newarray .int, 2) := by decide +kernel
theorem d1_9 : decode prog_4_method_1_code 9 = .ok (.putfield 7, 3) := by decide +kernel
theorem d1_12 : decode prog_4_method_1_code 12 = .ok (.return_, 1) := by decide +kernel
theorem pn_0 : plainName "com/example/ligature/ligature/graph/IntList" = true := by first | (simp [plainName, overriddenIn]; done) | decide +kernel
theorem ef1 (m : MethodId) (a1 : Addr) : entryFrame m #[(.ref a1)] 1 = mkF m 0 #[.val (.ref a1)] [] := by first | (simp [entryFrame, mkF, argsToLocals, Value.category]; done) | rfl
abbrev own_R1_1_16_16 : Room := { frames := 1, cells := 1, slots := 16, locals := 16 }
def Q1 (Z : State) (a1 : Addr) (h0 : Heap) (n0 : Nat) (v : Option Value) (h : Heap) (L : List Loc) : Prop := v = none ∧ Fr n0 L ∧ Keep h0 h [a1] ∧ Exa Z h a1 "com/example/ligature/ligature/graph/IntList" ∧ ∃ (b : Addr) (k : ClassId), n0 ≤ b ∧ h0.size ≤ b ∧ Fld Z h a1 "com/example/ligature/ligature/graph/IntList" "values" "[I" (.ref b) ∧ Fld Z h a1 "com/example/ligature/ligature/graph/IntList" "size" "I" (.int (0 : Int32)) ∧ Arv Z h b k .int (16 : Int32) [(.int (0 : Int32)), (.int (0 : Int32)), (.int (0 : Int32)), (.int (0 : Int32)), (.int (0 : Int32)), (.int (0 : Int32)), (.int (0 : Int32)), (.int (0 : Int32)), (.int (0 : Int32)), (.int (0 : Int32)), (.int (0 : Int32)), (.int (0 : Int32)), (.int (0 : Int32)), (.int (0 : Int32)), (.int (0 : Int32)), (.int (0 : Int32))] (.int (0 : Int32))
set_option maxRecDepth 65536 in
set_option maxHeartbeats 40000000 in
theorem rm1 (l : Launch) (Z : State) (a0 : Array Value) (hw : ∀ d ∈ tables_1, d.before a0 Z = true) (ws : List Jvm.Cond) (a1 : Addr) (h0 : Heap) (n0 : Nat) (Z0 : n0 ≤ h0.size) (EX : Exa Z h0 a1 "com/example/ligature/ligature/graph/IntList") (FV : Fld Z h0 a1 "com/example/ligature/ligature/graph/IntList" "values" "[I" .null) (FS : Fld Z h0 a1 "com/example/ligature/ligature/graph/IntList" "size" "I" (.int (0 : Int32))) (gA : n0 ≤ a1) :
    MetFree l own_y0 (head1 (Jvm.Cond.code own_y0 prog_4_method_1_code 1 none :: ws) own_R1_1_16_16) (fun a U => a = #[(.ref a1)] ∧ Z.Warmed39 U.vm ∧ U.heap = h0) (fun _ _ _ _ _ => True) (fun _ U o U' => ∃ v L, o = .returned v ∧ Q1 Z a1 h0 n0 v U'.heap L ∧ FrameEnd U o U' L (own_R1_1_16_16).cells (own_R1_1_16_16).slots) := by
  refine MetFree.of_bodySF (plainFor_of_name pn_0) hisR ?_
  intro p e s m args below meth c s₁ Bd hml0 hP hK
  obtain ⟨rfl, hZ, hh⟩ := hP
  have hx := Bd.exec
  have hby := Bd.bytes
  have hml : c.maxLocals = 1 := hml0
  have hown : s.vm.findClass "com/example/ligature/ligature/graph/IntList" = some m.cls := findClass_of_methodNamed Bd.named
  have hnm := (name_of_methodNamed Bd.named Bd.method).1
  have hlk : meth.locks = false := BodyLoose.notSynchronized Bd
  have hrt := Bd.returns
  have X0 : Stand p l e own_R1_1_16_16 s m #[(.ref a1)] below meth c s₁ [] 0 0 := Stand.of_body Bd
  have e0 : s₁.heap = h0 := by rw [← hh, Bd.state]; rfl
  have N0 := Fr.nil n0
  refine (show Go p e below (fun s₂ o => ∃ v L, o = .returned v ∧ Q1 Z a1 h0 n0 v s₂.heap L ∧ FrameEnd s o s₂ L 1 16) (s₁.setTop (entryFrame m #[(.ref a1)] 1)) from ?_)
  rw [ef1]
  refine Go.st (U' := s₁.setTop (mkF m 1 #[.val (.ref a1)] [(.ref a1)])) (fun t k => ?_) ?_
  · show Steps p.tables e below (s₁.setTop (mkF m 0 #[.val (.ref a1)] [])) _
    refine XS.aloadN X0.here hx rfl (hb hby d1_0) rfl rfl ?_
    exact k
  obtain ⟨T101, X101, e101, st101⟩ := initO X0 hx hZ hown (own_w hw 6 rfl) (own_w hw 7 rfl) (own_w hw 8 rfl) e0 (g := (mkF m 1 #[.val (.ref a1)] [(.ref a1)])) rfl (by rw [hml]; rfl) rfl (hb hby d1_1) (by decide) (W := 0) (by show 2 * 0 + _ ≤ _; exact Nat.le_of_eq rfl) (by decide)
  refine Go.st (U' := T101.setTop (mkF m 4 #[.val (.ref a1)] [])) (fun t k => st101 _ k) ?_
  refine Go.st (U' := T101.setTop (mkF m 7 #[.val (.ref a1)] [(.int (16 : Int32)), (.ref a1)])) (fun t k => ?_) ?_
  · show Steps p.tables e below (T101.setTop (mkF m 4 #[.val (.ref a1)] [])) _
    refine XS.aloadN X101.here hx rfl (hb hby d1_4) rfl rfl ?_
    show Steps p.tables e below (T101.setTop (mkF m 5 #[.val (.ref a1)] [(.ref a1)])) _
    refine XS.bipush X101.here hx rfl (hb hby d1_5) ?_
    exact k
  obtain ⟨T102, h102, k102, X102, e102, E102, A102, st102⟩ := newP X101 hx hZ (own_w hw 9 rfl) e101 (g := (mkF m 7 #[.val (.ref a1)] [(.int (16 : Int32)), (.ref a1)])) rfl (hb hby d1_7) rfl (by decide) (cap := 16) (by decide) (by decide) (by decide) (by decide)
  obtain ⟨b102, g102⟩ : ∃ z, z = h0.size := ⟨_, rfl⟩
  rw [← g102] at A102 st102
  have ne_a1_b102 : a1 ≠ b102 := Nat.ne_of_lt (Nat.lt_of_lt_of_le EX.lt (Nat.le_of_eq g102.symm))
  have ge_b102 : n0 ≤ b102 := Nat.le_trans Z0 (Nat.le_of_eq g102.symm)
  have sg_b102 : h0.size ≤ b102 := Nat.le_trans (Keep.refl h0 [a1]).1 (Nat.le_of_eq g102.symm)
  have EX_102 := EX.ext E102
  have FV_102 := FV.ext E102
  have FS_102 := FS.ext E102
  have KK102 : Keep h0 h102 [a1] := (Keep.refl h0 [a1]).ext E102
  have V_b102 : Arv Z h102 b102 k102 .int (16 : Int32) [(.int (0 : Int32)), (.int (0 : Int32)), (.int (0 : Int32)), (.int (0 : Int32)), (.int (0 : Int32)), (.int (0 : Int32)), (.int (0 : Int32)), (.int (0 : Int32)), (.int (0 : Int32)), (.int (0 : Int32)), (.int (0 : Int32)), (.int (0 : Int32)), (.int (0 : Int32)), (.int (0 : Int32)), (.int (0 : Int32)), (.int (0 : Int32))] (.int (0 : Int32)) := (Arv.new A102 (by decide)).pad (pad_rep [] (.int (0 : Int32)) 16)
  have sz102 : n0 ≤ h102.size := Nat.le_trans Z0 E102.1
  refine Go.st (U' := T102.setTop (mkF m 9 #[.val (.ref a1)] [(.ref b102), (.ref a1)])) (fun t k => st102 _ k) ?_
  obtain ⟨T103, h103, X103, e103, W103, st103⟩ := putF X102 hx hZ hown (host := "") (Or.inl (own_w hw 10 rfl)) Via.refl e102 FV_102 EX_102 (Or.inl (own_w hw 11 rfl)) (own_w hw 1 rfl) (ty := (.array .int)) (by decide) rfl rfl (g := (mkF m 9 #[.val (.ref a1)] [(.ref b102), (.ref a1)])) rfl rfl (hb hby d1_9)
  have F103 := FV_102.same W103
  have EX_103 := EX_102.wr W103
  have FS_103 := FS_102.other W103 (Or.inr (slot_ne (Or.inl (own_w hw 18 rfl)) (Or.inl (own_w hw 11 rfl)) (by decide) (t := .int) (t' := (.array .int)) (by decide) (by decide)))
  have V_b102_103 := V_b102.other W103 (Ne.symm ne_a1_b102)
  have N103 := Fr.snoc X103 N0 gA
  have KK103 : Keep h0 h103 [a1] := KK102.wr W103 (Or.inl (List.mem_of_getElem? (i := 0) rfl))
  have sz103 : n0 ≤ h103.size := Nat.le_trans sz102 (Nat.le_of_eq W103.size.symm)
  refine Go.st (U' := T103.setTop (mkF m 12 #[.val (.ref a1)] [])) (fun t k => st103 _ k) ?_
  refine own_ret (Q := Q1 Z a1 h0 n0) (v := none) X103 hlk (fun _ => rfl) (by decide) (by decide) ?_ (fun fs hr => X103.returnOut hx hrt (hb hby d1_12) hr)
  rw [e103]
  exact ⟨rfl, N103, KK103, EX_103, b102, k102, ge_b102, sg_b102, F103, FS_103, V_b102_103⟩
theorem d3_0 : decode prog_4_method_5_code 0 = .ok (.aload_n 0, 1) := by decide +kernel
theorem d3_1 : decode prog_4_method_5_code 1 = .ok (.getfield 13, 3) := by decide +kernel
theorem d3_4 : decode prog_4_method_5_code 4 = .ok (.aload_n 0, 1) := by decide +kernel
theorem d3_5 : decode prog_4_method_5_code 5 = .ok (.getfield 7, 3) := by decide +kernel
theorem d3_8 : decode prog_4_method_5_code 8 = .ok (.arraylength, 1) := by decide +kernel
theorem d3_9 : decode prog_4_method_5_code 9 = .ok (.if_icmp .ne 20, 3) := by decide +kernel
theorem d3_29 : decode prog_4_method_5_code 29 = .ok (.aload_n 0, 1) := by decide +kernel
theorem d3_30 : decode prog_4_method_5_code 30 = .ok (.getfield 7, 3) := by decide +kernel
theorem d3_33 : decode prog_4_method_5_code 33 = .ok (.aload_n 0, 1) := by decide +kernel
theorem d3_34 : decode prog_4_method_5_code 34 = .ok (.dup, 1) := by decide +kernel
theorem d3_35 : decode prog_4_method_5_code 35 = .ok (.getfield 13, 3) := by decide +kernel
theorem d3_38 : decode prog_4_method_5_code 38 = .ok (.dup_x1, 1) := by decide +kernel
theorem d3_39 : decode prog_4_method_5_code 39 = .ok (.iconst 1, 1) := by decide +kernel
theorem d3_40 : decode prog_4_method_5_code 40 = .ok (.iadd, 1) := by decide +kernel
theorem d3_41 : decode prog_4_method_5_code 41 = .ok (.putfield 13, 3) := by decide +kernel
theorem d3_44 : decode prog_4_method_5_code 44 = .ok (.iload_n 1, 1) := by decide +kernel
theorem d3_45 : decode prog_4_method_5_code 45 = .ok (.iastore, 1) := by decide +kernel
theorem d3_46 : decode prog_4_method_5_code 46 = .ok (.return_, 1) := by decide +kernel
theorem ef2_0 (m : MethodId) (a1 : Addr) (p2 : Int32) : entryFrame m #[(.ref a1), (.int p2)] 2 = mkF m 0 #[.val (.ref a1), .val (.int p2)] [] := by first | (simp [entryFrame, mkF, argsToLocals, Value.category]; done) | rfl
abbrev own_R0_0_0_0 : Room := { frames := 0, cells := 0, slots := 0, locals := 0 }
def Q2_0 (Z : State) (a1 : Addr) (b1 : Addr) (k1 : ClassId) (ee0 : Int32) (ee1 : Int32) (ee2 : Int32) (p2 : Int32) (h0 : Heap) (n0 : Nat) (v : Option Value) (h : Heap) (L : List Loc) : Prop := v = none ∧ Fr n0 L ∧ Keep h0 h [a1, b1] ∧ Exa Z h a1 "com/example/ligature/ligature/graph/IntList" ∧ Fld Z h a1 "com/example/ligature/ligature/graph/IntList" "values" "[I" (.ref b1) ∧ Fld Z h a1 "com/example/ligature/ligature/graph/IntList" "size" "I" (.int (1 : Int32)) ∧ Arv Z h b1 k1 .int (16 : Int32) [(.int p2), (.int ee1), (.int ee2), (.int (0 : Int32)), (.int (0 : Int32)), (.int (0 : Int32)), (.int (0 : Int32)), (.int (0 : Int32)), (.int (0 : Int32)), (.int (0 : Int32)), (.int (0 : Int32)), (.int (0 : Int32)), (.int (0 : Int32)), (.int (0 : Int32)), (.int (0 : Int32)), (.int (0 : Int32))] (.int (0 : Int32))
set_option maxRecDepth 65536 in
set_option maxHeartbeats 40000000 in
theorem rm2_0 (l : Launch) (Z : State) (a0 : Array Value) (hw : ∀ d ∈ tables_1, d.before a0 Z = true) (ws : List Jvm.Cond) (a1 : Addr) (b1 : Addr) (k1 : ClassId) (ee0 : Int32) (ee1 : Int32) (ee2 : Int32) (p2 : Int32) (h0 : Heap) (n0 : Nat) (Z0 : n0 ≤ h0.size) (EX : Exa Z h0 a1 "com/example/ligature/ligature/graph/IntList") (FV : Fld Z h0 a1 "com/example/ligature/ligature/graph/IntList" "values" "[I" (.ref b1)) (FS : Fld Z h0 a1 "com/example/ligature/ligature/graph/IntList" "size" "I" (.int (0 : Int32))) (VA : Arv Z h0 b1 k1 .int (16 : Int32) [(.int ee0), (.int ee1), (.int ee2), (.int (0 : Int32)), (.int (0 : Int32)), (.int (0 : Int32)), (.int (0 : Int32)), (.int (0 : Int32)), (.int (0 : Int32)), (.int (0 : Int32)), (.int (0 : Int32)), (.int (0 : Int32)), (.int (0 : Int32)), (.int (0 : Int32)), (.int (0 : Int32)), (.int (0 : Int32))] (.int (0 : Int32))) (gA : n0 ≤ a1) (gB : n0 ≤ b1) (nab : a1 ≠ b1) :
    MetFree l own_y1 (head1 (Jvm.Cond.code own_y1 prog_4_method_5_code 2 none :: ws) own_R0_0_0_0) (fun a U => a = #[(.ref a1), (.int p2)] ∧ Z.Warmed39 U.vm ∧ U.heap = h0) (fun _ _ _ _ _ => True) (fun _ U o U' => ∃ v L, o = .returned v ∧ Q2_0 Z a1 b1 k1 ee0 ee1 ee2 p2 h0 n0 v U'.heap L ∧ FrameEnd U o U' L (own_R0_0_0_0).cells (own_R0_0_0_0).slots) := by
  refine MetFree.of_bodySF (plainFor_of_name pn_0) hisR ?_
  intro p e s m args below meth c s₁ Bd hml0 hP hK
  obtain ⟨rfl, hZ, hh⟩ := hP
  have hx := Bd.exec
  have hby := Bd.bytes
  have hml : c.maxLocals = 2 := hml0
  have hown : s.vm.findClass "com/example/ligature/ligature/graph/IntList" = some m.cls := findClass_of_methodNamed Bd.named
  have hnm := (name_of_methodNamed Bd.named Bd.method).1
  have hlk : meth.locks = false := BodyLoose.notSynchronized Bd
  have hrt := Bd.returns
  have X0 : Stand p l e own_R0_0_0_0 s m #[(.ref a1), (.int p2)] below meth c s₁ [] 0 0 := Stand.of_body Bd
  have e0 : s₁.heap = h0 := by rw [← hh, Bd.state]; rfl
  have N0 := Fr.nil n0
  refine (show Go p e below (fun s₂ o => ∃ v L, o = .returned v ∧ Q2_0 Z a1 b1 k1 ee0 ee1 ee2 p2 h0 n0 v s₂.heap L ∧ FrameEnd s o s₂ L 0 0) (s₁.setTop (entryFrame m #[(.ref a1), (.int p2)] 2)) from ?_)
  rw [ef2_0]
  refine Go.st (U' := s₁.setTop (mkF m 1 #[.val (.ref a1), .val (.int p2)] [(.ref a1)])) (fun t k => ?_) ?_
  · show Steps p.tables e below (s₁.setTop (mkF m 0 #[.val (.ref a1), .val (.int p2)] [])) _
    refine XS.aloadN X0.here hx rfl (hb hby d3_0) rfl rfl ?_
    exact k
  obtain ⟨T104, X104, e104, st104⟩ := getF X0 hx hZ hown (host := "") (Or.inl (own_w hw 17 rfl)) Via.refl e0 FS (g := (mkF m 1 #[.val (.ref a1), .val (.int p2)] [(.ref a1)])) rfl rfl (hb hby d3_1)
  refine Go.st (U' := T104.setTop (mkF m 4 #[.val (.ref a1), .val (.int p2)] [(.int (0 : Int32))])) (fun t k => st104 _ k) ?_
  refine Go.st (U' := T104.setTop (mkF m 5 #[.val (.ref a1), .val (.int p2)] [(.ref a1), (.int (0 : Int32))])) (fun t k => ?_) ?_
  · show Steps p.tables e below (T104.setTop (mkF m 4 #[.val (.ref a1), .val (.int p2)] [(.int (0 : Int32))])) _
    refine XS.aloadN X104.here hx rfl (hb hby d3_4) rfl rfl ?_
    exact k
  obtain ⟨T105, X105, e105, st105⟩ := getF X104 hx hZ hown (host := "") (Or.inl (own_w hw 10 rfl)) Via.refl e104 FV (g := (mkF m 5 #[.val (.ref a1), .val (.int p2)] [(.ref a1), (.int (0 : Int32))])) rfl rfl (hb hby d3_5)
  refine Go.st (U' := T105.setTop (mkF m 8 #[.val (.ref a1), .val (.int p2)] [(.ref b1), (.int (0 : Int32))])) (fun t k => st105 _ k) ?_
  obtain ⟨cl106, Ar106, q106, S106, N106, H106, G106⟩ := id VA
  refine Go.st (U' := T105.setTop (mkF m 30 #[.val (.ref a1), .val (.int p2)] [(.ref a1)])) (fun t k => ?_) ?_
  · show Steps p.tables e below (T105.setTop (mkF m 8 #[.val (.ref a1), .val (.int p2)] [(.ref b1), (.int (0 : Int32))])) _
    refine X105.arraylength hx (by rw [e105]; exact Ar106.1) (State.isArrayOf_alike hZ.alike Ar106.2.1) (g := (mkF m 8 #[.val (.ref a1), .val (.int p2)] [(.ref b1), (.int (0 : Int32))])) rfl rfl (hb hby d3_8) _ ?_
    rw [len_of S106 N106]
    show Steps p.tables e below (T105.setTop (mkF m 9 #[.val (.ref a1), .val (.int p2)] [(.int (16 : Int32)), (.int (0 : Int32))])) _
    refine XS.icmpYes X105.here hx rfl (pc0 := 9) (pc' := 29) rfl (hb hby d3_9) rfl (feq (by decide : ¬ ((0 : Int32) = (16 : Int32)))).2 (by decide) (by decide) ?_
    show Steps p.tables e below (T105.setTop (mkF m 29 #[.val (.ref a1), .val (.int p2)] [])) _
    refine XS.aloadN X105.here hx rfl (hb hby d3_29) rfl rfl ?_
    exact k
  obtain ⟨T107, X107, e107, st107⟩ := getF X105 hx hZ hown (host := "") (Or.inl (own_w hw 10 rfl)) Via.refl e105 FV (g := (mkF m 30 #[.val (.ref a1), .val (.int p2)] [(.ref a1)])) rfl rfl (hb hby d3_30)
  refine Go.st (U' := T107.setTop (mkF m 33 #[.val (.ref a1), .val (.int p2)] [(.ref b1)])) (fun t k => st107 _ k) ?_
  refine Go.st (U' := T107.setTop (mkF m 35 #[.val (.ref a1), .val (.int p2)] [(.ref a1), (.ref a1), (.ref b1)])) (fun t k => ?_) ?_
  · show Steps p.tables e below (T107.setTop (mkF m 33 #[.val (.ref a1), .val (.int p2)] [(.ref b1)])) _
    refine XS.aloadN X107.here hx rfl (hb hby d3_33) rfl rfl ?_
    show Steps p.tables e below (T107.setTop (mkF m 34 #[.val (.ref a1), .val (.int p2)] [(.ref a1), (.ref b1)])) _
    refine XS.dup X107.here hx rfl (hb hby d3_34) rfl rfl ?_
    exact k
  obtain ⟨T108, X108, e108, st108⟩ := getF X107 hx hZ hown (host := "") (Or.inl (own_w hw 17 rfl)) Via.refl e107 FS (g := (mkF m 35 #[.val (.ref a1), .val (.int p2)] [(.ref a1), (.ref a1), (.ref b1)])) rfl rfl (hb hby d3_35)
  refine Go.st (U' := T108.setTop (mkF m 38 #[.val (.ref a1), .val (.int p2)] [(.int (0 : Int32)), (.ref a1), (.ref b1)])) (fun t k => st108 _ k) ?_
  refine Go.st (U' := T108.setTop (mkF m 41 #[.val (.ref a1), .val (.int p2)] [(.int (1 : Int32)), (.ref a1), (.int (0 : Int32)), (.ref b1)])) (fun t k => ?_) ?_
  · show Steps p.tables e below (T108.setTop (mkF m 38 #[.val (.ref a1), .val (.int p2)] [(.int (0 : Int32)), (.ref a1), (.ref b1)])) _
    refine XS.dupX1 X108.here hx rfl (hb hby d3_38) rfl rfl rfl ?_
    show Steps p.tables e below (T108.setTop (mkF m 39 #[.val (.ref a1), .val (.int p2)] [(.int (0 : Int32)), (.ref a1), (.int (0 : Int32)), (.ref b1)])) _
    refine XS.iconst X108.here hx rfl (hb hby d3_39) ?_
    show Steps p.tables e below (T108.setTop (mkF m 40 #[.val (.ref a1), .val (.int p2)] [(.int (1 : Int32)), (.int (0 : Int32)), (.ref a1), (.int (0 : Int32)), (.ref b1)])) _
    refine XS.iadd X108.here hx rfl (hb hby d3_40) rfl ?_
    exact k
  obtain ⟨T109, h109, X109, e109, W109, st109⟩ := putF X108 hx hZ hown (host := "") (Or.inl (own_w hw 17 rfl)) Via.refl e108 FS EX (Or.inl (own_w hw 18 rfl)) (own_w hw 1 rfl) (ty := .int) (by decide) rfl rfl (g := (mkF m 41 #[.val (.ref a1), .val (.int p2)] [(.int (1 : Int32)), (.ref a1), (.int (0 : Int32)), (.ref b1)])) rfl rfl (hb hby d3_41)
  have F109 := FS.same W109
  have EX_109 := EX.wr W109
  have FV_109 := FV.other W109 (Or.inr (slot_ne (Or.inl (own_w hw 11 rfl)) (Or.inl (own_w hw 18 rfl)) (by decide) (t := (.array .int)) (t' := .int) (by decide) (by decide)))
  have VA_109 := VA.other W109 (Ne.symm nab)
  have N109 := Fr.snoc X109 N0 gA
  have KK109 : Keep h0 h109 [a1, b1] := (Keep.refl h0 [a1, b1]).wr W109 (Or.inl (List.mem_of_getElem? (i := 0) rfl))
  have sz109 : n0 ≤ h109.size := Nat.le_trans Z0 (Nat.le_of_eq W109.size.symm)
  refine Go.st (U' := T109.setTop (mkF m 44 #[.val (.ref a1), .val (.int p2)] [(.int (0 : Int32)), (.ref b1)])) (fun t k => st109 _ k) ?_
  refine Go.st (U' := T109.setTop (mkF m 45 #[.val (.ref a1), .val (.int p2)] [(.int p2), (.int (0 : Int32)), (.ref b1)])) (fun t k => ?_) ?_
  · show Steps p.tables e below (T109.setTop (mkF m 44 #[.val (.ref a1), .val (.int p2)] [(.int (0 : Int32)), (.ref b1)])) _
    refine XS.iloadN X109.here hx rfl (hb hby d3_44) rfl ?_
    exact k
  obtain ⟨cl111, Ar111, q111, S111, N111, H111, G111⟩ := id VA_109
  obtain ⟨T110, h110, X110, e110, W110, st110⟩ := stI X109 hx hZ e109 Ar111 (j := (0 : Int32)) (inb_of (j := (0 : Int32)) S111 ⟨by decide, by decide⟩) (g := (mkF m 45 #[.val (.ref a1), .val (.int p2)] [(.int p2), (.int (0 : Int32)), (.ref b1)])) rfl rfl (hb hby d3_45)
  have VA_110 := Arv.set Ar111 q111 S111 N111 H111 G111 rfl W110 0 rfl (Nat.le_of_ble_eq_true rfl)
  have EX_110 := EX_109.wr W110
  have FV_110 := FV_109.other W110 (Or.inl nab)
  have FS_110 := F109.other W110 (Or.inl nab)
  have N110 := Fr.snoc X110 N109 gB
  have KK110 : Keep h0 h110 [a1, b1] := KK109.wr W110 (Or.inl (List.mem_of_getElem? (i := 1) rfl))
  have sz110 : n0 ≤ h110.size := Nat.le_trans sz109 (Nat.le_of_eq W110.size.symm)
  refine Go.st (U' := T110.setTop (mkF m 46 #[.val (.ref a1), .val (.int p2)] [])) (fun t k => st110 _ k) ?_
  refine own_ret (Q := Q2_0 Z a1 b1 k1 ee0 ee1 ee2 p2 h0 n0) (v := none) X110 hlk (fun _ => rfl) (by decide) (by decide) ?_ (fun fs hr => X110.returnOut hx hrt (hb hby d3_46) hr)
  rw [e110]
  exact ⟨rfl, N110, KK110, EX_110, FV_110, FS_110, VA_110⟩
theorem ef2_1 (m : MethodId) (a1 : Addr) (p2 : Int32) : entryFrame m #[(.ref a1), (.int p2)] 2 = mkF m 0 #[.val (.ref a1), .val (.int p2)] [] := by first | (simp [entryFrame, mkF, argsToLocals, Value.category]; done) | rfl
def Q2_1 (Z : State) (a1 : Addr) (b1 : Addr) (k1 : ClassId) (ee0 : Int32) (ee1 : Int32) (ee2 : Int32) (p2 : Int32) (h0 : Heap) (n0 : Nat) (v : Option Value) (h : Heap) (L : List Loc) : Prop := v = none ∧ Fr n0 L ∧ Keep h0 h [a1, b1] ∧ Exa Z h a1 "com/example/ligature/ligature/graph/IntList" ∧ Fld Z h a1 "com/example/ligature/ligature/graph/IntList" "values" "[I" (.ref b1) ∧ Fld Z h a1 "com/example/ligature/ligature/graph/IntList" "size" "I" (.int (2 : Int32)) ∧ Arv Z h b1 k1 .int (16 : Int32) [(.int ee0), (.int p2), (.int ee2), (.int (0 : Int32)), (.int (0 : Int32)), (.int (0 : Int32)), (.int (0 : Int32)), (.int (0 : Int32)), (.int (0 : Int32)), (.int (0 : Int32)), (.int (0 : Int32)), (.int (0 : Int32)), (.int (0 : Int32)), (.int (0 : Int32)), (.int (0 : Int32)), (.int (0 : Int32))] (.int (0 : Int32))
set_option maxRecDepth 65536 in
set_option maxHeartbeats 40000000 in
theorem rm2_1 (l : Launch) (Z : State) (a0 : Array Value) (hw : ∀ d ∈ tables_1, d.before a0 Z = true) (ws : List Jvm.Cond) (a1 : Addr) (b1 : Addr) (k1 : ClassId) (ee0 : Int32) (ee1 : Int32) (ee2 : Int32) (p2 : Int32) (h0 : Heap) (n0 : Nat) (Z0 : n0 ≤ h0.size) (EX : Exa Z h0 a1 "com/example/ligature/ligature/graph/IntList") (FV : Fld Z h0 a1 "com/example/ligature/ligature/graph/IntList" "values" "[I" (.ref b1)) (FS : Fld Z h0 a1 "com/example/ligature/ligature/graph/IntList" "size" "I" (.int (1 : Int32))) (VA : Arv Z h0 b1 k1 .int (16 : Int32) [(.int ee0), (.int ee1), (.int ee2), (.int (0 : Int32)), (.int (0 : Int32)), (.int (0 : Int32)), (.int (0 : Int32)), (.int (0 : Int32)), (.int (0 : Int32)), (.int (0 : Int32)), (.int (0 : Int32)), (.int (0 : Int32)), (.int (0 : Int32)), (.int (0 : Int32)), (.int (0 : Int32)), (.int (0 : Int32))] (.int (0 : Int32))) (gA : n0 ≤ a1) (gB : n0 ≤ b1) (nab : a1 ≠ b1) :
    MetFree l own_y1 (head1 (Jvm.Cond.code own_y1 prog_4_method_5_code 2 none :: ws) own_R0_0_0_0) (fun a U => a = #[(.ref a1), (.int p2)] ∧ Z.Warmed39 U.vm ∧ U.heap = h0) (fun _ _ _ _ _ => True) (fun _ U o U' => ∃ v L, o = .returned v ∧ Q2_1 Z a1 b1 k1 ee0 ee1 ee2 p2 h0 n0 v U'.heap L ∧ FrameEnd U o U' L (own_R0_0_0_0).cells (own_R0_0_0_0).slots) := by
  refine MetFree.of_bodySF (plainFor_of_name pn_0) hisR ?_
  intro p e s m args below meth c s₁ Bd hml0 hP hK
  obtain ⟨rfl, hZ, hh⟩ := hP
  have hx := Bd.exec
  have hby := Bd.bytes
  have hml : c.maxLocals = 2 := hml0
  have hown : s.vm.findClass "com/example/ligature/ligature/graph/IntList" = some m.cls := findClass_of_methodNamed Bd.named
  have hnm := (name_of_methodNamed Bd.named Bd.method).1
  have hlk : meth.locks = false := BodyLoose.notSynchronized Bd
  have hrt := Bd.returns
  have X0 : Stand p l e own_R0_0_0_0 s m #[(.ref a1), (.int p2)] below meth c s₁ [] 0 0 := Stand.of_body Bd
  have e0 : s₁.heap = h0 := by rw [← hh, Bd.state]; rfl
  have N0 := Fr.nil n0
  refine (show Go p e below (fun s₂ o => ∃ v L, o = .returned v ∧ Q2_1 Z a1 b1 k1 ee0 ee1 ee2 p2 h0 n0 v s₂.heap L ∧ FrameEnd s o s₂ L 0 0) (s₁.setTop (entryFrame m #[(.ref a1), (.int p2)] 2)) from ?_)
  rw [ef2_1]
  refine Go.st (U' := s₁.setTop (mkF m 1 #[.val (.ref a1), .val (.int p2)] [(.ref a1)])) (fun t k => ?_) ?_
  · show Steps p.tables e below (s₁.setTop (mkF m 0 #[.val (.ref a1), .val (.int p2)] [])) _
    refine XS.aloadN X0.here hx rfl (hb hby d3_0) rfl rfl ?_
    exact k
  obtain ⟨T112, X112, e112, st112⟩ := getF X0 hx hZ hown (host := "") (Or.inl (own_w hw 17 rfl)) Via.refl e0 FS (g := (mkF m 1 #[.val (.ref a1), .val (.int p2)] [(.ref a1)])) rfl rfl (hb hby d3_1)
  refine Go.st (U' := T112.setTop (mkF m 4 #[.val (.ref a1), .val (.int p2)] [(.int (1 : Int32))])) (fun t k => st112 _ k) ?_
  refine Go.st (U' := T112.setTop (mkF m 5 #[.val (.ref a1), .val (.int p2)] [(.ref a1), (.int (1 : Int32))])) (fun t k => ?_) ?_
  · show Steps p.tables e below (T112.setTop (mkF m 4 #[.val (.ref a1), .val (.int p2)] [(.int (1 : Int32))])) _
    refine XS.aloadN X112.here hx rfl (hb hby d3_4) rfl rfl ?_
    exact k
  obtain ⟨T113, X113, e113, st113⟩ := getF X112 hx hZ hown (host := "") (Or.inl (own_w hw 10 rfl)) Via.refl e112 FV (g := (mkF m 5 #[.val (.ref a1), .val (.int p2)] [(.ref a1), (.int (1 : Int32))])) rfl rfl (hb hby d3_5)
  refine Go.st (U' := T113.setTop (mkF m 8 #[.val (.ref a1), .val (.int p2)] [(.ref b1), (.int (1 : Int32))])) (fun t k => st113 _ k) ?_
  obtain ⟨cl114, Ar114, q114, S114, N114, H114, G114⟩ := id VA
  refine Go.st (U' := T113.setTop (mkF m 30 #[.val (.ref a1), .val (.int p2)] [(.ref a1)])) (fun t k => ?_) ?_
  · show Steps p.tables e below (T113.setTop (mkF m 8 #[.val (.ref a1), .val (.int p2)] [(.ref b1), (.int (1 : Int32))])) _
    refine X113.arraylength hx (by rw [e113]; exact Ar114.1) (State.isArrayOf_alike hZ.alike Ar114.2.1) (g := (mkF m 8 #[.val (.ref a1), .val (.int p2)] [(.ref b1), (.int (1 : Int32))])) rfl rfl (hb hby d3_8) _ ?_
    rw [len_of S114 N114]
    show Steps p.tables e below (T113.setTop (mkF m 9 #[.val (.ref a1), .val (.int p2)] [(.int (16 : Int32)), (.int (1 : Int32))])) _
    refine XS.icmpYes X113.here hx rfl (pc0 := 9) (pc' := 29) rfl (hb hby d3_9) rfl (feq (by decide : ¬ ((1 : Int32) = (16 : Int32)))).2 (by decide) (by decide) ?_
    show Steps p.tables e below (T113.setTop (mkF m 29 #[.val (.ref a1), .val (.int p2)] [])) _
    refine XS.aloadN X113.here hx rfl (hb hby d3_29) rfl rfl ?_
    exact k
  obtain ⟨T115, X115, e115, st115⟩ := getF X113 hx hZ hown (host := "") (Or.inl (own_w hw 10 rfl)) Via.refl e113 FV (g := (mkF m 30 #[.val (.ref a1), .val (.int p2)] [(.ref a1)])) rfl rfl (hb hby d3_30)
  refine Go.st (U' := T115.setTop (mkF m 33 #[.val (.ref a1), .val (.int p2)] [(.ref b1)])) (fun t k => st115 _ k) ?_
  refine Go.st (U' := T115.setTop (mkF m 35 #[.val (.ref a1), .val (.int p2)] [(.ref a1), (.ref a1), (.ref b1)])) (fun t k => ?_) ?_
  · show Steps p.tables e below (T115.setTop (mkF m 33 #[.val (.ref a1), .val (.int p2)] [(.ref b1)])) _
    refine XS.aloadN X115.here hx rfl (hb hby d3_33) rfl rfl ?_
    show Steps p.tables e below (T115.setTop (mkF m 34 #[.val (.ref a1), .val (.int p2)] [(.ref a1), (.ref b1)])) _
    refine XS.dup X115.here hx rfl (hb hby d3_34) rfl rfl ?_
    exact k
  obtain ⟨T116, X116, e116, st116⟩ := getF X115 hx hZ hown (host := "") (Or.inl (own_w hw 17 rfl)) Via.refl e115 FS (g := (mkF m 35 #[.val (.ref a1), .val (.int p2)] [(.ref a1), (.ref a1), (.ref b1)])) rfl rfl (hb hby d3_35)
  refine Go.st (U' := T116.setTop (mkF m 38 #[.val (.ref a1), .val (.int p2)] [(.int (1 : Int32)), (.ref a1), (.ref b1)])) (fun t k => st116 _ k) ?_
  refine Go.st (U' := T116.setTop (mkF m 41 #[.val (.ref a1), .val (.int p2)] [(.int (2 : Int32)), (.ref a1), (.int (1 : Int32)), (.ref b1)])) (fun t k => ?_) ?_
  · show Steps p.tables e below (T116.setTop (mkF m 38 #[.val (.ref a1), .val (.int p2)] [(.int (1 : Int32)), (.ref a1), (.ref b1)])) _
    refine XS.dupX1 X116.here hx rfl (hb hby d3_38) rfl rfl rfl ?_
    show Steps p.tables e below (T116.setTop (mkF m 39 #[.val (.ref a1), .val (.int p2)] [(.int (1 : Int32)), (.ref a1), (.int (1 : Int32)), (.ref b1)])) _
    refine XS.iconst X116.here hx rfl (hb hby d3_39) ?_
    show Steps p.tables e below (T116.setTop (mkF m 40 #[.val (.ref a1), .val (.int p2)] [(.int (1 : Int32)), (.int (1 : Int32)), (.ref a1), (.int (1 : Int32)), (.ref b1)])) _
    refine XS.iadd X116.here hx rfl (hb hby d3_40) rfl ?_
    exact k
  obtain ⟨T117, h117, X117, e117, W117, st117⟩ := putF X116 hx hZ hown (host := "") (Or.inl (own_w hw 17 rfl)) Via.refl e116 FS EX (Or.inl (own_w hw 18 rfl)) (own_w hw 1 rfl) (ty := .int) (by decide) rfl rfl (g := (mkF m 41 #[.val (.ref a1), .val (.int p2)] [(.int (2 : Int32)), (.ref a1), (.int (1 : Int32)), (.ref b1)])) rfl rfl (hb hby d3_41)
  have F117 := FS.same W117
  have EX_117 := EX.wr W117
  have FV_117 := FV.other W117 (Or.inr (slot_ne (Or.inl (own_w hw 11 rfl)) (Or.inl (own_w hw 18 rfl)) (by decide) (t := (.array .int)) (t' := .int) (by decide) (by decide)))
  have VA_117 := VA.other W117 (Ne.symm nab)
  have N117 := Fr.snoc X117 N0 gA
  have KK117 : Keep h0 h117 [a1, b1] := (Keep.refl h0 [a1, b1]).wr W117 (Or.inl (List.mem_of_getElem? (i := 0) rfl))
  have sz117 : n0 ≤ h117.size := Nat.le_trans Z0 (Nat.le_of_eq W117.size.symm)
  refine Go.st (U' := T117.setTop (mkF m 44 #[.val (.ref a1), .val (.int p2)] [(.int (1 : Int32)), (.ref b1)])) (fun t k => st117 _ k) ?_
  refine Go.st (U' := T117.setTop (mkF m 45 #[.val (.ref a1), .val (.int p2)] [(.int p2), (.int (1 : Int32)), (.ref b1)])) (fun t k => ?_) ?_
  · show Steps p.tables e below (T117.setTop (mkF m 44 #[.val (.ref a1), .val (.int p2)] [(.int (1 : Int32)), (.ref b1)])) _
    refine XS.iloadN X117.here hx rfl (hb hby d3_44) rfl ?_
    exact k
  obtain ⟨cl119, Ar119, q119, S119, N119, H119, G119⟩ := id VA_117
  obtain ⟨T118, h118, X118, e118, W118, st118⟩ := stI X117 hx hZ e117 Ar119 (j := (1 : Int32)) (inb_of (j := (1 : Int32)) S119 ⟨by decide, by decide⟩) (g := (mkF m 45 #[.val (.ref a1), .val (.int p2)] [(.int p2), (.int (1 : Int32)), (.ref b1)])) rfl rfl (hb hby d3_45)
  have VA_118 := Arv.set Ar119 q119 S119 N119 H119 G119 rfl W118 1 rfl (Nat.le_of_ble_eq_true rfl)
  have EX_118 := EX_117.wr W118
  have FV_118 := FV_117.other W118 (Or.inl nab)
  have FS_118 := F117.other W118 (Or.inl nab)
  have N118 := Fr.snoc X118 N117 gB
  have KK118 : Keep h0 h118 [a1, b1] := KK117.wr W118 (Or.inl (List.mem_of_getElem? (i := 1) rfl))
  have sz118 : n0 ≤ h118.size := Nat.le_trans sz117 (Nat.le_of_eq W118.size.symm)
  refine Go.st (U' := T118.setTop (mkF m 46 #[.val (.ref a1), .val (.int p2)] [])) (fun t k => st118 _ k) ?_
  refine own_ret (Q := Q2_1 Z a1 b1 k1 ee0 ee1 ee2 p2 h0 n0) (v := none) X118 hlk (fun _ => rfl) (by decide) (by decide) ?_ (fun fs hr => X118.returnOut hx hrt (hb hby d3_46) hr)
  rw [e118]
  exact ⟨rfl, N118, KK118, EX_118, FV_118, FS_118, VA_118⟩
theorem ef2_2 (m : MethodId) (a1 : Addr) (p2 : Int32) : entryFrame m #[(.ref a1), (.int p2)] 2 = mkF m 0 #[.val (.ref a1), .val (.int p2)] [] := by first | (simp [entryFrame, mkF, argsToLocals, Value.category]; done) | rfl
def Q2_2 (Z : State) (a1 : Addr) (b1 : Addr) (k1 : ClassId) (ee0 : Int32) (ee1 : Int32) (ee2 : Int32) (p2 : Int32) (h0 : Heap) (n0 : Nat) (v : Option Value) (h : Heap) (L : List Loc) : Prop := v = none ∧ Fr n0 L ∧ Keep h0 h [a1, b1] ∧ Exa Z h a1 "com/example/ligature/ligature/graph/IntList" ∧ Fld Z h a1 "com/example/ligature/ligature/graph/IntList" "values" "[I" (.ref b1) ∧ Fld Z h a1 "com/example/ligature/ligature/graph/IntList" "size" "I" (.int (3 : Int32)) ∧ Arv Z h b1 k1 .int (16 : Int32) [(.int ee0), (.int ee1), (.int p2), (.int (0 : Int32)), (.int (0 : Int32)), (.int (0 : Int32)), (.int (0 : Int32)), (.int (0 : Int32)), (.int (0 : Int32)), (.int (0 : Int32)), (.int (0 : Int32)), (.int (0 : Int32)), (.int (0 : Int32)), (.int (0 : Int32)), (.int (0 : Int32)), (.int (0 : Int32))] (.int (0 : Int32))
set_option maxRecDepth 65536 in
set_option maxHeartbeats 40000000 in
theorem rm2_2 (l : Launch) (Z : State) (a0 : Array Value) (hw : ∀ d ∈ tables_1, d.before a0 Z = true) (ws : List Jvm.Cond) (a1 : Addr) (b1 : Addr) (k1 : ClassId) (ee0 : Int32) (ee1 : Int32) (ee2 : Int32) (p2 : Int32) (h0 : Heap) (n0 : Nat) (Z0 : n0 ≤ h0.size) (EX : Exa Z h0 a1 "com/example/ligature/ligature/graph/IntList") (FV : Fld Z h0 a1 "com/example/ligature/ligature/graph/IntList" "values" "[I" (.ref b1)) (FS : Fld Z h0 a1 "com/example/ligature/ligature/graph/IntList" "size" "I" (.int (2 : Int32))) (VA : Arv Z h0 b1 k1 .int (16 : Int32) [(.int ee0), (.int ee1), (.int ee2), (.int (0 : Int32)), (.int (0 : Int32)), (.int (0 : Int32)), (.int (0 : Int32)), (.int (0 : Int32)), (.int (0 : Int32)), (.int (0 : Int32)), (.int (0 : Int32)), (.int (0 : Int32)), (.int (0 : Int32)), (.int (0 : Int32)), (.int (0 : Int32)), (.int (0 : Int32))] (.int (0 : Int32))) (gA : n0 ≤ a1) (gB : n0 ≤ b1) (nab : a1 ≠ b1) :
    MetFree l own_y1 (head1 (Jvm.Cond.code own_y1 prog_4_method_5_code 2 none :: ws) own_R0_0_0_0) (fun a U => a = #[(.ref a1), (.int p2)] ∧ Z.Warmed39 U.vm ∧ U.heap = h0) (fun _ _ _ _ _ => True) (fun _ U o U' => ∃ v L, o = .returned v ∧ Q2_2 Z a1 b1 k1 ee0 ee1 ee2 p2 h0 n0 v U'.heap L ∧ FrameEnd U o U' L (own_R0_0_0_0).cells (own_R0_0_0_0).slots) := by
  refine MetFree.of_bodySF (plainFor_of_name pn_0) hisR ?_
  intro p e s m args below meth c s₁ Bd hml0 hP hK
  obtain ⟨rfl, hZ, hh⟩ := hP
  have hx := Bd.exec
  have hby := Bd.bytes
  have hml : c.maxLocals = 2 := hml0
  have hown : s.vm.findClass "com/example/ligature/ligature/graph/IntList" = some m.cls := findClass_of_methodNamed Bd.named
  have hnm := (name_of_methodNamed Bd.named Bd.method).1
  have hlk : meth.locks = false := BodyLoose.notSynchronized Bd
  have hrt := Bd.returns
  have X0 : Stand p l e own_R0_0_0_0 s m #[(.ref a1), (.int p2)] below meth c s₁ [] 0 0 := Stand.of_body Bd
  have e0 : s₁.heap = h0 := by rw [← hh, Bd.state]; rfl
  have N0 := Fr.nil n0
  refine (show Go p e below (fun s₂ o => ∃ v L, o = .returned v ∧ Q2_2 Z a1 b1 k1 ee0 ee1 ee2 p2 h0 n0 v s₂.heap L ∧ FrameEnd s o s₂ L 0 0) (s₁.setTop (entryFrame m #[(.ref a1), (.int p2)] 2)) from ?_)
  rw [ef2_2]
  refine Go.st (U' := s₁.setTop (mkF m 1 #[.val (.ref a1), .val (.int p2)] [(.ref a1)])) (fun t k => ?_) ?_
  · show Steps p.tables e below (s₁.setTop (mkF m 0 #[.val (.ref a1), .val (.int p2)] [])) _
    refine XS.aloadN X0.here hx rfl (hb hby d3_0) rfl rfl ?_
    exact k
  obtain ⟨T120, X120, e120, st120⟩ := getF X0 hx hZ hown (host := "") (Or.inl (own_w hw 17 rfl)) Via.refl e0 FS (g := (mkF m 1 #[.val (.ref a1), .val (.int p2)] [(.ref a1)])) rfl rfl (hb hby d3_1)
  refine Go.st (U' := T120.setTop (mkF m 4 #[.val (.ref a1), .val (.int p2)] [(.int (2 : Int32))])) (fun t k => st120 _ k) ?_
  refine Go.st (U' := T120.setTop (mkF m 5 #[.val (.ref a1), .val (.int p2)] [(.ref a1), (.int (2 : Int32))])) (fun t k => ?_) ?_
  · show Steps p.tables e below (T120.setTop (mkF m 4 #[.val (.ref a1), .val (.int p2)] [(.int (2 : Int32))])) _
    refine XS.aloadN X120.here hx rfl (hb hby d3_4) rfl rfl ?_
    exact k
  obtain ⟨T121, X121, e121, st121⟩ := getF X120 hx hZ hown (host := "") (Or.inl (own_w hw 10 rfl)) Via.refl e120 FV (g := (mkF m 5 #[.val (.ref a1), .val (.int p2)] [(.ref a1), (.int (2 : Int32))])) rfl rfl (hb hby d3_5)
  refine Go.st (U' := T121.setTop (mkF m 8 #[.val (.ref a1), .val (.int p2)] [(.ref b1), (.int (2 : Int32))])) (fun t k => st121 _ k) ?_
  obtain ⟨cl122, Ar122, q122, S122, N122, H122, G122⟩ := id VA
  refine Go.st (U' := T121.setTop (mkF m 30 #[.val (.ref a1), .val (.int p2)] [(.ref a1)])) (fun t k => ?_) ?_
  · show Steps p.tables e below (T121.setTop (mkF m 8 #[.val (.ref a1), .val (.int p2)] [(.ref b1), (.int (2 : Int32))])) _
    refine X121.arraylength hx (by rw [e121]; exact Ar122.1) (State.isArrayOf_alike hZ.alike Ar122.2.1) (g := (mkF m 8 #[.val (.ref a1), .val (.int p2)] [(.ref b1), (.int (2 : Int32))])) rfl rfl (hb hby d3_8) _ ?_
    rw [len_of S122 N122]
    show Steps p.tables e below (T121.setTop (mkF m 9 #[.val (.ref a1), .val (.int p2)] [(.int (16 : Int32)), (.int (2 : Int32))])) _
    refine XS.icmpYes X121.here hx rfl (pc0 := 9) (pc' := 29) rfl (hb hby d3_9) rfl (feq (by decide : ¬ ((2 : Int32) = (16 : Int32)))).2 (by decide) (by decide) ?_
    show Steps p.tables e below (T121.setTop (mkF m 29 #[.val (.ref a1), .val (.int p2)] [])) _
    refine XS.aloadN X121.here hx rfl (hb hby d3_29) rfl rfl ?_
    exact k
  obtain ⟨T123, X123, e123, st123⟩ := getF X121 hx hZ hown (host := "") (Or.inl (own_w hw 10 rfl)) Via.refl e121 FV (g := (mkF m 30 #[.val (.ref a1), .val (.int p2)] [(.ref a1)])) rfl rfl (hb hby d3_30)
  refine Go.st (U' := T123.setTop (mkF m 33 #[.val (.ref a1), .val (.int p2)] [(.ref b1)])) (fun t k => st123 _ k) ?_
  refine Go.st (U' := T123.setTop (mkF m 35 #[.val (.ref a1), .val (.int p2)] [(.ref a1), (.ref a1), (.ref b1)])) (fun t k => ?_) ?_
  · show Steps p.tables e below (T123.setTop (mkF m 33 #[.val (.ref a1), .val (.int p2)] [(.ref b1)])) _
    refine XS.aloadN X123.here hx rfl (hb hby d3_33) rfl rfl ?_
    show Steps p.tables e below (T123.setTop (mkF m 34 #[.val (.ref a1), .val (.int p2)] [(.ref a1), (.ref b1)])) _
    refine XS.dup X123.here hx rfl (hb hby d3_34) rfl rfl ?_
    exact k
  obtain ⟨T124, X124, e124, st124⟩ := getF X123 hx hZ hown (host := "") (Or.inl (own_w hw 17 rfl)) Via.refl e123 FS (g := (mkF m 35 #[.val (.ref a1), .val (.int p2)] [(.ref a1), (.ref a1), (.ref b1)])) rfl rfl (hb hby d3_35)
  refine Go.st (U' := T124.setTop (mkF m 38 #[.val (.ref a1), .val (.int p2)] [(.int (2 : Int32)), (.ref a1), (.ref b1)])) (fun t k => st124 _ k) ?_
  refine Go.st (U' := T124.setTop (mkF m 41 #[.val (.ref a1), .val (.int p2)] [(.int (3 : Int32)), (.ref a1), (.int (2 : Int32)), (.ref b1)])) (fun t k => ?_) ?_
  · show Steps p.tables e below (T124.setTop (mkF m 38 #[.val (.ref a1), .val (.int p2)] [(.int (2 : Int32)), (.ref a1), (.ref b1)])) _
    refine XS.dupX1 X124.here hx rfl (hb hby d3_38) rfl rfl rfl ?_
    show Steps p.tables e below (T124.setTop (mkF m 39 #[.val (.ref a1), .val (.int p2)] [(.int (2 : Int32)), (.ref a1), (.int (2 : Int32)), (.ref b1)])) _
    refine XS.iconst X124.here hx rfl (hb hby d3_39) ?_
    show Steps p.tables e below (T124.setTop (mkF m 40 #[.val (.ref a1), .val (.int p2)] [(.int (1 : Int32)), (.int (2 : Int32)), (.ref a1), (.int (2 : Int32)), (.ref b1)])) _
    refine XS.iadd X124.here hx rfl (hb hby d3_40) rfl ?_
    exact k
  obtain ⟨T125, h125, X125, e125, W125, st125⟩ := putF X124 hx hZ hown (host := "") (Or.inl (own_w hw 17 rfl)) Via.refl e124 FS EX (Or.inl (own_w hw 18 rfl)) (own_w hw 1 rfl) (ty := .int) (by decide) rfl rfl (g := (mkF m 41 #[.val (.ref a1), .val (.int p2)] [(.int (3 : Int32)), (.ref a1), (.int (2 : Int32)), (.ref b1)])) rfl rfl (hb hby d3_41)
  have F125 := FS.same W125
  have EX_125 := EX.wr W125
  have FV_125 := FV.other W125 (Or.inr (slot_ne (Or.inl (own_w hw 11 rfl)) (Or.inl (own_w hw 18 rfl)) (by decide) (t := (.array .int)) (t' := .int) (by decide) (by decide)))
  have VA_125 := VA.other W125 (Ne.symm nab)
  have N125 := Fr.snoc X125 N0 gA
  have KK125 : Keep h0 h125 [a1, b1] := (Keep.refl h0 [a1, b1]).wr W125 (Or.inl (List.mem_of_getElem? (i := 0) rfl))
  have sz125 : n0 ≤ h125.size := Nat.le_trans Z0 (Nat.le_of_eq W125.size.symm)
  refine Go.st (U' := T125.setTop (mkF m 44 #[.val (.ref a1), .val (.int p2)] [(.int (2 : Int32)), (.ref b1)])) (fun t k => st125 _ k) ?_
  refine Go.st (U' := T125.setTop (mkF m 45 #[.val (.ref a1), .val (.int p2)] [(.int p2), (.int (2 : Int32)), (.ref b1)])) (fun t k => ?_) ?_
  · show Steps p.tables e below (T125.setTop (mkF m 44 #[.val (.ref a1), .val (.int p2)] [(.int (2 : Int32)), (.ref b1)])) _
    refine XS.iloadN X125.here hx rfl (hb hby d3_44) rfl ?_
    exact k
  obtain ⟨cl127, Ar127, q127, S127, N127, H127, G127⟩ := id VA_125
  obtain ⟨T126, h126, X126, e126, W126, st126⟩ := stI X125 hx hZ e125 Ar127 (j := (2 : Int32)) (inb_of (j := (2 : Int32)) S127 ⟨by decide, by decide⟩) (g := (mkF m 45 #[.val (.ref a1), .val (.int p2)] [(.int p2), (.int (2 : Int32)), (.ref b1)])) rfl rfl (hb hby d3_45)
  have VA_126 := Arv.set Ar127 q127 S127 N127 H127 G127 rfl W126 2 rfl (Nat.le_of_ble_eq_true rfl)
  have EX_126 := EX_125.wr W126
  have FV_126 := FV_125.other W126 (Or.inl nab)
  have FS_126 := F125.other W126 (Or.inl nab)
  have N126 := Fr.snoc X126 N125 gB
  have KK126 : Keep h0 h126 [a1, b1] := KK125.wr W126 (Or.inl (List.mem_of_getElem? (i := 1) rfl))
  have sz126 : n0 ≤ h126.size := Nat.le_trans sz125 (Nat.le_of_eq W126.size.symm)
  refine Go.st (U' := T126.setTop (mkF m 46 #[.val (.ref a1), .val (.int p2)] [])) (fun t k => st126 _ k) ?_
  refine own_ret (Q := Q2_2 Z a1 b1 k1 ee0 ee1 ee2 p2 h0 n0) (v := none) X126 hlk (fun _ => rfl) (by decide) (by decide) ?_ (fun fs hr => X126.returnOut hx hrt (hb hby d3_46) hr)
  rw [e126]
  exact ⟨rfl, N126, KK126, EX_126, FV_126, FS_126, VA_126⟩
theorem d4_0 : decode prog_4_method_6_code 0 = .ok (.aload_n 0, 1) := by decide +kernel
theorem d4_1 : decode prog_4_method_6_code 1 = .ok (.getfield 7, 3) := by decide +kernel
theorem d4_4 : decode prog_4_method_6_code 4 = .ok (.aload_n 0, 1) := by decide +kernel
theorem d4_5 : decode prog_4_method_6_code 5 = .ok (.dup, 1) := by decide +kernel
theorem d4_6 : decode prog_4_method_6_code 6 = .ok (.getfield 13, 3) := by decide +kernel
theorem d4_9 : decode prog_4_method_6_code 9 = .ok (.iconst 1, 1) := by decide +kernel
theorem d4_10 : decode prog_4_method_6_code 10 = .ok (.isub, 1) := by decide +kernel
theorem d4_11 : decode prog_4_method_6_code 11 = .ok (.dup_x1, 1) := by decide +kernel
theorem d4_12 : decode prog_4_method_6_code 12 = .ok (.putfield 13, 3) := by decide +kernel
theorem d4_15 : decode prog_4_method_6_code 15 = .ok (.iaload, 1) := by decide +kernel
theorem d4_16 : decode prog_4_method_6_code 16 = .ok (.ireturn, 1) := by decide +kernel
theorem ef3_1 (m : MethodId) (a1 : Addr) : entryFrame m #[(.ref a1)] 1 = mkF m 0 #[.val (.ref a1)] [] := by first | (simp [entryFrame, mkF, argsToLocals, Value.category]; done) | rfl
def Q3_1 (Z : State) (a1 : Addr) (b1 : Addr) (k1 : ClassId) (ee0 : Int32) (ee1 : Int32) (ee2 : Int32) (h0 : Heap) (n0 : Nat) (v : Option Value) (h : Heap) (L : List Loc) : Prop := v = some (.int ee0) ∧ Fr n0 L ∧ Keep h0 h [a1, b1] ∧ Exa Z h a1 "com/example/ligature/ligature/graph/IntList" ∧ Fld Z h a1 "com/example/ligature/ligature/graph/IntList" "values" "[I" (.ref b1) ∧ Fld Z h a1 "com/example/ligature/ligature/graph/IntList" "size" "I" (.int (0 : Int32)) ∧ Arv Z h b1 k1 .int (16 : Int32) [(.int ee0), (.int ee1), (.int ee2), (.int (0 : Int32)), (.int (0 : Int32)), (.int (0 : Int32)), (.int (0 : Int32)), (.int (0 : Int32)), (.int (0 : Int32)), (.int (0 : Int32)), (.int (0 : Int32)), (.int (0 : Int32)), (.int (0 : Int32)), (.int (0 : Int32)), (.int (0 : Int32)), (.int (0 : Int32))] (.int (0 : Int32))
set_option maxRecDepth 65536 in
set_option maxHeartbeats 40000000 in
theorem rm3_1 (l : Launch) (Z : State) (a0 : Array Value) (hw : ∀ d ∈ tables_1, d.before a0 Z = true) (ws : List Jvm.Cond) (a1 : Addr) (b1 : Addr) (k1 : ClassId) (ee0 : Int32) (ee1 : Int32) (ee2 : Int32) (h0 : Heap) (n0 : Nat) (Z0 : n0 ≤ h0.size) (EX : Exa Z h0 a1 "com/example/ligature/ligature/graph/IntList") (FV : Fld Z h0 a1 "com/example/ligature/ligature/graph/IntList" "values" "[I" (.ref b1)) (FS : Fld Z h0 a1 "com/example/ligature/ligature/graph/IntList" "size" "I" (.int (1 : Int32))) (VA : Arv Z h0 b1 k1 .int (16 : Int32) [(.int ee0), (.int ee1), (.int ee2), (.int (0 : Int32)), (.int (0 : Int32)), (.int (0 : Int32)), (.int (0 : Int32)), (.int (0 : Int32)), (.int (0 : Int32)), (.int (0 : Int32)), (.int (0 : Int32)), (.int (0 : Int32)), (.int (0 : Int32)), (.int (0 : Int32)), (.int (0 : Int32)), (.int (0 : Int32))] (.int (0 : Int32))) (gA : n0 ≤ a1) (gB : n0 ≤ b1) (nab : a1 ≠ b1) :
    MetFree l own_y2 (head1 (Jvm.Cond.code own_y2 prog_4_method_6_code 1 (some .int) :: ws) own_R0_0_0_0) (fun a U => a = #[(.ref a1)] ∧ Z.Warmed39 U.vm ∧ U.heap = h0) (fun _ _ _ _ _ => True) (fun _ U o U' => ∃ v L, o = .returned v ∧ Q3_1 Z a1 b1 k1 ee0 ee1 ee2 h0 n0 v U'.heap L ∧ FrameEnd U o U' L (own_R0_0_0_0).cells (own_R0_0_0_0).slots) := by
  refine MetFree.of_bodySF (plainFor_of_name pn_0) hisR ?_
  intro p e s m args below meth c s₁ Bd hml0 hP hK
  obtain ⟨rfl, hZ, hh⟩ := hP
  have hx := Bd.exec
  have hby := Bd.bytes
  have hml : c.maxLocals = 1 := hml0
  have hown : s.vm.findClass "com/example/ligature/ligature/graph/IntList" = some m.cls := findClass_of_methodNamed Bd.named
  have hnm := (name_of_methodNamed Bd.named Bd.method).1
  have hlk : meth.locks = false := BodyLoose.notSynchronized Bd
  have hrt := Bd.returns
  have X0 : Stand p l e own_R0_0_0_0 s m #[(.ref a1)] below meth c s₁ [] 0 0 := Stand.of_body Bd
  have e0 : s₁.heap = h0 := by rw [← hh, Bd.state]; rfl
  have N0 := Fr.nil n0
  refine (show Go p e below (fun s₂ o => ∃ v L, o = .returned v ∧ Q3_1 Z a1 b1 k1 ee0 ee1 ee2 h0 n0 v s₂.heap L ∧ FrameEnd s o s₂ L 0 0) (s₁.setTop (entryFrame m #[(.ref a1)] 1)) from ?_)
  rw [ef3_1]
  refine Go.st (U' := s₁.setTop (mkF m 1 #[.val (.ref a1)] [(.ref a1)])) (fun t k => ?_) ?_
  · show Steps p.tables e below (s₁.setTop (mkF m 0 #[.val (.ref a1)] [])) _
    refine XS.aloadN X0.here hx rfl (hb hby d4_0) rfl rfl ?_
    exact k
  obtain ⟨T128, X128, e128, st128⟩ := getF X0 hx hZ hown (host := "") (Or.inl (own_w hw 10 rfl)) Via.refl e0 FV (g := (mkF m 1 #[.val (.ref a1)] [(.ref a1)])) rfl rfl (hb hby d4_1)
  refine Go.st (U' := T128.setTop (mkF m 4 #[.val (.ref a1)] [(.ref b1)])) (fun t k => st128 _ k) ?_
  refine Go.st (U' := T128.setTop (mkF m 6 #[.val (.ref a1)] [(.ref a1), (.ref a1), (.ref b1)])) (fun t k => ?_) ?_
  · show Steps p.tables e below (T128.setTop (mkF m 4 #[.val (.ref a1)] [(.ref b1)])) _
    refine XS.aloadN X128.here hx rfl (hb hby d4_4) rfl rfl ?_
    show Steps p.tables e below (T128.setTop (mkF m 5 #[.val (.ref a1)] [(.ref a1), (.ref b1)])) _
    refine XS.dup X128.here hx rfl (hb hby d4_5) rfl rfl ?_
    exact k
  obtain ⟨T129, X129, e129, st129⟩ := getF X128 hx hZ hown (host := "") (Or.inl (own_w hw 17 rfl)) Via.refl e128 FS (g := (mkF m 6 #[.val (.ref a1)] [(.ref a1), (.ref a1), (.ref b1)])) rfl rfl (hb hby d4_6)
  refine Go.st (U' := T129.setTop (mkF m 9 #[.val (.ref a1)] [(.int (1 : Int32)), (.ref a1), (.ref b1)])) (fun t k => st129 _ k) ?_
  refine Go.st (U' := T129.setTop (mkF m 12 #[.val (.ref a1)] [(.int (0 : Int32)), (.ref a1), (.int (0 : Int32)), (.ref b1)])) (fun t k => ?_) ?_
  · show Steps p.tables e below (T129.setTop (mkF m 9 #[.val (.ref a1)] [(.int (1 : Int32)), (.ref a1), (.ref b1)])) _
    refine XS.iconst X129.here hx rfl (hb hby d4_9) ?_
    show Steps p.tables e below (T129.setTop (mkF m 10 #[.val (.ref a1)] [(.int (1 : Int32)), (.int (1 : Int32)), (.ref a1), (.ref b1)])) _
    refine XS.isub X129.here hx rfl (hb hby d4_10) rfl ?_
    show Steps p.tables e below (T129.setTop (mkF m 11 #[.val (.ref a1)] [(.int (0 : Int32)), (.ref a1), (.ref b1)])) _
    refine XS.dupX1 X129.here hx rfl (hb hby d4_11) rfl rfl rfl ?_
    exact k
  obtain ⟨T130, h130, X130, e130, W130, st130⟩ := putF X129 hx hZ hown (host := "") (Or.inl (own_w hw 17 rfl)) Via.refl e129 FS EX (Or.inl (own_w hw 18 rfl)) (own_w hw 1 rfl) (ty := .int) (by decide) rfl rfl (g := (mkF m 12 #[.val (.ref a1)] [(.int (0 : Int32)), (.ref a1), (.int (0 : Int32)), (.ref b1)])) rfl rfl (hb hby d4_12)
  have F130 := FS.same W130
  have EX_130 := EX.wr W130
  have FV_130 := FV.other W130 (Or.inr (slot_ne (Or.inl (own_w hw 11 rfl)) (Or.inl (own_w hw 18 rfl)) (by decide) (t := (.array .int)) (t' := .int) (by decide) (by decide)))
  have VA_130 := VA.other W130 (Ne.symm nab)
  have N130 := Fr.snoc X130 N0 gA
  have KK130 : Keep h0 h130 [a1, b1] := (Keep.refl h0 [a1, b1]).wr W130 (Or.inl (List.mem_of_getElem? (i := 0) rfl))
  have sz130 : n0 ≤ h130.size := Nat.le_trans Z0 (Nat.le_of_eq W130.size.symm)
  refine Go.st (U' := T130.setTop (mkF m 15 #[.val (.ref a1)] [(.int (0 : Int32)), (.ref b1)])) (fun t k => st130 _ k) ?_
  obtain ⟨cl131, Ar131, q131, S131, N131, H131, G131⟩ := id VA_130
  refine Go.st (U' := T130.setTop (mkF m 16 #[.val (.ref a1)] [(.int ee0)])) (fun t k => ?_) ?_
  · show Steps p.tables e below (T130.setTop (mkF m 15 #[.val (.ref a1)] [(.int (0 : Int32)), (.ref b1)])) _
    refine X130.iaload hx (j := (0 : Int32)) (v := (.int ee0)) (by rw [e130]; exact Ar131.1) (State.isArrayOf_alike hZ.alike Ar131.2.1) Ar131.2.2 (inb_of (j := (0 : Int32)) S131 ⟨by decide, by decide⟩) (Has.at H131 (inb_of (j := (0 : Int32)) S131 ⟨by decide, by decide⟩) rfl) (g := (mkF m 15 #[.val (.ref a1)] [(.int (0 : Int32)), (.ref b1)])) rfl rfl (hb hby d4_15) _ ?_
    exact k
  refine own_ret (Q := Q3_1 Z a1 b1 k1 ee0 ee1 ee2 h0 n0) (v := some (.int ee0)) X130 hlk (fun h => by rw [hrt] at h; cases h) (by decide) (by decide) ?_ (fun fs hr => retOut X130 hx (t := .int) hrt rfl (Or.inl ⟨rfl, Or.inl rfl, _, rfl⟩) (hb hby d4_16) hr)
  rw [e130]
  exact ⟨rfl, N130, KK130, EX_130, FV_130, F130, VA_130⟩
theorem ef3_2 (m : MethodId) (a1 : Addr) : entryFrame m #[(.ref a1)] 1 = mkF m 0 #[.val (.ref a1)] [] := by first | (simp [entryFrame, mkF, argsToLocals, Value.category]; done) | rfl
def Q3_2 (Z : State) (a1 : Addr) (b1 : Addr) (k1 : ClassId) (ee0 : Int32) (ee1 : Int32) (ee2 : Int32) (h0 : Heap) (n0 : Nat) (v : Option Value) (h : Heap) (L : List Loc) : Prop := v = some (.int ee1) ∧ Fr n0 L ∧ Keep h0 h [a1, b1] ∧ Exa Z h a1 "com/example/ligature/ligature/graph/IntList" ∧ Fld Z h a1 "com/example/ligature/ligature/graph/IntList" "values" "[I" (.ref b1) ∧ Fld Z h a1 "com/example/ligature/ligature/graph/IntList" "size" "I" (.int (1 : Int32)) ∧ Arv Z h b1 k1 .int (16 : Int32) [(.int ee0), (.int ee1), (.int ee2), (.int (0 : Int32)), (.int (0 : Int32)), (.int (0 : Int32)), (.int (0 : Int32)), (.int (0 : Int32)), (.int (0 : Int32)), (.int (0 : Int32)), (.int (0 : Int32)), (.int (0 : Int32)), (.int (0 : Int32)), (.int (0 : Int32)), (.int (0 : Int32)), (.int (0 : Int32))] (.int (0 : Int32))
set_option maxRecDepth 65536 in
set_option maxHeartbeats 40000000 in
theorem rm3_2 (l : Launch) (Z : State) (a0 : Array Value) (hw : ∀ d ∈ tables_1, d.before a0 Z = true) (ws : List Jvm.Cond) (a1 : Addr) (b1 : Addr) (k1 : ClassId) (ee0 : Int32) (ee1 : Int32) (ee2 : Int32) (h0 : Heap) (n0 : Nat) (Z0 : n0 ≤ h0.size) (EX : Exa Z h0 a1 "com/example/ligature/ligature/graph/IntList") (FV : Fld Z h0 a1 "com/example/ligature/ligature/graph/IntList" "values" "[I" (.ref b1)) (FS : Fld Z h0 a1 "com/example/ligature/ligature/graph/IntList" "size" "I" (.int (2 : Int32))) (VA : Arv Z h0 b1 k1 .int (16 : Int32) [(.int ee0), (.int ee1), (.int ee2), (.int (0 : Int32)), (.int (0 : Int32)), (.int (0 : Int32)), (.int (0 : Int32)), (.int (0 : Int32)), (.int (0 : Int32)), (.int (0 : Int32)), (.int (0 : Int32)), (.int (0 : Int32)), (.int (0 : Int32)), (.int (0 : Int32)), (.int (0 : Int32)), (.int (0 : Int32))] (.int (0 : Int32))) (gA : n0 ≤ a1) (gB : n0 ≤ b1) (nab : a1 ≠ b1) :
    MetFree l own_y2 (head1 (Jvm.Cond.code own_y2 prog_4_method_6_code 1 (some .int) :: ws) own_R0_0_0_0) (fun a U => a = #[(.ref a1)] ∧ Z.Warmed39 U.vm ∧ U.heap = h0) (fun _ _ _ _ _ => True) (fun _ U o U' => ∃ v L, o = .returned v ∧ Q3_2 Z a1 b1 k1 ee0 ee1 ee2 h0 n0 v U'.heap L ∧ FrameEnd U o U' L (own_R0_0_0_0).cells (own_R0_0_0_0).slots) := by
  refine MetFree.of_bodySF (plainFor_of_name pn_0) hisR ?_
  intro p e s m args below meth c s₁ Bd hml0 hP hK
  obtain ⟨rfl, hZ, hh⟩ := hP
  have hx := Bd.exec
  have hby := Bd.bytes
  have hml : c.maxLocals = 1 := hml0
  have hown : s.vm.findClass "com/example/ligature/ligature/graph/IntList" = some m.cls := findClass_of_methodNamed Bd.named
  have hnm := (name_of_methodNamed Bd.named Bd.method).1
  have hlk : meth.locks = false := BodyLoose.notSynchronized Bd
  have hrt := Bd.returns
  have X0 : Stand p l e own_R0_0_0_0 s m #[(.ref a1)] below meth c s₁ [] 0 0 := Stand.of_body Bd
  have e0 : s₁.heap = h0 := by rw [← hh, Bd.state]; rfl
  have N0 := Fr.nil n0
  refine (show Go p e below (fun s₂ o => ∃ v L, o = .returned v ∧ Q3_2 Z a1 b1 k1 ee0 ee1 ee2 h0 n0 v s₂.heap L ∧ FrameEnd s o s₂ L 0 0) (s₁.setTop (entryFrame m #[(.ref a1)] 1)) from ?_)
  rw [ef3_2]
  refine Go.st (U' := s₁.setTop (mkF m 1 #[.val (.ref a1)] [(.ref a1)])) (fun t k => ?_) ?_
  · show Steps p.tables e below (s₁.setTop (mkF m 0 #[.val (.ref a1)] [])) _
    refine XS.aloadN X0.here hx rfl (hb hby d4_0) rfl rfl ?_
    exact k
  obtain ⟨T132, X132, e132, st132⟩ := getF X0 hx hZ hown (host := "") (Or.inl (own_w hw 10 rfl)) Via.refl e0 FV (g := (mkF m 1 #[.val (.ref a1)] [(.ref a1)])) rfl rfl (hb hby d4_1)
  refine Go.st (U' := T132.setTop (mkF m 4 #[.val (.ref a1)] [(.ref b1)])) (fun t k => st132 _ k) ?_
  refine Go.st (U' := T132.setTop (mkF m 6 #[.val (.ref a1)] [(.ref a1), (.ref a1), (.ref b1)])) (fun t k => ?_) ?_
  · show Steps p.tables e below (T132.setTop (mkF m 4 #[.val (.ref a1)] [(.ref b1)])) _
    refine XS.aloadN X132.here hx rfl (hb hby d4_4) rfl rfl ?_
    show Steps p.tables e below (T132.setTop (mkF m 5 #[.val (.ref a1)] [(.ref a1), (.ref b1)])) _
    refine XS.dup X132.here hx rfl (hb hby d4_5) rfl rfl ?_
    exact k
  obtain ⟨T133, X133, e133, st133⟩ := getF X132 hx hZ hown (host := "") (Or.inl (own_w hw 17 rfl)) Via.refl e132 FS (g := (mkF m 6 #[.val (.ref a1)] [(.ref a1), (.ref a1), (.ref b1)])) rfl rfl (hb hby d4_6)
  refine Go.st (U' := T133.setTop (mkF m 9 #[.val (.ref a1)] [(.int (2 : Int32)), (.ref a1), (.ref b1)])) (fun t k => st133 _ k) ?_
  refine Go.st (U' := T133.setTop (mkF m 12 #[.val (.ref a1)] [(.int (1 : Int32)), (.ref a1), (.int (1 : Int32)), (.ref b1)])) (fun t k => ?_) ?_
  · show Steps p.tables e below (T133.setTop (mkF m 9 #[.val (.ref a1)] [(.int (2 : Int32)), (.ref a1), (.ref b1)])) _
    refine XS.iconst X133.here hx rfl (hb hby d4_9) ?_
    show Steps p.tables e below (T133.setTop (mkF m 10 #[.val (.ref a1)] [(.int (1 : Int32)), (.int (2 : Int32)), (.ref a1), (.ref b1)])) _
    refine XS.isub X133.here hx rfl (hb hby d4_10) rfl ?_
    show Steps p.tables e below (T133.setTop (mkF m 11 #[.val (.ref a1)] [(.int (1 : Int32)), (.ref a1), (.ref b1)])) _
    refine XS.dupX1 X133.here hx rfl (hb hby d4_11) rfl rfl rfl ?_
    exact k
  obtain ⟨T134, h134, X134, e134, W134, st134⟩ := putF X133 hx hZ hown (host := "") (Or.inl (own_w hw 17 rfl)) Via.refl e133 FS EX (Or.inl (own_w hw 18 rfl)) (own_w hw 1 rfl) (ty := .int) (by decide) rfl rfl (g := (mkF m 12 #[.val (.ref a1)] [(.int (1 : Int32)), (.ref a1), (.int (1 : Int32)), (.ref b1)])) rfl rfl (hb hby d4_12)
  have F134 := FS.same W134
  have EX_134 := EX.wr W134
  have FV_134 := FV.other W134 (Or.inr (slot_ne (Or.inl (own_w hw 11 rfl)) (Or.inl (own_w hw 18 rfl)) (by decide) (t := (.array .int)) (t' := .int) (by decide) (by decide)))
  have VA_134 := VA.other W134 (Ne.symm nab)
  have N134 := Fr.snoc X134 N0 gA
  have KK134 : Keep h0 h134 [a1, b1] := (Keep.refl h0 [a1, b1]).wr W134 (Or.inl (List.mem_of_getElem? (i := 0) rfl))
  have sz134 : n0 ≤ h134.size := Nat.le_trans Z0 (Nat.le_of_eq W134.size.symm)
  refine Go.st (U' := T134.setTop (mkF m 15 #[.val (.ref a1)] [(.int (1 : Int32)), (.ref b1)])) (fun t k => st134 _ k) ?_
  obtain ⟨cl135, Ar135, q135, S135, N135, H135, G135⟩ := id VA_134
  refine Go.st (U' := T134.setTop (mkF m 16 #[.val (.ref a1)] [(.int ee1)])) (fun t k => ?_) ?_
  · show Steps p.tables e below (T134.setTop (mkF m 15 #[.val (.ref a1)] [(.int (1 : Int32)), (.ref b1)])) _
    refine X134.iaload hx (j := (1 : Int32)) (v := (.int ee1)) (by rw [e134]; exact Ar135.1) (State.isArrayOf_alike hZ.alike Ar135.2.1) Ar135.2.2 (inb_of (j := (1 : Int32)) S135 ⟨by decide, by decide⟩) (Has.at H135 (inb_of (j := (1 : Int32)) S135 ⟨by decide, by decide⟩) rfl) (g := (mkF m 15 #[.val (.ref a1)] [(.int (1 : Int32)), (.ref b1)])) rfl rfl (hb hby d4_15) _ ?_
    exact k
  refine own_ret (Q := Q3_2 Z a1 b1 k1 ee0 ee1 ee2 h0 n0) (v := some (.int ee1)) X134 hlk (fun h => by rw [hrt] at h; cases h) (by decide) (by decide) ?_ (fun fs hr => retOut X134 hx (t := .int) hrt rfl (Or.inl ⟨rfl, Or.inl rfl, _, rfl⟩) (hb hby d4_16) hr)
  rw [e134]
  exact ⟨rfl, N134, KK134, EX_134, FV_134, F134, VA_134⟩
theorem ef3_3 (m : MethodId) (a1 : Addr) : entryFrame m #[(.ref a1)] 1 = mkF m 0 #[.val (.ref a1)] [] := by first | (simp [entryFrame, mkF, argsToLocals, Value.category]; done) | rfl
def Q3_3 (Z : State) (a1 : Addr) (b1 : Addr) (k1 : ClassId) (ee0 : Int32) (ee1 : Int32) (ee2 : Int32) (h0 : Heap) (n0 : Nat) (v : Option Value) (h : Heap) (L : List Loc) : Prop := v = some (.int ee2) ∧ Fr n0 L ∧ Keep h0 h [a1, b1] ∧ Exa Z h a1 "com/example/ligature/ligature/graph/IntList" ∧ Fld Z h a1 "com/example/ligature/ligature/graph/IntList" "values" "[I" (.ref b1) ∧ Fld Z h a1 "com/example/ligature/ligature/graph/IntList" "size" "I" (.int (2 : Int32)) ∧ Arv Z h b1 k1 .int (16 : Int32) [(.int ee0), (.int ee1), (.int ee2), (.int (0 : Int32)), (.int (0 : Int32)), (.int (0 : Int32)), (.int (0 : Int32)), (.int (0 : Int32)), (.int (0 : Int32)), (.int (0 : Int32)), (.int (0 : Int32)), (.int (0 : Int32)), (.int (0 : Int32)), (.int (0 : Int32)), (.int (0 : Int32)), (.int (0 : Int32))] (.int (0 : Int32))
set_option maxRecDepth 65536 in
set_option maxHeartbeats 40000000 in
theorem rm3_3 (l : Launch) (Z : State) (a0 : Array Value) (hw : ∀ d ∈ tables_1, d.before a0 Z = true) (ws : List Jvm.Cond) (a1 : Addr) (b1 : Addr) (k1 : ClassId) (ee0 : Int32) (ee1 : Int32) (ee2 : Int32) (h0 : Heap) (n0 : Nat) (Z0 : n0 ≤ h0.size) (EX : Exa Z h0 a1 "com/example/ligature/ligature/graph/IntList") (FV : Fld Z h0 a1 "com/example/ligature/ligature/graph/IntList" "values" "[I" (.ref b1)) (FS : Fld Z h0 a1 "com/example/ligature/ligature/graph/IntList" "size" "I" (.int (3 : Int32))) (VA : Arv Z h0 b1 k1 .int (16 : Int32) [(.int ee0), (.int ee1), (.int ee2), (.int (0 : Int32)), (.int (0 : Int32)), (.int (0 : Int32)), (.int (0 : Int32)), (.int (0 : Int32)), (.int (0 : Int32)), (.int (0 : Int32)), (.int (0 : Int32)), (.int (0 : Int32)), (.int (0 : Int32)), (.int (0 : Int32)), (.int (0 : Int32)), (.int (0 : Int32))] (.int (0 : Int32))) (gA : n0 ≤ a1) (gB : n0 ≤ b1) (nab : a1 ≠ b1) :
    MetFree l own_y2 (head1 (Jvm.Cond.code own_y2 prog_4_method_6_code 1 (some .int) :: ws) own_R0_0_0_0) (fun a U => a = #[(.ref a1)] ∧ Z.Warmed39 U.vm ∧ U.heap = h0) (fun _ _ _ _ _ => True) (fun _ U o U' => ∃ v L, o = .returned v ∧ Q3_3 Z a1 b1 k1 ee0 ee1 ee2 h0 n0 v U'.heap L ∧ FrameEnd U o U' L (own_R0_0_0_0).cells (own_R0_0_0_0).slots) := by
  refine MetFree.of_bodySF (plainFor_of_name pn_0) hisR ?_
  intro p e s m args below meth c s₁ Bd hml0 hP hK
  obtain ⟨rfl, hZ, hh⟩ := hP
  have hx := Bd.exec
  have hby := Bd.bytes
  have hml : c.maxLocals = 1 := hml0
  have hown : s.vm.findClass "com/example/ligature/ligature/graph/IntList" = some m.cls := findClass_of_methodNamed Bd.named
  have hnm := (name_of_methodNamed Bd.named Bd.method).1
  have hlk : meth.locks = false := BodyLoose.notSynchronized Bd
  have hrt := Bd.returns
  have X0 : Stand p l e own_R0_0_0_0 s m #[(.ref a1)] below meth c s₁ [] 0 0 := Stand.of_body Bd
  have e0 : s₁.heap = h0 := by rw [← hh, Bd.state]; rfl
  have N0 := Fr.nil n0
  refine (show Go p e below (fun s₂ o => ∃ v L, o = .returned v ∧ Q3_3 Z a1 b1 k1 ee0 ee1 ee2 h0 n0 v s₂.heap L ∧ FrameEnd s o s₂ L 0 0) (s₁.setTop (entryFrame m #[(.ref a1)] 1)) from ?_)
  rw [ef3_3]
  refine Go.st (U' := s₁.setTop (mkF m 1 #[.val (.ref a1)] [(.ref a1)])) (fun t k => ?_) ?_
  · show Steps p.tables e below (s₁.setTop (mkF m 0 #[.val (.ref a1)] [])) _
    refine XS.aloadN X0.here hx rfl (hb hby d4_0) rfl rfl ?_
    exact k
  obtain ⟨T136, X136, e136, st136⟩ := getF X0 hx hZ hown (host := "") (Or.inl (own_w hw 10 rfl)) Via.refl e0 FV (g := (mkF m 1 #[.val (.ref a1)] [(.ref a1)])) rfl rfl (hb hby d4_1)
  refine Go.st (U' := T136.setTop (mkF m 4 #[.val (.ref a1)] [(.ref b1)])) (fun t k => st136 _ k) ?_
  refine Go.st (U' := T136.setTop (mkF m 6 #[.val (.ref a1)] [(.ref a1), (.ref a1), (.ref b1)])) (fun t k => ?_) ?_
  · show Steps p.tables e below (T136.setTop (mkF m 4 #[.val (.ref a1)] [(.ref b1)])) _
    refine XS.aloadN X136.here hx rfl (hb hby d4_4) rfl rfl ?_
    show Steps p.tables e below (T136.setTop (mkF m 5 #[.val (.ref a1)] [(.ref a1), (.ref b1)])) _
    refine XS.dup X136.here hx rfl (hb hby d4_5) rfl rfl ?_
    exact k
  obtain ⟨T137, X137, e137, st137⟩ := getF X136 hx hZ hown (host := "") (Or.inl (own_w hw 17 rfl)) Via.refl e136 FS (g := (mkF m 6 #[.val (.ref a1)] [(.ref a1), (.ref a1), (.ref b1)])) rfl rfl (hb hby d4_6)
  refine Go.st (U' := T137.setTop (mkF m 9 #[.val (.ref a1)] [(.int (3 : Int32)), (.ref a1), (.ref b1)])) (fun t k => st137 _ k) ?_
  refine Go.st (U' := T137.setTop (mkF m 12 #[.val (.ref a1)] [(.int (2 : Int32)), (.ref a1), (.int (2 : Int32)), (.ref b1)])) (fun t k => ?_) ?_
  · show Steps p.tables e below (T137.setTop (mkF m 9 #[.val (.ref a1)] [(.int (3 : Int32)), (.ref a1), (.ref b1)])) _
    refine XS.iconst X137.here hx rfl (hb hby d4_9) ?_
    show Steps p.tables e below (T137.setTop (mkF m 10 #[.val (.ref a1)] [(.int (1 : Int32)), (.int (3 : Int32)), (.ref a1), (.ref b1)])) _
    refine XS.isub X137.here hx rfl (hb hby d4_10) rfl ?_
    show Steps p.tables e below (T137.setTop (mkF m 11 #[.val (.ref a1)] [(.int (2 : Int32)), (.ref a1), (.ref b1)])) _
    refine XS.dupX1 X137.here hx rfl (hb hby d4_11) rfl rfl rfl ?_
    exact k
  obtain ⟨T138, h138, X138, e138, W138, st138⟩ := putF X137 hx hZ hown (host := "") (Or.inl (own_w hw 17 rfl)) Via.refl e137 FS EX (Or.inl (own_w hw 18 rfl)) (own_w hw 1 rfl) (ty := .int) (by decide) rfl rfl (g := (mkF m 12 #[.val (.ref a1)] [(.int (2 : Int32)), (.ref a1), (.int (2 : Int32)), (.ref b1)])) rfl rfl (hb hby d4_12)
  have F138 := FS.same W138
  have EX_138 := EX.wr W138
  have FV_138 := FV.other W138 (Or.inr (slot_ne (Or.inl (own_w hw 11 rfl)) (Or.inl (own_w hw 18 rfl)) (by decide) (t := (.array .int)) (t' := .int) (by decide) (by decide)))
  have VA_138 := VA.other W138 (Ne.symm nab)
  have N138 := Fr.snoc X138 N0 gA
  have KK138 : Keep h0 h138 [a1, b1] := (Keep.refl h0 [a1, b1]).wr W138 (Or.inl (List.mem_of_getElem? (i := 0) rfl))
  have sz138 : n0 ≤ h138.size := Nat.le_trans Z0 (Nat.le_of_eq W138.size.symm)
  refine Go.st (U' := T138.setTop (mkF m 15 #[.val (.ref a1)] [(.int (2 : Int32)), (.ref b1)])) (fun t k => st138 _ k) ?_
  obtain ⟨cl139, Ar139, q139, S139, N139, H139, G139⟩ := id VA_138
  refine Go.st (U' := T138.setTop (mkF m 16 #[.val (.ref a1)] [(.int ee2)])) (fun t k => ?_) ?_
  · show Steps p.tables e below (T138.setTop (mkF m 15 #[.val (.ref a1)] [(.int (2 : Int32)), (.ref b1)])) _
    refine X138.iaload hx (j := (2 : Int32)) (v := (.int ee2)) (by rw [e138]; exact Ar139.1) (State.isArrayOf_alike hZ.alike Ar139.2.1) Ar139.2.2 (inb_of (j := (2 : Int32)) S139 ⟨by decide, by decide⟩) (Has.at H139 (inb_of (j := (2 : Int32)) S139 ⟨by decide, by decide⟩) rfl) (g := (mkF m 15 #[.val (.ref a1)] [(.int (2 : Int32)), (.ref b1)])) rfl rfl (hb hby d4_15) _ ?_
    exact k
  refine own_ret (Q := Q3_3 Z a1 b1 k1 ee0 ee1 ee2 h0 n0) (v := some (.int ee2)) X138 hlk (fun h => by rw [hrt] at h; cases h) (by decide) (by decide) ?_ (fun fs hr => retOut X138 hx (t := .int) hrt rfl (Or.inl ⟨rfl, Or.inl rfl, _, rfl⟩) (hb hby d4_16) hr)
  rw [e138]
  exact ⟨rfl, N138, KK138, EX_138, FV_138, F138, VA_138⟩
theorem d5_0 : decode prog_4_method_2_code 0 = .ok (.aload_n 0, 1) := by decide +kernel
theorem d5_1 : decode prog_4_method_2_code 1 = .ok (.getfield 13, 3) := by decide +kernel
theorem d5_4 : decode prog_4_method_2_code 4 = .ok (.ireturn, 1) := by decide +kernel
theorem ef4 (m : MethodId) (a1 : Addr) : entryFrame m #[(.ref a1)] 1 = mkF m 0 #[.val (.ref a1)] [] := by first | (simp [entryFrame, mkF, argsToLocals, Value.category]; done) | rfl
def Q4 (Z : State) (a1 : Addr) (u : Int32) (h0 : Heap) (n0 : Nat) (v : Option Value) (h : Heap) (L : List Loc) : Prop := v = some (.int u) ∧ Fr n0 L ∧ h = h0
set_option maxRecDepth 65536 in
set_option maxHeartbeats 40000000 in
theorem rm4 (l : Launch) (Z : State) (a0 : Array Value) (hw : ∀ d ∈ tables_1, d.before a0 Z = true) (ws : List Jvm.Cond) (a1 : Addr) (u : Int32) (h0 : Heap) (n0 : Nat) (Z0 : n0 ≤ h0.size) (FS : Fld Z h0 a1 "com/example/ligature/ligature/graph/IntList" "size" "I" (.int u)) :
    MetFree l own_y3 (head1 (Jvm.Cond.code own_y3 prog_4_method_2_code 1 (some .int) :: ws) own_R0_0_0_0) (fun a U => a = #[(.ref a1)] ∧ Z.Warmed39 U.vm ∧ U.heap = h0) (fun _ _ _ _ _ => True) (fun _ U o U' => ∃ v L, o = .returned v ∧ Q4 Z a1 u h0 n0 v U'.heap L ∧ FrameEnd U o U' L (own_R0_0_0_0).cells (own_R0_0_0_0).slots) := by
  refine MetFree.of_bodySF (plainFor_of_name pn_0) hisR ?_
  intro p e s m args below meth c s₁ Bd hml0 hP hK
  obtain ⟨rfl, hZ, hh⟩ := hP
  have hx := Bd.exec
  have hby := Bd.bytes
  have hml : c.maxLocals = 1 := hml0
  have hown : s.vm.findClass "com/example/ligature/ligature/graph/IntList" = some m.cls := findClass_of_methodNamed Bd.named
  have hnm := (name_of_methodNamed Bd.named Bd.method).1
  have hlk : meth.locks = false := BodyLoose.notSynchronized Bd
  have hrt := Bd.returns
  have X0 : Stand p l e own_R0_0_0_0 s m #[(.ref a1)] below meth c s₁ [] 0 0 := Stand.of_body Bd
  have e0 : s₁.heap = h0 := by rw [← hh, Bd.state]; rfl
  have N0 := Fr.nil n0
  refine (show Go p e below (fun s₂ o => ∃ v L, o = .returned v ∧ Q4 Z a1 u h0 n0 v s₂.heap L ∧ FrameEnd s o s₂ L 0 0) (s₁.setTop (entryFrame m #[(.ref a1)] 1)) from ?_)
  rw [ef4]
  refine Go.st (U' := s₁.setTop (mkF m 1 #[.val (.ref a1)] [(.ref a1)])) (fun t k => ?_) ?_
  · show Steps p.tables e below (s₁.setTop (mkF m 0 #[.val (.ref a1)] [])) _
    refine XS.aloadN X0.here hx rfl (hb hby d5_0) rfl rfl ?_
    exact k
  obtain ⟨T140, X140, e140, st140⟩ := getF X0 hx hZ hown (host := "") (Or.inl (own_w hw 17 rfl)) Via.refl e0 FS (g := (mkF m 1 #[.val (.ref a1)] [(.ref a1)])) rfl rfl (hb hby d5_1)
  refine Go.st (U' := T140.setTop (mkF m 4 #[.val (.ref a1)] [(.int u)])) (fun t k => st140 _ k) ?_
  refine own_ret (Q := Q4 Z a1 u h0 n0) (v := some (.int u)) X140 hlk (fun h => by rw [hrt] at h; cases h) (by decide) (by decide) ?_ (fun fs hr => retOut X140 hx (t := .int) hrt rfl (Or.inl ⟨rfl, Or.inl rfl, _, rfl⟩) (hb hby d5_4) hr)
  rw [e140]
  exact ⟨rfl, N0, rfl⟩
theorem d6_0 : decode prog_4_method_4_code 0 = .ok (.aload_n 0, 1) := by decide +kernel
theorem d6_1 : decode prog_4_method_4_code 1 = .ok (.getfield 7, 3) := by decide +kernel
theorem d6_4 : decode prog_4_method_4_code 4 = .ok (.iload_n 1, 1) := by decide +kernel
theorem d6_5 : decode prog_4_method_4_code 5 = .ok (.iaload, 1) := by decide +kernel
theorem d6_6 : decode prog_4_method_4_code 6 = .ok (.ireturn, 1) := by decide +kernel
theorem ef5_0 (m : MethodId) (a1 : Addr) : entryFrame m #[(.ref a1), (.int (0 : Int32))] 2 = mkF m 0 #[.val (.ref a1), .val (.int (0 : Int32))] [] := by first | (simp [entryFrame, mkF, argsToLocals, Value.category]; done) | rfl
def Q5_0 (Z : State) (a1 : Addr) (b1 : Addr) (k1 : ClassId) (ee0 : Int32) (ee1 : Int32) (ee2 : Int32) (h0 : Heap) (n0 : Nat) (v : Option Value) (h : Heap) (L : List Loc) : Prop := v = some (.int ee0) ∧ Fr n0 L ∧ h = h0
set_option maxRecDepth 65536 in
set_option maxHeartbeats 40000000 in
theorem rm5_0 (l : Launch) (Z : State) (a0 : Array Value) (hw : ∀ d ∈ tables_1, d.before a0 Z = true) (ws : List Jvm.Cond) (a1 : Addr) (b1 : Addr) (k1 : ClassId) (ee0 : Int32) (ee1 : Int32) (ee2 : Int32) (h0 : Heap) (n0 : Nat) (Z0 : n0 ≤ h0.size) (EX : Exa Z h0 a1 "com/example/ligature/ligature/graph/IntList") (FV : Fld Z h0 a1 "com/example/ligature/ligature/graph/IntList" "values" "[I" (.ref b1)) (VA : Arv Z h0 b1 k1 .int (16 : Int32) [(.int ee0), (.int ee1), (.int ee2), (.int (0 : Int32)), (.int (0 : Int32)), (.int (0 : Int32)), (.int (0 : Int32)), (.int (0 : Int32)), (.int (0 : Int32)), (.int (0 : Int32)), (.int (0 : Int32)), (.int (0 : Int32)), (.int (0 : Int32)), (.int (0 : Int32)), (.int (0 : Int32)), (.int (0 : Int32))] (.int (0 : Int32))) :
    MetFree l own_y4 (head1 (Jvm.Cond.code own_y4 prog_4_method_4_code 2 (some .int) :: ws) own_R0_0_0_0) (fun a U => a = #[(.ref a1), (.int (0 : Int32))] ∧ Z.Warmed39 U.vm ∧ U.heap = h0) (fun _ _ _ _ _ => True) (fun _ U o U' => ∃ v L, o = .returned v ∧ Q5_0 Z a1 b1 k1 ee0 ee1 ee2 h0 n0 v U'.heap L ∧ FrameEnd U o U' L (own_R0_0_0_0).cells (own_R0_0_0_0).slots) := by
  refine MetFree.of_bodySF (plainFor_of_name pn_0) hisR ?_
  intro p e s m args below meth c s₁ Bd hml0 hP hK
  obtain ⟨rfl, hZ, hh⟩ := hP
  have hx := Bd.exec
  have hby := Bd.bytes
  have hml : c.maxLocals = 2 := hml0
  have hown : s.vm.findClass "com/example/ligature/ligature/graph/IntList" = some m.cls := findClass_of_methodNamed Bd.named
  have hnm := (name_of_methodNamed Bd.named Bd.method).1
  have hlk : meth.locks = false := BodyLoose.notSynchronized Bd
  have hrt := Bd.returns
  have X0 : Stand p l e own_R0_0_0_0 s m #[(.ref a1), (.int (0 : Int32))] below meth c s₁ [] 0 0 := Stand.of_body Bd
  have e0 : s₁.heap = h0 := by rw [← hh, Bd.state]; rfl
  have N0 := Fr.nil n0
  refine (show Go p e below (fun s₂ o => ∃ v L, o = .returned v ∧ Q5_0 Z a1 b1 k1 ee0 ee1 ee2 h0 n0 v s₂.heap L ∧ FrameEnd s o s₂ L 0 0) (s₁.setTop (entryFrame m #[(.ref a1), (.int (0 : Int32))] 2)) from ?_)
  rw [ef5_0]
  refine Go.st (U' := s₁.setTop (mkF m 1 #[.val (.ref a1), .val (.int (0 : Int32))] [(.ref a1)])) (fun t k => ?_) ?_
  · show Steps p.tables e below (s₁.setTop (mkF m 0 #[.val (.ref a1), .val (.int (0 : Int32))] [])) _
    refine XS.aloadN X0.here hx rfl (hb hby d6_0) rfl rfl ?_
    exact k
  obtain ⟨T141, X141, e141, st141⟩ := getF X0 hx hZ hown (host := "") (Or.inl (own_w hw 10 rfl)) Via.refl e0 FV (g := (mkF m 1 #[.val (.ref a1), .val (.int (0 : Int32))] [(.ref a1)])) rfl rfl (hb hby d6_1)
  refine Go.st (U' := T141.setTop (mkF m 4 #[.val (.ref a1), .val (.int (0 : Int32))] [(.ref b1)])) (fun t k => st141 _ k) ?_
  obtain ⟨cl142, Ar142, q142, S142, N142, H142, G142⟩ := id VA
  refine Go.st (U' := T141.setTop (mkF m 6 #[.val (.ref a1), .val (.int (0 : Int32))] [(.int ee0)])) (fun t k => ?_) ?_
  · show Steps p.tables e below (T141.setTop (mkF m 4 #[.val (.ref a1), .val (.int (0 : Int32))] [(.ref b1)])) _
    refine XS.iloadN X141.here hx rfl (hb hby d6_4) rfl ?_
    show Steps p.tables e below (T141.setTop (mkF m 5 #[.val (.ref a1), .val (.int (0 : Int32))] [(.int (0 : Int32)), (.ref b1)])) _
    refine X141.iaload hx (j := (0 : Int32)) (v := (.int ee0)) (by rw [e141]; exact Ar142.1) (State.isArrayOf_alike hZ.alike Ar142.2.1) Ar142.2.2 (inb_of (j := (0 : Int32)) S142 ⟨by decide, by decide⟩) (Has.at H142 (inb_of (j := (0 : Int32)) S142 ⟨by decide, by decide⟩) rfl) (g := (mkF m 5 #[.val (.ref a1), .val (.int (0 : Int32))] [(.int (0 : Int32)), (.ref b1)])) rfl rfl (hb hby d6_5) _ ?_
    exact k
  refine own_ret (Q := Q5_0 Z a1 b1 k1 ee0 ee1 ee2 h0 n0) (v := some (.int ee0)) X141 hlk (fun h => by rw [hrt] at h; cases h) (by decide) (by decide) ?_ (fun fs hr => retOut X141 hx (t := .int) hrt rfl (Or.inl ⟨rfl, Or.inl rfl, _, rfl⟩) (hb hby d6_6) hr)
  rw [e141]
  exact ⟨rfl, N0, rfl⟩
theorem ef5_1 (m : MethodId) (a1 : Addr) : entryFrame m #[(.ref a1), (.int (1 : Int32))] 2 = mkF m 0 #[.val (.ref a1), .val (.int (1 : Int32))] [] := by first | (simp [entryFrame, mkF, argsToLocals, Value.category]; done) | rfl
def Q5_1 (Z : State) (a1 : Addr) (b1 : Addr) (k1 : ClassId) (ee0 : Int32) (ee1 : Int32) (ee2 : Int32) (h0 : Heap) (n0 : Nat) (v : Option Value) (h : Heap) (L : List Loc) : Prop := v = some (.int ee1) ∧ Fr n0 L ∧ h = h0
set_option maxRecDepth 65536 in
set_option maxHeartbeats 40000000 in
theorem rm5_1 (l : Launch) (Z : State) (a0 : Array Value) (hw : ∀ d ∈ tables_1, d.before a0 Z = true) (ws : List Jvm.Cond) (a1 : Addr) (b1 : Addr) (k1 : ClassId) (ee0 : Int32) (ee1 : Int32) (ee2 : Int32) (h0 : Heap) (n0 : Nat) (Z0 : n0 ≤ h0.size) (EX : Exa Z h0 a1 "com/example/ligature/ligature/graph/IntList") (FV : Fld Z h0 a1 "com/example/ligature/ligature/graph/IntList" "values" "[I" (.ref b1)) (VA : Arv Z h0 b1 k1 .int (16 : Int32) [(.int ee0), (.int ee1), (.int ee2), (.int (0 : Int32)), (.int (0 : Int32)), (.int (0 : Int32)), (.int (0 : Int32)), (.int (0 : Int32)), (.int (0 : Int32)), (.int (0 : Int32)), (.int (0 : Int32)), (.int (0 : Int32)), (.int (0 : Int32)), (.int (0 : Int32)), (.int (0 : Int32)), (.int (0 : Int32))] (.int (0 : Int32))) :
    MetFree l own_y4 (head1 (Jvm.Cond.code own_y4 prog_4_method_4_code 2 (some .int) :: ws) own_R0_0_0_0) (fun a U => a = #[(.ref a1), (.int (1 : Int32))] ∧ Z.Warmed39 U.vm ∧ U.heap = h0) (fun _ _ _ _ _ => True) (fun _ U o U' => ∃ v L, o = .returned v ∧ Q5_1 Z a1 b1 k1 ee0 ee1 ee2 h0 n0 v U'.heap L ∧ FrameEnd U o U' L (own_R0_0_0_0).cells (own_R0_0_0_0).slots) := by
  refine MetFree.of_bodySF (plainFor_of_name pn_0) hisR ?_
  intro p e s m args below meth c s₁ Bd hml0 hP hK
  obtain ⟨rfl, hZ, hh⟩ := hP
  have hx := Bd.exec
  have hby := Bd.bytes
  have hml : c.maxLocals = 2 := hml0
  have hown : s.vm.findClass "com/example/ligature/ligature/graph/IntList" = some m.cls := findClass_of_methodNamed Bd.named
  have hnm := (name_of_methodNamed Bd.named Bd.method).1
  have hlk : meth.locks = false := BodyLoose.notSynchronized Bd
  have hrt := Bd.returns
  have X0 : Stand p l e own_R0_0_0_0 s m #[(.ref a1), (.int (1 : Int32))] below meth c s₁ [] 0 0 := Stand.of_body Bd
  have e0 : s₁.heap = h0 := by rw [← hh, Bd.state]; rfl
  have N0 := Fr.nil n0
  refine (show Go p e below (fun s₂ o => ∃ v L, o = .returned v ∧ Q5_1 Z a1 b1 k1 ee0 ee1 ee2 h0 n0 v s₂.heap L ∧ FrameEnd s o s₂ L 0 0) (s₁.setTop (entryFrame m #[(.ref a1), (.int (1 : Int32))] 2)) from ?_)
  rw [ef5_1]
  refine Go.st (U' := s₁.setTop (mkF m 1 #[.val (.ref a1), .val (.int (1 : Int32))] [(.ref a1)])) (fun t k => ?_) ?_
  · show Steps p.tables e below (s₁.setTop (mkF m 0 #[.val (.ref a1), .val (.int (1 : Int32))] [])) _
    refine XS.aloadN X0.here hx rfl (hb hby d6_0) rfl rfl ?_
    exact k
  obtain ⟨T143, X143, e143, st143⟩ := getF X0 hx hZ hown (host := "") (Or.inl (own_w hw 10 rfl)) Via.refl e0 FV (g := (mkF m 1 #[.val (.ref a1), .val (.int (1 : Int32))] [(.ref a1)])) rfl rfl (hb hby d6_1)
  refine Go.st (U' := T143.setTop (mkF m 4 #[.val (.ref a1), .val (.int (1 : Int32))] [(.ref b1)])) (fun t k => st143 _ k) ?_
  obtain ⟨cl144, Ar144, q144, S144, N144, H144, G144⟩ := id VA
  refine Go.st (U' := T143.setTop (mkF m 6 #[.val (.ref a1), .val (.int (1 : Int32))] [(.int ee1)])) (fun t k => ?_) ?_
  · show Steps p.tables e below (T143.setTop (mkF m 4 #[.val (.ref a1), .val (.int (1 : Int32))] [(.ref b1)])) _
    refine XS.iloadN X143.here hx rfl (hb hby d6_4) rfl ?_
    show Steps p.tables e below (T143.setTop (mkF m 5 #[.val (.ref a1), .val (.int (1 : Int32))] [(.int (1 : Int32)), (.ref b1)])) _
    refine X143.iaload hx (j := (1 : Int32)) (v := (.int ee1)) (by rw [e143]; exact Ar144.1) (State.isArrayOf_alike hZ.alike Ar144.2.1) Ar144.2.2 (inb_of (j := (1 : Int32)) S144 ⟨by decide, by decide⟩) (Has.at H144 (inb_of (j := (1 : Int32)) S144 ⟨by decide, by decide⟩) rfl) (g := (mkF m 5 #[.val (.ref a1), .val (.int (1 : Int32))] [(.int (1 : Int32)), (.ref b1)])) rfl rfl (hb hby d6_5) _ ?_
    exact k
  refine own_ret (Q := Q5_1 Z a1 b1 k1 ee0 ee1 ee2 h0 n0) (v := some (.int ee1)) X143 hlk (fun h => by rw [hrt] at h; cases h) (by decide) (by decide) ?_ (fun fs hr => retOut X143 hx (t := .int) hrt rfl (Or.inl ⟨rfl, Or.inl rfl, _, rfl⟩) (hb hby d6_6) hr)
  rw [e143]
  exact ⟨rfl, N0, rfl⟩
theorem own_n (k v : Int32) (h : (((k &&& (3 : Int32)) % (3 : Int32)) + (1 : Int32)) = v) : v = (1 : Int32) ∨ v = (2 : Int32) ∨ v = (3 : Int32) := by
  have h1 := c_mask k 3 2 (by decide) (by decide)
  have h2 := (c_irem (k &&& 3) 3 3 (by decide)).1 (by omega)
  have h3 := c_iadd ((k &&& 3) % 3) 1
  have r := rng32 v
  rw [h] at h3
  simp only [← Int32.toInt_inj, Int32.reduceToInt] at *
  omega
theorem pd_0 : parseMethodDescriptor "()V" = some ⟨[], none⟩ := by decide +kernel
theorem pd_1 : parseMethodDescriptor "(I)V" = some ⟨[.int], none⟩ := by decide +kernel
theorem pd_2 : parseMethodDescriptor "()I" = some ⟨[], some .int⟩ := by decide +kernel
theorem pd_3 : parseMethodDescriptor "(I)I" = some ⟨[.int], some .int⟩ := by decide +kernel
theorem pn_1 : plainName "com/example/ligature/ligature/graph/IntListRemoveLastPinLaw" = true := by first | (simp [plainName, overriddenIn]; done) | decide +kernel
theorem ef0 (m : MethodId) (p0 : Int32) (p1 : Int32) (p2 : Int32) (p3 : Int32) : entryFrame m #[(.int p0), (.int p1), (.int p2), (.int p3)] maxLocals = mkF m 0 #[.val (.int p0), .val (.int p1), .val (.int p2), .val (.int p3), .unset, .unset, .unset, .unset, .unset, .unset, .unset] [] := by first | (simp [entryFrame, mkF, argsToLocals, Value.category, maxLocals]; done) | rfl
def Q0 (Z : State) (p0 : Int32) (p1 : Int32) (p2 : Int32) (p3 : Int32) (h0 : Heap) (n0 : Nat) (v : Option Value) (h : Heap) (L : List Loc) : Prop := v = some (.int 1) ∧ Fr n0 L
set_option maxRecDepth 65536 in
set_option maxHeartbeats 40000000 in
theorem rm0 (l : Launch) (Z : State) (a0 : Array Value) (hw : ∀ d ∈ tables_1, d.before a0 Z = true) (ws : List Jvm.Cond) (p0 : Int32) (p1 : Int32) (p2 : Int32) (p3 : Int32) (h0 : Heap) (n0 : Nat) (Z0 : n0 ≤ h0.size) :
    MetFree l x (head1 (Jvm.Cond.code x code maxLocals ret :: ws) room_1) (fun a U => a = #[(.int p0), (.int p1), (.int p2), (.int p3)] ∧ Z.Warmed39 U.vm ∧ U.heap = h0) (fun _ _ _ _ _ => True) (fun _ U o U' => ∃ v L, o = .returned v ∧ Q0 Z p0 p1 p2 p3 h0 n0 v U'.heap L ∧ FrameEnd U o U' L 16 128) := by
  refine MetFree.of_bodySF (plainFor_of_name pn_1) hisR ?_
  intro p e s m args below meth c s₁ Bd hml0 hP hK
  obtain ⟨rfl, hZ, hh⟩ := hP
  have hx := Bd.exec
  have hby := Bd.bytes
  have hml : c.maxLocals = 11 := hml0
  have hown : s.vm.findClass "com/example/ligature/ligature/graph/IntListRemoveLastPinLaw" = some m.cls := findClass_of_methodNamed Bd.named
  have hnm := (name_of_methodNamed Bd.named Bd.method).1
  have hlk : meth.locks = false := BodyLoose.notSynchronized Bd
  have hrt := Bd.returns
  have X0 : Stand p l e room_1 s m #[(.int p0), (.int p1), (.int p2), (.int p3)] below meth c s₁ [] 0 0 := Stand.of_body Bd
  have e0 : s₁.heap = h0 := by rw [← hh, Bd.state]; rfl
  have N0 := Fr.nil n0
  refine (show Go p e below (fun s₂ o => ∃ v L, o = .returned v ∧ Q0 Z p0 p1 p2 p3 h0 n0 v s₂.heap L ∧ FrameEnd s o s₂ L 16 128) (s₁.setTop (entryFrame m #[(.int p0), (.int p1), (.int p2), (.int p3)] maxLocals)) from ?_)
  rw [ef0]
  refine Go.st (U' := s₁.setTop (mkF m 9 #[.val (.int p0), .val (.int p1), .val (.int p2), .val (.int p3), .val (.int (((p3 &&& (3 : Int32)) % (3 : Int32)) + (1 : Int32))), .unset, .unset, .unset, .unset, .unset, .unset] [])) (fun t k => ?_) ?_
  · show Steps p.tables e below (s₁.setTop (mkF m 0 #[.val (.int p0), .val (.int p1), .val (.int p2), .val (.int p3), .unset, .unset, .unset, .unset, .unset, .unset, .unset] [])) _
    refine XS.iloadN X0.here hx rfl (hb hby at_0) rfl ?_
    show Steps p.tables e below (s₁.setTop (mkF m 1 #[.val (.int p0), .val (.int p1), .val (.int p2), .val (.int p3), .unset, .unset, .unset, .unset, .unset, .unset, .unset] [(.int p3)])) _
    refine XS.iconst X0.here hx rfl (hb hby at_1) ?_
    show Steps p.tables e below (s₁.setTop (mkF m 2 #[.val (.int p0), .val (.int p1), .val (.int p2), .val (.int p3), .unset, .unset, .unset, .unset, .unset, .unset, .unset] [(.int (3 : Int32)), (.int p3)])) _
    refine XS.iand X0.here hx rfl (hb hby at_2) rfl ?_
    show Steps p.tables e below (s₁.setTop (mkF m 3 #[.val (.int p0), .val (.int p1), .val (.int p2), .val (.int p3), .unset, .unset, .unset, .unset, .unset, .unset, .unset] [(.int (p3 &&& (3 : Int32)))])) _
    refine XS.iconst X0.here hx rfl (hb hby at_3) ?_
    show Steps p.tables e below (s₁.setTop (mkF m 4 #[.val (.int p0), .val (.int p1), .val (.int p2), .val (.int p3), .unset, .unset, .unset, .unset, .unset, .unset, .unset] [(.int (3 : Int32)), (.int (p3 &&& (3 : Int32)))])) _
    refine iremM X0 hx rfl (hb hby at_4) rfl (by decide) ?_
    show Steps p.tables e below (s₁.setTop (mkF m 5 #[.val (.int p0), .val (.int p1), .val (.int p2), .val (.int p3), .unset, .unset, .unset, .unset, .unset, .unset, .unset] [(.int ((p3 &&& (3 : Int32)) % (3 : Int32)))])) _
    refine XS.iconst X0.here hx rfl (hb hby at_5) ?_
    show Steps p.tables e below (s₁.setTop (mkF m 6 #[.val (.int p0), .val (.int p1), .val (.int p2), .val (.int p3), .unset, .unset, .unset, .unset, .unset, .unset, .unset] [(.int (1 : Int32)), (.int ((p3 &&& (3 : Int32)) % (3 : Int32)))])) _
    refine XS.iadd X0.here hx rfl (hb hby at_6) rfl ?_
    show Steps p.tables e below (s₁.setTop (mkF m 7 #[.val (.int p0), .val (.int p1), .val (.int p2), .val (.int p3), .unset, .unset, .unset, .unset, .unset, .unset, .unset] [(.int (((p3 &&& (3 : Int32)) % (3 : Int32)) + (1 : Int32)))])) _
    refine XS.istore X0.here hx rfl (hb hby at_7) rfl (l' := #[.val (.int p0), .val (.int p1), .val (.int p2), .val (.int p3), .val (.int (((p3 &&& (3 : Int32)) % (3 : Int32)) + (1 : Int32))), .unset, .unset, .unset, .unset, .unset, .unset]) rfl ?_
    exact k
  generalize hv_v145 : (((p3 &&& (3 : Int32)) % (3 : Int32)) + (1 : Int32)) = v145
  obtain ⟨T146, h146, X146, e146, E146, A146, D146, -, st146⟩ := newO X0 hx hZ hown (own_w hw 0 rfl) (own_w hw 1 rfl) (own_w hw 2 rfl) e0 (g := (mkF m 9 #[.val (.int p0), .val (.int p1), .val (.int p2), .val (.int p3), .val (.int v145), .unset, .unset, .unset, .unset, .unset, .unset] [])) rfl (hb hby at_9) (by decide) (by decide)
  obtain ⟨b146, g146⟩ : ∃ z, z = h0.size := ⟨_, rfl⟩
  rw [← g146] at A146 D146 st146
  have ge_b146 : n0 ≤ b146 := Nat.le_trans Z0 (Nat.le_of_eq g146.symm)
  have F_values_b146 : Fld Z h146 b146 "com/example/ligature/ligature/graph/IntList" "values" "[I" .null := D146 (Or.inl (own_w hw 11 rfl)) (ty := (.array .int)) (by decide)
  have F_size_b146 : Fld Z h146 b146 "com/example/ligature/ligature/graph/IntList" "size" "I" (.int (0 : Int32)) := D146 (Or.inl (own_w hw 18 rfl)) (ty := .int) (by decide)
  have sz146 : n0 ≤ h146.size := Nat.le_trans Z0 E146.1
  refine Go.st (U' := T146.setTop (mkF m 12 #[.val (.int p0), .val (.int p1), .val (.int p2), .val (.int p3), .val (.int v145), .unset, .unset, .unset, .unset, .unset, .unset] [(.ref b146)])) (fun t k => st146 _ k) ?_
  refine Go.st (U' := T146.setTop (mkF m 13 #[.val (.int p0), .val (.int p1), .val (.int p2), .val (.int p3), .val (.int v145), .unset, .unset, .unset, .unset, .unset, .unset] [(.ref b146), (.ref b146)])) (fun t k => ?_) ?_
  · show Steps p.tables e below (T146.setTop (mkF m 12 #[.val (.int p0), .val (.int p1), .val (.int p2), .val (.int p3), .val (.int v145), .unset, .unset, .unset, .unset, .unset, .unset] [(.ref b146)])) _
    refine XS.dup X146.here hx rfl (hb hby at_12) rfl rfl ?_
    exact k
  obtain ⟨_, _, ⟨T147, L147, k147, n147⟩, -, X147, ⟨Lc147, hQ147, l147, y147, z147⟩, st147⟩ := X146.specialBack hx (y := own_y0) rfl hown (mvT hZ (own_w hw 3 rfl)) (mvT hZ (own_w hw 4 rfl)) (mvT hZ (own_w hw 5 rfl)) (by decide) (backOf (W := 1) (rm1 l Z a0 hw [] b146 h146 n0 sz146 A146 F_values_b146 F_size_b146 ge_b146) hZ (own_w hw 5 rfl) (own_w hw 2 rfl) (by decide) (by decide)) (g := (mkF m 13 #[.val (.int p0), .val (.int p1), .val (.int p2), .val (.int p3), .val (.int v145), .unset, .unset, .unset, .unset, .unset, .unset] [(.ref b146), (.ref b146)])) rfl (by rw [hml]; rfl) (Steps.refl _) (a := b146) (argsL := []) (rest := [(.ref b146)]) (lenOf pd_0 rfl) rfl (by show 2 * 0 + _ ≤ _; exact Nat.le_of_eq rfl) (hb hby at_13) (fun _ _ => ⟨rfl, e146, (by decide : 1 + 1 ≤ _), (by decide : 2 + 16 ≤ _)⟩)
  dsimp only [Pt.U, Pt.locs, Pt.cells, Pt.slots] at X147 l147 y147 z147 st147 hQ147
  subst l147 y147 z147
  obtain ⟨rfl, N147q, K147, PE147, b147, kk147, ge_b147, sb_b147, PV147, PZ147, PA147⟩ := hQ147
  have ne_b146_b147 : b146 ≠ b147 := Nat.ne_of_lt (Nat.lt_of_lt_of_le A146.lt sb_b147)
  have Ex_b146_147 := A146.keep K147
  have sz147 : n0 ≤ T147.heap.size := Nat.le_trans sz146 K147.1
  have N147 := Fr.app N0 N147q
  refine Go.tr (U' := T147.setTop (mkF m 16 #[.val (.int p0), .val (.int p1), .val (.int p2), .val (.int p3), .val (.int v145), .unset, .unset, .unset, .unset, .unset, .unset] [(.ref b146)])) st147 ?_
  refine Go.st (U' := T147.setTop (mkF m 21 #[.val (.int p0), .val (.int p1), .val (.int p2), .val (.int p3), .val (.int v145), .val (.ref b146), .unset, .unset, .unset, .unset, .unset] [(.int p0), (.ref b146)])) (fun t k => ?_) ?_
  · show Steps p.tables e below (T147.setTop (mkF m 16 #[.val (.int p0), .val (.int p1), .val (.int p2), .val (.int p3), .val (.int v145), .unset, .unset, .unset, .unset, .unset, .unset] [(.ref b146)])) _
    refine XS.astore X147.here hx rfl (hb hby at_16) rfl rfl (l' := #[.val (.int p0), .val (.int p1), .val (.int p2), .val (.int p3), .val (.int v145), .val (.ref b146), .unset, .unset, .unset, .unset, .unset]) rfl ?_
    show Steps p.tables e below (T147.setTop (mkF m 18 #[.val (.int p0), .val (.int p1), .val (.int p2), .val (.int p3), .val (.int v145), .val (.ref b146), .unset, .unset, .unset, .unset, .unset] [])) _
    refine XS.aload X147.here hx rfl (hb hby at_18) rfl rfl ?_
    show Steps p.tables e below (T147.setTop (mkF m 20 #[.val (.int p0), .val (.int p1), .val (.int p2), .val (.int p3), .val (.int v145), .val (.ref b146), .unset, .unset, .unset, .unset, .unset] [(.ref b146)])) _
    refine XS.iloadN X147.here hx rfl (hb hby at_20) rfl ?_
    exact k
  obtain ⟨cq148, kq148, q148a, q148b, q148c⟩ := isOf hZ rfl PE147
  obtain ⟨_, _, ⟨T148, L148, k148, n148⟩, -, X148, ⟨Lc148, hQ148, l148, y148, z148⟩, st148⟩ := X147.virtualBack hx (y := own_y1) (z := own_y1) hown (mvT hZ (own_w hw 12 rfl)) (mvT hZ (own_w hw 13 rfl)) (notFace_of_selects (args := #[]) (mvT hZ (own_w hw 15 rfl))) (mvT hZ (own_w hw 15 rfl)) (mvT hZ (own_w hw 14 rfl)) (by decide) (backOf (W := 0) (rm2_0 l Z a0 hw [] b146 b147 kk147 (0 : Int32) (0 : Int32) (0 : Int32) p0 T147.heap n0 sz147 PE147 PV147 PZ147 PA147 ge_b146 ge_b147 ne_b146_b147) hZ (own_w hw 16 rfl) (own_w hw 2 rfl) (by decide) (by decide)) q148a q148c (g := (mkF m 21 #[.val (.int p0), .val (.int p1), .val (.int p2), .val (.int p3), .val (.int v145), .val (.ref b146), .unset, .unset, .unset, .unset, .unset] [(.int p0), (.ref b146)])) rfl (by rw [hml]; rfl) (Steps.refl _) (argsL := [(.int p0)]) (rest := []) (lenOf pd_1 rfl) rfl (by show 2 * 0 + _ ≤ _; exact Nat.le_of_eq rfl) (hb hby at_21) (fun _ _ => ⟨rfl, rfl, (by decide : 2 + 0 ≤ _), (by decide : 18 + 0 ≤ _)⟩)
  dsimp only [Pt.U, Pt.locs, Pt.cells, Pt.slots] at X148 l148 y148 z148 st148 hQ148
  subst l148 y148 z148
  obtain ⟨rfl, N148q, K148, PE148, PV148, PZ148, PA148⟩ := hQ148
  have PE147_148 := PE147.keep K148
  have sz148 : n0 ≤ T148.heap.size := Nat.le_trans sz147 K148.1
  have N148 := Fr.app N147 N148q
  refine Go.tr (U' := T148.setTop (mkF m 24 #[.val (.int p0), .val (.int p1), .val (.int p2), .val (.int p3), .val (.int v145), .val (.ref b146), .unset, .unset, .unset, .unset, .unset] [])) st148 ?_
  rcases own_n p3 v145 hv_v145 with rfl | rfl | rfl
  · refine Go.st (U' := T148.setTop (mkF m 50 #[.val (.int p0), .val (.int p1), .val (.int p2), .val (.int p3), .val (.int (1 : Int32)), .val (.ref b146), .unset, .unset, .unset, .unset, .unset] [(.ref b146)])) (fun t k => ?_) ?_
    · show Steps p.tables e below (T148.setTop (mkF m 24 #[.val (.int p0), .val (.int p1), .val (.int p2), .val (.int p3), .val (.int (1 : Int32)), .val (.ref b146), .unset, .unset, .unset, .unset, .unset] [])) _
      refine XS.iload X148.here hx rfl (hb hby at_24) rfl ?_
      show Steps p.tables e below (T148.setTop (mkF m 26 #[.val (.int p0), .val (.int p1), .val (.int p2), .val (.int p3), .val (.int (1 : Int32)), .val (.ref b146), .unset, .unset, .unset, .unset, .unset] [(.int (1 : Int32))])) _
      refine XS.iconst X148.here hx rfl (hb hby at_26) ?_
      show Steps p.tables e below (T148.setTop (mkF m 27 #[.val (.int p0), .val (.int p1), .val (.int p2), .val (.int p3), .val (.int (1 : Int32)), .val (.ref b146), .unset, .unset, .unset, .unset, .unset] [(.int (2 : Int32)), (.int (1 : Int32))])) _
      refine XS.icmpYes X148.here hx rfl (pc0 := 27) (pc' := 36) rfl (hb hby at_27) rfl (tlt (by decide : (1 : Int32) < (2 : Int32))).1 (by decide) (by decide) ?_
      show Steps p.tables e below (T148.setTop (mkF m 36 #[.val (.int p0), .val (.int p1), .val (.int p2), .val (.int p3), .val (.int (1 : Int32)), .val (.ref b146), .unset, .unset, .unset, .unset, .unset] [])) _
      refine XS.iload X148.here hx rfl (hb hby at_36) rfl ?_
      show Steps p.tables e below (T148.setTop (mkF m 38 #[.val (.int p0), .val (.int p1), .val (.int p2), .val (.int p3), .val (.int (1 : Int32)), .val (.ref b146), .unset, .unset, .unset, .unset, .unset] [(.int (1 : Int32))])) _
      refine XS.iconst X148.here hx rfl (hb hby at_38) ?_
      show Steps p.tables e below (T148.setTop (mkF m 39 #[.val (.int p0), .val (.int p1), .val (.int p2), .val (.int p3), .val (.int (1 : Int32)), .val (.ref b146), .unset, .unset, .unset, .unset, .unset] [(.int (3 : Int32)), (.int (1 : Int32))])) _
      refine XS.icmpYes X148.here hx rfl (pc0 := 39) (pc' := 48) rfl (hb hby at_39) rfl (feq (by decide : ¬ ((1 : Int32) = (3 : Int32)))).2 (by decide) (by decide) ?_
      show Steps p.tables e below (T148.setTop (mkF m 48 #[.val (.int p0), .val (.int p1), .val (.int p2), .val (.int p3), .val (.int (1 : Int32)), .val (.ref b146), .unset, .unset, .unset, .unset, .unset] [])) _
      refine XS.aload X148.here hx rfl (hb hby at_48) rfl rfl ?_
      exact k
    obtain ⟨cq149, kq149, q149a, q149b, q149c⟩ := isOf hZ rfl PE148
    obtain ⟨_, _, ⟨T149, L149, k149, n149⟩, -, X149, ⟨Lc149, hQ149, l149, y149, z149⟩, st149⟩ := X148.virtualBack hx (y := own_y2) (z := own_y2) hown (mvT hZ (own_w hw 19 rfl)) (mvT hZ (own_w hw 20 rfl)) (notFace_of_selects (args := #[]) (mvT hZ (own_w hw 22 rfl))) (mvT hZ (own_w hw 22 rfl)) (mvT hZ (own_w hw 21 rfl)) (by decide) (backOf (W := 0) (rm3_1 l Z a0 hw [] b146 b147 kk147 p0 (0 : Int32) (0 : Int32) T148.heap n0 sz148 PE148 PV148 PZ148 PA148 ge_b146 ge_b147 ne_b146_b147) hZ (own_w hw 23 rfl) (own_w hw 2 rfl) (by decide) (by decide)) q149a q149c (g := (mkF m 50 #[.val (.int p0), .val (.int p1), .val (.int p2), .val (.int p3), .val (.int (1 : Int32)), .val (.ref b146), .unset, .unset, .unset, .unset, .unset] [(.ref b146)])) rfl (by rw [hml]; rfl) (Steps.refl _) (argsL := []) (rest := []) (lenOf pd_2 rfl) rfl (by show 2 * 0 + _ ≤ _; exact Nat.le_of_eq rfl) (hb hby at_50) (fun _ _ => ⟨rfl, rfl, (by decide : 2 + 0 ≤ _), (by decide : 18 + 0 ≤ _)⟩)
    dsimp only [Pt.U, Pt.locs, Pt.cells, Pt.slots] at X149 l149 y149 z149 st149 hQ149
    subst l149 y149 z149
    obtain ⟨rfl, N149q, K149, PE149, PV149, PZ149, PA149⟩ := hQ149
    have PE148_149 := PE148.keep K149
    have sz149 : n0 ≤ T149.heap.size := Nat.le_trans sz148 K149.1
    have N149 := Fr.app N148 N149q
    refine Go.tr (U' := T149.setTop (mkF m 53 #[.val (.int p0), .val (.int p1), .val (.int p2), .val (.int p3), .val (.int (1 : Int32)), .val (.ref b146), .unset, .unset, .unset, .unset, .unset] [(.int p0)])) st149 ?_
    refine Go.st (U' := T149.setTop (mkF m 87 #[.val (.int p0), .val (.int p1), .val (.int p2), .val (.int p3), .val (.int (1 : Int32)), .val (.ref b146), .val (.int p0), .val (.int p0), .unset, .unset, .unset] [(.ref b146)])) (fun t k => ?_) ?_
    · show Steps p.tables e below (T149.setTop (mkF m 53 #[.val (.int p0), .val (.int p1), .val (.int p2), .val (.int p3), .val (.int (1 : Int32)), .val (.ref b146), .unset, .unset, .unset, .unset, .unset] [(.int p0)])) _
      refine XS.istore X149.here hx rfl (hb hby at_53) rfl (l' := #[.val (.int p0), .val (.int p1), .val (.int p2), .val (.int p3), .val (.int (1 : Int32)), .val (.ref b146), .val (.int p0), .unset, .unset, .unset, .unset]) rfl ?_
      show Steps p.tables e below (T149.setTop (mkF m 55 #[.val (.int p0), .val (.int p1), .val (.int p2), .val (.int p3), .val (.int (1 : Int32)), .val (.ref b146), .val (.int p0), .unset, .unset, .unset, .unset] [])) _
      refine XS.iload X149.here hx rfl (hb hby at_55) rfl ?_
      show Steps p.tables e below (T149.setTop (mkF m 57 #[.val (.int p0), .val (.int p1), .val (.int p2), .val (.int p3), .val (.int (1 : Int32)), .val (.ref b146), .val (.int p0), .unset, .unset, .unset, .unset] [(.int (1 : Int32))])) _
      refine XS.iconst X149.here hx rfl (hb hby at_57) ?_
      show Steps p.tables e below (T149.setTop (mkF m 58 #[.val (.int p0), .val (.int p1), .val (.int p2), .val (.int p3), .val (.int (1 : Int32)), .val (.ref b146), .val (.int p0), .unset, .unset, .unset, .unset] [(.int (1 : Int32)), (.int (1 : Int32))])) _
      refine XS.icmpNo X149.here hx rfl (hb hby at_58) rfl (teq (by decide : (1 : Int32) = (1 : Int32))).2 ?_
      show Steps p.tables e below (T149.setTop (mkF m 61 #[.val (.int p0), .val (.int p1), .val (.int p2), .val (.int p3), .val (.int (1 : Int32)), .val (.ref b146), .val (.int p0), .unset, .unset, .unset, .unset] [])) _
      refine XS.iloadN X149.here hx rfl (hb hby at_61) rfl ?_
      show Steps p.tables e below (T149.setTop (mkF m 62 #[.val (.int p0), .val (.int p1), .val (.int p2), .val (.int p3), .val (.int (1 : Int32)), .val (.ref b146), .val (.int p0), .unset, .unset, .unset, .unset] [(.int p0)])) _
      refine XS.goto X149.here hx rfl (pc0 := 62) (pc' := 76) rfl (hb hby at_62) (by decide) (by decide) ?_
      show Steps p.tables e below (T149.setTop (mkF m 76 #[.val (.int p0), .val (.int p1), .val (.int p2), .val (.int p3), .val (.int (1 : Int32)), .val (.ref b146), .val (.int p0), .unset, .unset, .unset, .unset] [(.int p0)])) _
      refine XS.istore X149.here hx rfl (hb hby at_76) rfl (l' := #[.val (.int p0), .val (.int p1), .val (.int p2), .val (.int p3), .val (.int (1 : Int32)), .val (.ref b146), .val (.int p0), .val (.int p0), .unset, .unset, .unset]) rfl ?_
      show Steps p.tables e below (T149.setTop (mkF m 78 #[.val (.int p0), .val (.int p1), .val (.int p2), .val (.int p3), .val (.int (1 : Int32)), .val (.ref b146), .val (.int p0), .val (.int p0), .unset, .unset, .unset] [])) _
      refine XS.iload X149.here hx rfl (hb hby at_78) rfl ?_
      show Steps p.tables e below (T149.setTop (mkF m 80 #[.val (.int p0), .val (.int p1), .val (.int p2), .val (.int p3), .val (.int (1 : Int32)), .val (.ref b146), .val (.int p0), .val (.int p0), .unset, .unset, .unset] [(.int p0)])) _
      refine XS.iload X149.here hx rfl (hb hby at_80) rfl ?_
      show Steps p.tables e below (T149.setTop (mkF m 82 #[.val (.int p0), .val (.int p1), .val (.int p2), .val (.int p3), .val (.int (1 : Int32)), .val (.ref b146), .val (.int p0), .val (.int p0), .unset, .unset, .unset] [(.int p0), (.int p0)])) _
      refine XS.icmpNo X149.here hx rfl (hb hby at_82) rfl (teq (rfl : p0 = p0)).2 ?_
      show Steps p.tables e below (T149.setTop (mkF m 85 #[.val (.int p0), .val (.int p1), .val (.int p2), .val (.int p3), .val (.int (1 : Int32)), .val (.ref b146), .val (.int p0), .val (.int p0), .unset, .unset, .unset] [])) _
      refine XS.aload X149.here hx rfl (hb hby at_85) rfl rfl ?_
      exact k
    obtain ⟨cq150, kq150, q150a, q150b, q150c⟩ := isOf hZ rfl PE149
    obtain ⟨_, _, ⟨T150, L150, k150, n150⟩, -, X150, ⟨Lc150, hQ150, l150, y150, z150⟩, st150⟩ := X149.virtualBack hx (y := own_y3) (z := own_y3) hown (mvT hZ (own_w hw 24 rfl)) (mvT hZ (own_w hw 25 rfl)) (notFace_of_selects (args := #[]) (mvT hZ (own_w hw 27 rfl))) (mvT hZ (own_w hw 27 rfl)) (mvT hZ (own_w hw 26 rfl)) (by decide) (backOf (W := 0) (rm4 l Z a0 hw [] b146 (0 : Int32) T149.heap n0 sz149 PZ149) hZ (own_w hw 28 rfl) (own_w hw 2 rfl) (by decide) (by decide)) q150a q150c (g := (mkF m 87 #[.val (.int p0), .val (.int p1), .val (.int p2), .val (.int p3), .val (.int (1 : Int32)), .val (.ref b146), .val (.int p0), .val (.int p0), .unset, .unset, .unset] [(.ref b146)])) rfl (by rw [hml]; rfl) (Steps.refl _) (argsL := []) (rest := []) (lenOf pd_2 rfl) rfl (by show 2 * 0 + _ ≤ _; exact Nat.le_of_eq rfl) (hb hby at_87) (fun _ _ => ⟨rfl, rfl, (by decide : 2 + 0 ≤ _), (by decide : 18 + 0 ≤ _)⟩)
    dsimp only [Pt.U, Pt.locs, Pt.cells, Pt.slots] at X150 l150 y150 z150 st150 hQ150
    subst l150 y150 z150
    obtain ⟨rfl, N150q, e150⟩ := hQ150
    have N150 := Fr.app N149 N150q
    refine Go.tr (U' := T150.setTop (mkF m 90 #[.val (.int p0), .val (.int p1), .val (.int p2), .val (.int p3), .val (.int (1 : Int32)), .val (.ref b146), .val (.int p0), .val (.int p0), .unset, .unset, .unset] [(.int (0 : Int32))])) st150 ?_
    refine Go.st (U' := T150.setTop (mkF m 219 #[.val (.int p0), .val (.int p1), .val (.int p2), .val (.int p3), .val (.int (1 : Int32)), .val (.ref b146), .val (.int p0), .val (.int p0), .val (.int (1 : Int32)), .unset, .unset] [(.int (1 : Int32))])) (fun t k => ?_) ?_
    · show Steps p.tables e below (T150.setTop (mkF m 90 #[.val (.int p0), .val (.int p1), .val (.int p2), .val (.int p3), .val (.int (1 : Int32)), .val (.ref b146), .val (.int p0), .val (.int p0), .unset, .unset, .unset] [(.int (0 : Int32))])) _
      refine XS.iload X150.here hx rfl (hb hby at_90) rfl ?_
      show Steps p.tables e below (T150.setTop (mkF m 92 #[.val (.int p0), .val (.int p1), .val (.int p2), .val (.int p3), .val (.int (1 : Int32)), .val (.ref b146), .val (.int p0), .val (.int p0), .unset, .unset, .unset] [(.int (1 : Int32)), (.int (0 : Int32))])) _
      refine XS.iconst X150.here hx rfl (hb hby at_92) ?_
      show Steps p.tables e below (T150.setTop (mkF m 93 #[.val (.int p0), .val (.int p1), .val (.int p2), .val (.int p3), .val (.int (1 : Int32)), .val (.ref b146), .val (.int p0), .val (.int p0), .unset, .unset, .unset] [(.int (1 : Int32)), (.int (1 : Int32)), (.int (0 : Int32))])) _
      refine XS.isub X150.here hx rfl (hb hby at_93) rfl ?_
      show Steps p.tables e below (T150.setTop (mkF m 94 #[.val (.int p0), .val (.int p1), .val (.int p2), .val (.int p3), .val (.int (1 : Int32)), .val (.ref b146), .val (.int p0), .val (.int p0), .unset, .unset, .unset] [(.int (0 : Int32)), (.int (0 : Int32))])) _
      refine XS.icmpNo X150.here hx rfl (hb hby at_94) rfl (teq (by decide : (0 : Int32) = (0 : Int32))).2 ?_
      show Steps p.tables e below (T150.setTop (mkF m 97 #[.val (.int p0), .val (.int p1), .val (.int p2), .val (.int p3), .val (.int (1 : Int32)), .val (.ref b146), .val (.int p0), .val (.int p0), .unset, .unset, .unset] [])) _
      refine XS.iconst X150.here hx rfl (hb hby at_97) ?_
      show Steps p.tables e below (T150.setTop (mkF m 98 #[.val (.int p0), .val (.int p1), .val (.int p2), .val (.int p3), .val (.int (1 : Int32)), .val (.ref b146), .val (.int p0), .val (.int p0), .unset, .unset, .unset] [(.int (1 : Int32))])) _
      refine XS.goto X150.here hx rfl (pc0 := 98) (pc' := 102) rfl (hb hby at_98) (by decide) (by decide) ?_
      show Steps p.tables e below (T150.setTop (mkF m 102 #[.val (.int p0), .val (.int p1), .val (.int p2), .val (.int p3), .val (.int (1 : Int32)), .val (.ref b146), .val (.int p0), .val (.int p0), .unset, .unset, .unset] [(.int (1 : Int32))])) _
      refine XS.istore X150.here hx rfl (hb hby at_102) rfl (l' := #[.val (.int p0), .val (.int p1), .val (.int p2), .val (.int p3), .val (.int (1 : Int32)), .val (.ref b146), .val (.int p0), .val (.int p0), .val (.int (1 : Int32)), .unset, .unset]) rfl ?_
      show Steps p.tables e below (T150.setTop (mkF m 104 #[.val (.int p0), .val (.int p1), .val (.int p2), .val (.int p3), .val (.int (1 : Int32)), .val (.ref b146), .val (.int p0), .val (.int p0), .val (.int (1 : Int32)), .unset, .unset] [])) _
      refine XS.iload X150.here hx rfl (hb hby at_104) rfl ?_
      show Steps p.tables e below (T150.setTop (mkF m 106 #[.val (.int p0), .val (.int p1), .val (.int p2), .val (.int p3), .val (.int (1 : Int32)), .val (.ref b146), .val (.int p0), .val (.int p0), .val (.int (1 : Int32)), .unset, .unset] [(.int (1 : Int32))])) _
      refine XS.iconst X150.here hx rfl (hb hby at_106) ?_
      show Steps p.tables e below (T150.setTop (mkF m 107 #[.val (.int p0), .val (.int p1), .val (.int p2), .val (.int p3), .val (.int (1 : Int32)), .val (.ref b146), .val (.int p0), .val (.int p0), .val (.int (1 : Int32)), .unset, .unset] [(.int (2 : Int32)), (.int (1 : Int32))])) _
      refine XS.icmpYes X150.here hx rfl (pc0 := 107) (pc' := 132) rfl (hb hby at_107) rfl (tlt (by decide : (1 : Int32) < (2 : Int32))).1 (by decide) (by decide) ?_
      show Steps p.tables e below (T150.setTop (mkF m 132 #[.val (.int p0), .val (.int p1), .val (.int p2), .val (.int p3), .val (.int (1 : Int32)), .val (.ref b146), .val (.int p0), .val (.int p0), .val (.int (1 : Int32)), .unset, .unset] [])) _
      refine XS.iload X150.here hx rfl (hb hby at_132) rfl ?_
      show Steps p.tables e below (T150.setTop (mkF m 134 #[.val (.int p0), .val (.int p1), .val (.int p2), .val (.int p3), .val (.int (1 : Int32)), .val (.ref b146), .val (.int p0), .val (.int p0), .val (.int (1 : Int32)), .unset, .unset] [(.int (1 : Int32))])) _
      refine XS.iconst X150.here hx rfl (hb hby at_134) ?_
      show Steps p.tables e below (T150.setTop (mkF m 135 #[.val (.int p0), .val (.int p1), .val (.int p2), .val (.int p3), .val (.int (1 : Int32)), .val (.ref b146), .val (.int p0), .val (.int p0), .val (.int (1 : Int32)), .unset, .unset] [(.int (3 : Int32)), (.int (1 : Int32))])) _
      refine XS.icmpYes X150.here hx rfl (pc0 := 135) (pc' := 160) rfl (hb hby at_135) rfl (feq (by decide : ¬ ((1 : Int32) = (3 : Int32)))).2 (by decide) (by decide) ?_
      show Steps p.tables e below (T150.setTop (mkF m 160 #[.val (.int p0), .val (.int p1), .val (.int p2), .val (.int p3), .val (.int (1 : Int32)), .val (.ref b146), .val (.int p0), .val (.int p0), .val (.int (1 : Int32)), .unset, .unset] [])) _
      refine XS.iload X150.here hx rfl (hb hby at_160) rfl ?_
      show Steps p.tables e below (T150.setTop (mkF m 162 #[.val (.int p0), .val (.int p1), .val (.int p2), .val (.int p3), .val (.int (1 : Int32)), .val (.ref b146), .val (.int p0), .val (.int p0), .val (.int (1 : Int32)), .unset, .unset] [(.int (1 : Int32))])) _
      refine XS.iconst X150.here hx rfl (hb hby at_162) ?_
      show Steps p.tables e below (T150.setTop (mkF m 163 #[.val (.int p0), .val (.int p1), .val (.int p2), .val (.int p3), .val (.int (1 : Int32)), .val (.ref b146), .val (.int p0), .val (.int p0), .val (.int (1 : Int32)), .unset, .unset] [(.int (2 : Int32)), (.int (1 : Int32))])) _
      refine XS.icmpYes X150.here hx rfl (pc0 := 163) (pc' := 217) rfl (hb hby at_163) rfl (tlt (by decide : (1 : Int32) < (2 : Int32))).1 (by decide) (by decide) ?_
      show Steps p.tables e below (T150.setTop (mkF m 217 #[.val (.int p0), .val (.int p1), .val (.int p2), .val (.int p3), .val (.int (1 : Int32)), .val (.ref b146), .val (.int p0), .val (.int p0), .val (.int (1 : Int32)), .unset, .unset] [])) _
      refine XS.iload X150.here hx rfl (hb hby at_217) rfl ?_
      exact k
    refine own_ret (Q := Q0 Z p0 p1 p2 p3 h0 n0) (v := some (.int (1 : Int32))) X150 hlk (fun h => by rw [hrt] at h; cases h) (by decide) (by decide) ?_ (fun fs hr => retN X150 hx (t := .boolean) hrt (by simp) (hb hby at_219) hr)
    rw [e150]
    exact ⟨rfl, N150⟩
  · refine Go.st (U' := T148.setTop (mkF m 33 #[.val (.int p0), .val (.int p1), .val (.int p2), .val (.int p3), .val (.int (2 : Int32)), .val (.ref b146), .unset, .unset, .unset, .unset, .unset] [(.int p1), (.ref b146)])) (fun t k => ?_) ?_
    · show Steps p.tables e below (T148.setTop (mkF m 24 #[.val (.int p0), .val (.int p1), .val (.int p2), .val (.int p3), .val (.int (2 : Int32)), .val (.ref b146), .unset, .unset, .unset, .unset, .unset] [])) _
      refine XS.iload X148.here hx rfl (hb hby at_24) rfl ?_
      show Steps p.tables e below (T148.setTop (mkF m 26 #[.val (.int p0), .val (.int p1), .val (.int p2), .val (.int p3), .val (.int (2 : Int32)), .val (.ref b146), .unset, .unset, .unset, .unset, .unset] [(.int (2 : Int32))])) _
      refine XS.iconst X148.here hx rfl (hb hby at_26) ?_
      show Steps p.tables e below (T148.setTop (mkF m 27 #[.val (.int p0), .val (.int p1), .val (.int p2), .val (.int p3), .val (.int (2 : Int32)), .val (.ref b146), .unset, .unset, .unset, .unset, .unset] [(.int (2 : Int32)), (.int (2 : Int32))])) _
      refine XS.icmpNo X148.here hx rfl (hb hby at_27) rfl (flt (by decide : ¬ ((2 : Int32) < (2 : Int32)))).1 ?_
      show Steps p.tables e below (T148.setTop (mkF m 30 #[.val (.int p0), .val (.int p1), .val (.int p2), .val (.int p3), .val (.int (2 : Int32)), .val (.ref b146), .unset, .unset, .unset, .unset, .unset] [])) _
      refine XS.aload X148.here hx rfl (hb hby at_30) rfl rfl ?_
      show Steps p.tables e below (T148.setTop (mkF m 32 #[.val (.int p0), .val (.int p1), .val (.int p2), .val (.int p3), .val (.int (2 : Int32)), .val (.ref b146), .unset, .unset, .unset, .unset, .unset] [(.ref b146)])) _
      refine XS.iloadN X148.here hx rfl (hb hby at_32) rfl ?_
      exact k
    obtain ⟨cq151, kq151, q151a, q151b, q151c⟩ := isOf hZ rfl PE148
    obtain ⟨_, _, ⟨T151, L151, k151, n151⟩, -, X151, ⟨Lc151, hQ151, l151, y151, z151⟩, st151⟩ := X148.virtualBack hx (y := own_y1) (z := own_y1) hown (mvT hZ (own_w hw 12 rfl)) (mvT hZ (own_w hw 13 rfl)) (notFace_of_selects (args := #[]) (mvT hZ (own_w hw 15 rfl))) (mvT hZ (own_w hw 15 rfl)) (mvT hZ (own_w hw 14 rfl)) (by decide) (backOf (W := 0) (rm2_1 l Z a0 hw [] b146 b147 kk147 p0 (0 : Int32) (0 : Int32) p1 T148.heap n0 sz148 PE148 PV148 PZ148 PA148 ge_b146 ge_b147 ne_b146_b147) hZ (own_w hw 16 rfl) (own_w hw 2 rfl) (by decide) (by decide)) q151a q151c (g := (mkF m 33 #[.val (.int p0), .val (.int p1), .val (.int p2), .val (.int p3), .val (.int (2 : Int32)), .val (.ref b146), .unset, .unset, .unset, .unset, .unset] [(.int p1), (.ref b146)])) rfl (by rw [hml]; rfl) (Steps.refl _) (argsL := [(.int p1)]) (rest := []) (lenOf pd_1 rfl) rfl (by show 2 * 0 + _ ≤ _; exact Nat.le_of_eq rfl) (hb hby at_33) (fun _ _ => ⟨rfl, rfl, (by decide : 2 + 0 ≤ _), (by decide : 18 + 0 ≤ _)⟩)
    dsimp only [Pt.U, Pt.locs, Pt.cells, Pt.slots] at X151 l151 y151 z151 st151 hQ151
    subst l151 y151 z151
    obtain ⟨rfl, N151q, K151, PE151, PV151, PZ151, PA151⟩ := hQ151
    have PE148_151 := PE148.keep K151
    have sz151 : n0 ≤ T151.heap.size := Nat.le_trans sz148 K151.1
    have N151 := Fr.app N148 N151q
    refine Go.tr (U' := T151.setTop (mkF m 36 #[.val (.int p0), .val (.int p1), .val (.int p2), .val (.int p3), .val (.int (2 : Int32)), .val (.ref b146), .unset, .unset, .unset, .unset, .unset] [])) st151 ?_
    refine Go.st (U' := T151.setTop (mkF m 50 #[.val (.int p0), .val (.int p1), .val (.int p2), .val (.int p3), .val (.int (2 : Int32)), .val (.ref b146), .unset, .unset, .unset, .unset, .unset] [(.ref b146)])) (fun t k => ?_) ?_
    · show Steps p.tables e below (T151.setTop (mkF m 36 #[.val (.int p0), .val (.int p1), .val (.int p2), .val (.int p3), .val (.int (2 : Int32)), .val (.ref b146), .unset, .unset, .unset, .unset, .unset] [])) _
      refine XS.iload X151.here hx rfl (hb hby at_36) rfl ?_
      show Steps p.tables e below (T151.setTop (mkF m 38 #[.val (.int p0), .val (.int p1), .val (.int p2), .val (.int p3), .val (.int (2 : Int32)), .val (.ref b146), .unset, .unset, .unset, .unset, .unset] [(.int (2 : Int32))])) _
      refine XS.iconst X151.here hx rfl (hb hby at_38) ?_
      show Steps p.tables e below (T151.setTop (mkF m 39 #[.val (.int p0), .val (.int p1), .val (.int p2), .val (.int p3), .val (.int (2 : Int32)), .val (.ref b146), .unset, .unset, .unset, .unset, .unset] [(.int (3 : Int32)), (.int (2 : Int32))])) _
      refine XS.icmpYes X151.here hx rfl (pc0 := 39) (pc' := 48) rfl (hb hby at_39) rfl (feq (by decide : ¬ ((2 : Int32) = (3 : Int32)))).2 (by decide) (by decide) ?_
      show Steps p.tables e below (T151.setTop (mkF m 48 #[.val (.int p0), .val (.int p1), .val (.int p2), .val (.int p3), .val (.int (2 : Int32)), .val (.ref b146), .unset, .unset, .unset, .unset, .unset] [])) _
      refine XS.aload X151.here hx rfl (hb hby at_48) rfl rfl ?_
      exact k
    obtain ⟨cq152, kq152, q152a, q152b, q152c⟩ := isOf hZ rfl PE151
    obtain ⟨_, _, ⟨T152, L152, k152, n152⟩, -, X152, ⟨Lc152, hQ152, l152, y152, z152⟩, st152⟩ := X151.virtualBack hx (y := own_y2) (z := own_y2) hown (mvT hZ (own_w hw 19 rfl)) (mvT hZ (own_w hw 20 rfl)) (notFace_of_selects (args := #[]) (mvT hZ (own_w hw 22 rfl))) (mvT hZ (own_w hw 22 rfl)) (mvT hZ (own_w hw 21 rfl)) (by decide) (backOf (W := 0) (rm3_2 l Z a0 hw [] b146 b147 kk147 p0 p1 (0 : Int32) T151.heap n0 sz151 PE151 PV151 PZ151 PA151 ge_b146 ge_b147 ne_b146_b147) hZ (own_w hw 23 rfl) (own_w hw 2 rfl) (by decide) (by decide)) q152a q152c (g := (mkF m 50 #[.val (.int p0), .val (.int p1), .val (.int p2), .val (.int p3), .val (.int (2 : Int32)), .val (.ref b146), .unset, .unset, .unset, .unset, .unset] [(.ref b146)])) rfl (by rw [hml]; rfl) (Steps.refl _) (argsL := []) (rest := []) (lenOf pd_2 rfl) rfl (by show 2 * 0 + _ ≤ _; exact Nat.le_of_eq rfl) (hb hby at_50) (fun _ _ => ⟨rfl, rfl, (by decide : 2 + 0 ≤ _), (by decide : 18 + 0 ≤ _)⟩)
    dsimp only [Pt.U, Pt.locs, Pt.cells, Pt.slots] at X152 l152 y152 z152 st152 hQ152
    subst l152 y152 z152
    obtain ⟨rfl, N152q, K152, PE152, PV152, PZ152, PA152⟩ := hQ152
    have PE151_152 := PE151.keep K152
    have sz152 : n0 ≤ T152.heap.size := Nat.le_trans sz151 K152.1
    have N152 := Fr.app N151 N152q
    refine Go.tr (U' := T152.setTop (mkF m 53 #[.val (.int p0), .val (.int p1), .val (.int p2), .val (.int p3), .val (.int (2 : Int32)), .val (.ref b146), .unset, .unset, .unset, .unset, .unset] [(.int p1)])) st152 ?_
    refine Go.st (U' := T152.setTop (mkF m 87 #[.val (.int p0), .val (.int p1), .val (.int p2), .val (.int p3), .val (.int (2 : Int32)), .val (.ref b146), .val (.int p1), .val (.int p1), .unset, .unset, .unset] [(.ref b146)])) (fun t k => ?_) ?_
    · show Steps p.tables e below (T152.setTop (mkF m 53 #[.val (.int p0), .val (.int p1), .val (.int p2), .val (.int p3), .val (.int (2 : Int32)), .val (.ref b146), .unset, .unset, .unset, .unset, .unset] [(.int p1)])) _
      refine XS.istore X152.here hx rfl (hb hby at_53) rfl (l' := #[.val (.int p0), .val (.int p1), .val (.int p2), .val (.int p3), .val (.int (2 : Int32)), .val (.ref b146), .val (.int p1), .unset, .unset, .unset, .unset]) rfl ?_
      show Steps p.tables e below (T152.setTop (mkF m 55 #[.val (.int p0), .val (.int p1), .val (.int p2), .val (.int p3), .val (.int (2 : Int32)), .val (.ref b146), .val (.int p1), .unset, .unset, .unset, .unset] [])) _
      refine XS.iload X152.here hx rfl (hb hby at_55) rfl ?_
      show Steps p.tables e below (T152.setTop (mkF m 57 #[.val (.int p0), .val (.int p1), .val (.int p2), .val (.int p3), .val (.int (2 : Int32)), .val (.ref b146), .val (.int p1), .unset, .unset, .unset, .unset] [(.int (2 : Int32))])) _
      refine XS.iconst X152.here hx rfl (hb hby at_57) ?_
      show Steps p.tables e below (T152.setTop (mkF m 58 #[.val (.int p0), .val (.int p1), .val (.int p2), .val (.int p3), .val (.int (2 : Int32)), .val (.ref b146), .val (.int p1), .unset, .unset, .unset, .unset] [(.int (1 : Int32)), (.int (2 : Int32))])) _
      refine XS.icmpYes X152.here hx rfl (pc0 := 58) (pc' := 65) rfl (hb hby at_58) rfl (feq (by decide : ¬ ((2 : Int32) = (1 : Int32)))).2 (by decide) (by decide) ?_
      show Steps p.tables e below (T152.setTop (mkF m 65 #[.val (.int p0), .val (.int p1), .val (.int p2), .val (.int p3), .val (.int (2 : Int32)), .val (.ref b146), .val (.int p1), .unset, .unset, .unset, .unset] [])) _
      refine XS.iload X152.here hx rfl (hb hby at_65) rfl ?_
      show Steps p.tables e below (T152.setTop (mkF m 67 #[.val (.int p0), .val (.int p1), .val (.int p2), .val (.int p3), .val (.int (2 : Int32)), .val (.ref b146), .val (.int p1), .unset, .unset, .unset, .unset] [(.int (2 : Int32))])) _
      refine XS.iconst X152.here hx rfl (hb hby at_67) ?_
      show Steps p.tables e below (T152.setTop (mkF m 68 #[.val (.int p0), .val (.int p1), .val (.int p2), .val (.int p3), .val (.int (2 : Int32)), .val (.ref b146), .val (.int p1), .unset, .unset, .unset, .unset] [(.int (2 : Int32)), (.int (2 : Int32))])) _
      refine XS.icmpNo X152.here hx rfl (hb hby at_68) rfl (teq (by decide : (2 : Int32) = (2 : Int32))).2 ?_
      show Steps p.tables e below (T152.setTop (mkF m 71 #[.val (.int p0), .val (.int p1), .val (.int p2), .val (.int p3), .val (.int (2 : Int32)), .val (.ref b146), .val (.int p1), .unset, .unset, .unset, .unset] [])) _
      refine XS.iloadN X152.here hx rfl (hb hby at_71) rfl ?_
      show Steps p.tables e below (T152.setTop (mkF m 72 #[.val (.int p0), .val (.int p1), .val (.int p2), .val (.int p3), .val (.int (2 : Int32)), .val (.ref b146), .val (.int p1), .unset, .unset, .unset, .unset] [(.int p1)])) _
      refine XS.goto X152.here hx rfl (pc0 := 72) (pc' := 76) rfl (hb hby at_72) (by decide) (by decide) ?_
      show Steps p.tables e below (T152.setTop (mkF m 76 #[.val (.int p0), .val (.int p1), .val (.int p2), .val (.int p3), .val (.int (2 : Int32)), .val (.ref b146), .val (.int p1), .unset, .unset, .unset, .unset] [(.int p1)])) _
      refine XS.istore X152.here hx rfl (hb hby at_76) rfl (l' := #[.val (.int p0), .val (.int p1), .val (.int p2), .val (.int p3), .val (.int (2 : Int32)), .val (.ref b146), .val (.int p1), .val (.int p1), .unset, .unset, .unset]) rfl ?_
      show Steps p.tables e below (T152.setTop (mkF m 78 #[.val (.int p0), .val (.int p1), .val (.int p2), .val (.int p3), .val (.int (2 : Int32)), .val (.ref b146), .val (.int p1), .val (.int p1), .unset, .unset, .unset] [])) _
      refine XS.iload X152.here hx rfl (hb hby at_78) rfl ?_
      show Steps p.tables e below (T152.setTop (mkF m 80 #[.val (.int p0), .val (.int p1), .val (.int p2), .val (.int p3), .val (.int (2 : Int32)), .val (.ref b146), .val (.int p1), .val (.int p1), .unset, .unset, .unset] [(.int p1)])) _
      refine XS.iload X152.here hx rfl (hb hby at_80) rfl ?_
      show Steps p.tables e below (T152.setTop (mkF m 82 #[.val (.int p0), .val (.int p1), .val (.int p2), .val (.int p3), .val (.int (2 : Int32)), .val (.ref b146), .val (.int p1), .val (.int p1), .unset, .unset, .unset] [(.int p1), (.int p1)])) _
      refine XS.icmpNo X152.here hx rfl (hb hby at_82) rfl (teq (rfl : p1 = p1)).2 ?_
      show Steps p.tables e below (T152.setTop (mkF m 85 #[.val (.int p0), .val (.int p1), .val (.int p2), .val (.int p3), .val (.int (2 : Int32)), .val (.ref b146), .val (.int p1), .val (.int p1), .unset, .unset, .unset] [])) _
      refine XS.aload X152.here hx rfl (hb hby at_85) rfl rfl ?_
      exact k
    obtain ⟨cq153, kq153, q153a, q153b, q153c⟩ := isOf hZ rfl PE152
    obtain ⟨_, _, ⟨T153, L153, k153, n153⟩, -, X153, ⟨Lc153, hQ153, l153, y153, z153⟩, st153⟩ := X152.virtualBack hx (y := own_y3) (z := own_y3) hown (mvT hZ (own_w hw 24 rfl)) (mvT hZ (own_w hw 25 rfl)) (notFace_of_selects (args := #[]) (mvT hZ (own_w hw 27 rfl))) (mvT hZ (own_w hw 27 rfl)) (mvT hZ (own_w hw 26 rfl)) (by decide) (backOf (W := 0) (rm4 l Z a0 hw [] b146 (1 : Int32) T152.heap n0 sz152 PZ152) hZ (own_w hw 28 rfl) (own_w hw 2 rfl) (by decide) (by decide)) q153a q153c (g := (mkF m 87 #[.val (.int p0), .val (.int p1), .val (.int p2), .val (.int p3), .val (.int (2 : Int32)), .val (.ref b146), .val (.int p1), .val (.int p1), .unset, .unset, .unset] [(.ref b146)])) rfl (by rw [hml]; rfl) (Steps.refl _) (argsL := []) (rest := []) (lenOf pd_2 rfl) rfl (by show 2 * 0 + _ ≤ _; exact Nat.le_of_eq rfl) (hb hby at_87) (fun _ _ => ⟨rfl, rfl, (by decide : 2 + 0 ≤ _), (by decide : 18 + 0 ≤ _)⟩)
    dsimp only [Pt.U, Pt.locs, Pt.cells, Pt.slots] at X153 l153 y153 z153 st153 hQ153
    subst l153 y153 z153
    obtain ⟨rfl, N153q, e153⟩ := hQ153
    have N153 := Fr.app N152 N153q
    refine Go.tr (U' := T153.setTop (mkF m 90 #[.val (.int p0), .val (.int p1), .val (.int p2), .val (.int p3), .val (.int (2 : Int32)), .val (.ref b146), .val (.int p1), .val (.int p1), .unset, .unset, .unset] [(.int (1 : Int32))])) st153 ?_
    refine Go.st (U' := T153.setTop (mkF m 118 #[.val (.int p0), .val (.int p1), .val (.int p2), .val (.int p3), .val (.int (2 : Int32)), .val (.ref b146), .val (.int p1), .val (.int p1), .val (.int (1 : Int32)), .unset, .unset] [(.int (0 : Int32)), (.ref b146)])) (fun t k => ?_) ?_
    · show Steps p.tables e below (T153.setTop (mkF m 90 #[.val (.int p0), .val (.int p1), .val (.int p2), .val (.int p3), .val (.int (2 : Int32)), .val (.ref b146), .val (.int p1), .val (.int p1), .unset, .unset, .unset] [(.int (1 : Int32))])) _
      refine XS.iload X153.here hx rfl (hb hby at_90) rfl ?_
      show Steps p.tables e below (T153.setTop (mkF m 92 #[.val (.int p0), .val (.int p1), .val (.int p2), .val (.int p3), .val (.int (2 : Int32)), .val (.ref b146), .val (.int p1), .val (.int p1), .unset, .unset, .unset] [(.int (2 : Int32)), (.int (1 : Int32))])) _
      refine XS.iconst X153.here hx rfl (hb hby at_92) ?_
      show Steps p.tables e below (T153.setTop (mkF m 93 #[.val (.int p0), .val (.int p1), .val (.int p2), .val (.int p3), .val (.int (2 : Int32)), .val (.ref b146), .val (.int p1), .val (.int p1), .unset, .unset, .unset] [(.int (1 : Int32)), (.int (2 : Int32)), (.int (1 : Int32))])) _
      refine XS.isub X153.here hx rfl (hb hby at_93) rfl ?_
      show Steps p.tables e below (T153.setTop (mkF m 94 #[.val (.int p0), .val (.int p1), .val (.int p2), .val (.int p3), .val (.int (2 : Int32)), .val (.ref b146), .val (.int p1), .val (.int p1), .unset, .unset, .unset] [(.int (1 : Int32)), (.int (1 : Int32))])) _
      refine XS.icmpNo X153.here hx rfl (hb hby at_94) rfl (teq (by decide : (1 : Int32) = (1 : Int32))).2 ?_
      show Steps p.tables e below (T153.setTop (mkF m 97 #[.val (.int p0), .val (.int p1), .val (.int p2), .val (.int p3), .val (.int (2 : Int32)), .val (.ref b146), .val (.int p1), .val (.int p1), .unset, .unset, .unset] [])) _
      refine XS.iconst X153.here hx rfl (hb hby at_97) ?_
      show Steps p.tables e below (T153.setTop (mkF m 98 #[.val (.int p0), .val (.int p1), .val (.int p2), .val (.int p3), .val (.int (2 : Int32)), .val (.ref b146), .val (.int p1), .val (.int p1), .unset, .unset, .unset] [(.int (1 : Int32))])) _
      refine XS.goto X153.here hx rfl (pc0 := 98) (pc' := 102) rfl (hb hby at_98) (by decide) (by decide) ?_
      show Steps p.tables e below (T153.setTop (mkF m 102 #[.val (.int p0), .val (.int p1), .val (.int p2), .val (.int p3), .val (.int (2 : Int32)), .val (.ref b146), .val (.int p1), .val (.int p1), .unset, .unset, .unset] [(.int (1 : Int32))])) _
      refine XS.istore X153.here hx rfl (hb hby at_102) rfl (l' := #[.val (.int p0), .val (.int p1), .val (.int p2), .val (.int p3), .val (.int (2 : Int32)), .val (.ref b146), .val (.int p1), .val (.int p1), .val (.int (1 : Int32)), .unset, .unset]) rfl ?_
      show Steps p.tables e below (T153.setTop (mkF m 104 #[.val (.int p0), .val (.int p1), .val (.int p2), .val (.int p3), .val (.int (2 : Int32)), .val (.ref b146), .val (.int p1), .val (.int p1), .val (.int (1 : Int32)), .unset, .unset] [])) _
      refine XS.iload X153.here hx rfl (hb hby at_104) rfl ?_
      show Steps p.tables e below (T153.setTop (mkF m 106 #[.val (.int p0), .val (.int p1), .val (.int p2), .val (.int p3), .val (.int (2 : Int32)), .val (.ref b146), .val (.int p1), .val (.int p1), .val (.int (1 : Int32)), .unset, .unset] [(.int (2 : Int32))])) _
      refine XS.iconst X153.here hx rfl (hb hby at_106) ?_
      show Steps p.tables e below (T153.setTop (mkF m 107 #[.val (.int p0), .val (.int p1), .val (.int p2), .val (.int p3), .val (.int (2 : Int32)), .val (.ref b146), .val (.int p1), .val (.int p1), .val (.int (1 : Int32)), .unset, .unset] [(.int (2 : Int32)), (.int (2 : Int32))])) _
      refine XS.icmpNo X153.here hx rfl (hb hby at_107) rfl (flt (by decide : ¬ ((2 : Int32) < (2 : Int32)))).1 ?_
      show Steps p.tables e below (T153.setTop (mkF m 110 #[.val (.int p0), .val (.int p1), .val (.int p2), .val (.int p3), .val (.int (2 : Int32)), .val (.ref b146), .val (.int p1), .val (.int p1), .val (.int (1 : Int32)), .unset, .unset] [])) _
      refine XS.iload X153.here hx rfl (hb hby at_110) rfl ?_
      show Steps p.tables e below (T153.setTop (mkF m 112 #[.val (.int p0), .val (.int p1), .val (.int p2), .val (.int p3), .val (.int (2 : Int32)), .val (.ref b146), .val (.int p1), .val (.int p1), .val (.int (1 : Int32)), .unset, .unset] [(.int (1 : Int32))])) _
      refine XS.ifNo X153.here hx rfl (hb hby at_112) rfl ((if0 _ _).trans (feq (by decide : ¬ ((1 : Int32) = (0 : Int32)))).1) ?_
      show Steps p.tables e below (T153.setTop (mkF m 115 #[.val (.int p0), .val (.int p1), .val (.int p2), .val (.int p3), .val (.int (2 : Int32)), .val (.ref b146), .val (.int p1), .val (.int p1), .val (.int (1 : Int32)), .unset, .unset] [])) _
      refine XS.aload X153.here hx rfl (hb hby at_115) rfl rfl ?_
      show Steps p.tables e below (T153.setTop (mkF m 117 #[.val (.int p0), .val (.int p1), .val (.int p2), .val (.int p3), .val (.int (2 : Int32)), .val (.ref b146), .val (.int p1), .val (.int p1), .val (.int (1 : Int32)), .unset, .unset] [(.ref b146)])) _
      refine XS.iconst X153.here hx rfl (hb hby at_117) ?_
      exact k
    obtain ⟨cq154, kq154, q154a, q154b, q154c⟩ := isOf hZ e153 PE152
    obtain ⟨_, _, ⟨T154, L154, k154, n154⟩, -, X154, ⟨Lc154, hQ154, l154, y154, z154⟩, st154⟩ := X153.virtualBack hx (y := own_y4) (z := own_y4) hown (mvT hZ (own_w hw 29 rfl)) (mvT hZ (own_w hw 30 rfl)) (notFace_of_selects (args := #[]) (mvT hZ (own_w hw 32 rfl))) (mvT hZ (own_w hw 32 rfl)) (mvT hZ (own_w hw 31 rfl)) (by decide) (backOf (W := 0) (rm5_0 l Z a0 hw [] b146 b147 kk147 p0 p1 (0 : Int32) T152.heap n0 sz152 PE152 PV152 PA152) hZ (own_w hw 33 rfl) (own_w hw 2 rfl) (by decide) (by decide)) q154a q154c (g := (mkF m 118 #[.val (.int p0), .val (.int p1), .val (.int p2), .val (.int p3), .val (.int (2 : Int32)), .val (.ref b146), .val (.int p1), .val (.int p1), .val (.int (1 : Int32)), .unset, .unset] [(.int (0 : Int32)), (.ref b146)])) rfl (by rw [hml]; rfl) (Steps.refl _) (argsL := [(.int (0 : Int32))]) (rest := []) (lenOf pd_3 rfl) rfl (by show 2 * 0 + _ ≤ _; exact Nat.le_of_eq rfl) (hb hby at_118) (fun _ _ => ⟨rfl, e153, (by decide : 2 + 0 ≤ _), (by decide : 18 + 0 ≤ _)⟩)
    dsimp only [Pt.U, Pt.locs, Pt.cells, Pt.slots] at X154 l154 y154 z154 st154 hQ154
    subst l154 y154 z154
    obtain ⟨rfl, N154q, e154⟩ := hQ154
    have N154 := Fr.app N153 N154q
    refine Go.tr (U' := T154.setTop (mkF m 121 #[.val (.int p0), .val (.int p1), .val (.int p2), .val (.int p3), .val (.int (2 : Int32)), .val (.ref b146), .val (.int p1), .val (.int p1), .val (.int (1 : Int32)), .unset, .unset] [(.int p0)])) st154 ?_
    refine Go.st (U' := T154.setTop (mkF m 168 #[.val (.int p0), .val (.int p1), .val (.int p2), .val (.int p3), .val (.int (2 : Int32)), .val (.ref b146), .val (.int p1), .val (.int p1), .val (.int (1 : Int32)), .unset, .unset] [(.ref b146)])) (fun t k => ?_) ?_
    · show Steps p.tables e below (T154.setTop (mkF m 121 #[.val (.int p0), .val (.int p1), .val (.int p2), .val (.int p3), .val (.int (2 : Int32)), .val (.ref b146), .val (.int p1), .val (.int p1), .val (.int (1 : Int32)), .unset, .unset] [(.int p0)])) _
      refine XS.iloadN X154.here hx rfl (hb hby at_121) rfl ?_
      show Steps p.tables e below (T154.setTop (mkF m 122 #[.val (.int p0), .val (.int p1), .val (.int p2), .val (.int p3), .val (.int (2 : Int32)), .val (.ref b146), .val (.int p1), .val (.int p1), .val (.int (1 : Int32)), .unset, .unset] [(.int p0), (.int p0)])) _
      refine XS.icmpNo X154.here hx rfl (hb hby at_122) rfl (teq (rfl : p0 = p0)).2 ?_
      show Steps p.tables e below (T154.setTop (mkF m 125 #[.val (.int p0), .val (.int p1), .val (.int p2), .val (.int p3), .val (.int (2 : Int32)), .val (.ref b146), .val (.int p1), .val (.int p1), .val (.int (1 : Int32)), .unset, .unset] [])) _
      refine XS.iconst X154.here hx rfl (hb hby at_125) ?_
      show Steps p.tables e below (T154.setTop (mkF m 126 #[.val (.int p0), .val (.int p1), .val (.int p2), .val (.int p3), .val (.int (2 : Int32)), .val (.ref b146), .val (.int p1), .val (.int p1), .val (.int (1 : Int32)), .unset, .unset] [(.int (1 : Int32))])) _
      refine XS.goto X154.here hx rfl (pc0 := 126) (pc' := 130) rfl (hb hby at_126) (by decide) (by decide) ?_
      show Steps p.tables e below (T154.setTop (mkF m 130 #[.val (.int p0), .val (.int p1), .val (.int p2), .val (.int p3), .val (.int (2 : Int32)), .val (.ref b146), .val (.int p1), .val (.int p1), .val (.int (1 : Int32)), .unset, .unset] [(.int (1 : Int32))])) _
      refine XS.istore X154.here hx rfl (hb hby at_130) rfl (l' := #[.val (.int p0), .val (.int p1), .val (.int p2), .val (.int p3), .val (.int (2 : Int32)), .val (.ref b146), .val (.int p1), .val (.int p1), .val (.int (1 : Int32)), .unset, .unset]) rfl ?_
      show Steps p.tables e below (T154.setTop (mkF m 132 #[.val (.int p0), .val (.int p1), .val (.int p2), .val (.int p3), .val (.int (2 : Int32)), .val (.ref b146), .val (.int p1), .val (.int p1), .val (.int (1 : Int32)), .unset, .unset] [])) _
      refine XS.iload X154.here hx rfl (hb hby at_132) rfl ?_
      show Steps p.tables e below (T154.setTop (mkF m 134 #[.val (.int p0), .val (.int p1), .val (.int p2), .val (.int p3), .val (.int (2 : Int32)), .val (.ref b146), .val (.int p1), .val (.int p1), .val (.int (1 : Int32)), .unset, .unset] [(.int (2 : Int32))])) _
      refine XS.iconst X154.here hx rfl (hb hby at_134) ?_
      show Steps p.tables e below (T154.setTop (mkF m 135 #[.val (.int p0), .val (.int p1), .val (.int p2), .val (.int p3), .val (.int (2 : Int32)), .val (.ref b146), .val (.int p1), .val (.int p1), .val (.int (1 : Int32)), .unset, .unset] [(.int (3 : Int32)), (.int (2 : Int32))])) _
      refine XS.icmpYes X154.here hx rfl (pc0 := 135) (pc' := 160) rfl (hb hby at_135) rfl (feq (by decide : ¬ ((2 : Int32) = (3 : Int32)))).2 (by decide) (by decide) ?_
      show Steps p.tables e below (T154.setTop (mkF m 160 #[.val (.int p0), .val (.int p1), .val (.int p2), .val (.int p3), .val (.int (2 : Int32)), .val (.ref b146), .val (.int p1), .val (.int p1), .val (.int (1 : Int32)), .unset, .unset] [])) _
      refine XS.iload X154.here hx rfl (hb hby at_160) rfl ?_
      show Steps p.tables e below (T154.setTop (mkF m 162 #[.val (.int p0), .val (.int p1), .val (.int p2), .val (.int p3), .val (.int (2 : Int32)), .val (.ref b146), .val (.int p1), .val (.int p1), .val (.int (1 : Int32)), .unset, .unset] [(.int (2 : Int32))])) _
      refine XS.iconst X154.here hx rfl (hb hby at_162) ?_
      show Steps p.tables e below (T154.setTop (mkF m 163 #[.val (.int p0), .val (.int p1), .val (.int p2), .val (.int p3), .val (.int (2 : Int32)), .val (.ref b146), .val (.int p1), .val (.int p1), .val (.int (1 : Int32)), .unset, .unset] [(.int (2 : Int32)), (.int (2 : Int32))])) _
      refine XS.icmpNo X154.here hx rfl (hb hby at_163) rfl (flt (by decide : ¬ ((2 : Int32) < (2 : Int32)))).1 ?_
      show Steps p.tables e below (T154.setTop (mkF m 166 #[.val (.int p0), .val (.int p1), .val (.int p2), .val (.int p3), .val (.int (2 : Int32)), .val (.ref b146), .val (.int p1), .val (.int p1), .val (.int (1 : Int32)), .unset, .unset] [])) _
      refine XS.aload X154.here hx rfl (hb hby at_166) rfl rfl ?_
      exact k
    obtain ⟨cq155, kq155, q155a, q155b, q155c⟩ := isOf hZ e154 PE152
    obtain ⟨_, _, ⟨T155, L155, k155, n155⟩, -, X155, ⟨Lc155, hQ155, l155, y155, z155⟩, st155⟩ := X154.virtualBack hx (y := own_y2) (z := own_y2) hown (mvT hZ (own_w hw 19 rfl)) (mvT hZ (own_w hw 20 rfl)) (notFace_of_selects (args := #[]) (mvT hZ (own_w hw 22 rfl))) (mvT hZ (own_w hw 22 rfl)) (mvT hZ (own_w hw 21 rfl)) (by decide) (backOf (W := 0) (rm3_1 l Z a0 hw [] b146 b147 kk147 p0 p1 (0 : Int32) T152.heap n0 sz152 PE152 PV152 PZ152 PA152 ge_b146 ge_b147 ne_b146_b147) hZ (own_w hw 23 rfl) (own_w hw 2 rfl) (by decide) (by decide)) q155a q155c (g := (mkF m 168 #[.val (.int p0), .val (.int p1), .val (.int p2), .val (.int p3), .val (.int (2 : Int32)), .val (.ref b146), .val (.int p1), .val (.int p1), .val (.int (1 : Int32)), .unset, .unset] [(.ref b146)])) rfl (by rw [hml]; rfl) (Steps.refl _) (argsL := []) (rest := []) (lenOf pd_2 rfl) rfl (by show 2 * 0 + _ ≤ _; exact Nat.le_of_eq rfl) (hb hby at_168) (fun _ _ => ⟨rfl, e154, (by decide : 2 + 0 ≤ _), (by decide : 18 + 0 ≤ _)⟩)
    dsimp only [Pt.U, Pt.locs, Pt.cells, Pt.slots] at X155 l155 y155 z155 st155 hQ155
    subst l155 y155 z155
    obtain ⟨rfl, N155q, K155, PE155, PV155, PZ155, PA155⟩ := hQ155
    have PE152_155 := PE152.keep K155
    have sz155 : n0 ≤ T155.heap.size := Nat.le_trans sz152 K155.1
    have N155 := Fr.app N154 N155q
    refine Go.tr (U' := T155.setTop (mkF m 171 #[.val (.int p0), .val (.int p1), .val (.int p2), .val (.int p3), .val (.int (2 : Int32)), .val (.ref b146), .val (.int p1), .val (.int p1), .val (.int (1 : Int32)), .unset, .unset] [(.int p0)])) st155 ?_
    refine Go.st (U' := T155.setTop (mkF m 200 #[.val (.int p0), .val (.int p1), .val (.int p2), .val (.int p3), .val (.int (2 : Int32)), .val (.ref b146), .val (.int p1), .val (.int p1), .val (.int (1 : Int32)), .val (.int p0), .val (.int p0)] [(.ref b146)])) (fun t k => ?_) ?_
    · show Steps p.tables e below (T155.setTop (mkF m 171 #[.val (.int p0), .val (.int p1), .val (.int p2), .val (.int p3), .val (.int (2 : Int32)), .val (.ref b146), .val (.int p1), .val (.int p1), .val (.int (1 : Int32)), .unset, .unset] [(.int p0)])) _
      refine XS.istore X155.here hx rfl (hb hby at_171) rfl (l' := #[.val (.int p0), .val (.int p1), .val (.int p2), .val (.int p3), .val (.int (2 : Int32)), .val (.ref b146), .val (.int p1), .val (.int p1), .val (.int (1 : Int32)), .val (.int p0), .unset]) rfl ?_
      show Steps p.tables e below (T155.setTop (mkF m 173 #[.val (.int p0), .val (.int p1), .val (.int p2), .val (.int p3), .val (.int (2 : Int32)), .val (.ref b146), .val (.int p1), .val (.int p1), .val (.int (1 : Int32)), .val (.int p0), .unset] [])) _
      refine XS.iload X155.here hx rfl (hb hby at_173) rfl ?_
      show Steps p.tables e below (T155.setTop (mkF m 175 #[.val (.int p0), .val (.int p1), .val (.int p2), .val (.int p3), .val (.int (2 : Int32)), .val (.ref b146), .val (.int p1), .val (.int p1), .val (.int (1 : Int32)), .val (.int p0), .unset] [(.int (2 : Int32))])) _
      refine XS.iconst X155.here hx rfl (hb hby at_175) ?_
      show Steps p.tables e below (T155.setTop (mkF m 176 #[.val (.int p0), .val (.int p1), .val (.int p2), .val (.int p3), .val (.int (2 : Int32)), .val (.ref b146), .val (.int p1), .val (.int p1), .val (.int (1 : Int32)), .val (.int p0), .unset] [(.int (2 : Int32)), (.int (2 : Int32))])) _
      refine XS.icmpNo X155.here hx rfl (hb hby at_176) rfl (teq (by decide : (2 : Int32) = (2 : Int32))).2 ?_
      show Steps p.tables e below (T155.setTop (mkF m 179 #[.val (.int p0), .val (.int p1), .val (.int p2), .val (.int p3), .val (.int (2 : Int32)), .val (.ref b146), .val (.int p1), .val (.int p1), .val (.int (1 : Int32)), .val (.int p0), .unset] [])) _
      refine XS.iloadN X155.here hx rfl (hb hby at_179) rfl ?_
      show Steps p.tables e below (T155.setTop (mkF m 180 #[.val (.int p0), .val (.int p1), .val (.int p2), .val (.int p3), .val (.int (2 : Int32)), .val (.ref b146), .val (.int p1), .val (.int p1), .val (.int (1 : Int32)), .val (.int p0), .unset] [(.int p0)])) _
      refine XS.goto X155.here hx rfl (pc0 := 180) (pc' := 184) rfl (hb hby at_180) (by decide) (by decide) ?_
      show Steps p.tables e below (T155.setTop (mkF m 184 #[.val (.int p0), .val (.int p1), .val (.int p2), .val (.int p3), .val (.int (2 : Int32)), .val (.ref b146), .val (.int p1), .val (.int p1), .val (.int (1 : Int32)), .val (.int p0), .unset] [(.int p0)])) _
      refine XS.istore X155.here hx rfl (hb hby at_184) rfl (l' := #[.val (.int p0), .val (.int p1), .val (.int p2), .val (.int p3), .val (.int (2 : Int32)), .val (.ref b146), .val (.int p1), .val (.int p1), .val (.int (1 : Int32)), .val (.int p0), .val (.int p0)]) rfl ?_
      show Steps p.tables e below (T155.setTop (mkF m 186 #[.val (.int p0), .val (.int p1), .val (.int p2), .val (.int p3), .val (.int (2 : Int32)), .val (.ref b146), .val (.int p1), .val (.int p1), .val (.int (1 : Int32)), .val (.int p0), .val (.int p0)] [])) _
      refine XS.iload X155.here hx rfl (hb hby at_186) rfl ?_
      show Steps p.tables e below (T155.setTop (mkF m 188 #[.val (.int p0), .val (.int p1), .val (.int p2), .val (.int p3), .val (.int (2 : Int32)), .val (.ref b146), .val (.int p1), .val (.int p1), .val (.int (1 : Int32)), .val (.int p0), .val (.int p0)] [(.int (1 : Int32))])) _
      refine XS.ifNo X155.here hx rfl (hb hby at_188) rfl ((if0 _ _).trans (feq (by decide : ¬ ((1 : Int32) = (0 : Int32)))).1) ?_
      show Steps p.tables e below (T155.setTop (mkF m 191 #[.val (.int p0), .val (.int p1), .val (.int p2), .val (.int p3), .val (.int (2 : Int32)), .val (.ref b146), .val (.int p1), .val (.int p1), .val (.int (1 : Int32)), .val (.int p0), .val (.int p0)] [])) _
      refine XS.iload X155.here hx rfl (hb hby at_191) rfl ?_
      show Steps p.tables e below (T155.setTop (mkF m 193 #[.val (.int p0), .val (.int p1), .val (.int p2), .val (.int p3), .val (.int (2 : Int32)), .val (.ref b146), .val (.int p1), .val (.int p1), .val (.int (1 : Int32)), .val (.int p0), .val (.int p0)] [(.int p0)])) _
      refine XS.iload X155.here hx rfl (hb hby at_193) rfl ?_
      show Steps p.tables e below (T155.setTop (mkF m 195 #[.val (.int p0), .val (.int p1), .val (.int p2), .val (.int p3), .val (.int (2 : Int32)), .val (.ref b146), .val (.int p1), .val (.int p1), .val (.int (1 : Int32)), .val (.int p0), .val (.int p0)] [(.int p0), (.int p0)])) _
      refine XS.icmpNo X155.here hx rfl (hb hby at_195) rfl (teq (rfl : p0 = p0)).2 ?_
      show Steps p.tables e below (T155.setTop (mkF m 198 #[.val (.int p0), .val (.int p1), .val (.int p2), .val (.int p3), .val (.int (2 : Int32)), .val (.ref b146), .val (.int p1), .val (.int p1), .val (.int (1 : Int32)), .val (.int p0), .val (.int p0)] [])) _
      refine XS.aload X155.here hx rfl (hb hby at_198) rfl rfl ?_
      exact k
    obtain ⟨cq156, kq156, q156a, q156b, q156c⟩ := isOf hZ rfl PE155
    obtain ⟨_, _, ⟨T156, L156, k156, n156⟩, -, X156, ⟨Lc156, hQ156, l156, y156, z156⟩, st156⟩ := X155.virtualBack hx (y := own_y3) (z := own_y3) hown (mvT hZ (own_w hw 24 rfl)) (mvT hZ (own_w hw 25 rfl)) (notFace_of_selects (args := #[]) (mvT hZ (own_w hw 27 rfl))) (mvT hZ (own_w hw 27 rfl)) (mvT hZ (own_w hw 26 rfl)) (by decide) (backOf (W := 0) (rm4 l Z a0 hw [] b146 (0 : Int32) T155.heap n0 sz155 PZ155) hZ (own_w hw 28 rfl) (own_w hw 2 rfl) (by decide) (by decide)) q156a q156c (g := (mkF m 200 #[.val (.int p0), .val (.int p1), .val (.int p2), .val (.int p3), .val (.int (2 : Int32)), .val (.ref b146), .val (.int p1), .val (.int p1), .val (.int (1 : Int32)), .val (.int p0), .val (.int p0)] [(.ref b146)])) rfl (by rw [hml]; rfl) (Steps.refl _) (argsL := []) (rest := []) (lenOf pd_2 rfl) rfl (by show 2 * 0 + _ ≤ _; exact Nat.le_of_eq rfl) (hb hby at_200) (fun _ _ => ⟨rfl, rfl, (by decide : 2 + 0 ≤ _), (by decide : 18 + 0 ≤ _)⟩)
    dsimp only [Pt.U, Pt.locs, Pt.cells, Pt.slots] at X156 l156 y156 z156 st156 hQ156
    subst l156 y156 z156
    obtain ⟨rfl, N156q, e156⟩ := hQ156
    have N156 := Fr.app N155 N156q
    refine Go.tr (U' := T156.setTop (mkF m 203 #[.val (.int p0), .val (.int p1), .val (.int p2), .val (.int p3), .val (.int (2 : Int32)), .val (.ref b146), .val (.int p1), .val (.int p1), .val (.int (1 : Int32)), .val (.int p0), .val (.int p0)] [(.int (0 : Int32))])) st156 ?_
    refine Go.st (U' := T156.setTop (mkF m 219 #[.val (.int p0), .val (.int p1), .val (.int p2), .val (.int p3), .val (.int (2 : Int32)), .val (.ref b146), .val (.int p1), .val (.int p1), .val (.int (1 : Int32)), .val (.int p0), .val (.int p0)] [(.int (1 : Int32))])) (fun t k => ?_) ?_
    · show Steps p.tables e below (T156.setTop (mkF m 203 #[.val (.int p0), .val (.int p1), .val (.int p2), .val (.int p3), .val (.int (2 : Int32)), .val (.ref b146), .val (.int p1), .val (.int p1), .val (.int (1 : Int32)), .val (.int p0), .val (.int p0)] [(.int (0 : Int32))])) _
      refine XS.iload X156.here hx rfl (hb hby at_203) rfl ?_
      show Steps p.tables e below (T156.setTop (mkF m 205 #[.val (.int p0), .val (.int p1), .val (.int p2), .val (.int p3), .val (.int (2 : Int32)), .val (.ref b146), .val (.int p1), .val (.int p1), .val (.int (1 : Int32)), .val (.int p0), .val (.int p0)] [(.int (2 : Int32)), (.int (0 : Int32))])) _
      refine XS.iconst X156.here hx rfl (hb hby at_205) ?_
      show Steps p.tables e below (T156.setTop (mkF m 206 #[.val (.int p0), .val (.int p1), .val (.int p2), .val (.int p3), .val (.int (2 : Int32)), .val (.ref b146), .val (.int p1), .val (.int p1), .val (.int (1 : Int32)), .val (.int p0), .val (.int p0)] [(.int (2 : Int32)), (.int (2 : Int32)), (.int (0 : Int32))])) _
      refine XS.isub X156.here hx rfl (hb hby at_206) rfl ?_
      show Steps p.tables e below (T156.setTop (mkF m 207 #[.val (.int p0), .val (.int p1), .val (.int p2), .val (.int p3), .val (.int (2 : Int32)), .val (.ref b146), .val (.int p1), .val (.int p1), .val (.int (1 : Int32)), .val (.int p0), .val (.int p0)] [(.int (0 : Int32)), (.int (0 : Int32))])) _
      refine XS.icmpNo X156.here hx rfl (hb hby at_207) rfl (teq (by decide : (0 : Int32) = (0 : Int32))).2 ?_
      show Steps p.tables e below (T156.setTop (mkF m 210 #[.val (.int p0), .val (.int p1), .val (.int p2), .val (.int p3), .val (.int (2 : Int32)), .val (.ref b146), .val (.int p1), .val (.int p1), .val (.int (1 : Int32)), .val (.int p0), .val (.int p0)] [])) _
      refine XS.iconst X156.here hx rfl (hb hby at_210) ?_
      show Steps p.tables e below (T156.setTop (mkF m 211 #[.val (.int p0), .val (.int p1), .val (.int p2), .val (.int p3), .val (.int (2 : Int32)), .val (.ref b146), .val (.int p1), .val (.int p1), .val (.int (1 : Int32)), .val (.int p0), .val (.int p0)] [(.int (1 : Int32))])) _
      refine XS.goto X156.here hx rfl (pc0 := 211) (pc' := 215) rfl (hb hby at_211) (by decide) (by decide) ?_
      show Steps p.tables e below (T156.setTop (mkF m 215 #[.val (.int p0), .val (.int p1), .val (.int p2), .val (.int p3), .val (.int (2 : Int32)), .val (.ref b146), .val (.int p1), .val (.int p1), .val (.int (1 : Int32)), .val (.int p0), .val (.int p0)] [(.int (1 : Int32))])) _
      refine XS.istore X156.here hx rfl (hb hby at_215) rfl (l' := #[.val (.int p0), .val (.int p1), .val (.int p2), .val (.int p3), .val (.int (2 : Int32)), .val (.ref b146), .val (.int p1), .val (.int p1), .val (.int (1 : Int32)), .val (.int p0), .val (.int p0)]) rfl ?_
      show Steps p.tables e below (T156.setTop (mkF m 217 #[.val (.int p0), .val (.int p1), .val (.int p2), .val (.int p3), .val (.int (2 : Int32)), .val (.ref b146), .val (.int p1), .val (.int p1), .val (.int (1 : Int32)), .val (.int p0), .val (.int p0)] [])) _
      refine XS.iload X156.here hx rfl (hb hby at_217) rfl ?_
      exact k
    refine own_ret (Q := Q0 Z p0 p1 p2 p3 h0 n0) (v := some (.int (1 : Int32))) X156 hlk (fun h => by rw [hrt] at h; cases h) (by decide) (by decide) ?_ (fun fs hr => retN X156 hx (t := .boolean) hrt (by simp) (hb hby at_219) hr)
    rw [e156]
    exact ⟨rfl, N156⟩
  · refine Go.st (U' := T148.setTop (mkF m 33 #[.val (.int p0), .val (.int p1), .val (.int p2), .val (.int p3), .val (.int (3 : Int32)), .val (.ref b146), .unset, .unset, .unset, .unset, .unset] [(.int p1), (.ref b146)])) (fun t k => ?_) ?_
    · show Steps p.tables e below (T148.setTop (mkF m 24 #[.val (.int p0), .val (.int p1), .val (.int p2), .val (.int p3), .val (.int (3 : Int32)), .val (.ref b146), .unset, .unset, .unset, .unset, .unset] [])) _
      refine XS.iload X148.here hx rfl (hb hby at_24) rfl ?_
      show Steps p.tables e below (T148.setTop (mkF m 26 #[.val (.int p0), .val (.int p1), .val (.int p2), .val (.int p3), .val (.int (3 : Int32)), .val (.ref b146), .unset, .unset, .unset, .unset, .unset] [(.int (3 : Int32))])) _
      refine XS.iconst X148.here hx rfl (hb hby at_26) ?_
      show Steps p.tables e below (T148.setTop (mkF m 27 #[.val (.int p0), .val (.int p1), .val (.int p2), .val (.int p3), .val (.int (3 : Int32)), .val (.ref b146), .unset, .unset, .unset, .unset, .unset] [(.int (2 : Int32)), (.int (3 : Int32))])) _
      refine XS.icmpNo X148.here hx rfl (hb hby at_27) rfl (flt (by decide : ¬ ((3 : Int32) < (2 : Int32)))).1 ?_
      show Steps p.tables e below (T148.setTop (mkF m 30 #[.val (.int p0), .val (.int p1), .val (.int p2), .val (.int p3), .val (.int (3 : Int32)), .val (.ref b146), .unset, .unset, .unset, .unset, .unset] [])) _
      refine XS.aload X148.here hx rfl (hb hby at_30) rfl rfl ?_
      show Steps p.tables e below (T148.setTop (mkF m 32 #[.val (.int p0), .val (.int p1), .val (.int p2), .val (.int p3), .val (.int (3 : Int32)), .val (.ref b146), .unset, .unset, .unset, .unset, .unset] [(.ref b146)])) _
      refine XS.iloadN X148.here hx rfl (hb hby at_32) rfl ?_
      exact k
    obtain ⟨cq157, kq157, q157a, q157b, q157c⟩ := isOf hZ rfl PE148
    obtain ⟨_, _, ⟨T157, L157, k157, n157⟩, -, X157, ⟨Lc157, hQ157, l157, y157, z157⟩, st157⟩ := X148.virtualBack hx (y := own_y1) (z := own_y1) hown (mvT hZ (own_w hw 12 rfl)) (mvT hZ (own_w hw 13 rfl)) (notFace_of_selects (args := #[]) (mvT hZ (own_w hw 15 rfl))) (mvT hZ (own_w hw 15 rfl)) (mvT hZ (own_w hw 14 rfl)) (by decide) (backOf (W := 0) (rm2_1 l Z a0 hw [] b146 b147 kk147 p0 (0 : Int32) (0 : Int32) p1 T148.heap n0 sz148 PE148 PV148 PZ148 PA148 ge_b146 ge_b147 ne_b146_b147) hZ (own_w hw 16 rfl) (own_w hw 2 rfl) (by decide) (by decide)) q157a q157c (g := (mkF m 33 #[.val (.int p0), .val (.int p1), .val (.int p2), .val (.int p3), .val (.int (3 : Int32)), .val (.ref b146), .unset, .unset, .unset, .unset, .unset] [(.int p1), (.ref b146)])) rfl (by rw [hml]; rfl) (Steps.refl _) (argsL := [(.int p1)]) (rest := []) (lenOf pd_1 rfl) rfl (by show 2 * 0 + _ ≤ _; exact Nat.le_of_eq rfl) (hb hby at_33) (fun _ _ => ⟨rfl, rfl, (by decide : 2 + 0 ≤ _), (by decide : 18 + 0 ≤ _)⟩)
    dsimp only [Pt.U, Pt.locs, Pt.cells, Pt.slots] at X157 l157 y157 z157 st157 hQ157
    subst l157 y157 z157
    obtain ⟨rfl, N157q, K157, PE157, PV157, PZ157, PA157⟩ := hQ157
    have PE148_157 := PE148.keep K157
    have sz157 : n0 ≤ T157.heap.size := Nat.le_trans sz148 K157.1
    have N157 := Fr.app N148 N157q
    refine Go.tr (U' := T157.setTop (mkF m 36 #[.val (.int p0), .val (.int p1), .val (.int p2), .val (.int p3), .val (.int (3 : Int32)), .val (.ref b146), .unset, .unset, .unset, .unset, .unset] [])) st157 ?_
    refine Go.st (U' := T157.setTop (mkF m 45 #[.val (.int p0), .val (.int p1), .val (.int p2), .val (.int p3), .val (.int (3 : Int32)), .val (.ref b146), .unset, .unset, .unset, .unset, .unset] [(.int p2), (.ref b146)])) (fun t k => ?_) ?_
    · show Steps p.tables e below (T157.setTop (mkF m 36 #[.val (.int p0), .val (.int p1), .val (.int p2), .val (.int p3), .val (.int (3 : Int32)), .val (.ref b146), .unset, .unset, .unset, .unset, .unset] [])) _
      refine XS.iload X157.here hx rfl (hb hby at_36) rfl ?_
      show Steps p.tables e below (T157.setTop (mkF m 38 #[.val (.int p0), .val (.int p1), .val (.int p2), .val (.int p3), .val (.int (3 : Int32)), .val (.ref b146), .unset, .unset, .unset, .unset, .unset] [(.int (3 : Int32))])) _
      refine XS.iconst X157.here hx rfl (hb hby at_38) ?_
      show Steps p.tables e below (T157.setTop (mkF m 39 #[.val (.int p0), .val (.int p1), .val (.int p2), .val (.int p3), .val (.int (3 : Int32)), .val (.ref b146), .unset, .unset, .unset, .unset, .unset] [(.int (3 : Int32)), (.int (3 : Int32))])) _
      refine XS.icmpNo X157.here hx rfl (hb hby at_39) rfl (teq (by decide : (3 : Int32) = (3 : Int32))).2 ?_
      show Steps p.tables e below (T157.setTop (mkF m 42 #[.val (.int p0), .val (.int p1), .val (.int p2), .val (.int p3), .val (.int (3 : Int32)), .val (.ref b146), .unset, .unset, .unset, .unset, .unset] [])) _
      refine XS.aload X157.here hx rfl (hb hby at_42) rfl rfl ?_
      show Steps p.tables e below (T157.setTop (mkF m 44 #[.val (.int p0), .val (.int p1), .val (.int p2), .val (.int p3), .val (.int (3 : Int32)), .val (.ref b146), .unset, .unset, .unset, .unset, .unset] [(.ref b146)])) _
      refine XS.iloadN X157.here hx rfl (hb hby at_44) rfl ?_
      exact k
    obtain ⟨cq158, kq158, q158a, q158b, q158c⟩ := isOf hZ rfl PE157
    obtain ⟨_, _, ⟨T158, L158, k158, n158⟩, -, X158, ⟨Lc158, hQ158, l158, y158, z158⟩, st158⟩ := X157.virtualBack hx (y := own_y1) (z := own_y1) hown (mvT hZ (own_w hw 12 rfl)) (mvT hZ (own_w hw 13 rfl)) (notFace_of_selects (args := #[]) (mvT hZ (own_w hw 15 rfl))) (mvT hZ (own_w hw 15 rfl)) (mvT hZ (own_w hw 14 rfl)) (by decide) (backOf (W := 0) (rm2_2 l Z a0 hw [] b146 b147 kk147 p0 p1 (0 : Int32) p2 T157.heap n0 sz157 PE157 PV157 PZ157 PA157 ge_b146 ge_b147 ne_b146_b147) hZ (own_w hw 16 rfl) (own_w hw 2 rfl) (by decide) (by decide)) q158a q158c (g := (mkF m 45 #[.val (.int p0), .val (.int p1), .val (.int p2), .val (.int p3), .val (.int (3 : Int32)), .val (.ref b146), .unset, .unset, .unset, .unset, .unset] [(.int p2), (.ref b146)])) rfl (by rw [hml]; rfl) (Steps.refl _) (argsL := [(.int p2)]) (rest := []) (lenOf pd_1 rfl) rfl (by show 2 * 0 + _ ≤ _; exact Nat.le_of_eq rfl) (hb hby at_45) (fun _ _ => ⟨rfl, rfl, (by decide : 2 + 0 ≤ _), (by decide : 18 + 0 ≤ _)⟩)
    dsimp only [Pt.U, Pt.locs, Pt.cells, Pt.slots] at X158 l158 y158 z158 st158 hQ158
    subst l158 y158 z158
    obtain ⟨rfl, N158q, K158, PE158, PV158, PZ158, PA158⟩ := hQ158
    have PE157_158 := PE157.keep K158
    have sz158 : n0 ≤ T158.heap.size := Nat.le_trans sz157 K158.1
    have N158 := Fr.app N157 N158q
    refine Go.tr (U' := T158.setTop (mkF m 48 #[.val (.int p0), .val (.int p1), .val (.int p2), .val (.int p3), .val (.int (3 : Int32)), .val (.ref b146), .unset, .unset, .unset, .unset, .unset] [])) st158 ?_
    refine Go.st (U' := T158.setTop (mkF m 50 #[.val (.int p0), .val (.int p1), .val (.int p2), .val (.int p3), .val (.int (3 : Int32)), .val (.ref b146), .unset, .unset, .unset, .unset, .unset] [(.ref b146)])) (fun t k => ?_) ?_
    · show Steps p.tables e below (T158.setTop (mkF m 48 #[.val (.int p0), .val (.int p1), .val (.int p2), .val (.int p3), .val (.int (3 : Int32)), .val (.ref b146), .unset, .unset, .unset, .unset, .unset] [])) _
      refine XS.aload X158.here hx rfl (hb hby at_48) rfl rfl ?_
      exact k
    obtain ⟨cq159, kq159, q159a, q159b, q159c⟩ := isOf hZ rfl PE158
    obtain ⟨_, _, ⟨T159, L159, k159, n159⟩, -, X159, ⟨Lc159, hQ159, l159, y159, z159⟩, st159⟩ := X158.virtualBack hx (y := own_y2) (z := own_y2) hown (mvT hZ (own_w hw 19 rfl)) (mvT hZ (own_w hw 20 rfl)) (notFace_of_selects (args := #[]) (mvT hZ (own_w hw 22 rfl))) (mvT hZ (own_w hw 22 rfl)) (mvT hZ (own_w hw 21 rfl)) (by decide) (backOf (W := 0) (rm3_3 l Z a0 hw [] b146 b147 kk147 p0 p1 p2 T158.heap n0 sz158 PE158 PV158 PZ158 PA158 ge_b146 ge_b147 ne_b146_b147) hZ (own_w hw 23 rfl) (own_w hw 2 rfl) (by decide) (by decide)) q159a q159c (g := (mkF m 50 #[.val (.int p0), .val (.int p1), .val (.int p2), .val (.int p3), .val (.int (3 : Int32)), .val (.ref b146), .unset, .unset, .unset, .unset, .unset] [(.ref b146)])) rfl (by rw [hml]; rfl) (Steps.refl _) (argsL := []) (rest := []) (lenOf pd_2 rfl) rfl (by show 2 * 0 + _ ≤ _; exact Nat.le_of_eq rfl) (hb hby at_50) (fun _ _ => ⟨rfl, rfl, (by decide : 2 + 0 ≤ _), (by decide : 18 + 0 ≤ _)⟩)
    dsimp only [Pt.U, Pt.locs, Pt.cells, Pt.slots] at X159 l159 y159 z159 st159 hQ159
    subst l159 y159 z159
    obtain ⟨rfl, N159q, K159, PE159, PV159, PZ159, PA159⟩ := hQ159
    have PE158_159 := PE158.keep K159
    have sz159 : n0 ≤ T159.heap.size := Nat.le_trans sz158 K159.1
    have N159 := Fr.app N158 N159q
    refine Go.tr (U' := T159.setTop (mkF m 53 #[.val (.int p0), .val (.int p1), .val (.int p2), .val (.int p3), .val (.int (3 : Int32)), .val (.ref b146), .unset, .unset, .unset, .unset, .unset] [(.int p2)])) st159 ?_
    refine Go.st (U' := T159.setTop (mkF m 87 #[.val (.int p0), .val (.int p1), .val (.int p2), .val (.int p3), .val (.int (3 : Int32)), .val (.ref b146), .val (.int p2), .val (.int p2), .unset, .unset, .unset] [(.ref b146)])) (fun t k => ?_) ?_
    · show Steps p.tables e below (T159.setTop (mkF m 53 #[.val (.int p0), .val (.int p1), .val (.int p2), .val (.int p3), .val (.int (3 : Int32)), .val (.ref b146), .unset, .unset, .unset, .unset, .unset] [(.int p2)])) _
      refine XS.istore X159.here hx rfl (hb hby at_53) rfl (l' := #[.val (.int p0), .val (.int p1), .val (.int p2), .val (.int p3), .val (.int (3 : Int32)), .val (.ref b146), .val (.int p2), .unset, .unset, .unset, .unset]) rfl ?_
      show Steps p.tables e below (T159.setTop (mkF m 55 #[.val (.int p0), .val (.int p1), .val (.int p2), .val (.int p3), .val (.int (3 : Int32)), .val (.ref b146), .val (.int p2), .unset, .unset, .unset, .unset] [])) _
      refine XS.iload X159.here hx rfl (hb hby at_55) rfl ?_
      show Steps p.tables e below (T159.setTop (mkF m 57 #[.val (.int p0), .val (.int p1), .val (.int p2), .val (.int p3), .val (.int (3 : Int32)), .val (.ref b146), .val (.int p2), .unset, .unset, .unset, .unset] [(.int (3 : Int32))])) _
      refine XS.iconst X159.here hx rfl (hb hby at_57) ?_
      show Steps p.tables e below (T159.setTop (mkF m 58 #[.val (.int p0), .val (.int p1), .val (.int p2), .val (.int p3), .val (.int (3 : Int32)), .val (.ref b146), .val (.int p2), .unset, .unset, .unset, .unset] [(.int (1 : Int32)), (.int (3 : Int32))])) _
      refine XS.icmpYes X159.here hx rfl (pc0 := 58) (pc' := 65) rfl (hb hby at_58) rfl (feq (by decide : ¬ ((3 : Int32) = (1 : Int32)))).2 (by decide) (by decide) ?_
      show Steps p.tables e below (T159.setTop (mkF m 65 #[.val (.int p0), .val (.int p1), .val (.int p2), .val (.int p3), .val (.int (3 : Int32)), .val (.ref b146), .val (.int p2), .unset, .unset, .unset, .unset] [])) _
      refine XS.iload X159.here hx rfl (hb hby at_65) rfl ?_
      show Steps p.tables e below (T159.setTop (mkF m 67 #[.val (.int p0), .val (.int p1), .val (.int p2), .val (.int p3), .val (.int (3 : Int32)), .val (.ref b146), .val (.int p2), .unset, .unset, .unset, .unset] [(.int (3 : Int32))])) _
      refine XS.iconst X159.here hx rfl (hb hby at_67) ?_
      show Steps p.tables e below (T159.setTop (mkF m 68 #[.val (.int p0), .val (.int p1), .val (.int p2), .val (.int p3), .val (.int (3 : Int32)), .val (.ref b146), .val (.int p2), .unset, .unset, .unset, .unset] [(.int (2 : Int32)), (.int (3 : Int32))])) _
      refine XS.icmpYes X159.here hx rfl (pc0 := 68) (pc' := 75) rfl (hb hby at_68) rfl (feq (by decide : ¬ ((3 : Int32) = (2 : Int32)))).2 (by decide) (by decide) ?_
      show Steps p.tables e below (T159.setTop (mkF m 75 #[.val (.int p0), .val (.int p1), .val (.int p2), .val (.int p3), .val (.int (3 : Int32)), .val (.ref b146), .val (.int p2), .unset, .unset, .unset, .unset] [])) _
      refine XS.iloadN X159.here hx rfl (hb hby at_75) rfl ?_
      show Steps p.tables e below (T159.setTop (mkF m 76 #[.val (.int p0), .val (.int p1), .val (.int p2), .val (.int p3), .val (.int (3 : Int32)), .val (.ref b146), .val (.int p2), .unset, .unset, .unset, .unset] [(.int p2)])) _
      refine XS.istore X159.here hx rfl (hb hby at_76) rfl (l' := #[.val (.int p0), .val (.int p1), .val (.int p2), .val (.int p3), .val (.int (3 : Int32)), .val (.ref b146), .val (.int p2), .val (.int p2), .unset, .unset, .unset]) rfl ?_
      show Steps p.tables e below (T159.setTop (mkF m 78 #[.val (.int p0), .val (.int p1), .val (.int p2), .val (.int p3), .val (.int (3 : Int32)), .val (.ref b146), .val (.int p2), .val (.int p2), .unset, .unset, .unset] [])) _
      refine XS.iload X159.here hx rfl (hb hby at_78) rfl ?_
      show Steps p.tables e below (T159.setTop (mkF m 80 #[.val (.int p0), .val (.int p1), .val (.int p2), .val (.int p3), .val (.int (3 : Int32)), .val (.ref b146), .val (.int p2), .val (.int p2), .unset, .unset, .unset] [(.int p2)])) _
      refine XS.iload X159.here hx rfl (hb hby at_80) rfl ?_
      show Steps p.tables e below (T159.setTop (mkF m 82 #[.val (.int p0), .val (.int p1), .val (.int p2), .val (.int p3), .val (.int (3 : Int32)), .val (.ref b146), .val (.int p2), .val (.int p2), .unset, .unset, .unset] [(.int p2), (.int p2)])) _
      refine XS.icmpNo X159.here hx rfl (hb hby at_82) rfl (teq (rfl : p2 = p2)).2 ?_
      show Steps p.tables e below (T159.setTop (mkF m 85 #[.val (.int p0), .val (.int p1), .val (.int p2), .val (.int p3), .val (.int (3 : Int32)), .val (.ref b146), .val (.int p2), .val (.int p2), .unset, .unset, .unset] [])) _
      refine XS.aload X159.here hx rfl (hb hby at_85) rfl rfl ?_
      exact k
    obtain ⟨cq160, kq160, q160a, q160b, q160c⟩ := isOf hZ rfl PE159
    obtain ⟨_, _, ⟨T160, L160, k160, n160⟩, -, X160, ⟨Lc160, hQ160, l160, y160, z160⟩, st160⟩ := X159.virtualBack hx (y := own_y3) (z := own_y3) hown (mvT hZ (own_w hw 24 rfl)) (mvT hZ (own_w hw 25 rfl)) (notFace_of_selects (args := #[]) (mvT hZ (own_w hw 27 rfl))) (mvT hZ (own_w hw 27 rfl)) (mvT hZ (own_w hw 26 rfl)) (by decide) (backOf (W := 0) (rm4 l Z a0 hw [] b146 (2 : Int32) T159.heap n0 sz159 PZ159) hZ (own_w hw 28 rfl) (own_w hw 2 rfl) (by decide) (by decide)) q160a q160c (g := (mkF m 87 #[.val (.int p0), .val (.int p1), .val (.int p2), .val (.int p3), .val (.int (3 : Int32)), .val (.ref b146), .val (.int p2), .val (.int p2), .unset, .unset, .unset] [(.ref b146)])) rfl (by rw [hml]; rfl) (Steps.refl _) (argsL := []) (rest := []) (lenOf pd_2 rfl) rfl (by show 2 * 0 + _ ≤ _; exact Nat.le_of_eq rfl) (hb hby at_87) (fun _ _ => ⟨rfl, rfl, (by decide : 2 + 0 ≤ _), (by decide : 18 + 0 ≤ _)⟩)
    dsimp only [Pt.U, Pt.locs, Pt.cells, Pt.slots] at X160 l160 y160 z160 st160 hQ160
    subst l160 y160 z160
    obtain ⟨rfl, N160q, e160⟩ := hQ160
    have N160 := Fr.app N159 N160q
    refine Go.tr (U' := T160.setTop (mkF m 90 #[.val (.int p0), .val (.int p1), .val (.int p2), .val (.int p3), .val (.int (3 : Int32)), .val (.ref b146), .val (.int p2), .val (.int p2), .unset, .unset, .unset] [(.int (2 : Int32))])) st160 ?_
    refine Go.st (U' := T160.setTop (mkF m 118 #[.val (.int p0), .val (.int p1), .val (.int p2), .val (.int p3), .val (.int (3 : Int32)), .val (.ref b146), .val (.int p2), .val (.int p2), .val (.int (1 : Int32)), .unset, .unset] [(.int (0 : Int32)), (.ref b146)])) (fun t k => ?_) ?_
    · show Steps p.tables e below (T160.setTop (mkF m 90 #[.val (.int p0), .val (.int p1), .val (.int p2), .val (.int p3), .val (.int (3 : Int32)), .val (.ref b146), .val (.int p2), .val (.int p2), .unset, .unset, .unset] [(.int (2 : Int32))])) _
      refine XS.iload X160.here hx rfl (hb hby at_90) rfl ?_
      show Steps p.tables e below (T160.setTop (mkF m 92 #[.val (.int p0), .val (.int p1), .val (.int p2), .val (.int p3), .val (.int (3 : Int32)), .val (.ref b146), .val (.int p2), .val (.int p2), .unset, .unset, .unset] [(.int (3 : Int32)), (.int (2 : Int32))])) _
      refine XS.iconst X160.here hx rfl (hb hby at_92) ?_
      show Steps p.tables e below (T160.setTop (mkF m 93 #[.val (.int p0), .val (.int p1), .val (.int p2), .val (.int p3), .val (.int (3 : Int32)), .val (.ref b146), .val (.int p2), .val (.int p2), .unset, .unset, .unset] [(.int (1 : Int32)), (.int (3 : Int32)), (.int (2 : Int32))])) _
      refine XS.isub X160.here hx rfl (hb hby at_93) rfl ?_
      show Steps p.tables e below (T160.setTop (mkF m 94 #[.val (.int p0), .val (.int p1), .val (.int p2), .val (.int p3), .val (.int (3 : Int32)), .val (.ref b146), .val (.int p2), .val (.int p2), .unset, .unset, .unset] [(.int (2 : Int32)), (.int (2 : Int32))])) _
      refine XS.icmpNo X160.here hx rfl (hb hby at_94) rfl (teq (by decide : (2 : Int32) = (2 : Int32))).2 ?_
      show Steps p.tables e below (T160.setTop (mkF m 97 #[.val (.int p0), .val (.int p1), .val (.int p2), .val (.int p3), .val (.int (3 : Int32)), .val (.ref b146), .val (.int p2), .val (.int p2), .unset, .unset, .unset] [])) _
      refine XS.iconst X160.here hx rfl (hb hby at_97) ?_
      show Steps p.tables e below (T160.setTop (mkF m 98 #[.val (.int p0), .val (.int p1), .val (.int p2), .val (.int p3), .val (.int (3 : Int32)), .val (.ref b146), .val (.int p2), .val (.int p2), .unset, .unset, .unset] [(.int (1 : Int32))])) _
      refine XS.goto X160.here hx rfl (pc0 := 98) (pc' := 102) rfl (hb hby at_98) (by decide) (by decide) ?_
      show Steps p.tables e below (T160.setTop (mkF m 102 #[.val (.int p0), .val (.int p1), .val (.int p2), .val (.int p3), .val (.int (3 : Int32)), .val (.ref b146), .val (.int p2), .val (.int p2), .unset, .unset, .unset] [(.int (1 : Int32))])) _
      refine XS.istore X160.here hx rfl (hb hby at_102) rfl (l' := #[.val (.int p0), .val (.int p1), .val (.int p2), .val (.int p3), .val (.int (3 : Int32)), .val (.ref b146), .val (.int p2), .val (.int p2), .val (.int (1 : Int32)), .unset, .unset]) rfl ?_
      show Steps p.tables e below (T160.setTop (mkF m 104 #[.val (.int p0), .val (.int p1), .val (.int p2), .val (.int p3), .val (.int (3 : Int32)), .val (.ref b146), .val (.int p2), .val (.int p2), .val (.int (1 : Int32)), .unset, .unset] [])) _
      refine XS.iload X160.here hx rfl (hb hby at_104) rfl ?_
      show Steps p.tables e below (T160.setTop (mkF m 106 #[.val (.int p0), .val (.int p1), .val (.int p2), .val (.int p3), .val (.int (3 : Int32)), .val (.ref b146), .val (.int p2), .val (.int p2), .val (.int (1 : Int32)), .unset, .unset] [(.int (3 : Int32))])) _
      refine XS.iconst X160.here hx rfl (hb hby at_106) ?_
      show Steps p.tables e below (T160.setTop (mkF m 107 #[.val (.int p0), .val (.int p1), .val (.int p2), .val (.int p3), .val (.int (3 : Int32)), .val (.ref b146), .val (.int p2), .val (.int p2), .val (.int (1 : Int32)), .unset, .unset] [(.int (2 : Int32)), (.int (3 : Int32))])) _
      refine XS.icmpNo X160.here hx rfl (hb hby at_107) rfl (flt (by decide : ¬ ((3 : Int32) < (2 : Int32)))).1 ?_
      show Steps p.tables e below (T160.setTop (mkF m 110 #[.val (.int p0), .val (.int p1), .val (.int p2), .val (.int p3), .val (.int (3 : Int32)), .val (.ref b146), .val (.int p2), .val (.int p2), .val (.int (1 : Int32)), .unset, .unset] [])) _
      refine XS.iload X160.here hx rfl (hb hby at_110) rfl ?_
      show Steps p.tables e below (T160.setTop (mkF m 112 #[.val (.int p0), .val (.int p1), .val (.int p2), .val (.int p3), .val (.int (3 : Int32)), .val (.ref b146), .val (.int p2), .val (.int p2), .val (.int (1 : Int32)), .unset, .unset] [(.int (1 : Int32))])) _
      refine XS.ifNo X160.here hx rfl (hb hby at_112) rfl ((if0 _ _).trans (feq (by decide : ¬ ((1 : Int32) = (0 : Int32)))).1) ?_
      show Steps p.tables e below (T160.setTop (mkF m 115 #[.val (.int p0), .val (.int p1), .val (.int p2), .val (.int p3), .val (.int (3 : Int32)), .val (.ref b146), .val (.int p2), .val (.int p2), .val (.int (1 : Int32)), .unset, .unset] [])) _
      refine XS.aload X160.here hx rfl (hb hby at_115) rfl rfl ?_
      show Steps p.tables e below (T160.setTop (mkF m 117 #[.val (.int p0), .val (.int p1), .val (.int p2), .val (.int p3), .val (.int (3 : Int32)), .val (.ref b146), .val (.int p2), .val (.int p2), .val (.int (1 : Int32)), .unset, .unset] [(.ref b146)])) _
      refine XS.iconst X160.here hx rfl (hb hby at_117) ?_
      exact k
    obtain ⟨cq161, kq161, q161a, q161b, q161c⟩ := isOf hZ e160 PE159
    obtain ⟨_, _, ⟨T161, L161, k161, n161⟩, -, X161, ⟨Lc161, hQ161, l161, y161, z161⟩, st161⟩ := X160.virtualBack hx (y := own_y4) (z := own_y4) hown (mvT hZ (own_w hw 29 rfl)) (mvT hZ (own_w hw 30 rfl)) (notFace_of_selects (args := #[]) (mvT hZ (own_w hw 32 rfl))) (mvT hZ (own_w hw 32 rfl)) (mvT hZ (own_w hw 31 rfl)) (by decide) (backOf (W := 0) (rm5_0 l Z a0 hw [] b146 b147 kk147 p0 p1 p2 T159.heap n0 sz159 PE159 PV159 PA159) hZ (own_w hw 33 rfl) (own_w hw 2 rfl) (by decide) (by decide)) q161a q161c (g := (mkF m 118 #[.val (.int p0), .val (.int p1), .val (.int p2), .val (.int p3), .val (.int (3 : Int32)), .val (.ref b146), .val (.int p2), .val (.int p2), .val (.int (1 : Int32)), .unset, .unset] [(.int (0 : Int32)), (.ref b146)])) rfl (by rw [hml]; rfl) (Steps.refl _) (argsL := [(.int (0 : Int32))]) (rest := []) (lenOf pd_3 rfl) rfl (by show 2 * 0 + _ ≤ _; exact Nat.le_of_eq rfl) (hb hby at_118) (fun _ _ => ⟨rfl, e160, (by decide : 2 + 0 ≤ _), (by decide : 18 + 0 ≤ _)⟩)
    dsimp only [Pt.U, Pt.locs, Pt.cells, Pt.slots] at X161 l161 y161 z161 st161 hQ161
    subst l161 y161 z161
    obtain ⟨rfl, N161q, e161⟩ := hQ161
    have N161 := Fr.app N160 N161q
    refine Go.tr (U' := T161.setTop (mkF m 121 #[.val (.int p0), .val (.int p1), .val (.int p2), .val (.int p3), .val (.int (3 : Int32)), .val (.ref b146), .val (.int p2), .val (.int p2), .val (.int (1 : Int32)), .unset, .unset] [(.int p0)])) st161 ?_
    refine Go.st (U' := T161.setTop (mkF m 146 #[.val (.int p0), .val (.int p1), .val (.int p2), .val (.int p3), .val (.int (3 : Int32)), .val (.ref b146), .val (.int p2), .val (.int p2), .val (.int (1 : Int32)), .unset, .unset] [(.int (1 : Int32)), (.ref b146)])) (fun t k => ?_) ?_
    · show Steps p.tables e below (T161.setTop (mkF m 121 #[.val (.int p0), .val (.int p1), .val (.int p2), .val (.int p3), .val (.int (3 : Int32)), .val (.ref b146), .val (.int p2), .val (.int p2), .val (.int (1 : Int32)), .unset, .unset] [(.int p0)])) _
      refine XS.iloadN X161.here hx rfl (hb hby at_121) rfl ?_
      show Steps p.tables e below (T161.setTop (mkF m 122 #[.val (.int p0), .val (.int p1), .val (.int p2), .val (.int p3), .val (.int (3 : Int32)), .val (.ref b146), .val (.int p2), .val (.int p2), .val (.int (1 : Int32)), .unset, .unset] [(.int p0), (.int p0)])) _
      refine XS.icmpNo X161.here hx rfl (hb hby at_122) rfl (teq (rfl : p0 = p0)).2 ?_
      show Steps p.tables e below (T161.setTop (mkF m 125 #[.val (.int p0), .val (.int p1), .val (.int p2), .val (.int p3), .val (.int (3 : Int32)), .val (.ref b146), .val (.int p2), .val (.int p2), .val (.int (1 : Int32)), .unset, .unset] [])) _
      refine XS.iconst X161.here hx rfl (hb hby at_125) ?_
      show Steps p.tables e below (T161.setTop (mkF m 126 #[.val (.int p0), .val (.int p1), .val (.int p2), .val (.int p3), .val (.int (3 : Int32)), .val (.ref b146), .val (.int p2), .val (.int p2), .val (.int (1 : Int32)), .unset, .unset] [(.int (1 : Int32))])) _
      refine XS.goto X161.here hx rfl (pc0 := 126) (pc' := 130) rfl (hb hby at_126) (by decide) (by decide) ?_
      show Steps p.tables e below (T161.setTop (mkF m 130 #[.val (.int p0), .val (.int p1), .val (.int p2), .val (.int p3), .val (.int (3 : Int32)), .val (.ref b146), .val (.int p2), .val (.int p2), .val (.int (1 : Int32)), .unset, .unset] [(.int (1 : Int32))])) _
      refine XS.istore X161.here hx rfl (hb hby at_130) rfl (l' := #[.val (.int p0), .val (.int p1), .val (.int p2), .val (.int p3), .val (.int (3 : Int32)), .val (.ref b146), .val (.int p2), .val (.int p2), .val (.int (1 : Int32)), .unset, .unset]) rfl ?_
      show Steps p.tables e below (T161.setTop (mkF m 132 #[.val (.int p0), .val (.int p1), .val (.int p2), .val (.int p3), .val (.int (3 : Int32)), .val (.ref b146), .val (.int p2), .val (.int p2), .val (.int (1 : Int32)), .unset, .unset] [])) _
      refine XS.iload X161.here hx rfl (hb hby at_132) rfl ?_
      show Steps p.tables e below (T161.setTop (mkF m 134 #[.val (.int p0), .val (.int p1), .val (.int p2), .val (.int p3), .val (.int (3 : Int32)), .val (.ref b146), .val (.int p2), .val (.int p2), .val (.int (1 : Int32)), .unset, .unset] [(.int (3 : Int32))])) _
      refine XS.iconst X161.here hx rfl (hb hby at_134) ?_
      show Steps p.tables e below (T161.setTop (mkF m 135 #[.val (.int p0), .val (.int p1), .val (.int p2), .val (.int p3), .val (.int (3 : Int32)), .val (.ref b146), .val (.int p2), .val (.int p2), .val (.int (1 : Int32)), .unset, .unset] [(.int (3 : Int32)), (.int (3 : Int32))])) _
      refine XS.icmpNo X161.here hx rfl (hb hby at_135) rfl (teq (by decide : (3 : Int32) = (3 : Int32))).2 ?_
      show Steps p.tables e below (T161.setTop (mkF m 138 #[.val (.int p0), .val (.int p1), .val (.int p2), .val (.int p3), .val (.int (3 : Int32)), .val (.ref b146), .val (.int p2), .val (.int p2), .val (.int (1 : Int32)), .unset, .unset] [])) _
      refine XS.iload X161.here hx rfl (hb hby at_138) rfl ?_
      show Steps p.tables e below (T161.setTop (mkF m 140 #[.val (.int p0), .val (.int p1), .val (.int p2), .val (.int p3), .val (.int (3 : Int32)), .val (.ref b146), .val (.int p2), .val (.int p2), .val (.int (1 : Int32)), .unset, .unset] [(.int (1 : Int32))])) _
      refine XS.ifNo X161.here hx rfl (hb hby at_140) rfl ((if0 _ _).trans (feq (by decide : ¬ ((1 : Int32) = (0 : Int32)))).1) ?_
      show Steps p.tables e below (T161.setTop (mkF m 143 #[.val (.int p0), .val (.int p1), .val (.int p2), .val (.int p3), .val (.int (3 : Int32)), .val (.ref b146), .val (.int p2), .val (.int p2), .val (.int (1 : Int32)), .unset, .unset] [])) _
      refine XS.aload X161.here hx rfl (hb hby at_143) rfl rfl ?_
      show Steps p.tables e below (T161.setTop (mkF m 145 #[.val (.int p0), .val (.int p1), .val (.int p2), .val (.int p3), .val (.int (3 : Int32)), .val (.ref b146), .val (.int p2), .val (.int p2), .val (.int (1 : Int32)), .unset, .unset] [(.ref b146)])) _
      refine XS.iconst X161.here hx rfl (hb hby at_145) ?_
      exact k
    obtain ⟨cq162, kq162, q162a, q162b, q162c⟩ := isOf hZ e161 PE159
    obtain ⟨_, _, ⟨T162, L162, k162, n162⟩, -, X162, ⟨Lc162, hQ162, l162, y162, z162⟩, st162⟩ := X161.virtualBack hx (y := own_y4) (z := own_y4) hown (mvT hZ (own_w hw 29 rfl)) (mvT hZ (own_w hw 30 rfl)) (notFace_of_selects (args := #[]) (mvT hZ (own_w hw 32 rfl))) (mvT hZ (own_w hw 32 rfl)) (mvT hZ (own_w hw 31 rfl)) (by decide) (backOf (W := 0) (rm5_1 l Z a0 hw [] b146 b147 kk147 p0 p1 p2 T159.heap n0 sz159 PE159 PV159 PA159) hZ (own_w hw 33 rfl) (own_w hw 2 rfl) (by decide) (by decide)) q162a q162c (g := (mkF m 146 #[.val (.int p0), .val (.int p1), .val (.int p2), .val (.int p3), .val (.int (3 : Int32)), .val (.ref b146), .val (.int p2), .val (.int p2), .val (.int (1 : Int32)), .unset, .unset] [(.int (1 : Int32)), (.ref b146)])) rfl (by rw [hml]; rfl) (Steps.refl _) (argsL := [(.int (1 : Int32))]) (rest := []) (lenOf pd_3 rfl) rfl (by show 2 * 0 + _ ≤ _; exact Nat.le_of_eq rfl) (hb hby at_146) (fun _ _ => ⟨rfl, e161, (by decide : 2 + 0 ≤ _), (by decide : 18 + 0 ≤ _)⟩)
    dsimp only [Pt.U, Pt.locs, Pt.cells, Pt.slots] at X162 l162 y162 z162 st162 hQ162
    subst l162 y162 z162
    obtain ⟨rfl, N162q, e162⟩ := hQ162
    have N162 := Fr.app N161 N162q
    refine Go.tr (U' := T162.setTop (mkF m 149 #[.val (.int p0), .val (.int p1), .val (.int p2), .val (.int p3), .val (.int (3 : Int32)), .val (.ref b146), .val (.int p2), .val (.int p2), .val (.int (1 : Int32)), .unset, .unset] [(.int p1)])) st162 ?_
    refine Go.st (U' := T162.setTop (mkF m 168 #[.val (.int p0), .val (.int p1), .val (.int p2), .val (.int p3), .val (.int (3 : Int32)), .val (.ref b146), .val (.int p2), .val (.int p2), .val (.int (1 : Int32)), .unset, .unset] [(.ref b146)])) (fun t k => ?_) ?_
    · show Steps p.tables e below (T162.setTop (mkF m 149 #[.val (.int p0), .val (.int p1), .val (.int p2), .val (.int p3), .val (.int (3 : Int32)), .val (.ref b146), .val (.int p2), .val (.int p2), .val (.int (1 : Int32)), .unset, .unset] [(.int p1)])) _
      refine XS.iloadN X162.here hx rfl (hb hby at_149) rfl ?_
      show Steps p.tables e below (T162.setTop (mkF m 150 #[.val (.int p0), .val (.int p1), .val (.int p2), .val (.int p3), .val (.int (3 : Int32)), .val (.ref b146), .val (.int p2), .val (.int p2), .val (.int (1 : Int32)), .unset, .unset] [(.int p1), (.int p1)])) _
      refine XS.icmpNo X162.here hx rfl (hb hby at_150) rfl (teq (rfl : p1 = p1)).2 ?_
      show Steps p.tables e below (T162.setTop (mkF m 153 #[.val (.int p0), .val (.int p1), .val (.int p2), .val (.int p3), .val (.int (3 : Int32)), .val (.ref b146), .val (.int p2), .val (.int p2), .val (.int (1 : Int32)), .unset, .unset] [])) _
      refine XS.iconst X162.here hx rfl (hb hby at_153) ?_
      show Steps p.tables e below (T162.setTop (mkF m 154 #[.val (.int p0), .val (.int p1), .val (.int p2), .val (.int p3), .val (.int (3 : Int32)), .val (.ref b146), .val (.int p2), .val (.int p2), .val (.int (1 : Int32)), .unset, .unset] [(.int (1 : Int32))])) _
      refine XS.goto X162.here hx rfl (pc0 := 154) (pc' := 158) rfl (hb hby at_154) (by decide) (by decide) ?_
      show Steps p.tables e below (T162.setTop (mkF m 158 #[.val (.int p0), .val (.int p1), .val (.int p2), .val (.int p3), .val (.int (3 : Int32)), .val (.ref b146), .val (.int p2), .val (.int p2), .val (.int (1 : Int32)), .unset, .unset] [(.int (1 : Int32))])) _
      refine XS.istore X162.here hx rfl (hb hby at_158) rfl (l' := #[.val (.int p0), .val (.int p1), .val (.int p2), .val (.int p3), .val (.int (3 : Int32)), .val (.ref b146), .val (.int p2), .val (.int p2), .val (.int (1 : Int32)), .unset, .unset]) rfl ?_
      show Steps p.tables e below (T162.setTop (mkF m 160 #[.val (.int p0), .val (.int p1), .val (.int p2), .val (.int p3), .val (.int (3 : Int32)), .val (.ref b146), .val (.int p2), .val (.int p2), .val (.int (1 : Int32)), .unset, .unset] [])) _
      refine XS.iload X162.here hx rfl (hb hby at_160) rfl ?_
      show Steps p.tables e below (T162.setTop (mkF m 162 #[.val (.int p0), .val (.int p1), .val (.int p2), .val (.int p3), .val (.int (3 : Int32)), .val (.ref b146), .val (.int p2), .val (.int p2), .val (.int (1 : Int32)), .unset, .unset] [(.int (3 : Int32))])) _
      refine XS.iconst X162.here hx rfl (hb hby at_162) ?_
      show Steps p.tables e below (T162.setTop (mkF m 163 #[.val (.int p0), .val (.int p1), .val (.int p2), .val (.int p3), .val (.int (3 : Int32)), .val (.ref b146), .val (.int p2), .val (.int p2), .val (.int (1 : Int32)), .unset, .unset] [(.int (2 : Int32)), (.int (3 : Int32))])) _
      refine XS.icmpNo X162.here hx rfl (hb hby at_163) rfl (flt (by decide : ¬ ((3 : Int32) < (2 : Int32)))).1 ?_
      show Steps p.tables e below (T162.setTop (mkF m 166 #[.val (.int p0), .val (.int p1), .val (.int p2), .val (.int p3), .val (.int (3 : Int32)), .val (.ref b146), .val (.int p2), .val (.int p2), .val (.int (1 : Int32)), .unset, .unset] [])) _
      refine XS.aload X162.here hx rfl (hb hby at_166) rfl rfl ?_
      exact k
    obtain ⟨cq163, kq163, q163a, q163b, q163c⟩ := isOf hZ e162 PE159
    obtain ⟨_, _, ⟨T163, L163, k163, n163⟩, -, X163, ⟨Lc163, hQ163, l163, y163, z163⟩, st163⟩ := X162.virtualBack hx (y := own_y2) (z := own_y2) hown (mvT hZ (own_w hw 19 rfl)) (mvT hZ (own_w hw 20 rfl)) (notFace_of_selects (args := #[]) (mvT hZ (own_w hw 22 rfl))) (mvT hZ (own_w hw 22 rfl)) (mvT hZ (own_w hw 21 rfl)) (by decide) (backOf (W := 0) (rm3_2 l Z a0 hw [] b146 b147 kk147 p0 p1 p2 T159.heap n0 sz159 PE159 PV159 PZ159 PA159 ge_b146 ge_b147 ne_b146_b147) hZ (own_w hw 23 rfl) (own_w hw 2 rfl) (by decide) (by decide)) q163a q163c (g := (mkF m 168 #[.val (.int p0), .val (.int p1), .val (.int p2), .val (.int p3), .val (.int (3 : Int32)), .val (.ref b146), .val (.int p2), .val (.int p2), .val (.int (1 : Int32)), .unset, .unset] [(.ref b146)])) rfl (by rw [hml]; rfl) (Steps.refl _) (argsL := []) (rest := []) (lenOf pd_2 rfl) rfl (by show 2 * 0 + _ ≤ _; exact Nat.le_of_eq rfl) (hb hby at_168) (fun _ _ => ⟨rfl, e162, (by decide : 2 + 0 ≤ _), (by decide : 18 + 0 ≤ _)⟩)
    dsimp only [Pt.U, Pt.locs, Pt.cells, Pt.slots] at X163 l163 y163 z163 st163 hQ163
    subst l163 y163 z163
    obtain ⟨rfl, N163q, K163, PE163, PV163, PZ163, PA163⟩ := hQ163
    have PE159_163 := PE159.keep K163
    have sz163 : n0 ≤ T163.heap.size := Nat.le_trans sz159 K163.1
    have N163 := Fr.app N162 N163q
    refine Go.tr (U' := T163.setTop (mkF m 171 #[.val (.int p0), .val (.int p1), .val (.int p2), .val (.int p3), .val (.int (3 : Int32)), .val (.ref b146), .val (.int p2), .val (.int p2), .val (.int (1 : Int32)), .unset, .unset] [(.int p1)])) st163 ?_
    refine Go.st (U' := T163.setTop (mkF m 200 #[.val (.int p0), .val (.int p1), .val (.int p2), .val (.int p3), .val (.int (3 : Int32)), .val (.ref b146), .val (.int p2), .val (.int p2), .val (.int (1 : Int32)), .val (.int p1), .val (.int p1)] [(.ref b146)])) (fun t k => ?_) ?_
    · show Steps p.tables e below (T163.setTop (mkF m 171 #[.val (.int p0), .val (.int p1), .val (.int p2), .val (.int p3), .val (.int (3 : Int32)), .val (.ref b146), .val (.int p2), .val (.int p2), .val (.int (1 : Int32)), .unset, .unset] [(.int p1)])) _
      refine XS.istore X163.here hx rfl (hb hby at_171) rfl (l' := #[.val (.int p0), .val (.int p1), .val (.int p2), .val (.int p3), .val (.int (3 : Int32)), .val (.ref b146), .val (.int p2), .val (.int p2), .val (.int (1 : Int32)), .val (.int p1), .unset]) rfl ?_
      show Steps p.tables e below (T163.setTop (mkF m 173 #[.val (.int p0), .val (.int p1), .val (.int p2), .val (.int p3), .val (.int (3 : Int32)), .val (.ref b146), .val (.int p2), .val (.int p2), .val (.int (1 : Int32)), .val (.int p1), .unset] [])) _
      refine XS.iload X163.here hx rfl (hb hby at_173) rfl ?_
      show Steps p.tables e below (T163.setTop (mkF m 175 #[.val (.int p0), .val (.int p1), .val (.int p2), .val (.int p3), .val (.int (3 : Int32)), .val (.ref b146), .val (.int p2), .val (.int p2), .val (.int (1 : Int32)), .val (.int p1), .unset] [(.int (3 : Int32))])) _
      refine XS.iconst X163.here hx rfl (hb hby at_175) ?_
      show Steps p.tables e below (T163.setTop (mkF m 176 #[.val (.int p0), .val (.int p1), .val (.int p2), .val (.int p3), .val (.int (3 : Int32)), .val (.ref b146), .val (.int p2), .val (.int p2), .val (.int (1 : Int32)), .val (.int p1), .unset] [(.int (2 : Int32)), (.int (3 : Int32))])) _
      refine XS.icmpYes X163.here hx rfl (pc0 := 176) (pc' := 183) rfl (hb hby at_176) rfl (feq (by decide : ¬ ((3 : Int32) = (2 : Int32)))).2 (by decide) (by decide) ?_
      show Steps p.tables e below (T163.setTop (mkF m 183 #[.val (.int p0), .val (.int p1), .val (.int p2), .val (.int p3), .val (.int (3 : Int32)), .val (.ref b146), .val (.int p2), .val (.int p2), .val (.int (1 : Int32)), .val (.int p1), .unset] [])) _
      refine XS.iloadN X163.here hx rfl (hb hby at_183) rfl ?_
      show Steps p.tables e below (T163.setTop (mkF m 184 #[.val (.int p0), .val (.int p1), .val (.int p2), .val (.int p3), .val (.int (3 : Int32)), .val (.ref b146), .val (.int p2), .val (.int p2), .val (.int (1 : Int32)), .val (.int p1), .unset] [(.int p1)])) _
      refine XS.istore X163.here hx rfl (hb hby at_184) rfl (l' := #[.val (.int p0), .val (.int p1), .val (.int p2), .val (.int p3), .val (.int (3 : Int32)), .val (.ref b146), .val (.int p2), .val (.int p2), .val (.int (1 : Int32)), .val (.int p1), .val (.int p1)]) rfl ?_
      show Steps p.tables e below (T163.setTop (mkF m 186 #[.val (.int p0), .val (.int p1), .val (.int p2), .val (.int p3), .val (.int (3 : Int32)), .val (.ref b146), .val (.int p2), .val (.int p2), .val (.int (1 : Int32)), .val (.int p1), .val (.int p1)] [])) _
      refine XS.iload X163.here hx rfl (hb hby at_186) rfl ?_
      show Steps p.tables e below (T163.setTop (mkF m 188 #[.val (.int p0), .val (.int p1), .val (.int p2), .val (.int p3), .val (.int (3 : Int32)), .val (.ref b146), .val (.int p2), .val (.int p2), .val (.int (1 : Int32)), .val (.int p1), .val (.int p1)] [(.int (1 : Int32))])) _
      refine XS.ifNo X163.here hx rfl (hb hby at_188) rfl ((if0 _ _).trans (feq (by decide : ¬ ((1 : Int32) = (0 : Int32)))).1) ?_
      show Steps p.tables e below (T163.setTop (mkF m 191 #[.val (.int p0), .val (.int p1), .val (.int p2), .val (.int p3), .val (.int (3 : Int32)), .val (.ref b146), .val (.int p2), .val (.int p2), .val (.int (1 : Int32)), .val (.int p1), .val (.int p1)] [])) _
      refine XS.iload X163.here hx rfl (hb hby at_191) rfl ?_
      show Steps p.tables e below (T163.setTop (mkF m 193 #[.val (.int p0), .val (.int p1), .val (.int p2), .val (.int p3), .val (.int (3 : Int32)), .val (.ref b146), .val (.int p2), .val (.int p2), .val (.int (1 : Int32)), .val (.int p1), .val (.int p1)] [(.int p1)])) _
      refine XS.iload X163.here hx rfl (hb hby at_193) rfl ?_
      show Steps p.tables e below (T163.setTop (mkF m 195 #[.val (.int p0), .val (.int p1), .val (.int p2), .val (.int p3), .val (.int (3 : Int32)), .val (.ref b146), .val (.int p2), .val (.int p2), .val (.int (1 : Int32)), .val (.int p1), .val (.int p1)] [(.int p1), (.int p1)])) _
      refine XS.icmpNo X163.here hx rfl (hb hby at_195) rfl (teq (rfl : p1 = p1)).2 ?_
      show Steps p.tables e below (T163.setTop (mkF m 198 #[.val (.int p0), .val (.int p1), .val (.int p2), .val (.int p3), .val (.int (3 : Int32)), .val (.ref b146), .val (.int p2), .val (.int p2), .val (.int (1 : Int32)), .val (.int p1), .val (.int p1)] [])) _
      refine XS.aload X163.here hx rfl (hb hby at_198) rfl rfl ?_
      exact k
    obtain ⟨cq164, kq164, q164a, q164b, q164c⟩ := isOf hZ rfl PE163
    obtain ⟨_, _, ⟨T164, L164, k164, n164⟩, -, X164, ⟨Lc164, hQ164, l164, y164, z164⟩, st164⟩ := X163.virtualBack hx (y := own_y3) (z := own_y3) hown (mvT hZ (own_w hw 24 rfl)) (mvT hZ (own_w hw 25 rfl)) (notFace_of_selects (args := #[]) (mvT hZ (own_w hw 27 rfl))) (mvT hZ (own_w hw 27 rfl)) (mvT hZ (own_w hw 26 rfl)) (by decide) (backOf (W := 0) (rm4 l Z a0 hw [] b146 (1 : Int32) T163.heap n0 sz163 PZ163) hZ (own_w hw 28 rfl) (own_w hw 2 rfl) (by decide) (by decide)) q164a q164c (g := (mkF m 200 #[.val (.int p0), .val (.int p1), .val (.int p2), .val (.int p3), .val (.int (3 : Int32)), .val (.ref b146), .val (.int p2), .val (.int p2), .val (.int (1 : Int32)), .val (.int p1), .val (.int p1)] [(.ref b146)])) rfl (by rw [hml]; rfl) (Steps.refl _) (argsL := []) (rest := []) (lenOf pd_2 rfl) rfl (by show 2 * 0 + _ ≤ _; exact Nat.le_of_eq rfl) (hb hby at_200) (fun _ _ => ⟨rfl, rfl, (by decide : 2 + 0 ≤ _), (by decide : 18 + 0 ≤ _)⟩)
    dsimp only [Pt.U, Pt.locs, Pt.cells, Pt.slots] at X164 l164 y164 z164 st164 hQ164
    subst l164 y164 z164
    obtain ⟨rfl, N164q, e164⟩ := hQ164
    have N164 := Fr.app N163 N164q
    refine Go.tr (U' := T164.setTop (mkF m 203 #[.val (.int p0), .val (.int p1), .val (.int p2), .val (.int p3), .val (.int (3 : Int32)), .val (.ref b146), .val (.int p2), .val (.int p2), .val (.int (1 : Int32)), .val (.int p1), .val (.int p1)] [(.int (1 : Int32))])) st164 ?_
    refine Go.st (U' := T164.setTop (mkF m 219 #[.val (.int p0), .val (.int p1), .val (.int p2), .val (.int p3), .val (.int (3 : Int32)), .val (.ref b146), .val (.int p2), .val (.int p2), .val (.int (1 : Int32)), .val (.int p1), .val (.int p1)] [(.int (1 : Int32))])) (fun t k => ?_) ?_
    · show Steps p.tables e below (T164.setTop (mkF m 203 #[.val (.int p0), .val (.int p1), .val (.int p2), .val (.int p3), .val (.int (3 : Int32)), .val (.ref b146), .val (.int p2), .val (.int p2), .val (.int (1 : Int32)), .val (.int p1), .val (.int p1)] [(.int (1 : Int32))])) _
      refine XS.iload X164.here hx rfl (hb hby at_203) rfl ?_
      show Steps p.tables e below (T164.setTop (mkF m 205 #[.val (.int p0), .val (.int p1), .val (.int p2), .val (.int p3), .val (.int (3 : Int32)), .val (.ref b146), .val (.int p2), .val (.int p2), .val (.int (1 : Int32)), .val (.int p1), .val (.int p1)] [(.int (3 : Int32)), (.int (1 : Int32))])) _
      refine XS.iconst X164.here hx rfl (hb hby at_205) ?_
      show Steps p.tables e below (T164.setTop (mkF m 206 #[.val (.int p0), .val (.int p1), .val (.int p2), .val (.int p3), .val (.int (3 : Int32)), .val (.ref b146), .val (.int p2), .val (.int p2), .val (.int (1 : Int32)), .val (.int p1), .val (.int p1)] [(.int (2 : Int32)), (.int (3 : Int32)), (.int (1 : Int32))])) _
      refine XS.isub X164.here hx rfl (hb hby at_206) rfl ?_
      show Steps p.tables e below (T164.setTop (mkF m 207 #[.val (.int p0), .val (.int p1), .val (.int p2), .val (.int p3), .val (.int (3 : Int32)), .val (.ref b146), .val (.int p2), .val (.int p2), .val (.int (1 : Int32)), .val (.int p1), .val (.int p1)] [(.int (1 : Int32)), (.int (1 : Int32))])) _
      refine XS.icmpNo X164.here hx rfl (hb hby at_207) rfl (teq (by decide : (1 : Int32) = (1 : Int32))).2 ?_
      show Steps p.tables e below (T164.setTop (mkF m 210 #[.val (.int p0), .val (.int p1), .val (.int p2), .val (.int p3), .val (.int (3 : Int32)), .val (.ref b146), .val (.int p2), .val (.int p2), .val (.int (1 : Int32)), .val (.int p1), .val (.int p1)] [])) _
      refine XS.iconst X164.here hx rfl (hb hby at_210) ?_
      show Steps p.tables e below (T164.setTop (mkF m 211 #[.val (.int p0), .val (.int p1), .val (.int p2), .val (.int p3), .val (.int (3 : Int32)), .val (.ref b146), .val (.int p2), .val (.int p2), .val (.int (1 : Int32)), .val (.int p1), .val (.int p1)] [(.int (1 : Int32))])) _
      refine XS.goto X164.here hx rfl (pc0 := 211) (pc' := 215) rfl (hb hby at_211) (by decide) (by decide) ?_
      show Steps p.tables e below (T164.setTop (mkF m 215 #[.val (.int p0), .val (.int p1), .val (.int p2), .val (.int p3), .val (.int (3 : Int32)), .val (.ref b146), .val (.int p2), .val (.int p2), .val (.int (1 : Int32)), .val (.int p1), .val (.int p1)] [(.int (1 : Int32))])) _
      refine XS.istore X164.here hx rfl (hb hby at_215) rfl (l' := #[.val (.int p0), .val (.int p1), .val (.int p2), .val (.int p3), .val (.int (3 : Int32)), .val (.ref b146), .val (.int p2), .val (.int p2), .val (.int (1 : Int32)), .val (.int p1), .val (.int p1)]) rfl ?_
      show Steps p.tables e below (T164.setTop (mkF m 217 #[.val (.int p0), .val (.int p1), .val (.int p2), .val (.int p3), .val (.int (3 : Int32)), .val (.ref b146), .val (.int p2), .val (.int p2), .val (.int (1 : Int32)), .val (.int p1), .val (.int p1)] [])) _
      refine XS.iload X164.here hx rfl (hb hby at_217) rfl ?_
      exact k
    refine own_ret (Q := Q0 Z p0 p1 p2 p3 h0 n0) (v := some (.int (1 : Int32))) X164 hlk (fun h => by rw [hrt] at h; cases h) (by decide) (by decide) ?_ (fun fs hr => retN X164 hx (t := .boolean) hrt (by simp) (hb hby at_219) hr)
    rw [e164]
    exact ⟨rfl, N164⟩
set_option maxRecDepth 65536 in
set_option maxHeartbeats 40000000 in
theorem comes_1 {Post : Tables → Env → Array Value → State → Outcome → State → Prop} (hpost : ∀ tb e args s v u, (limb_1_1.after args s (.returned v) u = true ∧ limb_1_2.after args s (.returned v) u = true ∧ True) → FrameEnd s (.returned v) u (Jvm.fieldLocs frame_1_writes args s ++ Jvm.arrayLocs frame_1_arrays args s ++ Jvm.staticLocs frame_1_statics s) 16 128 → Post tb e args s (.returned v) u) :
    ArmFor flags0 classFile x code maxLocals ret World_1 tables_1 room_1 Calls_1 rest_1 Pre_1 Post := by
  intro l hfl _ _ p e ha hc hk s m args below hf hA hF happ hP
  obtain ⟨hcalls, hrest, hpre⟩ := hP
  obtain ⟨-, -, -, hnamed, -, -, -, hat⟩ := (Spec.applies_iff hf).mp happ
  obtain ⟨hg, hn⟩ := and_e (Cond.before_iff.mp (show (Jvm.Cond.and given_1 narrow_1).before args s = true from hpre))
  obtain ⟨gg1, gg2⟩ := and_e hg
  obtain ⟨gg3, gg4⟩ := and_e gg2
  obtain ⟨gg5, gg6⟩ := and_e gg4
  obtain ⟨gg7, gg8⟩ := and_e gg6
  obtain ⟨w0, w1, w2, w3, rfl⟩ : ∃ w0 w1 w2 w3 : Value, args = #[w0, w1, w2, w3] := by
    have hs : args.size = 4 := by simpa [Cond.value, given_1] using gg1
    obtain ⟨L⟩ := args
    match L, hs with
    | [w0, w1, w2, w3], _ => exact ⟨w0, w1, w2, w3, rfl⟩
  have hw := fun d (hd : d ∈ tables_1) => atoms_spec (ws := Jvm.Cond.code x code maxLocals ret :: tables_1) hat d (List.mem_cons_of_mem _ hd)
  obtain ⟨i0, ei0⟩ := is_v gg3
  obtain rfl : w0 = (.int i0) := Option.some.inj ei0
  obtain ⟨i1, ei1⟩ := is_v gg5
  obtain rfl : w1 = (.int i1) := Option.some.inj ei1
  obtain ⟨i2, ei2⟩ := is_v gg7
  obtain rfl : w2 = (.int i2) := Option.some.inj ei2
  obtain ⟨i3, ei3⟩ := is_v gg8
  obtain rfl : w3 = (.int i3) := Option.some.inj ei3
  obtain ⟨n, o, h1, h2, h3, _, L, rfl, ⟨rfl, N⟩, hq⟩ := rm0 l s _ hw tables_1 i0 i1 i2 i3 s.heap s.heap.size (Nat.le_refl _)  p e ha hc hk s m _ below hf ((Spec.applies_iff_loose hf).mp happ).1 ⟨rfl, State.Warmed39.refl s, rfl⟩ trivial
  refine ⟨n, _, h1, h2, h3, hpost _ _ _ _ _ _ ⟨Cond.after_iff.mpr rfl, Cond.after_iff.mpr (eq_i res_at (Term.int_eval (1)) rfl), trivial⟩ ⟨hq.1, hq.2.1, (hq.2.2.sift fun y hy => Or.inr (N y hy)).mono (by decide) (by decide)⟩⟩
theorem main_1_1 : Claimed_1_1 := comes_1 fun _ _ _ _ _ _ h hF => ⟨h.1, hF⟩
theorem main_1_2 : Claimed_1_2 := comes_1 fun _ _ _ _ _ _ h hF => ⟨h.2.1, hF⟩
end Jvm.Pilot.@@N@@
namespace Jvm.Pilot.@@N@@
open Jvm Jvm.ClassFile Sem Op Lib Jvm.Free Jvm.Stand Jvm.Pilot.@@N@@.Jvm.D
/-! MADE BY PROGRAM (witnessworld.py) out of the Statement's table words and the real class files: 9 classes; the members and pool entries that the words name. The judged class is class 1, her method 1. -/
namespace start1
open Jvm.ClassFile
def u (s : String) : CpInfo := .utf8 (stringToUtf16 s)
/-- a pool by its gaps: so many unusable entries, then the entry; so many at the end -/
def gap : Nat → List CpInfo → List CpInfo
  | 0, r => r
  | n + 1, r => .unusable :: gap n r
def poolList (es : List (Nat × CpInfo)) (last : Nat) : List CpInfo := es.foldr (fun e r => gap e.1 (e.2 :: r)) (gap last [])
def pool (es : List (Nat × CpInfo)) (last : Nat) : Array CpInfo := ⟨poolList es last⟩
def fileOf (pool : Array CpInfo) (this : Nat) (attrs : Array Attribute := #[]) (ms : Array MethodInfo := #[]) (fl : Nat := 33) (sup : Nat := 0) (ifs : Array Nat := #[]) (fds : Array FieldInfo := #[]) : ClassFile where
  minorVersion := 0
  majorVersion := 65
  constantPool := pool
  accessFlags := fl
  thisClass := this
  superClass := sup
  interfaces := ifs
  fields := fds
  methods := ms
  attributes := attrs
def plain (name : String) (sup : Option ClassId) : Class where
  name := name
  kind := .ordinary
  loader := none
  accessFlags := 33
  super := sup
  interfaces := #[]
  cf := none
  fields := #[]
  methods := #[]
  instanceTypes := #[]
  staticTypes := #[]
  resolved := #[]
  callSites := []
  init := .initialized
  statics := none
  mirror := none

def pool0 : Array CpInfo := pool [(5, u "<init>"), (0, u "()V"), (1, .class_ 10), (1, u "java/lang/Object")] 113

def k0c0 : Code := { maxStack := 0, maxLocals := 1, code := object_method_1_code, exceptionTable := #[], attributes := #[] }
def k0m0 : Method := { name := "<init>", desc := "()V", sig := { parameters := [], returnType := none }, accessFlags := 1, code := some k0c0 }
/-- java/lang/Object -/
def k0 : Class := { plain "java/lang/Object" none with
  accessFlags := 33
  interfaces := #[]
  cf := some (fileOf pool0 8 #[] #[{ accessFlags := 1, nameIndex := 5, descriptorIndex := 6, attributes := #[] }] 33 0 #[] #[])
  fields := #[]
  methods := #[k0m0]
  instanceTypes := #[]
  staticTypes := #[]
  resolved := Array.replicate 124 none
  statics := none }

def pool1 : Array CpInfo := pool [(2, .class_ 4), (0, .nameAndType 5 6), (0, u "java/lang/Object"), (0, u "<init>"), (0, u "()V"), (0, .class_ 8), (0, u "com/example/ligature/ligature/graph/IntList"), (0, .methodref 7 3), (0, .methodref 7 11), (0, .nameAndType 12 13), (0, u "add"), (0, u "(I)V"), (0, .methodref 7 15), (0, .nameAndType 16 17), (0, u "removeLast"), (0, u "()I"), (0, .methodref 7 19), (0, .nameAndType 20 17), (0, u "size"), (0, .methodref 7 22), (0, .nameAndType 23 24), (0, u "get"), (0, u "(I)I"), (0, .class_ 26), (0, u "com/example/ligature/ligature/graph/IntListRemoveLastPinLaw"), (2, u "law"), (0, u "(IIII)Z")] 3

def k1m0 : Method := { name := "<init>", desc := "()V", sig := { parameters := [], returnType := none }, accessFlags := 1, code := none }
def k1c1 : Code := { maxStack := 3, maxLocals := 11, code := code, exceptionTable := #[], attributes := #[] }
def k1m1 : Method := { name := "law", desc := "(IIII)Z", sig := { parameters := [.int, .int, .int, .int], returnType := some .boolean }, accessFlags := 9, code := some k1c1 }
/-- com/example/ligature/ligature/graph/IntListRemoveLastPinLaw -/
def k1 : Class := { plain "com/example/ligature/ligature/graph/IntListRemoveLastPinLaw" (some 0) with
  accessFlags := 49
  interfaces := #[]
  cf := some (fileOf pool1 25 #[] #[{ accessFlags := 1, nameIndex := 5, descriptorIndex := 6, attributes := #[] }, { accessFlags := 9, nameIndex := 29, descriptorIndex := 30, attributes := #[] }] 49 2 #[] #[])
  fields := #[]
  methods := #[k1m0, k1m1]
  instanceTypes := #[]
  staticTypes := #[]
  resolved := Array.replicate 34 none
  statics := none }

def pool2 : Array CpInfo := pool [(1, .methodref 2 3), (0, .class_ 4), (0, .nameAndType 5 6), (0, u "java/lang/Object"), (0, u "<init>"), (0, u "()V"), (0, .fieldref 8 9), (0, .class_ 10), (0, .nameAndType 11 12), (0, u "com/example/ligature/ligature/graph/IntList"), (0, u "values"), (0, u "[I"), (0, .fieldref 8 14), (0, .nameAndType 15 16), (0, u "size"), (0, u "I"), (8, u "()I"), (3, u "get"), (0, u "(I)I"), (0, u "add"), (0, u "(I)V"), (0, u "removeLast")] 6

def k2c0 : Code := { maxStack := 2, maxLocals := 1, code := prog_4_method_1_code, exceptionTable := #[], attributes := #[] }
def k2m0 : Method := { name := "<init>", desc := "()V", sig := { parameters := [], returnType := none }, accessFlags := 0, code := some k2c0 }
def k2c1 : Code := { maxStack := 1, maxLocals := 1, code := prog_4_method_2_code, exceptionTable := #[], attributes := #[] }
def k2m1 : Method := { name := "size", desc := "()I", sig := { parameters := [], returnType := some .int }, accessFlags := 0, code := some k2c1 }
def k2c2 : Code := { maxStack := 2, maxLocals := 2, code := prog_4_method_4_code, exceptionTable := #[], attributes := #[] }
def k2m2 : Method := { name := "get", desc := "(I)I", sig := { parameters := [.int], returnType := some .int }, accessFlags := 0, code := some k2c2 }
def k2c3 : Code := { maxStack := 5, maxLocals := 2, code := prog_4_method_5_code, exceptionTable := #[], attributes := #[] }
def k2m3 : Method := { name := "add", desc := "(I)V", sig := { parameters := [.int], returnType := none }, accessFlags := 0, code := some k2c3 }
def k2c4 : Code := { maxStack := 4, maxLocals := 1, code := prog_4_method_6_code, exceptionTable := #[], attributes := #[] }
def k2m4 : Method := { name := "removeLast", desc := "()I", sig := { parameters := [], returnType := some .int }, accessFlags := 0, code := some k2c4 }
/-- com/example/ligature/ligature/graph/IntList -/
def k2 : Class := { plain "com/example/ligature/ligature/graph/IntList" (some 0) with
  accessFlags := 32
  interfaces := #[]
  cf := some (fileOf pool2 8 #[] #[{ accessFlags := 0, nameIndex := 5, descriptorIndex := 6, attributes := #[] }, { accessFlags := 0, nameIndex := 15, descriptorIndex := 25, attributes := #[] }, { accessFlags := 0, nameIndex := 29, descriptorIndex := 30, attributes := #[] }, { accessFlags := 0, nameIndex := 31, descriptorIndex := 32, attributes := #[] }, { accessFlags := 0, nameIndex := 33, descriptorIndex := 25, attributes := #[] }] 32 2 #[] #[{ accessFlags := 2, nameIndex := 11, descriptorIndex := 12, attributes := #[] }, { accessFlags := 2, nameIndex := 15, descriptorIndex := 16, attributes := #[] }])
  fields := #[{ name := "values", type := (.array .int), accessFlags := 2, slot := 0, constantValue := 0 }, { name := "size", type := .int, accessFlags := 2, slot := 1, constantValue := 0 }]
  methods := #[k2m0, k2m1, k2m2, k2m3, k2m4]
  instanceTypes := #[(.array .int), .int]
  staticTypes := #[]
  resolved := Array.replicate 40 none
  statics := none }

def pool3 : Array CpInfo := pool [(1, u "java/lang/Cloneable"), (0, .class_ 1), (0, u "java/lang/Object"), (0, .class_ 3)] 3

/-- java/lang/Cloneable -/
def k3 : Class := { plain "java/lang/Cloneable" (some 0) with
  accessFlags := 1537
  interfaces := #[]
  cf := some (fileOf pool3 2 #[] #[] 1537 4 #[] #[])
  fields := #[]
  methods := #[]
  instanceTypes := #[]
  staticTypes := #[]
  resolved := Array.replicate 8 none
  statics := none }

def pool4 : Array CpInfo := pool [(1, u "java/io/Serializable"), (0, .class_ 1), (0, u "java/lang/Object"), (0, .class_ 3)] 3

/-- java/io/Serializable -/
def k4 : Class := { plain "java/io/Serializable" (some 0) with
  accessFlags := 1537
  interfaces := #[]
  cf := some (fileOf pool4 2 #[] #[] 1537 4 #[] #[])
  fields := #[]
  methods := #[]
  instanceTypes := #[]
  staticTypes := #[]
  resolved := Array.replicate 8 none
  statics := none }

/-- the primitive byte -/
def k5 : Class := { plain "byte" none with kind := .primitive 'B', accessFlags := 0x411 }
/-- [B -/
def k6 : Class := { plain "[B" (some 0) with kind := .array 5 .byte, interfaces := #[3, 4], accessFlags := 1041 }

/-- the primitive int -/
def k7 : Class := { plain "int" none with kind := .primitive 'I', accessFlags := 0x411 }
/-- [I -/
def k8 : Class := { plain "[I" (some 0) with kind := .array 7 .int, interfaces := #[3, 4], accessFlags := 1041 }

def heap : Heap := #[]
def classes : Array Class := #[k0, k1, k2, k3, k4, k5, k6, k7, k8]
def interned : List (Array UInt16 × Addr) := []
def slotsUsed : Nat := 0
def theMethod : MethodId := ⟨1, 1⟩
def args0 : Array Value := #[.int 5, .int 6, .int 7, .int 8]
def aboutOver (below : List Frame) : State where
  vm := { classes := classes, interned := interned.toArray }
  heap := heap
  slotsUsed := slotsUsed
  threads := #[{ frames := .invoking theMethod args0 :: below }]
def below0 : List Frame := [.native { method := ⟨0, 0⟩, args := #[] }]
def about1 : State := aboutOver below0
def p0 : Program := .bare "" "" ""
def e0 : Env := launch0.env 0 0 0
theorem w_frames : about1.frames = Frame.invoking theMethod args0 :: below0 := rfl
set_option maxRecDepth 65536 in
theorem w_args : argsFit about1.vm theMethod args0 = true := by decide +kernel
set_option maxRecDepth 65536 in
theorem w_heap : heapFits about1 = true := by decide +kernel
set_option maxRecDepth 65536 in
theorem w_runnable : about1.curStatus? = some .runnable := by decide +kernel
set_option maxRecDepth 65536 in
theorem w_alone : about1.alone = true := by decide +kernel
set_option maxRecDepth 65536 in
theorem w_named : about1.methodNamed? x = some theMethod := by decide +kernel
set_option maxRecDepth 65536 in
theorem w_hears : about1.hears theMethod below0 = true := by decide +kernel
set_option maxRecDepth 65536 in
theorem w_ripe : about1.ripe theMethod args0 below0 = true := by decide +kernel
theorem w_running : about1.status = .running := rfl
set_option maxRecDepth 65536 in
theorem w_room : about1.hasRoom e0.platform room_1 = true :=
  launch0.hasRoom_least _ room_1 (by decide +kernel) (by decide +kernel) (by decide +kernel) (by decide +kernel) (by decide +kernel) (by decide +kernel)
theorem allAtoms_all (ts : List Jvm.Cond) (a : Array Jvm.Value) (st : Jvm.State) : (allAtoms ts).before a st = ts.all (fun c => c.before a st) := by
  induction ts with
  | nil => rfl
  | cons c t ih =>
    show (Jvm.Cond.and c (allAtoms t)).before a st = _
    rw [Jvm.Cond.before_and, ih, List.all_cons]
def words1 : List Jvm.Cond := Jvm.Cond.code x code maxLocals ret :: tables_1
/-- a 'code' word, met by the world's own term for the bytes: nothing is compared byte by byte -/
theorem code_word {y : MethodName} {bytes : ByteArray} {mx : Nat} {rt : Option FieldType} {a : Array Value} {s : State} {m : MethodId} {meth : Method} {c : Code} (h1 : s.methodNamed? y = some m) (h2 : s.vm.method? m = some meth) (h3 : meth.code = some c) (h4 : c.code = bytes)
    (h5 : (c.maxLocals == mx && c.exceptionTable.isEmpty && decide (c.maxStack ≤ mostOperands) && decide (meth.sig.returnType = rt) && !meth.locks && decide (parseMethodDescriptor y.desc = some meth.sig)) = true) : (Jvm.Cond.code y bytes mx rt).before a s = true := by
  simp only [Bool.and_eq_true, beq_iff_eq, Bool.not_eq_true', decide_eq_true_eq] at h5
  obtain ⟨⟨⟨⟨⟨g1, g2⟩, g3⟩, g4⟩, g5⟩, g6⟩ := h5
  simp [Cond.before, Cond.holds, Cond.value, h1, h2, h3, h4, g1, g2, g3, g4, g5, g6]
def isCode : Jvm.Cond → Bool
  | .code _ _ _ _ => true
  | _ => false
theorem all_split {L : List Jvm.Cond} {P : Jvm.Cond → Bool} (h1 : L.all (fun c => isCode c || P c) = true) (h2 : ∀ c ∈ L.filter isCode, P c = true) : L.all P = true := by
  refine List.all_eq_true.mpr fun c hc => ?_
  have h := List.all_eq_true.mp h1 c hc
  rcases Bool.eq_false_or_eq_true (isCode c) with hi | hi
  · exact h2 c (List.mem_filter.mpr ⟨hc, hi⟩)
  · simpa [hi] using h
set_option maxRecDepth 65536 in
theorem w_c0 : (Jvm.Cond.code x code maxLocals ret).before args0 about1 = true := code_word (m := ⟨1, 1⟩) (meth := k1m1) (c := k1c1) (by decide +kernel) rfl rfl rfl (by decide +kernel)
set_option maxRecDepth 65536 in
theorem w_c1 : (Jvm.Cond.code ({ cls := "com/example/ligature/ligature/graph/IntList", name := "<init>", desc := "()V" } : Jvm.MethodName) prog_4_method_1_code (1 : Nat) (Option.none : Option Jvm.ClassFile.FieldType)).before args0 about1 = true := code_word (m := ⟨2, 0⟩) (meth := k2m0) (c := k2c0) (by decide +kernel) rfl rfl rfl (by decide +kernel)
set_option maxRecDepth 65536 in
theorem w_c2 : (Jvm.Cond.code ({ cls := "java/lang/Object", name := "<init>", desc := "()V" } : Jvm.MethodName) object_method_1_code (1 : Nat) (Option.none : Option Jvm.ClassFile.FieldType)).before args0 about1 = true := code_word (m := ⟨0, 0⟩) (meth := k0m0) (c := k0c0) (by decide +kernel) rfl rfl rfl (by decide +kernel)
set_option maxRecDepth 65536 in
theorem w_c3 : (Jvm.Cond.code ({ cls := "com/example/ligature/ligature/graph/IntList", name := "add", desc := "(I)V" } : Jvm.MethodName) prog_4_method_5_code (2 : Nat) (Option.none : Option Jvm.ClassFile.FieldType)).before args0 about1 = true := code_word (m := ⟨2, 3⟩) (meth := k2m3) (c := k2c3) (by decide +kernel) rfl rfl rfl (by decide +kernel)
set_option maxRecDepth 65536 in
theorem w_c4 : (Jvm.Cond.code ({ cls := "com/example/ligature/ligature/graph/IntList", name := "removeLast", desc := "()I" } : Jvm.MethodName) prog_4_method_6_code (1 : Nat) (Option.some Jvm.ClassFile.FieldType.int)).before args0 about1 = true := code_word (m := ⟨2, 4⟩) (meth := k2m4) (c := k2c4) (by decide +kernel) rfl rfl rfl (by decide +kernel)
set_option maxRecDepth 65536 in
theorem w_c5 : (Jvm.Cond.code ({ cls := "com/example/ligature/ligature/graph/IntList", name := "size", desc := "()I" } : Jvm.MethodName) prog_4_method_2_code (1 : Nat) (Option.some Jvm.ClassFile.FieldType.int)).before args0 about1 = true := code_word (m := ⟨2, 1⟩) (meth := k2m1) (c := k2c1) (by decide +kernel) rfl rfl rfl (by decide +kernel)
set_option maxRecDepth 65536 in
theorem w_c6 : (Jvm.Cond.code ({ cls := "com/example/ligature/ligature/graph/IntList", name := "get", desc := "(I)I" } : Jvm.MethodName) prog_4_method_4_code (2 : Nat) (Option.some Jvm.ClassFile.FieldType.int)).before args0 about1 = true := code_word (m := ⟨2, 2⟩) (meth := k2m2) (c := k2c2) (by decide +kernel) rfl rfl rfl (by decide +kernel)
def codes1 : List Jvm.Cond := [Jvm.Cond.code x code maxLocals ret, Jvm.Cond.code ({ cls := "com/example/ligature/ligature/graph/IntList", name := "<init>", desc := "()V" } : Jvm.MethodName) prog_4_method_1_code (1 : Nat) (Option.none : Option Jvm.ClassFile.FieldType), Jvm.Cond.code ({ cls := "java/lang/Object", name := "<init>", desc := "()V" } : Jvm.MethodName) object_method_1_code (1 : Nat) (Option.none : Option Jvm.ClassFile.FieldType), Jvm.Cond.code ({ cls := "com/example/ligature/ligature/graph/IntList", name := "add", desc := "(I)V" } : Jvm.MethodName) prog_4_method_5_code (2 : Nat) (Option.none : Option Jvm.ClassFile.FieldType), Jvm.Cond.code ({ cls := "com/example/ligature/ligature/graph/IntList", name := "removeLast", desc := "()I" } : Jvm.MethodName) prog_4_method_6_code (1 : Nat) (Option.some Jvm.ClassFile.FieldType.int), Jvm.Cond.code ({ cls := "com/example/ligature/ligature/graph/IntList", name := "size", desc := "()I" } : Jvm.MethodName) prog_4_method_2_code (1 : Nat) (Option.some Jvm.ClassFile.FieldType.int), Jvm.Cond.code ({ cls := "com/example/ligature/ligature/graph/IntList", name := "get", desc := "(I)I" } : Jvm.MethodName) prog_4_method_4_code (2 : Nat) (Option.some Jvm.ClassFile.FieldType.int)]
set_option maxRecDepth 65536 in
theorem codes_eq : words1.filter isCode = codes1 := rfl
theorem w_codes : ∀ c ∈ words1.filter isCode, c.before args0 about1 = true := by
  rw [codes_eq]
  intro c hc
  simp only [codes1, List.mem_cons, List.not_mem_nil, or_false] at hc
  rcases hc with rfl | rfl | rfl | rfl | rfl | rfl | rfl
  · exact w_c0
  · exact w_c1
  · exact w_c2
  · exact w_c3
  · exact w_c4
  · exact w_c5
  · exact w_c6
set_option maxRecDepth 65536 in
theorem w_t1 : (words1.take 24).all (fun c => isCode c || c.before args0 about1) = true := by decide +kernel
set_option maxRecDepth 65536 in
theorem w_t2 : (words1.drop 24).all (fun c => isCode c || c.before args0 about1) = true := by decide +kernel
theorem w_tables : (allAtoms (Jvm.Cond.code x code maxLocals ret :: tables_1)).before args0 about1 = true := by
  rw [allAtoms_all]
  show words1.all (fun c => c.before args0 about1) = true
  refine all_split ?_ w_codes
  rw [← List.take_append_drop 24 words1, List.all_append, w_t1, w_t2]
  rfl
set_option maxRecDepth 65536 in
theorem w_case : (Jvm.Cond.and given_1 narrow_1).before args0 about1 = true := by decide +kernel
theorem w_applies : (headSpec (Jvm.Cond.code x code maxLocals ret :: tables_1) room_1).applies x e0.platform about1 = true :=
  (Spec.applies_iff w_frames).mpr ⟨w_running, w_runnable, w_alone, w_named, w_hears, w_ripe, w_room, w_tables⟩
theorem atStart : AtStart classFile x code maxLocals ret World_1 tables_1 room_1 Calls_1 rest_1 Pre_1 launch0 p0 e0 about1 theMethod args0 below0 :=
  ⟨lists_1, trivial, launch0.admits_env _ _ _, launch0.least_env, fairChoices_fair.cas, fairChoices_fair.clock, w_frames, w_args, w_heap, w_applies, trivial, trivial, w_case⟩
end start1
theorem witness_1 : WitnessClaimed_1 := ⟨start1.p0, start1.e0, start1.about1, start1.theMethod, start1.args0, start1.below0, start1.atStart⟩
end Jvm.Pilot.@@N@@
