import JvmDerived
import JvmDerived.Pilot.@@N@@Statement
import JvmDerived.Pilot.@@N@@Code
set_option linter.unusedVariables false
set_option linter.unusedSimpArgs false
namespace Jvm.Pilot.@@N@@
open Jvm Jvm.ClassFile Sem Op Lib Jvm.Free Jvm.Stand Jvm.LawKit Jvm.RoadKit Bundle Jvm.Pilot.@@N@@.Jvm.D
theorem own_w {Z : State} {a0 : Array Value} {d : Jvm.Cond} (hw : ∀ d ∈ tables_1, d.before a0 Z = true) (i : Nat) (h : tables_1[i]? = some d) : d.before a0 Z = true := hw d (List.mem_of_getElem? h)
/-- from U the run comes to an end of which G says -/
def Go (p : Program) (e : Env) (below : List Frame) (G : State → Outcome → Prop) (U : State) : Prop := ∃ s₂ o, Steps p.tables e below U s₂ ∧ s₂.status = .running ∧ Ended s₂ below o ∧ G s₂ o
theorem Go.st {p : Program} {e : Env} {below : List Frame} {G : State → Outcome → Prop} {U U' : State} (h : ∀ t, Steps p.tables e below U' t → Steps p.tables e below U t) (k : Go p e below G U') : Go p e below G U := by
  obtain ⟨t, o, h1, r⟩ := k
  exact ⟨t, o, h _ h1, r⟩
theorem Go.tr {p : Program} {e : Env} {below : List Frame} {G : State → Outcome → Prop} {U U' : State} (h : Steps p.tables e below U U') (k : Go p e below G U') : Go p e below G U := by
  obtain ⟨t, o, h1, r⟩ := k
  exact ⟨t, o, h.trans h1, r⟩
theorem Go.join {p : Program} {e : Env} {below : List Frame} {G : State → Outcome → Prop} {U : State} {α : Type} {P : α → Prop} {F : α → State} (h2 : (∀ v, P v → Go p e below G (F v)) → Go p e below G U) (h1 : ∀ v, P v → Go p e below G (F v)) : Go p e below G U := h2 h1
theorem Go.join2 {p : Program} {e : Env} {below : List Frame} {G : State → Outcome → Prop} {U : State} {α β : Type} {P : α → β → Prop} {F : α → β → State} (h2 : (∀ v w, P v w → Go p e below G (F v w)) → Go p e below G U) (h1 : ∀ v w, P v w → Go p e below G (F v w)) : Go p e below G U := h2 h1
theorem Go.join3 {p : Program} {e : Env} {below : List Frame} {G : State → Outcome → Prop} {U : State} {α β γ : Type} {P : α → β → γ → Prop} {F : α → β → γ → State} (h2 : (∀ v w u, P v w u → Go p e below G (F v w u)) → Go p e below G U) (h1 : ∀ v w u, P v w u → Go p e below G (F v w u)) : Go p e below G U := h2 h1
theorem own_ret {p : Program} {l : Launch} {e : Env} {R : Room} {s : State} {m : MethodId} {args : Array Value} {below : List Frame} {meth : Method} {c : Code} {T U : State} {locs : List Loc} {cells slots : Nat} {Q : Option Value → Heap → List Loc → Prop} {rc rs : Nat} {v : Option Value}
    (X : Stand p l e R s m args below meth c T locs cells slots) (hlk : meth.locks = false) (hv : meth.sig.returnType = none → v = none) (hc : cells ≤ rc) (hs : slots ≤ rs) (hq : Q v T.heap locs)
    (st : ∀ fs, (∀ (f : JFrame) (acts : List Action), f.method = m → f.locked = none → f.entered = [] → (doReturn e (T.setTop f) acts v).1 = T.setFrames fs) → Steps p.tables e below U (T.setFrames fs)) :
    Go p e below (fun s₂ o => ∃ v L, o = .returned v ∧ Q v s₂.heap L ∧ FrameEnd s o s₂ L rc rs) U := by
  obtain ⟨fs, hr, hrun, hended, hW, hsame⟩ := X.leave (v := v) hv hlk
  exact ⟨_, _, st fs hr, hrun, hended, _, _, rfl, hq, ⟨_, rfl⟩, hW, hsame.mono hc hs⟩
theorem own_getI (L : List Int32) (i : Nat) : (L.map Value.int).getD i (.int 0) = .int (L.getD i 0) := by
  induction L generalizing i with
  | nil => rfl
  | cons a r ih => cases i with
    | zero => rfl
    | succ i => exact ih i
theorem own_getJ (L : List Int64) (i : Nat) : (L.map Value.long).getD i (.long 0) = .long (L.getD i 0) := by
  induction L generalizing i with
  | nil => rfl
  | cons a r ih => cases i with
    | zero => rfl
    | succ i => exact ih i
theorem own_getP {P : Int32 → Prop} (h0 : P 0) (L : List Int32) (h : ∀ x ∈ L, P x) (i : Nat) : P (L.getD i 0) := by
  induction L generalizing i with
  | nil => exact h0
  | cons a r ih => cases i with
    | zero => exact h a (List.mem_cons_self ..)
    | succ i => exact ih (fun x hx => h x (List.mem_cons_of_mem _ hx)) i
theorem own_mk (x m n : Int32) (k : Nat) (hk : k ≤ 31) (hm : m.toBitVec.toNat = 2 ^ k - 1) (hn : ((2 ^ k : Nat) : Int) ≤ n.toInt) : ¬ (x &&& m) < 0 ∧ (x &&& m) < n := by
  have h := c_mask x m k hk hm
  have h2 : (0 : Int) < ((2 ^ k : Nat) : Int) := Int.ofNat_lt.mpr (Nat.two_pow_pos k)
  have h3 := Int.emod_nonneg x.toInt (Int.ne_of_gt h2)
  have h4 := Int.emod_lt_of_pos x.toInt h2
  rw [Int32.lt_iff_toInt_lt, Int32.lt_iff_toInt_lt, h]
  exact ⟨Int.not_lt.mpr h3, Int.lt_of_lt_of_le h4 hn⟩
abbrev own_y0 : MethodName := ⟨"com/example/tidewright/tidewright/engine/SeededRandom", "<init>", "(J)V"⟩
abbrev own_y1 : MethodName := ⟨"com/example/tidewright/tidewright/engine/SeededRandom", "nextLong", "()J"⟩
theorem d1_0 : decode prog_4_method_1_code 0 = .ok (.aload_n 0, 1) := by decide +kernel
theorem d1_1 : decode prog_4_method_1_code 1 = .ok (.invokespecial 1, 3) := by decide +kernel
theorem d1_4 : decode prog_4_method_1_code 4 = .ok (.aload_n 0, 1) := by decide +kernel
theorem d1_5 : decode prog_4_method_1_code 5 = .ok (.lload_n 1, 1) := by decide +kernel
theorem d1_6 : decode prog_4_method_1_code 6 = .ok (.putfield 7, 3) := by decide +kernel
theorem d1_9 : decode prog_4_method_1_code 9 = .ok (.return_, 1) := by decide +kernel
theorem pn_0 : plainName "com/example/tidewright/tidewright/engine/SeededRandom" = true := by first | (simp [plainName, overriddenIn]; done) | decide +kernel
theorem ef1 (m : MethodId) (a1 : Addr) (q2 : Int64) : entryFrame m #[(.ref a1), (.long q2)] 3 = mkF m 0 #[.val (.ref a1), .val (.long q2), .second] [] := by first | (simp [entryFrame, mkF, argsToLocals, Value.category]; done) | rfl
abbrev own_R1_0_0_16 : Room := { frames := 1, cells := 0, slots := 0, locals := 16 }
def Q1 (Z : State) (a1 : Addr) (q2 : Int64) (u : Int64) (h0 : Heap) (n0 : Nat) (v : Option Value) (h : Heap) (L : List Loc) : Prop := v = none ∧ Fr n0 L ∧ Keep h0 h [a1] ∧ Exa Z h a1 "com/example/tidewright/tidewright/engine/SeededRandom" ∧ Fld Z h a1 "com/example/tidewright/tidewright/engine/SeededRandom" "state" "J" (.long q2)
set_option maxRecDepth 65536 in
set_option maxHeartbeats 40000000 in
theorem rm1 (l : Launch) (Z : State) (a0 : Array Value) (hw : ∀ d ∈ tables_1, d.before a0 Z = true) (ws : List Jvm.Cond) (a1 : Addr) (q2 : Int64) (u : Int64) (h0 : Heap) (n0 : Nat) (Z0 : n0 ≤ h0.size) (EX : Exa Z h0 a1 "com/example/tidewright/tidewright/engine/SeededRandom") (FS : Fld Z h0 a1 "com/example/tidewright/tidewright/engine/SeededRandom" "state" "J" (.long u)) (gA : n0 ≤ a1) :
    MetFree l own_y0 (head1 (Jvm.Cond.code own_y0 prog_4_method_1_code 3 none :: ws) own_R1_0_0_16) (fun a U => a = #[(.ref a1), (.long q2)] ∧ Z.Warmed39 U.vm ∧ U.heap = h0) (fun _ _ _ _ _ => True) (fun _ U o U' => ∃ v L, o = .returned v ∧ Q1 Z a1 q2 u h0 n0 v U'.heap L ∧ FrameEnd U o U' L (own_R1_0_0_16).cells (own_R1_0_0_16).slots) := by
  refine MetFree.of_bodySF (plainFor_of_name pn_0) hisR ?_
  intro p e s m args below meth c s₁ Bd hml0 hP hK
  obtain ⟨rfl, hZ, hh⟩ := hP
  have hx := Bd.exec
  have hby := Bd.bytes
  have hml : c.maxLocals = 3 := hml0
  have hown : s.vm.findClass "com/example/tidewright/tidewright/engine/SeededRandom" = some m.cls := findClass_of_methodNamed Bd.named
  have hnm := (name_of_methodNamed Bd.named Bd.method).1
  have hlk : meth.locks = false := BodyLoose.notSynchronized Bd
  have hrt := Bd.returns
  have X0 : Stand p l e own_R1_0_0_16 s m #[(.ref a1), (.long q2)] below meth c s₁ [] 0 0 := Stand.of_body Bd
  have e0 : s₁.heap = h0 := by rw [← hh, Bd.state]; rfl
  have N0 := Fr.nil n0
  refine (show Go p e below (fun s₂ o => ∃ v L, o = .returned v ∧ Q1 Z a1 q2 u h0 n0 v s₂.heap L ∧ FrameEnd s o s₂ L 0 0) (s₁.setTop (entryFrame m #[(.ref a1), (.long q2)] 3)) from ?_)
  rw [ef1]
  refine Go.st (U' := s₁.setTop (mkF m 1 #[.val (.ref a1), .val (.long q2), .second] [(.ref a1)])) (fun t k => ?_) ?_
  · show Steps p.tables e below (s₁.setTop (mkF m 0 #[.val (.ref a1), .val (.long q2), .second] [])) _
    refine XS.aloadN X0.here hx rfl (hb hby d1_0) rfl rfl ?_
    exact k
  obtain ⟨T1, X1, e1, st1⟩ := initO X0 hx hZ hown (own_w hw 6 rfl) (own_w hw 7 rfl) (own_w hw 8 rfl) e0 (g := (mkF m 1 #[.val (.ref a1), .val (.long q2), .second] [(.ref a1)])) rfl (by rw [hml]; rfl) rfl (hb hby d1_1) (by decide) (W := 0) (by show 2 * 0 + _ ≤ _; exact Nat.le_of_eq rfl) (by decide)
  refine Go.st (U' := T1.setTop (mkF m 4 #[.val (.ref a1), .val (.long q2), .second] [])) (fun t k => st1 _ k) ?_
  refine Go.st (U' := T1.setTop (mkF m 6 #[.val (.ref a1), .val (.long q2), .second] [(.long q2), (.ref a1)])) (fun t k => ?_) ?_
  · show Steps p.tables e below (T1.setTop (mkF m 4 #[.val (.ref a1), .val (.long q2), .second] [])) _
    refine XS.aloadN X1.here hx rfl (hb hby d1_4) rfl rfl ?_
    show Steps p.tables e below (T1.setTop (mkF m 5 #[.val (.ref a1), .val (.long q2), .second] [(.ref a1)])) _
    refine XS.lloadN X1.here hx rfl (hb hby d1_5) rfl ?_
    exact k
  obtain ⟨T2, h2, X2, e2, W2, st2⟩ := putF X1 hx hZ hown (host := "") (Or.inl (own_w hw 9 rfl)) Via.refl e1 FS EX (Or.inl (own_w hw 10 rfl)) (own_w hw 1 rfl) (ty := .long) (by decide) rfl rfl (g := (mkF m 6 #[.val (.ref a1), .val (.long q2), .second] [(.long q2), (.ref a1)])) rfl rfl (hb hby d1_6)
  have F2 := FS.same W2
  have EX_2 := EX.wr W2
  have N2 := Fr.snoc X2 N0 gA
  have KK2 : Keep h0 h2 [a1] := (Keep.refl h0 [a1]).wr W2 (Or.inl (List.mem_of_getElem? (i := 0) rfl))
  have sz2 : n0 ≤ h2.size := Nat.le_trans Z0 (Nat.le_of_eq W2.size.symm)
  refine Go.st (U' := T2.setTop (mkF m 9 #[.val (.ref a1), .val (.long q2), .second] [])) (fun t k => st2 _ k) ?_
  refine own_ret (Q := Q1 Z a1 q2 u h0 n0) (v := none) X2 hlk (fun _ => rfl) (by decide) (by decide) ?_ (fun fs hr => X2.returnOut hx hrt (hb hby d1_9) hr)
  rw [e2]
  exact ⟨rfl, N2, KK2, EX_2, F2⟩
theorem d3_0 : decode prog_4_method_4_code 0 = .ok (.aload_n 0, 1) := by decide +kernel
theorem d3_1 : decode prog_4_method_4_code 1 = .ok (.dup, 1) := by decide +kernel
theorem d3_2 : decode prog_4_method_4_code 2 = .ok (.getfield 7, 3) := by decide +kernel
theorem d3_5 : decode prog_4_method_4_code 5 = .ok (.ldc2_w 20, 3) := by decide +kernel
theorem d3_8 : decode prog_4_method_4_code 8 = .ok (.ladd, 1) := by decide +kernel
theorem d3_9 : decode prog_4_method_4_code 9 = .ok (.putfield 7, 3) := by decide +kernel
theorem d3_12 : decode prog_4_method_4_code 12 = .ok (.aload_n 0, 1) := by decide +kernel
theorem d3_13 : decode prog_4_method_4_code 13 = .ok (.getfield 7, 3) := by decide +kernel
theorem d3_16 : decode prog_4_method_4_code 16 = .ok (.lstore_n 1, 1) := by decide +kernel
theorem d3_17 : decode prog_4_method_4_code 17 = .ok (.lload_n 1, 1) := by decide +kernel
theorem d3_18 : decode prog_4_method_4_code 18 = .ok (.lload_n 1, 1) := by decide +kernel
theorem d3_19 : decode prog_4_method_4_code 19 = .ok (.bipush 30, 2) := by decide +kernel
theorem d3_21 : decode prog_4_method_4_code 21 = .ok (.lushr, 1) := by decide +kernel
theorem d3_22 : decode prog_4_method_4_code 22 = .ok (.lxor, 1) := by decide +kernel
theorem d3_23 : decode prog_4_method_4_code 23 = .ok (.ldc2_w 22, 3) := by decide +kernel
theorem d3_26 : decode prog_4_method_4_code 26 = .ok (.lmul, 1) := by decide +kernel
theorem d3_27 : decode prog_4_method_4_code 27 = .ok (.lstore_n 1, 1) := by decide +kernel
theorem d3_28 : decode prog_4_method_4_code 28 = .ok (.lload_n 1, 1) := by decide +kernel
theorem d3_29 : decode prog_4_method_4_code 29 = .ok (.lload_n 1, 1) := by decide +kernel
theorem d3_30 : decode prog_4_method_4_code 30 = .ok (.bipush 27, 2) := by decide +kernel
theorem d3_32 : decode prog_4_method_4_code 32 = .ok (.lushr, 1) := by decide +kernel
theorem d3_33 : decode prog_4_method_4_code 33 = .ok (.lxor, 1) := by decide +kernel
theorem d3_34 : decode prog_4_method_4_code 34 = .ok (.ldc2_w 24, 3) := by decide +kernel
theorem d3_37 : decode prog_4_method_4_code 37 = .ok (.lmul, 1) := by decide +kernel
theorem d3_38 : decode prog_4_method_4_code 38 = .ok (.lstore_n 1, 1) := by decide +kernel
theorem d3_39 : decode prog_4_method_4_code 39 = .ok (.lload_n 1, 1) := by decide +kernel
theorem d3_40 : decode prog_4_method_4_code 40 = .ok (.lload_n 1, 1) := by decide +kernel
theorem d3_41 : decode prog_4_method_4_code 41 = .ok (.bipush 31, 2) := by decide +kernel
theorem d3_43 : decode prog_4_method_4_code 43 = .ok (.lushr, 1) := by decide +kernel
theorem d3_44 : decode prog_4_method_4_code 44 = .ok (.lxor, 1) := by decide +kernel
theorem d3_45 : decode prog_4_method_4_code 45 = .ok (.lreturn, 1) := by decide +kernel
theorem ef2 (m : MethodId) (a1 : Addr) : entryFrame m #[(.ref a1)] 3 = mkF m 0 #[.val (.ref a1), .unset, .unset] [] := by first | (simp [entryFrame, mkF, argsToLocals, Value.category]; done) | rfl
abbrev own_R0_0_0_0 : Room := { frames := 0, cells := 0, slots := 0, locals := 0 }
def f2 (u : Int64) : Int64 := ((((((u + (-7046029254386353131 : Int64)) ^^^ (((u + (-7046029254386353131 : Int64)).toUInt64 >>> ((30 : Int32) &&& 0x3f).toInt64.toUInt64).toInt64)) * (-4658895280553007687 : Int64)) ^^^ (((((u + (-7046029254386353131 : Int64)) ^^^ (((u + (-7046029254386353131 : Int64)).toUInt64 >>> ((30 : Int32) &&& 0x3f).toInt64.toUInt64).toInt64)) * (-4658895280553007687 : Int64)).toUInt64 >>> ((27 : Int32) &&& 0x3f).toInt64.toUInt64).toInt64)) * (-7723592293110705685 : Int64)) ^^^ (((((((u + (-7046029254386353131 : Int64)) ^^^ (((u + (-7046029254386353131 : Int64)).toUInt64 >>> ((30 : Int32) &&& 0x3f).toInt64.toUInt64).toInt64)) * (-4658895280553007687 : Int64)) ^^^ (((((u + (-7046029254386353131 : Int64)) ^^^ (((u + (-7046029254386353131 : Int64)).toUInt64 >>> ((30 : Int32) &&& 0x3f).toInt64.toUInt64).toInt64)) * (-4658895280553007687 : Int64)).toUInt64 >>> ((27 : Int32) &&& 0x3f).toInt64.toUInt64).toInt64)) * (-7723592293110705685 : Int64)).toUInt64 >>> ((31 : Int32) &&& 0x3f).toInt64.toUInt64).toInt64))
def Q2 (Z : State) (a1 : Addr) (u : Int64) (h0 : Heap) (n0 : Nat) (v : Option Value) (h : Heap) (L : List Loc) : Prop := v = some (.long (f2 u)) ∧ Fr n0 L ∧ Keep h0 h [a1] ∧ Exa Z h a1 "com/example/tidewright/tidewright/engine/SeededRandom" ∧ Fld Z h a1 "com/example/tidewright/tidewright/engine/SeededRandom" "state" "J" (.long (u + (-7046029254386353131 : Int64)))
set_option maxRecDepth 65536 in
set_option maxHeartbeats 40000000 in
theorem rm2 (l : Launch) (Z : State) (a0 : Array Value) (hw : ∀ d ∈ tables_1, d.before a0 Z = true) (ws : List Jvm.Cond) (a1 : Addr) (u : Int64) (h0 : Heap) (n0 : Nat) (Z0 : n0 ≤ h0.size) (EX : Exa Z h0 a1 "com/example/tidewright/tidewright/engine/SeededRandom") (FS : Fld Z h0 a1 "com/example/tidewright/tidewright/engine/SeededRandom" "state" "J" (.long u)) (gA : n0 ≤ a1) :
    MetFree l own_y1 (head1 (Jvm.Cond.code own_y1 prog_4_method_4_code 3 (some .long) :: ws) own_R0_0_0_0) (fun a U => a = #[(.ref a1)] ∧ Z.Warmed39 U.vm ∧ U.heap = h0) (fun _ _ _ _ _ => True) (fun _ U o U' => ∃ v L, o = .returned v ∧ Q2 Z a1 u h0 n0 v U'.heap L ∧ FrameEnd U o U' L (own_R0_0_0_0).cells (own_R0_0_0_0).slots) := by
  refine MetFree.of_bodySF (plainFor_of_name pn_0) hisR ?_
  intro p e s m args below meth c s₁ Bd hml0 hP hK
  obtain ⟨rfl, hZ, hh⟩ := hP
  have hx := Bd.exec
  have hby := Bd.bytes
  have hml : c.maxLocals = 3 := hml0
  have hown : s.vm.findClass "com/example/tidewright/tidewright/engine/SeededRandom" = some m.cls := findClass_of_methodNamed Bd.named
  have hnm := (name_of_methodNamed Bd.named Bd.method).1
  have hlk : meth.locks = false := BodyLoose.notSynchronized Bd
  have hrt := Bd.returns
  have X0 : Stand p l e own_R0_0_0_0 s m #[(.ref a1)] below meth c s₁ [] 0 0 := Stand.of_body Bd
  have e0 : s₁.heap = h0 := by rw [← hh, Bd.state]; rfl
  have N0 := Fr.nil n0
  refine (show Go p e below (fun s₂ o => ∃ v L, o = .returned v ∧ Q2 Z a1 u h0 n0 v s₂.heap L ∧ FrameEnd s o s₂ L 0 0) (s₁.setTop (entryFrame m #[(.ref a1)] 3)) from ?_)
  rw [ef2]
  refine Go.st (U' := s₁.setTop (mkF m 2 #[.val (.ref a1), .unset, .unset] [(.ref a1), (.ref a1)])) (fun t k => ?_) ?_
  · show Steps p.tables e below (s₁.setTop (mkF m 0 #[.val (.ref a1), .unset, .unset] [])) _
    refine XS.aloadN X0.here hx rfl (hb hby d3_0) rfl rfl ?_
    show Steps p.tables e below (s₁.setTop (mkF m 1 #[.val (.ref a1), .unset, .unset] [(.ref a1)])) _
    refine XS.dup X0.here hx rfl (hb hby d3_1) rfl rfl ?_
    exact k
  obtain ⟨T3, X3, e3, st3⟩ := getF X0 hx hZ hown (host := "") (Or.inl (own_w hw 9 rfl)) Via.refl e0 FS (g := (mkF m 2 #[.val (.ref a1), .unset, .unset] [(.ref a1), (.ref a1)])) rfl rfl (hb hby d3_2)
  refine Go.st (U' := T3.setTop (mkF m 5 #[.val (.ref a1), .unset, .unset] [(.long u), (.ref a1)])) (fun t k => st3 _ k) ?_
  refine Go.st (U' := T3.setTop (mkF m 9 #[.val (.ref a1), .unset, .unset] [(.long (u + (-7046029254386353131 : Int64))), (.ref a1)])) (fun t k => ?_) ?_
  · show Steps p.tables e below (T3.setTop (mkF m 5 #[.val (.ref a1), .unset, .unset] [(.long u), (.ref a1)])) _
    refine X3.ldc2Long hx hown (mvT hZ (own_w hw 16 rfl)) (g := (mkF m 5 #[.val (.ref a1), .unset, .unset] [(.long u), (.ref a1)])) rfl (hb hby d3_5) _ ?_
    show Steps p.tables e below (T3.setTop (mkF m 8 #[.val (.ref a1), .unset, .unset] [(.long (-7046029254386353131 : Int64)), (.long u), (.ref a1)])) _
    refine XS.ladd X3.here hx rfl (hb hby d3_8) rfl ?_
    exact k
  obtain ⟨T4, h4, X4, e4, W4, st4⟩ := putF X3 hx hZ hown (host := "") (Or.inl (own_w hw 9 rfl)) Via.refl e3 FS EX (Or.inl (own_w hw 10 rfl)) (own_w hw 1 rfl) (ty := .long) (by decide) rfl rfl (g := (mkF m 9 #[.val (.ref a1), .unset, .unset] [(.long (u + (-7046029254386353131 : Int64))), (.ref a1)])) rfl rfl (hb hby d3_9)
  have F4 := FS.same W4
  have EX_4 := EX.wr W4
  have N4 := Fr.snoc X4 N0 gA
  have KK4 : Keep h0 h4 [a1] := (Keep.refl h0 [a1]).wr W4 (Or.inl (List.mem_of_getElem? (i := 0) rfl))
  have sz4 : n0 ≤ h4.size := Nat.le_trans Z0 (Nat.le_of_eq W4.size.symm)
  refine Go.st (U' := T4.setTop (mkF m 12 #[.val (.ref a1), .unset, .unset] [])) (fun t k => st4 _ k) ?_
  refine Go.st (U' := T4.setTop (mkF m 13 #[.val (.ref a1), .unset, .unset] [(.ref a1)])) (fun t k => ?_) ?_
  · show Steps p.tables e below (T4.setTop (mkF m 12 #[.val (.ref a1), .unset, .unset] [])) _
    refine XS.aloadN X4.here hx rfl (hb hby d3_12) rfl rfl ?_
    exact k
  obtain ⟨T5, X5, e5, st5⟩ := getF X4 hx hZ hown (host := "") (Or.inl (own_w hw 9 rfl)) Via.refl e4 F4 (g := (mkF m 13 #[.val (.ref a1), .unset, .unset] [(.ref a1)])) rfl rfl (hb hby d3_13)
  refine Go.st (U' := T5.setTop (mkF m 16 #[.val (.ref a1), .unset, .unset] [(.long (u + (-7046029254386353131 : Int64)))])) (fun t k => st5 _ k) ?_
  refine Go.st (U' := T5.setTop (mkF m 45 #[.val (.ref a1), .val (.long (((((u + (-7046029254386353131 : Int64)) ^^^ (((u + (-7046029254386353131 : Int64)).toUInt64 >>> ((30 : Int32) &&& 0x3f).toInt64.toUInt64).toInt64)) * (-4658895280553007687 : Int64)) ^^^ (((((u + (-7046029254386353131 : Int64)) ^^^ (((u + (-7046029254386353131 : Int64)).toUInt64 >>> ((30 : Int32) &&& 0x3f).toInt64.toUInt64).toInt64)) * (-4658895280553007687 : Int64)).toUInt64 >>> ((27 : Int32) &&& 0x3f).toInt64.toUInt64).toInt64)) * (-7723592293110705685 : Int64))), .second] [(.long ((((((u + (-7046029254386353131 : Int64)) ^^^ (((u + (-7046029254386353131 : Int64)).toUInt64 >>> ((30 : Int32) &&& 0x3f).toInt64.toUInt64).toInt64)) * (-4658895280553007687 : Int64)) ^^^ (((((u + (-7046029254386353131 : Int64)) ^^^ (((u + (-7046029254386353131 : Int64)).toUInt64 >>> ((30 : Int32) &&& 0x3f).toInt64.toUInt64).toInt64)) * (-4658895280553007687 : Int64)).toUInt64 >>> ((27 : Int32) &&& 0x3f).toInt64.toUInt64).toInt64)) * (-7723592293110705685 : Int64)) ^^^ (((((((u + (-7046029254386353131 : Int64)) ^^^ (((u + (-7046029254386353131 : Int64)).toUInt64 >>> ((30 : Int32) &&& 0x3f).toInt64.toUInt64).toInt64)) * (-4658895280553007687 : Int64)) ^^^ (((((u + (-7046029254386353131 : Int64)) ^^^ (((u + (-7046029254386353131 : Int64)).toUInt64 >>> ((30 : Int32) &&& 0x3f).toInt64.toUInt64).toInt64)) * (-4658895280553007687 : Int64)).toUInt64 >>> ((27 : Int32) &&& 0x3f).toInt64.toUInt64).toInt64)) * (-7723592293110705685 : Int64)).toUInt64 >>> ((31 : Int32) &&& 0x3f).toInt64.toUInt64).toInt64)))])) (fun t k => ?_) ?_
  · show Steps p.tables e below (T5.setTop (mkF m 16 #[.val (.ref a1), .unset, .unset] [(.long (u + (-7046029254386353131 : Int64)))])) _
    refine XS.lstoreN X5.here hx rfl (hb hby d3_16) rfl (l' := #[.val (.ref a1), .val (.long (u + (-7046029254386353131 : Int64))), .second]) rfl ?_
    show Steps p.tables e below (T5.setTop (mkF m 17 #[.val (.ref a1), .val (.long (u + (-7046029254386353131 : Int64))), .second] [])) _
    refine XS.lloadN X5.here hx rfl (hb hby d3_17) rfl ?_
    show Steps p.tables e below (T5.setTop (mkF m 18 #[.val (.ref a1), .val (.long (u + (-7046029254386353131 : Int64))), .second] [(.long (u + (-7046029254386353131 : Int64)))])) _
    refine XS.lloadN X5.here hx rfl (hb hby d3_18) rfl ?_
    show Steps p.tables e below (T5.setTop (mkF m 19 #[.val (.ref a1), .val (.long (u + (-7046029254386353131 : Int64))), .second] [(.long (u + (-7046029254386353131 : Int64))), (.long (u + (-7046029254386353131 : Int64)))])) _
    refine XS.bipush X5.here hx rfl (hb hby d3_19) ?_
    show Steps p.tables e below (T5.setTop (mkF m 21 #[.val (.ref a1), .val (.long (u + (-7046029254386353131 : Int64))), .second] [(.int (30 : Int32)), (.long (u + (-7046029254386353131 : Int64))), (.long (u + (-7046029254386353131 : Int64)))])) _
    refine XS.lushr X5.here hx rfl (hb hby d3_21) rfl ?_
    show Steps p.tables e below (T5.setTop (mkF m 22 #[.val (.ref a1), .val (.long (u + (-7046029254386353131 : Int64))), .second] [(.long (((u + (-7046029254386353131 : Int64)).toUInt64 >>> ((30 : Int32) &&& 0x3f).toInt64.toUInt64).toInt64)), (.long (u + (-7046029254386353131 : Int64)))])) _
    refine XS.lxor X5.here hx rfl (hb hby d3_22) rfl ?_
    show Steps p.tables e below (T5.setTop (mkF m 23 #[.val (.ref a1), .val (.long (u + (-7046029254386353131 : Int64))), .second] [(.long ((u + (-7046029254386353131 : Int64)) ^^^ (((u + (-7046029254386353131 : Int64)).toUInt64 >>> ((30 : Int32) &&& 0x3f).toInt64.toUInt64).toInt64)))])) _
    refine X5.ldc2Long hx hown (mvT hZ (own_w hw 17 rfl)) (g := (mkF m 23 #[.val (.ref a1), .val (.long (u + (-7046029254386353131 : Int64))), .second] [(.long ((u + (-7046029254386353131 : Int64)) ^^^ (((u + (-7046029254386353131 : Int64)).toUInt64 >>> ((30 : Int32) &&& 0x3f).toInt64.toUInt64).toInt64)))])) rfl (hb hby d3_23) _ ?_
    show Steps p.tables e below (T5.setTop (mkF m 26 #[.val (.ref a1), .val (.long (u + (-7046029254386353131 : Int64))), .second] [(.long (-4658895280553007687 : Int64)), (.long ((u + (-7046029254386353131 : Int64)) ^^^ (((u + (-7046029254386353131 : Int64)).toUInt64 >>> ((30 : Int32) &&& 0x3f).toInt64.toUInt64).toInt64)))])) _
    refine XS.lmul X5.here hx rfl (hb hby d3_26) rfl ?_
    show Steps p.tables e below (T5.setTop (mkF m 27 #[.val (.ref a1), .val (.long (u + (-7046029254386353131 : Int64))), .second] [(.long (((u + (-7046029254386353131 : Int64)) ^^^ (((u + (-7046029254386353131 : Int64)).toUInt64 >>> ((30 : Int32) &&& 0x3f).toInt64.toUInt64).toInt64)) * (-4658895280553007687 : Int64)))])) _
    refine XS.lstoreN X5.here hx rfl (hb hby d3_27) rfl (l' := #[.val (.ref a1), .val (.long (((u + (-7046029254386353131 : Int64)) ^^^ (((u + (-7046029254386353131 : Int64)).toUInt64 >>> ((30 : Int32) &&& 0x3f).toInt64.toUInt64).toInt64)) * (-4658895280553007687 : Int64))), .second]) rfl ?_
    show Steps p.tables e below (T5.setTop (mkF m 28 #[.val (.ref a1), .val (.long (((u + (-7046029254386353131 : Int64)) ^^^ (((u + (-7046029254386353131 : Int64)).toUInt64 >>> ((30 : Int32) &&& 0x3f).toInt64.toUInt64).toInt64)) * (-4658895280553007687 : Int64))), .second] [])) _
    refine XS.lloadN X5.here hx rfl (hb hby d3_28) rfl ?_
    show Steps p.tables e below (T5.setTop (mkF m 29 #[.val (.ref a1), .val (.long (((u + (-7046029254386353131 : Int64)) ^^^ (((u + (-7046029254386353131 : Int64)).toUInt64 >>> ((30 : Int32) &&& 0x3f).toInt64.toUInt64).toInt64)) * (-4658895280553007687 : Int64))), .second] [(.long (((u + (-7046029254386353131 : Int64)) ^^^ (((u + (-7046029254386353131 : Int64)).toUInt64 >>> ((30 : Int32) &&& 0x3f).toInt64.toUInt64).toInt64)) * (-4658895280553007687 : Int64)))])) _
    refine XS.lloadN X5.here hx rfl (hb hby d3_29) rfl ?_
    show Steps p.tables e below (T5.setTop (mkF m 30 #[.val (.ref a1), .val (.long (((u + (-7046029254386353131 : Int64)) ^^^ (((u + (-7046029254386353131 : Int64)).toUInt64 >>> ((30 : Int32) &&& 0x3f).toInt64.toUInt64).toInt64)) * (-4658895280553007687 : Int64))), .second] [(.long (((u + (-7046029254386353131 : Int64)) ^^^ (((u + (-7046029254386353131 : Int64)).toUInt64 >>> ((30 : Int32) &&& 0x3f).toInt64.toUInt64).toInt64)) * (-4658895280553007687 : Int64))), (.long (((u + (-7046029254386353131 : Int64)) ^^^ (((u + (-7046029254386353131 : Int64)).toUInt64 >>> ((30 : Int32) &&& 0x3f).toInt64.toUInt64).toInt64)) * (-4658895280553007687 : Int64)))])) _
    refine XS.bipush X5.here hx rfl (hb hby d3_30) ?_
    show Steps p.tables e below (T5.setTop (mkF m 32 #[.val (.ref a1), .val (.long (((u + (-7046029254386353131 : Int64)) ^^^ (((u + (-7046029254386353131 : Int64)).toUInt64 >>> ((30 : Int32) &&& 0x3f).toInt64.toUInt64).toInt64)) * (-4658895280553007687 : Int64))), .second] [(.int (27 : Int32)), (.long (((u + (-7046029254386353131 : Int64)) ^^^ (((u + (-7046029254386353131 : Int64)).toUInt64 >>> ((30 : Int32) &&& 0x3f).toInt64.toUInt64).toInt64)) * (-4658895280553007687 : Int64))), (.long (((u + (-7046029254386353131 : Int64)) ^^^ (((u + (-7046029254386353131 : Int64)).toUInt64 >>> ((30 : Int32) &&& 0x3f).toInt64.toUInt64).toInt64)) * (-4658895280553007687 : Int64)))])) _
    refine XS.lushr X5.here hx rfl (hb hby d3_32) rfl ?_
    show Steps p.tables e below (T5.setTop (mkF m 33 #[.val (.ref a1), .val (.long (((u + (-7046029254386353131 : Int64)) ^^^ (((u + (-7046029254386353131 : Int64)).toUInt64 >>> ((30 : Int32) &&& 0x3f).toInt64.toUInt64).toInt64)) * (-4658895280553007687 : Int64))), .second] [(.long (((((u + (-7046029254386353131 : Int64)) ^^^ (((u + (-7046029254386353131 : Int64)).toUInt64 >>> ((30 : Int32) &&& 0x3f).toInt64.toUInt64).toInt64)) * (-4658895280553007687 : Int64)).toUInt64 >>> ((27 : Int32) &&& 0x3f).toInt64.toUInt64).toInt64)), (.long (((u + (-7046029254386353131 : Int64)) ^^^ (((u + (-7046029254386353131 : Int64)).toUInt64 >>> ((30 : Int32) &&& 0x3f).toInt64.toUInt64).toInt64)) * (-4658895280553007687 : Int64)))])) _
    refine XS.lxor X5.here hx rfl (hb hby d3_33) rfl ?_
    show Steps p.tables e below (T5.setTop (mkF m 34 #[.val (.ref a1), .val (.long (((u + (-7046029254386353131 : Int64)) ^^^ (((u + (-7046029254386353131 : Int64)).toUInt64 >>> ((30 : Int32) &&& 0x3f).toInt64.toUInt64).toInt64)) * (-4658895280553007687 : Int64))), .second] [(.long ((((u + (-7046029254386353131 : Int64)) ^^^ (((u + (-7046029254386353131 : Int64)).toUInt64 >>> ((30 : Int32) &&& 0x3f).toInt64.toUInt64).toInt64)) * (-4658895280553007687 : Int64)) ^^^ (((((u + (-7046029254386353131 : Int64)) ^^^ (((u + (-7046029254386353131 : Int64)).toUInt64 >>> ((30 : Int32) &&& 0x3f).toInt64.toUInt64).toInt64)) * (-4658895280553007687 : Int64)).toUInt64 >>> ((27 : Int32) &&& 0x3f).toInt64.toUInt64).toInt64)))])) _
    refine X5.ldc2Long hx hown (mvT hZ (own_w hw 18 rfl)) (g := (mkF m 34 #[.val (.ref a1), .val (.long (((u + (-7046029254386353131 : Int64)) ^^^ (((u + (-7046029254386353131 : Int64)).toUInt64 >>> ((30 : Int32) &&& 0x3f).toInt64.toUInt64).toInt64)) * (-4658895280553007687 : Int64))), .second] [(.long ((((u + (-7046029254386353131 : Int64)) ^^^ (((u + (-7046029254386353131 : Int64)).toUInt64 >>> ((30 : Int32) &&& 0x3f).toInt64.toUInt64).toInt64)) * (-4658895280553007687 : Int64)) ^^^ (((((u + (-7046029254386353131 : Int64)) ^^^ (((u + (-7046029254386353131 : Int64)).toUInt64 >>> ((30 : Int32) &&& 0x3f).toInt64.toUInt64).toInt64)) * (-4658895280553007687 : Int64)).toUInt64 >>> ((27 : Int32) &&& 0x3f).toInt64.toUInt64).toInt64)))])) rfl (hb hby d3_34) _ ?_
    show Steps p.tables e below (T5.setTop (mkF m 37 #[.val (.ref a1), .val (.long (((u + (-7046029254386353131 : Int64)) ^^^ (((u + (-7046029254386353131 : Int64)).toUInt64 >>> ((30 : Int32) &&& 0x3f).toInt64.toUInt64).toInt64)) * (-4658895280553007687 : Int64))), .second] [(.long (-7723592293110705685 : Int64)), (.long ((((u + (-7046029254386353131 : Int64)) ^^^ (((u + (-7046029254386353131 : Int64)).toUInt64 >>> ((30 : Int32) &&& 0x3f).toInt64.toUInt64).toInt64)) * (-4658895280553007687 : Int64)) ^^^ (((((u + (-7046029254386353131 : Int64)) ^^^ (((u + (-7046029254386353131 : Int64)).toUInt64 >>> ((30 : Int32) &&& 0x3f).toInt64.toUInt64).toInt64)) * (-4658895280553007687 : Int64)).toUInt64 >>> ((27 : Int32) &&& 0x3f).toInt64.toUInt64).toInt64)))])) _
    refine XS.lmul X5.here hx rfl (hb hby d3_37) rfl ?_
    show Steps p.tables e below (T5.setTop (mkF m 38 #[.val (.ref a1), .val (.long (((u + (-7046029254386353131 : Int64)) ^^^ (((u + (-7046029254386353131 : Int64)).toUInt64 >>> ((30 : Int32) &&& 0x3f).toInt64.toUInt64).toInt64)) * (-4658895280553007687 : Int64))), .second] [(.long (((((u + (-7046029254386353131 : Int64)) ^^^ (((u + (-7046029254386353131 : Int64)).toUInt64 >>> ((30 : Int32) &&& 0x3f).toInt64.toUInt64).toInt64)) * (-4658895280553007687 : Int64)) ^^^ (((((u + (-7046029254386353131 : Int64)) ^^^ (((u + (-7046029254386353131 : Int64)).toUInt64 >>> ((30 : Int32) &&& 0x3f).toInt64.toUInt64).toInt64)) * (-4658895280553007687 : Int64)).toUInt64 >>> ((27 : Int32) &&& 0x3f).toInt64.toUInt64).toInt64)) * (-7723592293110705685 : Int64)))])) _
    refine XS.lstoreN X5.here hx rfl (hb hby d3_38) rfl (l' := #[.val (.ref a1), .val (.long (((((u + (-7046029254386353131 : Int64)) ^^^ (((u + (-7046029254386353131 : Int64)).toUInt64 >>> ((30 : Int32) &&& 0x3f).toInt64.toUInt64).toInt64)) * (-4658895280553007687 : Int64)) ^^^ (((((u + (-7046029254386353131 : Int64)) ^^^ (((u + (-7046029254386353131 : Int64)).toUInt64 >>> ((30 : Int32) &&& 0x3f).toInt64.toUInt64).toInt64)) * (-4658895280553007687 : Int64)).toUInt64 >>> ((27 : Int32) &&& 0x3f).toInt64.toUInt64).toInt64)) * (-7723592293110705685 : Int64))), .second]) rfl ?_
    show Steps p.tables e below (T5.setTop (mkF m 39 #[.val (.ref a1), .val (.long (((((u + (-7046029254386353131 : Int64)) ^^^ (((u + (-7046029254386353131 : Int64)).toUInt64 >>> ((30 : Int32) &&& 0x3f).toInt64.toUInt64).toInt64)) * (-4658895280553007687 : Int64)) ^^^ (((((u + (-7046029254386353131 : Int64)) ^^^ (((u + (-7046029254386353131 : Int64)).toUInt64 >>> ((30 : Int32) &&& 0x3f).toInt64.toUInt64).toInt64)) * (-4658895280553007687 : Int64)).toUInt64 >>> ((27 : Int32) &&& 0x3f).toInt64.toUInt64).toInt64)) * (-7723592293110705685 : Int64))), .second] [])) _
    refine XS.lloadN X5.here hx rfl (hb hby d3_39) rfl ?_
    show Steps p.tables e below (T5.setTop (mkF m 40 #[.val (.ref a1), .val (.long (((((u + (-7046029254386353131 : Int64)) ^^^ (((u + (-7046029254386353131 : Int64)).toUInt64 >>> ((30 : Int32) &&& 0x3f).toInt64.toUInt64).toInt64)) * (-4658895280553007687 : Int64)) ^^^ (((((u + (-7046029254386353131 : Int64)) ^^^ (((u + (-7046029254386353131 : Int64)).toUInt64 >>> ((30 : Int32) &&& 0x3f).toInt64.toUInt64).toInt64)) * (-4658895280553007687 : Int64)).toUInt64 >>> ((27 : Int32) &&& 0x3f).toInt64.toUInt64).toInt64)) * (-7723592293110705685 : Int64))), .second] [(.long (((((u + (-7046029254386353131 : Int64)) ^^^ (((u + (-7046029254386353131 : Int64)).toUInt64 >>> ((30 : Int32) &&& 0x3f).toInt64.toUInt64).toInt64)) * (-4658895280553007687 : Int64)) ^^^ (((((u + (-7046029254386353131 : Int64)) ^^^ (((u + (-7046029254386353131 : Int64)).toUInt64 >>> ((30 : Int32) &&& 0x3f).toInt64.toUInt64).toInt64)) * (-4658895280553007687 : Int64)).toUInt64 >>> ((27 : Int32) &&& 0x3f).toInt64.toUInt64).toInt64)) * (-7723592293110705685 : Int64)))])) _
    refine XS.lloadN X5.here hx rfl (hb hby d3_40) rfl ?_
    show Steps p.tables e below (T5.setTop (mkF m 41 #[.val (.ref a1), .val (.long (((((u + (-7046029254386353131 : Int64)) ^^^ (((u + (-7046029254386353131 : Int64)).toUInt64 >>> ((30 : Int32) &&& 0x3f).toInt64.toUInt64).toInt64)) * (-4658895280553007687 : Int64)) ^^^ (((((u + (-7046029254386353131 : Int64)) ^^^ (((u + (-7046029254386353131 : Int64)).toUInt64 >>> ((30 : Int32) &&& 0x3f).toInt64.toUInt64).toInt64)) * (-4658895280553007687 : Int64)).toUInt64 >>> ((27 : Int32) &&& 0x3f).toInt64.toUInt64).toInt64)) * (-7723592293110705685 : Int64))), .second] [(.long (((((u + (-7046029254386353131 : Int64)) ^^^ (((u + (-7046029254386353131 : Int64)).toUInt64 >>> ((30 : Int32) &&& 0x3f).toInt64.toUInt64).toInt64)) * (-4658895280553007687 : Int64)) ^^^ (((((u + (-7046029254386353131 : Int64)) ^^^ (((u + (-7046029254386353131 : Int64)).toUInt64 >>> ((30 : Int32) &&& 0x3f).toInt64.toUInt64).toInt64)) * (-4658895280553007687 : Int64)).toUInt64 >>> ((27 : Int32) &&& 0x3f).toInt64.toUInt64).toInt64)) * (-7723592293110705685 : Int64))), (.long (((((u + (-7046029254386353131 : Int64)) ^^^ (((u + (-7046029254386353131 : Int64)).toUInt64 >>> ((30 : Int32) &&& 0x3f).toInt64.toUInt64).toInt64)) * (-4658895280553007687 : Int64)) ^^^ (((((u + (-7046029254386353131 : Int64)) ^^^ (((u + (-7046029254386353131 : Int64)).toUInt64 >>> ((30 : Int32) &&& 0x3f).toInt64.toUInt64).toInt64)) * (-4658895280553007687 : Int64)).toUInt64 >>> ((27 : Int32) &&& 0x3f).toInt64.toUInt64).toInt64)) * (-7723592293110705685 : Int64)))])) _
    refine XS.bipush X5.here hx rfl (hb hby d3_41) ?_
    show Steps p.tables e below (T5.setTop (mkF m 43 #[.val (.ref a1), .val (.long (((((u + (-7046029254386353131 : Int64)) ^^^ (((u + (-7046029254386353131 : Int64)).toUInt64 >>> ((30 : Int32) &&& 0x3f).toInt64.toUInt64).toInt64)) * (-4658895280553007687 : Int64)) ^^^ (((((u + (-7046029254386353131 : Int64)) ^^^ (((u + (-7046029254386353131 : Int64)).toUInt64 >>> ((30 : Int32) &&& 0x3f).toInt64.toUInt64).toInt64)) * (-4658895280553007687 : Int64)).toUInt64 >>> ((27 : Int32) &&& 0x3f).toInt64.toUInt64).toInt64)) * (-7723592293110705685 : Int64))), .second] [(.int (31 : Int32)), (.long (((((u + (-7046029254386353131 : Int64)) ^^^ (((u + (-7046029254386353131 : Int64)).toUInt64 >>> ((30 : Int32) &&& 0x3f).toInt64.toUInt64).toInt64)) * (-4658895280553007687 : Int64)) ^^^ (((((u + (-7046029254386353131 : Int64)) ^^^ (((u + (-7046029254386353131 : Int64)).toUInt64 >>> ((30 : Int32) &&& 0x3f).toInt64.toUInt64).toInt64)) * (-4658895280553007687 : Int64)).toUInt64 >>> ((27 : Int32) &&& 0x3f).toInt64.toUInt64).toInt64)) * (-7723592293110705685 : Int64))), (.long (((((u + (-7046029254386353131 : Int64)) ^^^ (((u + (-7046029254386353131 : Int64)).toUInt64 >>> ((30 : Int32) &&& 0x3f).toInt64.toUInt64).toInt64)) * (-4658895280553007687 : Int64)) ^^^ (((((u + (-7046029254386353131 : Int64)) ^^^ (((u + (-7046029254386353131 : Int64)).toUInt64 >>> ((30 : Int32) &&& 0x3f).toInt64.toUInt64).toInt64)) * (-4658895280553007687 : Int64)).toUInt64 >>> ((27 : Int32) &&& 0x3f).toInt64.toUInt64).toInt64)) * (-7723592293110705685 : Int64)))])) _
    refine XS.lushr X5.here hx rfl (hb hby d3_43) rfl ?_
    show Steps p.tables e below (T5.setTop (mkF m 44 #[.val (.ref a1), .val (.long (((((u + (-7046029254386353131 : Int64)) ^^^ (((u + (-7046029254386353131 : Int64)).toUInt64 >>> ((30 : Int32) &&& 0x3f).toInt64.toUInt64).toInt64)) * (-4658895280553007687 : Int64)) ^^^ (((((u + (-7046029254386353131 : Int64)) ^^^ (((u + (-7046029254386353131 : Int64)).toUInt64 >>> ((30 : Int32) &&& 0x3f).toInt64.toUInt64).toInt64)) * (-4658895280553007687 : Int64)).toUInt64 >>> ((27 : Int32) &&& 0x3f).toInt64.toUInt64).toInt64)) * (-7723592293110705685 : Int64))), .second] [(.long (((((((u + (-7046029254386353131 : Int64)) ^^^ (((u + (-7046029254386353131 : Int64)).toUInt64 >>> ((30 : Int32) &&& 0x3f).toInt64.toUInt64).toInt64)) * (-4658895280553007687 : Int64)) ^^^ (((((u + (-7046029254386353131 : Int64)) ^^^ (((u + (-7046029254386353131 : Int64)).toUInt64 >>> ((30 : Int32) &&& 0x3f).toInt64.toUInt64).toInt64)) * (-4658895280553007687 : Int64)).toUInt64 >>> ((27 : Int32) &&& 0x3f).toInt64.toUInt64).toInt64)) * (-7723592293110705685 : Int64)).toUInt64 >>> ((31 : Int32) &&& 0x3f).toInt64.toUInt64).toInt64)), (.long (((((u + (-7046029254386353131 : Int64)) ^^^ (((u + (-7046029254386353131 : Int64)).toUInt64 >>> ((30 : Int32) &&& 0x3f).toInt64.toUInt64).toInt64)) * (-4658895280553007687 : Int64)) ^^^ (((((u + (-7046029254386353131 : Int64)) ^^^ (((u + (-7046029254386353131 : Int64)).toUInt64 >>> ((30 : Int32) &&& 0x3f).toInt64.toUInt64).toInt64)) * (-4658895280553007687 : Int64)).toUInt64 >>> ((27 : Int32) &&& 0x3f).toInt64.toUInt64).toInt64)) * (-7723592293110705685 : Int64)))])) _
    refine XS.lxor X5.here hx rfl (hb hby d3_44) rfl ?_
    exact k
  refine own_ret (Q := Q2 Z a1 u h0 n0) (v := some (.long ((((((u + (-7046029254386353131 : Int64)) ^^^ (((u + (-7046029254386353131 : Int64)).toUInt64 >>> ((30 : Int32) &&& 0x3f).toInt64.toUInt64).toInt64)) * (-4658895280553007687 : Int64)) ^^^ (((((u + (-7046029254386353131 : Int64)) ^^^ (((u + (-7046029254386353131 : Int64)).toUInt64 >>> ((30 : Int32) &&& 0x3f).toInt64.toUInt64).toInt64)) * (-4658895280553007687 : Int64)).toUInt64 >>> ((27 : Int32) &&& 0x3f).toInt64.toUInt64).toInt64)) * (-7723592293110705685 : Int64)) ^^^ (((((((u + (-7046029254386353131 : Int64)) ^^^ (((u + (-7046029254386353131 : Int64)).toUInt64 >>> ((30 : Int32) &&& 0x3f).toInt64.toUInt64).toInt64)) * (-4658895280553007687 : Int64)) ^^^ (((((u + (-7046029254386353131 : Int64)) ^^^ (((u + (-7046029254386353131 : Int64)).toUInt64 >>> ((30 : Int32) &&& 0x3f).toInt64.toUInt64).toInt64)) * (-4658895280553007687 : Int64)).toUInt64 >>> ((27 : Int32) &&& 0x3f).toInt64.toUInt64).toInt64)) * (-7723592293110705685 : Int64)).toUInt64 >>> ((31 : Int32) &&& 0x3f).toInt64.toUInt64).toInt64)))) X5 hlk (fun h => by rw [hrt] at h; cases h) (by decide) (by decide) ?_ (fun fs hr => retOut X5 hx (t := .long) hrt rfl (Or.inr (Or.inl ⟨rfl, rfl, _, rfl⟩)) (hb hby d3_45) hr)
  rw [e5]
  exact ⟨rfl, N4, KK4, EX_4, F4⟩
def own_s (k : Nat) (z : BitVec 64) : BitVec 64 := z ^^^ (z >>> k)
theorem own_sinj {k : Nat} (h1 : 22 ≤ k) {x y : BitVec 64} (h : own_s k x = own_s k y) : x = y := by
  have e : (x ^^^ y) = (x ^^^ y) >>> k := by
    rw [BitVec.ushiftRight_xor_distrib]
    unfold own_s at h
    have h2 : (x ^^^ x >>> k) ^^^ (y ^^^ x >>> k) = (y ^^^ y >>> k) ^^^ (y ^^^ x >>> k) := by rw [h]
    have l : (x ^^^ x >>> k) ^^^ (y ^^^ x >>> k) = x ^^^ y := by
      rw [BitVec.xor_comm y, BitVec.xor_assoc, ← BitVec.xor_assoc (x >>> k), BitVec.xor_self, BitVec.zero_xor]
    have r : (y ^^^ y >>> k) ^^^ (y ^^^ x >>> k) = x >>> k ^^^ y >>> k := by
      rw [BitVec.xor_comm y (y >>> k), BitVec.xor_assoc, ← BitVec.xor_assoc y y, BitVec.xor_self, BitVec.zero_xor, BitVec.xor_comm]
    rw [l, r] at h2
    exact h2
  generalize hd : x ^^^ y = d at e
  have e3 : d = d >>> (k + k + k) := by
    have a : d = (d >>> k) >>> k := by rw [← e]; exact e
    have b : d = ((d >>> k) >>> k) >>> k := by rw [← a]; exact e
    rw [BitVec.shiftRight_add, BitVec.shiftRight_add]; exact b
  have z : d = 0#64 := by
    rw [e3]
    apply BitVec.eq_of_toNat_eq
    rw [BitVec.toNat_ushiftRight, Nat.shiftRight_eq_div_pow]
    have : d.toNat < 2 ^ 64 := d.isLt
    have q : 2 ^ 64 ≤ 2 ^ (k + k + k) := Nat.pow_le_pow_right (by decide) (by omega)
    simp only [BitVec.toNat_ofNat, Nat.zero_mod]
    exact Nat.div_eq_of_lt (Nat.lt_of_lt_of_le this q)
  rw [z] at hd
  have := congrArg (· ^^^ y) hd
  simpa [BitVec.xor_assoc] using this
theorem own_minj (c d : BitVec 64) (hc : c * d = 1#64) {x y : BitVec 64} (h : x * c = y * c) : x = y := by
  have := congrArg (· * d) h
  simpa [BitVec.mul_assoc, hc] using this
theorem own_bits (u : Int64) : (f2 u).toBitVec = own_s 31 (own_s 27 (own_s 30 (u.toBitVec + (-7046029254386353131 : Int64).toBitVec) * (-4658895280553007687 : Int64).toBitVec) * (-7723592293110705685 : Int64).toBitVec) := rfl
theorem own_inj (s t : Int64) : f2 s = f2 t ↔ s = t := by
  constructor
  · intro h
    have h := congrArg Int64.toBitVec h
    rw [own_bits, own_bits] at h
    have h := own_sinj (by decide) h
    have h := own_minj _ (0x319642b2d24d8ec3#64) (by decide) h
    have h := own_sinj (by decide) h
    have h := own_minj _ (0x96de1b173f119089#64) (by decide) h
    have h := own_sinj (by decide) h
    generalize (-7046029254386353131 : Int64).toBitVec = g at h
    have q := congrArg (fun z => z - g) h
    simp only [BitVec.add_sub_cancel] at q
    exact Int64.toBitVec_inj.mp q
  · intro h; rw [h]
theorem own_vec : f2 0 = (-2152535657050944081 : Int64) := by decide +kernel
theorem own_both (s t : Int64) : ¬ (if (if s = t then (1 : Int32) else (0 : Int32)) = (if f2 s = f2 t then (1 : Int32) else (0 : Int32)) then (1 : Int32) else (0 : Int32)) = (0 : Int32) := by
  by_cases h : s = t
  · simp only [if_pos h, if_pos ((own_inj s t).mpr h)]; decide
  · simp only [if_neg h, if_neg fun q => h ((own_inj s t).mp q)]; decide
theorem pd_0 : parseMethodDescriptor "(J)V" = some ⟨[.long], none⟩ := by decide +kernel
theorem pd_1 : parseMethodDescriptor "()J" = some ⟨[], some .long⟩ := by decide +kernel
theorem pn_1 : plainName "com/example/tidewright/tidewright/engine/SeededRandomNextLongPinLaw" = true := by first | (simp [plainName, overriddenIn]; done) | decide +kernel
theorem ef0 (m : MethodId) (q0 : Int64) (q1 : Int64) : entryFrame m #[(.long q0), (.long q1)] maxLocals = mkF m 0 #[.val (.long q0), .second, .val (.long q1), .second, .unset, .unset, .unset, .unset, .unset, .unset, .unset, .unset, .unset, .unset, .unset, .unset, .unset, .unset, .unset, .unset, .unset] [] := by first | (simp [entryFrame, mkF, argsToLocals, Value.category, maxLocals]; done) | rfl
def Q0 (Z : State) (q0 : Int64) (q1 : Int64) (h0 : Heap) (n0 : Nat) (v : Option Value) (h : Heap) (L : List Loc) : Prop := v = some (.int 1) ∧ Fr n0 L
set_option maxRecDepth 65536 in
set_option maxHeartbeats 40000000 in
theorem rm0 (l : Launch) (Z : State) (a0 : Array Value) (hw : ∀ d ∈ tables_1, d.before a0 Z = true) (ws : List Jvm.Cond) (q0 : Int64) (q1 : Int64) (h0 : Heap) (n0 : Nat) (Z0 : n0 ≤ h0.size) :
    MetFree l x (head1 (Jvm.Cond.code x code maxLocals ret :: ws) room_1) (fun a U => a = #[(.long q0), (.long q1)] ∧ Z.Warmed39 U.vm ∧ U.heap = h0) (fun _ _ _ _ _ => True) (fun _ U o U' => ∃ v L, o = .returned v ∧ Q0 Z q0 q1 h0 n0 v U'.heap L ∧ FrameEnd U o U' L 16 128) := by
  refine MetFree.of_bodySF (plainFor_of_name pn_1) hisR ?_
  intro p e s m args below meth c s₁ Bd hml0 hP hK
  obtain ⟨rfl, hZ, hh⟩ := hP
  have hx := Bd.exec
  have hby := Bd.bytes
  have hml : c.maxLocals = 21 := hml0
  have hown : s.vm.findClass "com/example/tidewright/tidewright/engine/SeededRandomNextLongPinLaw" = some m.cls := findClass_of_methodNamed Bd.named
  have hnm := (name_of_methodNamed Bd.named Bd.method).1
  have hlk : meth.locks = false := BodyLoose.notSynchronized Bd
  have hrt := Bd.returns
  have X0 : Stand p l e room_1 s m #[(.long q0), (.long q1)] below meth c s₁ [] 0 0 := Stand.of_body Bd
  have e0 : s₁.heap = h0 := by rw [← hh, Bd.state]; rfl
  have N0 := Fr.nil n0
  refine (show Go p e below (fun s₂ o => ∃ v L, o = .returned v ∧ Q0 Z q0 q1 h0 n0 v s₂.heap L ∧ FrameEnd s o s₂ L 16 128) (s₁.setTop (entryFrame m #[(.long q0), (.long q1)] maxLocals)) from ?_)
  rw [ef0]
  obtain ⟨T6, h6, X6, e6, E6, A6, D6, -, st6⟩ := newO X0 hx hZ hown (own_w hw 0 rfl) (own_w hw 1 rfl) (own_w hw 2 rfl) e0 (g := (mkF m 0 #[.val (.long q0), .second, .val (.long q1), .second, .unset, .unset, .unset, .unset, .unset, .unset, .unset, .unset, .unset, .unset, .unset, .unset, .unset, .unset, .unset, .unset, .unset] [])) rfl (hb hby at_0) (by decide) (by decide)
  obtain ⟨b6, g6⟩ : ∃ z, z = h0.size := ⟨_, rfl⟩
  rw [← g6] at A6 D6 st6
  have ge_b6 : n0 ≤ b6 := Nat.le_trans Z0 (Nat.le_of_eq g6.symm)
  have F_state_b6 : Fld Z h6 b6 "com/example/tidewright/tidewright/engine/SeededRandom" "state" "J" (.long (0 : Int64)) := D6 (Or.inl (own_w hw 10 rfl)) (ty := .long) (by decide)
  have sz6 : n0 ≤ h6.size := Nat.le_trans Z0 E6.1
  refine Go.st (U' := T6.setTop (mkF m 3 #[.val (.long q0), .second, .val (.long q1), .second, .unset, .unset, .unset, .unset, .unset, .unset, .unset, .unset, .unset, .unset, .unset, .unset, .unset, .unset, .unset, .unset, .unset] [(.ref b6)])) (fun t k => st6 _ k) ?_
  refine Go.st (U' := T6.setTop (mkF m 5 #[.val (.long q0), .second, .val (.long q1), .second, .unset, .unset, .unset, .unset, .unset, .unset, .unset, .unset, .unset, .unset, .unset, .unset, .unset, .unset, .unset, .unset, .unset] [(.long q0), (.ref b6), (.ref b6)])) (fun t k => ?_) ?_
  · show Steps p.tables e below (T6.setTop (mkF m 3 #[.val (.long q0), .second, .val (.long q1), .second, .unset, .unset, .unset, .unset, .unset, .unset, .unset, .unset, .unset, .unset, .unset, .unset, .unset, .unset, .unset, .unset, .unset] [(.ref b6)])) _
    refine XS.dup X6.here hx rfl (hb hby at_3) rfl rfl ?_
    show Steps p.tables e below (T6.setTop (mkF m 4 #[.val (.long q0), .second, .val (.long q1), .second, .unset, .unset, .unset, .unset, .unset, .unset, .unset, .unset, .unset, .unset, .unset, .unset, .unset, .unset, .unset, .unset, .unset] [(.ref b6), (.ref b6)])) _
    refine XS.lloadN X6.here hx rfl (hb hby at_4) rfl ?_
    exact k
  obtain ⟨_, _, ⟨T7, L7, k7, n7⟩, -, X7, ⟨Lc7, hQ7, l7, y7, z7⟩, st7⟩ := X6.specialBack hx (y := own_y0) rfl hown (mvT hZ (own_w hw 3 rfl)) (mvT hZ (own_w hw 4 rfl)) (mvT hZ (own_w hw 5 rfl)) (by decide) (backOf (W := 1) (rm1 l Z a0 hw [] b6 q0 (0 : Int64) h6 n0 sz6 A6 F_state_b6 ge_b6) hZ (own_w hw 5 rfl) (own_w hw 2 rfl) (by decide) (by decide)) (g := (mkF m 5 #[.val (.long q0), .second, .val (.long q1), .second, .unset, .unset, .unset, .unset, .unset, .unset, .unset, .unset, .unset, .unset, .unset, .unset, .unset, .unset, .unset, .unset, .unset] [(.long q0), (.ref b6), (.ref b6)])) rfl (by rw [hml]; rfl) (Steps.refl _) (a := b6) (argsL := [(.long q0)]) (rest := [(.ref b6)]) (lenOf pd_0 rfl) rfl (by show 2 * 0 + _ ≤ _; exact Nat.le_of_eq rfl) (hb hby at_5) (fun _ _ => ⟨rfl, e6, (by decide : 1 + 0 ≤ _), (by decide : 1 + 0 ≤ _)⟩)
  dsimp only [Pt.U, Pt.locs, Pt.cells, Pt.slots] at X7 l7 y7 z7 st7 hQ7
  subst l7 y7 z7
  obtain ⟨rfl, N7q, K7, P7_0, P7_1⟩ := hQ7
  have Ex_b6_7 := A6.keep K7
  have sz7 : n0 ≤ T7.heap.size := Nat.le_trans sz6 K7.1
  have N7 := Fr.app N0 N7q
  refine Go.tr (U' := T7.setTop (mkF m 8 #[.val (.long q0), .second, .val (.long q1), .second, .unset, .unset, .unset, .unset, .unset, .unset, .unset, .unset, .unset, .unset, .unset, .unset, .unset, .unset, .unset, .unset, .unset] [(.ref b6)])) st7 ?_
  refine Go.st (U' := T7.setTop (mkF m 12 #[.val (.long q0), .second, .val (.long q1), .second, .val (.ref b6), .unset, .unset, .unset, .unset, .unset, .unset, .unset, .unset, .unset, .unset, .unset, .unset, .unset, .unset, .unset, .unset] [(.ref b6)])) (fun t k => ?_) ?_
  · show Steps p.tables e below (T7.setTop (mkF m 8 #[.val (.long q0), .second, .val (.long q1), .second, .unset, .unset, .unset, .unset, .unset, .unset, .unset, .unset, .unset, .unset, .unset, .unset, .unset, .unset, .unset, .unset, .unset] [(.ref b6)])) _
    refine XS.astore X7.here hx rfl (hb hby at_8) rfl rfl (l' := #[.val (.long q0), .second, .val (.long q1), .second, .val (.ref b6), .unset, .unset, .unset, .unset, .unset, .unset, .unset, .unset, .unset, .unset, .unset, .unset, .unset, .unset, .unset, .unset]) rfl ?_
    show Steps p.tables e below (T7.setTop (mkF m 10 #[.val (.long q0), .second, .val (.long q1), .second, .val (.ref b6), .unset, .unset, .unset, .unset, .unset, .unset, .unset, .unset, .unset, .unset, .unset, .unset, .unset, .unset, .unset, .unset] [])) _
    refine XS.aload X7.here hx rfl (hb hby at_10) rfl rfl ?_
    exact k
  obtain ⟨cq8, kq8, q8a, q8b, q8c⟩ := isOf hZ rfl P7_0
  obtain ⟨_, _, ⟨T8, L8, k8, n8⟩, -, X8, ⟨Lc8, hQ8, l8, y8, z8⟩, st8⟩ := X7.virtualBack hx (y := own_y1) (z := own_y1) hown (mvT hZ (own_w hw 11 rfl)) (mvT hZ (own_w hw 12 rfl)) (notFace_of_selects (args := #[]) (mvT hZ (own_w hw 14 rfl))) (mvT hZ (own_w hw 14 rfl)) (mvT hZ (own_w hw 13 rfl)) (by decide) (backOf (W := 0) (rm2 l Z a0 hw [] b6 q0 T7.heap n0 sz7 P7_0 P7_1 ge_b6) hZ (own_w hw 15 rfl) (own_w hw 2 rfl) (by decide) (by decide)) q8a q8c (g := (mkF m 12 #[.val (.long q0), .second, .val (.long q1), .second, .val (.ref b6), .unset, .unset, .unset, .unset, .unset, .unset, .unset, .unset, .unset, .unset, .unset, .unset, .unset, .unset, .unset, .unset] [(.ref b6)])) rfl (by rw [hml]; rfl) (Steps.refl _) (argsL := []) (rest := []) (lenOf pd_1 rfl) rfl (by show 2 * 0 + _ ≤ _; exact Nat.le_of_eq rfl) (hb hby at_12) (fun _ _ => ⟨rfl, rfl, (by decide : 1 + 0 ≤ _), (by decide : 1 + 0 ≤ _)⟩)
  dsimp only [Pt.U, Pt.locs, Pt.cells, Pt.slots] at X8 l8 y8 z8 st8 hQ8
  subst l8 y8 z8
  obtain ⟨rfl, N8q, K8, P8_0, P8_1⟩ := hQ8
  have P7_0_8 := P7_0.keep K8
  have sz8 : n0 ≤ T8.heap.size := Nat.le_trans sz7 K8.1
  have N8 := Fr.app N7 N8q
  refine Go.tr (U' := T8.setTop (mkF m 15 #[.val (.long q0), .second, .val (.long q1), .second, .val (.ref b6), .unset, .unset, .unset, .unset, .unset, .unset, .unset, .unset, .unset, .unset, .unset, .unset, .unset, .unset, .unset, .unset] [(.long (f2 q0))])) st8 ?_
  refine Go.st (U' := T8.setTop (mkF m 17 #[.val (.long q0), .second, .val (.long q1), .second, .val (.ref b6), .val (.long (f2 q0)), .second, .unset, .unset, .unset, .unset, .unset, .unset, .unset, .unset, .unset, .unset, .unset, .unset, .unset, .unset] [])) (fun t k => ?_) ?_
  · show Steps p.tables e below (T8.setTop (mkF m 15 #[.val (.long q0), .second, .val (.long q1), .second, .val (.ref b6), .unset, .unset, .unset, .unset, .unset, .unset, .unset, .unset, .unset, .unset, .unset, .unset, .unset, .unset, .unset, .unset] [(.long (f2 q0))])) _
    refine XS.lstore X8.here hx rfl (hb hby at_15) rfl (l' := #[.val (.long q0), .second, .val (.long q1), .second, .val (.ref b6), .val (.long (f2 q0)), .second, .unset, .unset, .unset, .unset, .unset, .unset, .unset, .unset, .unset, .unset, .unset, .unset, .unset, .unset]) rfl ?_
    exact k
  generalize hv_v9 : (f2 q0) = v9
  refine Go.st (U' := T8.setTop (mkF m 19 #[.val (.long q0), .second, .val (.long q1), .second, .val (.ref b6), .val (.long v9), .second, .unset, .unset, .unset, .unset, .unset, .unset, .unset, .unset, .unset, .unset, .unset, .unset, .unset, .unset] [(.ref b6)])) (fun t k => ?_) ?_
  · show Steps p.tables e below (T8.setTop (mkF m 17 #[.val (.long q0), .second, .val (.long q1), .second, .val (.ref b6), .val (.long v9), .second, .unset, .unset, .unset, .unset, .unset, .unset, .unset, .unset, .unset, .unset, .unset, .unset, .unset, .unset] [])) _
    refine XS.aload X8.here hx rfl (hb hby at_17) rfl rfl ?_
    exact k
  obtain ⟨cq10, kq10, q10a, q10b, q10c⟩ := isOf hZ rfl P8_0
  obtain ⟨_, _, ⟨T10, L10, k10, n10⟩, -, X10, ⟨Lc10, hQ10, l10, y10, z10⟩, st10⟩ := X8.virtualBack hx (y := own_y1) (z := own_y1) hown (mvT hZ (own_w hw 11 rfl)) (mvT hZ (own_w hw 12 rfl)) (notFace_of_selects (args := #[]) (mvT hZ (own_w hw 14 rfl))) (mvT hZ (own_w hw 14 rfl)) (mvT hZ (own_w hw 13 rfl)) (by decide) (backOf (W := 0) (rm2 l Z a0 hw [] b6 (q0 + (-7046029254386353131 : Int64)) T8.heap n0 sz8 P8_0 P8_1 ge_b6) hZ (own_w hw 15 rfl) (own_w hw 2 rfl) (by decide) (by decide)) q10a q10c (g := (mkF m 19 #[.val (.long q0), .second, .val (.long q1), .second, .val (.ref b6), .val (.long v9), .second, .unset, .unset, .unset, .unset, .unset, .unset, .unset, .unset, .unset, .unset, .unset, .unset, .unset, .unset] [(.ref b6)])) rfl (by rw [hml]; rfl) (Steps.refl _) (argsL := []) (rest := []) (lenOf pd_1 rfl) rfl (by show 2 * 0 + _ ≤ _; exact Nat.le_of_eq rfl) (hb hby at_19) (fun _ _ => ⟨rfl, rfl, (by decide : 1 + 0 ≤ _), (by decide : 1 + 0 ≤ _)⟩)
  dsimp only [Pt.U, Pt.locs, Pt.cells, Pt.slots] at X10 l10 y10 z10 st10 hQ10
  subst l10 y10 z10
  obtain ⟨rfl, N10q, K10, P10_0, P10_1⟩ := hQ10
  have P8_0_10 := P8_0.keep K10
  have sz10 : n0 ≤ T10.heap.size := Nat.le_trans sz8 K10.1
  have N10 := Fr.app N8 N10q
  refine Go.tr (U' := T10.setTop (mkF m 22 #[.val (.long q0), .second, .val (.long q1), .second, .val (.ref b6), .val (.long v9), .second, .unset, .unset, .unset, .unset, .unset, .unset, .unset, .unset, .unset, .unset, .unset, .unset, .unset, .unset] [(.long (f2 (q0 + (-7046029254386353131 : Int64))))])) st10 ?_
  refine Go.st (U' := T10.setTop (mkF m 24 #[.val (.long q0), .second, .val (.long q1), .second, .val (.ref b6), .val (.long v9), .second, .val (.long (f2 (q0 + (-7046029254386353131 : Int64)))), .second, .unset, .unset, .unset, .unset, .unset, .unset, .unset, .unset, .unset, .unset, .unset, .unset] [])) (fun t k => ?_) ?_
  · show Steps p.tables e below (T10.setTop (mkF m 22 #[.val (.long q0), .second, .val (.long q1), .second, .val (.ref b6), .val (.long v9), .second, .unset, .unset, .unset, .unset, .unset, .unset, .unset, .unset, .unset, .unset, .unset, .unset, .unset, .unset] [(.long (f2 (q0 + (-7046029254386353131 : Int64))))])) _
    refine XS.lstore X10.here hx rfl (hb hby at_22) rfl (l' := #[.val (.long q0), .second, .val (.long q1), .second, .val (.ref b6), .val (.long v9), .second, .val (.long (f2 (q0 + (-7046029254386353131 : Int64)))), .second, .unset, .unset, .unset, .unset, .unset, .unset, .unset, .unset, .unset, .unset, .unset, .unset]) rfl ?_
    exact k
  generalize hv_v11 : (f2 (q0 + (-7046029254386353131 : Int64))) = v11
  obtain ⟨T12, h12, X12, e12, E12, A12, D12, -, st12⟩ := newO X10 hx hZ hown (own_w hw 0 rfl) (own_w hw 1 rfl) (own_w hw 2 rfl) rfl (g := (mkF m 24 #[.val (.long q0), .second, .val (.long q1), .second, .val (.ref b6), .val (.long v9), .second, .val (.long v11), .second, .unset, .unset, .unset, .unset, .unset, .unset, .unset, .unset, .unset, .unset, .unset, .unset] [])) rfl (hb hby at_24) (by decide) (by decide)
  obtain ⟨b12, g12⟩ : ∃ z, z = T10.heap.size := ⟨_, rfl⟩
  rw [← g12] at A12 D12 st12
  have ne_b6_b12 : b6 ≠ b12 := Nat.ne_of_lt (Nat.lt_of_lt_of_le P10_0.lt (Nat.le_of_eq g12.symm))
  have ge_b12 : n0 ≤ b12 := Nat.le_trans sz10 (Nat.le_of_eq g12.symm)
  have P10_0_12 := P10_0.ext E12
  have P10_1_12 := P10_1.ext E12
  have F_state_b12 : Fld Z h12 b12 "com/example/tidewright/tidewright/engine/SeededRandom" "state" "J" (.long (0 : Int64)) := D12 (Or.inl (own_w hw 10 rfl)) (ty := .long) (by decide)
  have sz12 : n0 ≤ h12.size := Nat.le_trans sz10 E12.1
  refine Go.st (U' := T12.setTop (mkF m 27 #[.val (.long q0), .second, .val (.long q1), .second, .val (.ref b6), .val (.long v9), .second, .val (.long v11), .second, .unset, .unset, .unset, .unset, .unset, .unset, .unset, .unset, .unset, .unset, .unset, .unset] [(.ref b12)])) (fun t k => st12 _ k) ?_
  refine Go.st (U' := T12.setTop (mkF m 33 #[.val (.long q0), .second, .val (.long q1), .second, .val (.ref b6), .val (.long v9), .second, .val (.long v11), .second, .unset, .unset, .unset, .unset, .unset, .unset, .unset, .unset, .unset, .unset, .unset, .unset] [(.long (q0 + (-7046029254386353131 : Int64))), (.ref b12), (.ref b12)])) (fun t k => ?_) ?_
  · show Steps p.tables e below (T12.setTop (mkF m 27 #[.val (.long q0), .second, .val (.long q1), .second, .val (.ref b6), .val (.long v9), .second, .val (.long v11), .second, .unset, .unset, .unset, .unset, .unset, .unset, .unset, .unset, .unset, .unset, .unset, .unset] [(.ref b12)])) _
    refine XS.dup X12.here hx rfl (hb hby at_27) rfl rfl ?_
    show Steps p.tables e below (T12.setTop (mkF m 28 #[.val (.long q0), .second, .val (.long q1), .second, .val (.ref b6), .val (.long v9), .second, .val (.long v11), .second, .unset, .unset, .unset, .unset, .unset, .unset, .unset, .unset, .unset, .unset, .unset, .unset] [(.ref b12), (.ref b12)])) _
    refine XS.lloadN X12.here hx rfl (hb hby at_28) rfl ?_
    show Steps p.tables e below (T12.setTop (mkF m 29 #[.val (.long q0), .second, .val (.long q1), .second, .val (.ref b6), .val (.long v9), .second, .val (.long v11), .second, .unset, .unset, .unset, .unset, .unset, .unset, .unset, .unset, .unset, .unset, .unset, .unset] [(.long q0), (.ref b12), (.ref b12)])) _
    refine X12.ldc2Long hx hown (mvT hZ (own_w hw 19 rfl)) (g := (mkF m 29 #[.val (.long q0), .second, .val (.long q1), .second, .val (.ref b6), .val (.long v9), .second, .val (.long v11), .second, .unset, .unset, .unset, .unset, .unset, .unset, .unset, .unset, .unset, .unset, .unset, .unset] [(.long q0), (.ref b12), (.ref b12)])) rfl (hb hby at_29) _ ?_
    show Steps p.tables e below (T12.setTop (mkF m 32 #[.val (.long q0), .second, .val (.long q1), .second, .val (.ref b6), .val (.long v9), .second, .val (.long v11), .second, .unset, .unset, .unset, .unset, .unset, .unset, .unset, .unset, .unset, .unset, .unset, .unset] [(.long (-7046029254386353131 : Int64)), (.long q0), (.ref b12), (.ref b12)])) _
    refine XS.ladd X12.here hx rfl (hb hby at_32) rfl ?_
    exact k
  obtain ⟨_, _, ⟨T13, L13, k13, n13⟩, -, X13, ⟨Lc13, hQ13, l13, y13, z13⟩, st13⟩ := X12.specialBack hx (y := own_y0) rfl hown (mvT hZ (own_w hw 3 rfl)) (mvT hZ (own_w hw 4 rfl)) (mvT hZ (own_w hw 5 rfl)) (by decide) (backOf (W := 1) (rm1 l Z a0 hw [] b12 (q0 + (-7046029254386353131 : Int64)) (0 : Int64) h12 n0 sz12 A12 F_state_b12 ge_b12) hZ (own_w hw 5 rfl) (own_w hw 2 rfl) (by decide) (by decide)) (g := (mkF m 33 #[.val (.long q0), .second, .val (.long q1), .second, .val (.ref b6), .val (.long v9), .second, .val (.long v11), .second, .unset, .unset, .unset, .unset, .unset, .unset, .unset, .unset, .unset, .unset, .unset, .unset] [(.long (q0 + (-7046029254386353131 : Int64))), (.ref b12), (.ref b12)])) rfl (by rw [hml]; rfl) (Steps.refl _) (a := b12) (argsL := [(.long (q0 + (-7046029254386353131 : Int64)))]) (rest := [(.ref b12)]) (lenOf pd_0 rfl) rfl (by show 2 * 0 + _ ≤ _; exact Nat.le_of_eq rfl) (hb hby at_33) (fun _ _ => ⟨rfl, e12, (by decide : 2 + 0 ≤ _), (by decide : 2 + 0 ≤ _)⟩)
  dsimp only [Pt.U, Pt.locs, Pt.cells, Pt.slots] at X13 l13 y13 z13 st13 hQ13
  subst l13 y13 z13
  obtain ⟨rfl, N13q, K13, P13_0, P13_1⟩ := hQ13
  have P10_0_13 := P10_0_12.keep K13
  have P10_1_13 := P10_1_12.keep K13 (ninS ne_b6_b12 nin0)
  have Ex_b12_13 := A12.keep K13
  have sz13 : n0 ≤ T13.heap.size := Nat.le_trans sz12 K13.1
  have N13 := Fr.app N10 N13q
  refine Go.tr (U' := T13.setTop (mkF m 36 #[.val (.long q0), .second, .val (.long q1), .second, .val (.ref b6), .val (.long v9), .second, .val (.long v11), .second, .unset, .unset, .unset, .unset, .unset, .unset, .unset, .unset, .unset, .unset, .unset, .unset] [(.ref b12)])) st13 ?_
  refine Go.st (U' := T13.setTop (mkF m 40 #[.val (.long q0), .second, .val (.long q1), .second, .val (.ref b6), .val (.long v9), .second, .val (.long v11), .second, .val (.ref b12), .unset, .unset, .unset, .unset, .unset, .unset, .unset, .unset, .unset, .unset, .unset] [(.ref b12)])) (fun t k => ?_) ?_
  · show Steps p.tables e below (T13.setTop (mkF m 36 #[.val (.long q0), .second, .val (.long q1), .second, .val (.ref b6), .val (.long v9), .second, .val (.long v11), .second, .unset, .unset, .unset, .unset, .unset, .unset, .unset, .unset, .unset, .unset, .unset, .unset] [(.ref b12)])) _
    refine XS.astore X13.here hx rfl (hb hby at_36) rfl rfl (l' := #[.val (.long q0), .second, .val (.long q1), .second, .val (.ref b6), .val (.long v9), .second, .val (.long v11), .second, .val (.ref b12), .unset, .unset, .unset, .unset, .unset, .unset, .unset, .unset, .unset, .unset, .unset]) rfl ?_
    show Steps p.tables e below (T13.setTop (mkF m 38 #[.val (.long q0), .second, .val (.long q1), .second, .val (.ref b6), .val (.long v9), .second, .val (.long v11), .second, .val (.ref b12), .unset, .unset, .unset, .unset, .unset, .unset, .unset, .unset, .unset, .unset, .unset] [])) _
    refine XS.aload X13.here hx rfl (hb hby at_38) rfl rfl ?_
    exact k
  obtain ⟨cq14, kq14, q14a, q14b, q14c⟩ := isOf hZ rfl P13_0
  obtain ⟨_, _, ⟨T14, L14, k14, n14⟩, -, X14, ⟨Lc14, hQ14, l14, y14, z14⟩, st14⟩ := X13.virtualBack hx (y := own_y1) (z := own_y1) hown (mvT hZ (own_w hw 11 rfl)) (mvT hZ (own_w hw 12 rfl)) (notFace_of_selects (args := #[]) (mvT hZ (own_w hw 14 rfl))) (mvT hZ (own_w hw 14 rfl)) (mvT hZ (own_w hw 13 rfl)) (by decide) (backOf (W := 0) (rm2 l Z a0 hw [] b12 (q0 + (-7046029254386353131 : Int64)) T13.heap n0 sz13 P13_0 P13_1 ge_b12) hZ (own_w hw 15 rfl) (own_w hw 2 rfl) (by decide) (by decide)) q14a q14c (g := (mkF m 40 #[.val (.long q0), .second, .val (.long q1), .second, .val (.ref b6), .val (.long v9), .second, .val (.long v11), .second, .val (.ref b12), .unset, .unset, .unset, .unset, .unset, .unset, .unset, .unset, .unset, .unset, .unset] [(.ref b12)])) rfl (by rw [hml]; rfl) (Steps.refl _) (argsL := []) (rest := []) (lenOf pd_1 rfl) rfl (by show 2 * 0 + _ ≤ _; exact Nat.le_of_eq rfl) (hb hby at_40) (fun _ _ => ⟨rfl, rfl, (by decide : 2 + 0 ≤ _), (by decide : 2 + 0 ≤ _)⟩)
  dsimp only [Pt.U, Pt.locs, Pt.cells, Pt.slots] at X14 l14 y14 z14 st14 hQ14
  subst l14 y14 z14
  obtain ⟨rfl, N14q, K14, P14_0, P14_1⟩ := hQ14
  have P10_0_14 := P10_0_13.keep K14
  have P10_1_14 := P10_1_13.keep K14 (ninS ne_b6_b12 nin0)
  have P13_0_14 := P13_0.keep K14
  have sz14 : n0 ≤ T14.heap.size := Nat.le_trans sz13 K14.1
  have N14 := Fr.app N13 N14q
  refine Go.tr (U' := T14.setTop (mkF m 43 #[.val (.long q0), .second, .val (.long q1), .second, .val (.ref b6), .val (.long v9), .second, .val (.long v11), .second, .val (.ref b12), .unset, .unset, .unset, .unset, .unset, .unset, .unset, .unset, .unset, .unset, .unset] [(.long (f2 (q0 + (-7046029254386353131 : Int64))))])) st14 ?_
  refine Go.st (U' := T14.setTop (mkF m 45 #[.val (.long q0), .second, .val (.long q1), .second, .val (.ref b6), .val (.long v9), .second, .val (.long v11), .second, .val (.ref b12), .val (.long (f2 (q0 + (-7046029254386353131 : Int64)))), .second, .unset, .unset, .unset, .unset, .unset, .unset, .unset, .unset, .unset] [])) (fun t k => ?_) ?_
  · show Steps p.tables e below (T14.setTop (mkF m 43 #[.val (.long q0), .second, .val (.long q1), .second, .val (.ref b6), .val (.long v9), .second, .val (.long v11), .second, .val (.ref b12), .unset, .unset, .unset, .unset, .unset, .unset, .unset, .unset, .unset, .unset, .unset] [(.long (f2 (q0 + (-7046029254386353131 : Int64))))])) _
    refine XS.lstore X14.here hx rfl (hb hby at_43) rfl (l' := #[.val (.long q0), .second, .val (.long q1), .second, .val (.ref b6), .val (.long v9), .second, .val (.long v11), .second, .val (.ref b12), .val (.long (f2 (q0 + (-7046029254386353131 : Int64)))), .second, .unset, .unset, .unset, .unset, .unset, .unset, .unset, .unset, .unset]) rfl ?_
    exact k
  generalize hv_v15 : (f2 (q0 + (-7046029254386353131 : Int64))) = v15
  obtain ⟨T16, h16, X16, e16, E16, A16, D16, -, st16⟩ := newO X14 hx hZ hown (own_w hw 0 rfl) (own_w hw 1 rfl) (own_w hw 2 rfl) rfl (g := (mkF m 45 #[.val (.long q0), .second, .val (.long q1), .second, .val (.ref b6), .val (.long v9), .second, .val (.long v11), .second, .val (.ref b12), .val (.long v15), .second, .unset, .unset, .unset, .unset, .unset, .unset, .unset, .unset, .unset] [])) rfl (hb hby at_45) (by decide) (by decide)
  obtain ⟨b16, g16⟩ : ∃ z, z = T14.heap.size := ⟨_, rfl⟩
  rw [← g16] at A16 D16 st16
  have ne_b6_b16 : b6 ≠ b16 := Nat.ne_of_lt (Nat.lt_of_lt_of_le P10_0_14.lt (Nat.le_of_eq g16.symm))
  have ne_b12_b16 : b12 ≠ b16 := Nat.ne_of_lt (Nat.lt_of_lt_of_le P14_0.lt (Nat.le_of_eq g16.symm))
  have ge_b16 : n0 ≤ b16 := Nat.le_trans sz14 (Nat.le_of_eq g16.symm)
  have P10_0_16 := P10_0_14.ext E16
  have P10_1_16 := P10_1_14.ext E16
  have P14_0_16 := P14_0.ext E16
  have P14_1_16 := P14_1.ext E16
  have F_state_b16 : Fld Z h16 b16 "com/example/tidewright/tidewright/engine/SeededRandom" "state" "J" (.long (0 : Int64)) := D16 (Or.inl (own_w hw 10 rfl)) (ty := .long) (by decide)
  have sz16 : n0 ≤ h16.size := Nat.le_trans sz14 E16.1
  refine Go.st (U' := T16.setTop (mkF m 48 #[.val (.long q0), .second, .val (.long q1), .second, .val (.ref b6), .val (.long v9), .second, .val (.long v11), .second, .val (.ref b12), .val (.long v15), .second, .unset, .unset, .unset, .unset, .unset, .unset, .unset, .unset, .unset] [(.ref b16)])) (fun t k => st16 _ k) ?_
  refine Go.st (U' := T16.setTop (mkF m 50 #[.val (.long q0), .second, .val (.long q1), .second, .val (.ref b6), .val (.long v9), .second, .val (.long v11), .second, .val (.ref b12), .val (.long v15), .second, .unset, .unset, .unset, .unset, .unset, .unset, .unset, .unset, .unset] [(.long q1), (.ref b16), (.ref b16)])) (fun t k => ?_) ?_
  · show Steps p.tables e below (T16.setTop (mkF m 48 #[.val (.long q0), .second, .val (.long q1), .second, .val (.ref b6), .val (.long v9), .second, .val (.long v11), .second, .val (.ref b12), .val (.long v15), .second, .unset, .unset, .unset, .unset, .unset, .unset, .unset, .unset, .unset] [(.ref b16)])) _
    refine XS.dup X16.here hx rfl (hb hby at_48) rfl rfl ?_
    show Steps p.tables e below (T16.setTop (mkF m 49 #[.val (.long q0), .second, .val (.long q1), .second, .val (.ref b6), .val (.long v9), .second, .val (.long v11), .second, .val (.ref b12), .val (.long v15), .second, .unset, .unset, .unset, .unset, .unset, .unset, .unset, .unset, .unset] [(.ref b16), (.ref b16)])) _
    refine XS.lloadN X16.here hx rfl (hb hby at_49) rfl ?_
    exact k
  obtain ⟨_, _, ⟨T17, L17, k17, n17⟩, -, X17, ⟨Lc17, hQ17, l17, y17, z17⟩, st17⟩ := X16.specialBack hx (y := own_y0) rfl hown (mvT hZ (own_w hw 3 rfl)) (mvT hZ (own_w hw 4 rfl)) (mvT hZ (own_w hw 5 rfl)) (by decide) (backOf (W := 1) (rm1 l Z a0 hw [] b16 q1 (0 : Int64) h16 n0 sz16 A16 F_state_b16 ge_b16) hZ (own_w hw 5 rfl) (own_w hw 2 rfl) (by decide) (by decide)) (g := (mkF m 50 #[.val (.long q0), .second, .val (.long q1), .second, .val (.ref b6), .val (.long v9), .second, .val (.long v11), .second, .val (.ref b12), .val (.long v15), .second, .unset, .unset, .unset, .unset, .unset, .unset, .unset, .unset, .unset] [(.long q1), (.ref b16), (.ref b16)])) rfl (by rw [hml]; rfl) (Steps.refl _) (a := b16) (argsL := [(.long q1)]) (rest := [(.ref b16)]) (lenOf pd_0 rfl) rfl (by show 2 * 0 + _ ≤ _; exact Nat.le_of_eq rfl) (hb hby at_50) (fun _ _ => ⟨rfl, e16, (by decide : 3 + 0 ≤ _), (by decide : 3 + 0 ≤ _)⟩)
  dsimp only [Pt.U, Pt.locs, Pt.cells, Pt.slots] at X17 l17 y17 z17 st17 hQ17
  subst l17 y17 z17
  obtain ⟨rfl, N17q, K17, P17_0, P17_1⟩ := hQ17
  have P10_0_17 := P10_0_16.keep K17
  have P10_1_17 := P10_1_16.keep K17 (ninS ne_b6_b16 nin0)
  have P14_0_17 := P14_0_16.keep K17
  have P14_1_17 := P14_1_16.keep K17 (ninS ne_b12_b16 nin0)
  have Ex_b16_17 := A16.keep K17
  have sz17 : n0 ≤ T17.heap.size := Nat.le_trans sz16 K17.1
  have N17 := Fr.app N14 N17q
  refine Go.tr (U' := T17.setTop (mkF m 53 #[.val (.long q0), .second, .val (.long q1), .second, .val (.ref b6), .val (.long v9), .second, .val (.long v11), .second, .val (.ref b12), .val (.long v15), .second, .unset, .unset, .unset, .unset, .unset, .unset, .unset, .unset, .unset] [(.ref b16)])) st17 ?_
  refine Go.st (U' := T17.setTop (mkF m 57 #[.val (.long q0), .second, .val (.long q1), .second, .val (.ref b6), .val (.long v9), .second, .val (.long v11), .second, .val (.ref b12), .val (.long v15), .second, .val (.ref b16), .unset, .unset, .unset, .unset, .unset, .unset, .unset, .unset] [(.ref b16)])) (fun t k => ?_) ?_
  · show Steps p.tables e below (T17.setTop (mkF m 53 #[.val (.long q0), .second, .val (.long q1), .second, .val (.ref b6), .val (.long v9), .second, .val (.long v11), .second, .val (.ref b12), .val (.long v15), .second, .unset, .unset, .unset, .unset, .unset, .unset, .unset, .unset, .unset] [(.ref b16)])) _
    refine XS.astore X17.here hx rfl (hb hby at_53) rfl rfl (l' := #[.val (.long q0), .second, .val (.long q1), .second, .val (.ref b6), .val (.long v9), .second, .val (.long v11), .second, .val (.ref b12), .val (.long v15), .second, .val (.ref b16), .unset, .unset, .unset, .unset, .unset, .unset, .unset, .unset]) rfl ?_
    show Steps p.tables e below (T17.setTop (mkF m 55 #[.val (.long q0), .second, .val (.long q1), .second, .val (.ref b6), .val (.long v9), .second, .val (.long v11), .second, .val (.ref b12), .val (.long v15), .second, .val (.ref b16), .unset, .unset, .unset, .unset, .unset, .unset, .unset, .unset] [])) _
    refine XS.aload X17.here hx rfl (hb hby at_55) rfl rfl ?_
    exact k
  obtain ⟨cq18, kq18, q18a, q18b, q18c⟩ := isOf hZ rfl P17_0
  obtain ⟨_, _, ⟨T18, L18, k18, n18⟩, -, X18, ⟨Lc18, hQ18, l18, y18, z18⟩, st18⟩ := X17.virtualBack hx (y := own_y1) (z := own_y1) hown (mvT hZ (own_w hw 11 rfl)) (mvT hZ (own_w hw 12 rfl)) (notFace_of_selects (args := #[]) (mvT hZ (own_w hw 14 rfl))) (mvT hZ (own_w hw 14 rfl)) (mvT hZ (own_w hw 13 rfl)) (by decide) (backOf (W := 0) (rm2 l Z a0 hw [] b16 q1 T17.heap n0 sz17 P17_0 P17_1 ge_b16) hZ (own_w hw 15 rfl) (own_w hw 2 rfl) (by decide) (by decide)) q18a q18c (g := (mkF m 57 #[.val (.long q0), .second, .val (.long q1), .second, .val (.ref b6), .val (.long v9), .second, .val (.long v11), .second, .val (.ref b12), .val (.long v15), .second, .val (.ref b16), .unset, .unset, .unset, .unset, .unset, .unset, .unset, .unset] [(.ref b16)])) rfl (by rw [hml]; rfl) (Steps.refl _) (argsL := []) (rest := []) (lenOf pd_1 rfl) rfl (by show 2 * 0 + _ ≤ _; exact Nat.le_of_eq rfl) (hb hby at_57) (fun _ _ => ⟨rfl, rfl, (by decide : 3 + 0 ≤ _), (by decide : 3 + 0 ≤ _)⟩)
  dsimp only [Pt.U, Pt.locs, Pt.cells, Pt.slots] at X18 l18 y18 z18 st18 hQ18
  subst l18 y18 z18
  obtain ⟨rfl, N18q, K18, P18_0, P18_1⟩ := hQ18
  have P10_0_18 := P10_0_17.keep K18
  have P10_1_18 := P10_1_17.keep K18 (ninS ne_b6_b16 nin0)
  have P14_0_18 := P14_0_17.keep K18
  have P14_1_18 := P14_1_17.keep K18 (ninS ne_b12_b16 nin0)
  have P17_0_18 := P17_0.keep K18
  have sz18 : n0 ≤ T18.heap.size := Nat.le_trans sz17 K18.1
  have N18 := Fr.app N17 N18q
  refine Go.tr (U' := T18.setTop (mkF m 60 #[.val (.long q0), .second, .val (.long q1), .second, .val (.ref b6), .val (.long v9), .second, .val (.long v11), .second, .val (.ref b12), .val (.long v15), .second, .val (.ref b16), .unset, .unset, .unset, .unset, .unset, .unset, .unset, .unset] [(.long (f2 q1))])) st18 ?_
  refine Go.st (U' := T18.setTop (mkF m 62 #[.val (.long q0), .second, .val (.long q1), .second, .val (.ref b6), .val (.long v9), .second, .val (.long v11), .second, .val (.ref b12), .val (.long v15), .second, .val (.ref b16), .val (.long (f2 q1)), .second, .unset, .unset, .unset, .unset, .unset, .unset] [])) (fun t k => ?_) ?_
  · show Steps p.tables e below (T18.setTop (mkF m 60 #[.val (.long q0), .second, .val (.long q1), .second, .val (.ref b6), .val (.long v9), .second, .val (.long v11), .second, .val (.ref b12), .val (.long v15), .second, .val (.ref b16), .unset, .unset, .unset, .unset, .unset, .unset, .unset, .unset] [(.long (f2 q1))])) _
    refine XS.lstore X18.here hx rfl (hb hby at_60) rfl (l' := #[.val (.long q0), .second, .val (.long q1), .second, .val (.ref b6), .val (.long v9), .second, .val (.long v11), .second, .val (.ref b12), .val (.long v15), .second, .val (.ref b16), .val (.long (f2 q1)), .second, .unset, .unset, .unset, .unset, .unset, .unset]) rfl ?_
    exact k
  generalize hv_v19 : (f2 q1) = v19
  obtain ⟨T20, h20, X20, e20, E20, A20, D20, -, st20⟩ := newO X18 hx hZ hown (own_w hw 0 rfl) (own_w hw 1 rfl) (own_w hw 2 rfl) rfl (g := (mkF m 62 #[.val (.long q0), .second, .val (.long q1), .second, .val (.ref b6), .val (.long v9), .second, .val (.long v11), .second, .val (.ref b12), .val (.long v15), .second, .val (.ref b16), .val (.long v19), .second, .unset, .unset, .unset, .unset, .unset, .unset] [])) rfl (hb hby at_62) (by decide) (by decide)
  obtain ⟨b20, g20⟩ : ∃ z, z = T18.heap.size := ⟨_, rfl⟩
  rw [← g20] at A20 D20 st20
  have ne_b6_b20 : b6 ≠ b20 := Nat.ne_of_lt (Nat.lt_of_lt_of_le P10_0_18.lt (Nat.le_of_eq g20.symm))
  have ne_b12_b20 : b12 ≠ b20 := Nat.ne_of_lt (Nat.lt_of_lt_of_le P14_0_18.lt (Nat.le_of_eq g20.symm))
  have ne_b16_b20 : b16 ≠ b20 := Nat.ne_of_lt (Nat.lt_of_lt_of_le P18_0.lt (Nat.le_of_eq g20.symm))
  have ge_b20 : n0 ≤ b20 := Nat.le_trans sz18 (Nat.le_of_eq g20.symm)
  have P10_0_20 := P10_0_18.ext E20
  have P10_1_20 := P10_1_18.ext E20
  have P14_0_20 := P14_0_18.ext E20
  have P14_1_20 := P14_1_18.ext E20
  have P18_0_20 := P18_0.ext E20
  have P18_1_20 := P18_1.ext E20
  have F_state_b20 : Fld Z h20 b20 "com/example/tidewright/tidewright/engine/SeededRandom" "state" "J" (.long (0 : Int64)) := D20 (Or.inl (own_w hw 10 rfl)) (ty := .long) (by decide)
  have sz20 : n0 ≤ h20.size := Nat.le_trans sz18 E20.1
  refine Go.st (U' := T20.setTop (mkF m 65 #[.val (.long q0), .second, .val (.long q1), .second, .val (.ref b6), .val (.long v9), .second, .val (.long v11), .second, .val (.ref b12), .val (.long v15), .second, .val (.ref b16), .val (.long v19), .second, .unset, .unset, .unset, .unset, .unset, .unset] [(.ref b20)])) (fun t k => st20 _ k) ?_
  refine Go.st (U' := T20.setTop (mkF m 67 #[.val (.long q0), .second, .val (.long q1), .second, .val (.ref b6), .val (.long v9), .second, .val (.long v11), .second, .val (.ref b12), .val (.long v15), .second, .val (.ref b16), .val (.long v19), .second, .unset, .unset, .unset, .unset, .unset, .unset] [(.long (0 : Int64)), (.ref b20), (.ref b20)])) (fun t k => ?_) ?_
  · show Steps p.tables e below (T20.setTop (mkF m 65 #[.val (.long q0), .second, .val (.long q1), .second, .val (.ref b6), .val (.long v9), .second, .val (.long v11), .second, .val (.ref b12), .val (.long v15), .second, .val (.ref b16), .val (.long v19), .second, .unset, .unset, .unset, .unset, .unset, .unset] [(.ref b20)])) _
    refine XS.dup X20.here hx rfl (hb hby at_65) rfl rfl ?_
    show Steps p.tables e below (T20.setTop (mkF m 66 #[.val (.long q0), .second, .val (.long q1), .second, .val (.ref b6), .val (.long v9), .second, .val (.long v11), .second, .val (.ref b12), .val (.long v15), .second, .val (.ref b16), .val (.long v19), .second, .unset, .unset, .unset, .unset, .unset, .unset] [(.ref b20), (.ref b20)])) _
    refine XS.lconst X20.here hx rfl (hb hby at_66) ?_
    exact k
  obtain ⟨_, _, ⟨T21, L21, k21, n21⟩, -, X21, ⟨Lc21, hQ21, l21, y21, z21⟩, st21⟩ := X20.specialBack hx (y := own_y0) rfl hown (mvT hZ (own_w hw 3 rfl)) (mvT hZ (own_w hw 4 rfl)) (mvT hZ (own_w hw 5 rfl)) (by decide) (backOf (W := 1) (rm1 l Z a0 hw [] b20 (0 : Int64) (0 : Int64) h20 n0 sz20 A20 F_state_b20 ge_b20) hZ (own_w hw 5 rfl) (own_w hw 2 rfl) (by decide) (by decide)) (g := (mkF m 67 #[.val (.long q0), .second, .val (.long q1), .second, .val (.ref b6), .val (.long v9), .second, .val (.long v11), .second, .val (.ref b12), .val (.long v15), .second, .val (.ref b16), .val (.long v19), .second, .unset, .unset, .unset, .unset, .unset, .unset] [(.long (0 : Int64)), (.ref b20), (.ref b20)])) rfl (by rw [hml]; rfl) (Steps.refl _) (a := b20) (argsL := [(.long (0 : Int64))]) (rest := [(.ref b20)]) (lenOf pd_0 rfl) rfl (by show 2 * 0 + _ ≤ _; exact Nat.le_of_eq rfl) (hb hby at_67) (fun _ _ => ⟨rfl, e20, (by decide : 4 + 0 ≤ _), (by decide : 4 + 0 ≤ _)⟩)
  dsimp only [Pt.U, Pt.locs, Pt.cells, Pt.slots] at X21 l21 y21 z21 st21 hQ21
  subst l21 y21 z21
  obtain ⟨rfl, N21q, K21, P21_0, P21_1⟩ := hQ21
  have P10_0_21 := P10_0_20.keep K21
  have P10_1_21 := P10_1_20.keep K21 (ninS ne_b6_b20 nin0)
  have P14_0_21 := P14_0_20.keep K21
  have P14_1_21 := P14_1_20.keep K21 (ninS ne_b12_b20 nin0)
  have P18_0_21 := P18_0_20.keep K21
  have P18_1_21 := P18_1_20.keep K21 (ninS ne_b16_b20 nin0)
  have Ex_b20_21 := A20.keep K21
  have sz21 : n0 ≤ T21.heap.size := Nat.le_trans sz20 K21.1
  have N21 := Fr.app N18 N21q
  refine Go.tr (U' := T21.setTop (mkF m 70 #[.val (.long q0), .second, .val (.long q1), .second, .val (.ref b6), .val (.long v9), .second, .val (.long v11), .second, .val (.ref b12), .val (.long v15), .second, .val (.ref b16), .val (.long v19), .second, .unset, .unset, .unset, .unset, .unset, .unset] [(.ref b20)])) st21 ?_
  refine Go.st (U' := T21.setTop (mkF m 74 #[.val (.long q0), .second, .val (.long q1), .second, .val (.ref b6), .val (.long v9), .second, .val (.long v11), .second, .val (.ref b12), .val (.long v15), .second, .val (.ref b16), .val (.long v19), .second, .val (.ref b20), .unset, .unset, .unset, .unset, .unset] [(.ref b20)])) (fun t k => ?_) ?_
  · show Steps p.tables e below (T21.setTop (mkF m 70 #[.val (.long q0), .second, .val (.long q1), .second, .val (.ref b6), .val (.long v9), .second, .val (.long v11), .second, .val (.ref b12), .val (.long v15), .second, .val (.ref b16), .val (.long v19), .second, .unset, .unset, .unset, .unset, .unset, .unset] [(.ref b20)])) _
    refine XS.astore X21.here hx rfl (hb hby at_70) rfl rfl (l' := #[.val (.long q0), .second, .val (.long q1), .second, .val (.ref b6), .val (.long v9), .second, .val (.long v11), .second, .val (.ref b12), .val (.long v15), .second, .val (.ref b16), .val (.long v19), .second, .val (.ref b20), .unset, .unset, .unset, .unset, .unset]) rfl ?_
    show Steps p.tables e below (T21.setTop (mkF m 72 #[.val (.long q0), .second, .val (.long q1), .second, .val (.ref b6), .val (.long v9), .second, .val (.long v11), .second, .val (.ref b12), .val (.long v15), .second, .val (.ref b16), .val (.long v19), .second, .val (.ref b20), .unset, .unset, .unset, .unset, .unset] [])) _
    refine XS.aload X21.here hx rfl (hb hby at_72) rfl rfl ?_
    exact k
  obtain ⟨cq22, kq22, q22a, q22b, q22c⟩ := isOf hZ rfl P21_0
  obtain ⟨_, _, ⟨T22, L22, k22, n22⟩, -, X22, ⟨Lc22, hQ22, l22, y22, z22⟩, st22⟩ := X21.virtualBack hx (y := own_y1) (z := own_y1) hown (mvT hZ (own_w hw 11 rfl)) (mvT hZ (own_w hw 12 rfl)) (notFace_of_selects (args := #[]) (mvT hZ (own_w hw 14 rfl))) (mvT hZ (own_w hw 14 rfl)) (mvT hZ (own_w hw 13 rfl)) (by decide) (backOf (W := 0) (rm2 l Z a0 hw [] b20 (0 : Int64) T21.heap n0 sz21 P21_0 P21_1 ge_b20) hZ (own_w hw 15 rfl) (own_w hw 2 rfl) (by decide) (by decide)) q22a q22c (g := (mkF m 74 #[.val (.long q0), .second, .val (.long q1), .second, .val (.ref b6), .val (.long v9), .second, .val (.long v11), .second, .val (.ref b12), .val (.long v15), .second, .val (.ref b16), .val (.long v19), .second, .val (.ref b20), .unset, .unset, .unset, .unset, .unset] [(.ref b20)])) rfl (by rw [hml]; rfl) (Steps.refl _) (argsL := []) (rest := []) (lenOf pd_1 rfl) rfl (by show 2 * 0 + _ ≤ _; exact Nat.le_of_eq rfl) (hb hby at_74) (fun _ _ => ⟨rfl, rfl, (by decide : 4 + 0 ≤ _), (by decide : 4 + 0 ≤ _)⟩)
  dsimp only [Pt.U, Pt.locs, Pt.cells, Pt.slots] at X22 l22 y22 z22 st22 hQ22
  subst l22 y22 z22
  obtain ⟨rfl, N22q, K22, P22_0, P22_1⟩ := hQ22
  have P10_0_22 := P10_0_21.keep K22
  have P10_1_22 := P10_1_21.keep K22 (ninS ne_b6_b20 nin0)
  have P14_0_22 := P14_0_21.keep K22
  have P14_1_22 := P14_1_21.keep K22 (ninS ne_b12_b20 nin0)
  have P18_0_22 := P18_0_21.keep K22
  have P18_1_22 := P18_1_21.keep K22 (ninS ne_b16_b20 nin0)
  have P21_0_22 := P21_0.keep K22
  have sz22 : n0 ≤ T22.heap.size := Nat.le_trans sz21 K22.1
  have N22 := Fr.app N21 N22q
  refine Go.tr (U' := T22.setTop (mkF m 77 #[.val (.long q0), .second, .val (.long q1), .second, .val (.ref b6), .val (.long v9), .second, .val (.long v11), .second, .val (.ref b12), .val (.long v15), .second, .val (.ref b16), .val (.long v19), .second, .val (.ref b20), .unset, .unset, .unset, .unset, .unset] [(.long (f2 (0 : Int64)))])) st22 ?_
  refine Go.st (U' := T22.setTop (mkF m 79 #[.val (.long q0), .second, .val (.long q1), .second, .val (.ref b6), .val (.long v9), .second, .val (.long v11), .second, .val (.ref b12), .val (.long v15), .second, .val (.ref b16), .val (.long v19), .second, .val (.ref b20), .val (.long (f2 (0 : Int64))), .second, .unset, .unset, .unset] [])) (fun t k => ?_) ?_
  · show Steps p.tables e below (T22.setTop (mkF m 77 #[.val (.long q0), .second, .val (.long q1), .second, .val (.ref b6), .val (.long v9), .second, .val (.long v11), .second, .val (.ref b12), .val (.long v15), .second, .val (.ref b16), .val (.long v19), .second, .val (.ref b20), .unset, .unset, .unset, .unset, .unset] [(.long (f2 (0 : Int64)))])) _
    refine XS.lstore X22.here hx rfl (hb hby at_77) rfl (l' := #[.val (.long q0), .second, .val (.long q1), .second, .val (.ref b6), .val (.long v9), .second, .val (.long v11), .second, .val (.ref b12), .val (.long v15), .second, .val (.ref b16), .val (.long v19), .second, .val (.ref b20), .val (.long (f2 (0 : Int64))), .second, .unset, .unset, .unset]) rfl ?_
    exact k
  generalize hv_v23 : (f2 (0 : Int64)) = v23
  refine Go.st (U' := T22.setTop (mkF m 84 #[.val (.long q0), .second, .val (.long q1), .second, .val (.ref b6), .val (.long v9), .second, .val (.long v11), .second, .val (.ref b12), .val (.long v15), .second, .val (.ref b16), .val (.long v19), .second, .val (.ref b20), .val (.long v23), .second, .unset, .unset, .unset] [(.int (lcmpW v11 v15))])) (fun t k => ?_) ?_
  · show Steps p.tables e below (T22.setTop (mkF m 79 #[.val (.long q0), .second, .val (.long q1), .second, .val (.ref b6), .val (.long v9), .second, .val (.long v11), .second, .val (.ref b12), .val (.long v15), .second, .val (.ref b16), .val (.long v19), .second, .val (.ref b20), .val (.long v23), .second, .unset, .unset, .unset] [])) _
    refine XS.lload X22.here hx rfl (hb hby at_79) rfl ?_
    show Steps p.tables e below (T22.setTop (mkF m 81 #[.val (.long q0), .second, .val (.long q1), .second, .val (.ref b6), .val (.long v9), .second, .val (.long v11), .second, .val (.ref b12), .val (.long v15), .second, .val (.ref b16), .val (.long v19), .second, .val (.ref b20), .val (.long v23), .second, .unset, .unset, .unset] [(.long v11)])) _
    refine XS.lload X22.here hx rfl (hb hby at_81) rfl ?_
    show Steps p.tables e below (T22.setTop (mkF m 83 #[.val (.long q0), .second, .val (.long q1), .second, .val (.ref b6), .val (.long v9), .second, .val (.long v11), .second, .val (.ref b12), .val (.long v15), .second, .val (.ref b16), .val (.long v19), .second, .val (.ref b20), .val (.long v23), .second, .unset, .unset, .unset] [(.long v15), (.long v11)])) _
    refine XS.lcmp X22.here hx rfl (hb hby at_83) rfl ?_
    exact k
  refine Go.join (P := fun (v25 : Int32) => v25 = (if v11 = v15 then (1 : Int32) else (0 : Int32))) (F := fun (v25 : Int32) => T22.setTop (mkF m 92 #[.val (.long q0), .second, .val (.long q1), .second, .val (.ref b6), .val (.long v9), .second, .val (.long v11), .second, .val (.ref b12), .val (.long v15), .second, .val (.ref b16), .val (.long v19), .second, .val (.ref b20), .val (.long v23), .second, .unset, .unset, .unset] [(.int v25)])) (fun J26 => ?_) (fun v25 hv_v25 => ?_)
  · by_cases hc24 : v11 = v15
    · refine Go.st (U' := T22.setTop (mkF m 92 #[.val (.long q0), .second, .val (.long q1), .second, .val (.ref b6), .val (.long v9), .second, .val (.long v11), .second, .val (.ref b12), .val (.long v15), .second, .val (.ref b16), .val (.long v19), .second, .val (.ref b20), .val (.long v23), .second, .unset, .unset, .unset] [(.int (1 : Int32))])) (fun t k => ?_) ?_
      · show Steps p.tables e below (T22.setTop (mkF m 84 #[.val (.long q0), .second, .val (.long q1), .second, .val (.ref b6), .val (.long v9), .second, .val (.long v11), .second, .val (.ref b12), .val (.long v15), .second, .val (.ref b16), .val (.long v19), .second, .val (.ref b20), .val (.long v23), .second, .unset, .unset, .unset] [(.int (lcmpW v11 v15))])) _
        refine XS.ifNo X22.here hx rfl (hb hby at_84) rfl ((if0 _ _).trans (teq ((lw_eq _ _).mpr hc24)).2) ?_
        show Steps p.tables e below (T22.setTop (mkF m 87 #[.val (.long q0), .second, .val (.long q1), .second, .val (.ref b6), .val (.long v9), .second, .val (.long v11), .second, .val (.ref b12), .val (.long v15), .second, .val (.ref b16), .val (.long v19), .second, .val (.ref b20), .val (.long v23), .second, .unset, .unset, .unset] [])) _
        refine XS.iconst X22.here hx rfl (hb hby at_87) ?_
        show Steps p.tables e below (T22.setTop (mkF m 88 #[.val (.long q0), .second, .val (.long q1), .second, .val (.ref b6), .val (.long v9), .second, .val (.long v11), .second, .val (.ref b12), .val (.long v15), .second, .val (.ref b16), .val (.long v19), .second, .val (.ref b20), .val (.long v23), .second, .unset, .unset, .unset] [(.int (1 : Int32))])) _
        refine XS.goto X22.here hx rfl (pc0 := 88) (pc' := 92) rfl (hb hby at_88) (by decide) (by decide) ?_
        exact k
      exact J26 _ (by first | rfl | simp only [if_pos hc24])
    · refine Go.st (U' := T22.setTop (mkF m 92 #[.val (.long q0), .second, .val (.long q1), .second, .val (.ref b6), .val (.long v9), .second, .val (.long v11), .second, .val (.ref b12), .val (.long v15), .second, .val (.ref b16), .val (.long v19), .second, .val (.ref b20), .val (.long v23), .second, .unset, .unset, .unset] [(.int (0 : Int32))])) (fun t k => ?_) ?_
      · show Steps p.tables e below (T22.setTop (mkF m 84 #[.val (.long q0), .second, .val (.long q1), .second, .val (.ref b6), .val (.long v9), .second, .val (.long v11), .second, .val (.ref b12), .val (.long v15), .second, .val (.ref b16), .val (.long v19), .second, .val (.ref b20), .val (.long v23), .second, .unset, .unset, .unset] [(.int (lcmpW v11 v15))])) _
        refine XS.ifYes X22.here hx rfl (pc0 := 84) (pc' := 91) rfl (hb hby at_84) rfl ((if0 _ _).trans (feq (fun q => hc24 ((lw_eq _ _).mp q))).2) (by decide) (by decide) ?_
        show Steps p.tables e below (T22.setTop (mkF m 91 #[.val (.long q0), .second, .val (.long q1), .second, .val (.ref b6), .val (.long v9), .second, .val (.long v11), .second, .val (.ref b12), .val (.long v15), .second, .val (.ref b16), .val (.long v19), .second, .val (.ref b20), .val (.long v23), .second, .unset, .unset, .unset] [])) _
        refine XS.iconst X22.here hx rfl (hb hby at_91) ?_
        exact k
      exact J26 _ (by first | rfl | simp only [if_neg hc24])
  refine Go.st (U' := T22.setTop (mkF m 97 #[.val (.long q0), .second, .val (.long q1), .second, .val (.ref b6), .val (.long v9), .second, .val (.long v11), .second, .val (.ref b12), .val (.long v15), .second, .val (.ref b16), .val (.long v19), .second, .val (.ref b20), .val (.long v23), .second, .val (.int v25), .unset, .unset] [(.int (lcmpW q0 q1))])) (fun t k => ?_) ?_
  · show Steps p.tables e below (T22.setTop (mkF m 92 #[.val (.long q0), .second, .val (.long q1), .second, .val (.ref b6), .val (.long v9), .second, .val (.long v11), .second, .val (.ref b12), .val (.long v15), .second, .val (.ref b16), .val (.long v19), .second, .val (.ref b20), .val (.long v23), .second, .unset, .unset, .unset] [(.int v25)])) _
    refine XS.istore X22.here hx rfl (hb hby at_92) rfl (l' := #[.val (.long q0), .second, .val (.long q1), .second, .val (.ref b6), .val (.long v9), .second, .val (.long v11), .second, .val (.ref b12), .val (.long v15), .second, .val (.ref b16), .val (.long v19), .second, .val (.ref b20), .val (.long v23), .second, .val (.int v25), .unset, .unset]) rfl ?_
    show Steps p.tables e below (T22.setTop (mkF m 94 #[.val (.long q0), .second, .val (.long q1), .second, .val (.ref b6), .val (.long v9), .second, .val (.long v11), .second, .val (.ref b12), .val (.long v15), .second, .val (.ref b16), .val (.long v19), .second, .val (.ref b20), .val (.long v23), .second, .val (.int v25), .unset, .unset] [])) _
    refine XS.lloadN X22.here hx rfl (hb hby at_94) rfl ?_
    show Steps p.tables e below (T22.setTop (mkF m 95 #[.val (.long q0), .second, .val (.long q1), .second, .val (.ref b6), .val (.long v9), .second, .val (.long v11), .second, .val (.ref b12), .val (.long v15), .second, .val (.ref b16), .val (.long v19), .second, .val (.ref b20), .val (.long v23), .second, .val (.int v25), .unset, .unset] [(.long q0)])) _
    refine XS.lloadN X22.here hx rfl (hb hby at_95) rfl ?_
    show Steps p.tables e below (T22.setTop (mkF m 96 #[.val (.long q0), .second, .val (.long q1), .second, .val (.ref b6), .val (.long v9), .second, .val (.long v11), .second, .val (.ref b12), .val (.long v15), .second, .val (.ref b16), .val (.long v19), .second, .val (.ref b20), .val (.long v23), .second, .val (.int v25), .unset, .unset] [(.long q1), (.long q0)])) _
    refine XS.lcmp X22.here hx rfl (hb hby at_96) rfl ?_
    exact k
  refine Go.join (P := fun (v28 : Int32) => v28 = (if q0 = q1 then (1 : Int32) else (0 : Int32))) (F := fun (v28 : Int32) => T22.setTop (mkF m 105 #[.val (.long q0), .second, .val (.long q1), .second, .val (.ref b6), .val (.long v9), .second, .val (.long v11), .second, .val (.ref b12), .val (.long v15), .second, .val (.ref b16), .val (.long v19), .second, .val (.ref b20), .val (.long v23), .second, .val (.int v25), .unset, .unset] [(.int v28)])) (fun J29 => ?_) (fun v28 hv_v28 => ?_)
  · by_cases hc27 : q0 = q1
    · refine Go.st (U' := T22.setTop (mkF m 105 #[.val (.long q0), .second, .val (.long q1), .second, .val (.ref b6), .val (.long v9), .second, .val (.long v11), .second, .val (.ref b12), .val (.long v15), .second, .val (.ref b16), .val (.long v19), .second, .val (.ref b20), .val (.long v23), .second, .val (.int v25), .unset, .unset] [(.int (1 : Int32))])) (fun t k => ?_) ?_
      · show Steps p.tables e below (T22.setTop (mkF m 97 #[.val (.long q0), .second, .val (.long q1), .second, .val (.ref b6), .val (.long v9), .second, .val (.long v11), .second, .val (.ref b12), .val (.long v15), .second, .val (.ref b16), .val (.long v19), .second, .val (.ref b20), .val (.long v23), .second, .val (.int v25), .unset, .unset] [(.int (lcmpW q0 q1))])) _
        refine XS.ifNo X22.here hx rfl (hb hby at_97) rfl ((if0 _ _).trans (teq ((lw_eq _ _).mpr hc27)).2) ?_
        show Steps p.tables e below (T22.setTop (mkF m 100 #[.val (.long q0), .second, .val (.long q1), .second, .val (.ref b6), .val (.long v9), .second, .val (.long v11), .second, .val (.ref b12), .val (.long v15), .second, .val (.ref b16), .val (.long v19), .second, .val (.ref b20), .val (.long v23), .second, .val (.int v25), .unset, .unset] [])) _
        refine XS.iconst X22.here hx rfl (hb hby at_100) ?_
        show Steps p.tables e below (T22.setTop (mkF m 101 #[.val (.long q0), .second, .val (.long q1), .second, .val (.ref b6), .val (.long v9), .second, .val (.long v11), .second, .val (.ref b12), .val (.long v15), .second, .val (.ref b16), .val (.long v19), .second, .val (.ref b20), .val (.long v23), .second, .val (.int v25), .unset, .unset] [(.int (1 : Int32))])) _
        refine XS.goto X22.here hx rfl (pc0 := 101) (pc' := 105) rfl (hb hby at_101) (by decide) (by decide) ?_
        exact k
      exact J29 _ (by first | rfl | simp only [if_pos hc27])
    · refine Go.st (U' := T22.setTop (mkF m 105 #[.val (.long q0), .second, .val (.long q1), .second, .val (.ref b6), .val (.long v9), .second, .val (.long v11), .second, .val (.ref b12), .val (.long v15), .second, .val (.ref b16), .val (.long v19), .second, .val (.ref b20), .val (.long v23), .second, .val (.int v25), .unset, .unset] [(.int (0 : Int32))])) (fun t k => ?_) ?_
      · show Steps p.tables e below (T22.setTop (mkF m 97 #[.val (.long q0), .second, .val (.long q1), .second, .val (.ref b6), .val (.long v9), .second, .val (.long v11), .second, .val (.ref b12), .val (.long v15), .second, .val (.ref b16), .val (.long v19), .second, .val (.ref b20), .val (.long v23), .second, .val (.int v25), .unset, .unset] [(.int (lcmpW q0 q1))])) _
        refine XS.ifYes X22.here hx rfl (pc0 := 97) (pc' := 104) rfl (hb hby at_97) rfl ((if0 _ _).trans (feq (fun q => hc27 ((lw_eq _ _).mp q))).2) (by decide) (by decide) ?_
        show Steps p.tables e below (T22.setTop (mkF m 104 #[.val (.long q0), .second, .val (.long q1), .second, .val (.ref b6), .val (.long v9), .second, .val (.long v11), .second, .val (.ref b12), .val (.long v15), .second, .val (.ref b16), .val (.long v19), .second, .val (.ref b20), .val (.long v23), .second, .val (.int v25), .unset, .unset] [])) _
        refine XS.iconst X22.here hx rfl (hb hby at_104) ?_
        exact k
      exact J29 _ (by first | rfl | simp only [if_neg hc27])
  refine Go.st (U' := T22.setTop (mkF m 110 #[.val (.long q0), .second, .val (.long q1), .second, .val (.ref b6), .val (.long v9), .second, .val (.long v11), .second, .val (.ref b12), .val (.long v15), .second, .val (.ref b16), .val (.long v19), .second, .val (.ref b20), .val (.long v23), .second, .val (.int v25), .unset, .unset] [(.int (lcmpW v9 v19)), (.int v28)])) (fun t k => ?_) ?_
  · show Steps p.tables e below (T22.setTop (mkF m 105 #[.val (.long q0), .second, .val (.long q1), .second, .val (.ref b6), .val (.long v9), .second, .val (.long v11), .second, .val (.ref b12), .val (.long v15), .second, .val (.ref b16), .val (.long v19), .second, .val (.ref b20), .val (.long v23), .second, .val (.int v25), .unset, .unset] [(.int v28)])) _
    refine XS.lload X22.here hx rfl (hb hby at_105) rfl ?_
    show Steps p.tables e below (T22.setTop (mkF m 107 #[.val (.long q0), .second, .val (.long q1), .second, .val (.ref b6), .val (.long v9), .second, .val (.long v11), .second, .val (.ref b12), .val (.long v15), .second, .val (.ref b16), .val (.long v19), .second, .val (.ref b20), .val (.long v23), .second, .val (.int v25), .unset, .unset] [(.long v9), (.int v28)])) _
    refine XS.lload X22.here hx rfl (hb hby at_107) rfl ?_
    show Steps p.tables e below (T22.setTop (mkF m 109 #[.val (.long q0), .second, .val (.long q1), .second, .val (.ref b6), .val (.long v9), .second, .val (.long v11), .second, .val (.ref b12), .val (.long v15), .second, .val (.ref b16), .val (.long v19), .second, .val (.ref b20), .val (.long v23), .second, .val (.int v25), .unset, .unset] [(.long v19), (.long v9), (.int v28)])) _
    refine XS.lcmp X22.here hx rfl (hb hby at_109) rfl ?_
    exact k
  refine Go.join (P := fun (v31 : Int32) => v31 = (if v9 = v19 then (1 : Int32) else (0 : Int32))) (F := fun (v31 : Int32) => T22.setTop (mkF m 118 #[.val (.long q0), .second, .val (.long q1), .second, .val (.ref b6), .val (.long v9), .second, .val (.long v11), .second, .val (.ref b12), .val (.long v15), .second, .val (.ref b16), .val (.long v19), .second, .val (.ref b20), .val (.long v23), .second, .val (.int v25), .unset, .unset] [(.int v31), (.int v28)])) (fun J32 => ?_) (fun v31 hv_v31 => ?_)
  · by_cases hc30 : v9 = v19
    · refine Go.st (U' := T22.setTop (mkF m 118 #[.val (.long q0), .second, .val (.long q1), .second, .val (.ref b6), .val (.long v9), .second, .val (.long v11), .second, .val (.ref b12), .val (.long v15), .second, .val (.ref b16), .val (.long v19), .second, .val (.ref b20), .val (.long v23), .second, .val (.int v25), .unset, .unset] [(.int (1 : Int32)), (.int v28)])) (fun t k => ?_) ?_
      · show Steps p.tables e below (T22.setTop (mkF m 110 #[.val (.long q0), .second, .val (.long q1), .second, .val (.ref b6), .val (.long v9), .second, .val (.long v11), .second, .val (.ref b12), .val (.long v15), .second, .val (.ref b16), .val (.long v19), .second, .val (.ref b20), .val (.long v23), .second, .val (.int v25), .unset, .unset] [(.int (lcmpW v9 v19)), (.int v28)])) _
        refine XS.ifNo X22.here hx rfl (hb hby at_110) rfl ((if0 _ _).trans (teq ((lw_eq _ _).mpr hc30)).2) ?_
        show Steps p.tables e below (T22.setTop (mkF m 113 #[.val (.long q0), .second, .val (.long q1), .second, .val (.ref b6), .val (.long v9), .second, .val (.long v11), .second, .val (.ref b12), .val (.long v15), .second, .val (.ref b16), .val (.long v19), .second, .val (.ref b20), .val (.long v23), .second, .val (.int v25), .unset, .unset] [(.int v28)])) _
        refine XS.iconst X22.here hx rfl (hb hby at_113) ?_
        show Steps p.tables e below (T22.setTop (mkF m 114 #[.val (.long q0), .second, .val (.long q1), .second, .val (.ref b6), .val (.long v9), .second, .val (.long v11), .second, .val (.ref b12), .val (.long v15), .second, .val (.ref b16), .val (.long v19), .second, .val (.ref b20), .val (.long v23), .second, .val (.int v25), .unset, .unset] [(.int (1 : Int32)), (.int v28)])) _
        refine XS.goto X22.here hx rfl (pc0 := 114) (pc' := 118) rfl (hb hby at_114) (by decide) (by decide) ?_
        exact k
      exact J32 _ (by first | rfl | simp only [if_pos hc30])
    · refine Go.st (U' := T22.setTop (mkF m 118 #[.val (.long q0), .second, .val (.long q1), .second, .val (.ref b6), .val (.long v9), .second, .val (.long v11), .second, .val (.ref b12), .val (.long v15), .second, .val (.ref b16), .val (.long v19), .second, .val (.ref b20), .val (.long v23), .second, .val (.int v25), .unset, .unset] [(.int (0 : Int32)), (.int v28)])) (fun t k => ?_) ?_
      · show Steps p.tables e below (T22.setTop (mkF m 110 #[.val (.long q0), .second, .val (.long q1), .second, .val (.ref b6), .val (.long v9), .second, .val (.long v11), .second, .val (.ref b12), .val (.long v15), .second, .val (.ref b16), .val (.long v19), .second, .val (.ref b20), .val (.long v23), .second, .val (.int v25), .unset, .unset] [(.int (lcmpW v9 v19)), (.int v28)])) _
        refine XS.ifYes X22.here hx rfl (pc0 := 110) (pc' := 117) rfl (hb hby at_110) rfl ((if0 _ _).trans (feq (fun q => hc30 ((lw_eq _ _).mp q))).2) (by decide) (by decide) ?_
        show Steps p.tables e below (T22.setTop (mkF m 117 #[.val (.long q0), .second, .val (.long q1), .second, .val (.ref b6), .val (.long v9), .second, .val (.long v11), .second, .val (.ref b12), .val (.long v15), .second, .val (.ref b16), .val (.long v19), .second, .val (.ref b20), .val (.long v23), .second, .val (.int v25), .unset, .unset] [(.int v28)])) _
        refine XS.iconst X22.here hx rfl (hb hby at_117) ?_
        exact k
      exact J32 _ (by first | rfl | simp only [if_neg hc30])
  refine Go.join (P := fun (v34 : Int32) => v34 = (if v28 = v31 then (1 : Int32) else (0 : Int32))) (F := fun (v34 : Int32) => T22.setTop (mkF m 126 #[.val (.long q0), .second, .val (.long q1), .second, .val (.ref b6), .val (.long v9), .second, .val (.long v11), .second, .val (.ref b12), .val (.long v15), .second, .val (.ref b16), .val (.long v19), .second, .val (.ref b20), .val (.long v23), .second, .val (.int v25), .unset, .unset] [(.int v34)])) (fun J35 => ?_) (fun v34 hv_v34 => ?_)
  · by_cases hc33 : v28 = v31
    · refine Go.st (U' := T22.setTop (mkF m 126 #[.val (.long q0), .second, .val (.long q1), .second, .val (.ref b6), .val (.long v9), .second, .val (.long v11), .second, .val (.ref b12), .val (.long v15), .second, .val (.ref b16), .val (.long v19), .second, .val (.ref b20), .val (.long v23), .second, .val (.int v25), .unset, .unset] [(.int (1 : Int32))])) (fun t k => ?_) ?_
      · show Steps p.tables e below (T22.setTop (mkF m 118 #[.val (.long q0), .second, .val (.long q1), .second, .val (.ref b6), .val (.long v9), .second, .val (.long v11), .second, .val (.ref b12), .val (.long v15), .second, .val (.ref b16), .val (.long v19), .second, .val (.ref b20), .val (.long v23), .second, .val (.int v25), .unset, .unset] [(.int v31), (.int v28)])) _
        refine XS.icmpNo X22.here hx rfl (hb hby at_118) rfl (teq hc33).2 ?_
        show Steps p.tables e below (T22.setTop (mkF m 121 #[.val (.long q0), .second, .val (.long q1), .second, .val (.ref b6), .val (.long v9), .second, .val (.long v11), .second, .val (.ref b12), .val (.long v15), .second, .val (.ref b16), .val (.long v19), .second, .val (.ref b20), .val (.long v23), .second, .val (.int v25), .unset, .unset] [])) _
        refine XS.iconst X22.here hx rfl (hb hby at_121) ?_
        show Steps p.tables e below (T22.setTop (mkF m 122 #[.val (.long q0), .second, .val (.long q1), .second, .val (.ref b6), .val (.long v9), .second, .val (.long v11), .second, .val (.ref b12), .val (.long v15), .second, .val (.ref b16), .val (.long v19), .second, .val (.ref b20), .val (.long v23), .second, .val (.int v25), .unset, .unset] [(.int (1 : Int32))])) _
        refine XS.goto X22.here hx rfl (pc0 := 122) (pc' := 126) rfl (hb hby at_122) (by decide) (by decide) ?_
        exact k
      exact J35 _ (by first | rfl | simp only [if_pos hc33])
    · refine Go.st (U' := T22.setTop (mkF m 126 #[.val (.long q0), .second, .val (.long q1), .second, .val (.ref b6), .val (.long v9), .second, .val (.long v11), .second, .val (.ref b12), .val (.long v15), .second, .val (.ref b16), .val (.long v19), .second, .val (.ref b20), .val (.long v23), .second, .val (.int v25), .unset, .unset] [(.int (0 : Int32))])) (fun t k => ?_) ?_
      · show Steps p.tables e below (T22.setTop (mkF m 118 #[.val (.long q0), .second, .val (.long q1), .second, .val (.ref b6), .val (.long v9), .second, .val (.long v11), .second, .val (.ref b12), .val (.long v15), .second, .val (.ref b16), .val (.long v19), .second, .val (.ref b20), .val (.long v23), .second, .val (.int v25), .unset, .unset] [(.int v31), (.int v28)])) _
        refine XS.icmpYes X22.here hx rfl (pc0 := 118) (pc' := 125) rfl (hb hby at_118) rfl (feq hc33).2 (by decide) (by decide) ?_
        show Steps p.tables e below (T22.setTop (mkF m 125 #[.val (.long q0), .second, .val (.long q1), .second, .val (.ref b6), .val (.long v9), .second, .val (.long v11), .second, .val (.ref b12), .val (.long v15), .second, .val (.ref b16), .val (.long v19), .second, .val (.ref b20), .val (.long v23), .second, .val (.int v25), .unset, .unset] [])) _
        refine XS.iconst X22.here hx rfl (hb hby at_125) ?_
        exact k
      exact J35 _ (by first | rfl | simp only [if_neg hc33])
  refine Go.st (U' := T22.setTop (mkF m 134 #[.val (.long q0), .second, .val (.long q1), .second, .val (.ref b6), .val (.long v9), .second, .val (.long v11), .second, .val (.ref b12), .val (.long v15), .second, .val (.ref b16), .val (.long v19), .second, .val (.ref b20), .val (.long v23), .second, .val (.int v25), .val (.int v34), .unset] [(.int (lcmpW v23 (-2152535657050944081 : Int64)))])) (fun t k => ?_) ?_
  · show Steps p.tables e below (T22.setTop (mkF m 126 #[.val (.long q0), .second, .val (.long q1), .second, .val (.ref b6), .val (.long v9), .second, .val (.long v11), .second, .val (.ref b12), .val (.long v15), .second, .val (.ref b16), .val (.long v19), .second, .val (.ref b20), .val (.long v23), .second, .val (.int v25), .unset, .unset] [(.int v34)])) _
    refine XS.istore X22.here hx rfl (hb hby at_126) rfl (l' := #[.val (.long q0), .second, .val (.long q1), .second, .val (.ref b6), .val (.long v9), .second, .val (.long v11), .second, .val (.ref b12), .val (.long v15), .second, .val (.ref b16), .val (.long v19), .second, .val (.ref b20), .val (.long v23), .second, .val (.int v25), .val (.int v34), .unset]) rfl ?_
    show Steps p.tables e below (T22.setTop (mkF m 128 #[.val (.long q0), .second, .val (.long q1), .second, .val (.ref b6), .val (.long v9), .second, .val (.long v11), .second, .val (.ref b12), .val (.long v15), .second, .val (.ref b16), .val (.long v19), .second, .val (.ref b20), .val (.long v23), .second, .val (.int v25), .val (.int v34), .unset] [])) _
    refine XS.lload X22.here hx rfl (hb hby at_128) rfl ?_
    show Steps p.tables e below (T22.setTop (mkF m 130 #[.val (.long q0), .second, .val (.long q1), .second, .val (.ref b6), .val (.long v9), .second, .val (.long v11), .second, .val (.ref b12), .val (.long v15), .second, .val (.ref b16), .val (.long v19), .second, .val (.ref b20), .val (.long v23), .second, .val (.int v25), .val (.int v34), .unset] [(.long v23)])) _
    refine X22.ldc2Long hx hown (mvT hZ (own_w hw 20 rfl)) (g := (mkF m 130 #[.val (.long q0), .second, .val (.long q1), .second, .val (.ref b6), .val (.long v9), .second, .val (.long v11), .second, .val (.ref b12), .val (.long v15), .second, .val (.ref b16), .val (.long v19), .second, .val (.ref b20), .val (.long v23), .second, .val (.int v25), .val (.int v34), .unset] [(.long v23)])) rfl (hb hby at_130) _ ?_
    show Steps p.tables e below (T22.setTop (mkF m 133 #[.val (.long q0), .second, .val (.long q1), .second, .val (.ref b6), .val (.long v9), .second, .val (.long v11), .second, .val (.ref b12), .val (.long v15), .second, .val (.ref b16), .val (.long v19), .second, .val (.ref b20), .val (.long v23), .second, .val (.int v25), .val (.int v34), .unset] [(.long (-2152535657050944081 : Int64)), (.long v23)])) _
    refine XS.lcmp X22.here hx rfl (hb hby at_133) rfl ?_
    exact k
  refine Go.join (P := fun (v37 : Int32) => v37 = (if v23 = (-2152535657050944081 : Int64) then (1 : Int32) else (0 : Int32))) (F := fun (v37 : Int32) => T22.setTop (mkF m 142 #[.val (.long q0), .second, .val (.long q1), .second, .val (.ref b6), .val (.long v9), .second, .val (.long v11), .second, .val (.ref b12), .val (.long v15), .second, .val (.ref b16), .val (.long v19), .second, .val (.ref b20), .val (.long v23), .second, .val (.int v25), .val (.int v34), .unset] [(.int v37)])) (fun J38 => ?_) (fun v37 hv_v37 => ?_)
  · by_cases hc36 : v23 = (-2152535657050944081 : Int64)
    · refine Go.st (U' := T22.setTop (mkF m 142 #[.val (.long q0), .second, .val (.long q1), .second, .val (.ref b6), .val (.long v9), .second, .val (.long v11), .second, .val (.ref b12), .val (.long v15), .second, .val (.ref b16), .val (.long v19), .second, .val (.ref b20), .val (.long v23), .second, .val (.int v25), .val (.int v34), .unset] [(.int (1 : Int32))])) (fun t k => ?_) ?_
      · show Steps p.tables e below (T22.setTop (mkF m 134 #[.val (.long q0), .second, .val (.long q1), .second, .val (.ref b6), .val (.long v9), .second, .val (.long v11), .second, .val (.ref b12), .val (.long v15), .second, .val (.ref b16), .val (.long v19), .second, .val (.ref b20), .val (.long v23), .second, .val (.int v25), .val (.int v34), .unset] [(.int (lcmpW v23 (-2152535657050944081 : Int64)))])) _
        refine XS.ifNo X22.here hx rfl (hb hby at_134) rfl ((if0 _ _).trans (teq ((lw_eq _ _).mpr hc36)).2) ?_
        show Steps p.tables e below (T22.setTop (mkF m 137 #[.val (.long q0), .second, .val (.long q1), .second, .val (.ref b6), .val (.long v9), .second, .val (.long v11), .second, .val (.ref b12), .val (.long v15), .second, .val (.ref b16), .val (.long v19), .second, .val (.ref b20), .val (.long v23), .second, .val (.int v25), .val (.int v34), .unset] [])) _
        refine XS.iconst X22.here hx rfl (hb hby at_137) ?_
        show Steps p.tables e below (T22.setTop (mkF m 138 #[.val (.long q0), .second, .val (.long q1), .second, .val (.ref b6), .val (.long v9), .second, .val (.long v11), .second, .val (.ref b12), .val (.long v15), .second, .val (.ref b16), .val (.long v19), .second, .val (.ref b20), .val (.long v23), .second, .val (.int v25), .val (.int v34), .unset] [(.int (1 : Int32))])) _
        refine XS.goto X22.here hx rfl (pc0 := 138) (pc' := 142) rfl (hb hby at_138) (by decide) (by decide) ?_
        exact k
      exact J38 _ (by first | rfl | simp only [if_pos hc36])
    · refine Go.st (U' := T22.setTop (mkF m 142 #[.val (.long q0), .second, .val (.long q1), .second, .val (.ref b6), .val (.long v9), .second, .val (.long v11), .second, .val (.ref b12), .val (.long v15), .second, .val (.ref b16), .val (.long v19), .second, .val (.ref b20), .val (.long v23), .second, .val (.int v25), .val (.int v34), .unset] [(.int (0 : Int32))])) (fun t k => ?_) ?_
      · show Steps p.tables e below (T22.setTop (mkF m 134 #[.val (.long q0), .second, .val (.long q1), .second, .val (.ref b6), .val (.long v9), .second, .val (.long v11), .second, .val (.ref b12), .val (.long v15), .second, .val (.ref b16), .val (.long v19), .second, .val (.ref b20), .val (.long v23), .second, .val (.int v25), .val (.int v34), .unset] [(.int (lcmpW v23 (-2152535657050944081 : Int64)))])) _
        refine XS.ifYes X22.here hx rfl (pc0 := 134) (pc' := 141) rfl (hb hby at_134) rfl ((if0 _ _).trans (feq (fun q => hc36 ((lw_eq _ _).mp q))).2) (by decide) (by decide) ?_
        show Steps p.tables e below (T22.setTop (mkF m 141 #[.val (.long q0), .second, .val (.long q1), .second, .val (.ref b6), .val (.long v9), .second, .val (.long v11), .second, .val (.ref b12), .val (.long v15), .second, .val (.ref b16), .val (.long v19), .second, .val (.ref b20), .val (.long v23), .second, .val (.int v25), .val (.int v34), .unset] [])) _
        refine XS.iconst X22.here hx rfl (hb hby at_141) ?_
        exact k
      exact J38 _ (by first | rfl | simp only [if_neg hc36])
  refine Go.st (U' := T22.setTop (mkF m 164 #[.val (.long q0), .second, .val (.long q1), .second, .val (.ref b6), .val (.long v9), .second, .val (.long v11), .second, .val (.ref b12), .val (.long v15), .second, .val (.ref b16), .val (.long v19), .second, .val (.ref b20), .val (.long v23), .second, .val (.int v25), .val (.int v34), .val (.int v37)] [(.int (1 : Int32))])) (fun t k => ?_) ?_
  · show Steps p.tables e below (T22.setTop (mkF m 142 #[.val (.long q0), .second, .val (.long q1), .second, .val (.ref b6), .val (.long v9), .second, .val (.long v11), .second, .val (.ref b12), .val (.long v15), .second, .val (.ref b16), .val (.long v19), .second, .val (.ref b20), .val (.long v23), .second, .val (.int v25), .val (.int v34), .unset] [(.int v37)])) _
    refine XS.istore X22.here hx rfl (hb hby at_142) rfl (l' := #[.val (.long q0), .second, .val (.long q1), .second, .val (.ref b6), .val (.long v9), .second, .val (.long v11), .second, .val (.ref b12), .val (.long v15), .second, .val (.ref b16), .val (.long v19), .second, .val (.ref b20), .val (.long v23), .second, .val (.int v25), .val (.int v34), .val (.int v37)]) rfl ?_
    show Steps p.tables e below (T22.setTop (mkF m 144 #[.val (.long q0), .second, .val (.long q1), .second, .val (.ref b6), .val (.long v9), .second, .val (.long v11), .second, .val (.ref b12), .val (.long v15), .second, .val (.ref b16), .val (.long v19), .second, .val (.ref b20), .val (.long v23), .second, .val (.int v25), .val (.int v34), .val (.int v37)] [])) _
    refine XS.iload X22.here hx rfl (hb hby at_144) rfl ?_
    show Steps p.tables e below (T22.setTop (mkF m 146 #[.val (.long q0), .second, .val (.long q1), .second, .val (.ref b6), .val (.long v9), .second, .val (.long v11), .second, .val (.ref b12), .val (.long v15), .second, .val (.ref b16), .val (.long v19), .second, .val (.ref b20), .val (.long v23), .second, .val (.int v25), .val (.int v34), .val (.int v37)] [(.int v25)])) _
    refine XS.ifNo X22.here hx rfl (hb hby at_146) rfl ((if0 _ _).trans (feq ((by subst hv_v11 hv_v15 hv_v25; rw [if_pos rfl]; decide) : ¬ (v25 = (0 : Int32)))).1) ?_
    show Steps p.tables e below (T22.setTop (mkF m 149 #[.val (.long q0), .second, .val (.long q1), .second, .val (.ref b6), .val (.long v9), .second, .val (.long v11), .second, .val (.ref b12), .val (.long v15), .second, .val (.ref b16), .val (.long v19), .second, .val (.ref b20), .val (.long v23), .second, .val (.int v25), .val (.int v34), .val (.int v37)] [])) _
    refine XS.iload X22.here hx rfl (hb hby at_149) rfl ?_
    show Steps p.tables e below (T22.setTop (mkF m 151 #[.val (.long q0), .second, .val (.long q1), .second, .val (.ref b6), .val (.long v9), .second, .val (.long v11), .second, .val (.ref b12), .val (.long v15), .second, .val (.ref b16), .val (.long v19), .second, .val (.ref b20), .val (.long v23), .second, .val (.int v25), .val (.int v34), .val (.int v37)] [(.int v34)])) _
    refine XS.ifNo X22.here hx rfl (hb hby at_151) rfl ((if0 _ _).trans (feq ((by subst hv_v9 hv_v19 hv_v28 hv_v31 hv_v34; exact own_both q0 q1) : ¬ (v34 = (0 : Int32)))).1) ?_
    show Steps p.tables e below (T22.setTop (mkF m 154 #[.val (.long q0), .second, .val (.long q1), .second, .val (.ref b6), .val (.long v9), .second, .val (.long v11), .second, .val (.ref b12), .val (.long v15), .second, .val (.ref b16), .val (.long v19), .second, .val (.ref b20), .val (.long v23), .second, .val (.int v25), .val (.int v34), .val (.int v37)] [])) _
    refine XS.iload X22.here hx rfl (hb hby at_154) rfl ?_
    show Steps p.tables e below (T22.setTop (mkF m 156 #[.val (.long q0), .second, .val (.long q1), .second, .val (.ref b6), .val (.long v9), .second, .val (.long v11), .second, .val (.ref b12), .val (.long v15), .second, .val (.ref b16), .val (.long v19), .second, .val (.ref b20), .val (.long v23), .second, .val (.int v25), .val (.int v34), .val (.int v37)] [(.int v37)])) _
    refine XS.ifNo X22.here hx rfl (hb hby at_156) rfl ((if0 _ _).trans (feq ((by subst hv_v23 hv_v37; rw [if_pos own_vec]; decide) : ¬ (v37 = (0 : Int32)))).1) ?_
    show Steps p.tables e below (T22.setTop (mkF m 159 #[.val (.long q0), .second, .val (.long q1), .second, .val (.ref b6), .val (.long v9), .second, .val (.long v11), .second, .val (.ref b12), .val (.long v15), .second, .val (.ref b16), .val (.long v19), .second, .val (.ref b20), .val (.long v23), .second, .val (.int v25), .val (.int v34), .val (.int v37)] [])) _
    refine XS.iconst X22.here hx rfl (hb hby at_159) ?_
    show Steps p.tables e below (T22.setTop (mkF m 160 #[.val (.long q0), .second, .val (.long q1), .second, .val (.ref b6), .val (.long v9), .second, .val (.long v11), .second, .val (.ref b12), .val (.long v15), .second, .val (.ref b16), .val (.long v19), .second, .val (.ref b20), .val (.long v23), .second, .val (.int v25), .val (.int v34), .val (.int v37)] [(.int (1 : Int32))])) _
    refine XS.goto X22.here hx rfl (pc0 := 160) (pc' := 164) rfl (hb hby at_160) (by decide) (by decide) ?_
    exact k
  refine own_ret (Q := Q0 Z q0 q1 h0 n0) (v := some (.int (1 : Int32))) X22 hlk (fun h => by rw [hrt] at h; cases h) (by decide) (by decide) ?_ (fun fs hr => retN X22 hx (t := .boolean) hrt (by simp) (hb hby at_164) hr)
  exact ⟨rfl, N22⟩
set_option maxRecDepth 65536 in
set_option maxHeartbeats 40000000 in
theorem comes_1 {Post : Tables → Env → Array Value → State → Outcome → State → Prop} (hpost : ∀ tb e args s v u, (limb_1_1.after args s (.returned v) u = true ∧ limb_1_2.after args s (.returned v) u = true ∧ True) → FrameEnd s (.returned v) u (Jvm.fieldLocs frame_1_writes args s ++ Jvm.arrayLocs frame_1_arrays args s ++ Jvm.staticLocs frame_1_statics s) 16 128 → Post tb e args s (.returned v) u) :
    ArmFor flags0 classFile x code maxLocals ret World_1 tables_1 room_1 Calls_1 rest_1 Pre_1 Post := by
  intro l hfl _ _ p e ha hc hk s m args below hf hA hF happ hP
  obtain ⟨hcalls, hrest, hpre⟩ := hP
  obtain ⟨-, -, -, hnamed, -, -, -, hat⟩ := (Spec.applies_iff hf).mp happ
  obtain ⟨hg, hn⟩ := and_e (Cond.before_iff.mp (show (Jvm.Cond.and given_1 narrow_1).before args s = true from hpre))
  obtain ⟨gg1, gg2⟩ := and_e hg
  obtain ⟨gg3, gg4⟩ := and_e gg2
  obtain ⟨w0, w1, rfl⟩ : ∃ w0 w1 : Value, args = #[w0, w1] := by
    have hs : args.size = 2 := by simpa [Cond.value, given_1] using gg1
    obtain ⟨L⟩ := args
    match L, hs with
    | [w0, w1], _ => exact ⟨w0, w1, rfl⟩
  have hw := fun d (hd : d ∈ tables_1) => atoms_spec (ws := Jvm.Cond.code x code maxLocals ret :: tables_1) hat d (List.mem_cons_of_mem _ hd)
  obtain ⟨i0, ei0⟩ := isL_v gg3
  obtain rfl : w0 = (.long i0) := Option.some.inj ei0
  obtain ⟨i1, ei1⟩ := isL_v gg4
  obtain rfl : w1 = (.long i1) := Option.some.inj ei1
  obtain ⟨n, o, h1, h2, h3, _, L, rfl, ⟨rfl, N⟩, hq⟩ := rm0 l s _ hw tables_1 i0 i1 s.heap s.heap.size (Nat.le_refl _)  p e ha hc hk s m _ below hf ((Spec.applies_iff_loose hf).mp happ).1 ⟨rfl, State.Warmed39.refl s, rfl⟩ trivial
  refine ⟨n, _, h1, h2, h3, hpost _ _ _ _ _ _ ⟨Cond.after_iff.mpr rfl, Cond.after_iff.mpr (eq_i res_at (Term.int_eval (1)) rfl), trivial⟩ ⟨hq.1, hq.2.1, (hq.2.2.sift fun y hy => Or.inr (N y hy)).mono (by decide) (by decide)⟩⟩
theorem main_1_1 : Claimed_1_1 := comes_1 fun _ _ _ _ _ _ h hF => ⟨h.1, hF⟩
theorem main_1_2 : Claimed_1_2 := comes_1 fun _ _ _ _ _ _ h hF => ⟨h.2.1, hF⟩
end Jvm.Pilot.@@N@@
namespace Jvm.Pilot.@@N@@
open Jvm Jvm.ClassFile Sem Op Lib Jvm.Free Jvm.Stand Jvm.Pilot.@@N@@.Jvm.D
/-! MADE BY PROGRAM (witnessworld.py) out of the Statement's table words and the real class files: 7 classes; the members and pool entries that the words name. The judged class is class 1, her method 1. -/
namespace start1
open Jvm.ClassFile
def u (s : String) : CpInfo := .utf8 (stringToUtf16 s)
/-- a pool by its gaps: so many unusable entries, then the entry; so many at the end -/
def gap : Nat → List CpInfo → List CpInfo
  | 0, r => r
  | n + 1, r => .unusable :: gap n r
def poolList (es : List (Nat × CpInfo)) (last : Nat) : List CpInfo := es.foldr (fun e r => gap e.1 (e.2 :: r)) (gap last [])
def pool (es : List (Nat × CpInfo)) (last : Nat) : Array CpInfo := ⟨poolList es last⟩
def fileOf (pool : Array CpInfo) (this : Nat) (attrs : Array Attribute := #[]) (ms : Array MethodInfo := #[]) (fl : Nat := 33) (sup : Nat := 0) (ifs : Array Nat := #[]) (fds : Array FieldInfo := #[]) : ClassFile where
  minorVersion := 0
  majorVersion := 65
  constantPool := pool
  accessFlags := fl
  thisClass := this
  superClass := sup
  interfaces := ifs
  fields := fds
  methods := ms
  attributes := attrs
def plain (name : String) (sup : Option ClassId) : Class where
  name := name
  kind := .ordinary
  loader := none
  accessFlags := 33
  super := sup
  interfaces := #[]
  cf := none
  fields := #[]
  methods := #[]
  instanceTypes := #[]
  staticTypes := #[]
  resolved := #[]
  callSites := []
  init := .initialized
  statics := none
  mirror := none

def pool0 : Array CpInfo := pool [(5, u "<init>"), (0, u "()V"), (1, .class_ 10), (1, u "java/lang/Object")] 113

def k0c0 : Code := { maxStack := 0, maxLocals := 1, code := object_method_1_code, exceptionTable := #[], attributes := #[] }
def k0m0 : Method := { name := "<init>", desc := "()V", sig := { parameters := [], returnType := none }, accessFlags := 1, code := some k0c0 }
/-- java/lang/Object -/
def k0 : Class := { plain "java/lang/Object" none with
  accessFlags := 33
  interfaces := #[]
  cf := some (fileOf pool0 8 #[] #[{ accessFlags := 1, nameIndex := 5, descriptorIndex := 6, attributes := #[] }] 33 0 #[] #[])
  fields := #[]
  methods := #[k0m0]
  instanceTypes := #[]
  staticTypes := #[]
  resolved := Array.replicate 124 none
  statics := none }

def pool1 : Array CpInfo := pool [(2, .class_ 4), (1, u "java/lang/Object"), (0, u "<init>"), (0, u "()V"), (0, .class_ 8), (0, u "com/example/tidewright/tidewright/engine/SeededRandom"), (0, .methodref 7 10), (0, .nameAndType 5 11), (0, u "(J)V"), (0, .methodref 7 13), (0, .nameAndType 14 15), (0, u "nextLong"), (0, u "()J"), (0, .long 11400714819323198485), (1, .long 16294208416658607535), (1, .class_ 21), (0, u "com/example/tidewright/tidewright/engine/SeededRandomNextLongPinLaw"), (2, u "law"), (0, u "(JJ)Z")] 3

def k1m0 : Method := { name := "<init>", desc := "()V", sig := { parameters := [], returnType := none }, accessFlags := 1, code := none }
def k1c1 : Code := { maxStack := 6, maxLocals := 21, code := code, exceptionTable := #[], attributes := #[] }
def k1m1 : Method := { name := "law", desc := "(JJ)Z", sig := { parameters := [.long, .long], returnType := some .boolean }, accessFlags := 9, code := some k1c1 }
/-- com/example/tidewright/tidewright/engine/SeededRandomNextLongPinLaw -/
def k1 : Class := { plain "com/example/tidewright/tidewright/engine/SeededRandomNextLongPinLaw" (some 0) with
  accessFlags := 49
  interfaces := #[]
  cf := some (fileOf pool1 20 #[] #[{ accessFlags := 1, nameIndex := 5, descriptorIndex := 6, attributes := #[] }, { accessFlags := 9, nameIndex := 24, descriptorIndex := 25, attributes := #[] }] 49 2 #[] #[])
  fields := #[]
  methods := #[k1m0, k1m1]
  instanceTypes := #[]
  staticTypes := #[]
  resolved := Array.replicate 29 none
  statics := none }

def pool2 : Array CpInfo := pool [(1, .methodref 2 3), (0, .class_ 4), (0, .nameAndType 5 6), (0, u "java/lang/Object"), (0, u "<init>"), (0, u "()V"), (0, .fieldref 8 9), (0, .class_ 10), (0, .nameAndType 11 12), (0, u "com/example/tidewright/tidewright/engine/SeededRandom"), (0, u "state"), (0, u "J"), (6, u "(J)V"), (0, .long 11400714819323198485), (1, .long 13787848793156543929), (1, .long 10723151780598845931), (12, u "nextLong"), (0, u "()J"), (20, u "GOLDEN_GAMMA")] 29

def k2c0 : Code := { maxStack := 3, maxLocals := 3, code := prog_4_method_1_code, exceptionTable := #[], attributes := #[] }
def k2m0 : Method := { name := "<init>", desc := "(J)V", sig := { parameters := [.long], returnType := none }, accessFlags := 1, code := some k2c0 }
def k2c1 : Code := { maxStack := 5, maxLocals := 3, code := prog_4_method_4_code, exceptionTable := #[], attributes := #[] }
def k2m1 : Method := { name := "nextLong", desc := "()J", sig := { parameters := [], returnType := some .long }, accessFlags := 1, code := some k2c1 }
/-- com/example/tidewright/tidewright/engine/SeededRandom -/
def k2 : Class := { plain "com/example/tidewright/tidewright/engine/SeededRandom" (some 0) with
  accessFlags := 49
  interfaces := #[]
  cf := some (fileOf pool2 8 #[] #[{ accessFlags := 1, nameIndex := 5, descriptorIndex := 19, attributes := #[] }, { accessFlags := 1, nameIndex := 37, descriptorIndex := 38, attributes := #[] }] 49 2 #[] #[{ accessFlags := 26, nameIndex := 59, descriptorIndex := 12, attributes := #[] }, { accessFlags := 2, nameIndex := 11, descriptorIndex := 12, attributes := #[] }])
  fields := #[{ name := "GOLDEN_GAMMA", type := .long, accessFlags := 26, slot := 0, constantValue := 0 }, { name := "state", type := .long, accessFlags := 2, slot := 0, constantValue := 0 }]
  methods := #[k2m0, k2m1]
  instanceTypes := #[.long]
  staticTypes := #[.long]
  resolved := Array.replicate 89 none
  statics := none }

def pool3 : Array CpInfo := pool [(1, u "java/lang/Cloneable"), (0, .class_ 1), (0, u "java/lang/Object"), (0, .class_ 3)] 3

/-- java/lang/Cloneable -/
def k3 : Class := { plain "java/lang/Cloneable" (some 0) with
  accessFlags := 1537
  interfaces := #[]
  cf := some (fileOf pool3 2 #[] #[] 1537 4 #[] #[])
  fields := #[]
  methods := #[]
  instanceTypes := #[]
  staticTypes := #[]
  resolved := Array.replicate 8 none
  statics := none }

def pool4 : Array CpInfo := pool [(1, u "java/io/Serializable"), (0, .class_ 1), (0, u "java/lang/Object"), (0, .class_ 3)] 3

/-- java/io/Serializable -/
def k4 : Class := { plain "java/io/Serializable" (some 0) with
  accessFlags := 1537
  interfaces := #[]
  cf := some (fileOf pool4 2 #[] #[] 1537 4 #[] #[])
  fields := #[]
  methods := #[]
  instanceTypes := #[]
  staticTypes := #[]
  resolved := Array.replicate 8 none
  statics := none }

/-- the primitive byte -/
def k5 : Class := { plain "byte" none with kind := .primitive 'B', accessFlags := 0x411 }
/-- [B -/
def k6 : Class := { plain "[B" (some 0) with kind := .array 5 .byte, interfaces := #[3, 4], accessFlags := 1041 }

def heap : Heap := #[]
def classes : Array Class := #[k0, k1, k2, k3, k4, k5, k6]
def interned : List (Array UInt16 × Addr) := []
def slotsUsed : Nat := 0
def theMethod : MethodId := ⟨1, 1⟩
def args0 : Array Value := #[.long 5, .long 6]
def aboutOver (below : List Frame) : State where
  vm := { classes := classes, interned := interned.toArray }
  heap := heap
  slotsUsed := slotsUsed
  threads := #[{ frames := .invoking theMethod args0 :: below }]
def below0 : List Frame := [.native { method := ⟨0, 0⟩, args := #[] }]
def about1 : State := aboutOver below0
def p0 : Program := .bare "" "" ""
def e0 : Env := launch0.env 0 0 0
theorem w_frames : about1.frames = Frame.invoking theMethod args0 :: below0 := rfl
set_option maxRecDepth 65536 in
theorem w_args : argsFit about1.vm theMethod args0 = true := by decide +kernel
set_option maxRecDepth 65536 in
theorem w_heap : heapFits about1 = true := by decide +kernel
set_option maxRecDepth 65536 in
theorem w_runnable : about1.curStatus? = some .runnable := by decide +kernel
set_option maxRecDepth 65536 in
theorem w_alone : about1.alone = true := by decide +kernel
set_option maxRecDepth 65536 in
theorem w_named : about1.methodNamed? x = some theMethod := by decide +kernel
set_option maxRecDepth 65536 in
theorem w_hears : about1.hears theMethod below0 = true := by decide +kernel
set_option maxRecDepth 65536 in
theorem w_ripe : about1.ripe theMethod args0 below0 = true := by decide +kernel
theorem w_running : about1.status = .running := rfl
set_option maxRecDepth 65536 in
theorem w_room : about1.hasRoom e0.platform room_1 = true :=
  launch0.hasRoom_least _ room_1 (by decide +kernel) (by decide +kernel) (by decide +kernel) (by decide +kernel) (by decide +kernel) (by decide +kernel)
theorem allAtoms_all (ts : List Jvm.Cond) (a : Array Jvm.Value) (st : Jvm.State) : (allAtoms ts).before a st = ts.all (fun c => c.before a st) := by
  induction ts with
  | nil => rfl
  | cons c t ih =>
    show (Jvm.Cond.and c (allAtoms t)).before a st = _
    rw [Jvm.Cond.before_and, ih, List.all_cons]
def words1 : List Jvm.Cond := Jvm.Cond.code x code maxLocals ret :: tables_1
/-- a 'code' word, met by the world's own term for the bytes: nothing is compared byte by byte -/
theorem code_word {y : MethodName} {bytes : ByteArray} {mx : Nat} {rt : Option FieldType} {a : Array Value} {s : State} {m : MethodId} {meth : Method} {c : Code} (h1 : s.methodNamed? y = some m) (h2 : s.vm.method? m = some meth) (h3 : meth.code = some c) (h4 : c.code = bytes)
    (h5 : (c.maxLocals == mx && c.exceptionTable.isEmpty && decide (c.maxStack ≤ mostOperands) && decide (meth.sig.returnType = rt) && !meth.locks && decide (parseMethodDescriptor y.desc = some meth.sig)) = true) : (Jvm.Cond.code y bytes mx rt).before a s = true := by
  simp only [Bool.and_eq_true, beq_iff_eq, Bool.not_eq_true', decide_eq_true_eq] at h5
  obtain ⟨⟨⟨⟨⟨g1, g2⟩, g3⟩, g4⟩, g5⟩, g6⟩ := h5
  simp [Cond.before, Cond.holds, Cond.value, h1, h2, h3, h4, g1, g2, g3, g4, g5, g6]
def isCode : Jvm.Cond → Bool
  | .code _ _ _ _ => true
  | _ => false
theorem all_split {L : List Jvm.Cond} {P : Jvm.Cond → Bool} (h1 : L.all (fun c => isCode c || P c) = true) (h2 : ∀ c ∈ L.filter isCode, P c = true) : L.all P = true := by
  refine List.all_eq_true.mpr fun c hc => ?_
  have h := List.all_eq_true.mp h1 c hc
  rcases Bool.eq_false_or_eq_true (isCode c) with hi | hi
  · exact h2 c (List.mem_filter.mpr ⟨hc, hi⟩)
  · simpa [hi] using h
set_option maxRecDepth 65536 in
theorem w_c0 : (Jvm.Cond.code x code maxLocals ret).before args0 about1 = true := code_word (m := ⟨1, 1⟩) (meth := k1m1) (c := k1c1) (by decide +kernel) rfl rfl rfl (by decide +kernel)
set_option maxRecDepth 65536 in
theorem w_c1 : (Jvm.Cond.code ({ cls := "com/example/tidewright/tidewright/engine/SeededRandom", name := "<init>", desc := "(J)V" } : Jvm.MethodName) prog_4_method_1_code (3 : Nat) (Option.none : Option Jvm.ClassFile.FieldType)).before args0 about1 = true := code_word (m := ⟨2, 0⟩) (meth := k2m0) (c := k2c0) (by decide +kernel) rfl rfl rfl (by decide +kernel)
set_option maxRecDepth 65536 in
theorem w_c2 : (Jvm.Cond.code ({ cls := "java/lang/Object", name := "<init>", desc := "()V" } : Jvm.MethodName) object_method_1_code (1 : Nat) (Option.none : Option Jvm.ClassFile.FieldType)).before args0 about1 = true := code_word (m := ⟨0, 0⟩) (meth := k0m0) (c := k0c0) (by decide +kernel) rfl rfl rfl (by decide +kernel)
set_option maxRecDepth 65536 in
theorem w_c3 : (Jvm.Cond.code ({ cls := "com/example/tidewright/tidewright/engine/SeededRandom", name := "nextLong", desc := "()J" } : Jvm.MethodName) prog_4_method_4_code (3 : Nat) (Option.some Jvm.ClassFile.FieldType.long)).before args0 about1 = true := code_word (m := ⟨2, 1⟩) (meth := k2m1) (c := k2c1) (by decide +kernel) rfl rfl rfl (by decide +kernel)
def codes1 : List Jvm.Cond := [Jvm.Cond.code x code maxLocals ret, Jvm.Cond.code ({ cls := "com/example/tidewright/tidewright/engine/SeededRandom", name := "<init>", desc := "(J)V" } : Jvm.MethodName) prog_4_method_1_code (3 : Nat) (Option.none : Option Jvm.ClassFile.FieldType), Jvm.Cond.code ({ cls := "java/lang/Object", name := "<init>", desc := "()V" } : Jvm.MethodName) object_method_1_code (1 : Nat) (Option.none : Option Jvm.ClassFile.FieldType), Jvm.Cond.code ({ cls := "com/example/tidewright/tidewright/engine/SeededRandom", name := "nextLong", desc := "()J" } : Jvm.MethodName) prog_4_method_4_code (3 : Nat) (Option.some Jvm.ClassFile.FieldType.long)]
set_option maxRecDepth 65536 in
theorem codes_eq : words1.filter isCode = codes1 := rfl
theorem w_codes : ∀ c ∈ words1.filter isCode, c.before args0 about1 = true := by
  rw [codes_eq]
  intro c hc
  simp only [codes1, List.mem_cons, List.not_mem_nil, or_false] at hc
  rcases hc with rfl | rfl | rfl | rfl
  · exact w_c0
  · exact w_c1
  · exact w_c2
  · exact w_c3
set_option maxRecDepth 65536 in
theorem w_t1 : words1.all (fun c => isCode c || c.before args0 about1) = true := by decide +kernel
theorem w_tables : (allAtoms (Jvm.Cond.code x code maxLocals ret :: tables_1)).before args0 about1 = true := by
  rw [allAtoms_all]
  show words1.all (fun c => c.before args0 about1) = true
  refine all_split ?_ w_codes
  rw [w_t1]
set_option maxRecDepth 65536 in
theorem w_case : (Jvm.Cond.and given_1 narrow_1).before args0 about1 = true := by decide +kernel
theorem w_applies : (headSpec (Jvm.Cond.code x code maxLocals ret :: tables_1) room_1).applies x e0.platform about1 = true :=
  (Spec.applies_iff w_frames).mpr ⟨w_running, w_runnable, w_alone, w_named, w_hears, w_ripe, w_room, w_tables⟩
theorem atStart : AtStart classFile x code maxLocals ret World_1 tables_1 room_1 Calls_1 rest_1 Pre_1 launch0 p0 e0 about1 theMethod args0 below0 :=
  ⟨lists_1, trivial, launch0.admits_env _ _ _, launch0.least_env, fairChoices_fair.cas, fairChoices_fair.clock, w_frames, w_args, w_heap, w_applies, trivial, trivial, w_case⟩
end start1
theorem witness_1 : WitnessClaimed_1 := ⟨start1.p0, start1.e0, start1.about1, start1.theMethod, start1.args0, start1.below0, start1.atStart⟩
end Jvm.Pilot.@@N@@
