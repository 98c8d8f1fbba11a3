import JvmDerived
import JvmDerived.Pilot.@@N@@Statement
import JvmDerived.Pilot.@@N@@Code
set_option linter.unusedVariables false
set_option linter.unusedSimpArgs false
namespace Jvm.Pilot.@@N@@
open Jvm Jvm.ClassFile Sem Op Lib Jvm.Free Jvm.Stand Jvm.LawKit Jvm.RoadKit Bundle Jvm.Pilot.@@N@@.Jvm.D
theorem own_w {Z : State} {a0 : Array Value} {d : Jvm.Cond} (hw : ∀ d ∈ tables_1, d.before a0 Z = true) (i : Nat) (h : tables_1[i]? = some d) : d.before a0 Z = true := hw d (List.mem_of_getElem? h)
/-- from U the run comes to an end of which G says -/
def Go (p : Program) (e : Env) (below : List Frame) (G : State → Outcome → Prop) (U : State) : Prop := ∃ s₂ o, Steps p.tables e below U s₂ ∧ s₂.status = .running ∧ Ended s₂ below o ∧ G s₂ o
theorem Go.st {p : Program} {e : Env} {below : List Frame} {G : State → Outcome → Prop} {U U' : State} (h : ∀ t, Steps p.tables e below U' t → Steps p.tables e below U t) (k : Go p e below G U') : Go p e below G U := by
  obtain ⟨t, o, h1, r⟩ := k
  exact ⟨t, o, h _ h1, r⟩
theorem Go.tr {p : Program} {e : Env} {below : List Frame} {G : State → Outcome → Prop} {U U' : State} (h : Steps p.tables e below U U') (k : Go p e below G U') : Go p e below G U := by
  obtain ⟨t, o, h1, r⟩ := k
  exact ⟨t, o, h.trans h1, r⟩
theorem Go.join {p : Program} {e : Env} {below : List Frame} {G : State → Outcome → Prop} {U : State} {α : Type} {P : α → Prop} {F : α → State} (h2 : (∀ v, P v → Go p e below G (F v)) → Go p e below G U) (h1 : ∀ v, P v → Go p e below G (F v)) : Go p e below G U := h2 h1
theorem Go.join2 {p : Program} {e : Env} {below : List Frame} {G : State → Outcome → Prop} {U : State} {α β : Type} {P : α → β → Prop} {F : α → β → State} (h2 : (∀ v w, P v w → Go p e below G (F v w)) → Go p e below G U) (h1 : ∀ v w, P v w → Go p e below G (F v w)) : Go p e below G U := h2 h1
theorem Go.join3 {p : Program} {e : Env} {below : List Frame} {G : State → Outcome → Prop} {U : State} {α β γ : Type} {P : α → β → γ → Prop} {F : α → β → γ → State} (h2 : (∀ v w u, P v w u → Go p e below G (F v w u)) → Go p e below G U) (h1 : ∀ v w u, P v w u → Go p e below G (F v w u)) : Go p e below G U := h2 h1
theorem own_ret {p : Program} {l : Launch} {e : Env} {R : Room} {s : State} {m : MethodId} {args : Array Value} {below : List Frame} {meth : Method} {c : Code} {T U : State} {locs : List Loc} {cells slots : Nat} {Q : Option Value → Heap → List Loc → Prop} {rc rs : Nat} {v : Option Value}
    (X : Stand p l e R s m args below meth c T locs cells slots) (hlk : meth.locks = false) (hv : meth.sig.returnType = none → v = none) (hc : cells ≤ rc) (hs : slots ≤ rs) (hq : Q v T.heap locs)
    (st : ∀ fs, (∀ (f : JFrame) (acts : List Action), f.method = m → f.locked = none → f.entered = [] → (doReturn e (T.setTop f) acts v).1 = T.setFrames fs) → Steps p.tables e below U (T.setFrames fs)) :
    Go p e below (fun s₂ o => ∃ v L, o = .returned v ∧ Q v s₂.heap L ∧ FrameEnd s o s₂ L rc rs) U := by
  obtain ⟨fs, hr, hrun, hended, hW, hsame⟩ := X.leave (v := v) hv hlk
  exact ⟨_, _, st fs hr, hrun, hended, _, _, rfl, hq, ⟨_, rfl⟩, hW, hsame.mono hc hs⟩
theorem own_getI (L : List Int32) (i : Nat) : (L.map Value.int).getD i (.int 0) = .int (L.getD i 0) := by
  induction L generalizing i with
  | nil => rfl
  | cons a r ih => cases i with
    | zero => rfl
    | succ i => exact ih i
theorem own_getJ (L : List Int64) (i : Nat) : (L.map Value.long).getD i (.long 0) = .long (L.getD i 0) := by
  induction L generalizing i with
  | nil => rfl
  | cons a r ih => cases i with
    | zero => rfl
    | succ i => exact ih i
theorem own_getP {P : Int32 → Prop} (h0 : P 0) (L : List Int32) (h : ∀ x ∈ L, P x) (i : Nat) : P (L.getD i 0) := by
  induction L generalizing i with
  | nil => exact h0
  | cons a r ih => cases i with
    | zero => exact h a (List.mem_cons_self ..)
    | succ i => exact ih (fun x hx => h x (List.mem_cons_of_mem _ hx)) i
theorem own_mk (x m n : Int32) (k : Nat) (hk : k ≤ 31) (hm : m.toBitVec.toNat = 2 ^ k - 1) (hn : ((2 ^ k : Nat) : Int) ≤ n.toInt) : ¬ (x &&& m) < 0 ∧ (x &&& m) < n := by
  have h := c_mask x m k hk hm
  have h2 : (0 : Int) < ((2 ^ k : Nat) : Int) := Int.ofNat_lt.mpr (Nat.two_pow_pos k)
  have h3 := Int.emod_nonneg x.toInt (Int.ne_of_gt h2)
  have h4 := Int.emod_lt_of_pos x.toInt h2
  rw [Int32.lt_iff_toInt_lt, Int32.lt_iff_toInt_lt, h]
  exact ⟨Int.not_lt.mpr h3, Int.lt_of_lt_of_le h4 hn⟩
abbrev own_y0 : MethodName := ⟨"com/example/hopwright/hopwright/crypto/Field25519", "subtract", "([J[J[J)V"⟩
abbrev own_y1 : MethodName := ⟨"com/example/hopwright/hopwright/crypto/Field25519", "add", "([J[J[J)V"⟩
theorem d1_0 : decode prog_21_method_5_code 0 = .ok (.aload_n 0, 1) := by decide +kernel
theorem d1_1 : decode prog_21_method_5_code 1 = .ok (.iconst 0, 1) := by decide +kernel
theorem d1_2 : decode prog_21_method_5_code 2 = .ok (.aload_n 1, 1) := by decide +kernel
theorem d1_3 : decode prog_21_method_5_code 3 = .ok (.iconst 0, 1) := by decide +kernel
theorem d1_4 : decode prog_21_method_5_code 4 = .ok (.laload, 1) := by decide +kernel
theorem d1_5 : decode prog_21_method_5_code 5 = .ok (.aload_n 2, 1) := by decide +kernel
theorem d1_6 : decode prog_21_method_5_code 6 = .ok (.iconst 0, 1) := by decide +kernel
theorem d1_7 : decode prog_21_method_5_code 7 = .ok (.laload, 1) := by decide +kernel
theorem d1_8 : decode prog_21_method_5_code 8 = .ok (.lsub, 1) := by decide +kernel
theorem d1_9 : decode prog_21_method_5_code 9 = .ok (.ldc2_w 25, 3) := by decide +kernel
theorem d1_12 : decode prog_21_method_5_code 12 = .ok (.ladd, 1) := by decide +kernel
theorem d1_13 : decode prog_21_method_5_code 13 = .ok (.lastore, 1) := by decide +kernel
theorem d1_14 : decode prog_21_method_5_code 14 = .ok (.iconst 1, 1) := by decide +kernel
theorem d1_15 : decode prog_21_method_5_code 15 = .ok (.istore_n 3, 1) := by decide +kernel
theorem d1_16 : decode prog_21_method_5_code 16 = .ok (.iload_n 3, 1) := by decide +kernel
theorem d1_17 : decode prog_21_method_5_code 17 = .ok (.iconst 5, 1) := by decide +kernel
theorem d1_18 : decode prog_21_method_5_code 18 = .ok (.if_icmp .ge 23, 3) := by decide +kernel
theorem d1_21 : decode prog_21_method_5_code 21 = .ok (.aload_n 0, 1) := by decide +kernel
theorem d1_22 : decode prog_21_method_5_code 22 = .ok (.iload_n 3, 1) := by decide +kernel
theorem d1_23 : decode prog_21_method_5_code 23 = .ok (.aload_n 1, 1) := by decide +kernel
theorem d1_24 : decode prog_21_method_5_code 24 = .ok (.iload_n 3, 1) := by decide +kernel
theorem d1_25 : decode prog_21_method_5_code 25 = .ok (.laload, 1) := by decide +kernel
theorem d1_26 : decode prog_21_method_5_code 26 = .ok (.aload_n 2, 1) := by decide +kernel
theorem d1_27 : decode prog_21_method_5_code 27 = .ok (.iload_n 3, 1) := by decide +kernel
theorem d1_28 : decode prog_21_method_5_code 28 = .ok (.laload, 1) := by decide +kernel
theorem d1_29 : decode prog_21_method_5_code 29 = .ok (.lsub, 1) := by decide +kernel
theorem d1_30 : decode prog_21_method_5_code 30 = .ok (.ldc2_w 27, 3) := by decide +kernel
theorem d1_33 : decode prog_21_method_5_code 33 = .ok (.ladd, 1) := by decide +kernel
theorem d1_34 : decode prog_21_method_5_code 34 = .ok (.lastore, 1) := by decide +kernel
theorem d1_35 : decode prog_21_method_5_code 35 = .ok (.iinc 3 1, 3) := by decide +kernel
theorem d1_38 : decode prog_21_method_5_code 38 = .ok (.goto (-22), 3) := by decide +kernel
theorem d1_41 : decode prog_21_method_5_code 41 = .ok (.return_, 1) := by decide +kernel
theorem pn_0 : plainName "com/example/hopwright/hopwright/crypto/Field25519" = true := by first | (simp [plainName, overriddenIn]; done) | decide +kernel
theorem ef1 (m : MethodId) (a1 : Addr) (a2 : Addr) (a3 : Addr) : entryFrame m #[(.ref a1), (.ref a2), (.ref a3)] 4 = mkF m 0 #[.val (.ref a1), .val (.ref a2), .val (.ref a3), .unset] [] := by first | (simp [entryFrame, mkF, argsToLocals, Value.category]; done) | rfl
abbrev own_R0_0_0_0 : Room := { frames := 0, cells := 0, slots := 0, locals := 0 }
def Q1 (Z : State) (a1 : Addr) (a2 : Addr) (a3 : Addr) (k1 : ClassId) (k2 : ClassId) (k3 : ClassId) (x0 : Int64) (x1 : Int64) (x2 : Int64) (x3 : Int64) (x4 : Int64) (y0 : Int64) (y1 : Int64) (y2 : Int64) (y3 : Int64) (y4 : Int64) (z0 : Int64) (z1 : Int64) (z2 : Int64) (z3 : Int64) (z4 : Int64) (h0 : Heap) (n0 : Nat) (v : Option Value) (h : Heap) (L : List Loc) : Prop := v = none ∧ Fr n0 L ∧ Keep h0 h [a1] ∧ Arv Z h a1 k1 .long (5 : Int32) [(.long ((x0 - y0) + (4503599627370458 : Int64))), (.long ((x1 - y1) + (4503599627370494 : Int64))), (.long ((x2 - y2) + (4503599627370494 : Int64))), (.long ((x3 - y3) + (4503599627370494 : Int64))), (.long ((x4 - y4) + (4503599627370494 : Int64)))] (.long (0 : Int64))
set_option maxRecDepth 65536 in
set_option maxHeartbeats 40000000 in
theorem rm1 (l : Launch) (Z : State) (a0 : Array Value) (hw : ∀ d ∈ tables_1, d.before a0 Z = true) (ws : List Jvm.Cond) (a1 : Addr) (a2 : Addr) (a3 : Addr) (k1 : ClassId) (k2 : ClassId) (k3 : ClassId) (x0 : Int64) (x1 : Int64) (x2 : Int64) (x3 : Int64) (x4 : Int64) (y0 : Int64) (y1 : Int64) (y2 : Int64) (y3 : Int64) (y4 : Int64) (z0 : Int64) (z1 : Int64) (z2 : Int64) (z3 : Int64) (z4 : Int64) (h0 : Heap) (n0 : Nat) (Z0 : n0 ≤ h0.size) (VH : Arv Z h0 a1 k1 .long (5 : Int32) [(.long z0), (.long z1), (.long z2), (.long z3), (.long z4)] (.long (0 : Int64))) (VF : Arv Z h0 a2 k2 .long (5 : Int32) [(.long x0), (.long x1), (.long x2), (.long x3), (.long x4)] (.long (0 : Int64))) (VG : Arv Z h0 a3 k3 .long (5 : Int32) [(.long y0), (.long y1), (.long y2), (.long y3), (.long y4)] (.long (0 : Int64))) (gA : n0 ≤ a1) (n21 : a2 ≠ a1) (n31 : a3 ≠ a1) :
    MetFree l own_y0 (head1 (Jvm.Cond.code own_y0 prog_21_method_5_code 4 none :: ws) own_R0_0_0_0) (fun a U => a = #[(.ref a1), (.ref a2), (.ref a3)] ∧ Z.Warmed39 U.vm ∧ U.heap = h0) (fun _ _ _ _ _ => True) (fun _ U o U' => ∃ v L, o = .returned v ∧ Q1 Z a1 a2 a3 k1 k2 k3 x0 x1 x2 x3 x4 y0 y1 y2 y3 y4 z0 z1 z2 z3 z4 h0 n0 v U'.heap L ∧ FrameEnd U o U' L (own_R0_0_0_0).cells (own_R0_0_0_0).slots) := by
  refine MetFree.of_bodySF (plainFor_of_name pn_0) hisR ?_
  intro p e s m args below meth c s₁ Bd hml0 hP hK
  obtain ⟨rfl, hZ, hh⟩ := hP
  have hx := Bd.exec
  have hby := Bd.bytes
  have hml : c.maxLocals = 4 := hml0
  have hown : s.vm.findClass "com/example/hopwright/hopwright/crypto/Field25519" = some m.cls := findClass_of_methodNamed Bd.named
  have hnm := (name_of_methodNamed Bd.named Bd.method).1
  have hlk : meth.locks = false := BodyLoose.notSynchronized Bd
  have hrt := Bd.returns
  have X0 : Stand p l e own_R0_0_0_0 s m #[(.ref a1), (.ref a2), (.ref a3)] below meth c s₁ [] 0 0 := Stand.of_body Bd
  have e0 : s₁.heap = h0 := by rw [← hh, Bd.state]; rfl
  have N0 := Fr.nil n0
  refine (show Go p e below (fun s₂ o => ∃ v L, o = .returned v ∧ Q1 Z a1 a2 a3 k1 k2 k3 x0 x1 x2 x3 x4 y0 y1 y2 y3 y4 z0 z1 z2 z3 z4 h0 n0 v s₂.heap L ∧ FrameEnd s o s₂ L 0 0) (s₁.setTop (entryFrame m #[(.ref a1), (.ref a2), (.ref a3)] 4)) from ?_)
  rw [ef1]
  obtain ⟨cl101, Ar101, q101, S101, N101, H101, G101⟩ := id VF
  obtain ⟨cl102, Ar102, q102, S102, N102, H102, G102⟩ := id VG
  refine Go.st (U' := s₁.setTop (mkF m 13 #[.val (.ref a1), .val (.ref a2), .val (.ref a3), .unset] [(.long ((x0 - y0) + (4503599627370458 : Int64))), (.int (0 : Int32)), (.ref a1)])) (fun t k => ?_) ?_
  · show Steps p.tables e below (s₁.setTop (mkF m 0 #[.val (.ref a1), .val (.ref a2), .val (.ref a3), .unset] [])) _
    refine XS.aloadN X0.here hx rfl (hb hby d1_0) rfl rfl ?_
    show Steps p.tables e below (s₁.setTop (mkF m 1 #[.val (.ref a1), .val (.ref a2), .val (.ref a3), .unset] [(.ref a1)])) _
    refine XS.iconst X0.here hx rfl (hb hby d1_1) ?_
    show Steps p.tables e below (s₁.setTop (mkF m 2 #[.val (.ref a1), .val (.ref a2), .val (.ref a3), .unset] [(.int (0 : Int32)), (.ref a1)])) _
    refine XS.aloadN X0.here hx rfl (hb hby d1_2) rfl rfl ?_
    show Steps p.tables e below (s₁.setTop (mkF m 3 #[.val (.ref a1), .val (.ref a2), .val (.ref a3), .unset] [(.ref a2), (.int (0 : Int32)), (.ref a1)])) _
    refine XS.iconst X0.here hx rfl (hb hby d1_3) ?_
    show Steps p.tables e below (s₁.setTop (mkF m 4 #[.val (.ref a1), .val (.ref a2), .val (.ref a3), .unset] [(.int (0 : Int32)), (.ref a2), (.int (0 : Int32)), (.ref a1)])) _
    refine X0.laload hx (j := (0 : Int32)) (v := (.long x0)) (by rw [e0]; exact Ar101.1) (State.isArrayOf_alike hZ.alike Ar101.2.1) Ar101.2.2 (inb_of (j := (0 : Int32)) S101 ⟨by decide, by decide⟩) (Has.at H101 (inb_of (j := (0 : Int32)) S101 ⟨by decide, by decide⟩) rfl) (g := (mkF m 4 #[.val (.ref a1), .val (.ref a2), .val (.ref a3), .unset] [(.int (0 : Int32)), (.ref a2), (.int (0 : Int32)), (.ref a1)])) rfl rfl (hb hby d1_4) _ ?_
    show Steps p.tables e below (s₁.setTop (mkF m 5 #[.val (.ref a1), .val (.ref a2), .val (.ref a3), .unset] [(.long x0), (.int (0 : Int32)), (.ref a1)])) _
    refine XS.aloadN X0.here hx rfl (hb hby d1_5) rfl rfl ?_
    show Steps p.tables e below (s₁.setTop (mkF m 6 #[.val (.ref a1), .val (.ref a2), .val (.ref a3), .unset] [(.ref a3), (.long x0), (.int (0 : Int32)), (.ref a1)])) _
    refine XS.iconst X0.here hx rfl (hb hby d1_6) ?_
    show Steps p.tables e below (s₁.setTop (mkF m 7 #[.val (.ref a1), .val (.ref a2), .val (.ref a3), .unset] [(.int (0 : Int32)), (.ref a3), (.long x0), (.int (0 : Int32)), (.ref a1)])) _
    refine X0.laload hx (j := (0 : Int32)) (v := (.long y0)) (by rw [e0]; exact Ar102.1) (State.isArrayOf_alike hZ.alike Ar102.2.1) Ar102.2.2 (inb_of (j := (0 : Int32)) S102 ⟨by decide, by decide⟩) (Has.at H102 (inb_of (j := (0 : Int32)) S102 ⟨by decide, by decide⟩) rfl) (g := (mkF m 7 #[.val (.ref a1), .val (.ref a2), .val (.ref a3), .unset] [(.int (0 : Int32)), (.ref a3), (.long x0), (.int (0 : Int32)), (.ref a1)])) rfl rfl (hb hby d1_7) _ ?_
    show Steps p.tables e below (s₁.setTop (mkF m 8 #[.val (.ref a1), .val (.ref a2), .val (.ref a3), .unset] [(.long y0), (.long x0), (.int (0 : Int32)), (.ref a1)])) _
    refine XS.lsub X0.here hx rfl (hb hby d1_8) rfl ?_
    show Steps p.tables e below (s₁.setTop (mkF m 9 #[.val (.ref a1), .val (.ref a2), .val (.ref a3), .unset] [(.long (x0 - y0)), (.int (0 : Int32)), (.ref a1)])) _
    refine X0.ldc2Long hx hown (mvT hZ (own_w hw 6 rfl)) (g := (mkF m 9 #[.val (.ref a1), .val (.ref a2), .val (.ref a3), .unset] [(.long (x0 - y0)), (.int (0 : Int32)), (.ref a1)])) rfl (hb hby d1_9) _ ?_
    show Steps p.tables e below (s₁.setTop (mkF m 12 #[.val (.ref a1), .val (.ref a2), .val (.ref a3), .unset] [(.long (4503599627370458 : Int64)), (.long (x0 - y0)), (.int (0 : Int32)), (.ref a1)])) _
    refine XS.ladd X0.here hx rfl (hb hby d1_12) rfl ?_
    exact k
  obtain ⟨cl104, Ar104, q104, S104, N104, H104, G104⟩ := id VH
  obtain ⟨T103, h103, X103, e103, W103, st103⟩ := stJ X0 hx hZ e0 Ar104 (j := (0 : Int32)) (inb_of (j := (0 : Int32)) S104 ⟨by decide, by decide⟩) (g := (mkF m 13 #[.val (.ref a1), .val (.ref a2), .val (.ref a3), .unset] [(.long ((x0 - y0) + (4503599627370458 : Int64))), (.int (0 : Int32)), (.ref a1)])) rfl rfl (hb hby d1_13)
  have VH_103 := Arv.set Ar104 q104 S104 N104 H104 G104 rfl W103 0 rfl (Nat.le_of_ble_eq_true rfl)
  have VF_103 := VF.other W103 n21
  have VG_103 := VG.other W103 n31
  have N103 := Fr.snoc X103 N0 gA
  have KK103 : Keep h0 h103 [a1] := (Keep.refl h0 [a1]).wr W103 (Or.inl (List.mem_of_getElem? (i := 0) rfl))
  have sz103 : n0 ≤ h103.size := Nat.le_trans Z0 (Nat.le_of_eq W103.size.symm)
  refine Go.st (U' := T103.setTop (mkF m 14 #[.val (.ref a1), .val (.ref a2), .val (.ref a3), .unset] [])) (fun t k => st103 _ k) ?_
  obtain ⟨cl105, Ar105, q105, S105, N105, H105, G105⟩ := id VF_103
  obtain ⟨cl106, Ar106, q106, S106, N106, H106, G106⟩ := id VG_103
  refine Go.st (U' := T103.setTop (mkF m 34 #[.val (.ref a1), .val (.ref a2), .val (.ref a3), .val (.int (1 : Int32))] [(.long ((x1 - y1) + (4503599627370494 : Int64))), (.int (1 : Int32)), (.ref a1)])) (fun t k => ?_) ?_
  · show Steps p.tables e below (T103.setTop (mkF m 14 #[.val (.ref a1), .val (.ref a2), .val (.ref a3), .unset] [])) _
    refine XS.iconst X103.here hx rfl (hb hby d1_14) ?_
    show Steps p.tables e below (T103.setTop (mkF m 15 #[.val (.ref a1), .val (.ref a2), .val (.ref a3), .unset] [(.int (1 : Int32))])) _
    refine XS.istoreN X103.here hx rfl (hb hby d1_15) rfl (l' := #[.val (.ref a1), .val (.ref a2), .val (.ref a3), .val (.int (1 : Int32))]) rfl ?_
    show Steps p.tables e below (T103.setTop (mkF m 16 #[.val (.ref a1), .val (.ref a2), .val (.ref a3), .val (.int (1 : Int32))] [])) _
    refine XS.iloadN X103.here hx rfl (hb hby d1_16) rfl ?_
    show Steps p.tables e below (T103.setTop (mkF m 17 #[.val (.ref a1), .val (.ref a2), .val (.ref a3), .val (.int (1 : Int32))] [(.int (1 : Int32))])) _
    refine XS.iconst X103.here hx rfl (hb hby d1_17) ?_
    show Steps p.tables e below (T103.setTop (mkF m 18 #[.val (.ref a1), .val (.ref a2), .val (.ref a3), .val (.int (1 : Int32))] [(.int (5 : Int32)), (.int (1 : Int32))])) _
    refine XS.icmpNo X103.here hx rfl (hb hby d1_18) rfl (tlt (by decide : (1 : Int32) < (5 : Int32))).2.1 ?_
    show Steps p.tables e below (T103.setTop (mkF m 21 #[.val (.ref a1), .val (.ref a2), .val (.ref a3), .val (.int (1 : Int32))] [])) _
    refine XS.aloadN X103.here hx rfl (hb hby d1_21) rfl rfl ?_
    show Steps p.tables e below (T103.setTop (mkF m 22 #[.val (.ref a1), .val (.ref a2), .val (.ref a3), .val (.int (1 : Int32))] [(.ref a1)])) _
    refine XS.iloadN X103.here hx rfl (hb hby d1_22) rfl ?_
    show Steps p.tables e below (T103.setTop (mkF m 23 #[.val (.ref a1), .val (.ref a2), .val (.ref a3), .val (.int (1 : Int32))] [(.int (1 : Int32)), (.ref a1)])) _
    refine XS.aloadN X103.here hx rfl (hb hby d1_23) rfl rfl ?_
    show Steps p.tables e below (T103.setTop (mkF m 24 #[.val (.ref a1), .val (.ref a2), .val (.ref a3), .val (.int (1 : Int32))] [(.ref a2), (.int (1 : Int32)), (.ref a1)])) _
    refine XS.iloadN X103.here hx rfl (hb hby d1_24) rfl ?_
    show Steps p.tables e below (T103.setTop (mkF m 25 #[.val (.ref a1), .val (.ref a2), .val (.ref a3), .val (.int (1 : Int32))] [(.int (1 : Int32)), (.ref a2), (.int (1 : Int32)), (.ref a1)])) _
    refine X103.laload hx (j := (1 : Int32)) (v := (.long x1)) (by rw [e103]; exact Ar105.1) (State.isArrayOf_alike hZ.alike Ar105.2.1) Ar105.2.2 (inb_of (j := (1 : Int32)) S105 ⟨by decide, by decide⟩) (Has.at H105 (inb_of (j := (1 : Int32)) S105 ⟨by decide, by decide⟩) rfl) (g := (mkF m 25 #[.val (.ref a1), .val (.ref a2), .val (.ref a3), .val (.int (1 : Int32))] [(.int (1 : Int32)), (.ref a2), (.int (1 : Int32)), (.ref a1)])) rfl rfl (hb hby d1_25) _ ?_
    show Steps p.tables e below (T103.setTop (mkF m 26 #[.val (.ref a1), .val (.ref a2), .val (.ref a3), .val (.int (1 : Int32))] [(.long x1), (.int (1 : Int32)), (.ref a1)])) _
    refine XS.aloadN X103.here hx rfl (hb hby d1_26) rfl rfl ?_
    show Steps p.tables e below (T103.setTop (mkF m 27 #[.val (.ref a1), .val (.ref a2), .val (.ref a3), .val (.int (1 : Int32))] [(.ref a3), (.long x1), (.int (1 : Int32)), (.ref a1)])) _
    refine XS.iloadN X103.here hx rfl (hb hby d1_27) rfl ?_
    show Steps p.tables e below (T103.setTop (mkF m 28 #[.val (.ref a1), .val (.ref a2), .val (.ref a3), .val (.int (1 : Int32))] [(.int (1 : Int32)), (.ref a3), (.long x1), (.int (1 : Int32)), (.ref a1)])) _
    refine X103.laload hx (j := (1 : Int32)) (v := (.long y1)) (by rw [e103]; exact Ar106.1) (State.isArrayOf_alike hZ.alike Ar106.2.1) Ar106.2.2 (inb_of (j := (1 : Int32)) S106 ⟨by decide, by decide⟩) (Has.at H106 (inb_of (j := (1 : Int32)) S106 ⟨by decide, by decide⟩) rfl) (g := (mkF m 28 #[.val (.ref a1), .val (.ref a2), .val (.ref a3), .val (.int (1 : Int32))] [(.int (1 : Int32)), (.ref a3), (.long x1), (.int (1 : Int32)), (.ref a1)])) rfl rfl (hb hby d1_28) _ ?_
    show Steps p.tables e below (T103.setTop (mkF m 29 #[.val (.ref a1), .val (.ref a2), .val (.ref a3), .val (.int (1 : Int32))] [(.long y1), (.long x1), (.int (1 : Int32)), (.ref a1)])) _
    refine XS.lsub X103.here hx rfl (hb hby d1_29) rfl ?_
    show Steps p.tables e below (T103.setTop (mkF m 30 #[.val (.ref a1), .val (.ref a2), .val (.ref a3), .val (.int (1 : Int32))] [(.long (x1 - y1)), (.int (1 : Int32)), (.ref a1)])) _
    refine X103.ldc2Long hx hown (mvT hZ (own_w hw 7 rfl)) (g := (mkF m 30 #[.val (.ref a1), .val (.ref a2), .val (.ref a3), .val (.int (1 : Int32))] [(.long (x1 - y1)), (.int (1 : Int32)), (.ref a1)])) rfl (hb hby d1_30) _ ?_
    show Steps p.tables e below (T103.setTop (mkF m 33 #[.val (.ref a1), .val (.ref a2), .val (.ref a3), .val (.int (1 : Int32))] [(.long (4503599627370494 : Int64)), (.long (x1 - y1)), (.int (1 : Int32)), (.ref a1)])) _
    refine XS.ladd X103.here hx rfl (hb hby d1_33) rfl ?_
    exact k
  obtain ⟨cl108, Ar108, q108, S108, N108, H108, G108⟩ := id VH_103
  obtain ⟨T107, h107, X107, e107, W107, st107⟩ := stJ X103 hx hZ e103 Ar108 (j := (1 : Int32)) (inb_of (j := (1 : Int32)) S108 ⟨by decide, by decide⟩) (g := (mkF m 34 #[.val (.ref a1), .val (.ref a2), .val (.ref a3), .val (.int (1 : Int32))] [(.long ((x1 - y1) + (4503599627370494 : Int64))), (.int (1 : Int32)), (.ref a1)])) rfl rfl (hb hby d1_34)
  have VH_107 := Arv.set Ar108 q108 S108 N108 H108 G108 rfl W107 1 rfl (Nat.le_of_ble_eq_true rfl)
  have VF_107 := VF_103.other W107 n21
  have VG_107 := VG_103.other W107 n31
  have N107 := Fr.snoc X107 N103 gA
  have KK107 : Keep h0 h107 [a1] := KK103.wr W107 (Or.inl (List.mem_of_getElem? (i := 0) rfl))
  have sz107 : n0 ≤ h107.size := Nat.le_trans sz103 (Nat.le_of_eq W107.size.symm)
  refine Go.st (U' := T107.setTop (mkF m 35 #[.val (.ref a1), .val (.ref a2), .val (.ref a3), .val (.int (1 : Int32))] [])) (fun t k => st107 _ k) ?_
  obtain ⟨cl109, Ar109, q109, S109, N109, H109, G109⟩ := id VF_107
  obtain ⟨cl110, Ar110, q110, S110, N110, H110, G110⟩ := id VG_107
  refine Go.st (U' := T107.setTop (mkF m 34 #[.val (.ref a1), .val (.ref a2), .val (.ref a3), .val (.int (2 : Int32))] [(.long ((x2 - y2) + (4503599627370494 : Int64))), (.int (2 : Int32)), (.ref a1)])) (fun t k => ?_) ?_
  · show Steps p.tables e below (T107.setTop (mkF m 35 #[.val (.ref a1), .val (.ref a2), .val (.ref a3), .val (.int (1 : Int32))] [])) _
    refine XS.iinc X107.here hx rfl (hb hby d1_35) rfl (l' := #[.val (.ref a1), .val (.ref a2), .val (.ref a3), .val (.int (2 : Int32))]) rfl ?_
    show Steps p.tables e below (T107.setTop (mkF m 38 #[.val (.ref a1), .val (.ref a2), .val (.ref a3), .val (.int (2 : Int32))] [])) _
    refine XS.goto X107.here hx rfl (pc0 := 38) (pc' := 16) rfl (hb hby d1_38) (by decide) (by decide) ?_
    show Steps p.tables e below (T107.setTop (mkF m 16 #[.val (.ref a1), .val (.ref a2), .val (.ref a3), .val (.int (2 : Int32))] [])) _
    refine XS.iloadN X107.here hx rfl (hb hby d1_16) rfl ?_
    show Steps p.tables e below (T107.setTop (mkF m 17 #[.val (.ref a1), .val (.ref a2), .val (.ref a3), .val (.int (2 : Int32))] [(.int (2 : Int32))])) _
    refine XS.iconst X107.here hx rfl (hb hby d1_17) ?_
    show Steps p.tables e below (T107.setTop (mkF m 18 #[.val (.ref a1), .val (.ref a2), .val (.ref a3), .val (.int (2 : Int32))] [(.int (5 : Int32)), (.int (2 : Int32))])) _
    refine XS.icmpNo X107.here hx rfl (hb hby d1_18) rfl (tlt (by decide : (2 : Int32) < (5 : Int32))).2.1 ?_
    show Steps p.tables e below (T107.setTop (mkF m 21 #[.val (.ref a1), .val (.ref a2), .val (.ref a3), .val (.int (2 : Int32))] [])) _
    refine XS.aloadN X107.here hx rfl (hb hby d1_21) rfl rfl ?_
    show Steps p.tables e below (T107.setTop (mkF m 22 #[.val (.ref a1), .val (.ref a2), .val (.ref a3), .val (.int (2 : Int32))] [(.ref a1)])) _
    refine XS.iloadN X107.here hx rfl (hb hby d1_22) rfl ?_
    show Steps p.tables e below (T107.setTop (mkF m 23 #[.val (.ref a1), .val (.ref a2), .val (.ref a3), .val (.int (2 : Int32))] [(.int (2 : Int32)), (.ref a1)])) _
    refine XS.aloadN X107.here hx rfl (hb hby d1_23) rfl rfl ?_
    show Steps p.tables e below (T107.setTop (mkF m 24 #[.val (.ref a1), .val (.ref a2), .val (.ref a3), .val (.int (2 : Int32))] [(.ref a2), (.int (2 : Int32)), (.ref a1)])) _
    refine XS.iloadN X107.here hx rfl (hb hby d1_24) rfl ?_
    show Steps p.tables e below (T107.setTop (mkF m 25 #[.val (.ref a1), .val (.ref a2), .val (.ref a3), .val (.int (2 : Int32))] [(.int (2 : Int32)), (.ref a2), (.int (2 : Int32)), (.ref a1)])) _
    refine X107.laload hx (j := (2 : Int32)) (v := (.long x2)) (by rw [e107]; exact Ar109.1) (State.isArrayOf_alike hZ.alike Ar109.2.1) Ar109.2.2 (inb_of (j := (2 : Int32)) S109 ⟨by decide, by decide⟩) (Has.at H109 (inb_of (j := (2 : Int32)) S109 ⟨by decide, by decide⟩) rfl) (g := (mkF m 25 #[.val (.ref a1), .val (.ref a2), .val (.ref a3), .val (.int (2 : Int32))] [(.int (2 : Int32)), (.ref a2), (.int (2 : Int32)), (.ref a1)])) rfl rfl (hb hby d1_25) _ ?_
    show Steps p.tables e below (T107.setTop (mkF m 26 #[.val (.ref a1), .val (.ref a2), .val (.ref a3), .val (.int (2 : Int32))] [(.long x2), (.int (2 : Int32)), (.ref a1)])) _
    refine XS.aloadN X107.here hx rfl (hb hby d1_26) rfl rfl ?_
    show Steps p.tables e below (T107.setTop (mkF m 27 #[.val (.ref a1), .val (.ref a2), .val (.ref a3), .val (.int (2 : Int32))] [(.ref a3), (.long x2), (.int (2 : Int32)), (.ref a1)])) _
    refine XS.iloadN X107.here hx rfl (hb hby d1_27) rfl ?_
    show Steps p.tables e below (T107.setTop (mkF m 28 #[.val (.ref a1), .val (.ref a2), .val (.ref a3), .val (.int (2 : Int32))] [(.int (2 : Int32)), (.ref a3), (.long x2), (.int (2 : Int32)), (.ref a1)])) _
    refine X107.laload hx (j := (2 : Int32)) (v := (.long y2)) (by rw [e107]; exact Ar110.1) (State.isArrayOf_alike hZ.alike Ar110.2.1) Ar110.2.2 (inb_of (j := (2 : Int32)) S110 ⟨by decide, by decide⟩) (Has.at H110 (inb_of (j := (2 : Int32)) S110 ⟨by decide, by decide⟩) rfl) (g := (mkF m 28 #[.val (.ref a1), .val (.ref a2), .val (.ref a3), .val (.int (2 : Int32))] [(.int (2 : Int32)), (.ref a3), (.long x2), (.int (2 : Int32)), (.ref a1)])) rfl rfl (hb hby d1_28) _ ?_
    show Steps p.tables e below (T107.setTop (mkF m 29 #[.val (.ref a1), .val (.ref a2), .val (.ref a3), .val (.int (2 : Int32))] [(.long y2), (.long x2), (.int (2 : Int32)), (.ref a1)])) _
    refine XS.lsub X107.here hx rfl (hb hby d1_29) rfl ?_
    show Steps p.tables e below (T107.setTop (mkF m 30 #[.val (.ref a1), .val (.ref a2), .val (.ref a3), .val (.int (2 : Int32))] [(.long (x2 - y2)), (.int (2 : Int32)), (.ref a1)])) _
    refine X107.ldc2Long hx hown (mvT hZ (own_w hw 7 rfl)) (g := (mkF m 30 #[.val (.ref a1), .val (.ref a2), .val (.ref a3), .val (.int (2 : Int32))] [(.long (x2 - y2)), (.int (2 : Int32)), (.ref a1)])) rfl (hb hby d1_30) _ ?_
    show Steps p.tables e below (T107.setTop (mkF m 33 #[.val (.ref a1), .val (.ref a2), .val (.ref a3), .val (.int (2 : Int32))] [(.long (4503599627370494 : Int64)), (.long (x2 - y2)), (.int (2 : Int32)), (.ref a1)])) _
    refine XS.ladd X107.here hx rfl (hb hby d1_33) rfl ?_
    exact k
  obtain ⟨cl112, Ar112, q112, S112, N112, H112, G112⟩ := id VH_107
  obtain ⟨T111, h111, X111, e111, W111, st111⟩ := stJ X107 hx hZ e107 Ar112 (j := (2 : Int32)) (inb_of (j := (2 : Int32)) S112 ⟨by decide, by decide⟩) (g := (mkF m 34 #[.val (.ref a1), .val (.ref a2), .val (.ref a3), .val (.int (2 : Int32))] [(.long ((x2 - y2) + (4503599627370494 : Int64))), (.int (2 : Int32)), (.ref a1)])) rfl rfl (hb hby d1_34)
  have VH_111 := Arv.set Ar112 q112 S112 N112 H112 G112 rfl W111 2 rfl (Nat.le_of_ble_eq_true rfl)
  have VF_111 := VF_107.other W111 n21
  have VG_111 := VG_107.other W111 n31
  have N111 := Fr.snoc X111 N107 gA
  have KK111 : Keep h0 h111 [a1] := KK107.wr W111 (Or.inl (List.mem_of_getElem? (i := 0) rfl))
  have sz111 : n0 ≤ h111.size := Nat.le_trans sz107 (Nat.le_of_eq W111.size.symm)
  refine Go.st (U' := T111.setTop (mkF m 35 #[.val (.ref a1), .val (.ref a2), .val (.ref a3), .val (.int (2 : Int32))] [])) (fun t k => st111 _ k) ?_
  obtain ⟨cl113, Ar113, q113, S113, N113, H113, G113⟩ := id VF_111
  obtain ⟨cl114, Ar114, q114, S114, N114, H114, G114⟩ := id VG_111
  refine Go.st (U' := T111.setTop (mkF m 34 #[.val (.ref a1), .val (.ref a2), .val (.ref a3), .val (.int (3 : Int32))] [(.long ((x3 - y3) + (4503599627370494 : Int64))), (.int (3 : Int32)), (.ref a1)])) (fun t k => ?_) ?_
  · show Steps p.tables e below (T111.setTop (mkF m 35 #[.val (.ref a1), .val (.ref a2), .val (.ref a3), .val (.int (2 : Int32))] [])) _
    refine XS.iinc X111.here hx rfl (hb hby d1_35) rfl (l' := #[.val (.ref a1), .val (.ref a2), .val (.ref a3), .val (.int (3 : Int32))]) rfl ?_
    show Steps p.tables e below (T111.setTop (mkF m 38 #[.val (.ref a1), .val (.ref a2), .val (.ref a3), .val (.int (3 : Int32))] [])) _
    refine XS.goto X111.here hx rfl (pc0 := 38) (pc' := 16) rfl (hb hby d1_38) (by decide) (by decide) ?_
    show Steps p.tables e below (T111.setTop (mkF m 16 #[.val (.ref a1), .val (.ref a2), .val (.ref a3), .val (.int (3 : Int32))] [])) _
    refine XS.iloadN X111.here hx rfl (hb hby d1_16) rfl ?_
    show Steps p.tables e below (T111.setTop (mkF m 17 #[.val (.ref a1), .val (.ref a2), .val (.ref a3), .val (.int (3 : Int32))] [(.int (3 : Int32))])) _
    refine XS.iconst X111.here hx rfl (hb hby d1_17) ?_
    show Steps p.tables e below (T111.setTop (mkF m 18 #[.val (.ref a1), .val (.ref a2), .val (.ref a3), .val (.int (3 : Int32))] [(.int (5 : Int32)), (.int (3 : Int32))])) _
    refine XS.icmpNo X111.here hx rfl (hb hby d1_18) rfl (tlt (by decide : (3 : Int32) < (5 : Int32))).2.1 ?_
    show Steps p.tables e below (T111.setTop (mkF m 21 #[.val (.ref a1), .val (.ref a2), .val (.ref a3), .val (.int (3 : Int32))] [])) _
    refine XS.aloadN X111.here hx rfl (hb hby d1_21) rfl rfl ?_
    show Steps p.tables e below (T111.setTop (mkF m 22 #[.val (.ref a1), .val (.ref a2), .val (.ref a3), .val (.int (3 : Int32))] [(.ref a1)])) _
    refine XS.iloadN X111.here hx rfl (hb hby d1_22) rfl ?_
    show Steps p.tables e below (T111.setTop (mkF m 23 #[.val (.ref a1), .val (.ref a2), .val (.ref a3), .val (.int (3 : Int32))] [(.int (3 : Int32)), (.ref a1)])) _
    refine XS.aloadN X111.here hx rfl (hb hby d1_23) rfl rfl ?_
    show Steps p.tables e below (T111.setTop (mkF m 24 #[.val (.ref a1), .val (.ref a2), .val (.ref a3), .val (.int (3 : Int32))] [(.ref a2), (.int (3 : Int32)), (.ref a1)])) _
    refine XS.iloadN X111.here hx rfl (hb hby d1_24) rfl ?_
    show Steps p.tables e below (T111.setTop (mkF m 25 #[.val (.ref a1), .val (.ref a2), .val (.ref a3), .val (.int (3 : Int32))] [(.int (3 : Int32)), (.ref a2), (.int (3 : Int32)), (.ref a1)])) _
    refine X111.laload hx (j := (3 : Int32)) (v := (.long x3)) (by rw [e111]; exact Ar113.1) (State.isArrayOf_alike hZ.alike Ar113.2.1) Ar113.2.2 (inb_of (j := (3 : Int32)) S113 ⟨by decide, by decide⟩) (Has.at H113 (inb_of (j := (3 : Int32)) S113 ⟨by decide, by decide⟩) rfl) (g := (mkF m 25 #[.val (.ref a1), .val (.ref a2), .val (.ref a3), .val (.int (3 : Int32))] [(.int (3 : Int32)), (.ref a2), (.int (3 : Int32)), (.ref a1)])) rfl rfl (hb hby d1_25) _ ?_
    show Steps p.tables e below (T111.setTop (mkF m 26 #[.val (.ref a1), .val (.ref a2), .val (.ref a3), .val (.int (3 : Int32))] [(.long x3), (.int (3 : Int32)), (.ref a1)])) _
    refine XS.aloadN X111.here hx rfl (hb hby d1_26) rfl rfl ?_
    show Steps p.tables e below (T111.setTop (mkF m 27 #[.val (.ref a1), .val (.ref a2), .val (.ref a3), .val (.int (3 : Int32))] [(.ref a3), (.long x3), (.int (3 : Int32)), (.ref a1)])) _
    refine XS.iloadN X111.here hx rfl (hb hby d1_27) rfl ?_
    show Steps p.tables e below (T111.setTop (mkF m 28 #[.val (.ref a1), .val (.ref a2), .val (.ref a3), .val (.int (3 : Int32))] [(.int (3 : Int32)), (.ref a3), (.long x3), (.int (3 : Int32)), (.ref a1)])) _
    refine X111.laload hx (j := (3 : Int32)) (v := (.long y3)) (by rw [e111]; exact Ar114.1) (State.isArrayOf_alike hZ.alike Ar114.2.1) Ar114.2.2 (inb_of (j := (3 : Int32)) S114 ⟨by decide, by decide⟩) (Has.at H114 (inb_of (j := (3 : Int32)) S114 ⟨by decide, by decide⟩) rfl) (g := (mkF m 28 #[.val (.ref a1), .val (.ref a2), .val (.ref a3), .val (.int (3 : Int32))] [(.int (3 : Int32)), (.ref a3), (.long x3), (.int (3 : Int32)), (.ref a1)])) rfl rfl (hb hby d1_28) _ ?_
    show Steps p.tables e below (T111.setTop (mkF m 29 #[.val (.ref a1), .val (.ref a2), .val (.ref a3), .val (.int (3 : Int32))] [(.long y3), (.long x3), (.int (3 : Int32)), (.ref a1)])) _
    refine XS.lsub X111.here hx rfl (hb hby d1_29) rfl ?_
    show Steps p.tables e below (T111.setTop (mkF m 30 #[.val (.ref a1), .val (.ref a2), .val (.ref a3), .val (.int (3 : Int32))] [(.long (x3 - y3)), (.int (3 : Int32)), (.ref a1)])) _
    refine X111.ldc2Long hx hown (mvT hZ (own_w hw 7 rfl)) (g := (mkF m 30 #[.val (.ref a1), .val (.ref a2), .val (.ref a3), .val (.int (3 : Int32))] [(.long (x3 - y3)), (.int (3 : Int32)), (.ref a1)])) rfl (hb hby d1_30) _ ?_
    show Steps p.tables e below (T111.setTop (mkF m 33 #[.val (.ref a1), .val (.ref a2), .val (.ref a3), .val (.int (3 : Int32))] [(.long (4503599627370494 : Int64)), (.long (x3 - y3)), (.int (3 : Int32)), (.ref a1)])) _
    refine XS.ladd X111.here hx rfl (hb hby d1_33) rfl ?_
    exact k
  obtain ⟨cl116, Ar116, q116, S116, N116, H116, G116⟩ := id VH_111
  obtain ⟨T115, h115, X115, e115, W115, st115⟩ := stJ X111 hx hZ e111 Ar116 (j := (3 : Int32)) (inb_of (j := (3 : Int32)) S116 ⟨by decide, by decide⟩) (g := (mkF m 34 #[.val (.ref a1), .val (.ref a2), .val (.ref a3), .val (.int (3 : Int32))] [(.long ((x3 - y3) + (4503599627370494 : Int64))), (.int (3 : Int32)), (.ref a1)])) rfl rfl (hb hby d1_34)
  have VH_115 := Arv.set Ar116 q116 S116 N116 H116 G116 rfl W115 3 rfl (Nat.le_of_ble_eq_true rfl)
  have VF_115 := VF_111.other W115 n21
  have VG_115 := VG_111.other W115 n31
  have N115 := Fr.snoc X115 N111 gA
  have KK115 : Keep h0 h115 [a1] := KK111.wr W115 (Or.inl (List.mem_of_getElem? (i := 0) rfl))
  have sz115 : n0 ≤ h115.size := Nat.le_trans sz111 (Nat.le_of_eq W115.size.symm)
  refine Go.st (U' := T115.setTop (mkF m 35 #[.val (.ref a1), .val (.ref a2), .val (.ref a3), .val (.int (3 : Int32))] [])) (fun t k => st115 _ k) ?_
  obtain ⟨cl117, Ar117, q117, S117, N117, H117, G117⟩ := id VF_115
  obtain ⟨cl118, Ar118, q118, S118, N118, H118, G118⟩ := id VG_115
  refine Go.st (U' := T115.setTop (mkF m 34 #[.val (.ref a1), .val (.ref a2), .val (.ref a3), .val (.int (4 : Int32))] [(.long ((x4 - y4) + (4503599627370494 : Int64))), (.int (4 : Int32)), (.ref a1)])) (fun t k => ?_) ?_
  · show Steps p.tables e below (T115.setTop (mkF m 35 #[.val (.ref a1), .val (.ref a2), .val (.ref a3), .val (.int (3 : Int32))] [])) _
    refine XS.iinc X115.here hx rfl (hb hby d1_35) rfl (l' := #[.val (.ref a1), .val (.ref a2), .val (.ref a3), .val (.int (4 : Int32))]) rfl ?_
    show Steps p.tables e below (T115.setTop (mkF m 38 #[.val (.ref a1), .val (.ref a2), .val (.ref a3), .val (.int (4 : Int32))] [])) _
    refine XS.goto X115.here hx rfl (pc0 := 38) (pc' := 16) rfl (hb hby d1_38) (by decide) (by decide) ?_
    show Steps p.tables e below (T115.setTop (mkF m 16 #[.val (.ref a1), .val (.ref a2), .val (.ref a3), .val (.int (4 : Int32))] [])) _
    refine XS.iloadN X115.here hx rfl (hb hby d1_16) rfl ?_
    show Steps p.tables e below (T115.setTop (mkF m 17 #[.val (.ref a1), .val (.ref a2), .val (.ref a3), .val (.int (4 : Int32))] [(.int (4 : Int32))])) _
    refine XS.iconst X115.here hx rfl (hb hby d1_17) ?_
    show Steps p.tables e below (T115.setTop (mkF m 18 #[.val (.ref a1), .val (.ref a2), .val (.ref a3), .val (.int (4 : Int32))] [(.int (5 : Int32)), (.int (4 : Int32))])) _
    refine XS.icmpNo X115.here hx rfl (hb hby d1_18) rfl (tlt (by decide : (4 : Int32) < (5 : Int32))).2.1 ?_
    show Steps p.tables e below (T115.setTop (mkF m 21 #[.val (.ref a1), .val (.ref a2), .val (.ref a3), .val (.int (4 : Int32))] [])) _
    refine XS.aloadN X115.here hx rfl (hb hby d1_21) rfl rfl ?_
    show Steps p.tables e below (T115.setTop (mkF m 22 #[.val (.ref a1), .val (.ref a2), .val (.ref a3), .val (.int (4 : Int32))] [(.ref a1)])) _
    refine XS.iloadN X115.here hx rfl (hb hby d1_22) rfl ?_
    show Steps p.tables e below (T115.setTop (mkF m 23 #[.val (.ref a1), .val (.ref a2), .val (.ref a3), .val (.int (4 : Int32))] [(.int (4 : Int32)), (.ref a1)])) _
    refine XS.aloadN X115.here hx rfl (hb hby d1_23) rfl rfl ?_
    show Steps p.tables e below (T115.setTop (mkF m 24 #[.val (.ref a1), .val (.ref a2), .val (.ref a3), .val (.int (4 : Int32))] [(.ref a2), (.int (4 : Int32)), (.ref a1)])) _
    refine XS.iloadN X115.here hx rfl (hb hby d1_24) rfl ?_
    show Steps p.tables e below (T115.setTop (mkF m 25 #[.val (.ref a1), .val (.ref a2), .val (.ref a3), .val (.int (4 : Int32))] [(.int (4 : Int32)), (.ref a2), (.int (4 : Int32)), (.ref a1)])) _
    refine X115.laload hx (j := (4 : Int32)) (v := (.long x4)) (by rw [e115]; exact Ar117.1) (State.isArrayOf_alike hZ.alike Ar117.2.1) Ar117.2.2 (inb_of (j := (4 : Int32)) S117 ⟨by decide, by decide⟩) (Has.at H117 (inb_of (j := (4 : Int32)) S117 ⟨by decide, by decide⟩) rfl) (g := (mkF m 25 #[.val (.ref a1), .val (.ref a2), .val (.ref a3), .val (.int (4 : Int32))] [(.int (4 : Int32)), (.ref a2), (.int (4 : Int32)), (.ref a1)])) rfl rfl (hb hby d1_25) _ ?_
    show Steps p.tables e below (T115.setTop (mkF m 26 #[.val (.ref a1), .val (.ref a2), .val (.ref a3), .val (.int (4 : Int32))] [(.long x4), (.int (4 : Int32)), (.ref a1)])) _
    refine XS.aloadN X115.here hx rfl (hb hby d1_26) rfl rfl ?_
    show Steps p.tables e below (T115.setTop (mkF m 27 #[.val (.ref a1), .val (.ref a2), .val (.ref a3), .val (.int (4 : Int32))] [(.ref a3), (.long x4), (.int (4 : Int32)), (.ref a1)])) _
    refine XS.iloadN X115.here hx rfl (hb hby d1_27) rfl ?_
    show Steps p.tables e below (T115.setTop (mkF m 28 #[.val (.ref a1), .val (.ref a2), .val (.ref a3), .val (.int (4 : Int32))] [(.int (4 : Int32)), (.ref a3), (.long x4), (.int (4 : Int32)), (.ref a1)])) _
    refine X115.laload hx (j := (4 : Int32)) (v := (.long y4)) (by rw [e115]; exact Ar118.1) (State.isArrayOf_alike hZ.alike Ar118.2.1) Ar118.2.2 (inb_of (j := (4 : Int32)) S118 ⟨by decide, by decide⟩) (Has.at H118 (inb_of (j := (4 : Int32)) S118 ⟨by decide, by decide⟩) rfl) (g := (mkF m 28 #[.val (.ref a1), .val (.ref a2), .val (.ref a3), .val (.int (4 : Int32))] [(.int (4 : Int32)), (.ref a3), (.long x4), (.int (4 : Int32)), (.ref a1)])) rfl rfl (hb hby d1_28) _ ?_
    show Steps p.tables e below (T115.setTop (mkF m 29 #[.val (.ref a1), .val (.ref a2), .val (.ref a3), .val (.int (4 : Int32))] [(.long y4), (.long x4), (.int (4 : Int32)), (.ref a1)])) _
    refine XS.lsub X115.here hx rfl (hb hby d1_29) rfl ?_
    show Steps p.tables e below (T115.setTop (mkF m 30 #[.val (.ref a1), .val (.ref a2), .val (.ref a3), .val (.int (4 : Int32))] [(.long (x4 - y4)), (.int (4 : Int32)), (.ref a1)])) _
    refine X115.ldc2Long hx hown (mvT hZ (own_w hw 7 rfl)) (g := (mkF m 30 #[.val (.ref a1), .val (.ref a2), .val (.ref a3), .val (.int (4 : Int32))] [(.long (x4 - y4)), (.int (4 : Int32)), (.ref a1)])) rfl (hb hby d1_30) _ ?_
    show Steps p.tables e below (T115.setTop (mkF m 33 #[.val (.ref a1), .val (.ref a2), .val (.ref a3), .val (.int (4 : Int32))] [(.long (4503599627370494 : Int64)), (.long (x4 - y4)), (.int (4 : Int32)), (.ref a1)])) _
    refine XS.ladd X115.here hx rfl (hb hby d1_33) rfl ?_
    exact k
  obtain ⟨cl120, Ar120, q120, S120, N120, H120, G120⟩ := id VH_115
  obtain ⟨T119, h119, X119, e119, W119, st119⟩ := stJ X115 hx hZ e115 Ar120 (j := (4 : Int32)) (inb_of (j := (4 : Int32)) S120 ⟨by decide, by decide⟩) (g := (mkF m 34 #[.val (.ref a1), .val (.ref a2), .val (.ref a3), .val (.int (4 : Int32))] [(.long ((x4 - y4) + (4503599627370494 : Int64))), (.int (4 : Int32)), (.ref a1)])) rfl rfl (hb hby d1_34)
  have VH_119 := Arv.set Ar120 q120 S120 N120 H120 G120 rfl W119 4 rfl (Nat.le_of_ble_eq_true rfl)
  have VF_119 := VF_115.other W119 n21
  have VG_119 := VG_115.other W119 n31
  have N119 := Fr.snoc X119 N115 gA
  have KK119 : Keep h0 h119 [a1] := KK115.wr W119 (Or.inl (List.mem_of_getElem? (i := 0) rfl))
  have sz119 : n0 ≤ h119.size := Nat.le_trans sz115 (Nat.le_of_eq W119.size.symm)
  refine Go.st (U' := T119.setTop (mkF m 35 #[.val (.ref a1), .val (.ref a2), .val (.ref a3), .val (.int (4 : Int32))] [])) (fun t k => st119 _ k) ?_
  refine Go.st (U' := T119.setTop (mkF m 41 #[.val (.ref a1), .val (.ref a2), .val (.ref a3), .val (.int (5 : Int32))] [])) (fun t k => ?_) ?_
  · show Steps p.tables e below (T119.setTop (mkF m 35 #[.val (.ref a1), .val (.ref a2), .val (.ref a3), .val (.int (4 : Int32))] [])) _
    refine XS.iinc X119.here hx rfl (hb hby d1_35) rfl (l' := #[.val (.ref a1), .val (.ref a2), .val (.ref a3), .val (.int (5 : Int32))]) rfl ?_
    show Steps p.tables e below (T119.setTop (mkF m 38 #[.val (.ref a1), .val (.ref a2), .val (.ref a3), .val (.int (5 : Int32))] [])) _
    refine XS.goto X119.here hx rfl (pc0 := 38) (pc' := 16) rfl (hb hby d1_38) (by decide) (by decide) ?_
    show Steps p.tables e below (T119.setTop (mkF m 16 #[.val (.ref a1), .val (.ref a2), .val (.ref a3), .val (.int (5 : Int32))] [])) _
    refine XS.iloadN X119.here hx rfl (hb hby d1_16) rfl ?_
    show Steps p.tables e below (T119.setTop (mkF m 17 #[.val (.ref a1), .val (.ref a2), .val (.ref a3), .val (.int (5 : Int32))] [(.int (5 : Int32))])) _
    refine XS.iconst X119.here hx rfl (hb hby d1_17) ?_
    show Steps p.tables e below (T119.setTop (mkF m 18 #[.val (.ref a1), .val (.ref a2), .val (.ref a3), .val (.int (5 : Int32))] [(.int (5 : Int32)), (.int (5 : Int32))])) _
    refine XS.icmpYes X119.here hx rfl (pc0 := 18) (pc' := 41) rfl (hb hby d1_18) rfl (flt (by decide : ¬ ((5 : Int32) < (5 : Int32)))).2.1 (by decide) (by decide) ?_
    exact k
  refine own_ret (Q := Q1 Z a1 a2 a3 k1 k2 k3 x0 x1 x2 x3 x4 y0 y1 y2 y3 y4 z0 z1 z2 z3 z4 h0 n0) (v := none) X119 hlk (fun _ => rfl) (by decide) (by decide) ?_ (fun fs hr => X119.returnOut hx hrt (hb hby d1_41) hr)
  rw [e119]
  exact ⟨rfl, N119, KK119, VH_119⟩
theorem d2_0 : decode prog_21_method_4_code 0 = .ok (.iconst 0, 1) := by decide +kernel
theorem d2_1 : decode prog_21_method_4_code 1 = .ok (.istore_n 3, 1) := by decide +kernel
theorem d2_2 : decode prog_21_method_4_code 2 = .ok (.iload_n 3, 1) := by decide +kernel
theorem d2_3 : decode prog_21_method_4_code 3 = .ok (.iconst 5, 1) := by decide +kernel
theorem d2_4 : decode prog_21_method_4_code 4 = .ok (.if_icmp .ge 19, 3) := by decide +kernel
theorem d2_7 : decode prog_21_method_4_code 7 = .ok (.aload_n 0, 1) := by decide +kernel
theorem d2_8 : decode prog_21_method_4_code 8 = .ok (.iload_n 3, 1) := by decide +kernel
theorem d2_9 : decode prog_21_method_4_code 9 = .ok (.aload_n 1, 1) := by decide +kernel
theorem d2_10 : decode prog_21_method_4_code 10 = .ok (.iload_n 3, 1) := by decide +kernel
theorem d2_11 : decode prog_21_method_4_code 11 = .ok (.laload, 1) := by decide +kernel
theorem d2_12 : decode prog_21_method_4_code 12 = .ok (.aload_n 2, 1) := by decide +kernel
theorem d2_13 : decode prog_21_method_4_code 13 = .ok (.iload_n 3, 1) := by decide +kernel
theorem d2_14 : decode prog_21_method_4_code 14 = .ok (.laload, 1) := by decide +kernel
theorem d2_15 : decode prog_21_method_4_code 15 = .ok (.ladd, 1) := by decide +kernel
theorem d2_16 : decode prog_21_method_4_code 16 = .ok (.lastore, 1) := by decide +kernel
theorem d2_17 : decode prog_21_method_4_code 17 = .ok (.iinc 3 1, 3) := by decide +kernel
theorem d2_20 : decode prog_21_method_4_code 20 = .ok (.goto (-18), 3) := by decide +kernel
theorem d2_23 : decode prog_21_method_4_code 23 = .ok (.return_, 1) := by decide +kernel
theorem ef2 (m : MethodId) (a1 : Addr) (a2 : Addr) (a3 : Addr) : entryFrame m #[(.ref a1), (.ref a2), (.ref a3)] 4 = mkF m 0 #[.val (.ref a1), .val (.ref a2), .val (.ref a3), .unset] [] := by first | (simp [entryFrame, mkF, argsToLocals, Value.category]; done) | rfl
def Q2 (Z : State) (a1 : Addr) (a2 : Addr) (a3 : Addr) (k1 : ClassId) (k2 : ClassId) (k3 : ClassId) (x0 : Int64) (x1 : Int64) (x2 : Int64) (x3 : Int64) (x4 : Int64) (y0 : Int64) (y1 : Int64) (y2 : Int64) (y3 : Int64) (y4 : Int64) (z0 : Int64) (z1 : Int64) (z2 : Int64) (z3 : Int64) (z4 : Int64) (h0 : Heap) (n0 : Nat) (v : Option Value) (h : Heap) (L : List Loc) : Prop := v = none ∧ Fr n0 L ∧ Keep h0 h [a1] ∧ Arv Z h a1 k1 .long (5 : Int32) [(.long (x0 + y0)), (.long (x1 + y1)), (.long (x2 + y2)), (.long (x3 + y3)), (.long (x4 + y4))] (.long (0 : Int64))
set_option maxRecDepth 65536 in
set_option maxHeartbeats 40000000 in
theorem rm2 (l : Launch) (Z : State) (a0 : Array Value) (hw : ∀ d ∈ tables_1, d.before a0 Z = true) (ws : List Jvm.Cond) (a1 : Addr) (a2 : Addr) (a3 : Addr) (k1 : ClassId) (k2 : ClassId) (k3 : ClassId) (x0 : Int64) (x1 : Int64) (x2 : Int64) (x3 : Int64) (x4 : Int64) (y0 : Int64) (y1 : Int64) (y2 : Int64) (y3 : Int64) (y4 : Int64) (z0 : Int64) (z1 : Int64) (z2 : Int64) (z3 : Int64) (z4 : Int64) (h0 : Heap) (n0 : Nat) (Z0 : n0 ≤ h0.size) (VH : Arv Z h0 a1 k1 .long (5 : Int32) [(.long z0), (.long z1), (.long z2), (.long z3), (.long z4)] (.long (0 : Int64))) (VF : Arv Z h0 a2 k2 .long (5 : Int32) [(.long x0), (.long x1), (.long x2), (.long x3), (.long x4)] (.long (0 : Int64))) (VG : Arv Z h0 a3 k3 .long (5 : Int32) [(.long y0), (.long y1), (.long y2), (.long y3), (.long y4)] (.long (0 : Int64))) (gA : n0 ≤ a1) (n21 : a2 ≠ a1) (n31 : a3 ≠ a1) :
    MetFree l own_y1 (head1 (Jvm.Cond.code own_y1 prog_21_method_4_code 4 none :: ws) own_R0_0_0_0) (fun a U => a = #[(.ref a1), (.ref a2), (.ref a3)] ∧ Z.Warmed39 U.vm ∧ U.heap = h0) (fun _ _ _ _ _ => True) (fun _ U o U' => ∃ v L, o = .returned v ∧ Q2 Z a1 a2 a3 k1 k2 k3 x0 x1 x2 x3 x4 y0 y1 y2 y3 y4 z0 z1 z2 z3 z4 h0 n0 v U'.heap L ∧ FrameEnd U o U' L (own_R0_0_0_0).cells (own_R0_0_0_0).slots) := by
  refine MetFree.of_bodySF (plainFor_of_name pn_0) hisR ?_
  intro p e s m args below meth c s₁ Bd hml0 hP hK
  obtain ⟨rfl, hZ, hh⟩ := hP
  have hx := Bd.exec
  have hby := Bd.bytes
  have hml : c.maxLocals = 4 := hml0
  have hown : s.vm.findClass "com/example/hopwright/hopwright/crypto/Field25519" = some m.cls := findClass_of_methodNamed Bd.named
  have hnm := (name_of_methodNamed Bd.named Bd.method).1
  have hlk : meth.locks = false := BodyLoose.notSynchronized Bd
  have hrt := Bd.returns
  have X0 : Stand p l e own_R0_0_0_0 s m #[(.ref a1), (.ref a2), (.ref a3)] below meth c s₁ [] 0 0 := Stand.of_body Bd
  have e0 : s₁.heap = h0 := by rw [← hh, Bd.state]; rfl
  have N0 := Fr.nil n0
  refine (show Go p e below (fun s₂ o => ∃ v L, o = .returned v ∧ Q2 Z a1 a2 a3 k1 k2 k3 x0 x1 x2 x3 x4 y0 y1 y2 y3 y4 z0 z1 z2 z3 z4 h0 n0 v s₂.heap L ∧ FrameEnd s o s₂ L 0 0) (s₁.setTop (entryFrame m #[(.ref a1), (.ref a2), (.ref a3)] 4)) from ?_)
  rw [ef2]
  obtain ⟨cl121, Ar121, q121, S121, N121, H121, G121⟩ := id VF
  obtain ⟨cl122, Ar122, q122, S122, N122, H122, G122⟩ := id VG
  refine Go.st (U' := s₁.setTop (mkF m 16 #[.val (.ref a1), .val (.ref a2), .val (.ref a3), .val (.int (0 : Int32))] [(.long (x0 + y0)), (.int (0 : Int32)), (.ref a1)])) (fun t k => ?_) ?_
  · show Steps p.tables e below (s₁.setTop (mkF m 0 #[.val (.ref a1), .val (.ref a2), .val (.ref a3), .unset] [])) _
    refine XS.iconst X0.here hx rfl (hb hby d2_0) ?_
    show Steps p.tables e below (s₁.setTop (mkF m 1 #[.val (.ref a1), .val (.ref a2), .val (.ref a3), .unset] [(.int (0 : Int32))])) _
    refine XS.istoreN X0.here hx rfl (hb hby d2_1) rfl (l' := #[.val (.ref a1), .val (.ref a2), .val (.ref a3), .val (.int (0 : Int32))]) rfl ?_
    show Steps p.tables e below (s₁.setTop (mkF m 2 #[.val (.ref a1), .val (.ref a2), .val (.ref a3), .val (.int (0 : Int32))] [])) _
    refine XS.iloadN X0.here hx rfl (hb hby d2_2) rfl ?_
    show Steps p.tables e below (s₁.setTop (mkF m 3 #[.val (.ref a1), .val (.ref a2), .val (.ref a3), .val (.int (0 : Int32))] [(.int (0 : Int32))])) _
    refine XS.iconst X0.here hx rfl (hb hby d2_3) ?_
    show Steps p.tables e below (s₁.setTop (mkF m 4 #[.val (.ref a1), .val (.ref a2), .val (.ref a3), .val (.int (0 : Int32))] [(.int (5 : Int32)), (.int (0 : Int32))])) _
    refine XS.icmpNo X0.here hx rfl (hb hby d2_4) rfl (tlt (by decide : (0 : Int32) < (5 : Int32))).2.1 ?_
    show Steps p.tables e below (s₁.setTop (mkF m 7 #[.val (.ref a1), .val (.ref a2), .val (.ref a3), .val (.int (0 : Int32))] [])) _
    refine XS.aloadN X0.here hx rfl (hb hby d2_7) rfl rfl ?_
    show Steps p.tables e below (s₁.setTop (mkF m 8 #[.val (.ref a1), .val (.ref a2), .val (.ref a3), .val (.int (0 : Int32))] [(.ref a1)])) _
    refine XS.iloadN X0.here hx rfl (hb hby d2_8) rfl ?_
    show Steps p.tables e below (s₁.setTop (mkF m 9 #[.val (.ref a1), .val (.ref a2), .val (.ref a3), .val (.int (0 : Int32))] [(.int (0 : Int32)), (.ref a1)])) _
    refine XS.aloadN X0.here hx rfl (hb hby d2_9) rfl rfl ?_
    show Steps p.tables e below (s₁.setTop (mkF m 10 #[.val (.ref a1), .val (.ref a2), .val (.ref a3), .val (.int (0 : Int32))] [(.ref a2), (.int (0 : Int32)), (.ref a1)])) _
    refine XS.iloadN X0.here hx rfl (hb hby d2_10) rfl ?_
    show Steps p.tables e below (s₁.setTop (mkF m 11 #[.val (.ref a1), .val (.ref a2), .val (.ref a3), .val (.int (0 : Int32))] [(.int (0 : Int32)), (.ref a2), (.int (0 : Int32)), (.ref a1)])) _
    refine X0.laload hx (j := (0 : Int32)) (v := (.long x0)) (by rw [e0]; exact Ar121.1) (State.isArrayOf_alike hZ.alike Ar121.2.1) Ar121.2.2 (inb_of (j := (0 : Int32)) S121 ⟨by decide, by decide⟩) (Has.at H121 (inb_of (j := (0 : Int32)) S121 ⟨by decide, by decide⟩) rfl) (g := (mkF m 11 #[.val (.ref a1), .val (.ref a2), .val (.ref a3), .val (.int (0 : Int32))] [(.int (0 : Int32)), (.ref a2), (.int (0 : Int32)), (.ref a1)])) rfl rfl (hb hby d2_11) _ ?_
    show Steps p.tables e below (s₁.setTop (mkF m 12 #[.val (.ref a1), .val (.ref a2), .val (.ref a3), .val (.int (0 : Int32))] [(.long x0), (.int (0 : Int32)), (.ref a1)])) _
    refine XS.aloadN X0.here hx rfl (hb hby d2_12) rfl rfl ?_
    show Steps p.tables e below (s₁.setTop (mkF m 13 #[.val (.ref a1), .val (.ref a2), .val (.ref a3), .val (.int (0 : Int32))] [(.ref a3), (.long x0), (.int (0 : Int32)), (.ref a1)])) _
    refine XS.iloadN X0.here hx rfl (hb hby d2_13) rfl ?_
    show Steps p.tables e below (s₁.setTop (mkF m 14 #[.val (.ref a1), .val (.ref a2), .val (.ref a3), .val (.int (0 : Int32))] [(.int (0 : Int32)), (.ref a3), (.long x0), (.int (0 : Int32)), (.ref a1)])) _
    refine X0.laload hx (j := (0 : Int32)) (v := (.long y0)) (by rw [e0]; exact Ar122.1) (State.isArrayOf_alike hZ.alike Ar122.2.1) Ar122.2.2 (inb_of (j := (0 : Int32)) S122 ⟨by decide, by decide⟩) (Has.at H122 (inb_of (j := (0 : Int32)) S122 ⟨by decide, by decide⟩) rfl) (g := (mkF m 14 #[.val (.ref a1), .val (.ref a2), .val (.ref a3), .val (.int (0 : Int32))] [(.int (0 : Int32)), (.ref a3), (.long x0), (.int (0 : Int32)), (.ref a1)])) rfl rfl (hb hby d2_14) _ ?_
    show Steps p.tables e below (s₁.setTop (mkF m 15 #[.val (.ref a1), .val (.ref a2), .val (.ref a3), .val (.int (0 : Int32))] [(.long y0), (.long x0), (.int (0 : Int32)), (.ref a1)])) _
    refine XS.ladd X0.here hx rfl (hb hby d2_15) rfl ?_
    exact k
  obtain ⟨cl124, Ar124, q124, S124, N124, H124, G124⟩ := id VH
  obtain ⟨T123, h123, X123, e123, W123, st123⟩ := stJ X0 hx hZ e0 Ar124 (j := (0 : Int32)) (inb_of (j := (0 : Int32)) S124 ⟨by decide, by decide⟩) (g := (mkF m 16 #[.val (.ref a1), .val (.ref a2), .val (.ref a3), .val (.int (0 : Int32))] [(.long (x0 + y0)), (.int (0 : Int32)), (.ref a1)])) rfl rfl (hb hby d2_16)
  have VH_123 := Arv.set Ar124 q124 S124 N124 H124 G124 rfl W123 0 rfl (Nat.le_of_ble_eq_true rfl)
  have VF_123 := VF.other W123 n21
  have VG_123 := VG.other W123 n31
  have N123 := Fr.snoc X123 N0 gA
  have KK123 : Keep h0 h123 [a1] := (Keep.refl h0 [a1]).wr W123 (Or.inl (List.mem_of_getElem? (i := 0) rfl))
  have sz123 : n0 ≤ h123.size := Nat.le_trans Z0 (Nat.le_of_eq W123.size.symm)
  refine Go.st (U' := T123.setTop (mkF m 17 #[.val (.ref a1), .val (.ref a2), .val (.ref a3), .val (.int (0 : Int32))] [])) (fun t k => st123 _ k) ?_
  obtain ⟨cl125, Ar125, q125, S125, N125, H125, G125⟩ := id VF_123
  obtain ⟨cl126, Ar126, q126, S126, N126, H126, G126⟩ := id VG_123
  refine Go.st (U' := T123.setTop (mkF m 16 #[.val (.ref a1), .val (.ref a2), .val (.ref a3), .val (.int (1 : Int32))] [(.long (x1 + y1)), (.int (1 : Int32)), (.ref a1)])) (fun t k => ?_) ?_
  · show Steps p.tables e below (T123.setTop (mkF m 17 #[.val (.ref a1), .val (.ref a2), .val (.ref a3), .val (.int (0 : Int32))] [])) _
    refine XS.iinc X123.here hx rfl (hb hby d2_17) rfl (l' := #[.val (.ref a1), .val (.ref a2), .val (.ref a3), .val (.int (1 : Int32))]) rfl ?_
    show Steps p.tables e below (T123.setTop (mkF m 20 #[.val (.ref a1), .val (.ref a2), .val (.ref a3), .val (.int (1 : Int32))] [])) _
    refine XS.goto X123.here hx rfl (pc0 := 20) (pc' := 2) rfl (hb hby d2_20) (by decide) (by decide) ?_
    show Steps p.tables e below (T123.setTop (mkF m 2 #[.val (.ref a1), .val (.ref a2), .val (.ref a3), .val (.int (1 : Int32))] [])) _
    refine XS.iloadN X123.here hx rfl (hb hby d2_2) rfl ?_
    show Steps p.tables e below (T123.setTop (mkF m 3 #[.val (.ref a1), .val (.ref a2), .val (.ref a3), .val (.int (1 : Int32))] [(.int (1 : Int32))])) _
    refine XS.iconst X123.here hx rfl (hb hby d2_3) ?_
    show Steps p.tables e below (T123.setTop (mkF m 4 #[.val (.ref a1), .val (.ref a2), .val (.ref a3), .val (.int (1 : Int32))] [(.int (5 : Int32)), (.int (1 : Int32))])) _
    refine XS.icmpNo X123.here hx rfl (hb hby d2_4) rfl (tlt (by decide : (1 : Int32) < (5 : Int32))).2.1 ?_
    show Steps p.tables e below (T123.setTop (mkF m 7 #[.val (.ref a1), .val (.ref a2), .val (.ref a3), .val (.int (1 : Int32))] [])) _
    refine XS.aloadN X123.here hx rfl (hb hby d2_7) rfl rfl ?_
    show Steps p.tables e below (T123.setTop (mkF m 8 #[.val (.ref a1), .val (.ref a2), .val (.ref a3), .val (.int (1 : Int32))] [(.ref a1)])) _
    refine XS.iloadN X123.here hx rfl (hb hby d2_8) rfl ?_
    show Steps p.tables e below (T123.setTop (mkF m 9 #[.val (.ref a1), .val (.ref a2), .val (.ref a3), .val (.int (1 : Int32))] [(.int (1 : Int32)), (.ref a1)])) _
    refine XS.aloadN X123.here hx rfl (hb hby d2_9) rfl rfl ?_
    show Steps p.tables e below (T123.setTop (mkF m 10 #[.val (.ref a1), .val (.ref a2), .val (.ref a3), .val (.int (1 : Int32))] [(.ref a2), (.int (1 : Int32)), (.ref a1)])) _
    refine XS.iloadN X123.here hx rfl (hb hby d2_10) rfl ?_
    show Steps p.tables e below (T123.setTop (mkF m 11 #[.val (.ref a1), .val (.ref a2), .val (.ref a3), .val (.int (1 : Int32))] [(.int (1 : Int32)), (.ref a2), (.int (1 : Int32)), (.ref a1)])) _
    refine X123.laload hx (j := (1 : Int32)) (v := (.long x1)) (by rw [e123]; exact Ar125.1) (State.isArrayOf_alike hZ.alike Ar125.2.1) Ar125.2.2 (inb_of (j := (1 : Int32)) S125 ⟨by decide, by decide⟩) (Has.at H125 (inb_of (j := (1 : Int32)) S125 ⟨by decide, by decide⟩) rfl) (g := (mkF m 11 #[.val (.ref a1), .val (.ref a2), .val (.ref a3), .val (.int (1 : Int32))] [(.int (1 : Int32)), (.ref a2), (.int (1 : Int32)), (.ref a1)])) rfl rfl (hb hby d2_11) _ ?_
    show Steps p.tables e below (T123.setTop (mkF m 12 #[.val (.ref a1), .val (.ref a2), .val (.ref a3), .val (.int (1 : Int32))] [(.long x1), (.int (1 : Int32)), (.ref a1)])) _
    refine XS.aloadN X123.here hx rfl (hb hby d2_12) rfl rfl ?_
    show Steps p.tables e below (T123.setTop (mkF m 13 #[.val (.ref a1), .val (.ref a2), .val (.ref a3), .val (.int (1 : Int32))] [(.ref a3), (.long x1), (.int (1 : Int32)), (.ref a1)])) _
    refine XS.iloadN X123.here hx rfl (hb hby d2_13) rfl ?_
    show Steps p.tables e below (T123.setTop (mkF m 14 #[.val (.ref a1), .val (.ref a2), .val (.ref a3), .val (.int (1 : Int32))] [(.int (1 : Int32)), (.ref a3), (.long x1), (.int (1 : Int32)), (.ref a1)])) _
    refine X123.laload hx (j := (1 : Int32)) (v := (.long y1)) (by rw [e123]; exact Ar126.1) (State.isArrayOf_alike hZ.alike Ar126.2.1) Ar126.2.2 (inb_of (j := (1 : Int32)) S126 ⟨by decide, by decide⟩) (Has.at H126 (inb_of (j := (1 : Int32)) S126 ⟨by decide, by decide⟩) rfl) (g := (mkF m 14 #[.val (.ref a1), .val (.ref a2), .val (.ref a3), .val (.int (1 : Int32))] [(.int (1 : Int32)), (.ref a3), (.long x1), (.int (1 : Int32)), (.ref a1)])) rfl rfl (hb hby d2_14) _ ?_
    show Steps p.tables e below (T123.setTop (mkF m 15 #[.val (.ref a1), .val (.ref a2), .val (.ref a3), .val (.int (1 : Int32))] [(.long y1), (.long x1), (.int (1 : Int32)), (.ref a1)])) _
    refine XS.ladd X123.here hx rfl (hb hby d2_15) rfl ?_
    exact k
  obtain ⟨cl128, Ar128, q128, S128, N128, H128, G128⟩ := id VH_123
  obtain ⟨T127, h127, X127, e127, W127, st127⟩ := stJ X123 hx hZ e123 Ar128 (j := (1 : Int32)) (inb_of (j := (1 : Int32)) S128 ⟨by decide, by decide⟩) (g := (mkF m 16 #[.val (.ref a1), .val (.ref a2), .val (.ref a3), .val (.int (1 : Int32))] [(.long (x1 + y1)), (.int (1 : Int32)), (.ref a1)])) rfl rfl (hb hby d2_16)
  have VH_127 := Arv.set Ar128 q128 S128 N128 H128 G128 rfl W127 1 rfl (Nat.le_of_ble_eq_true rfl)
  have VF_127 := VF_123.other W127 n21
  have VG_127 := VG_123.other W127 n31
  have N127 := Fr.snoc X127 N123 gA
  have KK127 : Keep h0 h127 [a1] := KK123.wr W127 (Or.inl (List.mem_of_getElem? (i := 0) rfl))
  have sz127 : n0 ≤ h127.size := Nat.le_trans sz123 (Nat.le_of_eq W127.size.symm)
  refine Go.st (U' := T127.setTop (mkF m 17 #[.val (.ref a1), .val (.ref a2), .val (.ref a3), .val (.int (1 : Int32))] [])) (fun t k => st127 _ k) ?_
  obtain ⟨cl129, Ar129, q129, S129, N129, H129, G129⟩ := id VF_127
  obtain ⟨cl130, Ar130, q130, S130, N130, H130, G130⟩ := id VG_127
  refine Go.st (U' := T127.setTop (mkF m 16 #[.val (.ref a1), .val (.ref a2), .val (.ref a3), .val (.int (2 : Int32))] [(.long (x2 + y2)), (.int (2 : Int32)), (.ref a1)])) (fun t k => ?_) ?_
  · show Steps p.tables e below (T127.setTop (mkF m 17 #[.val (.ref a1), .val (.ref a2), .val (.ref a3), .val (.int (1 : Int32))] [])) _
    refine XS.iinc X127.here hx rfl (hb hby d2_17) rfl (l' := #[.val (.ref a1), .val (.ref a2), .val (.ref a3), .val (.int (2 : Int32))]) rfl ?_
    show Steps p.tables e below (T127.setTop (mkF m 20 #[.val (.ref a1), .val (.ref a2), .val (.ref a3), .val (.int (2 : Int32))] [])) _
    refine XS.goto X127.here hx rfl (pc0 := 20) (pc' := 2) rfl (hb hby d2_20) (by decide) (by decide) ?_
    show Steps p.tables e below (T127.setTop (mkF m 2 #[.val (.ref a1), .val (.ref a2), .val (.ref a3), .val (.int (2 : Int32))] [])) _
    refine XS.iloadN X127.here hx rfl (hb hby d2_2) rfl ?_
    show Steps p.tables e below (T127.setTop (mkF m 3 #[.val (.ref a1), .val (.ref a2), .val (.ref a3), .val (.int (2 : Int32))] [(.int (2 : Int32))])) _
    refine XS.iconst X127.here hx rfl (hb hby d2_3) ?_
    show Steps p.tables e below (T127.setTop (mkF m 4 #[.val (.ref a1), .val (.ref a2), .val (.ref a3), .val (.int (2 : Int32))] [(.int (5 : Int32)), (.int (2 : Int32))])) _
    refine XS.icmpNo X127.here hx rfl (hb hby d2_4) rfl (tlt (by decide : (2 : Int32) < (5 : Int32))).2.1 ?_
    show Steps p.tables e below (T127.setTop (mkF m 7 #[.val (.ref a1), .val (.ref a2), .val (.ref a3), .val (.int (2 : Int32))] [])) _
    refine XS.aloadN X127.here hx rfl (hb hby d2_7) rfl rfl ?_
    show Steps p.tables e below (T127.setTop (mkF m 8 #[.val (.ref a1), .val (.ref a2), .val (.ref a3), .val (.int (2 : Int32))] [(.ref a1)])) _
    refine XS.iloadN X127.here hx rfl (hb hby d2_8) rfl ?_
    show Steps p.tables e below (T127.setTop (mkF m 9 #[.val (.ref a1), .val (.ref a2), .val (.ref a3), .val (.int (2 : Int32))] [(.int (2 : Int32)), (.ref a1)])) _
    refine XS.aloadN X127.here hx rfl (hb hby d2_9) rfl rfl ?_
    show Steps p.tables e below (T127.setTop (mkF m 10 #[.val (.ref a1), .val (.ref a2), .val (.ref a3), .val (.int (2 : Int32))] [(.ref a2), (.int (2 : Int32)), (.ref a1)])) _
    refine XS.iloadN X127.here hx rfl (hb hby d2_10) rfl ?_
    show Steps p.tables e below (T127.setTop (mkF m 11 #[.val (.ref a1), .val (.ref a2), .val (.ref a3), .val (.int (2 : Int32))] [(.int (2 : Int32)), (.ref a2), (.int (2 : Int32)), (.ref a1)])) _
    refine X127.laload hx (j := (2 : Int32)) (v := (.long x2)) (by rw [e127]; exact Ar129.1) (State.isArrayOf_alike hZ.alike Ar129.2.1) Ar129.2.2 (inb_of (j := (2 : Int32)) S129 ⟨by decide, by decide⟩) (Has.at H129 (inb_of (j := (2 : Int32)) S129 ⟨by decide, by decide⟩) rfl) (g := (mkF m 11 #[.val (.ref a1), .val (.ref a2), .val (.ref a3), .val (.int (2 : Int32))] [(.int (2 : Int32)), (.ref a2), (.int (2 : Int32)), (.ref a1)])) rfl rfl (hb hby d2_11) _ ?_
    show Steps p.tables e below (T127.setTop (mkF m 12 #[.val (.ref a1), .val (.ref a2), .val (.ref a3), .val (.int (2 : Int32))] [(.long x2), (.int (2 : Int32)), (.ref a1)])) _
    refine XS.aloadN X127.here hx rfl (hb hby d2_12) rfl rfl ?_
    show Steps p.tables e below (T127.setTop (mkF m 13 #[.val (.ref a1), .val (.ref a2), .val (.ref a3), .val (.int (2 : Int32))] [(.ref a3), (.long x2), (.int (2 : Int32)), (.ref a1)])) _
    refine XS.iloadN X127.here hx rfl (hb hby d2_13) rfl ?_
    show Steps p.tables e below (T127.setTop (mkF m 14 #[.val (.ref a1), .val (.ref a2), .val (.ref a3), .val (.int (2 : Int32))] [(.int (2 : Int32)), (.ref a3), (.long x2), (.int (2 : Int32)), (.ref a1)])) _
    refine X127.laload hx (j := (2 : Int32)) (v := (.long y2)) (by rw [e127]; exact Ar130.1) (State.isArrayOf_alike hZ.alike Ar130.2.1) Ar130.2.2 (inb_of (j := (2 : Int32)) S130 ⟨by decide, by decide⟩) (Has.at H130 (inb_of (j := (2 : Int32)) S130 ⟨by decide, by decide⟩) rfl) (g := (mkF m 14 #[.val (.ref a1), .val (.ref a2), .val (.ref a3), .val (.int (2 : Int32))] [(.int (2 : Int32)), (.ref a3), (.long x2), (.int (2 : Int32)), (.ref a1)])) rfl rfl (hb hby d2_14) _ ?_
    show Steps p.tables e below (T127.setTop (mkF m 15 #[.val (.ref a1), .val (.ref a2), .val (.ref a3), .val (.int (2 : Int32))] [(.long y2), (.long x2), (.int (2 : Int32)), (.ref a1)])) _
    refine XS.ladd X127.here hx rfl (hb hby d2_15) rfl ?_
    exact k
  obtain ⟨cl132, Ar132, q132, S132, N132, H132, G132⟩ := id VH_127
  obtain ⟨T131, h131, X131, e131, W131, st131⟩ := stJ X127 hx hZ e127 Ar132 (j := (2 : Int32)) (inb_of (j := (2 : Int32)) S132 ⟨by decide, by decide⟩) (g := (mkF m 16 #[.val (.ref a1), .val (.ref a2), .val (.ref a3), .val (.int (2 : Int32))] [(.long (x2 + y2)), (.int (2 : Int32)), (.ref a1)])) rfl rfl (hb hby d2_16)
  have VH_131 := Arv.set Ar132 q132 S132 N132 H132 G132 rfl W131 2 rfl (Nat.le_of_ble_eq_true rfl)
  have VF_131 := VF_127.other W131 n21
  have VG_131 := VG_127.other W131 n31
  have N131 := Fr.snoc X131 N127 gA
  have KK131 : Keep h0 h131 [a1] := KK127.wr W131 (Or.inl (List.mem_of_getElem? (i := 0) rfl))
  have sz131 : n0 ≤ h131.size := Nat.le_trans sz127 (Nat.le_of_eq W131.size.symm)
  refine Go.st (U' := T131.setTop (mkF m 17 #[.val (.ref a1), .val (.ref a2), .val (.ref a3), .val (.int (2 : Int32))] [])) (fun t k => st131 _ k) ?_
  obtain ⟨cl133, Ar133, q133, S133, N133, H133, G133⟩ := id VF_131
  obtain ⟨cl134, Ar134, q134, S134, N134, H134, G134⟩ := id VG_131
  refine Go.st (U' := T131.setTop (mkF m 16 #[.val (.ref a1), .val (.ref a2), .val (.ref a3), .val (.int (3 : Int32))] [(.long (x3 + y3)), (.int (3 : Int32)), (.ref a1)])) (fun t k => ?_) ?_
  · show Steps p.tables e below (T131.setTop (mkF m 17 #[.val (.ref a1), .val (.ref a2), .val (.ref a3), .val (.int (2 : Int32))] [])) _
    refine XS.iinc X131.here hx rfl (hb hby d2_17) rfl (l' := #[.val (.ref a1), .val (.ref a2), .val (.ref a3), .val (.int (3 : Int32))]) rfl ?_
    show Steps p.tables e below (T131.setTop (mkF m 20 #[.val (.ref a1), .val (.ref a2), .val (.ref a3), .val (.int (3 : Int32))] [])) _
    refine XS.goto X131.here hx rfl (pc0 := 20) (pc' := 2) rfl (hb hby d2_20) (by decide) (by decide) ?_
    show Steps p.tables e below (T131.setTop (mkF m 2 #[.val (.ref a1), .val (.ref a2), .val (.ref a3), .val (.int (3 : Int32))] [])) _
    refine XS.iloadN X131.here hx rfl (hb hby d2_2) rfl ?_
    show Steps p.tables e below (T131.setTop (mkF m 3 #[.val (.ref a1), .val (.ref a2), .val (.ref a3), .val (.int (3 : Int32))] [(.int (3 : Int32))])) _
    refine XS.iconst X131.here hx rfl (hb hby d2_3) ?_
    show Steps p.tables e below (T131.setTop (mkF m 4 #[.val (.ref a1), .val (.ref a2), .val (.ref a3), .val (.int (3 : Int32))] [(.int (5 : Int32)), (.int (3 : Int32))])) _
    refine XS.icmpNo X131.here hx rfl (hb hby d2_4) rfl (tlt (by decide : (3 : Int32) < (5 : Int32))).2.1 ?_
    show Steps p.tables e below (T131.setTop (mkF m 7 #[.val (.ref a1), .val (.ref a2), .val (.ref a3), .val (.int (3 : Int32))] [])) _
    refine XS.aloadN X131.here hx rfl (hb hby d2_7) rfl rfl ?_
    show Steps p.tables e below (T131.setTop (mkF m 8 #[.val (.ref a1), .val (.ref a2), .val (.ref a3), .val (.int (3 : Int32))] [(.ref a1)])) _
    refine XS.iloadN X131.here hx rfl (hb hby d2_8) rfl ?_
    show Steps p.tables e below (T131.setTop (mkF m 9 #[.val (.ref a1), .val (.ref a2), .val (.ref a3), .val (.int (3 : Int32))] [(.int (3 : Int32)), (.ref a1)])) _
    refine XS.aloadN X131.here hx rfl (hb hby d2_9) rfl rfl ?_
    show Steps p.tables e below (T131.setTop (mkF m 10 #[.val (.ref a1), .val (.ref a2), .val (.ref a3), .val (.int (3 : Int32))] [(.ref a2), (.int (3 : Int32)), (.ref a1)])) _
    refine XS.iloadN X131.here hx rfl (hb hby d2_10) rfl ?_
    show Steps p.tables e below (T131.setTop (mkF m 11 #[.val (.ref a1), .val (.ref a2), .val (.ref a3), .val (.int (3 : Int32))] [(.int (3 : Int32)), (.ref a2), (.int (3 : Int32)), (.ref a1)])) _
    refine X131.laload hx (j := (3 : Int32)) (v := (.long x3)) (by rw [e131]; exact Ar133.1) (State.isArrayOf_alike hZ.alike Ar133.2.1) Ar133.2.2 (inb_of (j := (3 : Int32)) S133 ⟨by decide, by decide⟩) (Has.at H133 (inb_of (j := (3 : Int32)) S133 ⟨by decide, by decide⟩) rfl) (g := (mkF m 11 #[.val (.ref a1), .val (.ref a2), .val (.ref a3), .val (.int (3 : Int32))] [(.int (3 : Int32)), (.ref a2), (.int (3 : Int32)), (.ref a1)])) rfl rfl (hb hby d2_11) _ ?_
    show Steps p.tables e below (T131.setTop (mkF m 12 #[.val (.ref a1), .val (.ref a2), .val (.ref a3), .val (.int (3 : Int32))] [(.long x3), (.int (3 : Int32)), (.ref a1)])) _
    refine XS.aloadN X131.here hx rfl (hb hby d2_12) rfl rfl ?_
    show Steps p.tables e below (T131.setTop (mkF m 13 #[.val (.ref a1), .val (.ref a2), .val (.ref a3), .val (.int (3 : Int32))] [(.ref a3), (.long x3), (.int (3 : Int32)), (.ref a1)])) _
    refine XS.iloadN X131.here hx rfl (hb hby d2_13) rfl ?_
    show Steps p.tables e below (T131.setTop (mkF m 14 #[.val (.ref a1), .val (.ref a2), .val (.ref a3), .val (.int (3 : Int32))] [(.int (3 : Int32)), (.ref a3), (.long x3), (.int (3 : Int32)), (.ref a1)])) _
    refine X131.laload hx (j := (3 : Int32)) (v := (.long y3)) (by rw [e131]; exact Ar134.1) (State.isArrayOf_alike hZ.alike Ar134.2.1) Ar134.2.2 (inb_of (j := (3 : Int32)) S134 ⟨by decide, by decide⟩) (Has.at H134 (inb_of (j := (3 : Int32)) S134 ⟨by decide, by decide⟩) rfl) (g := (mkF m 14 #[.val (.ref a1), .val (.ref a2), .val (.ref a3), .val (.int (3 : Int32))] [(.int (3 : Int32)), (.ref a3), (.long x3), (.int (3 : Int32)), (.ref a1)])) rfl rfl (hb hby d2_14) _ ?_
    show Steps p.tables e below (T131.setTop (mkF m 15 #[.val (.ref a1), .val (.ref a2), .val (.ref a3), .val (.int (3 : Int32))] [(.long y3), (.long x3), (.int (3 : Int32)), (.ref a1)])) _
    refine XS.ladd X131.here hx rfl (hb hby d2_15) rfl ?_
    exact k
  obtain ⟨cl136, Ar136, q136, S136, N136, H136, G136⟩ := id VH_131
  obtain ⟨T135, h135, X135, e135, W135, st135⟩ := stJ X131 hx hZ e131 Ar136 (j := (3 : Int32)) (inb_of (j := (3 : Int32)) S136 ⟨by decide, by decide⟩) (g := (mkF m 16 #[.val (.ref a1), .val (.ref a2), .val (.ref a3), .val (.int (3 : Int32))] [(.long (x3 + y3)), (.int (3 : Int32)), (.ref a1)])) rfl rfl (hb hby d2_16)
  have VH_135 := Arv.set Ar136 q136 S136 N136 H136 G136 rfl W135 3 rfl (Nat.le_of_ble_eq_true rfl)
  have VF_135 := VF_131.other W135 n21
  have VG_135 := VG_131.other W135 n31
  have N135 := Fr.snoc X135 N131 gA
  have KK135 : Keep h0 h135 [a1] := KK131.wr W135 (Or.inl (List.mem_of_getElem? (i := 0) rfl))
  have sz135 : n0 ≤ h135.size := Nat.le_trans sz131 (Nat.le_of_eq W135.size.symm)
  refine Go.st (U' := T135.setTop (mkF m 17 #[.val (.ref a1), .val (.ref a2), .val (.ref a3), .val (.int (3 : Int32))] [])) (fun t k => st135 _ k) ?_
  obtain ⟨cl137, Ar137, q137, S137, N137, H137, G137⟩ := id VF_135
  obtain ⟨cl138, Ar138, q138, S138, N138, H138, G138⟩ := id VG_135
  refine Go.st (U' := T135.setTop (mkF m 16 #[.val (.ref a1), .val (.ref a2), .val (.ref a3), .val (.int (4 : Int32))] [(.long (x4 + y4)), (.int (4 : Int32)), (.ref a1)])) (fun t k => ?_) ?_
  · show Steps p.tables e below (T135.setTop (mkF m 17 #[.val (.ref a1), .val (.ref a2), .val (.ref a3), .val (.int (3 : Int32))] [])) _
    refine XS.iinc X135.here hx rfl (hb hby d2_17) rfl (l' := #[.val (.ref a1), .val (.ref a2), .val (.ref a3), .val (.int (4 : Int32))]) rfl ?_
    show Steps p.tables e below (T135.setTop (mkF m 20 #[.val (.ref a1), .val (.ref a2), .val (.ref a3), .val (.int (4 : Int32))] [])) _
    refine XS.goto X135.here hx rfl (pc0 := 20) (pc' := 2) rfl (hb hby d2_20) (by decide) (by decide) ?_
    show Steps p.tables e below (T135.setTop (mkF m 2 #[.val (.ref a1), .val (.ref a2), .val (.ref a3), .val (.int (4 : Int32))] [])) _
    refine XS.iloadN X135.here hx rfl (hb hby d2_2) rfl ?_
    show Steps p.tables e below (T135.setTop (mkF m 3 #[.val (.ref a1), .val (.ref a2), .val (.ref a3), .val (.int (4 : Int32))] [(.int (4 : Int32))])) _
    refine XS.iconst X135.here hx rfl (hb hby d2_3) ?_
    show Steps p.tables e below (T135.setTop (mkF m 4 #[.val (.ref a1), .val (.ref a2), .val (.ref a3), .val (.int (4 : Int32))] [(.int (5 : Int32)), (.int (4 : Int32))])) _
    refine XS.icmpNo X135.here hx rfl (hb hby d2_4) rfl (tlt (by decide : (4 : Int32) < (5 : Int32))).2.1 ?_
    show Steps p.tables e below (T135.setTop (mkF m 7 #[.val (.ref a1), .val (.ref a2), .val (.ref a3), .val (.int (4 : Int32))] [])) _
    refine XS.aloadN X135.here hx rfl (hb hby d2_7) rfl rfl ?_
    show Steps p.tables e below (T135.setTop (mkF m 8 #[.val (.ref a1), .val (.ref a2), .val (.ref a3), .val (.int (4 : Int32))] [(.ref a1)])) _
    refine XS.iloadN X135.here hx rfl (hb hby d2_8) rfl ?_
    show Steps p.tables e below (T135.setTop (mkF m 9 #[.val (.ref a1), .val (.ref a2), .val (.ref a3), .val (.int (4 : Int32))] [(.int (4 : Int32)), (.ref a1)])) _
    refine XS.aloadN X135.here hx rfl (hb hby d2_9) rfl rfl ?_
    show Steps p.tables e below (T135.setTop (mkF m 10 #[.val (.ref a1), .val (.ref a2), .val (.ref a3), .val (.int (4 : Int32))] [(.ref a2), (.int (4 : Int32)), (.ref a1)])) _
    refine XS.iloadN X135.here hx rfl (hb hby d2_10) rfl ?_
    show Steps p.tables e below (T135.setTop (mkF m 11 #[.val (.ref a1), .val (.ref a2), .val (.ref a3), .val (.int (4 : Int32))] [(.int (4 : Int32)), (.ref a2), (.int (4 : Int32)), (.ref a1)])) _
    refine X135.laload hx (j := (4 : Int32)) (v := (.long x4)) (by rw [e135]; exact Ar137.1) (State.isArrayOf_alike hZ.alike Ar137.2.1) Ar137.2.2 (inb_of (j := (4 : Int32)) S137 ⟨by decide, by decide⟩) (Has.at H137 (inb_of (j := (4 : Int32)) S137 ⟨by decide, by decide⟩) rfl) (g := (mkF m 11 #[.val (.ref a1), .val (.ref a2), .val (.ref a3), .val (.int (4 : Int32))] [(.int (4 : Int32)), (.ref a2), (.int (4 : Int32)), (.ref a1)])) rfl rfl (hb hby d2_11) _ ?_
    show Steps p.tables e below (T135.setTop (mkF m 12 #[.val (.ref a1), .val (.ref a2), .val (.ref a3), .val (.int (4 : Int32))] [(.long x4), (.int (4 : Int32)), (.ref a1)])) _
    refine XS.aloadN X135.here hx rfl (hb hby d2_12) rfl rfl ?_
    show Steps p.tables e below (T135.setTop (mkF m 13 #[.val (.ref a1), .val (.ref a2), .val (.ref a3), .val (.int (4 : Int32))] [(.ref a3), (.long x4), (.int (4 : Int32)), (.ref a1)])) _
    refine XS.iloadN X135.here hx rfl (hb hby d2_13) rfl ?_
    show Steps p.tables e below (T135.setTop (mkF m 14 #[.val (.ref a1), .val (.ref a2), .val (.ref a3), .val (.int (4 : Int32))] [(.int (4 : Int32)), (.ref a3), (.long x4), (.int (4 : Int32)), (.ref a1)])) _
    refine X135.laload hx (j := (4 : Int32)) (v := (.long y4)) (by rw [e135]; exact Ar138.1) (State.isArrayOf_alike hZ.alike Ar138.2.1) Ar138.2.2 (inb_of (j := (4 : Int32)) S138 ⟨by decide, by decide⟩) (Has.at H138 (inb_of (j := (4 : Int32)) S138 ⟨by decide, by decide⟩) rfl) (g := (mkF m 14 #[.val (.ref a1), .val (.ref a2), .val (.ref a3), .val (.int (4 : Int32))] [(.int (4 : Int32)), (.ref a3), (.long x4), (.int (4 : Int32)), (.ref a1)])) rfl rfl (hb hby d2_14) _ ?_
    show Steps p.tables e below (T135.setTop (mkF m 15 #[.val (.ref a1), .val (.ref a2), .val (.ref a3), .val (.int (4 : Int32))] [(.long y4), (.long x4), (.int (4 : Int32)), (.ref a1)])) _
    refine XS.ladd X135.here hx rfl (hb hby d2_15) rfl ?_
    exact k
  obtain ⟨cl140, Ar140, q140, S140, N140, H140, G140⟩ := id VH_135
  obtain ⟨T139, h139, X139, e139, W139, st139⟩ := stJ X135 hx hZ e135 Ar140 (j := (4 : Int32)) (inb_of (j := (4 : Int32)) S140 ⟨by decide, by decide⟩) (g := (mkF m 16 #[.val (.ref a1), .val (.ref a2), .val (.ref a3), .val (.int (4 : Int32))] [(.long (x4 + y4)), (.int (4 : Int32)), (.ref a1)])) rfl rfl (hb hby d2_16)
  have VH_139 := Arv.set Ar140 q140 S140 N140 H140 G140 rfl W139 4 rfl (Nat.le_of_ble_eq_true rfl)
  have VF_139 := VF_135.other W139 n21
  have VG_139 := VG_135.other W139 n31
  have N139 := Fr.snoc X139 N135 gA
  have KK139 : Keep h0 h139 [a1] := KK135.wr W139 (Or.inl (List.mem_of_getElem? (i := 0) rfl))
  have sz139 : n0 ≤ h139.size := Nat.le_trans sz135 (Nat.le_of_eq W139.size.symm)
  refine Go.st (U' := T139.setTop (mkF m 17 #[.val (.ref a1), .val (.ref a2), .val (.ref a3), .val (.int (4 : Int32))] [])) (fun t k => st139 _ k) ?_
  refine Go.st (U' := T139.setTop (mkF m 23 #[.val (.ref a1), .val (.ref a2), .val (.ref a3), .val (.int (5 : Int32))] [])) (fun t k => ?_) ?_
  · show Steps p.tables e below (T139.setTop (mkF m 17 #[.val (.ref a1), .val (.ref a2), .val (.ref a3), .val (.int (4 : Int32))] [])) _
    refine XS.iinc X139.here hx rfl (hb hby d2_17) rfl (l' := #[.val (.ref a1), .val (.ref a2), .val (.ref a3), .val (.int (5 : Int32))]) rfl ?_
    show Steps p.tables e below (T139.setTop (mkF m 20 #[.val (.ref a1), .val (.ref a2), .val (.ref a3), .val (.int (5 : Int32))] [])) _
    refine XS.goto X139.here hx rfl (pc0 := 20) (pc' := 2) rfl (hb hby d2_20) (by decide) (by decide) ?_
    show Steps p.tables e below (T139.setTop (mkF m 2 #[.val (.ref a1), .val (.ref a2), .val (.ref a3), .val (.int (5 : Int32))] [])) _
    refine XS.iloadN X139.here hx rfl (hb hby d2_2) rfl ?_
    show Steps p.tables e below (T139.setTop (mkF m 3 #[.val (.ref a1), .val (.ref a2), .val (.ref a3), .val (.int (5 : Int32))] [(.int (5 : Int32))])) _
    refine XS.iconst X139.here hx rfl (hb hby d2_3) ?_
    show Steps p.tables e below (T139.setTop (mkF m 4 #[.val (.ref a1), .val (.ref a2), .val (.ref a3), .val (.int (5 : Int32))] [(.int (5 : Int32)), (.int (5 : Int32))])) _
    refine XS.icmpYes X139.here hx rfl (pc0 := 4) (pc' := 23) rfl (hb hby d2_4) rfl (flt (by decide : ¬ ((5 : Int32) < (5 : Int32)))).2.1 (by decide) (by decide) ?_
    exact k
  refine own_ret (Q := Q2 Z a1 a2 a3 k1 k2 k3 x0 x1 x2 x3 x4 y0 y1 y2 y3 y4 z0 z1 z2 z3 z4 h0 n0) (v := none) X139 hlk (fun _ => rfl) (by decide) (by decide) ?_ (fun fs hr => X139.returnOut hx hrt (hb hby d2_23) hr)
  rw [e139]
  exact ⟨rfl, N139, KK139, VH_139⟩
theorem own_sa (a y c : Int64) : (((a - y) + c) + y) = (a + c) := by
  rw [Int64.add_assoc, Int64.add_comm c y, ← Int64.add_assoc, Int64.sub_add_cancel]
theorem pd_0 : parseMethodDescriptor "([J[J[J)V" = some ⟨[(.array .long), (.array .long), (.array .long)], none⟩ := by decide +kernel
theorem pn_1 : plainName "com/example/hopwright/hopwright/crypto/Field25519SubtractPinLaw" = true := by first | (simp [plainName, overriddenIn]; done) | decide +kernel
theorem ef0 (m : MethodId) (q0 : Int64) (q1 : Int64) (q2 : Int64) (q3 : Int64) (q4 : Int64) (q5 : Int64) : entryFrame m #[(.long q0), (.long q1), (.long q2), (.long q3), (.long q4), (.long q5)] maxLocals = mkF m 0 #[.val (.long q0), .second, .val (.long q1), .second, .val (.long q2), .second, .val (.long q3), .second, .val (.long q4), .second, .val (.long q5), .second, .unset, .unset, .unset, .unset, .unset, .unset, .unset, .unset, .unset, .unset, .unset] [] := by first | (simp [entryFrame, mkF, argsToLocals, Value.category, maxLocals]; done) | rfl
def Q0 (Z : State) (q0 : Int64) (q1 : Int64) (q2 : Int64) (q3 : Int64) (q4 : Int64) (q5 : Int64) (h0 : Heap) (n0 : Nat) (v : Option Value) (h : Heap) (L : List Loc) : Prop := v = some (.int 1) ∧ Fr n0 L
set_option maxRecDepth 65536 in
set_option maxHeartbeats 40000000 in
theorem rm0 (l : Launch) (Z : State) (a0 : Array Value) (hw : ∀ d ∈ tables_1, d.before a0 Z = true) (ws : List Jvm.Cond) (q0 : Int64) (q1 : Int64) (q2 : Int64) (q3 : Int64) (q4 : Int64) (q5 : Int64) (h0 : Heap) (n0 : Nat) (Z0 : n0 ≤ h0.size) :
    MetFree l x (head1 (Jvm.Cond.code x code maxLocals ret :: ws) room_1) (fun a U => a = #[(.long q0), (.long q1), (.long q2), (.long q3), (.long q4), (.long q5)] ∧ Z.Warmed39 U.vm ∧ U.heap = h0) (fun _ _ _ _ _ => True) (fun _ U o U' => ∃ v L, o = .returned v ∧ Q0 Z q0 q1 q2 q3 q4 q5 h0 n0 v U'.heap L ∧ FrameEnd U o U' L 16 128) := by
  refine MetFree.of_bodySF (plainFor_of_name pn_1) hisR ?_
  intro p e s m args below meth c s₁ Bd hml0 hP hK
  obtain ⟨rfl, hZ, hh⟩ := hP
  have hx := Bd.exec
  have hby := Bd.bytes
  have hml : c.maxLocals = 23 := hml0
  have hown : s.vm.findClass "com/example/hopwright/hopwright/crypto/Field25519SubtractPinLaw" = some m.cls := findClass_of_methodNamed Bd.named
  have hnm := (name_of_methodNamed Bd.named Bd.method).1
  have hlk : meth.locks = false := BodyLoose.notSynchronized Bd
  have hrt := Bd.returns
  have X0 : Stand p l e room_1 s m #[(.long q0), (.long q1), (.long q2), (.long q3), (.long q4), (.long q5)] below meth c s₁ [] 0 0 := Stand.of_body Bd
  have e0 : s₁.heap = h0 := by rw [← hh, Bd.state]; rfl
  have N0 := Fr.nil n0
  refine (show Go p e below (fun s₂ o => ∃ v L, o = .returned v ∧ Q0 Z q0 q1 q2 q3 q4 q5 h0 n0 v s₂.heap L ∧ FrameEnd s o s₂ L 16 128) (s₁.setTop (entryFrame m #[(.long q0), (.long q1), (.long q2), (.long q3), (.long q4), (.long q5)] maxLocals)) from ?_)
  rw [ef0]
  refine Go.st (U' := s₁.setTop (mkF m 1 #[.val (.long q0), .second, .val (.long q1), .second, .val (.long q2), .second, .val (.long q3), .second, .val (.long q4), .second, .val (.long q5), .second, .unset, .unset, .unset, .unset, .unset, .unset, .unset, .unset, .unset, .unset, .unset] [(.int (5 : Int32))])) (fun t k => ?_) ?_
  · show Steps p.tables e below (s₁.setTop (mkF m 0 #[.val (.long q0), .second, .val (.long q1), .second, .val (.long q2), .second, .val (.long q3), .second, .val (.long q4), .second, .val (.long q5), .second, .unset, .unset, .unset, .unset, .unset, .unset, .unset, .unset, .unset, .unset, .unset] [])) _
    refine XS.iconst X0.here hx rfl (hb hby at_0) ?_
    exact k
  obtain ⟨T141, h141, k141, X141, e141, E141, A141, st141⟩ := newP X0 hx hZ (own_w hw 0 rfl) e0 (g := (mkF m 1 #[.val (.long q0), .second, .val (.long q1), .second, .val (.long q2), .second, .val (.long q3), .second, .val (.long q4), .second, .val (.long q5), .second, .unset, .unset, .unset, .unset, .unset, .unset, .unset, .unset, .unset, .unset, .unset] [(.int (5 : Int32))])) rfl (hb hby at_1) rfl (by decide) (cap := 5) (by decide) (by decide) (by decide) (by decide)
  obtain ⟨b141, g141⟩ : ∃ z, z = h0.size := ⟨_, rfl⟩
  rw [← g141] at A141 st141
  have ge_b141 : n0 ≤ b141 := Nat.le_trans Z0 (Nat.le_of_eq g141.symm)
  have V_b141 : Arv Z h141 b141 k141 .long (5 : Int32) [(.long (0 : Int64)), (.long (0 : Int64)), (.long (0 : Int64)), (.long (0 : Int64)), (.long (0 : Int64))] (.long (0 : Int64)) := (Arv.new A141 (by decide)).pad (pad_rep [] (.long (0 : Int64)) 5)
  have sz141 : n0 ≤ h141.size := Nat.le_trans Z0 E141.1
  refine Go.st (U' := T141.setTop (mkF m 3 #[.val (.long q0), .second, .val (.long q1), .second, .val (.long q2), .second, .val (.long q3), .second, .val (.long q4), .second, .val (.long q5), .second, .unset, .unset, .unset, .unset, .unset, .unset, .unset, .unset, .unset, .unset, .unset] [(.ref b141)])) (fun t k => st141 _ k) ?_
  refine Go.st (U' := T141.setTop (mkF m 6 #[.val (.long q0), .second, .val (.long q1), .second, .val (.long q2), .second, .val (.long q3), .second, .val (.long q4), .second, .val (.long q5), .second, .unset, .unset, .unset, .unset, .unset, .unset, .unset, .unset, .unset, .unset, .unset] [(.long q0), (.int (0 : Int32)), (.ref b141), (.ref b141)])) (fun t k => ?_) ?_
  · show Steps p.tables e below (T141.setTop (mkF m 3 #[.val (.long q0), .second, .val (.long q1), .second, .val (.long q2), .second, .val (.long q3), .second, .val (.long q4), .second, .val (.long q5), .second, .unset, .unset, .unset, .unset, .unset, .unset, .unset, .unset, .unset, .unset, .unset] [(.ref b141)])) _
    refine XS.dup X141.here hx rfl (hb hby at_3) rfl rfl ?_
    show Steps p.tables e below (T141.setTop (mkF m 4 #[.val (.long q0), .second, .val (.long q1), .second, .val (.long q2), .second, .val (.long q3), .second, .val (.long q4), .second, .val (.long q5), .second, .unset, .unset, .unset, .unset, .unset, .unset, .unset, .unset, .unset, .unset, .unset] [(.ref b141), (.ref b141)])) _
    refine XS.iconst X141.here hx rfl (hb hby at_4) ?_
    show Steps p.tables e below (T141.setTop (mkF m 5 #[.val (.long q0), .second, .val (.long q1), .second, .val (.long q2), .second, .val (.long q3), .second, .val (.long q4), .second, .val (.long q5), .second, .unset, .unset, .unset, .unset, .unset, .unset, .unset, .unset, .unset, .unset, .unset] [(.int (0 : Int32)), (.ref b141), (.ref b141)])) _
    refine XS.lloadN X141.here hx rfl (hb hby at_5) rfl ?_
    exact k
  obtain ⟨cl143, Ar143, q143, S143, N143, H143, G143⟩ := id V_b141
  obtain ⟨T142, h142, X142, e142, W142, st142⟩ := stJ X141 hx hZ e141 Ar143 (j := (0 : Int32)) (inb_of (j := (0 : Int32)) S143 ⟨by decide, by decide⟩) (g := (mkF m 6 #[.val (.long q0), .second, .val (.long q1), .second, .val (.long q2), .second, .val (.long q3), .second, .val (.long q4), .second, .val (.long q5), .second, .unset, .unset, .unset, .unset, .unset, .unset, .unset, .unset, .unset, .unset, .unset] [(.long q0), (.int (0 : Int32)), (.ref b141), (.ref b141)])) rfl rfl (hb hby at_6)
  have V_b141_142 := Arv.set Ar143 q143 S143 N143 H143 G143 rfl W142 0 rfl (Nat.le_of_ble_eq_true rfl)
  have N142 := Fr.snoc X142 N0 ge_b141
  have sz142 : n0 ≤ h142.size := Nat.le_trans sz141 (Nat.le_of_eq W142.size.symm)
  refine Go.st (U' := T142.setTop (mkF m 7 #[.val (.long q0), .second, .val (.long q1), .second, .val (.long q2), .second, .val (.long q3), .second, .val (.long q4), .second, .val (.long q5), .second, .unset, .unset, .unset, .unset, .unset, .unset, .unset, .unset, .unset, .unset, .unset] [(.ref b141)])) (fun t k => st142 _ k) ?_
  refine Go.st (U' := T142.setTop (mkF m 10 #[.val (.long q0), .second, .val (.long q1), .second, .val (.long q2), .second, .val (.long q3), .second, .val (.long q4), .second, .val (.long q5), .second, .unset, .unset, .unset, .unset, .unset, .unset, .unset, .unset, .unset, .unset, .unset] [(.long q1), (.int (1 : Int32)), (.ref b141), (.ref b141)])) (fun t k => ?_) ?_
  · show Steps p.tables e below (T142.setTop (mkF m 7 #[.val (.long q0), .second, .val (.long q1), .second, .val (.long q2), .second, .val (.long q3), .second, .val (.long q4), .second, .val (.long q5), .second, .unset, .unset, .unset, .unset, .unset, .unset, .unset, .unset, .unset, .unset, .unset] [(.ref b141)])) _
    refine XS.dup X142.here hx rfl (hb hby at_7) rfl rfl ?_
    show Steps p.tables e below (T142.setTop (mkF m 8 #[.val (.long q0), .second, .val (.long q1), .second, .val (.long q2), .second, .val (.long q3), .second, .val (.long q4), .second, .val (.long q5), .second, .unset, .unset, .unset, .unset, .unset, .unset, .unset, .unset, .unset, .unset, .unset] [(.ref b141), (.ref b141)])) _
    refine XS.iconst X142.here hx rfl (hb hby at_8) ?_
    show Steps p.tables e below (T142.setTop (mkF m 9 #[.val (.long q0), .second, .val (.long q1), .second, .val (.long q2), .second, .val (.long q3), .second, .val (.long q4), .second, .val (.long q5), .second, .unset, .unset, .unset, .unset, .unset, .unset, .unset, .unset, .unset, .unset, .unset] [(.int (1 : Int32)), (.ref b141), (.ref b141)])) _
    refine XS.lloadN X142.here hx rfl (hb hby at_9) rfl ?_
    exact k
  obtain ⟨cl145, Ar145, q145, S145, N145, H145, G145⟩ := id V_b141_142
  obtain ⟨T144, h144, X144, e144, W144, st144⟩ := stJ X142 hx hZ e142 Ar145 (j := (1 : Int32)) (inb_of (j := (1 : Int32)) S145 ⟨by decide, by decide⟩) (g := (mkF m 10 #[.val (.long q0), .second, .val (.long q1), .second, .val (.long q2), .second, .val (.long q3), .second, .val (.long q4), .second, .val (.long q5), .second, .unset, .unset, .unset, .unset, .unset, .unset, .unset, .unset, .unset, .unset, .unset] [(.long q1), (.int (1 : Int32)), (.ref b141), (.ref b141)])) rfl rfl (hb hby at_10)
  have V_b141_144 := Arv.set Ar145 q145 S145 N145 H145 G145 rfl W144 1 rfl (Nat.le_of_ble_eq_true rfl)
  have N144 := Fr.snoc X144 N142 ge_b141
  have sz144 : n0 ≤ h144.size := Nat.le_trans sz142 (Nat.le_of_eq W144.size.symm)
  refine Go.st (U' := T144.setTop (mkF m 11 #[.val (.long q0), .second, .val (.long q1), .second, .val (.long q2), .second, .val (.long q3), .second, .val (.long q4), .second, .val (.long q5), .second, .unset, .unset, .unset, .unset, .unset, .unset, .unset, .unset, .unset, .unset, .unset] [(.ref b141)])) (fun t k => st144 _ k) ?_
  refine Go.st (U' := T144.setTop (mkF m 15 #[.val (.long q0), .second, .val (.long q1), .second, .val (.long q2), .second, .val (.long q3), .second, .val (.long q4), .second, .val (.long q5), .second, .unset, .unset, .unset, .unset, .unset, .unset, .unset, .unset, .unset, .unset, .unset] [(.long q2), (.int (2 : Int32)), (.ref b141), (.ref b141)])) (fun t k => ?_) ?_
  · show Steps p.tables e below (T144.setTop (mkF m 11 #[.val (.long q0), .second, .val (.long q1), .second, .val (.long q2), .second, .val (.long q3), .second, .val (.long q4), .second, .val (.long q5), .second, .unset, .unset, .unset, .unset, .unset, .unset, .unset, .unset, .unset, .unset, .unset] [(.ref b141)])) _
    refine XS.dup X144.here hx rfl (hb hby at_11) rfl rfl ?_
    show Steps p.tables e below (T144.setTop (mkF m 12 #[.val (.long q0), .second, .val (.long q1), .second, .val (.long q2), .second, .val (.long q3), .second, .val (.long q4), .second, .val (.long q5), .second, .unset, .unset, .unset, .unset, .unset, .unset, .unset, .unset, .unset, .unset, .unset] [(.ref b141), (.ref b141)])) _
    refine XS.iconst X144.here hx rfl (hb hby at_12) ?_
    show Steps p.tables e below (T144.setTop (mkF m 13 #[.val (.long q0), .second, .val (.long q1), .second, .val (.long q2), .second, .val (.long q3), .second, .val (.long q4), .second, .val (.long q5), .second, .unset, .unset, .unset, .unset, .unset, .unset, .unset, .unset, .unset, .unset, .unset] [(.int (2 : Int32)), (.ref b141), (.ref b141)])) _
    refine XS.lload X144.here hx rfl (hb hby at_13) rfl ?_
    exact k
  obtain ⟨cl147, Ar147, q147, S147, N147, H147, G147⟩ := id V_b141_144
  obtain ⟨T146, h146, X146, e146, W146, st146⟩ := stJ X144 hx hZ e144 Ar147 (j := (2 : Int32)) (inb_of (j := (2 : Int32)) S147 ⟨by decide, by decide⟩) (g := (mkF m 15 #[.val (.long q0), .second, .val (.long q1), .second, .val (.long q2), .second, .val (.long q3), .second, .val (.long q4), .second, .val (.long q5), .second, .unset, .unset, .unset, .unset, .unset, .unset, .unset, .unset, .unset, .unset, .unset] [(.long q2), (.int (2 : Int32)), (.ref b141), (.ref b141)])) rfl rfl (hb hby at_15)
  have V_b141_146 := Arv.set Ar147 q147 S147 N147 H147 G147 rfl W146 2 rfl (Nat.le_of_ble_eq_true rfl)
  have N146 := Fr.snoc X146 N144 ge_b141
  have sz146 : n0 ≤ h146.size := Nat.le_trans sz144 (Nat.le_of_eq W146.size.symm)
  refine Go.st (U' := T146.setTop (mkF m 16 #[.val (.long q0), .second, .val (.long q1), .second, .val (.long q2), .second, .val (.long q3), .second, .val (.long q4), .second, .val (.long q5), .second, .unset, .unset, .unset, .unset, .unset, .unset, .unset, .unset, .unset, .unset, .unset] [(.ref b141)])) (fun t k => st146 _ k) ?_
  refine Go.st (U' := T146.setTop (mkF m 20 #[.val (.long q0), .second, .val (.long q1), .second, .val (.long q2), .second, .val (.long q3), .second, .val (.long q4), .second, .val (.long q5), .second, .unset, .unset, .unset, .unset, .unset, .unset, .unset, .unset, .unset, .unset, .unset] [(.long q3), (.int (3 : Int32)), (.ref b141), (.ref b141)])) (fun t k => ?_) ?_
  · show Steps p.tables e below (T146.setTop (mkF m 16 #[.val (.long q0), .second, .val (.long q1), .second, .val (.long q2), .second, .val (.long q3), .second, .val (.long q4), .second, .val (.long q5), .second, .unset, .unset, .unset, .unset, .unset, .unset, .unset, .unset, .unset, .unset, .unset] [(.ref b141)])) _
    refine XS.dup X146.here hx rfl (hb hby at_16) rfl rfl ?_
    show Steps p.tables e below (T146.setTop (mkF m 17 #[.val (.long q0), .second, .val (.long q1), .second, .val (.long q2), .second, .val (.long q3), .second, .val (.long q4), .second, .val (.long q5), .second, .unset, .unset, .unset, .unset, .unset, .unset, .unset, .unset, .unset, .unset, .unset] [(.ref b141), (.ref b141)])) _
    refine XS.iconst X146.here hx rfl (hb hby at_17) ?_
    show Steps p.tables e below (T146.setTop (mkF m 18 #[.val (.long q0), .second, .val (.long q1), .second, .val (.long q2), .second, .val (.long q3), .second, .val (.long q4), .second, .val (.long q5), .second, .unset, .unset, .unset, .unset, .unset, .unset, .unset, .unset, .unset, .unset, .unset] [(.int (3 : Int32)), (.ref b141), (.ref b141)])) _
    refine XS.lload X146.here hx rfl (hb hby at_18) rfl ?_
    exact k
  obtain ⟨cl149, Ar149, q149, S149, N149, H149, G149⟩ := id V_b141_146
  obtain ⟨T148, h148, X148, e148, W148, st148⟩ := stJ X146 hx hZ e146 Ar149 (j := (3 : Int32)) (inb_of (j := (3 : Int32)) S149 ⟨by decide, by decide⟩) (g := (mkF m 20 #[.val (.long q0), .second, .val (.long q1), .second, .val (.long q2), .second, .val (.long q3), .second, .val (.long q4), .second, .val (.long q5), .second, .unset, .unset, .unset, .unset, .unset, .unset, .unset, .unset, .unset, .unset, .unset] [(.long q3), (.int (3 : Int32)), (.ref b141), (.ref b141)])) rfl rfl (hb hby at_20)
  have V_b141_148 := Arv.set Ar149 q149 S149 N149 H149 G149 rfl W148 3 rfl (Nat.le_of_ble_eq_true rfl)
  have N148 := Fr.snoc X148 N146 ge_b141
  have sz148 : n0 ≤ h148.size := Nat.le_trans sz146 (Nat.le_of_eq W148.size.symm)
  refine Go.st (U' := T148.setTop (mkF m 21 #[.val (.long q0), .second, .val (.long q1), .second, .val (.long q2), .second, .val (.long q3), .second, .val (.long q4), .second, .val (.long q5), .second, .unset, .unset, .unset, .unset, .unset, .unset, .unset, .unset, .unset, .unset, .unset] [(.ref b141)])) (fun t k => st148 _ k) ?_
  refine Go.st (U' := T148.setTop (mkF m 25 #[.val (.long q0), .second, .val (.long q1), .second, .val (.long q2), .second, .val (.long q3), .second, .val (.long q4), .second, .val (.long q5), .second, .unset, .unset, .unset, .unset, .unset, .unset, .unset, .unset, .unset, .unset, .unset] [(.long q4), (.int (4 : Int32)), (.ref b141), (.ref b141)])) (fun t k => ?_) ?_
  · show Steps p.tables e below (T148.setTop (mkF m 21 #[.val (.long q0), .second, .val (.long q1), .second, .val (.long q2), .second, .val (.long q3), .second, .val (.long q4), .second, .val (.long q5), .second, .unset, .unset, .unset, .unset, .unset, .unset, .unset, .unset, .unset, .unset, .unset] [(.ref b141)])) _
    refine XS.dup X148.here hx rfl (hb hby at_21) rfl rfl ?_
    show Steps p.tables e below (T148.setTop (mkF m 22 #[.val (.long q0), .second, .val (.long q1), .second, .val (.long q2), .second, .val (.long q3), .second, .val (.long q4), .second, .val (.long q5), .second, .unset, .unset, .unset, .unset, .unset, .unset, .unset, .unset, .unset, .unset, .unset] [(.ref b141), (.ref b141)])) _
    refine XS.iconst X148.here hx rfl (hb hby at_22) ?_
    show Steps p.tables e below (T148.setTop (mkF m 23 #[.val (.long q0), .second, .val (.long q1), .second, .val (.long q2), .second, .val (.long q3), .second, .val (.long q4), .second, .val (.long q5), .second, .unset, .unset, .unset, .unset, .unset, .unset, .unset, .unset, .unset, .unset, .unset] [(.int (4 : Int32)), (.ref b141), (.ref b141)])) _
    refine XS.lload X148.here hx rfl (hb hby at_23) rfl ?_
    exact k
  obtain ⟨cl151, Ar151, q151, S151, N151, H151, G151⟩ := id V_b141_148
  obtain ⟨T150, h150, X150, e150, W150, st150⟩ := stJ X148 hx hZ e148 Ar151 (j := (4 : Int32)) (inb_of (j := (4 : Int32)) S151 ⟨by decide, by decide⟩) (g := (mkF m 25 #[.val (.long q0), .second, .val (.long q1), .second, .val (.long q2), .second, .val (.long q3), .second, .val (.long q4), .second, .val (.long q5), .second, .unset, .unset, .unset, .unset, .unset, .unset, .unset, .unset, .unset, .unset, .unset] [(.long q4), (.int (4 : Int32)), (.ref b141), (.ref b141)])) rfl rfl (hb hby at_25)
  have V_b141_150 := Arv.set Ar151 q151 S151 N151 H151 G151 rfl W150 4 rfl (Nat.le_of_ble_eq_true rfl)
  have N150 := Fr.snoc X150 N148 ge_b141
  have sz150 : n0 ≤ h150.size := Nat.le_trans sz148 (Nat.le_of_eq W150.size.symm)
  refine Go.st (U' := T150.setTop (mkF m 26 #[.val (.long q0), .second, .val (.long q1), .second, .val (.long q2), .second, .val (.long q3), .second, .val (.long q4), .second, .val (.long q5), .second, .unset, .unset, .unset, .unset, .unset, .unset, .unset, .unset, .unset, .unset, .unset] [(.ref b141)])) (fun t k => st150 _ k) ?_
  refine Go.st (U' := T150.setTop (mkF m 29 #[.val (.long q0), .second, .val (.long q1), .second, .val (.long q2), .second, .val (.long q3), .second, .val (.long q4), .second, .val (.long q5), .second, .val (.ref b141), .unset, .unset, .unset, .unset, .unset, .unset, .unset, .unset, .unset, .unset] [(.int (5 : Int32))])) (fun t k => ?_) ?_
  · show Steps p.tables e below (T150.setTop (mkF m 26 #[.val (.long q0), .second, .val (.long q1), .second, .val (.long q2), .second, .val (.long q3), .second, .val (.long q4), .second, .val (.long q5), .second, .unset, .unset, .unset, .unset, .unset, .unset, .unset, .unset, .unset, .unset, .unset] [(.ref b141)])) _
    refine XS.astore X150.here hx rfl (hb hby at_26) rfl rfl (l' := #[.val (.long q0), .second, .val (.long q1), .second, .val (.long q2), .second, .val (.long q3), .second, .val (.long q4), .second, .val (.long q5), .second, .val (.ref b141), .unset, .unset, .unset, .unset, .unset, .unset, .unset, .unset, .unset, .unset]) rfl ?_
    show Steps p.tables e below (T150.setTop (mkF m 28 #[.val (.long q0), .second, .val (.long q1), .second, .val (.long q2), .second, .val (.long q3), .second, .val (.long q4), .second, .val (.long q5), .second, .val (.ref b141), .unset, .unset, .unset, .unset, .unset, .unset, .unset, .unset, .unset, .unset] [])) _
    refine XS.iconst X150.here hx rfl (hb hby at_28) ?_
    exact k
  obtain ⟨T152, h152, k152, X152, e152, E152, A152, st152⟩ := newP X150 hx hZ (own_w hw 0 rfl) e150 (g := (mkF m 29 #[.val (.long q0), .second, .val (.long q1), .second, .val (.long q2), .second, .val (.long q3), .second, .val (.long q4), .second, .val (.long q5), .second, .val (.ref b141), .unset, .unset, .unset, .unset, .unset, .unset, .unset, .unset, .unset, .unset] [(.int (5 : Int32))])) rfl (hb hby at_29) rfl (by decide) (cap := 5) (by decide) (by decide) (by decide) (by decide)
  obtain ⟨b152, g152⟩ : ∃ z, z = h150.size := ⟨_, rfl⟩
  rw [← g152] at A152 st152
  have ne_b141_b152 : b141 ≠ b152 := Nat.ne_of_lt (Nat.lt_of_lt_of_le V_b141_150.lt (Nat.le_of_eq g152.symm))
  have ge_b152 : n0 ≤ b152 := Nat.le_trans sz150 (Nat.le_of_eq g152.symm)
  have V_b141_152 := V_b141_150.ext E152
  have V_b152 : Arv Z h152 b152 k152 .long (5 : Int32) [(.long (0 : Int64)), (.long (0 : Int64)), (.long (0 : Int64)), (.long (0 : Int64)), (.long (0 : Int64))] (.long (0 : Int64)) := (Arv.new A152 (by decide)).pad (pad_rep [] (.long (0 : Int64)) 5)
  have sz152 : n0 ≤ h152.size := Nat.le_trans sz150 E152.1
  refine Go.st (U' := T152.setTop (mkF m 31 #[.val (.long q0), .second, .val (.long q1), .second, .val (.long q2), .second, .val (.long q3), .second, .val (.long q4), .second, .val (.long q5), .second, .val (.ref b141), .unset, .unset, .unset, .unset, .unset, .unset, .unset, .unset, .unset, .unset] [(.ref b152)])) (fun t k => st152 _ k) ?_
  refine Go.st (U' := T152.setTop (mkF m 35 #[.val (.long q0), .second, .val (.long q1), .second, .val (.long q2), .second, .val (.long q3), .second, .val (.long q4), .second, .val (.long q5), .second, .val (.ref b141), .unset, .unset, .unset, .unset, .unset, .unset, .unset, .unset, .unset, .unset] [(.long q5), (.int (0 : Int32)), (.ref b152), (.ref b152)])) (fun t k => ?_) ?_
  · show Steps p.tables e below (T152.setTop (mkF m 31 #[.val (.long q0), .second, .val (.long q1), .second, .val (.long q2), .second, .val (.long q3), .second, .val (.long q4), .second, .val (.long q5), .second, .val (.ref b141), .unset, .unset, .unset, .unset, .unset, .unset, .unset, .unset, .unset, .unset] [(.ref b152)])) _
    refine XS.dup X152.here hx rfl (hb hby at_31) rfl rfl ?_
    show Steps p.tables e below (T152.setTop (mkF m 32 #[.val (.long q0), .second, .val (.long q1), .second, .val (.long q2), .second, .val (.long q3), .second, .val (.long q4), .second, .val (.long q5), .second, .val (.ref b141), .unset, .unset, .unset, .unset, .unset, .unset, .unset, .unset, .unset, .unset] [(.ref b152), (.ref b152)])) _
    refine XS.iconst X152.here hx rfl (hb hby at_32) ?_
    show Steps p.tables e below (T152.setTop (mkF m 33 #[.val (.long q0), .second, .val (.long q1), .second, .val (.long q2), .second, .val (.long q3), .second, .val (.long q4), .second, .val (.long q5), .second, .val (.ref b141), .unset, .unset, .unset, .unset, .unset, .unset, .unset, .unset, .unset, .unset] [(.int (0 : Int32)), (.ref b152), (.ref b152)])) _
    refine XS.lload X152.here hx rfl (hb hby at_33) rfl ?_
    exact k
  obtain ⟨cl154, Ar154, q154, S154, N154, H154, G154⟩ := id V_b152
  obtain ⟨T153, h153, X153, e153, W153, st153⟩ := stJ X152 hx hZ e152 Ar154 (j := (0 : Int32)) (inb_of (j := (0 : Int32)) S154 ⟨by decide, by decide⟩) (g := (mkF m 35 #[.val (.long q0), .second, .val (.long q1), .second, .val (.long q2), .second, .val (.long q3), .second, .val (.long q4), .second, .val (.long q5), .second, .val (.ref b141), .unset, .unset, .unset, .unset, .unset, .unset, .unset, .unset, .unset, .unset] [(.long q5), (.int (0 : Int32)), (.ref b152), (.ref b152)])) rfl rfl (hb hby at_35)
  have V_b152_153 := Arv.set Ar154 q154 S154 N154 H154 G154 rfl W153 0 rfl (Nat.le_of_ble_eq_true rfl)
  have V_b141_153 := V_b141_152.other W153 ne_b141_b152
  have N153 := Fr.snoc X153 N150 ge_b152
  have sz153 : n0 ≤ h153.size := Nat.le_trans sz152 (Nat.le_of_eq W153.size.symm)
  refine Go.st (U' := T153.setTop (mkF m 36 #[.val (.long q0), .second, .val (.long q1), .second, .val (.long q2), .second, .val (.long q3), .second, .val (.long q4), .second, .val (.long q5), .second, .val (.ref b141), .unset, .unset, .unset, .unset, .unset, .unset, .unset, .unset, .unset, .unset] [(.ref b152)])) (fun t k => st153 _ k) ?_
  refine Go.st (U' := T153.setTop (mkF m 44 #[.val (.long q0), .second, .val (.long q1), .second, .val (.long q2), .second, .val (.long q3), .second, .val (.long q4), .second, .val (.long q5), .second, .val (.ref b141), .unset, .unset, .unset, .unset, .unset, .unset, .unset, .unset, .unset, .unset] [(.long (q5 ^^^ (-1 : Int64))), (.int (1 : Int32)), (.ref b152), (.ref b152)])) (fun t k => ?_) ?_
  · show Steps p.tables e below (T153.setTop (mkF m 36 #[.val (.long q0), .second, .val (.long q1), .second, .val (.long q2), .second, .val (.long q3), .second, .val (.long q4), .second, .val (.long q5), .second, .val (.ref b141), .unset, .unset, .unset, .unset, .unset, .unset, .unset, .unset, .unset, .unset] [(.ref b152)])) _
    refine XS.dup X153.here hx rfl (hb hby at_36) rfl rfl ?_
    show Steps p.tables e below (T153.setTop (mkF m 37 #[.val (.long q0), .second, .val (.long q1), .second, .val (.long q2), .second, .val (.long q3), .second, .val (.long q4), .second, .val (.long q5), .second, .val (.ref b141), .unset, .unset, .unset, .unset, .unset, .unset, .unset, .unset, .unset, .unset] [(.ref b152), (.ref b152)])) _
    refine XS.iconst X153.here hx rfl (hb hby at_37) ?_
    show Steps p.tables e below (T153.setTop (mkF m 38 #[.val (.long q0), .second, .val (.long q1), .second, .val (.long q2), .second, .val (.long q3), .second, .val (.long q4), .second, .val (.long q5), .second, .val (.ref b141), .unset, .unset, .unset, .unset, .unset, .unset, .unset, .unset, .unset, .unset] [(.int (1 : Int32)), (.ref b152), (.ref b152)])) _
    refine XS.lload X153.here hx rfl (hb hby at_38) rfl ?_
    show Steps p.tables e below (T153.setTop (mkF m 40 #[.val (.long q0), .second, .val (.long q1), .second, .val (.long q2), .second, .val (.long q3), .second, .val (.long q4), .second, .val (.long q5), .second, .val (.ref b141), .unset, .unset, .unset, .unset, .unset, .unset, .unset, .unset, .unset, .unset] [(.long q5), (.int (1 : Int32)), (.ref b152), (.ref b152)])) _
    refine X153.ldc2Long hx hown (mvT hZ (own_w hw 1 rfl)) (g := (mkF m 40 #[.val (.long q0), .second, .val (.long q1), .second, .val (.long q2), .second, .val (.long q3), .second, .val (.long q4), .second, .val (.long q5), .second, .val (.ref b141), .unset, .unset, .unset, .unset, .unset, .unset, .unset, .unset, .unset, .unset] [(.long q5), (.int (1 : Int32)), (.ref b152), (.ref b152)])) rfl (hb hby at_40) _ ?_
    show Steps p.tables e below (T153.setTop (mkF m 43 #[.val (.long q0), .second, .val (.long q1), .second, .val (.long q2), .second, .val (.long q3), .second, .val (.long q4), .second, .val (.long q5), .second, .val (.ref b141), .unset, .unset, .unset, .unset, .unset, .unset, .unset, .unset, .unset, .unset] [(.long (-1 : Int64)), (.long q5), (.int (1 : Int32)), (.ref b152), (.ref b152)])) _
    refine XS.lxor X153.here hx rfl (hb hby at_43) rfl ?_
    exact k
  obtain ⟨cl156, Ar156, q156, S156, N156, H156, G156⟩ := id V_b152_153
  obtain ⟨T155, h155, X155, e155, W155, st155⟩ := stJ X153 hx hZ e153 Ar156 (j := (1 : Int32)) (inb_of (j := (1 : Int32)) S156 ⟨by decide, by decide⟩) (g := (mkF m 44 #[.val (.long q0), .second, .val (.long q1), .second, .val (.long q2), .second, .val (.long q3), .second, .val (.long q4), .second, .val (.long q5), .second, .val (.ref b141), .unset, .unset, .unset, .unset, .unset, .unset, .unset, .unset, .unset, .unset] [(.long (q5 ^^^ (-1 : Int64))), (.int (1 : Int32)), (.ref b152), (.ref b152)])) rfl rfl (hb hby at_44)
  have V_b152_155 := Arv.set Ar156 q156 S156 N156 H156 G156 rfl W155 1 rfl (Nat.le_of_ble_eq_true rfl)
  have V_b141_155 := V_b141_153.other W155 ne_b141_b152
  have N155 := Fr.snoc X155 N153 ge_b152
  have sz155 : n0 ≤ h155.size := Nat.le_trans sz153 (Nat.le_of_eq W155.size.symm)
  refine Go.st (U' := T155.setTop (mkF m 45 #[.val (.long q0), .second, .val (.long q1), .second, .val (.long q2), .second, .val (.long q3), .second, .val (.long q4), .second, .val (.long q5), .second, .val (.ref b141), .unset, .unset, .unset, .unset, .unset, .unset, .unset, .unset, .unset, .unset] [(.ref b152)])) (fun t k => st155 _ k) ?_
  refine Go.st (U' := T155.setTop (mkF m 51 #[.val (.long q0), .second, .val (.long q1), .second, .val (.long q2), .second, .val (.long q3), .second, .val (.long q4), .second, .val (.long q5), .second, .val (.ref b141), .unset, .unset, .unset, .unset, .unset, .unset, .unset, .unset, .unset, .unset] [(.long (q5 ^^^ q0)), (.int (2 : Int32)), (.ref b152), (.ref b152)])) (fun t k => ?_) ?_
  · show Steps p.tables e below (T155.setTop (mkF m 45 #[.val (.long q0), .second, .val (.long q1), .second, .val (.long q2), .second, .val (.long q3), .second, .val (.long q4), .second, .val (.long q5), .second, .val (.ref b141), .unset, .unset, .unset, .unset, .unset, .unset, .unset, .unset, .unset, .unset] [(.ref b152)])) _
    refine XS.dup X155.here hx rfl (hb hby at_45) rfl rfl ?_
    show Steps p.tables e below (T155.setTop (mkF m 46 #[.val (.long q0), .second, .val (.long q1), .second, .val (.long q2), .second, .val (.long q3), .second, .val (.long q4), .second, .val (.long q5), .second, .val (.ref b141), .unset, .unset, .unset, .unset, .unset, .unset, .unset, .unset, .unset, .unset] [(.ref b152), (.ref b152)])) _
    refine XS.iconst X155.here hx rfl (hb hby at_46) ?_
    show Steps p.tables e below (T155.setTop (mkF m 47 #[.val (.long q0), .second, .val (.long q1), .second, .val (.long q2), .second, .val (.long q3), .second, .val (.long q4), .second, .val (.long q5), .second, .val (.ref b141), .unset, .unset, .unset, .unset, .unset, .unset, .unset, .unset, .unset, .unset] [(.int (2 : Int32)), (.ref b152), (.ref b152)])) _
    refine XS.lload X155.here hx rfl (hb hby at_47) rfl ?_
    show Steps p.tables e below (T155.setTop (mkF m 49 #[.val (.long q0), .second, .val (.long q1), .second, .val (.long q2), .second, .val (.long q3), .second, .val (.long q4), .second, .val (.long q5), .second, .val (.ref b141), .unset, .unset, .unset, .unset, .unset, .unset, .unset, .unset, .unset, .unset] [(.long q5), (.int (2 : Int32)), (.ref b152), (.ref b152)])) _
    refine XS.lloadN X155.here hx rfl (hb hby at_49) rfl ?_
    show Steps p.tables e below (T155.setTop (mkF m 50 #[.val (.long q0), .second, .val (.long q1), .second, .val (.long q2), .second, .val (.long q3), .second, .val (.long q4), .second, .val (.long q5), .second, .val (.ref b141), .unset, .unset, .unset, .unset, .unset, .unset, .unset, .unset, .unset, .unset] [(.long q0), (.long q5), (.int (2 : Int32)), (.ref b152), (.ref b152)])) _
    refine XS.lxor X155.here hx rfl (hb hby at_50) rfl ?_
    exact k
  obtain ⟨cl158, Ar158, q158, S158, N158, H158, G158⟩ := id V_b152_155
  obtain ⟨T157, h157, X157, e157, W157, st157⟩ := stJ X155 hx hZ e155 Ar158 (j := (2 : Int32)) (inb_of (j := (2 : Int32)) S158 ⟨by decide, by decide⟩) (g := (mkF m 51 #[.val (.long q0), .second, .val (.long q1), .second, .val (.long q2), .second, .val (.long q3), .second, .val (.long q4), .second, .val (.long q5), .second, .val (.ref b141), .unset, .unset, .unset, .unset, .unset, .unset, .unset, .unset, .unset, .unset] [(.long (q5 ^^^ q0)), (.int (2 : Int32)), (.ref b152), (.ref b152)])) rfl rfl (hb hby at_51)
  have V_b152_157 := Arv.set Ar158 q158 S158 N158 H158 G158 rfl W157 2 rfl (Nat.le_of_ble_eq_true rfl)
  have V_b141_157 := V_b141_155.other W157 ne_b141_b152
  have N157 := Fr.snoc X157 N155 ge_b152
  have sz157 : n0 ≤ h157.size := Nat.le_trans sz155 (Nat.le_of_eq W157.size.symm)
  refine Go.st (U' := T157.setTop (mkF m 52 #[.val (.long q0), .second, .val (.long q1), .second, .val (.long q2), .second, .val (.long q3), .second, .val (.long q4), .second, .val (.long q5), .second, .val (.ref b141), .unset, .unset, .unset, .unset, .unset, .unset, .unset, .unset, .unset, .unset] [(.ref b152)])) (fun t k => st157 _ k) ?_
  refine Go.st (U' := T157.setTop (mkF m 58 #[.val (.long q0), .second, .val (.long q1), .second, .val (.long q2), .second, .val (.long q3), .second, .val (.long q4), .second, .val (.long q5), .second, .val (.ref b141), .unset, .unset, .unset, .unset, .unset, .unset, .unset, .unset, .unset, .unset] [(.long (q5 + q1)), (.int (3 : Int32)), (.ref b152), (.ref b152)])) (fun t k => ?_) ?_
  · show Steps p.tables e below (T157.setTop (mkF m 52 #[.val (.long q0), .second, .val (.long q1), .second, .val (.long q2), .second, .val (.long q3), .second, .val (.long q4), .second, .val (.long q5), .second, .val (.ref b141), .unset, .unset, .unset, .unset, .unset, .unset, .unset, .unset, .unset, .unset] [(.ref b152)])) _
    refine XS.dup X157.here hx rfl (hb hby at_52) rfl rfl ?_
    show Steps p.tables e below (T157.setTop (mkF m 53 #[.val (.long q0), .second, .val (.long q1), .second, .val (.long q2), .second, .val (.long q3), .second, .val (.long q4), .second, .val (.long q5), .second, .val (.ref b141), .unset, .unset, .unset, .unset, .unset, .unset, .unset, .unset, .unset, .unset] [(.ref b152), (.ref b152)])) _
    refine XS.iconst X157.here hx rfl (hb hby at_53) ?_
    show Steps p.tables e below (T157.setTop (mkF m 54 #[.val (.long q0), .second, .val (.long q1), .second, .val (.long q2), .second, .val (.long q3), .second, .val (.long q4), .second, .val (.long q5), .second, .val (.ref b141), .unset, .unset, .unset, .unset, .unset, .unset, .unset, .unset, .unset, .unset] [(.int (3 : Int32)), (.ref b152), (.ref b152)])) _
    refine XS.lload X157.here hx rfl (hb hby at_54) rfl ?_
    show Steps p.tables e below (T157.setTop (mkF m 56 #[.val (.long q0), .second, .val (.long q1), .second, .val (.long q2), .second, .val (.long q3), .second, .val (.long q4), .second, .val (.long q5), .second, .val (.ref b141), .unset, .unset, .unset, .unset, .unset, .unset, .unset, .unset, .unset, .unset] [(.long q5), (.int (3 : Int32)), (.ref b152), (.ref b152)])) _
    refine XS.lloadN X157.here hx rfl (hb hby at_56) rfl ?_
    show Steps p.tables e below (T157.setTop (mkF m 57 #[.val (.long q0), .second, .val (.long q1), .second, .val (.long q2), .second, .val (.long q3), .second, .val (.long q4), .second, .val (.long q5), .second, .val (.ref b141), .unset, .unset, .unset, .unset, .unset, .unset, .unset, .unset, .unset, .unset] [(.long q1), (.long q5), (.int (3 : Int32)), (.ref b152), (.ref b152)])) _
    refine XS.ladd X157.here hx rfl (hb hby at_57) rfl ?_
    exact k
  obtain ⟨cl160, Ar160, q160, S160, N160, H160, G160⟩ := id V_b152_157
  obtain ⟨T159, h159, X159, e159, W159, st159⟩ := stJ X157 hx hZ e157 Ar160 (j := (3 : Int32)) (inb_of (j := (3 : Int32)) S160 ⟨by decide, by decide⟩) (g := (mkF m 58 #[.val (.long q0), .second, .val (.long q1), .second, .val (.long q2), .second, .val (.long q3), .second, .val (.long q4), .second, .val (.long q5), .second, .val (.ref b141), .unset, .unset, .unset, .unset, .unset, .unset, .unset, .unset, .unset, .unset] [(.long (q5 + q1)), (.int (3 : Int32)), (.ref b152), (.ref b152)])) rfl rfl (hb hby at_58)
  have V_b152_159 := Arv.set Ar160 q160 S160 N160 H160 G160 rfl W159 3 rfl (Nat.le_of_ble_eq_true rfl)
  have V_b141_159 := V_b141_157.other W159 ne_b141_b152
  have N159 := Fr.snoc X159 N157 ge_b152
  have sz159 : n0 ≤ h159.size := Nat.le_trans sz157 (Nat.le_of_eq W159.size.symm)
  refine Go.st (U' := T159.setTop (mkF m 59 #[.val (.long q0), .second, .val (.long q1), .second, .val (.long q2), .second, .val (.long q3), .second, .val (.long q4), .second, .val (.long q5), .second, .val (.ref b141), .unset, .unset, .unset, .unset, .unset, .unset, .unset, .unset, .unset, .unset] [(.ref b152)])) (fun t k => st159 _ k) ?_
  refine Go.st (U' := T159.setTop (mkF m 66 #[.val (.long q0), .second, .val (.long q1), .second, .val (.long q2), .second, .val (.long q3), .second, .val (.long q4), .second, .val (.long q5), .second, .val (.ref b141), .unset, .unset, .unset, .unset, .unset, .unset, .unset, .unset, .unset, .unset] [(.long (q5 - q4)), (.int (4 : Int32)), (.ref b152), (.ref b152)])) (fun t k => ?_) ?_
  · show Steps p.tables e below (T159.setTop (mkF m 59 #[.val (.long q0), .second, .val (.long q1), .second, .val (.long q2), .second, .val (.long q3), .second, .val (.long q4), .second, .val (.long q5), .second, .val (.ref b141), .unset, .unset, .unset, .unset, .unset, .unset, .unset, .unset, .unset, .unset] [(.ref b152)])) _
    refine XS.dup X159.here hx rfl (hb hby at_59) rfl rfl ?_
    show Steps p.tables e below (T159.setTop (mkF m 60 #[.val (.long q0), .second, .val (.long q1), .second, .val (.long q2), .second, .val (.long q3), .second, .val (.long q4), .second, .val (.long q5), .second, .val (.ref b141), .unset, .unset, .unset, .unset, .unset, .unset, .unset, .unset, .unset, .unset] [(.ref b152), (.ref b152)])) _
    refine XS.iconst X159.here hx rfl (hb hby at_60) ?_
    show Steps p.tables e below (T159.setTop (mkF m 61 #[.val (.long q0), .second, .val (.long q1), .second, .val (.long q2), .second, .val (.long q3), .second, .val (.long q4), .second, .val (.long q5), .second, .val (.ref b141), .unset, .unset, .unset, .unset, .unset, .unset, .unset, .unset, .unset, .unset] [(.int (4 : Int32)), (.ref b152), (.ref b152)])) _
    refine XS.lload X159.here hx rfl (hb hby at_61) rfl ?_
    show Steps p.tables e below (T159.setTop (mkF m 63 #[.val (.long q0), .second, .val (.long q1), .second, .val (.long q2), .second, .val (.long q3), .second, .val (.long q4), .second, .val (.long q5), .second, .val (.ref b141), .unset, .unset, .unset, .unset, .unset, .unset, .unset, .unset, .unset, .unset] [(.long q5), (.int (4 : Int32)), (.ref b152), (.ref b152)])) _
    refine XS.lload X159.here hx rfl (hb hby at_63) rfl ?_
    show Steps p.tables e below (T159.setTop (mkF m 65 #[.val (.long q0), .second, .val (.long q1), .second, .val (.long q2), .second, .val (.long q3), .second, .val (.long q4), .second, .val (.long q5), .second, .val (.ref b141), .unset, .unset, .unset, .unset, .unset, .unset, .unset, .unset, .unset, .unset] [(.long q4), (.long q5), (.int (4 : Int32)), (.ref b152), (.ref b152)])) _
    refine XS.lsub X159.here hx rfl (hb hby at_65) rfl ?_
    exact k
  obtain ⟨cl162, Ar162, q162, S162, N162, H162, G162⟩ := id V_b152_159
  obtain ⟨T161, h161, X161, e161, W161, st161⟩ := stJ X159 hx hZ e159 Ar162 (j := (4 : Int32)) (inb_of (j := (4 : Int32)) S162 ⟨by decide, by decide⟩) (g := (mkF m 66 #[.val (.long q0), .second, .val (.long q1), .second, .val (.long q2), .second, .val (.long q3), .second, .val (.long q4), .second, .val (.long q5), .second, .val (.ref b141), .unset, .unset, .unset, .unset, .unset, .unset, .unset, .unset, .unset, .unset] [(.long (q5 - q4)), (.int (4 : Int32)), (.ref b152), (.ref b152)])) rfl rfl (hb hby at_66)
  have V_b152_161 := Arv.set Ar162 q162 S162 N162 H162 G162 rfl W161 4 rfl (Nat.le_of_ble_eq_true rfl)
  have V_b141_161 := V_b141_159.other W161 ne_b141_b152
  have N161 := Fr.snoc X161 N159 ge_b152
  have sz161 : n0 ≤ h161.size := Nat.le_trans sz159 (Nat.le_of_eq W161.size.symm)
  refine Go.st (U' := T161.setTop (mkF m 67 #[.val (.long q0), .second, .val (.long q1), .second, .val (.long q2), .second, .val (.long q3), .second, .val (.long q4), .second, .val (.long q5), .second, .val (.ref b141), .unset, .unset, .unset, .unset, .unset, .unset, .unset, .unset, .unset, .unset] [(.ref b152)])) (fun t k => st161 _ k) ?_
  refine Go.st (U' := T161.setTop (mkF m 70 #[.val (.long q0), .second, .val (.long q1), .second, .val (.long q2), .second, .val (.long q3), .second, .val (.long q4), .second, .val (.long q5), .second, .val (.ref b141), .val (.ref b152), .unset, .unset, .unset, .unset, .unset, .unset, .unset, .unset, .unset] [(.int (5 : Int32))])) (fun t k => ?_) ?_
  · show Steps p.tables e below (T161.setTop (mkF m 67 #[.val (.long q0), .second, .val (.long q1), .second, .val (.long q2), .second, .val (.long q3), .second, .val (.long q4), .second, .val (.long q5), .second, .val (.ref b141), .unset, .unset, .unset, .unset, .unset, .unset, .unset, .unset, .unset, .unset] [(.ref b152)])) _
    refine XS.astore X161.here hx rfl (hb hby at_67) rfl rfl (l' := #[.val (.long q0), .second, .val (.long q1), .second, .val (.long q2), .second, .val (.long q3), .second, .val (.long q4), .second, .val (.long q5), .second, .val (.ref b141), .val (.ref b152), .unset, .unset, .unset, .unset, .unset, .unset, .unset, .unset, .unset]) rfl ?_
    show Steps p.tables e below (T161.setTop (mkF m 69 #[.val (.long q0), .second, .val (.long q1), .second, .val (.long q2), .second, .val (.long q3), .second, .val (.long q4), .second, .val (.long q5), .second, .val (.ref b141), .val (.ref b152), .unset, .unset, .unset, .unset, .unset, .unset, .unset, .unset, .unset] [])) _
    refine XS.iconst X161.here hx rfl (hb hby at_69) ?_
    exact k
  obtain ⟨T163, h163, k163, X163, e163, E163, A163, st163⟩ := newP X161 hx hZ (own_w hw 0 rfl) e161 (g := (mkF m 70 #[.val (.long q0), .second, .val (.long q1), .second, .val (.long q2), .second, .val (.long q3), .second, .val (.long q4), .second, .val (.long q5), .second, .val (.ref b141), .val (.ref b152), .unset, .unset, .unset, .unset, .unset, .unset, .unset, .unset, .unset] [(.int (5 : Int32))])) rfl (hb hby at_70) rfl (by decide) (cap := 5) (by decide) (by decide) (by decide) (by decide)
  obtain ⟨b163, g163⟩ : ∃ z, z = h161.size := ⟨_, rfl⟩
  rw [← g163] at A163 st163
  have ne_b141_b163 : b141 ≠ b163 := Nat.ne_of_lt (Nat.lt_of_lt_of_le V_b141_161.lt (Nat.le_of_eq g163.symm))
  have ne_b152_b163 : b152 ≠ b163 := Nat.ne_of_lt (Nat.lt_of_lt_of_le V_b152_161.lt (Nat.le_of_eq g163.symm))
  have ge_b163 : n0 ≤ b163 := Nat.le_trans sz161 (Nat.le_of_eq g163.symm)
  have V_b141_163 := V_b141_161.ext E163
  have V_b152_163 := V_b152_161.ext E163
  have V_b163 : Arv Z h163 b163 k163 .long (5 : Int32) [(.long (0 : Int64)), (.long (0 : Int64)), (.long (0 : Int64)), (.long (0 : Int64)), (.long (0 : Int64))] (.long (0 : Int64)) := (Arv.new A163 (by decide)).pad (pad_rep [] (.long (0 : Int64)) 5)
  have sz163 : n0 ≤ h163.size := Nat.le_trans sz161 E163.1
  refine Go.st (U' := T163.setTop (mkF m 72 #[.val (.long q0), .second, .val (.long q1), .second, .val (.long q2), .second, .val (.long q3), .second, .val (.long q4), .second, .val (.long q5), .second, .val (.ref b141), .val (.ref b152), .unset, .unset, .unset, .unset, .unset, .unset, .unset, .unset, .unset] [(.ref b163)])) (fun t k => st163 _ k) ?_
  refine Go.st (U' := T163.setTop (mkF m 75 #[.val (.long q0), .second, .val (.long q1), .second, .val (.long q2), .second, .val (.long q3), .second, .val (.long q4), .second, .val (.long q5), .second, .val (.ref b141), .val (.ref b152), .val (.ref b163), .unset, .unset, .unset, .unset, .unset, .unset, .unset, .unset] [(.int (5 : Int32))])) (fun t k => ?_) ?_
  · show Steps p.tables e below (T163.setTop (mkF m 72 #[.val (.long q0), .second, .val (.long q1), .second, .val (.long q2), .second, .val (.long q3), .second, .val (.long q4), .second, .val (.long q5), .second, .val (.ref b141), .val (.ref b152), .unset, .unset, .unset, .unset, .unset, .unset, .unset, .unset, .unset] [(.ref b163)])) _
    refine XS.astore X163.here hx rfl (hb hby at_72) rfl rfl (l' := #[.val (.long q0), .second, .val (.long q1), .second, .val (.long q2), .second, .val (.long q3), .second, .val (.long q4), .second, .val (.long q5), .second, .val (.ref b141), .val (.ref b152), .val (.ref b163), .unset, .unset, .unset, .unset, .unset, .unset, .unset, .unset]) rfl ?_
    show Steps p.tables e below (T163.setTop (mkF m 74 #[.val (.long q0), .second, .val (.long q1), .second, .val (.long q2), .second, .val (.long q3), .second, .val (.long q4), .second, .val (.long q5), .second, .val (.ref b141), .val (.ref b152), .val (.ref b163), .unset, .unset, .unset, .unset, .unset, .unset, .unset, .unset] [])) _
    refine XS.iconst X163.here hx rfl (hb hby at_74) ?_
    exact k
  obtain ⟨T164, h164, k164, X164, e164, E164, A164, st164⟩ := newP X163 hx hZ (own_w hw 0 rfl) e163 (g := (mkF m 75 #[.val (.long q0), .second, .val (.long q1), .second, .val (.long q2), .second, .val (.long q3), .second, .val (.long q4), .second, .val (.long q5), .second, .val (.ref b141), .val (.ref b152), .val (.ref b163), .unset, .unset, .unset, .unset, .unset, .unset, .unset, .unset] [(.int (5 : Int32))])) rfl (hb hby at_75) rfl (by decide) (cap := 5) (by decide) (by decide) (by decide) (by decide)
  obtain ⟨b164, g164⟩ : ∃ z, z = h163.size := ⟨_, rfl⟩
  rw [← g164] at A164 st164
  have ne_b141_b164 : b141 ≠ b164 := Nat.ne_of_lt (Nat.lt_of_lt_of_le V_b141_163.lt (Nat.le_of_eq g164.symm))
  have ne_b152_b164 : b152 ≠ b164 := Nat.ne_of_lt (Nat.lt_of_lt_of_le V_b152_163.lt (Nat.le_of_eq g164.symm))
  have ne_b163_b164 : b163 ≠ b164 := Nat.ne_of_lt (Nat.lt_of_lt_of_le V_b163.lt (Nat.le_of_eq g164.symm))
  have ge_b164 : n0 ≤ b164 := Nat.le_trans sz163 (Nat.le_of_eq g164.symm)
  have V_b141_164 := V_b141_163.ext E164
  have V_b152_164 := V_b152_163.ext E164
  have V_b163_164 := V_b163.ext E164
  have V_b164 : Arv Z h164 b164 k164 .long (5 : Int32) [(.long (0 : Int64)), (.long (0 : Int64)), (.long (0 : Int64)), (.long (0 : Int64)), (.long (0 : Int64))] (.long (0 : Int64)) := (Arv.new A164 (by decide)).pad (pad_rep [] (.long (0 : Int64)) 5)
  have sz164 : n0 ≤ h164.size := Nat.le_trans sz163 E164.1
  refine Go.st (U' := T164.setTop (mkF m 77 #[.val (.long q0), .second, .val (.long q1), .second, .val (.long q2), .second, .val (.long q3), .second, .val (.long q4), .second, .val (.long q5), .second, .val (.ref b141), .val (.ref b152), .val (.ref b163), .unset, .unset, .unset, .unset, .unset, .unset, .unset, .unset] [(.ref b164)])) (fun t k => st164 _ k) ?_
  refine Go.st (U' := T164.setTop (mkF m 85 #[.val (.long q0), .second, .val (.long q1), .second, .val (.long q2), .second, .val (.long q3), .second, .val (.long q4), .second, .val (.long q5), .second, .val (.ref b141), .val (.ref b152), .val (.ref b163), .val (.ref b164), .unset, .unset, .unset, .unset, .unset, .unset, .unset] [(.ref b152), (.ref b141), (.ref b163)])) (fun t k => ?_) ?_
  · show Steps p.tables e below (T164.setTop (mkF m 77 #[.val (.long q0), .second, .val (.long q1), .second, .val (.long q2), .second, .val (.long q3), .second, .val (.long q4), .second, .val (.long q5), .second, .val (.ref b141), .val (.ref b152), .val (.ref b163), .unset, .unset, .unset, .unset, .unset, .unset, .unset, .unset] [(.ref b164)])) _
    refine XS.astore X164.here hx rfl (hb hby at_77) rfl rfl (l' := #[.val (.long q0), .second, .val (.long q1), .second, .val (.long q2), .second, .val (.long q3), .second, .val (.long q4), .second, .val (.long q5), .second, .val (.ref b141), .val (.ref b152), .val (.ref b163), .val (.ref b164), .unset, .unset, .unset, .unset, .unset, .unset, .unset]) rfl ?_
    show Steps p.tables e below (T164.setTop (mkF m 79 #[.val (.long q0), .second, .val (.long q1), .second, .val (.long q2), .second, .val (.long q3), .second, .val (.long q4), .second, .val (.long q5), .second, .val (.ref b141), .val (.ref b152), .val (.ref b163), .val (.ref b164), .unset, .unset, .unset, .unset, .unset, .unset, .unset] [])) _
    refine XS.aload X164.here hx rfl (hb hby at_79) rfl rfl ?_
    show Steps p.tables e below (T164.setTop (mkF m 81 #[.val (.long q0), .second, .val (.long q1), .second, .val (.long q2), .second, .val (.long q3), .second, .val (.long q4), .second, .val (.long q5), .second, .val (.ref b141), .val (.ref b152), .val (.ref b163), .val (.ref b164), .unset, .unset, .unset, .unset, .unset, .unset, .unset] [(.ref b163)])) _
    refine XS.aload X164.here hx rfl (hb hby at_81) rfl rfl ?_
    show Steps p.tables e below (T164.setTop (mkF m 83 #[.val (.long q0), .second, .val (.long q1), .second, .val (.long q2), .second, .val (.long q3), .second, .val (.long q4), .second, .val (.long q5), .second, .val (.ref b141), .val (.ref b152), .val (.ref b163), .val (.ref b164), .unset, .unset, .unset, .unset, .unset, .unset, .unset] [(.ref b141), (.ref b163)])) _
    refine XS.aload X164.here hx rfl (hb hby at_83) rfl rfl ?_
    exact k
  obtain ⟨_, _, ⟨T165, L165, k165, n165⟩, -, X165, ⟨Lc165, hQ165, l165, y165, z165⟩, st165⟩ := Jvm.LawKit.callS X164 hx (y := own_y0) hown (mvT hZ (own_w hw 2 rfl)) (mvT hZ (own_w hw 3 rfl)) (mvT hZ (own_w hw 4 rfl)) (mvT hZ (own_w hw 5 rfl)) (by decide) (backOf (W := 0) (rm1 l Z a0 hw [] b163 b141 b152 k163 k141 k152 q0 q1 q2 q3 q4 q5 (q5 ^^^ (-1 : Int64)) (q5 ^^^ q0) (q5 + q1) (q5 - q4) (0 : Int64) (0 : Int64) (0 : Int64) (0 : Int64) (0 : Int64) h164 n0 sz164 V_b163_164 V_b141_164 V_b152_164 ge_b163 ne_b141_b163 ne_b152_b163) hZ (own_w hw 5 rfl) (own_w hw 4 rfl) (by decide) (by decide)) (g := (mkF m 85 #[.val (.long q0), .second, .val (.long q1), .second, .val (.long q2), .second, .val (.long q3), .second, .val (.long q4), .second, .val (.long q5), .second, .val (.ref b141), .val (.ref b152), .val (.ref b163), .val (.ref b164), .unset, .unset, .unset, .unset, .unset, .unset, .unset] [(.ref b152), (.ref b141), (.ref b163)])) rfl (by rw [hml]; rfl) (argsL := [(.ref b163), (.ref b141), (.ref b152)]) (rest := []) (lenOf pd_0 rfl) rfl (by show 2 * 0 + _ ≤ _; exact Nat.le_of_eq rfl) (hb hby at_85) (fun _ _ => ⟨rfl, e164, (by decide : 4 + 0 ≤ _), (by decide : 20 + 0 ≤ _)⟩)
  dsimp only [Pt.U, Pt.locs, Pt.cells, Pt.slots] at X165 l165 y165 z165 st165 hQ165
  subst l165 y165 z165
  obtain ⟨rfl, N165q, K165, P165_0⟩ := hQ165
  have V_b141_165 := V_b141_164.keep K165 (ninS ne_b141_b163 nin0)
  have V_b152_165 := V_b152_164.keep K165 (ninS ne_b152_b163 nin0)
  have V_b164_165 := V_b164.keep K165 (ninS (Ne.symm ne_b163_b164) nin0)
  have sz165 : n0 ≤ T165.heap.size := Nat.le_trans sz164 K165.1
  have N165 := Fr.app N161 N165q
  refine Go.st (U' := T165.setTop (mkF m 88 #[.val (.long q0), .second, .val (.long q1), .second, .val (.long q2), .second, .val (.long q3), .second, .val (.long q4), .second, .val (.long q5), .second, .val (.ref b141), .val (.ref b152), .val (.ref b163), .val (.ref b164), .unset, .unset, .unset, .unset, .unset, .unset, .unset] [])) (fun t k => st165 _ k) ?_
  refine Go.st (U' := T165.setTop (mkF m 94 #[.val (.long q0), .second, .val (.long q1), .second, .val (.long q2), .second, .val (.long q3), .second, .val (.long q4), .second, .val (.long q5), .second, .val (.ref b141), .val (.ref b152), .val (.ref b163), .val (.ref b164), .unset, .unset, .unset, .unset, .unset, .unset, .unset] [(.ref b152), (.ref b163), (.ref b164)])) (fun t k => ?_) ?_
  · show Steps p.tables e below (T165.setTop (mkF m 88 #[.val (.long q0), .second, .val (.long q1), .second, .val (.long q2), .second, .val (.long q3), .second, .val (.long q4), .second, .val (.long q5), .second, .val (.ref b141), .val (.ref b152), .val (.ref b163), .val (.ref b164), .unset, .unset, .unset, .unset, .unset, .unset, .unset] [])) _
    refine XS.aload X165.here hx rfl (hb hby at_88) rfl rfl ?_
    show Steps p.tables e below (T165.setTop (mkF m 90 #[.val (.long q0), .second, .val (.long q1), .second, .val (.long q2), .second, .val (.long q3), .second, .val (.long q4), .second, .val (.long q5), .second, .val (.ref b141), .val (.ref b152), .val (.ref b163), .val (.ref b164), .unset, .unset, .unset, .unset, .unset, .unset, .unset] [(.ref b164)])) _
    refine XS.aload X165.here hx rfl (hb hby at_90) rfl rfl ?_
    show Steps p.tables e below (T165.setTop (mkF m 92 #[.val (.long q0), .second, .val (.long q1), .second, .val (.long q2), .second, .val (.long q3), .second, .val (.long q4), .second, .val (.long q5), .second, .val (.ref b141), .val (.ref b152), .val (.ref b163), .val (.ref b164), .unset, .unset, .unset, .unset, .unset, .unset, .unset] [(.ref b163), (.ref b164)])) _
    refine XS.aload X165.here hx rfl (hb hby at_92) rfl rfl ?_
    exact k
  obtain ⟨_, _, ⟨T166, L166, k166, n166⟩, -, X166, ⟨Lc166, hQ166, l166, y166, z166⟩, st166⟩ := Jvm.LawKit.callS X165 hx (y := own_y1) hown (mvT hZ (own_w hw 8 rfl)) (mvT hZ (own_w hw 9 rfl)) (mvT hZ (own_w hw 4 rfl)) (mvT hZ (own_w hw 10 rfl)) (by decide) (backOf (W := 0) (rm2 l Z a0 hw [] b164 b163 b152 k164 k163 k152 ((q0 - q5) + (4503599627370458 : Int64)) ((q1 - (q5 ^^^ (-1 : Int64))) + (4503599627370494 : Int64)) ((q2 - (q5 ^^^ q0)) + (4503599627370494 : Int64)) ((q3 - (q5 + q1)) + (4503599627370494 : Int64)) ((q4 - (q5 - q4)) + (4503599627370494 : Int64)) q5 (q5 ^^^ (-1 : Int64)) (q5 ^^^ q0) (q5 + q1) (q5 - q4) (0 : Int64) (0 : Int64) (0 : Int64) (0 : Int64) (0 : Int64) T165.heap n0 sz165 V_b164_165 P165_0 V_b152_165 ge_b164 ne_b163_b164 ne_b152_b164) hZ (own_w hw 10 rfl) (own_w hw 4 rfl) (by decide) (by decide)) (g := (mkF m 94 #[.val (.long q0), .second, .val (.long q1), .second, .val (.long q2), .second, .val (.long q3), .second, .val (.long q4), .second, .val (.long q5), .second, .val (.ref b141), .val (.ref b152), .val (.ref b163), .val (.ref b164), .unset, .unset, .unset, .unset, .unset, .unset, .unset] [(.ref b152), (.ref b163), (.ref b164)])) rfl (by rw [hml]; rfl) (argsL := [(.ref b164), (.ref b163), (.ref b152)]) (rest := []) (lenOf pd_0 rfl) rfl (by show 2 * 0 + _ ≤ _; exact Nat.le_of_eq rfl) (hb hby at_94) (fun _ _ => ⟨rfl, rfl, (by decide : 4 + 0 ≤ _), (by decide : 20 + 0 ≤ _)⟩)
  dsimp only [Pt.U, Pt.locs, Pt.cells, Pt.slots] at X166 l166 y166 z166 st166 hQ166
  subst l166 y166 z166
  obtain ⟨rfl, N166q, K166, P166_0⟩ := hQ166
  have V_b141_166 := V_b141_165.keep K166 (ninS ne_b141_b164 nin0)
  have V_b152_166 := V_b152_165.keep K166 (ninS ne_b152_b164 nin0)
  have ?_166 := P165_0.keep K166 (ninS ne_b163_b164 nin0)
  have sz166 : n0 ≤ T166.heap.size := Nat.le_trans sz165 K166.1
  have N166 := Fr.app N165 N166q
  refine Go.st (U' := T166.setTop (mkF m 97 #[.val (.long q0), .second, .val (.long q1), .second, .val (.long q2), .second, .val (.long q3), .second, .val (.long q4), .second, .val (.long q5), .second, .val (.ref b141), .val (.ref b152), .val (.ref b163), .val (.ref b164), .unset, .unset, .unset, .unset, .unset, .unset, .unset] [])) (fun t k => st166 _ k) ?_
  obtain ⟨cl167, Ar167, q167, S167, N167, H167, G167⟩ := id P166_0
  obtain ⟨cl168, Ar168, q168, S168, N168, H168, G168⟩ := id V_b141_166
  obtain ⟨cl169, Ar169, q169, S169, N169, H169, G169⟩ := id V_b152_166
  refine Go.st (U' := T166.setTop (mkF m 320 #[.val (.long q0), .second, .val (.long q1), .second, .val (.long q2), .second, .val (.long q3), .second, .val (.long q4), .second, .val (.long q5), .second, .val (.ref b141), .val (.ref b152), .val (.ref b163), .val (.ref b164), .val (.long (4503599627370458 : Int64)), .second, .val (.long (4503599627370494 : Int64)), .second, .val (.int (1 : Int32)), .val (.int (1 : Int32)), .val (.int (1 : Int32))] [(.int (1 : Int32))])) (fun t k => ?_) ?_
  · show Steps p.tables e below (T166.setTop (mkF m 97 #[.val (.long q0), .second, .val (.long q1), .second, .val (.long q2), .second, .val (.long q3), .second, .val (.long q4), .second, .val (.long q5), .second, .val (.ref b141), .val (.ref b152), .val (.ref b163), .val (.ref b164), .unset, .unset, .unset, .unset, .unset, .unset, .unset] [])) _
    refine X166.ldc2Long hx hown (mvT hZ (own_w hw 11 rfl)) (g := (mkF m 97 #[.val (.long q0), .second, .val (.long q1), .second, .val (.long q2), .second, .val (.long q3), .second, .val (.long q4), .second, .val (.long q5), .second, .val (.ref b141), .val (.ref b152), .val (.ref b163), .val (.ref b164), .unset, .unset, .unset, .unset, .unset, .unset, .unset] [])) rfl (hb hby at_97) _ ?_
    show Steps p.tables e below (T166.setTop (mkF m 100 #[.val (.long q0), .second, .val (.long q1), .second, .val (.long q2), .second, .val (.long q3), .second, .val (.long q4), .second, .val (.long q5), .second, .val (.ref b141), .val (.ref b152), .val (.ref b163), .val (.ref b164), .unset, .unset, .unset, .unset, .unset, .unset, .unset] [(.long (4503599627370458 : Int64))])) _
    refine XS.lstore X166.here hx rfl (hb hby at_100) rfl (l' := #[.val (.long q0), .second, .val (.long q1), .second, .val (.long q2), .second, .val (.long q3), .second, .val (.long q4), .second, .val (.long q5), .second, .val (.ref b141), .val (.ref b152), .val (.ref b163), .val (.ref b164), .val (.long (4503599627370458 : Int64)), .second, .unset, .unset, .unset, .unset, .unset]) rfl ?_
    show Steps p.tables e below (T166.setTop (mkF m 102 #[.val (.long q0), .second, .val (.long q1), .second, .val (.long q2), .second, .val (.long q3), .second, .val (.long q4), .second, .val (.long q5), .second, .val (.ref b141), .val (.ref b152), .val (.ref b163), .val (.ref b164), .val (.long (4503599627370458 : Int64)), .second, .unset, .unset, .unset, .unset, .unset] [])) _
    refine X166.ldc2Long hx hown (mvT hZ (own_w hw 12 rfl)) (g := (mkF m 102 #[.val (.long q0), .second, .val (.long q1), .second, .val (.long q2), .second, .val (.long q3), .second, .val (.long q4), .second, .val (.long q5), .second, .val (.ref b141), .val (.ref b152), .val (.ref b163), .val (.ref b164), .val (.long (4503599627370458 : Int64)), .second, .unset, .unset, .unset, .unset, .unset] [])) rfl (hb hby at_102) _ ?_
    show Steps p.tables e below (T166.setTop (mkF m 105 #[.val (.long q0), .second, .val (.long q1), .second, .val (.long q2), .second, .val (.long q3), .second, .val (.long q4), .second, .val (.long q5), .second, .val (.ref b141), .val (.ref b152), .val (.ref b163), .val (.ref b164), .val (.long (4503599627370458 : Int64)), .second, .unset, .unset, .unset, .unset, .unset] [(.long (4503599627370494 : Int64))])) _
    refine XS.lstore X166.here hx rfl (hb hby at_105) rfl (l' := #[.val (.long q0), .second, .val (.long q1), .second, .val (.long q2), .second, .val (.long q3), .second, .val (.long q4), .second, .val (.long q5), .second, .val (.ref b141), .val (.ref b152), .val (.ref b163), .val (.ref b164), .val (.long (4503599627370458 : Int64)), .second, .val (.long (4503599627370494 : Int64)), .second, .unset, .unset, .unset]) rfl ?_
    show Steps p.tables e below (T166.setTop (mkF m 107 #[.val (.long q0), .second, .val (.long q1), .second, .val (.long q2), .second, .val (.long q3), .second, .val (.long q4), .second, .val (.long q5), .second, .val (.ref b141), .val (.ref b152), .val (.ref b163), .val (.ref b164), .val (.long (4503599627370458 : Int64)), .second, .val (.long (4503599627370494 : Int64)), .second, .unset, .unset, .unset] [])) _
    refine XS.aload X166.here hx rfl (hb hby at_107) rfl rfl ?_
    show Steps p.tables e below (T166.setTop (mkF m 109 #[.val (.long q0), .second, .val (.long q1), .second, .val (.long q2), .second, .val (.long q3), .second, .val (.long q4), .second, .val (.long q5), .second, .val (.ref b141), .val (.ref b152), .val (.ref b163), .val (.ref b164), .val (.long (4503599627370458 : Int64)), .second, .val (.long (4503599627370494 : Int64)), .second, .unset, .unset, .unset] [(.ref b164)])) _
    refine XS.iconst X166.here hx rfl (hb hby at_109) ?_
    show Steps p.tables e below (T166.setTop (mkF m 110 #[.val (.long q0), .second, .val (.long q1), .second, .val (.long q2), .second, .val (.long q3), .second, .val (.long q4), .second, .val (.long q5), .second, .val (.ref b141), .val (.ref b152), .val (.ref b163), .val (.ref b164), .val (.long (4503599627370458 : Int64)), .second, .val (.long (4503599627370494 : Int64)), .second, .unset, .unset, .unset] [(.int (0 : Int32)), (.ref b164)])) _
    refine X166.laload hx (j := (0 : Int32)) (v := (.long (((q0 - q5) + (4503599627370458 : Int64)) + q5))) (Ar167.1) (State.isArrayOf_alike hZ.alike Ar167.2.1) Ar167.2.2 (inb_of (j := (0 : Int32)) S167 ⟨by decide, by decide⟩) (Has.at H167 (inb_of (j := (0 : Int32)) S167 ⟨by decide, by decide⟩) rfl) (g := (mkF m 110 #[.val (.long q0), .second, .val (.long q1), .second, .val (.long q2), .second, .val (.long q3), .second, .val (.long q4), .second, .val (.long q5), .second, .val (.ref b141), .val (.ref b152), .val (.ref b163), .val (.ref b164), .val (.long (4503599627370458 : Int64)), .second, .val (.long (4503599627370494 : Int64)), .second, .unset, .unset, .unset] [(.int (0 : Int32)), (.ref b164)])) rfl rfl (hb hby at_110) _ ?_
    show Steps p.tables e below (T166.setTop (mkF m 111 #[.val (.long q0), .second, .val (.long q1), .second, .val (.long q2), .second, .val (.long q3), .second, .val (.long q4), .second, .val (.long q5), .second, .val (.ref b141), .val (.ref b152), .val (.ref b163), .val (.ref b164), .val (.long (4503599627370458 : Int64)), .second, .val (.long (4503599627370494 : Int64)), .second, .unset, .unset, .unset] [(.long (((q0 - q5) + (4503599627370458 : Int64)) + q5))])) _
    refine XS.lloadN X166.here hx rfl (hb hby at_111) rfl ?_
    show Steps p.tables e below (T166.setTop (mkF m 112 #[.val (.long q0), .second, .val (.long q1), .second, .val (.long q2), .second, .val (.long q3), .second, .val (.long q4), .second, .val (.long q5), .second, .val (.ref b141), .val (.ref b152), .val (.ref b163), .val (.ref b164), .val (.long (4503599627370458 : Int64)), .second, .val (.long (4503599627370494 : Int64)), .second, .unset, .unset, .unset] [(.long q0), (.long (((q0 - q5) + (4503599627370458 : Int64)) + q5))])) _
    refine XS.lload X166.here hx rfl (hb hby at_112) rfl ?_
    show Steps p.tables e below (T166.setTop (mkF m 114 #[.val (.long q0), .second, .val (.long q1), .second, .val (.long q2), .second, .val (.long q3), .second, .val (.long q4), .second, .val (.long q5), .second, .val (.ref b141), .val (.ref b152), .val (.ref b163), .val (.ref b164), .val (.long (4503599627370458 : Int64)), .second, .val (.long (4503599627370494 : Int64)), .second, .unset, .unset, .unset] [(.long (4503599627370458 : Int64)), (.long q0), (.long (((q0 - q5) + (4503599627370458 : Int64)) + q5))])) _
    refine XS.ladd X166.here hx rfl (hb hby at_114) rfl ?_
    show Steps p.tables e below (T166.setTop (mkF m 115 #[.val (.long q0), .second, .val (.long q1), .second, .val (.long q2), .second, .val (.long q3), .second, .val (.long q4), .second, .val (.long q5), .second, .val (.ref b141), .val (.ref b152), .val (.ref b163), .val (.ref b164), .val (.long (4503599627370458 : Int64)), .second, .val (.long (4503599627370494 : Int64)), .second, .unset, .unset, .unset] [(.long (q0 + (4503599627370458 : Int64))), (.long (((q0 - q5) + (4503599627370458 : Int64)) + q5))])) _
    refine XS.lcmp X166.here hx rfl (hb hby at_115) rfl ?_
    show Steps p.tables e below (T166.setTop (mkF m 116 #[.val (.long q0), .second, .val (.long q1), .second, .val (.long q2), .second, .val (.long q3), .second, .val (.long q4), .second, .val (.long q5), .second, .val (.ref b141), .val (.ref b152), .val (.ref b163), .val (.ref b164), .val (.long (4503599627370458 : Int64)), .second, .val (.long (4503599627370494 : Int64)), .second, .unset, .unset, .unset] [(.int (lcmpW (((q0 - q5) + (4503599627370458 : Int64)) + q5) (q0 + (4503599627370458 : Int64))))])) _
    refine XS.ifNo X166.here hx rfl (hb hby at_116) rfl ((if0 _ _).trans (teq ((lw_eq _ _).mpr (own_sa _ _ _ : (((q0 - q5) + (4503599627370458 : Int64)) + q5) = (q0 + (4503599627370458 : Int64))))).2) ?_
    show Steps p.tables e below (T166.setTop (mkF m 119 #[.val (.long q0), .second, .val (.long q1), .second, .val (.long q2), .second, .val (.long q3), .second, .val (.long q4), .second, .val (.long q5), .second, .val (.ref b141), .val (.ref b152), .val (.ref b163), .val (.ref b164), .val (.long (4503599627370458 : Int64)), .second, .val (.long (4503599627370494 : Int64)), .second, .unset, .unset, .unset] [])) _
    refine XS.aload X166.here hx rfl (hb hby at_119) rfl rfl ?_
    show Steps p.tables e below (T166.setTop (mkF m 121 #[.val (.long q0), .second, .val (.long q1), .second, .val (.long q2), .second, .val (.long q3), .second, .val (.long q4), .second, .val (.long q5), .second, .val (.ref b141), .val (.ref b152), .val (.ref b163), .val (.ref b164), .val (.long (4503599627370458 : Int64)), .second, .val (.long (4503599627370494 : Int64)), .second, .unset, .unset, .unset] [(.ref b164)])) _
    refine XS.iconst X166.here hx rfl (hb hby at_121) ?_
    show Steps p.tables e below (T166.setTop (mkF m 122 #[.val (.long q0), .second, .val (.long q1), .second, .val (.long q2), .second, .val (.long q3), .second, .val (.long q4), .second, .val (.long q5), .second, .val (.ref b141), .val (.ref b152), .val (.ref b163), .val (.ref b164), .val (.long (4503599627370458 : Int64)), .second, .val (.long (4503599627370494 : Int64)), .second, .unset, .unset, .unset] [(.int (1 : Int32)), (.ref b164)])) _
    refine X166.laload hx (j := (1 : Int32)) (v := (.long (((q1 - (q5 ^^^ (-1 : Int64))) + (4503599627370494 : Int64)) + (q5 ^^^ (-1 : Int64))))) (Ar167.1) (State.isArrayOf_alike hZ.alike Ar167.2.1) Ar167.2.2 (inb_of (j := (1 : Int32)) S167 ⟨by decide, by decide⟩) (Has.at H167 (inb_of (j := (1 : Int32)) S167 ⟨by decide, by decide⟩) rfl) (g := (mkF m 122 #[.val (.long q0), .second, .val (.long q1), .second, .val (.long q2), .second, .val (.long q3), .second, .val (.long q4), .second, .val (.long q5), .second, .val (.ref b141), .val (.ref b152), .val (.ref b163), .val (.ref b164), .val (.long (4503599627370458 : Int64)), .second, .val (.long (4503599627370494 : Int64)), .second, .unset, .unset, .unset] [(.int (1 : Int32)), (.ref b164)])) rfl rfl (hb hby at_122) _ ?_
    show Steps p.tables e below (T166.setTop (mkF m 123 #[.val (.long q0), .second, .val (.long q1), .second, .val (.long q2), .second, .val (.long q3), .second, .val (.long q4), .second, .val (.long q5), .second, .val (.ref b141), .val (.ref b152), .val (.ref b163), .val (.ref b164), .val (.long (4503599627370458 : Int64)), .second, .val (.long (4503599627370494 : Int64)), .second, .unset, .unset, .unset] [(.long (((q1 - (q5 ^^^ (-1 : Int64))) + (4503599627370494 : Int64)) + (q5 ^^^ (-1 : Int64))))])) _
    refine XS.lloadN X166.here hx rfl (hb hby at_123) rfl ?_
    show Steps p.tables e below (T166.setTop (mkF m 124 #[.val (.long q0), .second, .val (.long q1), .second, .val (.long q2), .second, .val (.long q3), .second, .val (.long q4), .second, .val (.long q5), .second, .val (.ref b141), .val (.ref b152), .val (.ref b163), .val (.ref b164), .val (.long (4503599627370458 : Int64)), .second, .val (.long (4503599627370494 : Int64)), .second, .unset, .unset, .unset] [(.long q1), (.long (((q1 - (q5 ^^^ (-1 : Int64))) + (4503599627370494 : Int64)) + (q5 ^^^ (-1 : Int64))))])) _
    refine XS.lload X166.here hx rfl (hb hby at_124) rfl ?_
    show Steps p.tables e below (T166.setTop (mkF m 126 #[.val (.long q0), .second, .val (.long q1), .second, .val (.long q2), .second, .val (.long q3), .second, .val (.long q4), .second, .val (.long q5), .second, .val (.ref b141), .val (.ref b152), .val (.ref b163), .val (.ref b164), .val (.long (4503599627370458 : Int64)), .second, .val (.long (4503599627370494 : Int64)), .second, .unset, .unset, .unset] [(.long (4503599627370494 : Int64)), (.long q1), (.long (((q1 - (q5 ^^^ (-1 : Int64))) + (4503599627370494 : Int64)) + (q5 ^^^ (-1 : Int64))))])) _
    refine XS.ladd X166.here hx rfl (hb hby at_126) rfl ?_
    show Steps p.tables e below (T166.setTop (mkF m 127 #[.val (.long q0), .second, .val (.long q1), .second, .val (.long q2), .second, .val (.long q3), .second, .val (.long q4), .second, .val (.long q5), .second, .val (.ref b141), .val (.ref b152), .val (.ref b163), .val (.ref b164), .val (.long (4503599627370458 : Int64)), .second, .val (.long (4503599627370494 : Int64)), .second, .unset, .unset, .unset] [(.long (q1 + (4503599627370494 : Int64))), (.long (((q1 - (q5 ^^^ (-1 : Int64))) + (4503599627370494 : Int64)) + (q5 ^^^ (-1 : Int64))))])) _
    refine XS.lcmp X166.here hx rfl (hb hby at_127) rfl ?_
    show Steps p.tables e below (T166.setTop (mkF m 128 #[.val (.long q0), .second, .val (.long q1), .second, .val (.long q2), .second, .val (.long q3), .second, .val (.long q4), .second, .val (.long q5), .second, .val (.ref b141), .val (.ref b152), .val (.ref b163), .val (.ref b164), .val (.long (4503599627370458 : Int64)), .second, .val (.long (4503599627370494 : Int64)), .second, .unset, .unset, .unset] [(.int (lcmpW (((q1 - (q5 ^^^ (-1 : Int64))) + (4503599627370494 : Int64)) + (q5 ^^^ (-1 : Int64))) (q1 + (4503599627370494 : Int64))))])) _
    refine XS.ifNo X166.here hx rfl (hb hby at_128) rfl ((if0 _ _).trans (teq ((lw_eq _ _).mpr (own_sa _ _ _ : (((q1 - (q5 ^^^ (-1 : Int64))) + (4503599627370494 : Int64)) + (q5 ^^^ (-1 : Int64))) = (q1 + (4503599627370494 : Int64))))).2) ?_
    show Steps p.tables e below (T166.setTop (mkF m 131 #[.val (.long q0), .second, .val (.long q1), .second, .val (.long q2), .second, .val (.long q3), .second, .val (.long q4), .second, .val (.long q5), .second, .val (.ref b141), .val (.ref b152), .val (.ref b163), .val (.ref b164), .val (.long (4503599627370458 : Int64)), .second, .val (.long (4503599627370494 : Int64)), .second, .unset, .unset, .unset] [])) _
    refine XS.aload X166.here hx rfl (hb hby at_131) rfl rfl ?_
    show Steps p.tables e below (T166.setTop (mkF m 133 #[.val (.long q0), .second, .val (.long q1), .second, .val (.long q2), .second, .val (.long q3), .second, .val (.long q4), .second, .val (.long q5), .second, .val (.ref b141), .val (.ref b152), .val (.ref b163), .val (.ref b164), .val (.long (4503599627370458 : Int64)), .second, .val (.long (4503599627370494 : Int64)), .second, .unset, .unset, .unset] [(.ref b164)])) _
    refine XS.iconst X166.here hx rfl (hb hby at_133) ?_
    show Steps p.tables e below (T166.setTop (mkF m 134 #[.val (.long q0), .second, .val (.long q1), .second, .val (.long q2), .second, .val (.long q3), .second, .val (.long q4), .second, .val (.long q5), .second, .val (.ref b141), .val (.ref b152), .val (.ref b163), .val (.ref b164), .val (.long (4503599627370458 : Int64)), .second, .val (.long (4503599627370494 : Int64)), .second, .unset, .unset, .unset] [(.int (2 : Int32)), (.ref b164)])) _
    refine X166.laload hx (j := (2 : Int32)) (v := (.long (((q2 - (q5 ^^^ q0)) + (4503599627370494 : Int64)) + (q5 ^^^ q0)))) (Ar167.1) (State.isArrayOf_alike hZ.alike Ar167.2.1) Ar167.2.2 (inb_of (j := (2 : Int32)) S167 ⟨by decide, by decide⟩) (Has.at H167 (inb_of (j := (2 : Int32)) S167 ⟨by decide, by decide⟩) rfl) (g := (mkF m 134 #[.val (.long q0), .second, .val (.long q1), .second, .val (.long q2), .second, .val (.long q3), .second, .val (.long q4), .second, .val (.long q5), .second, .val (.ref b141), .val (.ref b152), .val (.ref b163), .val (.ref b164), .val (.long (4503599627370458 : Int64)), .second, .val (.long (4503599627370494 : Int64)), .second, .unset, .unset, .unset] [(.int (2 : Int32)), (.ref b164)])) rfl rfl (hb hby at_134) _ ?_
    show Steps p.tables e below (T166.setTop (mkF m 135 #[.val (.long q0), .second, .val (.long q1), .second, .val (.long q2), .second, .val (.long q3), .second, .val (.long q4), .second, .val (.long q5), .second, .val (.ref b141), .val (.ref b152), .val (.ref b163), .val (.ref b164), .val (.long (4503599627370458 : Int64)), .second, .val (.long (4503599627370494 : Int64)), .second, .unset, .unset, .unset] [(.long (((q2 - (q5 ^^^ q0)) + (4503599627370494 : Int64)) + (q5 ^^^ q0)))])) _
    refine XS.lload X166.here hx rfl (hb hby at_135) rfl ?_
    show Steps p.tables e below (T166.setTop (mkF m 137 #[.val (.long q0), .second, .val (.long q1), .second, .val (.long q2), .second, .val (.long q3), .second, .val (.long q4), .second, .val (.long q5), .second, .val (.ref b141), .val (.ref b152), .val (.ref b163), .val (.ref b164), .val (.long (4503599627370458 : Int64)), .second, .val (.long (4503599627370494 : Int64)), .second, .unset, .unset, .unset] [(.long q2), (.long (((q2 - (q5 ^^^ q0)) + (4503599627370494 : Int64)) + (q5 ^^^ q0)))])) _
    refine XS.lload X166.here hx rfl (hb hby at_137) rfl ?_
    show Steps p.tables e below (T166.setTop (mkF m 139 #[.val (.long q0), .second, .val (.long q1), .second, .val (.long q2), .second, .val (.long q3), .second, .val (.long q4), .second, .val (.long q5), .second, .val (.ref b141), .val (.ref b152), .val (.ref b163), .val (.ref b164), .val (.long (4503599627370458 : Int64)), .second, .val (.long (4503599627370494 : Int64)), .second, .unset, .unset, .unset] [(.long (4503599627370494 : Int64)), (.long q2), (.long (((q2 - (q5 ^^^ q0)) + (4503599627370494 : Int64)) + (q5 ^^^ q0)))])) _
    refine XS.ladd X166.here hx rfl (hb hby at_139) rfl ?_
    show Steps p.tables e below (T166.setTop (mkF m 140 #[.val (.long q0), .second, .val (.long q1), .second, .val (.long q2), .second, .val (.long q3), .second, .val (.long q4), .second, .val (.long q5), .second, .val (.ref b141), .val (.ref b152), .val (.ref b163), .val (.ref b164), .val (.long (4503599627370458 : Int64)), .second, .val (.long (4503599627370494 : Int64)), .second, .unset, .unset, .unset] [(.long (q2 + (4503599627370494 : Int64))), (.long (((q2 - (q5 ^^^ q0)) + (4503599627370494 : Int64)) + (q5 ^^^ q0)))])) _
    refine XS.lcmp X166.here hx rfl (hb hby at_140) rfl ?_
    show Steps p.tables e below (T166.setTop (mkF m 141 #[.val (.long q0), .second, .val (.long q1), .second, .val (.long q2), .second, .val (.long q3), .second, .val (.long q4), .second, .val (.long q5), .second, .val (.ref b141), .val (.ref b152), .val (.ref b163), .val (.ref b164), .val (.long (4503599627370458 : Int64)), .second, .val (.long (4503599627370494 : Int64)), .second, .unset, .unset, .unset] [(.int (lcmpW (((q2 - (q5 ^^^ q0)) + (4503599627370494 : Int64)) + (q5 ^^^ q0)) (q2 + (4503599627370494 : Int64))))])) _
    refine XS.ifNo X166.here hx rfl (hb hby at_141) rfl ((if0 _ _).trans (teq ((lw_eq _ _).mpr (own_sa _ _ _ : (((q2 - (q5 ^^^ q0)) + (4503599627370494 : Int64)) + (q5 ^^^ q0)) = (q2 + (4503599627370494 : Int64))))).2) ?_
    show Steps p.tables e below (T166.setTop (mkF m 144 #[.val (.long q0), .second, .val (.long q1), .second, .val (.long q2), .second, .val (.long q3), .second, .val (.long q4), .second, .val (.long q5), .second, .val (.ref b141), .val (.ref b152), .val (.ref b163), .val (.ref b164), .val (.long (4503599627370458 : Int64)), .second, .val (.long (4503599627370494 : Int64)), .second, .unset, .unset, .unset] [])) _
    refine XS.aload X166.here hx rfl (hb hby at_144) rfl rfl ?_
    show Steps p.tables e below (T166.setTop (mkF m 146 #[.val (.long q0), .second, .val (.long q1), .second, .val (.long q2), .second, .val (.long q3), .second, .val (.long q4), .second, .val (.long q5), .second, .val (.ref b141), .val (.ref b152), .val (.ref b163), .val (.ref b164), .val (.long (4503599627370458 : Int64)), .second, .val (.long (4503599627370494 : Int64)), .second, .unset, .unset, .unset] [(.ref b164)])) _
    refine XS.iconst X166.here hx rfl (hb hby at_146) ?_
    show Steps p.tables e below (T166.setTop (mkF m 147 #[.val (.long q0), .second, .val (.long q1), .second, .val (.long q2), .second, .val (.long q3), .second, .val (.long q4), .second, .val (.long q5), .second, .val (.ref b141), .val (.ref b152), .val (.ref b163), .val (.ref b164), .val (.long (4503599627370458 : Int64)), .second, .val (.long (4503599627370494 : Int64)), .second, .unset, .unset, .unset] [(.int (3 : Int32)), (.ref b164)])) _
    refine X166.laload hx (j := (3 : Int32)) (v := (.long (((q3 - (q5 + q1)) + (4503599627370494 : Int64)) + (q5 + q1)))) (Ar167.1) (State.isArrayOf_alike hZ.alike Ar167.2.1) Ar167.2.2 (inb_of (j := (3 : Int32)) S167 ⟨by decide, by decide⟩) (Has.at H167 (inb_of (j := (3 : Int32)) S167 ⟨by decide, by decide⟩) rfl) (g := (mkF m 147 #[.val (.long q0), .second, .val (.long q1), .second, .val (.long q2), .second, .val (.long q3), .second, .val (.long q4), .second, .val (.long q5), .second, .val (.ref b141), .val (.ref b152), .val (.ref b163), .val (.ref b164), .val (.long (4503599627370458 : Int64)), .second, .val (.long (4503599627370494 : Int64)), .second, .unset, .unset, .unset] [(.int (3 : Int32)), (.ref b164)])) rfl rfl (hb hby at_147) _ ?_
    show Steps p.tables e below (T166.setTop (mkF m 148 #[.val (.long q0), .second, .val (.long q1), .second, .val (.long q2), .second, .val (.long q3), .second, .val (.long q4), .second, .val (.long q5), .second, .val (.ref b141), .val (.ref b152), .val (.ref b163), .val (.ref b164), .val (.long (4503599627370458 : Int64)), .second, .val (.long (4503599627370494 : Int64)), .second, .unset, .unset, .unset] [(.long (((q3 - (q5 + q1)) + (4503599627370494 : Int64)) + (q5 + q1)))])) _
    refine XS.lload X166.here hx rfl (hb hby at_148) rfl ?_
    show Steps p.tables e below (T166.setTop (mkF m 150 #[.val (.long q0), .second, .val (.long q1), .second, .val (.long q2), .second, .val (.long q3), .second, .val (.long q4), .second, .val (.long q5), .second, .val (.ref b141), .val (.ref b152), .val (.ref b163), .val (.ref b164), .val (.long (4503599627370458 : Int64)), .second, .val (.long (4503599627370494 : Int64)), .second, .unset, .unset, .unset] [(.long q3), (.long (((q3 - (q5 + q1)) + (4503599627370494 : Int64)) + (q5 + q1)))])) _
    refine XS.lload X166.here hx rfl (hb hby at_150) rfl ?_
    show Steps p.tables e below (T166.setTop (mkF m 152 #[.val (.long q0), .second, .val (.long q1), .second, .val (.long q2), .second, .val (.long q3), .second, .val (.long q4), .second, .val (.long q5), .second, .val (.ref b141), .val (.ref b152), .val (.ref b163), .val (.ref b164), .val (.long (4503599627370458 : Int64)), .second, .val (.long (4503599627370494 : Int64)), .second, .unset, .unset, .unset] [(.long (4503599627370494 : Int64)), (.long q3), (.long (((q3 - (q5 + q1)) + (4503599627370494 : Int64)) + (q5 + q1)))])) _
    refine XS.ladd X166.here hx rfl (hb hby at_152) rfl ?_
    show Steps p.tables e below (T166.setTop (mkF m 153 #[.val (.long q0), .second, .val (.long q1), .second, .val (.long q2), .second, .val (.long q3), .second, .val (.long q4), .second, .val (.long q5), .second, .val (.ref b141), .val (.ref b152), .val (.ref b163), .val (.ref b164), .val (.long (4503599627370458 : Int64)), .second, .val (.long (4503599627370494 : Int64)), .second, .unset, .unset, .unset] [(.long (q3 + (4503599627370494 : Int64))), (.long (((q3 - (q5 + q1)) + (4503599627370494 : Int64)) + (q5 + q1)))])) _
    refine XS.lcmp X166.here hx rfl (hb hby at_153) rfl ?_
    show Steps p.tables e below (T166.setTop (mkF m 154 #[.val (.long q0), .second, .val (.long q1), .second, .val (.long q2), .second, .val (.long q3), .second, .val (.long q4), .second, .val (.long q5), .second, .val (.ref b141), .val (.ref b152), .val (.ref b163), .val (.ref b164), .val (.long (4503599627370458 : Int64)), .second, .val (.long (4503599627370494 : Int64)), .second, .unset, .unset, .unset] [(.int (lcmpW (((q3 - (q5 + q1)) + (4503599627370494 : Int64)) + (q5 + q1)) (q3 + (4503599627370494 : Int64))))])) _
    refine XS.ifNo X166.here hx rfl (hb hby at_154) rfl ((if0 _ _).trans (teq ((lw_eq _ _).mpr (own_sa _ _ _ : (((q3 - (q5 + q1)) + (4503599627370494 : Int64)) + (q5 + q1)) = (q3 + (4503599627370494 : Int64))))).2) ?_
    show Steps p.tables e below (T166.setTop (mkF m 157 #[.val (.long q0), .second, .val (.long q1), .second, .val (.long q2), .second, .val (.long q3), .second, .val (.long q4), .second, .val (.long q5), .second, .val (.ref b141), .val (.ref b152), .val (.ref b163), .val (.ref b164), .val (.long (4503599627370458 : Int64)), .second, .val (.long (4503599627370494 : Int64)), .second, .unset, .unset, .unset] [])) _
    refine XS.aload X166.here hx rfl (hb hby at_157) rfl rfl ?_
    show Steps p.tables e below (T166.setTop (mkF m 159 #[.val (.long q0), .second, .val (.long q1), .second, .val (.long q2), .second, .val (.long q3), .second, .val (.long q4), .second, .val (.long q5), .second, .val (.ref b141), .val (.ref b152), .val (.ref b163), .val (.ref b164), .val (.long (4503599627370458 : Int64)), .second, .val (.long (4503599627370494 : Int64)), .second, .unset, .unset, .unset] [(.ref b164)])) _
    refine XS.iconst X166.here hx rfl (hb hby at_159) ?_
    show Steps p.tables e below (T166.setTop (mkF m 160 #[.val (.long q0), .second, .val (.long q1), .second, .val (.long q2), .second, .val (.long q3), .second, .val (.long q4), .second, .val (.long q5), .second, .val (.ref b141), .val (.ref b152), .val (.ref b163), .val (.ref b164), .val (.long (4503599627370458 : Int64)), .second, .val (.long (4503599627370494 : Int64)), .second, .unset, .unset, .unset] [(.int (4 : Int32)), (.ref b164)])) _
    refine X166.laload hx (j := (4 : Int32)) (v := (.long (((q4 - (q5 - q4)) + (4503599627370494 : Int64)) + (q5 - q4)))) (Ar167.1) (State.isArrayOf_alike hZ.alike Ar167.2.1) Ar167.2.2 (inb_of (j := (4 : Int32)) S167 ⟨by decide, by decide⟩) (Has.at H167 (inb_of (j := (4 : Int32)) S167 ⟨by decide, by decide⟩) rfl) (g := (mkF m 160 #[.val (.long q0), .second, .val (.long q1), .second, .val (.long q2), .second, .val (.long q3), .second, .val (.long q4), .second, .val (.long q5), .second, .val (.ref b141), .val (.ref b152), .val (.ref b163), .val (.ref b164), .val (.long (4503599627370458 : Int64)), .second, .val (.long (4503599627370494 : Int64)), .second, .unset, .unset, .unset] [(.int (4 : Int32)), (.ref b164)])) rfl rfl (hb hby at_160) _ ?_
    show Steps p.tables e below (T166.setTop (mkF m 161 #[.val (.long q0), .second, .val (.long q1), .second, .val (.long q2), .second, .val (.long q3), .second, .val (.long q4), .second, .val (.long q5), .second, .val (.ref b141), .val (.ref b152), .val (.ref b163), .val (.ref b164), .val (.long (4503599627370458 : Int64)), .second, .val (.long (4503599627370494 : Int64)), .second, .unset, .unset, .unset] [(.long (((q4 - (q5 - q4)) + (4503599627370494 : Int64)) + (q5 - q4)))])) _
    refine XS.lload X166.here hx rfl (hb hby at_161) rfl ?_
    show Steps p.tables e below (T166.setTop (mkF m 163 #[.val (.long q0), .second, .val (.long q1), .second, .val (.long q2), .second, .val (.long q3), .second, .val (.long q4), .second, .val (.long q5), .second, .val (.ref b141), .val (.ref b152), .val (.ref b163), .val (.ref b164), .val (.long (4503599627370458 : Int64)), .second, .val (.long (4503599627370494 : Int64)), .second, .unset, .unset, .unset] [(.long q4), (.long (((q4 - (q5 - q4)) + (4503599627370494 : Int64)) + (q5 - q4)))])) _
    refine XS.lload X166.here hx rfl (hb hby at_163) rfl ?_
    show Steps p.tables e below (T166.setTop (mkF m 165 #[.val (.long q0), .second, .val (.long q1), .second, .val (.long q2), .second, .val (.long q3), .second, .val (.long q4), .second, .val (.long q5), .second, .val (.ref b141), .val (.ref b152), .val (.ref b163), .val (.ref b164), .val (.long (4503599627370458 : Int64)), .second, .val (.long (4503599627370494 : Int64)), .second, .unset, .unset, .unset] [(.long (4503599627370494 : Int64)), (.long q4), (.long (((q4 - (q5 - q4)) + (4503599627370494 : Int64)) + (q5 - q4)))])) _
    refine XS.ladd X166.here hx rfl (hb hby at_165) rfl ?_
    show Steps p.tables e below (T166.setTop (mkF m 166 #[.val (.long q0), .second, .val (.long q1), .second, .val (.long q2), .second, .val (.long q3), .second, .val (.long q4), .second, .val (.long q5), .second, .val (.ref b141), .val (.ref b152), .val (.ref b163), .val (.ref b164), .val (.long (4503599627370458 : Int64)), .second, .val (.long (4503599627370494 : Int64)), .second, .unset, .unset, .unset] [(.long (q4 + (4503599627370494 : Int64))), (.long (((q4 - (q5 - q4)) + (4503599627370494 : Int64)) + (q5 - q4)))])) _
    refine XS.lcmp X166.here hx rfl (hb hby at_166) rfl ?_
    show Steps p.tables e below (T166.setTop (mkF m 167 #[.val (.long q0), .second, .val (.long q1), .second, .val (.long q2), .second, .val (.long q3), .second, .val (.long q4), .second, .val (.long q5), .second, .val (.ref b141), .val (.ref b152), .val (.ref b163), .val (.ref b164), .val (.long (4503599627370458 : Int64)), .second, .val (.long (4503599627370494 : Int64)), .second, .unset, .unset, .unset] [(.int (lcmpW (((q4 - (q5 - q4)) + (4503599627370494 : Int64)) + (q5 - q4)) (q4 + (4503599627370494 : Int64))))])) _
    refine XS.ifNo X166.here hx rfl (hb hby at_167) rfl ((if0 _ _).trans (teq ((lw_eq _ _).mpr (own_sa _ _ _ : (((q4 - (q5 - q4)) + (4503599627370494 : Int64)) + (q5 - q4)) = (q4 + (4503599627370494 : Int64))))).2) ?_
    show Steps p.tables e below (T166.setTop (mkF m 170 #[.val (.long q0), .second, .val (.long q1), .second, .val (.long q2), .second, .val (.long q3), .second, .val (.long q4), .second, .val (.long q5), .second, .val (.ref b141), .val (.ref b152), .val (.ref b163), .val (.ref b164), .val (.long (4503599627370458 : Int64)), .second, .val (.long (4503599627370494 : Int64)), .second, .unset, .unset, .unset] [])) _
    refine XS.iconst X166.here hx rfl (hb hby at_170) ?_
    show Steps p.tables e below (T166.setTop (mkF m 171 #[.val (.long q0), .second, .val (.long q1), .second, .val (.long q2), .second, .val (.long q3), .second, .val (.long q4), .second, .val (.long q5), .second, .val (.ref b141), .val (.ref b152), .val (.ref b163), .val (.ref b164), .val (.long (4503599627370458 : Int64)), .second, .val (.long (4503599627370494 : Int64)), .second, .unset, .unset, .unset] [(.int (1 : Int32))])) _
    refine XS.goto X166.here hx rfl (pc0 := 171) (pc' := 175) rfl (hb hby at_171) (by decide) (by decide) ?_
    show Steps p.tables e below (T166.setTop (mkF m 175 #[.val (.long q0), .second, .val (.long q1), .second, .val (.long q2), .second, .val (.long q3), .second, .val (.long q4), .second, .val (.long q5), .second, .val (.ref b141), .val (.ref b152), .val (.ref b163), .val (.ref b164), .val (.long (4503599627370458 : Int64)), .second, .val (.long (4503599627370494 : Int64)), .second, .unset, .unset, .unset] [(.int (1 : Int32))])) _
    refine XS.istore X166.here hx rfl (hb hby at_175) rfl (l' := #[.val (.long q0), .second, .val (.long q1), .second, .val (.long q2), .second, .val (.long q3), .second, .val (.long q4), .second, .val (.long q5), .second, .val (.ref b141), .val (.ref b152), .val (.ref b163), .val (.ref b164), .val (.long (4503599627370458 : Int64)), .second, .val (.long (4503599627370494 : Int64)), .second, .val (.int (1 : Int32)), .unset, .unset]) rfl ?_
    show Steps p.tables e below (T166.setTop (mkF m 177 #[.val (.long q0), .second, .val (.long q1), .second, .val (.long q2), .second, .val (.long q3), .second, .val (.long q4), .second, .val (.long q5), .second, .val (.ref b141), .val (.ref b152), .val (.ref b163), .val (.ref b164), .val (.long (4503599627370458 : Int64)), .second, .val (.long (4503599627370494 : Int64)), .second, .val (.int (1 : Int32)), .unset, .unset] [])) _
    refine XS.aload X166.here hx rfl (hb hby at_177) rfl rfl ?_
    show Steps p.tables e below (T166.setTop (mkF m 179 #[.val (.long q0), .second, .val (.long q1), .second, .val (.long q2), .second, .val (.long q3), .second, .val (.long q4), .second, .val (.long q5), .second, .val (.ref b141), .val (.ref b152), .val (.ref b163), .val (.ref b164), .val (.long (4503599627370458 : Int64)), .second, .val (.long (4503599627370494 : Int64)), .second, .val (.int (1 : Int32)), .unset, .unset] [(.ref b141)])) _
    refine XS.iconst X166.here hx rfl (hb hby at_179) ?_
    show Steps p.tables e below (T166.setTop (mkF m 180 #[.val (.long q0), .second, .val (.long q1), .second, .val (.long q2), .second, .val (.long q3), .second, .val (.long q4), .second, .val (.long q5), .second, .val (.ref b141), .val (.ref b152), .val (.ref b163), .val (.ref b164), .val (.long (4503599627370458 : Int64)), .second, .val (.long (4503599627370494 : Int64)), .second, .val (.int (1 : Int32)), .unset, .unset] [(.int (0 : Int32)), (.ref b141)])) _
    refine X166.laload hx (j := (0 : Int32)) (v := (.long q0)) (Ar168.1) (State.isArrayOf_alike hZ.alike Ar168.2.1) Ar168.2.2 (inb_of (j := (0 : Int32)) S168 ⟨by decide, by decide⟩) (Has.at H168 (inb_of (j := (0 : Int32)) S168 ⟨by decide, by decide⟩) rfl) (g := (mkF m 180 #[.val (.long q0), .second, .val (.long q1), .second, .val (.long q2), .second, .val (.long q3), .second, .val (.long q4), .second, .val (.long q5), .second, .val (.ref b141), .val (.ref b152), .val (.ref b163), .val (.ref b164), .val (.long (4503599627370458 : Int64)), .second, .val (.long (4503599627370494 : Int64)), .second, .val (.int (1 : Int32)), .unset, .unset] [(.int (0 : Int32)), (.ref b141)])) rfl rfl (hb hby at_180) _ ?_
    show Steps p.tables e below (T166.setTop (mkF m 181 #[.val (.long q0), .second, .val (.long q1), .second, .val (.long q2), .second, .val (.long q3), .second, .val (.long q4), .second, .val (.long q5), .second, .val (.ref b141), .val (.ref b152), .val (.ref b163), .val (.ref b164), .val (.long (4503599627370458 : Int64)), .second, .val (.long (4503599627370494 : Int64)), .second, .val (.int (1 : Int32)), .unset, .unset] [(.long q0)])) _
    refine XS.lloadN X166.here hx rfl (hb hby at_181) rfl ?_
    show Steps p.tables e below (T166.setTop (mkF m 182 #[.val (.long q0), .second, .val (.long q1), .second, .val (.long q2), .second, .val (.long q3), .second, .val (.long q4), .second, .val (.long q5), .second, .val (.ref b141), .val (.ref b152), .val (.ref b163), .val (.ref b164), .val (.long (4503599627370458 : Int64)), .second, .val (.long (4503599627370494 : Int64)), .second, .val (.int (1 : Int32)), .unset, .unset] [(.long q0), (.long q0)])) _
    refine XS.lcmp X166.here hx rfl (hb hby at_182) rfl ?_
    show Steps p.tables e below (T166.setTop (mkF m 183 #[.val (.long q0), .second, .val (.long q1), .second, .val (.long q2), .second, .val (.long q3), .second, .val (.long q4), .second, .val (.long q5), .second, .val (.ref b141), .val (.ref b152), .val (.ref b163), .val (.ref b164), .val (.long (4503599627370458 : Int64)), .second, .val (.long (4503599627370494 : Int64)), .second, .val (.int (1 : Int32)), .unset, .unset] [(.int (lcmpW q0 q0))])) _
    refine XS.ifNo X166.here hx rfl (hb hby at_183) rfl ((if0 _ _).trans (teq ((lw_eq _ _).mpr (rfl : q0 = q0))).2) ?_
    show Steps p.tables e below (T166.setTop (mkF m 186 #[.val (.long q0), .second, .val (.long q1), .second, .val (.long q2), .second, .val (.long q3), .second, .val (.long q4), .second, .val (.long q5), .second, .val (.ref b141), .val (.ref b152), .val (.ref b163), .val (.ref b164), .val (.long (4503599627370458 : Int64)), .second, .val (.long (4503599627370494 : Int64)), .second, .val (.int (1 : Int32)), .unset, .unset] [])) _
    refine XS.aload X166.here hx rfl (hb hby at_186) rfl rfl ?_
    show Steps p.tables e below (T166.setTop (mkF m 188 #[.val (.long q0), .second, .val (.long q1), .second, .val (.long q2), .second, .val (.long q3), .second, .val (.long q4), .second, .val (.long q5), .second, .val (.ref b141), .val (.ref b152), .val (.ref b163), .val (.ref b164), .val (.long (4503599627370458 : Int64)), .second, .val (.long (4503599627370494 : Int64)), .second, .val (.int (1 : Int32)), .unset, .unset] [(.ref b141)])) _
    refine XS.iconst X166.here hx rfl (hb hby at_188) ?_
    show Steps p.tables e below (T166.setTop (mkF m 189 #[.val (.long q0), .second, .val (.long q1), .second, .val (.long q2), .second, .val (.long q3), .second, .val (.long q4), .second, .val (.long q5), .second, .val (.ref b141), .val (.ref b152), .val (.ref b163), .val (.ref b164), .val (.long (4503599627370458 : Int64)), .second, .val (.long (4503599627370494 : Int64)), .second, .val (.int (1 : Int32)), .unset, .unset] [(.int (1 : Int32)), (.ref b141)])) _
    refine X166.laload hx (j := (1 : Int32)) (v := (.long q1)) (Ar168.1) (State.isArrayOf_alike hZ.alike Ar168.2.1) Ar168.2.2 (inb_of (j := (1 : Int32)) S168 ⟨by decide, by decide⟩) (Has.at H168 (inb_of (j := (1 : Int32)) S168 ⟨by decide, by decide⟩) rfl) (g := (mkF m 189 #[.val (.long q0), .second, .val (.long q1), .second, .val (.long q2), .second, .val (.long q3), .second, .val (.long q4), .second, .val (.long q5), .second, .val (.ref b141), .val (.ref b152), .val (.ref b163), .val (.ref b164), .val (.long (4503599627370458 : Int64)), .second, .val (.long (4503599627370494 : Int64)), .second, .val (.int (1 : Int32)), .unset, .unset] [(.int (1 : Int32)), (.ref b141)])) rfl rfl (hb hby at_189) _ ?_
    show Steps p.tables e below (T166.setTop (mkF m 190 #[.val (.long q0), .second, .val (.long q1), .second, .val (.long q2), .second, .val (.long q3), .second, .val (.long q4), .second, .val (.long q5), .second, .val (.ref b141), .val (.ref b152), .val (.ref b163), .val (.ref b164), .val (.long (4503599627370458 : Int64)), .second, .val (.long (4503599627370494 : Int64)), .second, .val (.int (1 : Int32)), .unset, .unset] [(.long q1)])) _
    refine XS.lloadN X166.here hx rfl (hb hby at_190) rfl ?_
    show Steps p.tables e below (T166.setTop (mkF m 191 #[.val (.long q0), .second, .val (.long q1), .second, .val (.long q2), .second, .val (.long q3), .second, .val (.long q4), .second, .val (.long q5), .second, .val (.ref b141), .val (.ref b152), .val (.ref b163), .val (.ref b164), .val (.long (4503599627370458 : Int64)), .second, .val (.long (4503599627370494 : Int64)), .second, .val (.int (1 : Int32)), .unset, .unset] [(.long q1), (.long q1)])) _
    refine XS.lcmp X166.here hx rfl (hb hby at_191) rfl ?_
    show Steps p.tables e below (T166.setTop (mkF m 192 #[.val (.long q0), .second, .val (.long q1), .second, .val (.long q2), .second, .val (.long q3), .second, .val (.long q4), .second, .val (.long q5), .second, .val (.ref b141), .val (.ref b152), .val (.ref b163), .val (.ref b164), .val (.long (4503599627370458 : Int64)), .second, .val (.long (4503599627370494 : Int64)), .second, .val (.int (1 : Int32)), .unset, .unset] [(.int (lcmpW q1 q1))])) _
    refine XS.ifNo X166.here hx rfl (hb hby at_192) rfl ((if0 _ _).trans (teq ((lw_eq _ _).mpr (rfl : q1 = q1))).2) ?_
    show Steps p.tables e below (T166.setTop (mkF m 195 #[.val (.long q0), .second, .val (.long q1), .second, .val (.long q2), .second, .val (.long q3), .second, .val (.long q4), .second, .val (.long q5), .second, .val (.ref b141), .val (.ref b152), .val (.ref b163), .val (.ref b164), .val (.long (4503599627370458 : Int64)), .second, .val (.long (4503599627370494 : Int64)), .second, .val (.int (1 : Int32)), .unset, .unset] [])) _
    refine XS.aload X166.here hx rfl (hb hby at_195) rfl rfl ?_
    show Steps p.tables e below (T166.setTop (mkF m 197 #[.val (.long q0), .second, .val (.long q1), .second, .val (.long q2), .second, .val (.long q3), .second, .val (.long q4), .second, .val (.long q5), .second, .val (.ref b141), .val (.ref b152), .val (.ref b163), .val (.ref b164), .val (.long (4503599627370458 : Int64)), .second, .val (.long (4503599627370494 : Int64)), .second, .val (.int (1 : Int32)), .unset, .unset] [(.ref b141)])) _
    refine XS.iconst X166.here hx rfl (hb hby at_197) ?_
    show Steps p.tables e below (T166.setTop (mkF m 198 #[.val (.long q0), .second, .val (.long q1), .second, .val (.long q2), .second, .val (.long q3), .second, .val (.long q4), .second, .val (.long q5), .second, .val (.ref b141), .val (.ref b152), .val (.ref b163), .val (.ref b164), .val (.long (4503599627370458 : Int64)), .second, .val (.long (4503599627370494 : Int64)), .second, .val (.int (1 : Int32)), .unset, .unset] [(.int (2 : Int32)), (.ref b141)])) _
    refine X166.laload hx (j := (2 : Int32)) (v := (.long q2)) (Ar168.1) (State.isArrayOf_alike hZ.alike Ar168.2.1) Ar168.2.2 (inb_of (j := (2 : Int32)) S168 ⟨by decide, by decide⟩) (Has.at H168 (inb_of (j := (2 : Int32)) S168 ⟨by decide, by decide⟩) rfl) (g := (mkF m 198 #[.val (.long q0), .second, .val (.long q1), .second, .val (.long q2), .second, .val (.long q3), .second, .val (.long q4), .second, .val (.long q5), .second, .val (.ref b141), .val (.ref b152), .val (.ref b163), .val (.ref b164), .val (.long (4503599627370458 : Int64)), .second, .val (.long (4503599627370494 : Int64)), .second, .val (.int (1 : Int32)), .unset, .unset] [(.int (2 : Int32)), (.ref b141)])) rfl rfl (hb hby at_198) _ ?_
    show Steps p.tables e below (T166.setTop (mkF m 199 #[.val (.long q0), .second, .val (.long q1), .second, .val (.long q2), .second, .val (.long q3), .second, .val (.long q4), .second, .val (.long q5), .second, .val (.ref b141), .val (.ref b152), .val (.ref b163), .val (.ref b164), .val (.long (4503599627370458 : Int64)), .second, .val (.long (4503599627370494 : Int64)), .second, .val (.int (1 : Int32)), .unset, .unset] [(.long q2)])) _
    refine XS.lload X166.here hx rfl (hb hby at_199) rfl ?_
    show Steps p.tables e below (T166.setTop (mkF m 201 #[.val (.long q0), .second, .val (.long q1), .second, .val (.long q2), .second, .val (.long q3), .second, .val (.long q4), .second, .val (.long q5), .second, .val (.ref b141), .val (.ref b152), .val (.ref b163), .val (.ref b164), .val (.long (4503599627370458 : Int64)), .second, .val (.long (4503599627370494 : Int64)), .second, .val (.int (1 : Int32)), .unset, .unset] [(.long q2), (.long q2)])) _
    refine XS.lcmp X166.here hx rfl (hb hby at_201) rfl ?_
    show Steps p.tables e below (T166.setTop (mkF m 202 #[.val (.long q0), .second, .val (.long q1), .second, .val (.long q2), .second, .val (.long q3), .second, .val (.long q4), .second, .val (.long q5), .second, .val (.ref b141), .val (.ref b152), .val (.ref b163), .val (.ref b164), .val (.long (4503599627370458 : Int64)), .second, .val (.long (4503599627370494 : Int64)), .second, .val (.int (1 : Int32)), .unset, .unset] [(.int (lcmpW q2 q2))])) _
    refine XS.ifNo X166.here hx rfl (hb hby at_202) rfl ((if0 _ _).trans (teq ((lw_eq _ _).mpr (rfl : q2 = q2))).2) ?_
    show Steps p.tables e below (T166.setTop (mkF m 205 #[.val (.long q0), .second, .val (.long q1), .second, .val (.long q2), .second, .val (.long q3), .second, .val (.long q4), .second, .val (.long q5), .second, .val (.ref b141), .val (.ref b152), .val (.ref b163), .val (.ref b164), .val (.long (4503599627370458 : Int64)), .second, .val (.long (4503599627370494 : Int64)), .second, .val (.int (1 : Int32)), .unset, .unset] [])) _
    refine XS.aload X166.here hx rfl (hb hby at_205) rfl rfl ?_
    show Steps p.tables e below (T166.setTop (mkF m 207 #[.val (.long q0), .second, .val (.long q1), .second, .val (.long q2), .second, .val (.long q3), .second, .val (.long q4), .second, .val (.long q5), .second, .val (.ref b141), .val (.ref b152), .val (.ref b163), .val (.ref b164), .val (.long (4503599627370458 : Int64)), .second, .val (.long (4503599627370494 : Int64)), .second, .val (.int (1 : Int32)), .unset, .unset] [(.ref b141)])) _
    refine XS.iconst X166.here hx rfl (hb hby at_207) ?_
    show Steps p.tables e below (T166.setTop (mkF m 208 #[.val (.long q0), .second, .val (.long q1), .second, .val (.long q2), .second, .val (.long q3), .second, .val (.long q4), .second, .val (.long q5), .second, .val (.ref b141), .val (.ref b152), .val (.ref b163), .val (.ref b164), .val (.long (4503599627370458 : Int64)), .second, .val (.long (4503599627370494 : Int64)), .second, .val (.int (1 : Int32)), .unset, .unset] [(.int (3 : Int32)), (.ref b141)])) _
    refine X166.laload hx (j := (3 : Int32)) (v := (.long q3)) (Ar168.1) (State.isArrayOf_alike hZ.alike Ar168.2.1) Ar168.2.2 (inb_of (j := (3 : Int32)) S168 ⟨by decide, by decide⟩) (Has.at H168 (inb_of (j := (3 : Int32)) S168 ⟨by decide, by decide⟩) rfl) (g := (mkF m 208 #[.val (.long q0), .second, .val (.long q1), .second, .val (.long q2), .second, .val (.long q3), .second, .val (.long q4), .second, .val (.long q5), .second, .val (.ref b141), .val (.ref b152), .val (.ref b163), .val (.ref b164), .val (.long (4503599627370458 : Int64)), .second, .val (.long (4503599627370494 : Int64)), .second, .val (.int (1 : Int32)), .unset, .unset] [(.int (3 : Int32)), (.ref b141)])) rfl rfl (hb hby at_208) _ ?_
    show Steps p.tables e below (T166.setTop (mkF m 209 #[.val (.long q0), .second, .val (.long q1), .second, .val (.long q2), .second, .val (.long q3), .second, .val (.long q4), .second, .val (.long q5), .second, .val (.ref b141), .val (.ref b152), .val (.ref b163), .val (.ref b164), .val (.long (4503599627370458 : Int64)), .second, .val (.long (4503599627370494 : Int64)), .second, .val (.int (1 : Int32)), .unset, .unset] [(.long q3)])) _
    refine XS.lload X166.here hx rfl (hb hby at_209) rfl ?_
    show Steps p.tables e below (T166.setTop (mkF m 211 #[.val (.long q0), .second, .val (.long q1), .second, .val (.long q2), .second, .val (.long q3), .second, .val (.long q4), .second, .val (.long q5), .second, .val (.ref b141), .val (.ref b152), .val (.ref b163), .val (.ref b164), .val (.long (4503599627370458 : Int64)), .second, .val (.long (4503599627370494 : Int64)), .second, .val (.int (1 : Int32)), .unset, .unset] [(.long q3), (.long q3)])) _
    refine XS.lcmp X166.here hx rfl (hb hby at_211) rfl ?_
    show Steps p.tables e below (T166.setTop (mkF m 212 #[.val (.long q0), .second, .val (.long q1), .second, .val (.long q2), .second, .val (.long q3), .second, .val (.long q4), .second, .val (.long q5), .second, .val (.ref b141), .val (.ref b152), .val (.ref b163), .val (.ref b164), .val (.long (4503599627370458 : Int64)), .second, .val (.long (4503599627370494 : Int64)), .second, .val (.int (1 : Int32)), .unset, .unset] [(.int (lcmpW q3 q3))])) _
    refine XS.ifNo X166.here hx rfl (hb hby at_212) rfl ((if0 _ _).trans (teq ((lw_eq _ _).mpr (rfl : q3 = q3))).2) ?_
    show Steps p.tables e below (T166.setTop (mkF m 215 #[.val (.long q0), .second, .val (.long q1), .second, .val (.long q2), .second, .val (.long q3), .second, .val (.long q4), .second, .val (.long q5), .second, .val (.ref b141), .val (.ref b152), .val (.ref b163), .val (.ref b164), .val (.long (4503599627370458 : Int64)), .second, .val (.long (4503599627370494 : Int64)), .second, .val (.int (1 : Int32)), .unset, .unset] [])) _
    refine XS.aload X166.here hx rfl (hb hby at_215) rfl rfl ?_
    show Steps p.tables e below (T166.setTop (mkF m 217 #[.val (.long q0), .second, .val (.long q1), .second, .val (.long q2), .second, .val (.long q3), .second, .val (.long q4), .second, .val (.long q5), .second, .val (.ref b141), .val (.ref b152), .val (.ref b163), .val (.ref b164), .val (.long (4503599627370458 : Int64)), .second, .val (.long (4503599627370494 : Int64)), .second, .val (.int (1 : Int32)), .unset, .unset] [(.ref b141)])) _
    refine XS.iconst X166.here hx rfl (hb hby at_217) ?_
    show Steps p.tables e below (T166.setTop (mkF m 218 #[.val (.long q0), .second, .val (.long q1), .second, .val (.long q2), .second, .val (.long q3), .second, .val (.long q4), .second, .val (.long q5), .second, .val (.ref b141), .val (.ref b152), .val (.ref b163), .val (.ref b164), .val (.long (4503599627370458 : Int64)), .second, .val (.long (4503599627370494 : Int64)), .second, .val (.int (1 : Int32)), .unset, .unset] [(.int (4 : Int32)), (.ref b141)])) _
    refine X166.laload hx (j := (4 : Int32)) (v := (.long q4)) (Ar168.1) (State.isArrayOf_alike hZ.alike Ar168.2.1) Ar168.2.2 (inb_of (j := (4 : Int32)) S168 ⟨by decide, by decide⟩) (Has.at H168 (inb_of (j := (4 : Int32)) S168 ⟨by decide, by decide⟩) rfl) (g := (mkF m 218 #[.val (.long q0), .second, .val (.long q1), .second, .val (.long q2), .second, .val (.long q3), .second, .val (.long q4), .second, .val (.long q5), .second, .val (.ref b141), .val (.ref b152), .val (.ref b163), .val (.ref b164), .val (.long (4503599627370458 : Int64)), .second, .val (.long (4503599627370494 : Int64)), .second, .val (.int (1 : Int32)), .unset, .unset] [(.int (4 : Int32)), (.ref b141)])) rfl rfl (hb hby at_218) _ ?_
    show Steps p.tables e below (T166.setTop (mkF m 219 #[.val (.long q0), .second, .val (.long q1), .second, .val (.long q2), .second, .val (.long q3), .second, .val (.long q4), .second, .val (.long q5), .second, .val (.ref b141), .val (.ref b152), .val (.ref b163), .val (.ref b164), .val (.long (4503599627370458 : Int64)), .second, .val (.long (4503599627370494 : Int64)), .second, .val (.int (1 : Int32)), .unset, .unset] [(.long q4)])) _
    refine XS.lload X166.here hx rfl (hb hby at_219) rfl ?_
    show Steps p.tables e below (T166.setTop (mkF m 221 #[.val (.long q0), .second, .val (.long q1), .second, .val (.long q2), .second, .val (.long q3), .second, .val (.long q4), .second, .val (.long q5), .second, .val (.ref b141), .val (.ref b152), .val (.ref b163), .val (.ref b164), .val (.long (4503599627370458 : Int64)), .second, .val (.long (4503599627370494 : Int64)), .second, .val (.int (1 : Int32)), .unset, .unset] [(.long q4), (.long q4)])) _
    refine XS.lcmp X166.here hx rfl (hb hby at_221) rfl ?_
    show Steps p.tables e below (T166.setTop (mkF m 222 #[.val (.long q0), .second, .val (.long q1), .second, .val (.long q2), .second, .val (.long q3), .second, .val (.long q4), .second, .val (.long q5), .second, .val (.ref b141), .val (.ref b152), .val (.ref b163), .val (.ref b164), .val (.long (4503599627370458 : Int64)), .second, .val (.long (4503599627370494 : Int64)), .second, .val (.int (1 : Int32)), .unset, .unset] [(.int (lcmpW q4 q4))])) _
    refine XS.ifNo X166.here hx rfl (hb hby at_222) rfl ((if0 _ _).trans (teq ((lw_eq _ _).mpr (rfl : q4 = q4))).2) ?_
    show Steps p.tables e below (T166.setTop (mkF m 225 #[.val (.long q0), .second, .val (.long q1), .second, .val (.long q2), .second, .val (.long q3), .second, .val (.long q4), .second, .val (.long q5), .second, .val (.ref b141), .val (.ref b152), .val (.ref b163), .val (.ref b164), .val (.long (4503599627370458 : Int64)), .second, .val (.long (4503599627370494 : Int64)), .second, .val (.int (1 : Int32)), .unset, .unset] [])) _
    refine XS.iconst X166.here hx rfl (hb hby at_225) ?_
    show Steps p.tables e below (T166.setTop (mkF m 226 #[.val (.long q0), .second, .val (.long q1), .second, .val (.long q2), .second, .val (.long q3), .second, .val (.long q4), .second, .val (.long q5), .second, .val (.ref b141), .val (.ref b152), .val (.ref b163), .val (.ref b164), .val (.long (4503599627370458 : Int64)), .second, .val (.long (4503599627370494 : Int64)), .second, .val (.int (1 : Int32)), .unset, .unset] [(.int (1 : Int32))])) _
    refine XS.goto X166.here hx rfl (pc0 := 226) (pc' := 230) rfl (hb hby at_226) (by decide) (by decide) ?_
    show Steps p.tables e below (T166.setTop (mkF m 230 #[.val (.long q0), .second, .val (.long q1), .second, .val (.long q2), .second, .val (.long q3), .second, .val (.long q4), .second, .val (.long q5), .second, .val (.ref b141), .val (.ref b152), .val (.ref b163), .val (.ref b164), .val (.long (4503599627370458 : Int64)), .second, .val (.long (4503599627370494 : Int64)), .second, .val (.int (1 : Int32)), .unset, .unset] [(.int (1 : Int32))])) _
    refine XS.istore X166.here hx rfl (hb hby at_230) rfl (l' := #[.val (.long q0), .second, .val (.long q1), .second, .val (.long q2), .second, .val (.long q3), .second, .val (.long q4), .second, .val (.long q5), .second, .val (.ref b141), .val (.ref b152), .val (.ref b163), .val (.ref b164), .val (.long (4503599627370458 : Int64)), .second, .val (.long (4503599627370494 : Int64)), .second, .val (.int (1 : Int32)), .val (.int (1 : Int32)), .unset]) rfl ?_
    show Steps p.tables e below (T166.setTop (mkF m 232 #[.val (.long q0), .second, .val (.long q1), .second, .val (.long q2), .second, .val (.long q3), .second, .val (.long q4), .second, .val (.long q5), .second, .val (.ref b141), .val (.ref b152), .val (.ref b163), .val (.ref b164), .val (.long (4503599627370458 : Int64)), .second, .val (.long (4503599627370494 : Int64)), .second, .val (.int (1 : Int32)), .val (.int (1 : Int32)), .unset] [])) _
    refine XS.aload X166.here hx rfl (hb hby at_232) rfl rfl ?_
    show Steps p.tables e below (T166.setTop (mkF m 234 #[.val (.long q0), .second, .val (.long q1), .second, .val (.long q2), .second, .val (.long q3), .second, .val (.long q4), .second, .val (.long q5), .second, .val (.ref b141), .val (.ref b152), .val (.ref b163), .val (.ref b164), .val (.long (4503599627370458 : Int64)), .second, .val (.long (4503599627370494 : Int64)), .second, .val (.int (1 : Int32)), .val (.int (1 : Int32)), .unset] [(.ref b152)])) _
    refine XS.iconst X166.here hx rfl (hb hby at_234) ?_
    show Steps p.tables e below (T166.setTop (mkF m 235 #[.val (.long q0), .second, .val (.long q1), .second, .val (.long q2), .second, .val (.long q3), .second, .val (.long q4), .second, .val (.long q5), .second, .val (.ref b141), .val (.ref b152), .val (.ref b163), .val (.ref b164), .val (.long (4503599627370458 : Int64)), .second, .val (.long (4503599627370494 : Int64)), .second, .val (.int (1 : Int32)), .val (.int (1 : Int32)), .unset] [(.int (0 : Int32)), (.ref b152)])) _
    refine X166.laload hx (j := (0 : Int32)) (v := (.long q5)) (Ar169.1) (State.isArrayOf_alike hZ.alike Ar169.2.1) Ar169.2.2 (inb_of (j := (0 : Int32)) S169 ⟨by decide, by decide⟩) (Has.at H169 (inb_of (j := (0 : Int32)) S169 ⟨by decide, by decide⟩) rfl) (g := (mkF m 235 #[.val (.long q0), .second, .val (.long q1), .second, .val (.long q2), .second, .val (.long q3), .second, .val (.long q4), .second, .val (.long q5), .second, .val (.ref b141), .val (.ref b152), .val (.ref b163), .val (.ref b164), .val (.long (4503599627370458 : Int64)), .second, .val (.long (4503599627370494 : Int64)), .second, .val (.int (1 : Int32)), .val (.int (1 : Int32)), .unset] [(.int (0 : Int32)), (.ref b152)])) rfl rfl (hb hby at_235) _ ?_
    show Steps p.tables e below (T166.setTop (mkF m 236 #[.val (.long q0), .second, .val (.long q1), .second, .val (.long q2), .second, .val (.long q3), .second, .val (.long q4), .second, .val (.long q5), .second, .val (.ref b141), .val (.ref b152), .val (.ref b163), .val (.ref b164), .val (.long (4503599627370458 : Int64)), .second, .val (.long (4503599627370494 : Int64)), .second, .val (.int (1 : Int32)), .val (.int (1 : Int32)), .unset] [(.long q5)])) _
    refine XS.lload X166.here hx rfl (hb hby at_236) rfl ?_
    show Steps p.tables e below (T166.setTop (mkF m 238 #[.val (.long q0), .second, .val (.long q1), .second, .val (.long q2), .second, .val (.long q3), .second, .val (.long q4), .second, .val (.long q5), .second, .val (.ref b141), .val (.ref b152), .val (.ref b163), .val (.ref b164), .val (.long (4503599627370458 : Int64)), .second, .val (.long (4503599627370494 : Int64)), .second, .val (.int (1 : Int32)), .val (.int (1 : Int32)), .unset] [(.long q5), (.long q5)])) _
    refine XS.lcmp X166.here hx rfl (hb hby at_238) rfl ?_
    show Steps p.tables e below (T166.setTop (mkF m 239 #[.val (.long q0), .second, .val (.long q1), .second, .val (.long q2), .second, .val (.long q3), .second, .val (.long q4), .second, .val (.long q5), .second, .val (.ref b141), .val (.ref b152), .val (.ref b163), .val (.ref b164), .val (.long (4503599627370458 : Int64)), .second, .val (.long (4503599627370494 : Int64)), .second, .val (.int (1 : Int32)), .val (.int (1 : Int32)), .unset] [(.int (lcmpW q5 q5))])) _
    refine XS.ifNo X166.here hx rfl (hb hby at_239) rfl ((if0 _ _).trans (teq ((lw_eq _ _).mpr (rfl : q5 = q5))).2) ?_
    show Steps p.tables e below (T166.setTop (mkF m 242 #[.val (.long q0), .second, .val (.long q1), .second, .val (.long q2), .second, .val (.long q3), .second, .val (.long q4), .second, .val (.long q5), .second, .val (.ref b141), .val (.ref b152), .val (.ref b163), .val (.ref b164), .val (.long (4503599627370458 : Int64)), .second, .val (.long (4503599627370494 : Int64)), .second, .val (.int (1 : Int32)), .val (.int (1 : Int32)), .unset] [])) _
    refine XS.aload X166.here hx rfl (hb hby at_242) rfl rfl ?_
    show Steps p.tables e below (T166.setTop (mkF m 244 #[.val (.long q0), .second, .val (.long q1), .second, .val (.long q2), .second, .val (.long q3), .second, .val (.long q4), .second, .val (.long q5), .second, .val (.ref b141), .val (.ref b152), .val (.ref b163), .val (.ref b164), .val (.long (4503599627370458 : Int64)), .second, .val (.long (4503599627370494 : Int64)), .second, .val (.int (1 : Int32)), .val (.int (1 : Int32)), .unset] [(.ref b152)])) _
    refine XS.iconst X166.here hx rfl (hb hby at_244) ?_
    show Steps p.tables e below (T166.setTop (mkF m 245 #[.val (.long q0), .second, .val (.long q1), .second, .val (.long q2), .second, .val (.long q3), .second, .val (.long q4), .second, .val (.long q5), .second, .val (.ref b141), .val (.ref b152), .val (.ref b163), .val (.ref b164), .val (.long (4503599627370458 : Int64)), .second, .val (.long (4503599627370494 : Int64)), .second, .val (.int (1 : Int32)), .val (.int (1 : Int32)), .unset] [(.int (1 : Int32)), (.ref b152)])) _
    refine X166.laload hx (j := (1 : Int32)) (v := (.long (q5 ^^^ (-1 : Int64)))) (Ar169.1) (State.isArrayOf_alike hZ.alike Ar169.2.1) Ar169.2.2 (inb_of (j := (1 : Int32)) S169 ⟨by decide, by decide⟩) (Has.at H169 (inb_of (j := (1 : Int32)) S169 ⟨by decide, by decide⟩) rfl) (g := (mkF m 245 #[.val (.long q0), .second, .val (.long q1), .second, .val (.long q2), .second, .val (.long q3), .second, .val (.long q4), .second, .val (.long q5), .second, .val (.ref b141), .val (.ref b152), .val (.ref b163), .val (.ref b164), .val (.long (4503599627370458 : Int64)), .second, .val (.long (4503599627370494 : Int64)), .second, .val (.int (1 : Int32)), .val (.int (1 : Int32)), .unset] [(.int (1 : Int32)), (.ref b152)])) rfl rfl (hb hby at_245) _ ?_
    show Steps p.tables e below (T166.setTop (mkF m 246 #[.val (.long q0), .second, .val (.long q1), .second, .val (.long q2), .second, .val (.long q3), .second, .val (.long q4), .second, .val (.long q5), .second, .val (.ref b141), .val (.ref b152), .val (.ref b163), .val (.ref b164), .val (.long (4503599627370458 : Int64)), .second, .val (.long (4503599627370494 : Int64)), .second, .val (.int (1 : Int32)), .val (.int (1 : Int32)), .unset] [(.long (q5 ^^^ (-1 : Int64)))])) _
    refine XS.lload X166.here hx rfl (hb hby at_246) rfl ?_
    show Steps p.tables e below (T166.setTop (mkF m 248 #[.val (.long q0), .second, .val (.long q1), .second, .val (.long q2), .second, .val (.long q3), .second, .val (.long q4), .second, .val (.long q5), .second, .val (.ref b141), .val (.ref b152), .val (.ref b163), .val (.ref b164), .val (.long (4503599627370458 : Int64)), .second, .val (.long (4503599627370494 : Int64)), .second, .val (.int (1 : Int32)), .val (.int (1 : Int32)), .unset] [(.long q5), (.long (q5 ^^^ (-1 : Int64)))])) _
    refine X166.ldc2Long hx hown (mvT hZ (own_w hw 1 rfl)) (g := (mkF m 248 #[.val (.long q0), .second, .val (.long q1), .second, .val (.long q2), .second, .val (.long q3), .second, .val (.long q4), .second, .val (.long q5), .second, .val (.ref b141), .val (.ref b152), .val (.ref b163), .val (.ref b164), .val (.long (4503599627370458 : Int64)), .second, .val (.long (4503599627370494 : Int64)), .second, .val (.int (1 : Int32)), .val (.int (1 : Int32)), .unset] [(.long q5), (.long (q5 ^^^ (-1 : Int64)))])) rfl (hb hby at_248) _ ?_
    show Steps p.tables e below (T166.setTop (mkF m 251 #[.val (.long q0), .second, .val (.long q1), .second, .val (.long q2), .second, .val (.long q3), .second, .val (.long q4), .second, .val (.long q5), .second, .val (.ref b141), .val (.ref b152), .val (.ref b163), .val (.ref b164), .val (.long (4503599627370458 : Int64)), .second, .val (.long (4503599627370494 : Int64)), .second, .val (.int (1 : Int32)), .val (.int (1 : Int32)), .unset] [(.long (-1 : Int64)), (.long q5), (.long (q5 ^^^ (-1 : Int64)))])) _
    refine XS.lxor X166.here hx rfl (hb hby at_251) rfl ?_
    show Steps p.tables e below (T166.setTop (mkF m 252 #[.val (.long q0), .second, .val (.long q1), .second, .val (.long q2), .second, .val (.long q3), .second, .val (.long q4), .second, .val (.long q5), .second, .val (.ref b141), .val (.ref b152), .val (.ref b163), .val (.ref b164), .val (.long (4503599627370458 : Int64)), .second, .val (.long (4503599627370494 : Int64)), .second, .val (.int (1 : Int32)), .val (.int (1 : Int32)), .unset] [(.long (q5 ^^^ (-1 : Int64))), (.long (q5 ^^^ (-1 : Int64)))])) _
    refine XS.lcmp X166.here hx rfl (hb hby at_252) rfl ?_
    show Steps p.tables e below (T166.setTop (mkF m 253 #[.val (.long q0), .second, .val (.long q1), .second, .val (.long q2), .second, .val (.long q3), .second, .val (.long q4), .second, .val (.long q5), .second, .val (.ref b141), .val (.ref b152), .val (.ref b163), .val (.ref b164), .val (.long (4503599627370458 : Int64)), .second, .val (.long (4503599627370494 : Int64)), .second, .val (.int (1 : Int32)), .val (.int (1 : Int32)), .unset] [(.int (lcmpW (q5 ^^^ (-1 : Int64)) (q5 ^^^ (-1 : Int64))))])) _
    refine XS.ifNo X166.here hx rfl (hb hby at_253) rfl ((if0 _ _).trans (teq ((lw_eq _ _).mpr (rfl : (q5 ^^^ (-1 : Int64)) = (q5 ^^^ (-1 : Int64))))).2) ?_
    show Steps p.tables e below (T166.setTop (mkF m 256 #[.val (.long q0), .second, .val (.long q1), .second, .val (.long q2), .second, .val (.long q3), .second, .val (.long q4), .second, .val (.long q5), .second, .val (.ref b141), .val (.ref b152), .val (.ref b163), .val (.ref b164), .val (.long (4503599627370458 : Int64)), .second, .val (.long (4503599627370494 : Int64)), .second, .val (.int (1 : Int32)), .val (.int (1 : Int32)), .unset] [])) _
    refine XS.aload X166.here hx rfl (hb hby at_256) rfl rfl ?_
    show Steps p.tables e below (T166.setTop (mkF m 258 #[.val (.long q0), .second, .val (.long q1), .second, .val (.long q2), .second, .val (.long q3), .second, .val (.long q4), .second, .val (.long q5), .second, .val (.ref b141), .val (.ref b152), .val (.ref b163), .val (.ref b164), .val (.long (4503599627370458 : Int64)), .second, .val (.long (4503599627370494 : Int64)), .second, .val (.int (1 : Int32)), .val (.int (1 : Int32)), .unset] [(.ref b152)])) _
    refine XS.iconst X166.here hx rfl (hb hby at_258) ?_
    show Steps p.tables e below (T166.setTop (mkF m 259 #[.val (.long q0), .second, .val (.long q1), .second, .val (.long q2), .second, .val (.long q3), .second, .val (.long q4), .second, .val (.long q5), .second, .val (.ref b141), .val (.ref b152), .val (.ref b163), .val (.ref b164), .val (.long (4503599627370458 : Int64)), .second, .val (.long (4503599627370494 : Int64)), .second, .val (.int (1 : Int32)), .val (.int (1 : Int32)), .unset] [(.int (2 : Int32)), (.ref b152)])) _
    refine X166.laload hx (j := (2 : Int32)) (v := (.long (q5 ^^^ q0))) (Ar169.1) (State.isArrayOf_alike hZ.alike Ar169.2.1) Ar169.2.2 (inb_of (j := (2 : Int32)) S169 ⟨by decide, by decide⟩) (Has.at H169 (inb_of (j := (2 : Int32)) S169 ⟨by decide, by decide⟩) rfl) (g := (mkF m 259 #[.val (.long q0), .second, .val (.long q1), .second, .val (.long q2), .second, .val (.long q3), .second, .val (.long q4), .second, .val (.long q5), .second, .val (.ref b141), .val (.ref b152), .val (.ref b163), .val (.ref b164), .val (.long (4503599627370458 : Int64)), .second, .val (.long (4503599627370494 : Int64)), .second, .val (.int (1 : Int32)), .val (.int (1 : Int32)), .unset] [(.int (2 : Int32)), (.ref b152)])) rfl rfl (hb hby at_259) _ ?_
    show Steps p.tables e below (T166.setTop (mkF m 260 #[.val (.long q0), .second, .val (.long q1), .second, .val (.long q2), .second, .val (.long q3), .second, .val (.long q4), .second, .val (.long q5), .second, .val (.ref b141), .val (.ref b152), .val (.ref b163), .val (.ref b164), .val (.long (4503599627370458 : Int64)), .second, .val (.long (4503599627370494 : Int64)), .second, .val (.int (1 : Int32)), .val (.int (1 : Int32)), .unset] [(.long (q5 ^^^ q0))])) _
    refine XS.lload X166.here hx rfl (hb hby at_260) rfl ?_
    show Steps p.tables e below (T166.setTop (mkF m 262 #[.val (.long q0), .second, .val (.long q1), .second, .val (.long q2), .second, .val (.long q3), .second, .val (.long q4), .second, .val (.long q5), .second, .val (.ref b141), .val (.ref b152), .val (.ref b163), .val (.ref b164), .val (.long (4503599627370458 : Int64)), .second, .val (.long (4503599627370494 : Int64)), .second, .val (.int (1 : Int32)), .val (.int (1 : Int32)), .unset] [(.long q5), (.long (q5 ^^^ q0))])) _
    refine XS.lloadN X166.here hx rfl (hb hby at_262) rfl ?_
    show Steps p.tables e below (T166.setTop (mkF m 263 #[.val (.long q0), .second, .val (.long q1), .second, .val (.long q2), .second, .val (.long q3), .second, .val (.long q4), .second, .val (.long q5), .second, .val (.ref b141), .val (.ref b152), .val (.ref b163), .val (.ref b164), .val (.long (4503599627370458 : Int64)), .second, .val (.long (4503599627370494 : Int64)), .second, .val (.int (1 : Int32)), .val (.int (1 : Int32)), .unset] [(.long q0), (.long q5), (.long (q5 ^^^ q0))])) _
    refine XS.lxor X166.here hx rfl (hb hby at_263) rfl ?_
    show Steps p.tables e below (T166.setTop (mkF m 264 #[.val (.long q0), .second, .val (.long q1), .second, .val (.long q2), .second, .val (.long q3), .second, .val (.long q4), .second, .val (.long q5), .second, .val (.ref b141), .val (.ref b152), .val (.ref b163), .val (.ref b164), .val (.long (4503599627370458 : Int64)), .second, .val (.long (4503599627370494 : Int64)), .second, .val (.int (1 : Int32)), .val (.int (1 : Int32)), .unset] [(.long (q5 ^^^ q0)), (.long (q5 ^^^ q0))])) _
    refine XS.lcmp X166.here hx rfl (hb hby at_264) rfl ?_
    show Steps p.tables e below (T166.setTop (mkF m 265 #[.val (.long q0), .second, .val (.long q1), .second, .val (.long q2), .second, .val (.long q3), .second, .val (.long q4), .second, .val (.long q5), .second, .val (.ref b141), .val (.ref b152), .val (.ref b163), .val (.ref b164), .val (.long (4503599627370458 : Int64)), .second, .val (.long (4503599627370494 : Int64)), .second, .val (.int (1 : Int32)), .val (.int (1 : Int32)), .unset] [(.int (lcmpW (q5 ^^^ q0) (q5 ^^^ q0)))])) _
    refine XS.ifNo X166.here hx rfl (hb hby at_265) rfl ((if0 _ _).trans (teq ((lw_eq _ _).mpr (rfl : (q5 ^^^ q0) = (q5 ^^^ q0)))).2) ?_
    show Steps p.tables e below (T166.setTop (mkF m 268 #[.val (.long q0), .second, .val (.long q1), .second, .val (.long q2), .second, .val (.long q3), .second, .val (.long q4), .second, .val (.long q5), .second, .val (.ref b141), .val (.ref b152), .val (.ref b163), .val (.ref b164), .val (.long (4503599627370458 : Int64)), .second, .val (.long (4503599627370494 : Int64)), .second, .val (.int (1 : Int32)), .val (.int (1 : Int32)), .unset] [])) _
    refine XS.aload X166.here hx rfl (hb hby at_268) rfl rfl ?_
    show Steps p.tables e below (T166.setTop (mkF m 270 #[.val (.long q0), .second, .val (.long q1), .second, .val (.long q2), .second, .val (.long q3), .second, .val (.long q4), .second, .val (.long q5), .second, .val (.ref b141), .val (.ref b152), .val (.ref b163), .val (.ref b164), .val (.long (4503599627370458 : Int64)), .second, .val (.long (4503599627370494 : Int64)), .second, .val (.int (1 : Int32)), .val (.int (1 : Int32)), .unset] [(.ref b152)])) _
    refine XS.iconst X166.here hx rfl (hb hby at_270) ?_
    show Steps p.tables e below (T166.setTop (mkF m 271 #[.val (.long q0), .second, .val (.long q1), .second, .val (.long q2), .second, .val (.long q3), .second, .val (.long q4), .second, .val (.long q5), .second, .val (.ref b141), .val (.ref b152), .val (.ref b163), .val (.ref b164), .val (.long (4503599627370458 : Int64)), .second, .val (.long (4503599627370494 : Int64)), .second, .val (.int (1 : Int32)), .val (.int (1 : Int32)), .unset] [(.int (3 : Int32)), (.ref b152)])) _
    refine X166.laload hx (j := (3 : Int32)) (v := (.long (q5 + q1))) (Ar169.1) (State.isArrayOf_alike hZ.alike Ar169.2.1) Ar169.2.2 (inb_of (j := (3 : Int32)) S169 ⟨by decide, by decide⟩) (Has.at H169 (inb_of (j := (3 : Int32)) S169 ⟨by decide, by decide⟩) rfl) (g := (mkF m 271 #[.val (.long q0), .second, .val (.long q1), .second, .val (.long q2), .second, .val (.long q3), .second, .val (.long q4), .second, .val (.long q5), .second, .val (.ref b141), .val (.ref b152), .val (.ref b163), .val (.ref b164), .val (.long (4503599627370458 : Int64)), .second, .val (.long (4503599627370494 : Int64)), .second, .val (.int (1 : Int32)), .val (.int (1 : Int32)), .unset] [(.int (3 : Int32)), (.ref b152)])) rfl rfl (hb hby at_271) _ ?_
    show Steps p.tables e below (T166.setTop (mkF m 272 #[.val (.long q0), .second, .val (.long q1), .second, .val (.long q2), .second, .val (.long q3), .second, .val (.long q4), .second, .val (.long q5), .second, .val (.ref b141), .val (.ref b152), .val (.ref b163), .val (.ref b164), .val (.long (4503599627370458 : Int64)), .second, .val (.long (4503599627370494 : Int64)), .second, .val (.int (1 : Int32)), .val (.int (1 : Int32)), .unset] [(.long (q5 + q1))])) _
    refine XS.lload X166.here hx rfl (hb hby at_272) rfl ?_
    show Steps p.tables e below (T166.setTop (mkF m 274 #[.val (.long q0), .second, .val (.long q1), .second, .val (.long q2), .second, .val (.long q3), .second, .val (.long q4), .second, .val (.long q5), .second, .val (.ref b141), .val (.ref b152), .val (.ref b163), .val (.ref b164), .val (.long (4503599627370458 : Int64)), .second, .val (.long (4503599627370494 : Int64)), .second, .val (.int (1 : Int32)), .val (.int (1 : Int32)), .unset] [(.long q5), (.long (q5 + q1))])) _
    refine XS.lloadN X166.here hx rfl (hb hby at_274) rfl ?_
    show Steps p.tables e below (T166.setTop (mkF m 275 #[.val (.long q0), .second, .val (.long q1), .second, .val (.long q2), .second, .val (.long q3), .second, .val (.long q4), .second, .val (.long q5), .second, .val (.ref b141), .val (.ref b152), .val (.ref b163), .val (.ref b164), .val (.long (4503599627370458 : Int64)), .second, .val (.long (4503599627370494 : Int64)), .second, .val (.int (1 : Int32)), .val (.int (1 : Int32)), .unset] [(.long q1), (.long q5), (.long (q5 + q1))])) _
    refine XS.ladd X166.here hx rfl (hb hby at_275) rfl ?_
    show Steps p.tables e below (T166.setTop (mkF m 276 #[.val (.long q0), .second, .val (.long q1), .second, .val (.long q2), .second, .val (.long q3), .second, .val (.long q4), .second, .val (.long q5), .second, .val (.ref b141), .val (.ref b152), .val (.ref b163), .val (.ref b164), .val (.long (4503599627370458 : Int64)), .second, .val (.long (4503599627370494 : Int64)), .second, .val (.int (1 : Int32)), .val (.int (1 : Int32)), .unset] [(.long (q5 + q1)), (.long (q5 + q1))])) _
    refine XS.lcmp X166.here hx rfl (hb hby at_276) rfl ?_
    show Steps p.tables e below (T166.setTop (mkF m 277 #[.val (.long q0), .second, .val (.long q1), .second, .val (.long q2), .second, .val (.long q3), .second, .val (.long q4), .second, .val (.long q5), .second, .val (.ref b141), .val (.ref b152), .val (.ref b163), .val (.ref b164), .val (.long (4503599627370458 : Int64)), .second, .val (.long (4503599627370494 : Int64)), .second, .val (.int (1 : Int32)), .val (.int (1 : Int32)), .unset] [(.int (lcmpW (q5 + q1) (q5 + q1)))])) _
    refine XS.ifNo X166.here hx rfl (hb hby at_277) rfl ((if0 _ _).trans (teq ((lw_eq _ _).mpr (rfl : (q5 + q1) = (q5 + q1)))).2) ?_
    show Steps p.tables e below (T166.setTop (mkF m 280 #[.val (.long q0), .second, .val (.long q1), .second, .val (.long q2), .second, .val (.long q3), .second, .val (.long q4), .second, .val (.long q5), .second, .val (.ref b141), .val (.ref b152), .val (.ref b163), .val (.ref b164), .val (.long (4503599627370458 : Int64)), .second, .val (.long (4503599627370494 : Int64)), .second, .val (.int (1 : Int32)), .val (.int (1 : Int32)), .unset] [])) _
    refine XS.aload X166.here hx rfl (hb hby at_280) rfl rfl ?_
    show Steps p.tables e below (T166.setTop (mkF m 282 #[.val (.long q0), .second, .val (.long q1), .second, .val (.long q2), .second, .val (.long q3), .second, .val (.long q4), .second, .val (.long q5), .second, .val (.ref b141), .val (.ref b152), .val (.ref b163), .val (.ref b164), .val (.long (4503599627370458 : Int64)), .second, .val (.long (4503599627370494 : Int64)), .second, .val (.int (1 : Int32)), .val (.int (1 : Int32)), .unset] [(.ref b152)])) _
    refine XS.iconst X166.here hx rfl (hb hby at_282) ?_
    show Steps p.tables e below (T166.setTop (mkF m 283 #[.val (.long q0), .second, .val (.long q1), .second, .val (.long q2), .second, .val (.long q3), .second, .val (.long q4), .second, .val (.long q5), .second, .val (.ref b141), .val (.ref b152), .val (.ref b163), .val (.ref b164), .val (.long (4503599627370458 : Int64)), .second, .val (.long (4503599627370494 : Int64)), .second, .val (.int (1 : Int32)), .val (.int (1 : Int32)), .unset] [(.int (4 : Int32)), (.ref b152)])) _
    refine X166.laload hx (j := (4 : Int32)) (v := (.long (q5 - q4))) (Ar169.1) (State.isArrayOf_alike hZ.alike Ar169.2.1) Ar169.2.2 (inb_of (j := (4 : Int32)) S169 ⟨by decide, by decide⟩) (Has.at H169 (inb_of (j := (4 : Int32)) S169 ⟨by decide, by decide⟩) rfl) (g := (mkF m 283 #[.val (.long q0), .second, .val (.long q1), .second, .val (.long q2), .second, .val (.long q3), .second, .val (.long q4), .second, .val (.long q5), .second, .val (.ref b141), .val (.ref b152), .val (.ref b163), .val (.ref b164), .val (.long (4503599627370458 : Int64)), .second, .val (.long (4503599627370494 : Int64)), .second, .val (.int (1 : Int32)), .val (.int (1 : Int32)), .unset] [(.int (4 : Int32)), (.ref b152)])) rfl rfl (hb hby at_283) _ ?_
    show Steps p.tables e below (T166.setTop (mkF m 284 #[.val (.long q0), .second, .val (.long q1), .second, .val (.long q2), .second, .val (.long q3), .second, .val (.long q4), .second, .val (.long q5), .second, .val (.ref b141), .val (.ref b152), .val (.ref b163), .val (.ref b164), .val (.long (4503599627370458 : Int64)), .second, .val (.long (4503599627370494 : Int64)), .second, .val (.int (1 : Int32)), .val (.int (1 : Int32)), .unset] [(.long (q5 - q4))])) _
    refine XS.lload X166.here hx rfl (hb hby at_284) rfl ?_
    show Steps p.tables e below (T166.setTop (mkF m 286 #[.val (.long q0), .second, .val (.long q1), .second, .val (.long q2), .second, .val (.long q3), .second, .val (.long q4), .second, .val (.long q5), .second, .val (.ref b141), .val (.ref b152), .val (.ref b163), .val (.ref b164), .val (.long (4503599627370458 : Int64)), .second, .val (.long (4503599627370494 : Int64)), .second, .val (.int (1 : Int32)), .val (.int (1 : Int32)), .unset] [(.long q5), (.long (q5 - q4))])) _
    refine XS.lload X166.here hx rfl (hb hby at_286) rfl ?_
    show Steps p.tables e below (T166.setTop (mkF m 288 #[.val (.long q0), .second, .val (.long q1), .second, .val (.long q2), .second, .val (.long q3), .second, .val (.long q4), .second, .val (.long q5), .second, .val (.ref b141), .val (.ref b152), .val (.ref b163), .val (.ref b164), .val (.long (4503599627370458 : Int64)), .second, .val (.long (4503599627370494 : Int64)), .second, .val (.int (1 : Int32)), .val (.int (1 : Int32)), .unset] [(.long q4), (.long q5), (.long (q5 - q4))])) _
    refine XS.lsub X166.here hx rfl (hb hby at_288) rfl ?_
    show Steps p.tables e below (T166.setTop (mkF m 289 #[.val (.long q0), .second, .val (.long q1), .second, .val (.long q2), .second, .val (.long q3), .second, .val (.long q4), .second, .val (.long q5), .second, .val (.ref b141), .val (.ref b152), .val (.ref b163), .val (.ref b164), .val (.long (4503599627370458 : Int64)), .second, .val (.long (4503599627370494 : Int64)), .second, .val (.int (1 : Int32)), .val (.int (1 : Int32)), .unset] [(.long (q5 - q4)), (.long (q5 - q4))])) _
    refine XS.lcmp X166.here hx rfl (hb hby at_289) rfl ?_
    show Steps p.tables e below (T166.setTop (mkF m 290 #[.val (.long q0), .second, .val (.long q1), .second, .val (.long q2), .second, .val (.long q3), .second, .val (.long q4), .second, .val (.long q5), .second, .val (.ref b141), .val (.ref b152), .val (.ref b163), .val (.ref b164), .val (.long (4503599627370458 : Int64)), .second, .val (.long (4503599627370494 : Int64)), .second, .val (.int (1 : Int32)), .val (.int (1 : Int32)), .unset] [(.int (lcmpW (q5 - q4) (q5 - q4)))])) _
    refine XS.ifNo X166.here hx rfl (hb hby at_290) rfl ((if0 _ _).trans (teq ((lw_eq _ _).mpr (rfl : (q5 - q4) = (q5 - q4)))).2) ?_
    show Steps p.tables e below (T166.setTop (mkF m 293 #[.val (.long q0), .second, .val (.long q1), .second, .val (.long q2), .second, .val (.long q3), .second, .val (.long q4), .second, .val (.long q5), .second, .val (.ref b141), .val (.ref b152), .val (.ref b163), .val (.ref b164), .val (.long (4503599627370458 : Int64)), .second, .val (.long (4503599627370494 : Int64)), .second, .val (.int (1 : Int32)), .val (.int (1 : Int32)), .unset] [])) _
    refine XS.iconst X166.here hx rfl (hb hby at_293) ?_
    show Steps p.tables e below (T166.setTop (mkF m 294 #[.val (.long q0), .second, .val (.long q1), .second, .val (.long q2), .second, .val (.long q3), .second, .val (.long q4), .second, .val (.long q5), .second, .val (.ref b141), .val (.ref b152), .val (.ref b163), .val (.ref b164), .val (.long (4503599627370458 : Int64)), .second, .val (.long (4503599627370494 : Int64)), .second, .val (.int (1 : Int32)), .val (.int (1 : Int32)), .unset] [(.int (1 : Int32))])) _
    refine XS.goto X166.here hx rfl (pc0 := 294) (pc' := 298) rfl (hb hby at_294) (by decide) (by decide) ?_
    show Steps p.tables e below (T166.setTop (mkF m 298 #[.val (.long q0), .second, .val (.long q1), .second, .val (.long q2), .second, .val (.long q3), .second, .val (.long q4), .second, .val (.long q5), .second, .val (.ref b141), .val (.ref b152), .val (.ref b163), .val (.ref b164), .val (.long (4503599627370458 : Int64)), .second, .val (.long (4503599627370494 : Int64)), .second, .val (.int (1 : Int32)), .val (.int (1 : Int32)), .unset] [(.int (1 : Int32))])) _
    refine XS.istore X166.here hx rfl (hb hby at_298) rfl (l' := #[.val (.long q0), .second, .val (.long q1), .second, .val (.long q2), .second, .val (.long q3), .second, .val (.long q4), .second, .val (.long q5), .second, .val (.ref b141), .val (.ref b152), .val (.ref b163), .val (.ref b164), .val (.long (4503599627370458 : Int64)), .second, .val (.long (4503599627370494 : Int64)), .second, .val (.int (1 : Int32)), .val (.int (1 : Int32)), .val (.int (1 : Int32))]) rfl ?_
    show Steps p.tables e below (T166.setTop (mkF m 300 #[.val (.long q0), .second, .val (.long q1), .second, .val (.long q2), .second, .val (.long q3), .second, .val (.long q4), .second, .val (.long q5), .second, .val (.ref b141), .val (.ref b152), .val (.ref b163), .val (.ref b164), .val (.long (4503599627370458 : Int64)), .second, .val (.long (4503599627370494 : Int64)), .second, .val (.int (1 : Int32)), .val (.int (1 : Int32)), .val (.int (1 : Int32))] [])) _
    refine XS.iload X166.here hx rfl (hb hby at_300) rfl ?_
    show Steps p.tables e below (T166.setTop (mkF m 302 #[.val (.long q0), .second, .val (.long q1), .second, .val (.long q2), .second, .val (.long q3), .second, .val (.long q4), .second, .val (.long q5), .second, .val (.ref b141), .val (.ref b152), .val (.ref b163), .val (.ref b164), .val (.long (4503599627370458 : Int64)), .second, .val (.long (4503599627370494 : Int64)), .second, .val (.int (1 : Int32)), .val (.int (1 : Int32)), .val (.int (1 : Int32))] [(.int (1 : Int32))])) _
    refine XS.ifNo X166.here hx rfl (hb hby at_302) rfl ((if0 _ _).trans (feq (by decide : ¬ ((1 : Int32) = (0 : Int32)))).1) ?_
    show Steps p.tables e below (T166.setTop (mkF m 305 #[.val (.long q0), .second, .val (.long q1), .second, .val (.long q2), .second, .val (.long q3), .second, .val (.long q4), .second, .val (.long q5), .second, .val (.ref b141), .val (.ref b152), .val (.ref b163), .val (.ref b164), .val (.long (4503599627370458 : Int64)), .second, .val (.long (4503599627370494 : Int64)), .second, .val (.int (1 : Int32)), .val (.int (1 : Int32)), .val (.int (1 : Int32))] [])) _
    refine XS.iload X166.here hx rfl (hb hby at_305) rfl ?_
    show Steps p.tables e below (T166.setTop (mkF m 307 #[.val (.long q0), .second, .val (.long q1), .second, .val (.long q2), .second, .val (.long q3), .second, .val (.long q4), .second, .val (.long q5), .second, .val (.ref b141), .val (.ref b152), .val (.ref b163), .val (.ref b164), .val (.long (4503599627370458 : Int64)), .second, .val (.long (4503599627370494 : Int64)), .second, .val (.int (1 : Int32)), .val (.int (1 : Int32)), .val (.int (1 : Int32))] [(.int (1 : Int32))])) _
    refine XS.ifNo X166.here hx rfl (hb hby at_307) rfl ((if0 _ _).trans (feq (by decide : ¬ ((1 : Int32) = (0 : Int32)))).1) ?_
    show Steps p.tables e below (T166.setTop (mkF m 310 #[.val (.long q0), .second, .val (.long q1), .second, .val (.long q2), .second, .val (.long q3), .second, .val (.long q4), .second, .val (.long q5), .second, .val (.ref b141), .val (.ref b152), .val (.ref b163), .val (.ref b164), .val (.long (4503599627370458 : Int64)), .second, .val (.long (4503599627370494 : Int64)), .second, .val (.int (1 : Int32)), .val (.int (1 : Int32)), .val (.int (1 : Int32))] [])) _
    refine XS.iload X166.here hx rfl (hb hby at_310) rfl ?_
    show Steps p.tables e below (T166.setTop (mkF m 312 #[.val (.long q0), .second, .val (.long q1), .second, .val (.long q2), .second, .val (.long q3), .second, .val (.long q4), .second, .val (.long q5), .second, .val (.ref b141), .val (.ref b152), .val (.ref b163), .val (.ref b164), .val (.long (4503599627370458 : Int64)), .second, .val (.long (4503599627370494 : Int64)), .second, .val (.int (1 : Int32)), .val (.int (1 : Int32)), .val (.int (1 : Int32))] [(.int (1 : Int32))])) _
    refine XS.ifNo X166.here hx rfl (hb hby at_312) rfl ((if0 _ _).trans (feq (by decide : ¬ ((1 : Int32) = (0 : Int32)))).1) ?_
    show Steps p.tables e below (T166.setTop (mkF m 315 #[.val (.long q0), .second, .val (.long q1), .second, .val (.long q2), .second, .val (.long q3), .second, .val (.long q4), .second, .val (.long q5), .second, .val (.ref b141), .val (.ref b152), .val (.ref b163), .val (.ref b164), .val (.long (4503599627370458 : Int64)), .second, .val (.long (4503599627370494 : Int64)), .second, .val (.int (1 : Int32)), .val (.int (1 : Int32)), .val (.int (1 : Int32))] [])) _
    refine XS.iconst X166.here hx rfl (hb hby at_315) ?_
    show Steps p.tables e below (T166.setTop (mkF m 316 #[.val (.long q0), .second, .val (.long q1), .second, .val (.long q2), .second, .val (.long q3), .second, .val (.long q4), .second, .val (.long q5), .second, .val (.ref b141), .val (.ref b152), .val (.ref b163), .val (.ref b164), .val (.long (4503599627370458 : Int64)), .second, .val (.long (4503599627370494 : Int64)), .second, .val (.int (1 : Int32)), .val (.int (1 : Int32)), .val (.int (1 : Int32))] [(.int (1 : Int32))])) _
    refine XS.goto X166.here hx rfl (pc0 := 316) (pc' := 320) rfl (hb hby at_316) (by decide) (by decide) ?_
    exact k
  refine own_ret (Q := Q0 Z q0 q1 q2 q3 q4 q5 h0 n0) (v := some (.int (1 : Int32))) X166 hlk (fun h => by rw [hrt] at h; cases h) (by decide) (by decide) ?_ (fun fs hr => retN X166 hx (t := .boolean) hrt (by simp) (hb hby at_320) hr)
  exact ⟨rfl, N166⟩
set_option maxRecDepth 65536 in
set_option maxHeartbeats 40000000 in
theorem comes_1 {Post : Tables → Env → Array Value → State → Outcome → State → Prop} (hpost : ∀ tb e args s v u, (limb_1_1.after args s (.returned v) u = true ∧ limb_1_2.after args s (.returned v) u = true ∧ True) → FrameEnd s (.returned v) u (Jvm.fieldLocs frame_1_writes args s ++ Jvm.arrayLocs frame_1_arrays args s ++ Jvm.staticLocs frame_1_statics s) 16 128 → Post tb e args s (.returned v) u) :
    ArmFor flags0 classFile x code maxLocals ret World_1 tables_1 room_1 Calls_1 rest_1 Pre_1 Post := by
  intro l hfl _ _ p e ha hc hk s m args below hf hA hF happ hP
  obtain ⟨hcalls, hrest, hpre⟩ := hP
  obtain ⟨-, -, -, hnamed, -, -, -, hat⟩ := (Spec.applies_iff hf).mp happ
  obtain ⟨hg, hn⟩ := and_e (Cond.before_iff.mp (show (Jvm.Cond.and given_1 narrow_1).before args s = true from hpre))
  obtain ⟨gg1, gg2⟩ := and_e hg
  obtain ⟨gg3, gg4⟩ := and_e gg2
  obtain ⟨gg5, gg6⟩ := and_e gg4
  obtain ⟨gg7, gg8⟩ := and_e gg6
  obtain ⟨gg9, gg10⟩ := and_e gg8
  obtain ⟨gg11, gg12⟩ := and_e gg10
  obtain ⟨w0, w1, w2, w3, w4, w5, rfl⟩ : ∃ w0 w1 w2 w3 w4 w5 : Value, args = #[w0, w1, w2, w3, w4, w5] := by
    have hs : args.size = 6 := by simpa [Cond.value, given_1] using gg1
    obtain ⟨L⟩ := args
    match L, hs with
    | [w0, w1, w2, w3, w4, w5], _ => exact ⟨w0, w1, w2, w3, w4, w5, rfl⟩
  have hw := fun d (hd : d ∈ tables_1) => atoms_spec (ws := Jvm.Cond.code x code maxLocals ret :: tables_1) hat d (List.mem_cons_of_mem _ hd)
  obtain ⟨i0, ei0⟩ := isL_v gg3
  obtain rfl : w0 = (.long i0) := Option.some.inj ei0
  obtain ⟨i1, ei1⟩ := isL_v gg5
  obtain rfl : w1 = (.long i1) := Option.some.inj ei1
  obtain ⟨i2, ei2⟩ := isL_v gg7
  obtain rfl : w2 = (.long i2) := Option.some.inj ei2
  obtain ⟨i3, ei3⟩ := isL_v gg9
  obtain rfl : w3 = (.long i3) := Option.some.inj ei3
  obtain ⟨i4, ei4⟩ := isL_v gg11
  obtain rfl : w4 = (.long i4) := Option.some.inj ei4
  obtain ⟨i5, ei5⟩ := isL_v gg12
  obtain rfl : w5 = (.long i5) := Option.some.inj ei5
  obtain ⟨n, o, h1, h2, h3, _, L, rfl, ⟨rfl, N⟩, hq⟩ := rm0 l s _ hw tables_1 i0 i1 i2 i3 i4 i5 s.heap s.heap.size (Nat.le_refl _)  p e ha hc hk s m _ below hf ((Spec.applies_iff_loose hf).mp happ).1 ⟨rfl, State.Warmed39.refl s, rfl⟩ trivial
  refine ⟨n, _, h1, h2, h3, hpost _ _ _ _ _ _ ⟨Cond.after_iff.mpr rfl, Cond.after_iff.mpr (eq_i res_at (Term.int_eval (1)) rfl), trivial⟩ ⟨hq.1, hq.2.1, (hq.2.2.sift fun y hy => Or.inr (N y hy)).mono (by decide) (by decide)⟩⟩
theorem main_1_1 : Claimed_1_1 := comes_1 fun _ _ _ _ _ _ h hF => ⟨h.1, hF⟩
theorem main_1_2 : Claimed_1_2 := comes_1 fun _ _ _ _ _ _ h hF => ⟨h.2.1, hF⟩
end Jvm.Pilot.@@N@@
namespace Jvm.Pilot.@@N@@
open Jvm Jvm.ClassFile Sem Op Lib Jvm.Free Jvm.Stand Jvm.Pilot.@@N@@.Jvm.D
/-! MADE BY PROGRAM (witnessworld.py) out of the Statement's table words and the real class files: 11 classes; the members and pool entries that the words name. The judged class is class 1, her method 1. -/
namespace start1
open Jvm.ClassFile
def u (s : String) : CpInfo := .utf8 (stringToUtf16 s)
/-- a pool by its gaps: so many unusable entries, then the entry; so many at the end -/
def gap : Nat → List CpInfo → List CpInfo
  | 0, r => r
  | n + 1, r => .unusable :: gap n r
def poolList (es : List (Nat × CpInfo)) (last : Nat) : List CpInfo := es.foldr (fun e r => gap e.1 (e.2 :: r)) (gap last [])
def pool (es : List (Nat × CpInfo)) (last : Nat) : Array CpInfo := ⟨poolList es last⟩
def fileOf (pool : Array CpInfo) (this : Nat) (attrs : Array Attribute := #[]) (ms : Array MethodInfo := #[]) (fl : Nat := 33) (sup : Nat := 0) (ifs : Array Nat := #[]) (fds : Array FieldInfo := #[]) : ClassFile where
  minorVersion := 0
  majorVersion := 65
  constantPool := pool
  accessFlags := fl
  thisClass := this
  superClass := sup
  interfaces := ifs
  fields := fds
  methods := ms
  attributes := attrs
def plain (name : String) (sup : Option ClassId) : Class where
  name := name
  kind := .ordinary
  loader := none
  accessFlags := 33
  super := sup
  interfaces := #[]
  cf := none
  fields := #[]
  methods := #[]
  instanceTypes := #[]
  staticTypes := #[]
  resolved := #[]
  callSites := []
  init := .initialized
  statics := none
  mirror := none

def pool0 : Array CpInfo := pool [(5, u "<init>"), (0, u "()V"), (1, .class_ 10), (1, u "java/lang/Object")] 113

def k0m0 : Method := { name := "<init>", desc := "()V", sig := { parameters := [], returnType := none }, accessFlags := 1, code := none }
/-- java/lang/Object -/
def k0 : Class := { plain "java/lang/Object" none with
  accessFlags := 33
  interfaces := #[]
  cf := some (fileOf pool0 8 #[] #[{ accessFlags := 1, nameIndex := 5, descriptorIndex := 6, attributes := #[] }] 33 0 #[] #[])
  fields := #[]
  methods := #[k0m0]
  instanceTypes := #[]
  staticTypes := #[]
  resolved := Array.replicate 124 none
  statics := none }

def pool1 : Array CpInfo := pool [(2, .class_ 4), (1, u "java/lang/Object"), (0, u "<init>"), (0, u "()V"), (0, .long 18446744073709551615), (1, .methodref 10 11), (0, .class_ 12), (0, .nameAndType 13 14), (0, u "com/example/hopwright/hopwright/crypto/Field25519"), (0, u "subtract"), (0, u "([J[J[J)V"), (0, .methodref 10 16), (0, .nameAndType 17 14), (0, u "add"), (0, .long 4503599627370458), (1, .long 4503599627370494), (1, .class_ 23), (0, u "com/example/hopwright/hopwright/crypto/Field25519SubtractPinLaw"), (2, u "law"), (0, u "(JJJJJJ)Z")] 5

def k1m0 : Method := { name := "<init>", desc := "()V", sig := { parameters := [], returnType := none }, accessFlags := 2, code := none }
def k1c1 : Code := { maxStack := 7, maxLocals := 23, code := code, exceptionTable := #[], attributes := #[] }
def k1m1 : Method := { name := "law", desc := "(JJJJJJ)Z", sig := { parameters := [.long, .long, .long, .long, .long, .long], returnType := some .boolean }, accessFlags := 9, code := some k1c1 }
/-- com/example/hopwright/hopwright/crypto/Field25519SubtractPinLaw -/
def k1 : Class := { plain "com/example/hopwright/hopwright/crypto/Field25519SubtractPinLaw" (some 0) with
  accessFlags := 49
  interfaces := #[]
  cf := some (fileOf pool1 22 #[] #[{ accessFlags := 2, nameIndex := 5, descriptorIndex := 6, attributes := #[] }, { accessFlags := 9, nameIndex := 26, descriptorIndex := 27, attributes := #[] }] 49 2 #[] #[])
  fields := #[]
  methods := #[k1m0, k1m1]
  instanceTypes := #[]
  staticTypes := #[]
  resolved := Array.replicate 33 none
  statics := none }

def pool2 : Array CpInfo := pool [(1, .class_ 2), (0, u "com/example/hopwright/hopwright/crypto/Field25519"), (1, .class_ 6), (1, u "java/lang/Object"), (0, u "<init>"), (0, u "()V"), (16, .long 4503599627370458), (1, .long 4503599627370494), (20, u "([J[J[J)V"), (0, u "LIMBS"), (0, u "I"), (2, u "LIMB_BITS"), (1, u "LIMB"), (0, u "J"), (0, u "TWO_P_LOW"), (0, u "TWO_P_REST"), (0, u "A_SHIFT"), (1, u "B_SHIFT"), (1, u "LOW_SHIFT"), (12, u "add"), (0, u "subtract")] 7

def k2m0 : Method := { name := "<init>", desc := "()V", sig := { parameters := [], returnType := none }, accessFlags := 2, code := none }
def k2c1 : Code := { maxStack := 6, maxLocals := 4, code := prog_21_method_4_code, exceptionTable := #[], attributes := #[] }
def k2m1 : Method := { name := "add", desc := "([J[J[J)V", sig := { parameters := [(.array .long), (.array .long), (.array .long)], returnType := none }, accessFlags := 8, code := some k2c1 }
def k2c2 : Code := { maxStack := 6, maxLocals := 4, code := prog_21_method_5_code, exceptionTable := #[], attributes := #[] }
def k2m2 : Method := { name := "subtract", desc := "([J[J[J)V", sig := { parameters := [(.array .long), (.array .long), (.array .long)], returnType := none }, accessFlags := 8, code := some k2c2 }
/-- com/example/hopwright/hopwright/crypto/Field25519 -/
def k2 : Class := { plain "com/example/hopwright/hopwright/crypto/Field25519" (some 0) with
  accessFlags := 48
  interfaces := #[]
  cf := some (fileOf pool2 1 #[] #[{ accessFlags := 2, nameIndex := 7, descriptorIndex := 8, attributes := #[] }, { accessFlags := 8, nameIndex := 76, descriptorIndex := 48, attributes := #[] }, { accessFlags := 8, nameIndex := 77, descriptorIndex := 48, attributes := #[] }] 48 4 #[] #[{ accessFlags := 24, nameIndex := 49, descriptorIndex := 50, attributes := #[] }, { accessFlags := 26, nameIndex := 53, descriptorIndex := 50, attributes := #[] }, { accessFlags := 26, nameIndex := 55, descriptorIndex := 56, attributes := #[] }, { accessFlags := 26, nameIndex := 57, descriptorIndex := 56, attributes := #[] }, { accessFlags := 26, nameIndex := 58, descriptorIndex := 56, attributes := #[] }, { accessFlags := 26, nameIndex := 59, descriptorIndex := 50, attributes := #[] }, { accessFlags := 26, nameIndex := 61, descriptorIndex := 50, attributes := #[] }, { accessFlags := 26, nameIndex := 63, descriptorIndex := 50, attributes := #[] }])
  fields := #[{ name := "LIMBS", type := .int, accessFlags := 24, slot := 0, constantValue := 0 }, { name := "LIMB_BITS", type := .int, accessFlags := 26, slot := 1, constantValue := 0 }, { name := "LIMB", type := .long, accessFlags := 26, slot := 2, constantValue := 0 }, { name := "TWO_P_LOW", type := .long, accessFlags := 26, slot := 3, constantValue := 0 }, { name := "TWO_P_REST", type := .long, accessFlags := 26, slot := 4, constantValue := 0 }, { name := "A_SHIFT", type := .int, accessFlags := 26, slot := 5, constantValue := 0 }, { name := "B_SHIFT", type := .int, accessFlags := 26, slot := 6, constantValue := 0 }, { name := "LOW_SHIFT", type := .int, accessFlags := 26, slot := 7, constantValue := 0 }]
  methods := #[k2m0, k2m1, k2m2]
  instanceTypes := #[]
  staticTypes := #[.int, .int, .long, .long, .long, .int, .int, .int]
  resolved := Array.replicate 85 none
  statics := none }

def pool3 : Array CpInfo := pool [(1, u "java/lang/Cloneable"), (0, .class_ 1), (0, u "java/lang/Object"), (0, .class_ 3)] 3

/-- java/lang/Cloneable -/
def k3 : Class := { plain "java/lang/Cloneable" (some 0) with
  accessFlags := 1537
  interfaces := #[]
  cf := some (fileOf pool3 2 #[] #[] 1537 4 #[] #[])
  fields := #[]
  methods := #[]
  instanceTypes := #[]
  staticTypes := #[]
  resolved := Array.replicate 8 none
  statics := none }

def pool4 : Array CpInfo := pool [(1, u "java/io/Serializable"), (0, .class_ 1), (0, u "java/lang/Object"), (0, .class_ 3)] 3

/-- java/io/Serializable -/
def k4 : Class := { plain "java/io/Serializable" (some 0) with
  accessFlags := 1537
  interfaces := #[]
  cf := some (fileOf pool4 2 #[] #[] 1537 4 #[] #[])
  fields := #[]
  methods := #[]
  instanceTypes := #[]
  staticTypes := #[]
  resolved := Array.replicate 8 none
  statics := none }

/-- the primitive byte -/
def k5 : Class := { plain "byte" none with kind := .primitive 'B', accessFlags := 0x411 }
/-- [B -/
def k6 : Class := { plain "[B" (some 0) with kind := .array 5 .byte, interfaces := #[3, 4], accessFlags := 1041 }

/-- the primitive int -/
def k7 : Class := { plain "int" none with kind := .primitive 'I', accessFlags := 0x411 }
/-- [I -/
def k8 : Class := { plain "[I" (some 0) with kind := .array 7 .int, interfaces := #[3, 4], accessFlags := 1041 }

/-- the primitive long -/
def k9 : Class := { plain "long" none with kind := .primitive 'J', accessFlags := 0x411 }
/-- [J -/
def k10 : Class := { plain "[J" (some 0) with kind := .array 9 .long, interfaces := #[3, 4], accessFlags := 1041 }

def heap : Heap := #[]
def classes : Array Class := #[k0, k1, k2, k3, k4, k5, k6, k7, k8, k9, k10]
def interned : List (Array UInt16 × Addr) := []
def slotsUsed : Nat := 0
def theMethod : MethodId := ⟨1, 1⟩
def args0 : Array Value := #[.long 0, .long 1, .long 2, .long 3, .long 4, .long 5]
def aboutOver (below : List Frame) : State where
  vm := { classes := classes, interned := interned.toArray }
  heap := heap
  slotsUsed := slotsUsed
  threads := #[{ frames := .invoking theMethod args0 :: below }]
def below0 : List Frame := [.native { method := ⟨0, 0⟩, args := #[] }]
def about1 : State := aboutOver below0
def p0 : Program := .bare "" "" ""
def e0 : Env := launch0.env 0 0 0
theorem w_frames : about1.frames = Frame.invoking theMethod args0 :: below0 := rfl
set_option maxRecDepth 65536 in
theorem w_args : argsFit about1.vm theMethod args0 = true := by decide +kernel
set_option maxRecDepth 65536 in
theorem w_heap : heapFits about1 = true := by decide +kernel
set_option maxRecDepth 65536 in
theorem w_runnable : about1.curStatus? = some .runnable := by decide +kernel
set_option maxRecDepth 65536 in
theorem w_alone : about1.alone = true := by decide +kernel
set_option maxRecDepth 65536 in
theorem w_named : about1.methodNamed? x = some theMethod := by decide +kernel
set_option maxRecDepth 65536 in
theorem w_hears : about1.hears theMethod below0 = true := by decide +kernel
set_option maxRecDepth 65536 in
theorem w_ripe : about1.ripe theMethod args0 below0 = true := by decide +kernel
theorem w_running : about1.status = .running := rfl
set_option maxRecDepth 65536 in
theorem w_room : about1.hasRoom e0.platform room_1 = true :=
  launch0.hasRoom_least _ room_1 (by decide +kernel) (by decide +kernel) (by decide +kernel) (by decide +kernel) (by decide +kernel) (by decide +kernel)
theorem allAtoms_all (ts : List Jvm.Cond) (a : Array Jvm.Value) (st : Jvm.State) : (allAtoms ts).before a st = ts.all (fun c => c.before a st) := by
  induction ts with
  | nil => rfl
  | cons c t ih =>
    show (Jvm.Cond.and c (allAtoms t)).before a st = _
    rw [Jvm.Cond.before_and, ih, List.all_cons]
def words1 : List Jvm.Cond := Jvm.Cond.code x code maxLocals ret :: tables_1
/-- a 'code' word, met by the world's own term for the bytes: nothing is compared byte by byte -/
theorem code_word {y : MethodName} {bytes : ByteArray} {mx : Nat} {rt : Option FieldType} {a : Array Value} {s : State} {m : MethodId} {meth : Method} {c : Code} (h1 : s.methodNamed? y = some m) (h2 : s.vm.method? m = some meth) (h3 : meth.code = some c) (h4 : c.code = bytes)
    (h5 : (c.maxLocals == mx && c.exceptionTable.isEmpty && decide (c.maxStack ≤ mostOperands) && decide (meth.sig.returnType = rt) && !meth.locks && decide (parseMethodDescriptor y.desc = some meth.sig)) = true) : (Jvm.Cond.code y bytes mx rt).before a s = true := by
  simp only [Bool.and_eq_true, beq_iff_eq, Bool.not_eq_true', decide_eq_true_eq] at h5
  obtain ⟨⟨⟨⟨⟨g1, g2⟩, g3⟩, g4⟩, g5⟩, g6⟩ := h5
  simp [Cond.before, Cond.holds, Cond.value, h1, h2, h3, h4, g1, g2, g3, g4, g5, g6]
def isCode : Jvm.Cond → Bool
  | .code _ _ _ _ => true
  | _ => false
theorem all_split {L : List Jvm.Cond} {P : Jvm.Cond → Bool} (h1 : L.all (fun c => isCode c || P c) = true) (h2 : ∀ c ∈ L.filter isCode, P c = true) : L.all P = true := by
  refine List.all_eq_true.mpr fun c hc => ?_
  have h := List.all_eq_true.mp h1 c hc
  rcases Bool.eq_false_or_eq_true (isCode c) with hi | hi
  · exact h2 c (List.mem_filter.mpr ⟨hc, hi⟩)
  · simpa [hi] using h
set_option maxRecDepth 65536 in
theorem w_c0 : (Jvm.Cond.code x code maxLocals ret).before args0 about1 = true := code_word (m := ⟨1, 1⟩) (meth := k1m1) (c := k1c1) (by decide +kernel) rfl rfl rfl (by decide +kernel)
set_option maxRecDepth 65536 in
theorem w_c1 : (Jvm.Cond.code ({ cls := "com/example/hopwright/hopwright/crypto/Field25519", name := "subtract", desc := "([J[J[J)V" } : Jvm.MethodName) prog_21_method_5_code (4 : Nat) (Option.none : Option Jvm.ClassFile.FieldType)).before args0 about1 = true := code_word (m := ⟨2, 2⟩) (meth := k2m2) (c := k2c2) (by decide +kernel) rfl rfl rfl (by decide +kernel)
set_option maxRecDepth 65536 in
theorem w_c2 : (Jvm.Cond.code ({ cls := "com/example/hopwright/hopwright/crypto/Field25519", name := "add", desc := "([J[J[J)V" } : Jvm.MethodName) prog_21_method_4_code (4 : Nat) (Option.none : Option Jvm.ClassFile.FieldType)).before args0 about1 = true := code_word (m := ⟨2, 1⟩) (meth := k2m1) (c := k2c1) (by decide +kernel) rfl rfl rfl (by decide +kernel)
def codes1 : List Jvm.Cond := [Jvm.Cond.code x code maxLocals ret, Jvm.Cond.code ({ cls := "com/example/hopwright/hopwright/crypto/Field25519", name := "subtract", desc := "([J[J[J)V" } : Jvm.MethodName) prog_21_method_5_code (4 : Nat) (Option.none : Option Jvm.ClassFile.FieldType), Jvm.Cond.code ({ cls := "com/example/hopwright/hopwright/crypto/Field25519", name := "add", desc := "([J[J[J)V" } : Jvm.MethodName) prog_21_method_4_code (4 : Nat) (Option.none : Option Jvm.ClassFile.FieldType)]
set_option maxRecDepth 65536 in
theorem codes_eq : words1.filter isCode = codes1 := rfl
theorem w_codes : ∀ c ∈ words1.filter isCode, c.before args0 about1 = true := by
  rw [codes_eq]
  intro c hc
  simp only [codes1, List.mem_cons, List.not_mem_nil, or_false] at hc
  rcases hc with rfl | rfl | rfl
  · exact w_c0
  · exact w_c1
  · exact w_c2
set_option maxRecDepth 65536 in
theorem w_t1 : words1.all (fun c => isCode c || c.before args0 about1) = true := by decide +kernel
theorem w_tables : (allAtoms (Jvm.Cond.code x code maxLocals ret :: tables_1)).before args0 about1 = true := by
  rw [allAtoms_all]
  show words1.all (fun c => c.before args0 about1) = true
  refine all_split ?_ w_codes
  rw [w_t1]
set_option maxRecDepth 65536 in
theorem w_case : (Jvm.Cond.and given_1 narrow_1).before args0 about1 = true := by decide +kernel
theorem w_applies : (headSpec (Jvm.Cond.code x code maxLocals ret :: tables_1) room_1).applies x e0.platform about1 = true :=
  (Spec.applies_iff w_frames).mpr ⟨w_running, w_runnable, w_alone, w_named, w_hears, w_ripe, w_room, w_tables⟩
theorem atStart : AtStart classFile x code maxLocals ret World_1 tables_1 room_1 Calls_1 rest_1 Pre_1 launch0 p0 e0 about1 theMethod args0 below0 :=
  ⟨lists_1, trivial, launch0.admits_env _ _ _, launch0.least_env, fairChoices_fair.cas, fairChoices_fair.clock, w_frames, w_args, w_heap, w_applies, trivial, trivial, w_case⟩
end start1
theorem witness_1 : WitnessClaimed_1 := ⟨start1.p0, start1.e0, start1.about1, start1.theMethod, start1.args0, start1.below0, start1.atStart⟩
end Jvm.Pilot.@@N@@
