import JvmDerived
import JvmDerived.Pilot.@@N@@Statement
import JvmDerived.Pilot.@@N@@Code
set_option linter.unusedVariables false
set_option linter.unusedSimpArgs false
namespace Jvm.Pilot.@@N@@
open Jvm Jvm.ClassFile Sem Op Lib Jvm.Free Jvm.Stand Jvm.LawKit Jvm.RoadKit Bundle Jvm.Pilot.@@N@@.Jvm.D
theorem own_w {Z : State} {a0 : Array Value} {d : Jvm.Cond} (hw : ∀ d ∈ tables_1, d.before a0 Z = true) (i : Nat) (h : tables_1[i]? = some d) : d.before a0 Z = true := hw d (List.mem_of_getElem? h)
/-- from U the run comes to an end of which G says -/
def Go (p : Program) (e : Env) (below : List Frame) (G : State → Outcome → Prop) (U : State) : Prop := ∃ s₂ o, Steps p.tables e below U s₂ ∧ s₂.status = .running ∧ Ended s₂ below o ∧ G s₂ o
theorem Go.st {p : Program} {e : Env} {below : List Frame} {G : State → Outcome → Prop} {U U' : State} (h : ∀ t, Steps p.tables e below U' t → Steps p.tables e below U t) (k : Go p e below G U') : Go p e below G U := by
  obtain ⟨t, o, h1, r⟩ := k
  exact ⟨t, o, h _ h1, r⟩
theorem Go.tr {p : Program} {e : Env} {below : List Frame} {G : State → Outcome → Prop} {U U' : State} (h : Steps p.tables e below U U') (k : Go p e below G U') : Go p e below G U := by
  obtain ⟨t, o, h1, r⟩ := k
  exact ⟨t, o, h.trans h1, r⟩
theorem Go.join {p : Program} {e : Env} {below : List Frame} {G : State → Outcome → Prop} {U : State} {α : Type} {P : α → Prop} {F : α → State} (h2 : (∀ v, P v → Go p e below G (F v)) → Go p e below G U) (h1 : ∀ v, P v → Go p e below G (F v)) : Go p e below G U := h2 h1
theorem Go.join2 {p : Program} {e : Env} {below : List Frame} {G : State → Outcome → Prop} {U : State} {α β : Type} {P : α → β → Prop} {F : α → β → State} (h2 : (∀ v w, P v w → Go p e below G (F v w)) → Go p e below G U) (h1 : ∀ v w, P v w → Go p e below G (F v w)) : Go p e below G U := h2 h1
theorem Go.join3 {p : Program} {e : Env} {below : List Frame} {G : State → Outcome → Prop} {U : State} {α β γ : Type} {P : α → β → γ → Prop} {F : α → β → γ → State} (h2 : (∀ v w u, P v w u → Go p e below G (F v w u)) → Go p e below G U) (h1 : ∀ v w u, P v w u → Go p e below G (F v w u)) : Go p e below G U := h2 h1
theorem own_ret {p : Program} {l : Launch} {e : Env} {R : Room} {s : State} {m : MethodId} {args : Array Value} {below : List Frame} {meth : Method} {c : Code} {T U : State} {locs : List Loc} {cells slots : Nat} {Q : Option Value → Heap → List Loc → Prop} {rc rs : Nat} {v : Option Value}
    (X : Stand p l e R s m args below meth c T locs cells slots) (hlk : meth.locks = false) (hv : meth.sig.returnType = none → v = none) (hc : cells ≤ rc) (hs : slots ≤ rs) (hq : Q v T.heap locs)
    (st : ∀ fs, (∀ (f : JFrame) (acts : List Action), f.method = m → f.locked = none → f.entered = [] → (doReturn e (T.setTop f) acts v).1 = T.setFrames fs) → Steps p.tables e below U (T.setFrames fs)) :
    Go p e below (fun s₂ o => ∃ v L, o = .returned v ∧ Q v s₂.heap L ∧ FrameEnd s o s₂ L rc rs) U := by
  obtain ⟨fs, hr, hrun, hended, hW, hsame⟩ := X.leave (v := v) hv hlk
  exact ⟨_, _, st fs hr, hrun, hended, _, _, rfl, hq, ⟨_, rfl⟩, hW, hsame.mono hc hs⟩
theorem own_getI (L : List Int32) (i : Nat) : (L.map Value.int).getD i (.int 0) = .int (L.getD i 0) := by
  induction L generalizing i with
  | nil => rfl
  | cons a r ih => cases i with
    | zero => rfl
    | succ i => exact ih i
theorem own_getJ (L : List Int64) (i : Nat) : (L.map Value.long).getD i (.long 0) = .long (L.getD i 0) := by
  induction L generalizing i with
  | nil => rfl
  | cons a r ih => cases i with
    | zero => rfl
    | succ i => exact ih i
theorem own_getP {P : Int32 → Prop} (h0 : P 0) (L : List Int32) (h : ∀ x ∈ L, P x) (i : Nat) : P (L.getD i 0) := by
  induction L generalizing i with
  | nil => exact h0
  | cons a r ih => cases i with
    | zero => exact h a (List.mem_cons_self ..)
    | succ i => exact ih (fun x hx => h x (List.mem_cons_of_mem _ hx)) i
theorem own_mk (x m n : Int32) (k : Nat) (hk : k ≤ 31) (hm : m.toBitVec.toNat = 2 ^ k - 1) (hn : ((2 ^ k : Nat) : Int) ≤ n.toInt) : ¬ (x &&& m) < 0 ∧ (x &&& m) < n := by
  have h := c_mask x m k hk hm
  have h2 : (0 : Int) < ((2 ^ k : Nat) : Int) := Int.ofNat_lt.mpr (Nat.two_pow_pos k)
  have h3 := Int.emod_nonneg x.toInt (Int.ne_of_gt h2)
  have h4 := Int.emod_lt_of_pos x.toInt h2
  rw [Int32.lt_iff_toInt_lt, Int32.lt_iff_toInt_lt, h]
  exact ⟨Int.not_lt.mpr h3, Int.lt_of_lt_of_le h4 hn⟩
abbrev own_y0 : MethodName := ⟨"com/example/hopwright/hopwright/crypto/Field25519", "conditionalSwap", "(J[J[J)V"⟩
theorem d1_0 : decode prog_21_method_11_code 0 = .ok (.lload_n 0, 1) := by decide +kernel
theorem d1_1 : decode prog_21_method_11_code 1 = .ok (.lneg, 1) := by decide +kernel
theorem d1_2 : decode prog_21_method_11_code 2 = .ok (.lstore 4, 2) := by decide +kernel
theorem d1_4 : decode prog_21_method_11_code 4 = .ok (.iconst 0, 1) := by decide +kernel
theorem d1_5 : decode prog_21_method_11_code 5 = .ok (.istore 6, 2) := by decide +kernel
theorem d1_7 : decode prog_21_method_11_code 7 = .ok (.iload 6, 2) := by decide +kernel
theorem d1_9 : decode prog_21_method_11_code 9 = .ok (.iconst 5, 1) := by decide +kernel
theorem d1_10 : decode prog_21_method_11_code 10 = .ok (.if_icmp .ge 41, 3) := by decide +kernel
theorem d1_13 : decode prog_21_method_11_code 13 = .ok (.lload 4, 2) := by decide +kernel
theorem d1_15 : decode prog_21_method_11_code 15 = .ok (.aload_n 2, 1) := by decide +kernel
theorem d1_16 : decode prog_21_method_11_code 16 = .ok (.iload 6, 2) := by decide +kernel
theorem d1_18 : decode prog_21_method_11_code 18 = .ok (.laload, 1) := by decide +kernel
theorem d1_19 : decode prog_21_method_11_code 19 = .ok (.aload_n 3, 1) := by decide +kernel
theorem d1_20 : decode prog_21_method_11_code 20 = .ok (.iload 6, 2) := by decide +kernel
theorem d1_22 : decode prog_21_method_11_code 22 = .ok (.laload, 1) := by decide +kernel
theorem d1_23 : decode prog_21_method_11_code 23 = .ok (.lxor, 1) := by decide +kernel
theorem d1_24 : decode prog_21_method_11_code 24 = .ok (.land, 1) := by decide +kernel
theorem d1_25 : decode prog_21_method_11_code 25 = .ok (.lstore 7, 2) := by decide +kernel
theorem d1_27 : decode prog_21_method_11_code 27 = .ok (.aload_n 2, 1) := by decide +kernel
theorem d1_28 : decode prog_21_method_11_code 28 = .ok (.iload 6, 2) := by decide +kernel
theorem d1_30 : decode prog_21_method_11_code 30 = .ok (.dup2, 1) := by decide +kernel
theorem d1_31 : decode prog_21_method_11_code 31 = .ok (.laload, 1) := by decide +kernel
theorem d1_32 : decode prog_21_method_11_code 32 = .ok (.lload 7, 2) := by decide +kernel
theorem d1_34 : decode prog_21_method_11_code 34 = .ok (.lxor, 1) := by decide +kernel
theorem d1_35 : decode prog_21_method_11_code 35 = .ok (.lastore, 1) := by decide +kernel
theorem d1_36 : decode prog_21_method_11_code 36 = .ok (.aload_n 3, 1) := by decide +kernel
theorem d1_37 : decode prog_21_method_11_code 37 = .ok (.iload 6, 2) := by decide +kernel
theorem d1_39 : decode prog_21_method_11_code 39 = .ok (.dup2, 1) := by decide +kernel
theorem d1_40 : decode prog_21_method_11_code 40 = .ok (.laload, 1) := by decide +kernel
theorem d1_41 : decode prog_21_method_11_code 41 = .ok (.lload 7, 2) := by decide +kernel
theorem d1_43 : decode prog_21_method_11_code 43 = .ok (.lxor, 1) := by decide +kernel
theorem d1_44 : decode prog_21_method_11_code 44 = .ok (.lastore, 1) := by decide +kernel
theorem d1_45 : decode prog_21_method_11_code 45 = .ok (.iinc 6 1, 3) := by decide +kernel
theorem d1_48 : decode prog_21_method_11_code 48 = .ok (.goto (-41), 3) := by decide +kernel
theorem d1_51 : decode prog_21_method_11_code 51 = .ok (.return_, 1) := by decide +kernel
theorem pn_0 : plainName "com/example/hopwright/hopwright/crypto/Field25519" = true := by first | (simp [plainName, overriddenIn]; done) | decide +kernel
theorem ef1 (m : MethodId) (q1 : Int64) (a2 : Addr) (a3 : Addr) : entryFrame m #[(.long q1), (.ref a2), (.ref a3)] 9 = mkF m 0 #[.val (.long q1), .second, .val (.ref a2), .val (.ref a3), .unset, .unset, .unset, .unset, .unset] [] := by first | (simp [entryFrame, mkF, argsToLocals, Value.category]; done) | rfl
abbrev own_R0_0_0_0 : Room := { frames := 0, cells := 0, slots := 0, locals := 0 }
def Q1 (Z : State) (q1 : Int64) (a2 : Addr) (a3 : Addr) (k2 : ClassId) (k3 : ClassId) (x0 : Int64) (x1 : Int64) (x2 : Int64) (x3 : Int64) (x4 : Int64) (y0 : Int64) (y1 : Int64) (y2 : Int64) (y3 : Int64) (y4 : Int64) (h0 : Heap) (n0 : Nat) (v : Option Value) (h : Heap) (L : List Loc) : Prop := v = none ∧ Fr n0 L ∧ Keep h0 h [a2, a3] ∧ Arv Z h a2 k2 .long (5 : Int32) [(.long (x0 ^^^ ((-q1) &&& (x0 ^^^ y0)))), (.long (x1 ^^^ ((-q1) &&& (x1 ^^^ y1)))), (.long (x2 ^^^ ((-q1) &&& (x2 ^^^ y2)))), (.long (x3 ^^^ ((-q1) &&& (x3 ^^^ y3)))), (.long (x4 ^^^ ((-q1) &&& (x4 ^^^ y4))))] (.long (0 : Int64)) ∧ Arv Z h a3 k3 .long (5 : Int32) [(.long (y0 ^^^ ((-q1) &&& (x0 ^^^ y0)))), (.long (y1 ^^^ ((-q1) &&& (x1 ^^^ y1)))), (.long (y2 ^^^ ((-q1) &&& (x2 ^^^ y2)))), (.long (y3 ^^^ ((-q1) &&& (x3 ^^^ y3)))), (.long (y4 ^^^ ((-q1) &&& (x4 ^^^ y4))))] (.long (0 : Int64))
set_option maxRecDepth 65536 in
set_option maxHeartbeats 40000000 in
theorem rm1 (l : Launch) (Z : State) (a0 : Array Value) (hw : ∀ d ∈ tables_1, d.before a0 Z = true) (ws : List Jvm.Cond) (q1 : Int64) (a2 : Addr) (a3 : Addr) (k2 : ClassId) (k3 : ClassId) (x0 : Int64) (x1 : Int64) (x2 : Int64) (x3 : Int64) (x4 : Int64) (y0 : Int64) (y1 : Int64) (y2 : Int64) (y3 : Int64) (y4 : Int64) (h0 : Heap) (n0 : Nat) (Z0 : n0 ≤ h0.size) (VF : Arv Z h0 a2 k2 .long (5 : Int32) [(.long x0), (.long x1), (.long x2), (.long x3), (.long x4)] (.long (0 : Int64))) (VG : Arv Z h0 a3 k3 .long (5 : Int32) [(.long y0), (.long y1), (.long y2), (.long y3), (.long y4)] (.long (0 : Int64))) (gA : n0 ≤ a2) (gB : n0 ≤ a3) (n23 : a2 ≠ a3) :
    MetFree l own_y0 (head1 (Jvm.Cond.code own_y0 prog_21_method_11_code 9 none :: ws) own_R0_0_0_0) (fun a U => a = #[(.long q1), (.ref a2), (.ref a3)] ∧ Z.Warmed39 U.vm ∧ U.heap = h0) (fun _ _ _ _ _ => True) (fun _ U o U' => ∃ v L, o = .returned v ∧ Q1 Z q1 a2 a3 k2 k3 x0 x1 x2 x3 x4 y0 y1 y2 y3 y4 h0 n0 v U'.heap L ∧ FrameEnd U o U' L (own_R0_0_0_0).cells (own_R0_0_0_0).slots) := by
  refine MetFree.of_bodySF (plainFor_of_name pn_0) hisR ?_
  intro p e s m args below meth c s₁ Bd hml0 hP hK
  obtain ⟨rfl, hZ, hh⟩ := hP
  have hx := Bd.exec
  have hby := Bd.bytes
  have hml : c.maxLocals = 9 := hml0
  have hown : s.vm.findClass "com/example/hopwright/hopwright/crypto/Field25519" = some m.cls := findClass_of_methodNamed Bd.named
  have hnm := (name_of_methodNamed Bd.named Bd.method).1
  have hlk : meth.locks = false := BodyLoose.notSynchronized Bd
  have hrt := Bd.returns
  have X0 : Stand p l e own_R0_0_0_0 s m #[(.long q1), (.ref a2), (.ref a3)] below meth c s₁ [] 0 0 := Stand.of_body Bd
  have e0 : s₁.heap = h0 := by rw [← hh, Bd.state]; rfl
  have N0 := Fr.nil n0
  refine (show Go p e below (fun s₂ o => ∃ v L, o = .returned v ∧ Q1 Z q1 a2 a3 k2 k3 x0 x1 x2 x3 x4 y0 y1 y2 y3 y4 h0 n0 v s₂.heap L ∧ FrameEnd s o s₂ L 0 0) (s₁.setTop (entryFrame m #[(.long q1), (.ref a2), (.ref a3)] 9)) from ?_)
  rw [ef1]
  obtain ⟨cl101, Ar101, q101, S101, N101, H101, G101⟩ := id VF
  obtain ⟨cl102, Ar102, q102, S102, N102, H102, G102⟩ := id VG
  refine Go.st (U' := s₁.setTop (mkF m 35 #[.val (.long q1), .second, .val (.ref a2), .val (.ref a3), .val (.long (-q1)), .second, .val (.int (0 : Int32)), .val (.long ((-q1) &&& (x0 ^^^ y0))), .second] [(.long (x0 ^^^ ((-q1) &&& (x0 ^^^ y0)))), (.int (0 : Int32)), (.ref a2)])) (fun t k => ?_) ?_
  · show Steps p.tables e below (s₁.setTop (mkF m 0 #[.val (.long q1), .second, .val (.ref a2), .val (.ref a3), .unset, .unset, .unset, .unset, .unset] [])) _
    refine XS.lloadN X0.here hx rfl (hb hby d1_0) rfl ?_
    show Steps p.tables e below (s₁.setTop (mkF m 1 #[.val (.long q1), .second, .val (.ref a2), .val (.ref a3), .unset, .unset, .unset, .unset, .unset] [(.long q1)])) _
    refine XS.lneg X0.here hx rfl (hb hby d1_1) rfl ?_
    show Steps p.tables e below (s₁.setTop (mkF m 2 #[.val (.long q1), .second, .val (.ref a2), .val (.ref a3), .unset, .unset, .unset, .unset, .unset] [(.long (-q1))])) _
    refine XS.lstore X0.here hx rfl (hb hby d1_2) rfl (l' := #[.val (.long q1), .second, .val (.ref a2), .val (.ref a3), .val (.long (-q1)), .second, .unset, .unset, .unset]) rfl ?_
    show Steps p.tables e below (s₁.setTop (mkF m 4 #[.val (.long q1), .second, .val (.ref a2), .val (.ref a3), .val (.long (-q1)), .second, .unset, .unset, .unset] [])) _
    refine XS.iconst X0.here hx rfl (hb hby d1_4) ?_
    show Steps p.tables e below (s₁.setTop (mkF m 5 #[.val (.long q1), .second, .val (.ref a2), .val (.ref a3), .val (.long (-q1)), .second, .unset, .unset, .unset] [(.int (0 : Int32))])) _
    refine XS.istore X0.here hx rfl (hb hby d1_5) rfl (l' := #[.val (.long q1), .second, .val (.ref a2), .val (.ref a3), .val (.long (-q1)), .second, .val (.int (0 : Int32)), .unset, .unset]) rfl ?_
    show Steps p.tables e below (s₁.setTop (mkF m 7 #[.val (.long q1), .second, .val (.ref a2), .val (.ref a3), .val (.long (-q1)), .second, .val (.int (0 : Int32)), .unset, .unset] [])) _
    refine XS.iload X0.here hx rfl (hb hby d1_7) rfl ?_
    show Steps p.tables e below (s₁.setTop (mkF m 9 #[.val (.long q1), .second, .val (.ref a2), .val (.ref a3), .val (.long (-q1)), .second, .val (.int (0 : Int32)), .unset, .unset] [(.int (0 : Int32))])) _
    refine XS.iconst X0.here hx rfl (hb hby d1_9) ?_
    show Steps p.tables e below (s₁.setTop (mkF m 10 #[.val (.long q1), .second, .val (.ref a2), .val (.ref a3), .val (.long (-q1)), .second, .val (.int (0 : Int32)), .unset, .unset] [(.int (5 : Int32)), (.int (0 : Int32))])) _
    refine XS.icmpNo X0.here hx rfl (hb hby d1_10) rfl (tlt (by decide : (0 : Int32) < (5 : Int32))).2.1 ?_
    show Steps p.tables e below (s₁.setTop (mkF m 13 #[.val (.long q1), .second, .val (.ref a2), .val (.ref a3), .val (.long (-q1)), .second, .val (.int (0 : Int32)), .unset, .unset] [])) _
    refine XS.lload X0.here hx rfl (hb hby d1_13) rfl ?_
    show Steps p.tables e below (s₁.setTop (mkF m 15 #[.val (.long q1), .second, .val (.ref a2), .val (.ref a3), .val (.long (-q1)), .second, .val (.int (0 : Int32)), .unset, .unset] [(.long (-q1))])) _
    refine XS.aloadN X0.here hx rfl (hb hby d1_15) rfl rfl ?_
    show Steps p.tables e below (s₁.setTop (mkF m 16 #[.val (.long q1), .second, .val (.ref a2), .val (.ref a3), .val (.long (-q1)), .second, .val (.int (0 : Int32)), .unset, .unset] [(.ref a2), (.long (-q1))])) _
    refine XS.iload X0.here hx rfl (hb hby d1_16) rfl ?_
    show Steps p.tables e below (s₁.setTop (mkF m 18 #[.val (.long q1), .second, .val (.ref a2), .val (.ref a3), .val (.long (-q1)), .second, .val (.int (0 : Int32)), .unset, .unset] [(.int (0 : Int32)), (.ref a2), (.long (-q1))])) _
    refine X0.laload hx (j := (0 : Int32)) (v := (.long x0)) (by rw [e0]; exact Ar101.1) (State.isArrayOf_alike hZ.alike Ar101.2.1) Ar101.2.2 (inb_of (j := (0 : Int32)) S101 ⟨by decide, by decide⟩) (Has.at H101 (inb_of (j := (0 : Int32)) S101 ⟨by decide, by decide⟩) rfl) (g := (mkF m 18 #[.val (.long q1), .second, .val (.ref a2), .val (.ref a3), .val (.long (-q1)), .second, .val (.int (0 : Int32)), .unset, .unset] [(.int (0 : Int32)), (.ref a2), (.long (-q1))])) rfl rfl (hb hby d1_18) _ ?_
    show Steps p.tables e below (s₁.setTop (mkF m 19 #[.val (.long q1), .second, .val (.ref a2), .val (.ref a3), .val (.long (-q1)), .second, .val (.int (0 : Int32)), .unset, .unset] [(.long x0), (.long (-q1))])) _
    refine XS.aloadN X0.here hx rfl (hb hby d1_19) rfl rfl ?_
    show Steps p.tables e below (s₁.setTop (mkF m 20 #[.val (.long q1), .second, .val (.ref a2), .val (.ref a3), .val (.long (-q1)), .second, .val (.int (0 : Int32)), .unset, .unset] [(.ref a3), (.long x0), (.long (-q1))])) _
    refine XS.iload X0.here hx rfl (hb hby d1_20) rfl ?_
    show Steps p.tables e below (s₁.setTop (mkF m 22 #[.val (.long q1), .second, .val (.ref a2), .val (.ref a3), .val (.long (-q1)), .second, .val (.int (0 : Int32)), .unset, .unset] [(.int (0 : Int32)), (.ref a3), (.long x0), (.long (-q1))])) _
    refine X0.laload hx (j := (0 : Int32)) (v := (.long y0)) (by rw [e0]; exact Ar102.1) (State.isArrayOf_alike hZ.alike Ar102.2.1) Ar102.2.2 (inb_of (j := (0 : Int32)) S102 ⟨by decide, by decide⟩) (Has.at H102 (inb_of (j := (0 : Int32)) S102 ⟨by decide, by decide⟩) rfl) (g := (mkF m 22 #[.val (.long q1), .second, .val (.ref a2), .val (.ref a3), .val (.long (-q1)), .second, .val (.int (0 : Int32)), .unset, .unset] [(.int (0 : Int32)), (.ref a3), (.long x0), (.long (-q1))])) rfl rfl (hb hby d1_22) _ ?_
    show Steps p.tables e below (s₁.setTop (mkF m 23 #[.val (.long q1), .second, .val (.ref a2), .val (.ref a3), .val (.long (-q1)), .second, .val (.int (0 : Int32)), .unset, .unset] [(.long y0), (.long x0), (.long (-q1))])) _
    refine XS.lxor X0.here hx rfl (hb hby d1_23) rfl ?_
    show Steps p.tables e below (s₁.setTop (mkF m 24 #[.val (.long q1), .second, .val (.ref a2), .val (.ref a3), .val (.long (-q1)), .second, .val (.int (0 : Int32)), .unset, .unset] [(.long (x0 ^^^ y0)), (.long (-q1))])) _
    refine XS.land X0.here hx rfl (hb hby d1_24) rfl ?_
    show Steps p.tables e below (s₁.setTop (mkF m 25 #[.val (.long q1), .second, .val (.ref a2), .val (.ref a3), .val (.long (-q1)), .second, .val (.int (0 : Int32)), .unset, .unset] [(.long ((-q1) &&& (x0 ^^^ y0)))])) _
    refine XS.lstore X0.here hx rfl (hb hby d1_25) rfl (l' := #[.val (.long q1), .second, .val (.ref a2), .val (.ref a3), .val (.long (-q1)), .second, .val (.int (0 : Int32)), .val (.long ((-q1) &&& (x0 ^^^ y0))), .second]) rfl ?_
    show Steps p.tables e below (s₁.setTop (mkF m 27 #[.val (.long q1), .second, .val (.ref a2), .val (.ref a3), .val (.long (-q1)), .second, .val (.int (0 : Int32)), .val (.long ((-q1) &&& (x0 ^^^ y0))), .second] [])) _
    refine XS.aloadN X0.here hx rfl (hb hby d1_27) rfl rfl ?_
    show Steps p.tables e below (s₁.setTop (mkF m 28 #[.val (.long q1), .second, .val (.ref a2), .val (.ref a3), .val (.long (-q1)), .second, .val (.int (0 : Int32)), .val (.long ((-q1) &&& (x0 ^^^ y0))), .second] [(.ref a2)])) _
    refine XS.iload X0.here hx rfl (hb hby d1_28) rfl ?_
    show Steps p.tables e below (s₁.setTop (mkF m 30 #[.val (.long q1), .second, .val (.ref a2), .val (.ref a3), .val (.long (-q1)), .second, .val (.int (0 : Int32)), .val (.long ((-q1) &&& (x0 ^^^ y0))), .second] [(.int (0 : Int32)), (.ref a2)])) _
    refine Jvm.Free.XT.dup2 X0.here hx rfl (hb hby d1_30) rfl rfl rfl ?_
    show Steps p.tables e below (s₁.setTop (mkF m 31 #[.val (.long q1), .second, .val (.ref a2), .val (.ref a3), .val (.long (-q1)), .second, .val (.int (0 : Int32)), .val (.long ((-q1) &&& (x0 ^^^ y0))), .second] [(.int (0 : Int32)), (.ref a2), (.int (0 : Int32)), (.ref a2)])) _
    refine X0.laload hx (j := (0 : Int32)) (v := (.long x0)) (by rw [e0]; exact Ar101.1) (State.isArrayOf_alike hZ.alike Ar101.2.1) Ar101.2.2 (inb_of (j := (0 : Int32)) S101 ⟨by decide, by decide⟩) (Has.at H101 (inb_of (j := (0 : Int32)) S101 ⟨by decide, by decide⟩) rfl) (g := (mkF m 31 #[.val (.long q1), .second, .val (.ref a2), .val (.ref a3), .val (.long (-q1)), .second, .val (.int (0 : Int32)), .val (.long ((-q1) &&& (x0 ^^^ y0))), .second] [(.int (0 : Int32)), (.ref a2), (.int (0 : Int32)), (.ref a2)])) rfl rfl (hb hby d1_31) _ ?_
    show Steps p.tables e below (s₁.setTop (mkF m 32 #[.val (.long q1), .second, .val (.ref a2), .val (.ref a3), .val (.long (-q1)), .second, .val (.int (0 : Int32)), .val (.long ((-q1) &&& (x0 ^^^ y0))), .second] [(.long x0), (.int (0 : Int32)), (.ref a2)])) _
    refine XS.lload X0.here hx rfl (hb hby d1_32) rfl ?_
    show Steps p.tables e below (s₁.setTop (mkF m 34 #[.val (.long q1), .second, .val (.ref a2), .val (.ref a3), .val (.long (-q1)), .second, .val (.int (0 : Int32)), .val (.long ((-q1) &&& (x0 ^^^ y0))), .second] [(.long ((-q1) &&& (x0 ^^^ y0))), (.long x0), (.int (0 : Int32)), (.ref a2)])) _
    refine XS.lxor X0.here hx rfl (hb hby d1_34) rfl ?_
    exact k
  obtain ⟨T103, h103, X103, e103, W103, st103⟩ := stJ X0 hx hZ e0 Ar101 (j := (0 : Int32)) (inb_of (j := (0 : Int32)) S101 ⟨by decide, by decide⟩) (g := (mkF m 35 #[.val (.long q1), .second, .val (.ref a2), .val (.ref a3), .val (.long (-q1)), .second, .val (.int (0 : Int32)), .val (.long ((-q1) &&& (x0 ^^^ y0))), .second] [(.long (x0 ^^^ ((-q1) &&& (x0 ^^^ y0)))), (.int (0 : Int32)), (.ref a2)])) rfl rfl (hb hby d1_35)
  have VF_103 := Arv.set Ar101 q101 S101 N101 H101 G101 rfl W103 0 rfl (Nat.le_of_ble_eq_true rfl)
  have VG_103 := VG.other W103 (Ne.symm n23)
  have N103 := Fr.snoc X103 N0 gA
  have KK103 : Keep h0 h103 [a2, a3] := (Keep.refl h0 [a2, a3]).wr W103 (Or.inl (List.mem_of_getElem? (i := 0) rfl))
  have sz103 : n0 ≤ h103.size := Nat.le_trans Z0 (Nat.le_of_eq W103.size.symm)
  refine Go.st (U' := T103.setTop (mkF m 36 #[.val (.long q1), .second, .val (.ref a2), .val (.ref a3), .val (.long (-q1)), .second, .val (.int (0 : Int32)), .val (.long ((-q1) &&& (x0 ^^^ y0))), .second] [])) (fun t k => st103 _ k) ?_
  obtain ⟨cl104, Ar104, q104, S104, N104, H104, G104⟩ := id VG_103
  refine Go.st (U' := T103.setTop (mkF m 44 #[.val (.long q1), .second, .val (.ref a2), .val (.ref a3), .val (.long (-q1)), .second, .val (.int (0 : Int32)), .val (.long ((-q1) &&& (x0 ^^^ y0))), .second] [(.long (y0 ^^^ ((-q1) &&& (x0 ^^^ y0)))), (.int (0 : Int32)), (.ref a3)])) (fun t k => ?_) ?_
  · show Steps p.tables e below (T103.setTop (mkF m 36 #[.val (.long q1), .second, .val (.ref a2), .val (.ref a3), .val (.long (-q1)), .second, .val (.int (0 : Int32)), .val (.long ((-q1) &&& (x0 ^^^ y0))), .second] [])) _
    refine XS.aloadN X103.here hx rfl (hb hby d1_36) rfl rfl ?_
    show Steps p.tables e below (T103.setTop (mkF m 37 #[.val (.long q1), .second, .val (.ref a2), .val (.ref a3), .val (.long (-q1)), .second, .val (.int (0 : Int32)), .val (.long ((-q1) &&& (x0 ^^^ y0))), .second] [(.ref a3)])) _
    refine XS.iload X103.here hx rfl (hb hby d1_37) rfl ?_
    show Steps p.tables e below (T103.setTop (mkF m 39 #[.val (.long q1), .second, .val (.ref a2), .val (.ref a3), .val (.long (-q1)), .second, .val (.int (0 : Int32)), .val (.long ((-q1) &&& (x0 ^^^ y0))), .second] [(.int (0 : Int32)), (.ref a3)])) _
    refine Jvm.Free.XT.dup2 X103.here hx rfl (hb hby d1_39) rfl rfl rfl ?_
    show Steps p.tables e below (T103.setTop (mkF m 40 #[.val (.long q1), .second, .val (.ref a2), .val (.ref a3), .val (.long (-q1)), .second, .val (.int (0 : Int32)), .val (.long ((-q1) &&& (x0 ^^^ y0))), .second] [(.int (0 : Int32)), (.ref a3), (.int (0 : Int32)), (.ref a3)])) _
    refine X103.laload hx (j := (0 : Int32)) (v := (.long y0)) (by rw [e103]; exact Ar104.1) (State.isArrayOf_alike hZ.alike Ar104.2.1) Ar104.2.2 (inb_of (j := (0 : Int32)) S104 ⟨by decide, by decide⟩) (Has.at H104 (inb_of (j := (0 : Int32)) S104 ⟨by decide, by decide⟩) rfl) (g := (mkF m 40 #[.val (.long q1), .second, .val (.ref a2), .val (.ref a3), .val (.long (-q1)), .second, .val (.int (0 : Int32)), .val (.long ((-q1) &&& (x0 ^^^ y0))), .second] [(.int (0 : Int32)), (.ref a3), (.int (0 : Int32)), (.ref a3)])) rfl rfl (hb hby d1_40) _ ?_
    show Steps p.tables e below (T103.setTop (mkF m 41 #[.val (.long q1), .second, .val (.ref a2), .val (.ref a3), .val (.long (-q1)), .second, .val (.int (0 : Int32)), .val (.long ((-q1) &&& (x0 ^^^ y0))), .second] [(.long y0), (.int (0 : Int32)), (.ref a3)])) _
    refine XS.lload X103.here hx rfl (hb hby d1_41) rfl ?_
    show Steps p.tables e below (T103.setTop (mkF m 43 #[.val (.long q1), .second, .val (.ref a2), .val (.ref a3), .val (.long (-q1)), .second, .val (.int (0 : Int32)), .val (.long ((-q1) &&& (x0 ^^^ y0))), .second] [(.long ((-q1) &&& (x0 ^^^ y0))), (.long y0), (.int (0 : Int32)), (.ref a3)])) _
    refine XS.lxor X103.here hx rfl (hb hby d1_43) rfl ?_
    exact k
  obtain ⟨T105, h105, X105, e105, W105, st105⟩ := stJ X103 hx hZ e103 Ar104 (j := (0 : Int32)) (inb_of (j := (0 : Int32)) S104 ⟨by decide, by decide⟩) (g := (mkF m 44 #[.val (.long q1), .second, .val (.ref a2), .val (.ref a3), .val (.long (-q1)), .second, .val (.int (0 : Int32)), .val (.long ((-q1) &&& (x0 ^^^ y0))), .second] [(.long (y0 ^^^ ((-q1) &&& (x0 ^^^ y0)))), (.int (0 : Int32)), (.ref a3)])) rfl rfl (hb hby d1_44)
  have VG_105 := Arv.set Ar104 q104 S104 N104 H104 G104 rfl W105 0 rfl (Nat.le_of_ble_eq_true rfl)
  have VF_105 := VF_103.other W105 n23
  have N105 := Fr.snoc X105 N103 gB
  have KK105 : Keep h0 h105 [a2, a3] := KK103.wr W105 (Or.inl (List.mem_of_getElem? (i := 1) rfl))
  have sz105 : n0 ≤ h105.size := Nat.le_trans sz103 (Nat.le_of_eq W105.size.symm)
  refine Go.st (U' := T105.setTop (mkF m 45 #[.val (.long q1), .second, .val (.ref a2), .val (.ref a3), .val (.long (-q1)), .second, .val (.int (0 : Int32)), .val (.long ((-q1) &&& (x0 ^^^ y0))), .second] [])) (fun t k => st105 _ k) ?_
  obtain ⟨cl106, Ar106, q106, S106, N106, H106, G106⟩ := id VF_105
  obtain ⟨cl107, Ar107, q107, S107, N107, H107, G107⟩ := id VG_105
  refine Go.st (U' := T105.setTop (mkF m 35 #[.val (.long q1), .second, .val (.ref a2), .val (.ref a3), .val (.long (-q1)), .second, .val (.int (1 : Int32)), .val (.long ((-q1) &&& (x1 ^^^ y1))), .second] [(.long (x1 ^^^ ((-q1) &&& (x1 ^^^ y1)))), (.int (1 : Int32)), (.ref a2)])) (fun t k => ?_) ?_
  · show Steps p.tables e below (T105.setTop (mkF m 45 #[.val (.long q1), .second, .val (.ref a2), .val (.ref a3), .val (.long (-q1)), .second, .val (.int (0 : Int32)), .val (.long ((-q1) &&& (x0 ^^^ y0))), .second] [])) _
    refine XS.iinc X105.here hx rfl (hb hby d1_45) rfl (l' := #[.val (.long q1), .second, .val (.ref a2), .val (.ref a3), .val (.long (-q1)), .second, .val (.int (1 : Int32)), .val (.long ((-q1) &&& (x0 ^^^ y0))), .second]) rfl ?_
    show Steps p.tables e below (T105.setTop (mkF m 48 #[.val (.long q1), .second, .val (.ref a2), .val (.ref a3), .val (.long (-q1)), .second, .val (.int (1 : Int32)), .val (.long ((-q1) &&& (x0 ^^^ y0))), .second] [])) _
    refine XS.goto X105.here hx rfl (pc0 := 48) (pc' := 7) rfl (hb hby d1_48) (by decide) (by decide) ?_
    show Steps p.tables e below (T105.setTop (mkF m 7 #[.val (.long q1), .second, .val (.ref a2), .val (.ref a3), .val (.long (-q1)), .second, .val (.int (1 : Int32)), .val (.long ((-q1) &&& (x0 ^^^ y0))), .second] [])) _
    refine XS.iload X105.here hx rfl (hb hby d1_7) rfl ?_
    show Steps p.tables e below (T105.setTop (mkF m 9 #[.val (.long q1), .second, .val (.ref a2), .val (.ref a3), .val (.long (-q1)), .second, .val (.int (1 : Int32)), .val (.long ((-q1) &&& (x0 ^^^ y0))), .second] [(.int (1 : Int32))])) _
    refine XS.iconst X105.here hx rfl (hb hby d1_9) ?_
    show Steps p.tables e below (T105.setTop (mkF m 10 #[.val (.long q1), .second, .val (.ref a2), .val (.ref a3), .val (.long (-q1)), .second, .val (.int (1 : Int32)), .val (.long ((-q1) &&& (x0 ^^^ y0))), .second] [(.int (5 : Int32)), (.int (1 : Int32))])) _
    refine XS.icmpNo X105.here hx rfl (hb hby d1_10) rfl (tlt (by decide : (1 : Int32) < (5 : Int32))).2.1 ?_
    show Steps p.tables e below (T105.setTop (mkF m 13 #[.val (.long q1), .second, .val (.ref a2), .val (.ref a3), .val (.long (-q1)), .second, .val (.int (1 : Int32)), .val (.long ((-q1) &&& (x0 ^^^ y0))), .second] [])) _
    refine XS.lload X105.here hx rfl (hb hby d1_13) rfl ?_
    show Steps p.tables e below (T105.setTop (mkF m 15 #[.val (.long q1), .second, .val (.ref a2), .val (.ref a3), .val (.long (-q1)), .second, .val (.int (1 : Int32)), .val (.long ((-q1) &&& (x0 ^^^ y0))), .second] [(.long (-q1))])) _
    refine XS.aloadN X105.here hx rfl (hb hby d1_15) rfl rfl ?_
    show Steps p.tables e below (T105.setTop (mkF m 16 #[.val (.long q1), .second, .val (.ref a2), .val (.ref a3), .val (.long (-q1)), .second, .val (.int (1 : Int32)), .val (.long ((-q1) &&& (x0 ^^^ y0))), .second] [(.ref a2), (.long (-q1))])) _
    refine XS.iload X105.here hx rfl (hb hby d1_16) rfl ?_
    show Steps p.tables e below (T105.setTop (mkF m 18 #[.val (.long q1), .second, .val (.ref a2), .val (.ref a3), .val (.long (-q1)), .second, .val (.int (1 : Int32)), .val (.long ((-q1) &&& (x0 ^^^ y0))), .second] [(.int (1 : Int32)), (.ref a2), (.long (-q1))])) _
    refine X105.laload hx (j := (1 : Int32)) (v := (.long x1)) (by rw [e105]; exact Ar106.1) (State.isArrayOf_alike hZ.alike Ar106.2.1) Ar106.2.2 (inb_of (j := (1 : Int32)) S106 ⟨by decide, by decide⟩) (Has.at H106 (inb_of (j := (1 : Int32)) S106 ⟨by decide, by decide⟩) rfl) (g := (mkF m 18 #[.val (.long q1), .second, .val (.ref a2), .val (.ref a3), .val (.long (-q1)), .second, .val (.int (1 : Int32)), .val (.long ((-q1) &&& (x0 ^^^ y0))), .second] [(.int (1 : Int32)), (.ref a2), (.long (-q1))])) rfl rfl (hb hby d1_18) _ ?_
    show Steps p.tables e below (T105.setTop (mkF m 19 #[.val (.long q1), .second, .val (.ref a2), .val (.ref a3), .val (.long (-q1)), .second, .val (.int (1 : Int32)), .val (.long ((-q1) &&& (x0 ^^^ y0))), .second] [(.long x1), (.long (-q1))])) _
    refine XS.aloadN X105.here hx rfl (hb hby d1_19) rfl rfl ?_
    show Steps p.tables e below (T105.setTop (mkF m 20 #[.val (.long q1), .second, .val (.ref a2), .val (.ref a3), .val (.long (-q1)), .second, .val (.int (1 : Int32)), .val (.long ((-q1) &&& (x0 ^^^ y0))), .second] [(.ref a3), (.long x1), (.long (-q1))])) _
    refine XS.iload X105.here hx rfl (hb hby d1_20) rfl ?_
    show Steps p.tables e below (T105.setTop (mkF m 22 #[.val (.long q1), .second, .val (.ref a2), .val (.ref a3), .val (.long (-q1)), .second, .val (.int (1 : Int32)), .val (.long ((-q1) &&& (x0 ^^^ y0))), .second] [(.int (1 : Int32)), (.ref a3), (.long x1), (.long (-q1))])) _
    refine X105.laload hx (j := (1 : Int32)) (v := (.long y1)) (by rw [e105]; exact Ar107.1) (State.isArrayOf_alike hZ.alike Ar107.2.1) Ar107.2.2 (inb_of (j := (1 : Int32)) S107 ⟨by decide, by decide⟩) (Has.at H107 (inb_of (j := (1 : Int32)) S107 ⟨by decide, by decide⟩) rfl) (g := (mkF m 22 #[.val (.long q1), .second, .val (.ref a2), .val (.ref a3), .val (.long (-q1)), .second, .val (.int (1 : Int32)), .val (.long ((-q1) &&& (x0 ^^^ y0))), .second] [(.int (1 : Int32)), (.ref a3), (.long x1), (.long (-q1))])) rfl rfl (hb hby d1_22) _ ?_
    show Steps p.tables e below (T105.setTop (mkF m 23 #[.val (.long q1), .second, .val (.ref a2), .val (.ref a3), .val (.long (-q1)), .second, .val (.int (1 : Int32)), .val (.long ((-q1) &&& (x0 ^^^ y0))), .second] [(.long y1), (.long x1), (.long (-q1))])) _
    refine XS.lxor X105.here hx rfl (hb hby d1_23) rfl ?_
    show Steps p.tables e below (T105.setTop (mkF m 24 #[.val (.long q1), .second, .val (.ref a2), .val (.ref a3), .val (.long (-q1)), .second, .val (.int (1 : Int32)), .val (.long ((-q1) &&& (x0 ^^^ y0))), .second] [(.long (x1 ^^^ y1)), (.long (-q1))])) _
    refine XS.land X105.here hx rfl (hb hby d1_24) rfl ?_
    show Steps p.tables e below (T105.setTop (mkF m 25 #[.val (.long q1), .second, .val (.ref a2), .val (.ref a3), .val (.long (-q1)), .second, .val (.int (1 : Int32)), .val (.long ((-q1) &&& (x0 ^^^ y0))), .second] [(.long ((-q1) &&& (x1 ^^^ y1)))])) _
    refine XS.lstore X105.here hx rfl (hb hby d1_25) rfl (l' := #[.val (.long q1), .second, .val (.ref a2), .val (.ref a3), .val (.long (-q1)), .second, .val (.int (1 : Int32)), .val (.long ((-q1) &&& (x1 ^^^ y1))), .second]) rfl ?_
    show Steps p.tables e below (T105.setTop (mkF m 27 #[.val (.long q1), .second, .val (.ref a2), .val (.ref a3), .val (.long (-q1)), .second, .val (.int (1 : Int32)), .val (.long ((-q1) &&& (x1 ^^^ y1))), .second] [])) _
    refine XS.aloadN X105.here hx rfl (hb hby d1_27) rfl rfl ?_
    show Steps p.tables e below (T105.setTop (mkF m 28 #[.val (.long q1), .second, .val (.ref a2), .val (.ref a3), .val (.long (-q1)), .second, .val (.int (1 : Int32)), .val (.long ((-q1) &&& (x1 ^^^ y1))), .second] [(.ref a2)])) _
    refine XS.iload X105.here hx rfl (hb hby d1_28) rfl ?_
    show Steps p.tables e below (T105.setTop (mkF m 30 #[.val (.long q1), .second, .val (.ref a2), .val (.ref a3), .val (.long (-q1)), .second, .val (.int (1 : Int32)), .val (.long ((-q1) &&& (x1 ^^^ y1))), .second] [(.int (1 : Int32)), (.ref a2)])) _
    refine Jvm.Free.XT.dup2 X105.here hx rfl (hb hby d1_30) rfl rfl rfl ?_
    show Steps p.tables e below (T105.setTop (mkF m 31 #[.val (.long q1), .second, .val (.ref a2), .val (.ref a3), .val (.long (-q1)), .second, .val (.int (1 : Int32)), .val (.long ((-q1) &&& (x1 ^^^ y1))), .second] [(.int (1 : Int32)), (.ref a2), (.int (1 : Int32)), (.ref a2)])) _
    refine X105.laload hx (j := (1 : Int32)) (v := (.long x1)) (by rw [e105]; exact Ar106.1) (State.isArrayOf_alike hZ.alike Ar106.2.1) Ar106.2.2 (inb_of (j := (1 : Int32)) S106 ⟨by decide, by decide⟩) (Has.at H106 (inb_of (j := (1 : Int32)) S106 ⟨by decide, by decide⟩) rfl) (g := (mkF m 31 #[.val (.long q1), .second, .val (.ref a2), .val (.ref a3), .val (.long (-q1)), .second, .val (.int (1 : Int32)), .val (.long ((-q1) &&& (x1 ^^^ y1))), .second] [(.int (1 : Int32)), (.ref a2), (.int (1 : Int32)), (.ref a2)])) rfl rfl (hb hby d1_31) _ ?_
    show Steps p.tables e below (T105.setTop (mkF m 32 #[.val (.long q1), .second, .val (.ref a2), .val (.ref a3), .val (.long (-q1)), .second, .val (.int (1 : Int32)), .val (.long ((-q1) &&& (x1 ^^^ y1))), .second] [(.long x1), (.int (1 : Int32)), (.ref a2)])) _
    refine XS.lload X105.here hx rfl (hb hby d1_32) rfl ?_
    show Steps p.tables e below (T105.setTop (mkF m 34 #[.val (.long q1), .second, .val (.ref a2), .val (.ref a3), .val (.long (-q1)), .second, .val (.int (1 : Int32)), .val (.long ((-q1) &&& (x1 ^^^ y1))), .second] [(.long ((-q1) &&& (x1 ^^^ y1))), (.long x1), (.int (1 : Int32)), (.ref a2)])) _
    refine XS.lxor X105.here hx rfl (hb hby d1_34) rfl ?_
    exact k
  obtain ⟨T108, h108, X108, e108, W108, st108⟩ := stJ X105 hx hZ e105 Ar106 (j := (1 : Int32)) (inb_of (j := (1 : Int32)) S106 ⟨by decide, by decide⟩) (g := (mkF m 35 #[.val (.long q1), .second, .val (.ref a2), .val (.ref a3), .val (.long (-q1)), .second, .val (.int (1 : Int32)), .val (.long ((-q1) &&& (x1 ^^^ y1))), .second] [(.long (x1 ^^^ ((-q1) &&& (x1 ^^^ y1)))), (.int (1 : Int32)), (.ref a2)])) rfl rfl (hb hby d1_35)
  have VF_108 := Arv.set Ar106 q106 S106 N106 H106 G106 rfl W108 1 rfl (Nat.le_of_ble_eq_true rfl)
  have VG_108 := VG_105.other W108 (Ne.symm n23)
  have N108 := Fr.snoc X108 N105 gA
  have KK108 : Keep h0 h108 [a2, a3] := KK105.wr W108 (Or.inl (List.mem_of_getElem? (i := 0) rfl))
  have sz108 : n0 ≤ h108.size := Nat.le_trans sz105 (Nat.le_of_eq W108.size.symm)
  refine Go.st (U' := T108.setTop (mkF m 36 #[.val (.long q1), .second, .val (.ref a2), .val (.ref a3), .val (.long (-q1)), .second, .val (.int (1 : Int32)), .val (.long ((-q1) &&& (x1 ^^^ y1))), .second] [])) (fun t k => st108 _ k) ?_
  obtain ⟨cl109, Ar109, q109, S109, N109, H109, G109⟩ := id VG_108
  refine Go.st (U' := T108.setTop (mkF m 44 #[.val (.long q1), .second, .val (.ref a2), .val (.ref a3), .val (.long (-q1)), .second, .val (.int (1 : Int32)), .val (.long ((-q1) &&& (x1 ^^^ y1))), .second] [(.long (y1 ^^^ ((-q1) &&& (x1 ^^^ y1)))), (.int (1 : Int32)), (.ref a3)])) (fun t k => ?_) ?_
  · show Steps p.tables e below (T108.setTop (mkF m 36 #[.val (.long q1), .second, .val (.ref a2), .val (.ref a3), .val (.long (-q1)), .second, .val (.int (1 : Int32)), .val (.long ((-q1) &&& (x1 ^^^ y1))), .second] [])) _
    refine XS.aloadN X108.here hx rfl (hb hby d1_36) rfl rfl ?_
    show Steps p.tables e below (T108.setTop (mkF m 37 #[.val (.long q1), .second, .val (.ref a2), .val (.ref a3), .val (.long (-q1)), .second, .val (.int (1 : Int32)), .val (.long ((-q1) &&& (x1 ^^^ y1))), .second] [(.ref a3)])) _
    refine XS.iload X108.here hx rfl (hb hby d1_37) rfl ?_
    show Steps p.tables e below (T108.setTop (mkF m 39 #[.val (.long q1), .second, .val (.ref a2), .val (.ref a3), .val (.long (-q1)), .second, .val (.int (1 : Int32)), .val (.long ((-q1) &&& (x1 ^^^ y1))), .second] [(.int (1 : Int32)), (.ref a3)])) _
    refine Jvm.Free.XT.dup2 X108.here hx rfl (hb hby d1_39) rfl rfl rfl ?_
    show Steps p.tables e below (T108.setTop (mkF m 40 #[.val (.long q1), .second, .val (.ref a2), .val (.ref a3), .val (.long (-q1)), .second, .val (.int (1 : Int32)), .val (.long ((-q1) &&& (x1 ^^^ y1))), .second] [(.int (1 : Int32)), (.ref a3), (.int (1 : Int32)), (.ref a3)])) _
    refine X108.laload hx (j := (1 : Int32)) (v := (.long y1)) (by rw [e108]; exact Ar109.1) (State.isArrayOf_alike hZ.alike Ar109.2.1) Ar109.2.2 (inb_of (j := (1 : Int32)) S109 ⟨by decide, by decide⟩) (Has.at H109 (inb_of (j := (1 : Int32)) S109 ⟨by decide, by decide⟩) rfl) (g := (mkF m 40 #[.val (.long q1), .second, .val (.ref a2), .val (.ref a3), .val (.long (-q1)), .second, .val (.int (1 : Int32)), .val (.long ((-q1) &&& (x1 ^^^ y1))), .second] [(.int (1 : Int32)), (.ref a3), (.int (1 : Int32)), (.ref a3)])) rfl rfl (hb hby d1_40) _ ?_
    show Steps p.tables e below (T108.setTop (mkF m 41 #[.val (.long q1), .second, .val (.ref a2), .val (.ref a3), .val (.long (-q1)), .second, .val (.int (1 : Int32)), .val (.long ((-q1) &&& (x1 ^^^ y1))), .second] [(.long y1), (.int (1 : Int32)), (.ref a3)])) _
    refine XS.lload X108.here hx rfl (hb hby d1_41) rfl ?_
    show Steps p.tables e below (T108.setTop (mkF m 43 #[.val (.long q1), .second, .val (.ref a2), .val (.ref a3), .val (.long (-q1)), .second, .val (.int (1 : Int32)), .val (.long ((-q1) &&& (x1 ^^^ y1))), .second] [(.long ((-q1) &&& (x1 ^^^ y1))), (.long y1), (.int (1 : Int32)), (.ref a3)])) _
    refine XS.lxor X108.here hx rfl (hb hby d1_43) rfl ?_
    exact k
  obtain ⟨T110, h110, X110, e110, W110, st110⟩ := stJ X108 hx hZ e108 Ar109 (j := (1 : Int32)) (inb_of (j := (1 : Int32)) S109 ⟨by decide, by decide⟩) (g := (mkF m 44 #[.val (.long q1), .second, .val (.ref a2), .val (.ref a3), .val (.long (-q1)), .second, .val (.int (1 : Int32)), .val (.long ((-q1) &&& (x1 ^^^ y1))), .second] [(.long (y1 ^^^ ((-q1) &&& (x1 ^^^ y1)))), (.int (1 : Int32)), (.ref a3)])) rfl rfl (hb hby d1_44)
  have VG_110 := Arv.set Ar109 q109 S109 N109 H109 G109 rfl W110 1 rfl (Nat.le_of_ble_eq_true rfl)
  have VF_110 := VF_108.other W110 n23
  have N110 := Fr.snoc X110 N108 gB
  have KK110 : Keep h0 h110 [a2, a3] := KK108.wr W110 (Or.inl (List.mem_of_getElem? (i := 1) rfl))
  have sz110 : n0 ≤ h110.size := Nat.le_trans sz108 (Nat.le_of_eq W110.size.symm)
  refine Go.st (U' := T110.setTop (mkF m 45 #[.val (.long q1), .second, .val (.ref a2), .val (.ref a3), .val (.long (-q1)), .second, .val (.int (1 : Int32)), .val (.long ((-q1) &&& (x1 ^^^ y1))), .second] [])) (fun t k => st110 _ k) ?_
  obtain ⟨cl111, Ar111, q111, S111, N111, H111, G111⟩ := id VF_110
  obtain ⟨cl112, Ar112, q112, S112, N112, H112, G112⟩ := id VG_110
  refine Go.st (U' := T110.setTop (mkF m 35 #[.val (.long q1), .second, .val (.ref a2), .val (.ref a3), .val (.long (-q1)), .second, .val (.int (2 : Int32)), .val (.long ((-q1) &&& (x2 ^^^ y2))), .second] [(.long (x2 ^^^ ((-q1) &&& (x2 ^^^ y2)))), (.int (2 : Int32)), (.ref a2)])) (fun t k => ?_) ?_
  · show Steps p.tables e below (T110.setTop (mkF m 45 #[.val (.long q1), .second, .val (.ref a2), .val (.ref a3), .val (.long (-q1)), .second, .val (.int (1 : Int32)), .val (.long ((-q1) &&& (x1 ^^^ y1))), .second] [])) _
    refine XS.iinc X110.here hx rfl (hb hby d1_45) rfl (l' := #[.val (.long q1), .second, .val (.ref a2), .val (.ref a3), .val (.long (-q1)), .second, .val (.int (2 : Int32)), .val (.long ((-q1) &&& (x1 ^^^ y1))), .second]) rfl ?_
    show Steps p.tables e below (T110.setTop (mkF m 48 #[.val (.long q1), .second, .val (.ref a2), .val (.ref a3), .val (.long (-q1)), .second, .val (.int (2 : Int32)), .val (.long ((-q1) &&& (x1 ^^^ y1))), .second] [])) _
    refine XS.goto X110.here hx rfl (pc0 := 48) (pc' := 7) rfl (hb hby d1_48) (by decide) (by decide) ?_
    show Steps p.tables e below (T110.setTop (mkF m 7 #[.val (.long q1), .second, .val (.ref a2), .val (.ref a3), .val (.long (-q1)), .second, .val (.int (2 : Int32)), .val (.long ((-q1) &&& (x1 ^^^ y1))), .second] [])) _
    refine XS.iload X110.here hx rfl (hb hby d1_7) rfl ?_
    show Steps p.tables e below (T110.setTop (mkF m 9 #[.val (.long q1), .second, .val (.ref a2), .val (.ref a3), .val (.long (-q1)), .second, .val (.int (2 : Int32)), .val (.long ((-q1) &&& (x1 ^^^ y1))), .second] [(.int (2 : Int32))])) _
    refine XS.iconst X110.here hx rfl (hb hby d1_9) ?_
    show Steps p.tables e below (T110.setTop (mkF m 10 #[.val (.long q1), .second, .val (.ref a2), .val (.ref a3), .val (.long (-q1)), .second, .val (.int (2 : Int32)), .val (.long ((-q1) &&& (x1 ^^^ y1))), .second] [(.int (5 : Int32)), (.int (2 : Int32))])) _
    refine XS.icmpNo X110.here hx rfl (hb hby d1_10) rfl (tlt (by decide : (2 : Int32) < (5 : Int32))).2.1 ?_
    show Steps p.tables e below (T110.setTop (mkF m 13 #[.val (.long q1), .second, .val (.ref a2), .val (.ref a3), .val (.long (-q1)), .second, .val (.int (2 : Int32)), .val (.long ((-q1) &&& (x1 ^^^ y1))), .second] [])) _
    refine XS.lload X110.here hx rfl (hb hby d1_13) rfl ?_
    show Steps p.tables e below (T110.setTop (mkF m 15 #[.val (.long q1), .second, .val (.ref a2), .val (.ref a3), .val (.long (-q1)), .second, .val (.int (2 : Int32)), .val (.long ((-q1) &&& (x1 ^^^ y1))), .second] [(.long (-q1))])) _
    refine XS.aloadN X110.here hx rfl (hb hby d1_15) rfl rfl ?_
    show Steps p.tables e below (T110.setTop (mkF m 16 #[.val (.long q1), .second, .val (.ref a2), .val (.ref a3), .val (.long (-q1)), .second, .val (.int (2 : Int32)), .val (.long ((-q1) &&& (x1 ^^^ y1))), .second] [(.ref a2), (.long (-q1))])) _
    refine XS.iload X110.here hx rfl (hb hby d1_16) rfl ?_
    show Steps p.tables e below (T110.setTop (mkF m 18 #[.val (.long q1), .second, .val (.ref a2), .val (.ref a3), .val (.long (-q1)), .second, .val (.int (2 : Int32)), .val (.long ((-q1) &&& (x1 ^^^ y1))), .second] [(.int (2 : Int32)), (.ref a2), (.long (-q1))])) _
    refine X110.laload hx (j := (2 : Int32)) (v := (.long x2)) (by rw [e110]; exact Ar111.1) (State.isArrayOf_alike hZ.alike Ar111.2.1) Ar111.2.2 (inb_of (j := (2 : Int32)) S111 ⟨by decide, by decide⟩) (Has.at H111 (inb_of (j := (2 : Int32)) S111 ⟨by decide, by decide⟩) rfl) (g := (mkF m 18 #[.val (.long q1), .second, .val (.ref a2), .val (.ref a3), .val (.long (-q1)), .second, .val (.int (2 : Int32)), .val (.long ((-q1) &&& (x1 ^^^ y1))), .second] [(.int (2 : Int32)), (.ref a2), (.long (-q1))])) rfl rfl (hb hby d1_18) _ ?_
    show Steps p.tables e below (T110.setTop (mkF m 19 #[.val (.long q1), .second, .val (.ref a2), .val (.ref a3), .val (.long (-q1)), .second, .val (.int (2 : Int32)), .val (.long ((-q1) &&& (x1 ^^^ y1))), .second] [(.long x2), (.long (-q1))])) _
    refine XS.aloadN X110.here hx rfl (hb hby d1_19) rfl rfl ?_
    show Steps p.tables e below (T110.setTop (mkF m 20 #[.val (.long q1), .second, .val (.ref a2), .val (.ref a3), .val (.long (-q1)), .second, .val (.int (2 : Int32)), .val (.long ((-q1) &&& (x1 ^^^ y1))), .second] [(.ref a3), (.long x2), (.long (-q1))])) _
    refine XS.iload X110.here hx rfl (hb hby d1_20) rfl ?_
    show Steps p.tables e below (T110.setTop (mkF m 22 #[.val (.long q1), .second, .val (.ref a2), .val (.ref a3), .val (.long (-q1)), .second, .val (.int (2 : Int32)), .val (.long ((-q1) &&& (x1 ^^^ y1))), .second] [(.int (2 : Int32)), (.ref a3), (.long x2), (.long (-q1))])) _
    refine X110.laload hx (j := (2 : Int32)) (v := (.long y2)) (by rw [e110]; exact Ar112.1) (State.isArrayOf_alike hZ.alike Ar112.2.1) Ar112.2.2 (inb_of (j := (2 : Int32)) S112 ⟨by decide, by decide⟩) (Has.at H112 (inb_of (j := (2 : Int32)) S112 ⟨by decide, by decide⟩) rfl) (g := (mkF m 22 #[.val (.long q1), .second, .val (.ref a2), .val (.ref a3), .val (.long (-q1)), .second, .val (.int (2 : Int32)), .val (.long ((-q1) &&& (x1 ^^^ y1))), .second] [(.int (2 : Int32)), (.ref a3), (.long x2), (.long (-q1))])) rfl rfl (hb hby d1_22) _ ?_
    show Steps p.tables e below (T110.setTop (mkF m 23 #[.val (.long q1), .second, .val (.ref a2), .val (.ref a3), .val (.long (-q1)), .second, .val (.int (2 : Int32)), .val (.long ((-q1) &&& (x1 ^^^ y1))), .second] [(.long y2), (.long x2), (.long (-q1))])) _
    refine XS.lxor X110.here hx rfl (hb hby d1_23) rfl ?_
    show Steps p.tables e below (T110.setTop (mkF m 24 #[.val (.long q1), .second, .val (.ref a2), .val (.ref a3), .val (.long (-q1)), .second, .val (.int (2 : Int32)), .val (.long ((-q1) &&& (x1 ^^^ y1))), .second] [(.long (x2 ^^^ y2)), (.long (-q1))])) _
    refine XS.land X110.here hx rfl (hb hby d1_24) rfl ?_
    show Steps p.tables e below (T110.setTop (mkF m 25 #[.val (.long q1), .second, .val (.ref a2), .val (.ref a3), .val (.long (-q1)), .second, .val (.int (2 : Int32)), .val (.long ((-q1) &&& (x1 ^^^ y1))), .second] [(.long ((-q1) &&& (x2 ^^^ y2)))])) _
    refine XS.lstore X110.here hx rfl (hb hby d1_25) rfl (l' := #[.val (.long q1), .second, .val (.ref a2), .val (.ref a3), .val (.long (-q1)), .second, .val (.int (2 : Int32)), .val (.long ((-q1) &&& (x2 ^^^ y2))), .second]) rfl ?_
    show Steps p.tables e below (T110.setTop (mkF m 27 #[.val (.long q1), .second, .val (.ref a2), .val (.ref a3), .val (.long (-q1)), .second, .val (.int (2 : Int32)), .val (.long ((-q1) &&& (x2 ^^^ y2))), .second] [])) _
    refine XS.aloadN X110.here hx rfl (hb hby d1_27) rfl rfl ?_
    show Steps p.tables e below (T110.setTop (mkF m 28 #[.val (.long q1), .second, .val (.ref a2), .val (.ref a3), .val (.long (-q1)), .second, .val (.int (2 : Int32)), .val (.long ((-q1) &&& (x2 ^^^ y2))), .second] [(.ref a2)])) _
    refine XS.iload X110.here hx rfl (hb hby d1_28) rfl ?_
    show Steps p.tables e below (T110.setTop (mkF m 30 #[.val (.long q1), .second, .val (.ref a2), .val (.ref a3), .val (.long (-q1)), .second, .val (.int (2 : Int32)), .val (.long ((-q1) &&& (x2 ^^^ y2))), .second] [(.int (2 : Int32)), (.ref a2)])) _
    refine Jvm.Free.XT.dup2 X110.here hx rfl (hb hby d1_30) rfl rfl rfl ?_
    show Steps p.tables e below (T110.setTop (mkF m 31 #[.val (.long q1), .second, .val (.ref a2), .val (.ref a3), .val (.long (-q1)), .second, .val (.int (2 : Int32)), .val (.long ((-q1) &&& (x2 ^^^ y2))), .second] [(.int (2 : Int32)), (.ref a2), (.int (2 : Int32)), (.ref a2)])) _
    refine X110.laload hx (j := (2 : Int32)) (v := (.long x2)) (by rw [e110]; exact Ar111.1) (State.isArrayOf_alike hZ.alike Ar111.2.1) Ar111.2.2 (inb_of (j := (2 : Int32)) S111 ⟨by decide, by decide⟩) (Has.at H111 (inb_of (j := (2 : Int32)) S111 ⟨by decide, by decide⟩) rfl) (g := (mkF m 31 #[.val (.long q1), .second, .val (.ref a2), .val (.ref a3), .val (.long (-q1)), .second, .val (.int (2 : Int32)), .val (.long ((-q1) &&& (x2 ^^^ y2))), .second] [(.int (2 : Int32)), (.ref a2), (.int (2 : Int32)), (.ref a2)])) rfl rfl (hb hby d1_31) _ ?_
    show Steps p.tables e below (T110.setTop (mkF m 32 #[.val (.long q1), .second, .val (.ref a2), .val (.ref a3), .val (.long (-q1)), .second, .val (.int (2 : Int32)), .val (.long ((-q1) &&& (x2 ^^^ y2))), .second] [(.long x2), (.int (2 : Int32)), (.ref a2)])) _
    refine XS.lload X110.here hx rfl (hb hby d1_32) rfl ?_
    show Steps p.tables e below (T110.setTop (mkF m 34 #[.val (.long q1), .second, .val (.ref a2), .val (.ref a3), .val (.long (-q1)), .second, .val (.int (2 : Int32)), .val (.long ((-q1) &&& (x2 ^^^ y2))), .second] [(.long ((-q1) &&& (x2 ^^^ y2))), (.long x2), (.int (2 : Int32)), (.ref a2)])) _
    refine XS.lxor X110.here hx rfl (hb hby d1_34) rfl ?_
    exact k
  obtain ⟨T113, h113, X113, e113, W113, st113⟩ := stJ X110 hx hZ e110 Ar111 (j := (2 : Int32)) (inb_of (j := (2 : Int32)) S111 ⟨by decide, by decide⟩) (g := (mkF m 35 #[.val (.long q1), .second, .val (.ref a2), .val (.ref a3), .val (.long (-q1)), .second, .val (.int (2 : Int32)), .val (.long ((-q1) &&& (x2 ^^^ y2))), .second] [(.long (x2 ^^^ ((-q1) &&& (x2 ^^^ y2)))), (.int (2 : Int32)), (.ref a2)])) rfl rfl (hb hby d1_35)
  have VF_113 := Arv.set Ar111 q111 S111 N111 H111 G111 rfl W113 2 rfl (Nat.le_of_ble_eq_true rfl)
  have VG_113 := VG_110.other W113 (Ne.symm n23)
  have N113 := Fr.snoc X113 N110 gA
  have KK113 : Keep h0 h113 [a2, a3] := KK110.wr W113 (Or.inl (List.mem_of_getElem? (i := 0) rfl))
  have sz113 : n0 ≤ h113.size := Nat.le_trans sz110 (Nat.le_of_eq W113.size.symm)
  refine Go.st (U' := T113.setTop (mkF m 36 #[.val (.long q1), .second, .val (.ref a2), .val (.ref a3), .val (.long (-q1)), .second, .val (.int (2 : Int32)), .val (.long ((-q1) &&& (x2 ^^^ y2))), .second] [])) (fun t k => st113 _ k) ?_
  obtain ⟨cl114, Ar114, q114, S114, N114, H114, G114⟩ := id VG_113
  refine Go.st (U' := T113.setTop (mkF m 44 #[.val (.long q1), .second, .val (.ref a2), .val (.ref a3), .val (.long (-q1)), .second, .val (.int (2 : Int32)), .val (.long ((-q1) &&& (x2 ^^^ y2))), .second] [(.long (y2 ^^^ ((-q1) &&& (x2 ^^^ y2)))), (.int (2 : Int32)), (.ref a3)])) (fun t k => ?_) ?_
  · show Steps p.tables e below (T113.setTop (mkF m 36 #[.val (.long q1), .second, .val (.ref a2), .val (.ref a3), .val (.long (-q1)), .second, .val (.int (2 : Int32)), .val (.long ((-q1) &&& (x2 ^^^ y2))), .second] [])) _
    refine XS.aloadN X113.here hx rfl (hb hby d1_36) rfl rfl ?_
    show Steps p.tables e below (T113.setTop (mkF m 37 #[.val (.long q1), .second, .val (.ref a2), .val (.ref a3), .val (.long (-q1)), .second, .val (.int (2 : Int32)), .val (.long ((-q1) &&& (x2 ^^^ y2))), .second] [(.ref a3)])) _
    refine XS.iload X113.here hx rfl (hb hby d1_37) rfl ?_
    show Steps p.tables e below (T113.setTop (mkF m 39 #[.val (.long q1), .second, .val (.ref a2), .val (.ref a3), .val (.long (-q1)), .second, .val (.int (2 : Int32)), .val (.long ((-q1) &&& (x2 ^^^ y2))), .second] [(.int (2 : Int32)), (.ref a3)])) _
    refine Jvm.Free.XT.dup2 X113.here hx rfl (hb hby d1_39) rfl rfl rfl ?_
    show Steps p.tables e below (T113.setTop (mkF m 40 #[.val (.long q1), .second, .val (.ref a2), .val (.ref a3), .val (.long (-q1)), .second, .val (.int (2 : Int32)), .val (.long ((-q1) &&& (x2 ^^^ y2))), .second] [(.int (2 : Int32)), (.ref a3), (.int (2 : Int32)), (.ref a3)])) _
    refine X113.laload hx (j := (2 : Int32)) (v := (.long y2)) (by rw [e113]; exact Ar114.1) (State.isArrayOf_alike hZ.alike Ar114.2.1) Ar114.2.2 (inb_of (j := (2 : Int32)) S114 ⟨by decide, by decide⟩) (Has.at H114 (inb_of (j := (2 : Int32)) S114 ⟨by decide, by decide⟩) rfl) (g := (mkF m 40 #[.val (.long q1), .second, .val (.ref a2), .val (.ref a3), .val (.long (-q1)), .second, .val (.int (2 : Int32)), .val (.long ((-q1) &&& (x2 ^^^ y2))), .second] [(.int (2 : Int32)), (.ref a3), (.int (2 : Int32)), (.ref a3)])) rfl rfl (hb hby d1_40) _ ?_
    show Steps p.tables e below (T113.setTop (mkF m 41 #[.val (.long q1), .second, .val (.ref a2), .val (.ref a3), .val (.long (-q1)), .second, .val (.int (2 : Int32)), .val (.long ((-q1) &&& (x2 ^^^ y2))), .second] [(.long y2), (.int (2 : Int32)), (.ref a3)])) _
    refine XS.lload X113.here hx rfl (hb hby d1_41) rfl ?_
    show Steps p.tables e below (T113.setTop (mkF m 43 #[.val (.long q1), .second, .val (.ref a2), .val (.ref a3), .val (.long (-q1)), .second, .val (.int (2 : Int32)), .val (.long ((-q1) &&& (x2 ^^^ y2))), .second] [(.long ((-q1) &&& (x2 ^^^ y2))), (.long y2), (.int (2 : Int32)), (.ref a3)])) _
    refine XS.lxor X113.here hx rfl (hb hby d1_43) rfl ?_
    exact k
  obtain ⟨T115, h115, X115, e115, W115, st115⟩ := stJ X113 hx hZ e113 Ar114 (j := (2 : Int32)) (inb_of (j := (2 : Int32)) S114 ⟨by decide, by decide⟩) (g := (mkF m 44 #[.val (.long q1), .second, .val (.ref a2), .val (.ref a3), .val (.long (-q1)), .second, .val (.int (2 : Int32)), .val (.long ((-q1) &&& (x2 ^^^ y2))), .second] [(.long (y2 ^^^ ((-q1) &&& (x2 ^^^ y2)))), (.int (2 : Int32)), (.ref a3)])) rfl rfl (hb hby d1_44)
  have VG_115 := Arv.set Ar114 q114 S114 N114 H114 G114 rfl W115 2 rfl (Nat.le_of_ble_eq_true rfl)
  have VF_115 := VF_113.other W115 n23
  have N115 := Fr.snoc X115 N113 gB
  have KK115 : Keep h0 h115 [a2, a3] := KK113.wr W115 (Or.inl (List.mem_of_getElem? (i := 1) rfl))
  have sz115 : n0 ≤ h115.size := Nat.le_trans sz113 (Nat.le_of_eq W115.size.symm)
  refine Go.st (U' := T115.setTop (mkF m 45 #[.val (.long q1), .second, .val (.ref a2), .val (.ref a3), .val (.long (-q1)), .second, .val (.int (2 : Int32)), .val (.long ((-q1) &&& (x2 ^^^ y2))), .second] [])) (fun t k => st115 _ k) ?_
  obtain ⟨cl116, Ar116, q116, S116, N116, H116, G116⟩ := id VF_115
  obtain ⟨cl117, Ar117, q117, S117, N117, H117, G117⟩ := id VG_115
  refine Go.st (U' := T115.setTop (mkF m 35 #[.val (.long q1), .second, .val (.ref a2), .val (.ref a3), .val (.long (-q1)), .second, .val (.int (3 : Int32)), .val (.long ((-q1) &&& (x3 ^^^ y3))), .second] [(.long (x3 ^^^ ((-q1) &&& (x3 ^^^ y3)))), (.int (3 : Int32)), (.ref a2)])) (fun t k => ?_) ?_
  · show Steps p.tables e below (T115.setTop (mkF m 45 #[.val (.long q1), .second, .val (.ref a2), .val (.ref a3), .val (.long (-q1)), .second, .val (.int (2 : Int32)), .val (.long ((-q1) &&& (x2 ^^^ y2))), .second] [])) _
    refine XS.iinc X115.here hx rfl (hb hby d1_45) rfl (l' := #[.val (.long q1), .second, .val (.ref a2), .val (.ref a3), .val (.long (-q1)), .second, .val (.int (3 : Int32)), .val (.long ((-q1) &&& (x2 ^^^ y2))), .second]) rfl ?_
    show Steps p.tables e below (T115.setTop (mkF m 48 #[.val (.long q1), .second, .val (.ref a2), .val (.ref a3), .val (.long (-q1)), .second, .val (.int (3 : Int32)), .val (.long ((-q1) &&& (x2 ^^^ y2))), .second] [])) _
    refine XS.goto X115.here hx rfl (pc0 := 48) (pc' := 7) rfl (hb hby d1_48) (by decide) (by decide) ?_
    show Steps p.tables e below (T115.setTop (mkF m 7 #[.val (.long q1), .second, .val (.ref a2), .val (.ref a3), .val (.long (-q1)), .second, .val (.int (3 : Int32)), .val (.long ((-q1) &&& (x2 ^^^ y2))), .second] [])) _
    refine XS.iload X115.here hx rfl (hb hby d1_7) rfl ?_
    show Steps p.tables e below (T115.setTop (mkF m 9 #[.val (.long q1), .second, .val (.ref a2), .val (.ref a3), .val (.long (-q1)), .second, .val (.int (3 : Int32)), .val (.long ((-q1) &&& (x2 ^^^ y2))), .second] [(.int (3 : Int32))])) _
    refine XS.iconst X115.here hx rfl (hb hby d1_9) ?_
    show Steps p.tables e below (T115.setTop (mkF m 10 #[.val (.long q1), .second, .val (.ref a2), .val (.ref a3), .val (.long (-q1)), .second, .val (.int (3 : Int32)), .val (.long ((-q1) &&& (x2 ^^^ y2))), .second] [(.int (5 : Int32)), (.int (3 : Int32))])) _
    refine XS.icmpNo X115.here hx rfl (hb hby d1_10) rfl (tlt (by decide : (3 : Int32) < (5 : Int32))).2.1 ?_
    show Steps p.tables e below (T115.setTop (mkF m 13 #[.val (.long q1), .second, .val (.ref a2), .val (.ref a3), .val (.long (-q1)), .second, .val (.int (3 : Int32)), .val (.long ((-q1) &&& (x2 ^^^ y2))), .second] [])) _
    refine XS.lload X115.here hx rfl (hb hby d1_13) rfl ?_
    show Steps p.tables e below (T115.setTop (mkF m 15 #[.val (.long q1), .second, .val (.ref a2), .val (.ref a3), .val (.long (-q1)), .second, .val (.int (3 : Int32)), .val (.long ((-q1) &&& (x2 ^^^ y2))), .second] [(.long (-q1))])) _
    refine XS.aloadN X115.here hx rfl (hb hby d1_15) rfl rfl ?_
    show Steps p.tables e below (T115.setTop (mkF m 16 #[.val (.long q1), .second, .val (.ref a2), .val (.ref a3), .val (.long (-q1)), .second, .val (.int (3 : Int32)), .val (.long ((-q1) &&& (x2 ^^^ y2))), .second] [(.ref a2), (.long (-q1))])) _
    refine XS.iload X115.here hx rfl (hb hby d1_16) rfl ?_
    show Steps p.tables e below (T115.setTop (mkF m 18 #[.val (.long q1), .second, .val (.ref a2), .val (.ref a3), .val (.long (-q1)), .second, .val (.int (3 : Int32)), .val (.long ((-q1) &&& (x2 ^^^ y2))), .second] [(.int (3 : Int32)), (.ref a2), (.long (-q1))])) _
    refine X115.laload hx (j := (3 : Int32)) (v := (.long x3)) (by rw [e115]; exact Ar116.1) (State.isArrayOf_alike hZ.alike Ar116.2.1) Ar116.2.2 (inb_of (j := (3 : Int32)) S116 ⟨by decide, by decide⟩) (Has.at H116 (inb_of (j := (3 : Int32)) S116 ⟨by decide, by decide⟩) rfl) (g := (mkF m 18 #[.val (.long q1), .second, .val (.ref a2), .val (.ref a3), .val (.long (-q1)), .second, .val (.int (3 : Int32)), .val (.long ((-q1) &&& (x2 ^^^ y2))), .second] [(.int (3 : Int32)), (.ref a2), (.long (-q1))])) rfl rfl (hb hby d1_18) _ ?_
    show Steps p.tables e below (T115.setTop (mkF m 19 #[.val (.long q1), .second, .val (.ref a2), .val (.ref a3), .val (.long (-q1)), .second, .val (.int (3 : Int32)), .val (.long ((-q1) &&& (x2 ^^^ y2))), .second] [(.long x3), (.long (-q1))])) _
    refine XS.aloadN X115.here hx rfl (hb hby d1_19) rfl rfl ?_
    show Steps p.tables e below (T115.setTop (mkF m 20 #[.val (.long q1), .second, .val (.ref a2), .val (.ref a3), .val (.long (-q1)), .second, .val (.int (3 : Int32)), .val (.long ((-q1) &&& (x2 ^^^ y2))), .second] [(.ref a3), (.long x3), (.long (-q1))])) _
    refine XS.iload X115.here hx rfl (hb hby d1_20) rfl ?_
    show Steps p.tables e below (T115.setTop (mkF m 22 #[.val (.long q1), .second, .val (.ref a2), .val (.ref a3), .val (.long (-q1)), .second, .val (.int (3 : Int32)), .val (.long ((-q1) &&& (x2 ^^^ y2))), .second] [(.int (3 : Int32)), (.ref a3), (.long x3), (.long (-q1))])) _
    refine X115.laload hx (j := (3 : Int32)) (v := (.long y3)) (by rw [e115]; exact Ar117.1) (State.isArrayOf_alike hZ.alike Ar117.2.1) Ar117.2.2 (inb_of (j := (3 : Int32)) S117 ⟨by decide, by decide⟩) (Has.at H117 (inb_of (j := (3 : Int32)) S117 ⟨by decide, by decide⟩) rfl) (g := (mkF m 22 #[.val (.long q1), .second, .val (.ref a2), .val (.ref a3), .val (.long (-q1)), .second, .val (.int (3 : Int32)), .val (.long ((-q1) &&& (x2 ^^^ y2))), .second] [(.int (3 : Int32)), (.ref a3), (.long x3), (.long (-q1))])) rfl rfl (hb hby d1_22) _ ?_
    show Steps p.tables e below (T115.setTop (mkF m 23 #[.val (.long q1), .second, .val (.ref a2), .val (.ref a3), .val (.long (-q1)), .second, .val (.int (3 : Int32)), .val (.long ((-q1) &&& (x2 ^^^ y2))), .second] [(.long y3), (.long x3), (.long (-q1))])) _
    refine XS.lxor X115.here hx rfl (hb hby d1_23) rfl ?_
    show Steps p.tables e below (T115.setTop (mkF m 24 #[.val (.long q1), .second, .val (.ref a2), .val (.ref a3), .val (.long (-q1)), .second, .val (.int (3 : Int32)), .val (.long ((-q1) &&& (x2 ^^^ y2))), .second] [(.long (x3 ^^^ y3)), (.long (-q1))])) _
    refine XS.land X115.here hx rfl (hb hby d1_24) rfl ?_
    show Steps p.tables e below (T115.setTop (mkF m 25 #[.val (.long q1), .second, .val (.ref a2), .val (.ref a3), .val (.long (-q1)), .second, .val (.int (3 : Int32)), .val (.long ((-q1) &&& (x2 ^^^ y2))), .second] [(.long ((-q1) &&& (x3 ^^^ y3)))])) _
    refine XS.lstore X115.here hx rfl (hb hby d1_25) rfl (l' := #[.val (.long q1), .second, .val (.ref a2), .val (.ref a3), .val (.long (-q1)), .second, .val (.int (3 : Int32)), .val (.long ((-q1) &&& (x3 ^^^ y3))), .second]) rfl ?_
    show Steps p.tables e below (T115.setTop (mkF m 27 #[.val (.long q1), .second, .val (.ref a2), .val (.ref a3), .val (.long (-q1)), .second, .val (.int (3 : Int32)), .val (.long ((-q1) &&& (x3 ^^^ y3))), .second] [])) _
    refine XS.aloadN X115.here hx rfl (hb hby d1_27) rfl rfl ?_
    show Steps p.tables e below (T115.setTop (mkF m 28 #[.val (.long q1), .second, .val (.ref a2), .val (.ref a3), .val (.long (-q1)), .second, .val (.int (3 : Int32)), .val (.long ((-q1) &&& (x3 ^^^ y3))), .second] [(.ref a2)])) _
    refine XS.iload X115.here hx rfl (hb hby d1_28) rfl ?_
    show Steps p.tables e below (T115.setTop (mkF m 30 #[.val (.long q1), .second, .val (.ref a2), .val (.ref a3), .val (.long (-q1)), .second, .val (.int (3 : Int32)), .val (.long ((-q1) &&& (x3 ^^^ y3))), .second] [(.int (3 : Int32)), (.ref a2)])) _
    refine Jvm.Free.XT.dup2 X115.here hx rfl (hb hby d1_30) rfl rfl rfl ?_
    show Steps p.tables e below (T115.setTop (mkF m 31 #[.val (.long q1), .second, .val (.ref a2), .val (.ref a3), .val (.long (-q1)), .second, .val (.int (3 : Int32)), .val (.long ((-q1) &&& (x3 ^^^ y3))), .second] [(.int (3 : Int32)), (.ref a2), (.int (3 : Int32)), (.ref a2)])) _
    refine X115.laload hx (j := (3 : Int32)) (v := (.long x3)) (by rw [e115]; exact Ar116.1) (State.isArrayOf_alike hZ.alike Ar116.2.1) Ar116.2.2 (inb_of (j := (3 : Int32)) S116 ⟨by decide, by decide⟩) (Has.at H116 (inb_of (j := (3 : Int32)) S116 ⟨by decide, by decide⟩) rfl) (g := (mkF m 31 #[.val (.long q1), .second, .val (.ref a2), .val (.ref a3), .val (.long (-q1)), .second, .val (.int (3 : Int32)), .val (.long ((-q1) &&& (x3 ^^^ y3))), .second] [(.int (3 : Int32)), (.ref a2), (.int (3 : Int32)), (.ref a2)])) rfl rfl (hb hby d1_31) _ ?_
    show Steps p.tables e below (T115.setTop (mkF m 32 #[.val (.long q1), .second, .val (.ref a2), .val (.ref a3), .val (.long (-q1)), .second, .val (.int (3 : Int32)), .val (.long ((-q1) &&& (x3 ^^^ y3))), .second] [(.long x3), (.int (3 : Int32)), (.ref a2)])) _
    refine XS.lload X115.here hx rfl (hb hby d1_32) rfl ?_
    show Steps p.tables e below (T115.setTop (mkF m 34 #[.val (.long q1), .second, .val (.ref a2), .val (.ref a3), .val (.long (-q1)), .second, .val (.int (3 : Int32)), .val (.long ((-q1) &&& (x3 ^^^ y3))), .second] [(.long ((-q1) &&& (x3 ^^^ y3))), (.long x3), (.int (3 : Int32)), (.ref a2)])) _
    refine XS.lxor X115.here hx rfl (hb hby d1_34) rfl ?_
    exact k
  obtain ⟨T118, h118, X118, e118, W118, st118⟩ := stJ X115 hx hZ e115 Ar116 (j := (3 : Int32)) (inb_of (j := (3 : Int32)) S116 ⟨by decide, by decide⟩) (g := (mkF m 35 #[.val (.long q1), .second, .val (.ref a2), .val (.ref a3), .val (.long (-q1)), .second, .val (.int (3 : Int32)), .val (.long ((-q1) &&& (x3 ^^^ y3))), .second] [(.long (x3 ^^^ ((-q1) &&& (x3 ^^^ y3)))), (.int (3 : Int32)), (.ref a2)])) rfl rfl (hb hby d1_35)
  have VF_118 := Arv.set Ar116 q116 S116 N116 H116 G116 rfl W118 3 rfl (Nat.le_of_ble_eq_true rfl)
  have VG_118 := VG_115.other W118 (Ne.symm n23)
  have N118 := Fr.snoc X118 N115 gA
  have KK118 : Keep h0 h118 [a2, a3] := KK115.wr W118 (Or.inl (List.mem_of_getElem? (i := 0) rfl))
  have sz118 : n0 ≤ h118.size := Nat.le_trans sz115 (Nat.le_of_eq W118.size.symm)
  refine Go.st (U' := T118.setTop (mkF m 36 #[.val (.long q1), .second, .val (.ref a2), .val (.ref a3), .val (.long (-q1)), .second, .val (.int (3 : Int32)), .val (.long ((-q1) &&& (x3 ^^^ y3))), .second] [])) (fun t k => st118 _ k) ?_
  obtain ⟨cl119, Ar119, q119, S119, N119, H119, G119⟩ := id VG_118
  refine Go.st (U' := T118.setTop (mkF m 44 #[.val (.long q1), .second, .val (.ref a2), .val (.ref a3), .val (.long (-q1)), .second, .val (.int (3 : Int32)), .val (.long ((-q1) &&& (x3 ^^^ y3))), .second] [(.long (y3 ^^^ ((-q1) &&& (x3 ^^^ y3)))), (.int (3 : Int32)), (.ref a3)])) (fun t k => ?_) ?_
  · show Steps p.tables e below (T118.setTop (mkF m 36 #[.val (.long q1), .second, .val (.ref a2), .val (.ref a3), .val (.long (-q1)), .second, .val (.int (3 : Int32)), .val (.long ((-q1) &&& (x3 ^^^ y3))), .second] [])) _
    refine XS.aloadN X118.here hx rfl (hb hby d1_36) rfl rfl ?_
    show Steps p.tables e below (T118.setTop (mkF m 37 #[.val (.long q1), .second, .val (.ref a2), .val (.ref a3), .val (.long (-q1)), .second, .val (.int (3 : Int32)), .val (.long ((-q1) &&& (x3 ^^^ y3))), .second] [(.ref a3)])) _
    refine XS.iload X118.here hx rfl (hb hby d1_37) rfl ?_
    show Steps p.tables e below (T118.setTop (mkF m 39 #[.val (.long q1), .second, .val (.ref a2), .val (.ref a3), .val (.long (-q1)), .second, .val (.int (3 : Int32)), .val (.long ((-q1) &&& (x3 ^^^ y3))), .second] [(.int (3 : Int32)), (.ref a3)])) _
    refine Jvm.Free.XT.dup2 X118.here hx rfl (hb hby d1_39) rfl rfl rfl ?_
    show Steps p.tables e below (T118.setTop (mkF m 40 #[.val (.long q1), .second, .val (.ref a2), .val (.ref a3), .val (.long (-q1)), .second, .val (.int (3 : Int32)), .val (.long ((-q1) &&& (x3 ^^^ y3))), .second] [(.int (3 : Int32)), (.ref a3), (.int (3 : Int32)), (.ref a3)])) _
    refine X118.laload hx (j := (3 : Int32)) (v := (.long y3)) (by rw [e118]; exact Ar119.1) (State.isArrayOf_alike hZ.alike Ar119.2.1) Ar119.2.2 (inb_of (j := (3 : Int32)) S119 ⟨by decide, by decide⟩) (Has.at H119 (inb_of (j := (3 : Int32)) S119 ⟨by decide, by decide⟩) rfl) (g := (mkF m 40 #[.val (.long q1), .second, .val (.ref a2), .val (.ref a3), .val (.long (-q1)), .second, .val (.int (3 : Int32)), .val (.long ((-q1) &&& (x3 ^^^ y3))), .second] [(.int (3 : Int32)), (.ref a3), (.int (3 : Int32)), (.ref a3)])) rfl rfl (hb hby d1_40) _ ?_
    show Steps p.tables e below (T118.setTop (mkF m 41 #[.val (.long q1), .second, .val (.ref a2), .val (.ref a3), .val (.long (-q1)), .second, .val (.int (3 : Int32)), .val (.long ((-q1) &&& (x3 ^^^ y3))), .second] [(.long y3), (.int (3 : Int32)), (.ref a3)])) _
    refine XS.lload X118.here hx rfl (hb hby d1_41) rfl ?_
    show Steps p.tables e below (T118.setTop (mkF m 43 #[.val (.long q1), .second, .val (.ref a2), .val (.ref a3), .val (.long (-q1)), .second, .val (.int (3 : Int32)), .val (.long ((-q1) &&& (x3 ^^^ y3))), .second] [(.long ((-q1) &&& (x3 ^^^ y3))), (.long y3), (.int (3 : Int32)), (.ref a3)])) _
    refine XS.lxor X118.here hx rfl (hb hby d1_43) rfl ?_
    exact k
  obtain ⟨T120, h120, X120, e120, W120, st120⟩ := stJ X118 hx hZ e118 Ar119 (j := (3 : Int32)) (inb_of (j := (3 : Int32)) S119 ⟨by decide, by decide⟩) (g := (mkF m 44 #[.val (.long q1), .second, .val (.ref a2), .val (.ref a3), .val (.long (-q1)), .second, .val (.int (3 : Int32)), .val (.long ((-q1) &&& (x3 ^^^ y3))), .second] [(.long (y3 ^^^ ((-q1) &&& (x3 ^^^ y3)))), (.int (3 : Int32)), (.ref a3)])) rfl rfl (hb hby d1_44)
  have VG_120 := Arv.set Ar119 q119 S119 N119 H119 G119 rfl W120 3 rfl (Nat.le_of_ble_eq_true rfl)
  have VF_120 := VF_118.other W120 n23
  have N120 := Fr.snoc X120 N118 gB
  have KK120 : Keep h0 h120 [a2, a3] := KK118.wr W120 (Or.inl (List.mem_of_getElem? (i := 1) rfl))
  have sz120 : n0 ≤ h120.size := Nat.le_trans sz118 (Nat.le_of_eq W120.size.symm)
  refine Go.st (U' := T120.setTop (mkF m 45 #[.val (.long q1), .second, .val (.ref a2), .val (.ref a3), .val (.long (-q1)), .second, .val (.int (3 : Int32)), .val (.long ((-q1) &&& (x3 ^^^ y3))), .second] [])) (fun t k => st120 _ k) ?_
  obtain ⟨cl121, Ar121, q121, S121, N121, H121, G121⟩ := id VF_120
  obtain ⟨cl122, Ar122, q122, S122, N122, H122, G122⟩ := id VG_120
  refine Go.st (U' := T120.setTop (mkF m 35 #[.val (.long q1), .second, .val (.ref a2), .val (.ref a3), .val (.long (-q1)), .second, .val (.int (4 : Int32)), .val (.long ((-q1) &&& (x4 ^^^ y4))), .second] [(.long (x4 ^^^ ((-q1) &&& (x4 ^^^ y4)))), (.int (4 : Int32)), (.ref a2)])) (fun t k => ?_) ?_
  · show Steps p.tables e below (T120.setTop (mkF m 45 #[.val (.long q1), .second, .val (.ref a2), .val (.ref a3), .val (.long (-q1)), .second, .val (.int (3 : Int32)), .val (.long ((-q1) &&& (x3 ^^^ y3))), .second] [])) _
    refine XS.iinc X120.here hx rfl (hb hby d1_45) rfl (l' := #[.val (.long q1), .second, .val (.ref a2), .val (.ref a3), .val (.long (-q1)), .second, .val (.int (4 : Int32)), .val (.long ((-q1) &&& (x3 ^^^ y3))), .second]) rfl ?_
    show Steps p.tables e below (T120.setTop (mkF m 48 #[.val (.long q1), .second, .val (.ref a2), .val (.ref a3), .val (.long (-q1)), .second, .val (.int (4 : Int32)), .val (.long ((-q1) &&& (x3 ^^^ y3))), .second] [])) _
    refine XS.goto X120.here hx rfl (pc0 := 48) (pc' := 7) rfl (hb hby d1_48) (by decide) (by decide) ?_
    show Steps p.tables e below (T120.setTop (mkF m 7 #[.val (.long q1), .second, .val (.ref a2), .val (.ref a3), .val (.long (-q1)), .second, .val (.int (4 : Int32)), .val (.long ((-q1) &&& (x3 ^^^ y3))), .second] [])) _
    refine XS.iload X120.here hx rfl (hb hby d1_7) rfl ?_
    show Steps p.tables e below (T120.setTop (mkF m 9 #[.val (.long q1), .second, .val (.ref a2), .val (.ref a3), .val (.long (-q1)), .second, .val (.int (4 : Int32)), .val (.long ((-q1) &&& (x3 ^^^ y3))), .second] [(.int (4 : Int32))])) _
    refine XS.iconst X120.here hx rfl (hb hby d1_9) ?_
    show Steps p.tables e below (T120.setTop (mkF m 10 #[.val (.long q1), .second, .val (.ref a2), .val (.ref a3), .val (.long (-q1)), .second, .val (.int (4 : Int32)), .val (.long ((-q1) &&& (x3 ^^^ y3))), .second] [(.int (5 : Int32)), (.int (4 : Int32))])) _
    refine XS.icmpNo X120.here hx rfl (hb hby d1_10) rfl (tlt (by decide : (4 : Int32) < (5 : Int32))).2.1 ?_
    show Steps p.tables e below (T120.setTop (mkF m 13 #[.val (.long q1), .second, .val (.ref a2), .val (.ref a3), .val (.long (-q1)), .second, .val (.int (4 : Int32)), .val (.long ((-q1) &&& (x3 ^^^ y3))), .second] [])) _
    refine XS.lload X120.here hx rfl (hb hby d1_13) rfl ?_
    show Steps p.tables e below (T120.setTop (mkF m 15 #[.val (.long q1), .second, .val (.ref a2), .val (.ref a3), .val (.long (-q1)), .second, .val (.int (4 : Int32)), .val (.long ((-q1) &&& (x3 ^^^ y3))), .second] [(.long (-q1))])) _
    refine XS.aloadN X120.here hx rfl (hb hby d1_15) rfl rfl ?_
    show Steps p.tables e below (T120.setTop (mkF m 16 #[.val (.long q1), .second, .val (.ref a2), .val (.ref a3), .val (.long (-q1)), .second, .val (.int (4 : Int32)), .val (.long ((-q1) &&& (x3 ^^^ y3))), .second] [(.ref a2), (.long (-q1))])) _
    refine XS.iload X120.here hx rfl (hb hby d1_16) rfl ?_
    show Steps p.tables e below (T120.setTop (mkF m 18 #[.val (.long q1), .second, .val (.ref a2), .val (.ref a3), .val (.long (-q1)), .second, .val (.int (4 : Int32)), .val (.long ((-q1) &&& (x3 ^^^ y3))), .second] [(.int (4 : Int32)), (.ref a2), (.long (-q1))])) _
    refine X120.laload hx (j := (4 : Int32)) (v := (.long x4)) (by rw [e120]; exact Ar121.1) (State.isArrayOf_alike hZ.alike Ar121.2.1) Ar121.2.2 (inb_of (j := (4 : Int32)) S121 ⟨by decide, by decide⟩) (Has.at H121 (inb_of (j := (4 : Int32)) S121 ⟨by decide, by decide⟩) rfl) (g := (mkF m 18 #[.val (.long q1), .second, .val (.ref a2), .val (.ref a3), .val (.long (-q1)), .second, .val (.int (4 : Int32)), .val (.long ((-q1) &&& (x3 ^^^ y3))), .second] [(.int (4 : Int32)), (.ref a2), (.long (-q1))])) rfl rfl (hb hby d1_18) _ ?_
    show Steps p.tables e below (T120.setTop (mkF m 19 #[.val (.long q1), .second, .val (.ref a2), .val (.ref a3), .val (.long (-q1)), .second, .val (.int (4 : Int32)), .val (.long ((-q1) &&& (x3 ^^^ y3))), .second] [(.long x4), (.long (-q1))])) _
    refine XS.aloadN X120.here hx rfl (hb hby d1_19) rfl rfl ?_
    show Steps p.tables e below (T120.setTop (mkF m 20 #[.val (.long q1), .second, .val (.ref a2), .val (.ref a3), .val (.long (-q1)), .second, .val (.int (4 : Int32)), .val (.long ((-q1) &&& (x3 ^^^ y3))), .second] [(.ref a3), (.long x4), (.long (-q1))])) _
    refine XS.iload X120.here hx rfl (hb hby d1_20) rfl ?_
    show Steps p.tables e below (T120.setTop (mkF m 22 #[.val (.long q1), .second, .val (.ref a2), .val (.ref a3), .val (.long (-q1)), .second, .val (.int (4 : Int32)), .val (.long ((-q1) &&& (x3 ^^^ y3))), .second] [(.int (4 : Int32)), (.ref a3), (.long x4), (.long (-q1))])) _
    refine X120.laload hx (j := (4 : Int32)) (v := (.long y4)) (by rw [e120]; exact Ar122.1) (State.isArrayOf_alike hZ.alike Ar122.2.1) Ar122.2.2 (inb_of (j := (4 : Int32)) S122 ⟨by decide, by decide⟩) (Has.at H122 (inb_of (j := (4 : Int32)) S122 ⟨by decide, by decide⟩) rfl) (g := (mkF m 22 #[.val (.long q1), .second, .val (.ref a2), .val (.ref a3), .val (.long (-q1)), .second, .val (.int (4 : Int32)), .val (.long ((-q1) &&& (x3 ^^^ y3))), .second] [(.int (4 : Int32)), (.ref a3), (.long x4), (.long (-q1))])) rfl rfl (hb hby d1_22) _ ?_
    show Steps p.tables e below (T120.setTop (mkF m 23 #[.val (.long q1), .second, .val (.ref a2), .val (.ref a3), .val (.long (-q1)), .second, .val (.int (4 : Int32)), .val (.long ((-q1) &&& (x3 ^^^ y3))), .second] [(.long y4), (.long x4), (.long (-q1))])) _
    refine XS.lxor X120.here hx rfl (hb hby d1_23) rfl ?_
    show Steps p.tables e below (T120.setTop (mkF m 24 #[.val (.long q1), .second, .val (.ref a2), .val (.ref a3), .val (.long (-q1)), .second, .val (.int (4 : Int32)), .val (.long ((-q1) &&& (x3 ^^^ y3))), .second] [(.long (x4 ^^^ y4)), (.long (-q1))])) _
    refine XS.land X120.here hx rfl (hb hby d1_24) rfl ?_
    show Steps p.tables e below (T120.setTop (mkF m 25 #[.val (.long q1), .second, .val (.ref a2), .val (.ref a3), .val (.long (-q1)), .second, .val (.int (4 : Int32)), .val (.long ((-q1) &&& (x3 ^^^ y3))), .second] [(.long ((-q1) &&& (x4 ^^^ y4)))])) _
    refine XS.lstore X120.here hx rfl (hb hby d1_25) rfl (l' := #[.val (.long q1), .second, .val (.ref a2), .val (.ref a3), .val (.long (-q1)), .second, .val (.int (4 : Int32)), .val (.long ((-q1) &&& (x4 ^^^ y4))), .second]) rfl ?_
    show Steps p.tables e below (T120.setTop (mkF m 27 #[.val (.long q1), .second, .val (.ref a2), .val (.ref a3), .val (.long (-q1)), .second, .val (.int (4 : Int32)), .val (.long ((-q1) &&& (x4 ^^^ y4))), .second] [])) _
    refine XS.aloadN X120.here hx rfl (hb hby d1_27) rfl rfl ?_
    show Steps p.tables e below (T120.setTop (mkF m 28 #[.val (.long q1), .second, .val (.ref a2), .val (.ref a3), .val (.long (-q1)), .second, .val (.int (4 : Int32)), .val (.long ((-q1) &&& (x4 ^^^ y4))), .second] [(.ref a2)])) _
    refine XS.iload X120.here hx rfl (hb hby d1_28) rfl ?_
    show Steps p.tables e below (T120.setTop (mkF m 30 #[.val (.long q1), .second, .val (.ref a2), .val (.ref a3), .val (.long (-q1)), .second, .val (.int (4 : Int32)), .val (.long ((-q1) &&& (x4 ^^^ y4))), .second] [(.int (4 : Int32)), (.ref a2)])) _
    refine Jvm.Free.XT.dup2 X120.here hx rfl (hb hby d1_30) rfl rfl rfl ?_
    show Steps p.tables e below (T120.setTop (mkF m 31 #[.val (.long q1), .second, .val (.ref a2), .val (.ref a3), .val (.long (-q1)), .second, .val (.int (4 : Int32)), .val (.long ((-q1) &&& (x4 ^^^ y4))), .second] [(.int (4 : Int32)), (.ref a2), (.int (4 : Int32)), (.ref a2)])) _
    refine X120.laload hx (j := (4 : Int32)) (v := (.long x4)) (by rw [e120]; exact Ar121.1) (State.isArrayOf_alike hZ.alike Ar121.2.1) Ar121.2.2 (inb_of (j := (4 : Int32)) S121 ⟨by decide, by decide⟩) (Has.at H121 (inb_of (j := (4 : Int32)) S121 ⟨by decide, by decide⟩) rfl) (g := (mkF m 31 #[.val (.long q1), .second, .val (.ref a2), .val (.ref a3), .val (.long (-q1)), .second, .val (.int (4 : Int32)), .val (.long ((-q1) &&& (x4 ^^^ y4))), .second] [(.int (4 : Int32)), (.ref a2), (.int (4 : Int32)), (.ref a2)])) rfl rfl (hb hby d1_31) _ ?_
    show Steps p.tables e below (T120.setTop (mkF m 32 #[.val (.long q1), .second, .val (.ref a2), .val (.ref a3), .val (.long (-q1)), .second, .val (.int (4 : Int32)), .val (.long ((-q1) &&& (x4 ^^^ y4))), .second] [(.long x4), (.int (4 : Int32)), (.ref a2)])) _
    refine XS.lload X120.here hx rfl (hb hby d1_32) rfl ?_
    show Steps p.tables e below (T120.setTop (mkF m 34 #[.val (.long q1), .second, .val (.ref a2), .val (.ref a3), .val (.long (-q1)), .second, .val (.int (4 : Int32)), .val (.long ((-q1) &&& (x4 ^^^ y4))), .second] [(.long ((-q1) &&& (x4 ^^^ y4))), (.long x4), (.int (4 : Int32)), (.ref a2)])) _
    refine XS.lxor X120.here hx rfl (hb hby d1_34) rfl ?_
    exact k
  obtain ⟨T123, h123, X123, e123, W123, st123⟩ := stJ X120 hx hZ e120 Ar121 (j := (4 : Int32)) (inb_of (j := (4 : Int32)) S121 ⟨by decide, by decide⟩) (g := (mkF m 35 #[.val (.long q1), .second, .val (.ref a2), .val (.ref a3), .val (.long (-q1)), .second, .val (.int (4 : Int32)), .val (.long ((-q1) &&& (x4 ^^^ y4))), .second] [(.long (x4 ^^^ ((-q1) &&& (x4 ^^^ y4)))), (.int (4 : Int32)), (.ref a2)])) rfl rfl (hb hby d1_35)
  have VF_123 := Arv.set Ar121 q121 S121 N121 H121 G121 rfl W123 4 rfl (Nat.le_of_ble_eq_true rfl)
  have VG_123 := VG_120.other W123 (Ne.symm n23)
  have N123 := Fr.snoc X123 N120 gA
  have KK123 : Keep h0 h123 [a2, a3] := KK120.wr W123 (Or.inl (List.mem_of_getElem? (i := 0) rfl))
  have sz123 : n0 ≤ h123.size := Nat.le_trans sz120 (Nat.le_of_eq W123.size.symm)
  refine Go.st (U' := T123.setTop (mkF m 36 #[.val (.long q1), .second, .val (.ref a2), .val (.ref a3), .val (.long (-q1)), .second, .val (.int (4 : Int32)), .val (.long ((-q1) &&& (x4 ^^^ y4))), .second] [])) (fun t k => st123 _ k) ?_
  obtain ⟨cl124, Ar124, q124, S124, N124, H124, G124⟩ := id VG_123
  refine Go.st (U' := T123.setTop (mkF m 44 #[.val (.long q1), .second, .val (.ref a2), .val (.ref a3), .val (.long (-q1)), .second, .val (.int (4 : Int32)), .val (.long ((-q1) &&& (x4 ^^^ y4))), .second] [(.long (y4 ^^^ ((-q1) &&& (x4 ^^^ y4)))), (.int (4 : Int32)), (.ref a3)])) (fun t k => ?_) ?_
  · show Steps p.tables e below (T123.setTop (mkF m 36 #[.val (.long q1), .second, .val (.ref a2), .val (.ref a3), .val (.long (-q1)), .second, .val (.int (4 : Int32)), .val (.long ((-q1) &&& (x4 ^^^ y4))), .second] [])) _
    refine XS.aloadN X123.here hx rfl (hb hby d1_36) rfl rfl ?_
    show Steps p.tables e below (T123.setTop (mkF m 37 #[.val (.long q1), .second, .val (.ref a2), .val (.ref a3), .val (.long (-q1)), .second, .val (.int (4 : Int32)), .val (.long ((-q1) &&& (x4 ^^^ y4))), .second] [(.ref a3)])) _
    refine XS.iload X123.here hx rfl (hb hby d1_37) rfl ?_
    show Steps p.tables e below (T123.setTop (mkF m 39 #[.val (.long q1), .second, .val (.ref a2), .val (.ref a3), .val (.long (-q1)), .second, .val (.int (4 : Int32)), .val (.long ((-q1) &&& (x4 ^^^ y4))), .second] [(.int (4 : Int32)), (.ref a3)])) _
    refine Jvm.Free.XT.dup2 X123.here hx rfl (hb hby d1_39) rfl rfl rfl ?_
    show Steps p.tables e below (T123.setTop (mkF m 40 #[.val (.long q1), .second, .val (.ref a2), .val (.ref a3), .val (.long (-q1)), .second, .val (.int (4 : Int32)), .val (.long ((-q1) &&& (x4 ^^^ y4))), .second] [(.int (4 : Int32)), (.ref a3), (.int (4 : Int32)), (.ref a3)])) _
    refine X123.laload hx (j := (4 : Int32)) (v := (.long y4)) (by rw [e123]; exact Ar124.1) (State.isArrayOf_alike hZ.alike Ar124.2.1) Ar124.2.2 (inb_of (j := (4 : Int32)) S124 ⟨by decide, by decide⟩) (Has.at H124 (inb_of (j := (4 : Int32)) S124 ⟨by decide, by decide⟩) rfl) (g := (mkF m 40 #[.val (.long q1), .second, .val (.ref a2), .val (.ref a3), .val (.long (-q1)), .second, .val (.int (4 : Int32)), .val (.long ((-q1) &&& (x4 ^^^ y4))), .second] [(.int (4 : Int32)), (.ref a3), (.int (4 : Int32)), (.ref a3)])) rfl rfl (hb hby d1_40) _ ?_
    show Steps p.tables e below (T123.setTop (mkF m 41 #[.val (.long q1), .second, .val (.ref a2), .val (.ref a3), .val (.long (-q1)), .second, .val (.int (4 : Int32)), .val (.long ((-q1) &&& (x4 ^^^ y4))), .second] [(.long y4), (.int (4 : Int32)), (.ref a3)])) _
    refine XS.lload X123.here hx rfl (hb hby d1_41) rfl ?_
    show Steps p.tables e below (T123.setTop (mkF m 43 #[.val (.long q1), .second, .val (.ref a2), .val (.ref a3), .val (.long (-q1)), .second, .val (.int (4 : Int32)), .val (.long ((-q1) &&& (x4 ^^^ y4))), .second] [(.long ((-q1) &&& (x4 ^^^ y4))), (.long y4), (.int (4 : Int32)), (.ref a3)])) _
    refine XS.lxor X123.here hx rfl (hb hby d1_43) rfl ?_
    exact k
  obtain ⟨T125, h125, X125, e125, W125, st125⟩ := stJ X123 hx hZ e123 Ar124 (j := (4 : Int32)) (inb_of (j := (4 : Int32)) S124 ⟨by decide, by decide⟩) (g := (mkF m 44 #[.val (.long q1), .second, .val (.ref a2), .val (.ref a3), .val (.long (-q1)), .second, .val (.int (4 : Int32)), .val (.long ((-q1) &&& (x4 ^^^ y4))), .second] [(.long (y4 ^^^ ((-q1) &&& (x4 ^^^ y4)))), (.int (4 : Int32)), (.ref a3)])) rfl rfl (hb hby d1_44)
  have VG_125 := Arv.set Ar124 q124 S124 N124 H124 G124 rfl W125 4 rfl (Nat.le_of_ble_eq_true rfl)
  have VF_125 := VF_123.other W125 n23
  have N125 := Fr.snoc X125 N123 gB
  have KK125 : Keep h0 h125 [a2, a3] := KK123.wr W125 (Or.inl (List.mem_of_getElem? (i := 1) rfl))
  have sz125 : n0 ≤ h125.size := Nat.le_trans sz123 (Nat.le_of_eq W125.size.symm)
  refine Go.st (U' := T125.setTop (mkF m 45 #[.val (.long q1), .second, .val (.ref a2), .val (.ref a3), .val (.long (-q1)), .second, .val (.int (4 : Int32)), .val (.long ((-q1) &&& (x4 ^^^ y4))), .second] [])) (fun t k => st125 _ k) ?_
  refine Go.st (U' := T125.setTop (mkF m 51 #[.val (.long q1), .second, .val (.ref a2), .val (.ref a3), .val (.long (-q1)), .second, .val (.int (5 : Int32)), .val (.long ((-q1) &&& (x4 ^^^ y4))), .second] [])) (fun t k => ?_) ?_
  · show Steps p.tables e below (T125.setTop (mkF m 45 #[.val (.long q1), .second, .val (.ref a2), .val (.ref a3), .val (.long (-q1)), .second, .val (.int (4 : Int32)), .val (.long ((-q1) &&& (x4 ^^^ y4))), .second] [])) _
    refine XS.iinc X125.here hx rfl (hb hby d1_45) rfl (l' := #[.val (.long q1), .second, .val (.ref a2), .val (.ref a3), .val (.long (-q1)), .second, .val (.int (5 : Int32)), .val (.long ((-q1) &&& (x4 ^^^ y4))), .second]) rfl ?_
    show Steps p.tables e below (T125.setTop (mkF m 48 #[.val (.long q1), .second, .val (.ref a2), .val (.ref a3), .val (.long (-q1)), .second, .val (.int (5 : Int32)), .val (.long ((-q1) &&& (x4 ^^^ y4))), .second] [])) _
    refine XS.goto X125.here hx rfl (pc0 := 48) (pc' := 7) rfl (hb hby d1_48) (by decide) (by decide) ?_
    show Steps p.tables e below (T125.setTop (mkF m 7 #[.val (.long q1), .second, .val (.ref a2), .val (.ref a3), .val (.long (-q1)), .second, .val (.int (5 : Int32)), .val (.long ((-q1) &&& (x4 ^^^ y4))), .second] [])) _
    refine XS.iload X125.here hx rfl (hb hby d1_7) rfl ?_
    show Steps p.tables e below (T125.setTop (mkF m 9 #[.val (.long q1), .second, .val (.ref a2), .val (.ref a3), .val (.long (-q1)), .second, .val (.int (5 : Int32)), .val (.long ((-q1) &&& (x4 ^^^ y4))), .second] [(.int (5 : Int32))])) _
    refine XS.iconst X125.here hx rfl (hb hby d1_9) ?_
    show Steps p.tables e below (T125.setTop (mkF m 10 #[.val (.long q1), .second, .val (.ref a2), .val (.ref a3), .val (.long (-q1)), .second, .val (.int (5 : Int32)), .val (.long ((-q1) &&& (x4 ^^^ y4))), .second] [(.int (5 : Int32)), (.int (5 : Int32))])) _
    refine XS.icmpYes X125.here hx rfl (pc0 := 10) (pc' := 51) rfl (hb hby d1_10) rfl (flt (by decide : ¬ ((5 : Int32) < (5 : Int32)))).2.1 (by decide) (by decide) ?_
    exact k
  refine own_ret (Q := Q1 Z q1 a2 a3 k2 k3 x0 x1 x2 x3 x4 y0 y1 y2 y3 y4 h0 n0) (v := none) X125 hlk (fun _ => rfl) (by decide) (by decide) ?_ (fun fs hr => X125.returnOut hx hrt (hb hby d1_51) hr)
  rw [e125]
  exact ⟨rfl, N125, KK125, VF_125, VG_125⟩
theorem own_m1 (z : Int64) : ((-(1 : Int64)) &&& z) = z := by
  apply Int64.toBitVec_inj.mp
  show (BitVec.allOnes 64) &&& z.toBitVec = z.toBitVec
  rw [BitVec.allOnes_and]
theorem own_m0 (z : Int64) : ((-(0 : Int64)) &&& z) = 0 := by
  apply Int64.toBitVec_inj.mp
  show (0#64) &&& z.toBitVec = 0#64
  rw [BitVec.zero_and]
theorem own_x0 (x : Int64) : x ^^^ 0 = x := by
  apply Int64.toBitVec_inj.mp
  show x.toBitVec ^^^ 0#64 = x.toBitVec
  rw [BitVec.xor_zero]
theorem own_xx (x y : Int64) : x ^^^ (x ^^^ y) = y := by
  apply Int64.toBitVec_inj.mp
  show x.toBitVec ^^^ (x.toBitVec ^^^ y.toBitVec) = y.toBitVec
  rw [← BitVec.xor_assoc, BitVec.xor_self, BitVec.zero_xor]
theorem own_yx (x y : Int64) : y ^^^ (x ^^^ y) = x := by
  apply Int64.toBitVec_inj.mp
  show y.toBitVec ^^^ (x.toBitVec ^^^ y.toBitVec) = x.toBitVec
  rw [BitVec.xor_comm x.toBitVec, ← BitVec.xor_assoc, BitVec.xor_self, BitVec.zero_xor]
theorem own_1 {q : Int64} (h : q = (1 : Int64)) (x y : Int64) : (x ^^^ ((-q) &&& (x ^^^ y))) = y ∧ (y ^^^ ((-q) &&& (x ^^^ y))) = x := by
  subst h; rw [own_m1]; exact ⟨own_xx x y, own_yx x y⟩
theorem own_0 {q : Int64} {s : Int32} (hs : (s &&& (1 : Int32)).toInt64 = q) (h : ¬ q = (1 : Int64)) (x y : Int64) : (x ^^^ ((-q) &&& (x ^^^ y))) = x ∧ (y ^^^ ((-q) &&& (x ^^^ y))) = y := by
  have q0 : q = 0 := by
    have h1 := c_mask s 1 1 (by decide) (by decide)
    have h2 := c_i2l (s &&& 1)
    have h3 : q.toInt ≠ 1 := fun e => h (Int64.toInt_inj.mp e)
    rw [hs] at h2
    exact Int64.toInt_inj.mp (show q.toInt = 0 by omega)
  subst q0; rw [own_m0, own_x0, own_x0]; exact ⟨rfl, rfl⟩
theorem pd_0 : parseMethodDescriptor "(J[J[J)V" = some ⟨[.long, (.array .long), (.array .long)], none⟩ := by decide +kernel
theorem pn_1 : plainName "com/example/hopwright/hopwright/crypto/Field25519ConditionalSwapPinLaw" = true := by first | (simp [plainName, overriddenIn]; done) | decide +kernel
theorem ef0 (m : MethodId) (p0 : Int32) (q1 : Int64) (q2 : Int64) (q3 : Int64) (q4 : Int64) (q5 : Int64) : entryFrame m #[(.int p0), (.long q1), (.long q2), (.long q3), (.long q4), (.long q5)] maxLocals = mkF m 0 #[.val (.int p0), .val (.long q1), .second, .val (.long q2), .second, .val (.long q3), .second, .val (.long q4), .second, .val (.long q5), .second, .unset, .unset, .unset, .unset] [] := by first | (simp [entryFrame, mkF, argsToLocals, Value.category, maxLocals]; done) | rfl
def Q0 (Z : State) (p0 : Int32) (q1 : Int64) (q2 : Int64) (q3 : Int64) (q4 : Int64) (q5 : Int64) (h0 : Heap) (n0 : Nat) (v : Option Value) (h : Heap) (L : List Loc) : Prop := v = some (.int 1) ∧ Fr n0 L
set_option maxRecDepth 65536 in
set_option maxHeartbeats 40000000 in
theorem rm0 (l : Launch) (Z : State) (a0 : Array Value) (hw : ∀ d ∈ tables_1, d.before a0 Z = true) (ws : List Jvm.Cond) (p0 : Int32) (q1 : Int64) (q2 : Int64) (q3 : Int64) (q4 : Int64) (q5 : Int64) (h0 : Heap) (n0 : Nat) (Z0 : n0 ≤ h0.size) :
    MetFree l x (head1 (Jvm.Cond.code x code maxLocals ret :: ws) room_1) (fun a U => a = #[(.int p0), (.long q1), (.long q2), (.long q3), (.long q4), (.long q5)] ∧ Z.Warmed39 U.vm ∧ U.heap = h0) (fun _ _ _ _ _ => True) (fun _ U o U' => ∃ v L, o = .returned v ∧ Q0 Z p0 q1 q2 q3 q4 q5 h0 n0 v U'.heap L ∧ FrameEnd U o U' L 16 128) := by
  refine MetFree.of_bodySF (plainFor_of_name pn_1) hisR ?_
  intro p e s m args below meth c s₁ Bd hml0 hP hK
  obtain ⟨rfl, hZ, hh⟩ := hP
  have hx := Bd.exec
  have hby := Bd.bytes
  have hml : c.maxLocals = 15 := hml0
  have hown : s.vm.findClass "com/example/hopwright/hopwright/crypto/Field25519ConditionalSwapPinLaw" = some m.cls := findClass_of_methodNamed Bd.named
  have hnm := (name_of_methodNamed Bd.named Bd.method).1
  have hlk : meth.locks = false := BodyLoose.notSynchronized Bd
  have hrt := Bd.returns
  have X0 : Stand p l e room_1 s m #[(.int p0), (.long q1), (.long q2), (.long q3), (.long q4), (.long q5)] below meth c s₁ [] 0 0 := Stand.of_body Bd
  have e0 : s₁.heap = h0 := by rw [← hh, Bd.state]; rfl
  have N0 := Fr.nil n0
  refine (show Go p e below (fun s₂ o => ∃ v L, o = .returned v ∧ Q0 Z p0 q1 q2 q3 q4 q5 h0 n0 v s₂.heap L ∧ FrameEnd s o s₂ L 16 128) (s₁.setTop (entryFrame m #[(.int p0), (.long q1), (.long q2), (.long q3), (.long q4), (.long q5)] maxLocals)) from ?_)
  rw [ef0]
  refine Go.st (U' := s₁.setTop (mkF m 6 #[.val (.int p0), .val (.long q1), .second, .val (.long q2), .second, .val (.long q3), .second, .val (.long q4), .second, .val (.long q5), .second, .val (.long ((p0 &&& (1 : Int32)).toInt64)), .second, .unset, .unset] [])) (fun t k => ?_) ?_
  · show Steps p.tables e below (s₁.setTop (mkF m 0 #[.val (.int p0), .val (.long q1), .second, .val (.long q2), .second, .val (.long q3), .second, .val (.long q4), .second, .val (.long q5), .second, .unset, .unset, .unset, .unset] [])) _
    refine XS.iloadN X0.here hx rfl (hb hby at_0) rfl ?_
    show Steps p.tables e below (s₁.setTop (mkF m 1 #[.val (.int p0), .val (.long q1), .second, .val (.long q2), .second, .val (.long q3), .second, .val (.long q4), .second, .val (.long q5), .second, .unset, .unset, .unset, .unset] [(.int p0)])) _
    refine XS.iconst X0.here hx rfl (hb hby at_1) ?_
    show Steps p.tables e below (s₁.setTop (mkF m 2 #[.val (.int p0), .val (.long q1), .second, .val (.long q2), .second, .val (.long q3), .second, .val (.long q4), .second, .val (.long q5), .second, .unset, .unset, .unset, .unset] [(.int (1 : Int32)), (.int p0)])) _
    refine XS.iand X0.here hx rfl (hb hby at_2) rfl ?_
    show Steps p.tables e below (s₁.setTop (mkF m 3 #[.val (.int p0), .val (.long q1), .second, .val (.long q2), .second, .val (.long q3), .second, .val (.long q4), .second, .val (.long q5), .second, .unset, .unset, .unset, .unset] [(.int (p0 &&& (1 : Int32)))])) _
    refine XS.i2l X0.here hx rfl (hb hby at_3) rfl ?_
    show Steps p.tables e below (s₁.setTop (mkF m 4 #[.val (.int p0), .val (.long q1), .second, .val (.long q2), .second, .val (.long q3), .second, .val (.long q4), .second, .val (.long q5), .second, .unset, .unset, .unset, .unset] [(.long ((p0 &&& (1 : Int32)).toInt64))])) _
    refine XS.lstore X0.here hx rfl (hb hby at_4) rfl (l' := #[.val (.int p0), .val (.long q1), .second, .val (.long q2), .second, .val (.long q3), .second, .val (.long q4), .second, .val (.long q5), .second, .val (.long ((p0 &&& (1 : Int32)).toInt64)), .second, .unset, .unset]) rfl ?_
    exact k
  generalize hv_v126 : ((p0 &&& (1 : Int32)).toInt64) = v126
  refine Go.st (U' := s₁.setTop (mkF m 7 #[.val (.int p0), .val (.long q1), .second, .val (.long q2), .second, .val (.long q3), .second, .val (.long q4), .second, .val (.long q5), .second, .val (.long v126), .second, .unset, .unset] [(.int (5 : Int32))])) (fun t k => ?_) ?_
  · show Steps p.tables e below (s₁.setTop (mkF m 6 #[.val (.int p0), .val (.long q1), .second, .val (.long q2), .second, .val (.long q3), .second, .val (.long q4), .second, .val (.long q5), .second, .val (.long v126), .second, .unset, .unset] [])) _
    refine XS.iconst X0.here hx rfl (hb hby at_6) ?_
    exact k
  obtain ⟨T127, h127, k127, X127, e127, E127, A127, st127⟩ := newP X0 hx hZ (own_w hw 0 rfl) e0 (g := (mkF m 7 #[.val (.int p0), .val (.long q1), .second, .val (.long q2), .second, .val (.long q3), .second, .val (.long q4), .second, .val (.long q5), .second, .val (.long v126), .second, .unset, .unset] [(.int (5 : Int32))])) rfl (hb hby at_7) rfl (by decide) (cap := 5) (by decide) (by decide) (by decide) (by decide)
  obtain ⟨b127, g127⟩ : ∃ z, z = h0.size := ⟨_, rfl⟩
  rw [← g127] at A127 st127
  have ge_b127 : n0 ≤ b127 := Nat.le_trans Z0 (Nat.le_of_eq g127.symm)
  have V_b127 : Arv Z h127 b127 k127 .long (5 : Int32) [(.long (0 : Int64)), (.long (0 : Int64)), (.long (0 : Int64)), (.long (0 : Int64)), (.long (0 : Int64))] (.long (0 : Int64)) := (Arv.new A127 (by decide)).pad (pad_rep [] (.long (0 : Int64)) 5)
  have sz127 : n0 ≤ h127.size := Nat.le_trans Z0 E127.1
  refine Go.st (U' := T127.setTop (mkF m 9 #[.val (.int p0), .val (.long q1), .second, .val (.long q2), .second, .val (.long q3), .second, .val (.long q4), .second, .val (.long q5), .second, .val (.long v126), .second, .unset, .unset] [(.ref b127)])) (fun t k => st127 _ k) ?_
  refine Go.st (U' := T127.setTop (mkF m 12 #[.val (.int p0), .val (.long q1), .second, .val (.long q2), .second, .val (.long q3), .second, .val (.long q4), .second, .val (.long q5), .second, .val (.long v126), .second, .unset, .unset] [(.long q1), (.int (0 : Int32)), (.ref b127), (.ref b127)])) (fun t k => ?_) ?_
  · show Steps p.tables e below (T127.setTop (mkF m 9 #[.val (.int p0), .val (.long q1), .second, .val (.long q2), .second, .val (.long q3), .second, .val (.long q4), .second, .val (.long q5), .second, .val (.long v126), .second, .unset, .unset] [(.ref b127)])) _
    refine XS.dup X127.here hx rfl (hb hby at_9) rfl rfl ?_
    show Steps p.tables e below (T127.setTop (mkF m 10 #[.val (.int p0), .val (.long q1), .second, .val (.long q2), .second, .val (.long q3), .second, .val (.long q4), .second, .val (.long q5), .second, .val (.long v126), .second, .unset, .unset] [(.ref b127), (.ref b127)])) _
    refine XS.iconst X127.here hx rfl (hb hby at_10) ?_
    show Steps p.tables e below (T127.setTop (mkF m 11 #[.val (.int p0), .val (.long q1), .second, .val (.long q2), .second, .val (.long q3), .second, .val (.long q4), .second, .val (.long q5), .second, .val (.long v126), .second, .unset, .unset] [(.int (0 : Int32)), (.ref b127), (.ref b127)])) _
    refine XS.lloadN X127.here hx rfl (hb hby at_11) rfl ?_
    exact k
  obtain ⟨cl129, Ar129, q129, S129, N129, H129, G129⟩ := id V_b127
  obtain ⟨T128, h128, X128, e128, W128, st128⟩ := stJ X127 hx hZ e127 Ar129 (j := (0 : Int32)) (inb_of (j := (0 : Int32)) S129 ⟨by decide, by decide⟩) (g := (mkF m 12 #[.val (.int p0), .val (.long q1), .second, .val (.long q2), .second, .val (.long q3), .second, .val (.long q4), .second, .val (.long q5), .second, .val (.long v126), .second, .unset, .unset] [(.long q1), (.int (0 : Int32)), (.ref b127), (.ref b127)])) rfl rfl (hb hby at_12)
  have V_b127_128 := Arv.set Ar129 q129 S129 N129 H129 G129 rfl W128 0 rfl (Nat.le_of_ble_eq_true rfl)
  have N128 := Fr.snoc X128 N0 ge_b127
  have sz128 : n0 ≤ h128.size := Nat.le_trans sz127 (Nat.le_of_eq W128.size.symm)
  refine Go.st (U' := T128.setTop (mkF m 13 #[.val (.int p0), .val (.long q1), .second, .val (.long q2), .second, .val (.long q3), .second, .val (.long q4), .second, .val (.long q5), .second, .val (.long v126), .second, .unset, .unset] [(.ref b127)])) (fun t k => st128 _ k) ?_
  refine Go.st (U' := T128.setTop (mkF m 16 #[.val (.int p0), .val (.long q1), .second, .val (.long q2), .second, .val (.long q3), .second, .val (.long q4), .second, .val (.long q5), .second, .val (.long v126), .second, .unset, .unset] [(.long q2), (.int (1 : Int32)), (.ref b127), (.ref b127)])) (fun t k => ?_) ?_
  · show Steps p.tables e below (T128.setTop (mkF m 13 #[.val (.int p0), .val (.long q1), .second, .val (.long q2), .second, .val (.long q3), .second, .val (.long q4), .second, .val (.long q5), .second, .val (.long v126), .second, .unset, .unset] [(.ref b127)])) _
    refine XS.dup X128.here hx rfl (hb hby at_13) rfl rfl ?_
    show Steps p.tables e below (T128.setTop (mkF m 14 #[.val (.int p0), .val (.long q1), .second, .val (.long q2), .second, .val (.long q3), .second, .val (.long q4), .second, .val (.long q5), .second, .val (.long v126), .second, .unset, .unset] [(.ref b127), (.ref b127)])) _
    refine XS.iconst X128.here hx rfl (hb hby at_14) ?_
    show Steps p.tables e below (T128.setTop (mkF m 15 #[.val (.int p0), .val (.long q1), .second, .val (.long q2), .second, .val (.long q3), .second, .val (.long q4), .second, .val (.long q5), .second, .val (.long v126), .second, .unset, .unset] [(.int (1 : Int32)), (.ref b127), (.ref b127)])) _
    refine XS.lloadN X128.here hx rfl (hb hby at_15) rfl ?_
    exact k
  obtain ⟨cl131, Ar131, q131, S131, N131, H131, G131⟩ := id V_b127_128
  obtain ⟨T130, h130, X130, e130, W130, st130⟩ := stJ X128 hx hZ e128 Ar131 (j := (1 : Int32)) (inb_of (j := (1 : Int32)) S131 ⟨by decide, by decide⟩) (g := (mkF m 16 #[.val (.int p0), .val (.long q1), .second, .val (.long q2), .second, .val (.long q3), .second, .val (.long q4), .second, .val (.long q5), .second, .val (.long v126), .second, .unset, .unset] [(.long q2), (.int (1 : Int32)), (.ref b127), (.ref b127)])) rfl rfl (hb hby at_16)
  have V_b127_130 := Arv.set Ar131 q131 S131 N131 H131 G131 rfl W130 1 rfl (Nat.le_of_ble_eq_true rfl)
  have N130 := Fr.snoc X130 N128 ge_b127
  have sz130 : n0 ≤ h130.size := Nat.le_trans sz128 (Nat.le_of_eq W130.size.symm)
  refine Go.st (U' := T130.setTop (mkF m 17 #[.val (.int p0), .val (.long q1), .second, .val (.long q2), .second, .val (.long q3), .second, .val (.long q4), .second, .val (.long q5), .second, .val (.long v126), .second, .unset, .unset] [(.ref b127)])) (fun t k => st130 _ k) ?_
  refine Go.st (U' := T130.setTop (mkF m 21 #[.val (.int p0), .val (.long q1), .second, .val (.long q2), .second, .val (.long q3), .second, .val (.long q4), .second, .val (.long q5), .second, .val (.long v126), .second, .unset, .unset] [(.long q3), (.int (2 : Int32)), (.ref b127), (.ref b127)])) (fun t k => ?_) ?_
  · show Steps p.tables e below (T130.setTop (mkF m 17 #[.val (.int p0), .val (.long q1), .second, .val (.long q2), .second, .val (.long q3), .second, .val (.long q4), .second, .val (.long q5), .second, .val (.long v126), .second, .unset, .unset] [(.ref b127)])) _
    refine XS.dup X130.here hx rfl (hb hby at_17) rfl rfl ?_
    show Steps p.tables e below (T130.setTop (mkF m 18 #[.val (.int p0), .val (.long q1), .second, .val (.long q2), .second, .val (.long q3), .second, .val (.long q4), .second, .val (.long q5), .second, .val (.long v126), .second, .unset, .unset] [(.ref b127), (.ref b127)])) _
    refine XS.iconst X130.here hx rfl (hb hby at_18) ?_
    show Steps p.tables e below (T130.setTop (mkF m 19 #[.val (.int p0), .val (.long q1), .second, .val (.long q2), .second, .val (.long q3), .second, .val (.long q4), .second, .val (.long q5), .second, .val (.long v126), .second, .unset, .unset] [(.int (2 : Int32)), (.ref b127), (.ref b127)])) _
    refine XS.lload X130.here hx rfl (hb hby at_19) rfl ?_
    exact k
  obtain ⟨cl133, Ar133, q133, S133, N133, H133, G133⟩ := id V_b127_130
  obtain ⟨T132, h132, X132, e132, W132, st132⟩ := stJ X130 hx hZ e130 Ar133 (j := (2 : Int32)) (inb_of (j := (2 : Int32)) S133 ⟨by decide, by decide⟩) (g := (mkF m 21 #[.val (.int p0), .val (.long q1), .second, .val (.long q2), .second, .val (.long q3), .second, .val (.long q4), .second, .val (.long q5), .second, .val (.long v126), .second, .unset, .unset] [(.long q3), (.int (2 : Int32)), (.ref b127), (.ref b127)])) rfl rfl (hb hby at_21)
  have V_b127_132 := Arv.set Ar133 q133 S133 N133 H133 G133 rfl W132 2 rfl (Nat.le_of_ble_eq_true rfl)
  have N132 := Fr.snoc X132 N130 ge_b127
  have sz132 : n0 ≤ h132.size := Nat.le_trans sz130 (Nat.le_of_eq W132.size.symm)
  refine Go.st (U' := T132.setTop (mkF m 22 #[.val (.int p0), .val (.long q1), .second, .val (.long q2), .second, .val (.long q3), .second, .val (.long q4), .second, .val (.long q5), .second, .val (.long v126), .second, .unset, .unset] [(.ref b127)])) (fun t k => st132 _ k) ?_
  refine Go.st (U' := T132.setTop (mkF m 26 #[.val (.int p0), .val (.long q1), .second, .val (.long q2), .second, .val (.long q3), .second, .val (.long q4), .second, .val (.long q5), .second, .val (.long v126), .second, .unset, .unset] [(.long q4), (.int (3 : Int32)), (.ref b127), (.ref b127)])) (fun t k => ?_) ?_
  · show Steps p.tables e below (T132.setTop (mkF m 22 #[.val (.int p0), .val (.long q1), .second, .val (.long q2), .second, .val (.long q3), .second, .val (.long q4), .second, .val (.long q5), .second, .val (.long v126), .second, .unset, .unset] [(.ref b127)])) _
    refine XS.dup X132.here hx rfl (hb hby at_22) rfl rfl ?_
    show Steps p.tables e below (T132.setTop (mkF m 23 #[.val (.int p0), .val (.long q1), .second, .val (.long q2), .second, .val (.long q3), .second, .val (.long q4), .second, .val (.long q5), .second, .val (.long v126), .second, .unset, .unset] [(.ref b127), (.ref b127)])) _
    refine XS.iconst X132.here hx rfl (hb hby at_23) ?_
    show Steps p.tables e below (T132.setTop (mkF m 24 #[.val (.int p0), .val (.long q1), .second, .val (.long q2), .second, .val (.long q3), .second, .val (.long q4), .second, .val (.long q5), .second, .val (.long v126), .second, .unset, .unset] [(.int (3 : Int32)), (.ref b127), (.ref b127)])) _
    refine XS.lload X132.here hx rfl (hb hby at_24) rfl ?_
    exact k
  obtain ⟨cl135, Ar135, q135, S135, N135, H135, G135⟩ := id V_b127_132
  obtain ⟨T134, h134, X134, e134, W134, st134⟩ := stJ X132 hx hZ e132 Ar135 (j := (3 : Int32)) (inb_of (j := (3 : Int32)) S135 ⟨by decide, by decide⟩) (g := (mkF m 26 #[.val (.int p0), .val (.long q1), .second, .val (.long q2), .second, .val (.long q3), .second, .val (.long q4), .second, .val (.long q5), .second, .val (.long v126), .second, .unset, .unset] [(.long q4), (.int (3 : Int32)), (.ref b127), (.ref b127)])) rfl rfl (hb hby at_26)
  have V_b127_134 := Arv.set Ar135 q135 S135 N135 H135 G135 rfl W134 3 rfl (Nat.le_of_ble_eq_true rfl)
  have N134 := Fr.snoc X134 N132 ge_b127
  have sz134 : n0 ≤ h134.size := Nat.le_trans sz132 (Nat.le_of_eq W134.size.symm)
  refine Go.st (U' := T134.setTop (mkF m 27 #[.val (.int p0), .val (.long q1), .second, .val (.long q2), .second, .val (.long q3), .second, .val (.long q4), .second, .val (.long q5), .second, .val (.long v126), .second, .unset, .unset] [(.ref b127)])) (fun t k => st134 _ k) ?_
  refine Go.st (U' := T134.setTop (mkF m 31 #[.val (.int p0), .val (.long q1), .second, .val (.long q2), .second, .val (.long q3), .second, .val (.long q4), .second, .val (.long q5), .second, .val (.long v126), .second, .unset, .unset] [(.long q5), (.int (4 : Int32)), (.ref b127), (.ref b127)])) (fun t k => ?_) ?_
  · show Steps p.tables e below (T134.setTop (mkF m 27 #[.val (.int p0), .val (.long q1), .second, .val (.long q2), .second, .val (.long q3), .second, .val (.long q4), .second, .val (.long q5), .second, .val (.long v126), .second, .unset, .unset] [(.ref b127)])) _
    refine XS.dup X134.here hx rfl (hb hby at_27) rfl rfl ?_
    show Steps p.tables e below (T134.setTop (mkF m 28 #[.val (.int p0), .val (.long q1), .second, .val (.long q2), .second, .val (.long q3), .second, .val (.long q4), .second, .val (.long q5), .second, .val (.long v126), .second, .unset, .unset] [(.ref b127), (.ref b127)])) _
    refine XS.iconst X134.here hx rfl (hb hby at_28) ?_
    show Steps p.tables e below (T134.setTop (mkF m 29 #[.val (.int p0), .val (.long q1), .second, .val (.long q2), .second, .val (.long q3), .second, .val (.long q4), .second, .val (.long q5), .second, .val (.long v126), .second, .unset, .unset] [(.int (4 : Int32)), (.ref b127), (.ref b127)])) _
    refine XS.lload X134.here hx rfl (hb hby at_29) rfl ?_
    exact k
  obtain ⟨cl137, Ar137, q137, S137, N137, H137, G137⟩ := id V_b127_134
  obtain ⟨T136, h136, X136, e136, W136, st136⟩ := stJ X134 hx hZ e134 Ar137 (j := (4 : Int32)) (inb_of (j := (4 : Int32)) S137 ⟨by decide, by decide⟩) (g := (mkF m 31 #[.val (.int p0), .val (.long q1), .second, .val (.long q2), .second, .val (.long q3), .second, .val (.long q4), .second, .val (.long q5), .second, .val (.long v126), .second, .unset, .unset] [(.long q5), (.int (4 : Int32)), (.ref b127), (.ref b127)])) rfl rfl (hb hby at_31)
  have V_b127_136 := Arv.set Ar137 q137 S137 N137 H137 G137 rfl W136 4 rfl (Nat.le_of_ble_eq_true rfl)
  have N136 := Fr.snoc X136 N134 ge_b127
  have sz136 : n0 ≤ h136.size := Nat.le_trans sz134 (Nat.le_of_eq W136.size.symm)
  refine Go.st (U' := T136.setTop (mkF m 32 #[.val (.int p0), .val (.long q1), .second, .val (.long q2), .second, .val (.long q3), .second, .val (.long q4), .second, .val (.long q5), .second, .val (.long v126), .second, .unset, .unset] [(.ref b127)])) (fun t k => st136 _ k) ?_
  refine Go.st (U' := T136.setTop (mkF m 35 #[.val (.int p0), .val (.long q1), .second, .val (.long q2), .second, .val (.long q3), .second, .val (.long q4), .second, .val (.long q5), .second, .val (.long v126), .second, .val (.ref b127), .unset] [(.int (5 : Int32))])) (fun t k => ?_) ?_
  · show Steps p.tables e below (T136.setTop (mkF m 32 #[.val (.int p0), .val (.long q1), .second, .val (.long q2), .second, .val (.long q3), .second, .val (.long q4), .second, .val (.long q5), .second, .val (.long v126), .second, .unset, .unset] [(.ref b127)])) _
    refine XS.astore X136.here hx rfl (hb hby at_32) rfl rfl (l' := #[.val (.int p0), .val (.long q1), .second, .val (.long q2), .second, .val (.long q3), .second, .val (.long q4), .second, .val (.long q5), .second, .val (.long v126), .second, .val (.ref b127), .unset]) rfl ?_
    show Steps p.tables e below (T136.setTop (mkF m 34 #[.val (.int p0), .val (.long q1), .second, .val (.long q2), .second, .val (.long q3), .second, .val (.long q4), .second, .val (.long q5), .second, .val (.long v126), .second, .val (.ref b127), .unset] [])) _
    refine XS.iconst X136.here hx rfl (hb hby at_34) ?_
    exact k
  obtain ⟨T138, h138, k138, X138, e138, E138, A138, st138⟩ := newP X136 hx hZ (own_w hw 0 rfl) e136 (g := (mkF m 35 #[.val (.int p0), .val (.long q1), .second, .val (.long q2), .second, .val (.long q3), .second, .val (.long q4), .second, .val (.long q5), .second, .val (.long v126), .second, .val (.ref b127), .unset] [(.int (5 : Int32))])) rfl (hb hby at_35) rfl (by decide) (cap := 5) (by decide) (by decide) (by decide) (by decide)
  obtain ⟨b138, g138⟩ : ∃ z, z = h136.size := ⟨_, rfl⟩
  rw [← g138] at A138 st138
  have ne_b127_b138 : b127 ≠ b138 := Nat.ne_of_lt (Nat.lt_of_lt_of_le V_b127_136.lt (Nat.le_of_eq g138.symm))
  have ge_b138 : n0 ≤ b138 := Nat.le_trans sz136 (Nat.le_of_eq g138.symm)
  have V_b127_138 := V_b127_136.ext E138
  have V_b138 : Arv Z h138 b138 k138 .long (5 : Int32) [(.long (0 : Int64)), (.long (0 : Int64)), (.long (0 : Int64)), (.long (0 : Int64)), (.long (0 : Int64))] (.long (0 : Int64)) := (Arv.new A138 (by decide)).pad (pad_rep [] (.long (0 : Int64)) 5)
  have sz138 : n0 ≤ h138.size := Nat.le_trans sz136 E138.1
  refine Go.st (U' := T138.setTop (mkF m 37 #[.val (.int p0), .val (.long q1), .second, .val (.long q2), .second, .val (.long q3), .second, .val (.long q4), .second, .val (.long q5), .second, .val (.long v126), .second, .val (.ref b127), .unset] [(.ref b138)])) (fun t k => st138 _ k) ?_
  refine Go.st (U' := T138.setTop (mkF m 40 #[.val (.int p0), .val (.long q1), .second, .val (.long q2), .second, .val (.long q3), .second, .val (.long q4), .second, .val (.long q5), .second, .val (.long v126), .second, .val (.ref b127), .unset] [(.long q2), (.int (0 : Int32)), (.ref b138), (.ref b138)])) (fun t k => ?_) ?_
  · show Steps p.tables e below (T138.setTop (mkF m 37 #[.val (.int p0), .val (.long q1), .second, .val (.long q2), .second, .val (.long q3), .second, .val (.long q4), .second, .val (.long q5), .second, .val (.long v126), .second, .val (.ref b127), .unset] [(.ref b138)])) _
    refine XS.dup X138.here hx rfl (hb hby at_37) rfl rfl ?_
    show Steps p.tables e below (T138.setTop (mkF m 38 #[.val (.int p0), .val (.long q1), .second, .val (.long q2), .second, .val (.long q3), .second, .val (.long q4), .second, .val (.long q5), .second, .val (.long v126), .second, .val (.ref b127), .unset] [(.ref b138), (.ref b138)])) _
    refine XS.iconst X138.here hx rfl (hb hby at_38) ?_
    show Steps p.tables e below (T138.setTop (mkF m 39 #[.val (.int p0), .val (.long q1), .second, .val (.long q2), .second, .val (.long q3), .second, .val (.long q4), .second, .val (.long q5), .second, .val (.long v126), .second, .val (.ref b127), .unset] [(.int (0 : Int32)), (.ref b138), (.ref b138)])) _
    refine XS.lloadN X138.here hx rfl (hb hby at_39) rfl ?_
    exact k
  obtain ⟨cl140, Ar140, q140, S140, N140, H140, G140⟩ := id V_b138
  obtain ⟨T139, h139, X139, e139, W139, st139⟩ := stJ X138 hx hZ e138 Ar140 (j := (0 : Int32)) (inb_of (j := (0 : Int32)) S140 ⟨by decide, by decide⟩) (g := (mkF m 40 #[.val (.int p0), .val (.long q1), .second, .val (.long q2), .second, .val (.long q3), .second, .val (.long q4), .second, .val (.long q5), .second, .val (.long v126), .second, .val (.ref b127), .unset] [(.long q2), (.int (0 : Int32)), (.ref b138), (.ref b138)])) rfl rfl (hb hby at_40)
  have V_b138_139 := Arv.set Ar140 q140 S140 N140 H140 G140 rfl W139 0 rfl (Nat.le_of_ble_eq_true rfl)
  have V_b127_139 := V_b127_138.other W139 ne_b127_b138
  have N139 := Fr.snoc X139 N136 ge_b138
  have sz139 : n0 ≤ h139.size := Nat.le_trans sz138 (Nat.le_of_eq W139.size.symm)
  refine Go.st (U' := T139.setTop (mkF m 41 #[.val (.int p0), .val (.long q1), .second, .val (.long q2), .second, .val (.long q3), .second, .val (.long q4), .second, .val (.long q5), .second, .val (.long v126), .second, .val (.ref b127), .unset] [(.ref b138)])) (fun t k => st139 _ k) ?_
  refine Go.st (U' := T139.setTop (mkF m 45 #[.val (.int p0), .val (.long q1), .second, .val (.long q2), .second, .val (.long q3), .second, .val (.long q4), .second, .val (.long q5), .second, .val (.long v126), .second, .val (.ref b127), .unset] [(.long q3), (.int (1 : Int32)), (.ref b138), (.ref b138)])) (fun t k => ?_) ?_
  · show Steps p.tables e below (T139.setTop (mkF m 41 #[.val (.int p0), .val (.long q1), .second, .val (.long q2), .second, .val (.long q3), .second, .val (.long q4), .second, .val (.long q5), .second, .val (.long v126), .second, .val (.ref b127), .unset] [(.ref b138)])) _
    refine XS.dup X139.here hx rfl (hb hby at_41) rfl rfl ?_
    show Steps p.tables e below (T139.setTop (mkF m 42 #[.val (.int p0), .val (.long q1), .second, .val (.long q2), .second, .val (.long q3), .second, .val (.long q4), .second, .val (.long q5), .second, .val (.long v126), .second, .val (.ref b127), .unset] [(.ref b138), (.ref b138)])) _
    refine XS.iconst X139.here hx rfl (hb hby at_42) ?_
    show Steps p.tables e below (T139.setTop (mkF m 43 #[.val (.int p0), .val (.long q1), .second, .val (.long q2), .second, .val (.long q3), .second, .val (.long q4), .second, .val (.long q5), .second, .val (.long v126), .second, .val (.ref b127), .unset] [(.int (1 : Int32)), (.ref b138), (.ref b138)])) _
    refine XS.lload X139.here hx rfl (hb hby at_43) rfl ?_
    exact k
  obtain ⟨cl142, Ar142, q142, S142, N142, H142, G142⟩ := id V_b138_139
  obtain ⟨T141, h141, X141, e141, W141, st141⟩ := stJ X139 hx hZ e139 Ar142 (j := (1 : Int32)) (inb_of (j := (1 : Int32)) S142 ⟨by decide, by decide⟩) (g := (mkF m 45 #[.val (.int p0), .val (.long q1), .second, .val (.long q2), .second, .val (.long q3), .second, .val (.long q4), .second, .val (.long q5), .second, .val (.long v126), .second, .val (.ref b127), .unset] [(.long q3), (.int (1 : Int32)), (.ref b138), (.ref b138)])) rfl rfl (hb hby at_45)
  have V_b138_141 := Arv.set Ar142 q142 S142 N142 H142 G142 rfl W141 1 rfl (Nat.le_of_ble_eq_true rfl)
  have V_b127_141 := V_b127_139.other W141 ne_b127_b138
  have N141 := Fr.snoc X141 N139 ge_b138
  have sz141 : n0 ≤ h141.size := Nat.le_trans sz139 (Nat.le_of_eq W141.size.symm)
  refine Go.st (U' := T141.setTop (mkF m 46 #[.val (.int p0), .val (.long q1), .second, .val (.long q2), .second, .val (.long q3), .second, .val (.long q4), .second, .val (.long q5), .second, .val (.long v126), .second, .val (.ref b127), .unset] [(.ref b138)])) (fun t k => st141 _ k) ?_
  refine Go.st (U' := T141.setTop (mkF m 50 #[.val (.int p0), .val (.long q1), .second, .val (.long q2), .second, .val (.long q3), .second, .val (.long q4), .second, .val (.long q5), .second, .val (.long v126), .second, .val (.ref b127), .unset] [(.long q4), (.int (2 : Int32)), (.ref b138), (.ref b138)])) (fun t k => ?_) ?_
  · show Steps p.tables e below (T141.setTop (mkF m 46 #[.val (.int p0), .val (.long q1), .second, .val (.long q2), .second, .val (.long q3), .second, .val (.long q4), .second, .val (.long q5), .second, .val (.long v126), .second, .val (.ref b127), .unset] [(.ref b138)])) _
    refine XS.dup X141.here hx rfl (hb hby at_46) rfl rfl ?_
    show Steps p.tables e below (T141.setTop (mkF m 47 #[.val (.int p0), .val (.long q1), .second, .val (.long q2), .second, .val (.long q3), .second, .val (.long q4), .second, .val (.long q5), .second, .val (.long v126), .second, .val (.ref b127), .unset] [(.ref b138), (.ref b138)])) _
    refine XS.iconst X141.here hx rfl (hb hby at_47) ?_
    show Steps p.tables e below (T141.setTop (mkF m 48 #[.val (.int p0), .val (.long q1), .second, .val (.long q2), .second, .val (.long q3), .second, .val (.long q4), .second, .val (.long q5), .second, .val (.long v126), .second, .val (.ref b127), .unset] [(.int (2 : Int32)), (.ref b138), (.ref b138)])) _
    refine XS.lload X141.here hx rfl (hb hby at_48) rfl ?_
    exact k
  obtain ⟨cl144, Ar144, q144, S144, N144, H144, G144⟩ := id V_b138_141
  obtain ⟨T143, h143, X143, e143, W143, st143⟩ := stJ X141 hx hZ e141 Ar144 (j := (2 : Int32)) (inb_of (j := (2 : Int32)) S144 ⟨by decide, by decide⟩) (g := (mkF m 50 #[.val (.int p0), .val (.long q1), .second, .val (.long q2), .second, .val (.long q3), .second, .val (.long q4), .second, .val (.long q5), .second, .val (.long v126), .second, .val (.ref b127), .unset] [(.long q4), (.int (2 : Int32)), (.ref b138), (.ref b138)])) rfl rfl (hb hby at_50)
  have V_b138_143 := Arv.set Ar144 q144 S144 N144 H144 G144 rfl W143 2 rfl (Nat.le_of_ble_eq_true rfl)
  have V_b127_143 := V_b127_141.other W143 ne_b127_b138
  have N143 := Fr.snoc X143 N141 ge_b138
  have sz143 : n0 ≤ h143.size := Nat.le_trans sz141 (Nat.le_of_eq W143.size.symm)
  refine Go.st (U' := T143.setTop (mkF m 51 #[.val (.int p0), .val (.long q1), .second, .val (.long q2), .second, .val (.long q3), .second, .val (.long q4), .second, .val (.long q5), .second, .val (.long v126), .second, .val (.ref b127), .unset] [(.ref b138)])) (fun t k => st143 _ k) ?_
  refine Go.st (U' := T143.setTop (mkF m 55 #[.val (.int p0), .val (.long q1), .second, .val (.long q2), .second, .val (.long q3), .second, .val (.long q4), .second, .val (.long q5), .second, .val (.long v126), .second, .val (.ref b127), .unset] [(.long q5), (.int (3 : Int32)), (.ref b138), (.ref b138)])) (fun t k => ?_) ?_
  · show Steps p.tables e below (T143.setTop (mkF m 51 #[.val (.int p0), .val (.long q1), .second, .val (.long q2), .second, .val (.long q3), .second, .val (.long q4), .second, .val (.long q5), .second, .val (.long v126), .second, .val (.ref b127), .unset] [(.ref b138)])) _
    refine XS.dup X143.here hx rfl (hb hby at_51) rfl rfl ?_
    show Steps p.tables e below (T143.setTop (mkF m 52 #[.val (.int p0), .val (.long q1), .second, .val (.long q2), .second, .val (.long q3), .second, .val (.long q4), .second, .val (.long q5), .second, .val (.long v126), .second, .val (.ref b127), .unset] [(.ref b138), (.ref b138)])) _
    refine XS.iconst X143.here hx rfl (hb hby at_52) ?_
    show Steps p.tables e below (T143.setTop (mkF m 53 #[.val (.int p0), .val (.long q1), .second, .val (.long q2), .second, .val (.long q3), .second, .val (.long q4), .second, .val (.long q5), .second, .val (.long v126), .second, .val (.ref b127), .unset] [(.int (3 : Int32)), (.ref b138), (.ref b138)])) _
    refine XS.lload X143.here hx rfl (hb hby at_53) rfl ?_
    exact k
  obtain ⟨cl146, Ar146, q146, S146, N146, H146, G146⟩ := id V_b138_143
  obtain ⟨T145, h145, X145, e145, W145, st145⟩ := stJ X143 hx hZ e143 Ar146 (j := (3 : Int32)) (inb_of (j := (3 : Int32)) S146 ⟨by decide, by decide⟩) (g := (mkF m 55 #[.val (.int p0), .val (.long q1), .second, .val (.long q2), .second, .val (.long q3), .second, .val (.long q4), .second, .val (.long q5), .second, .val (.long v126), .second, .val (.ref b127), .unset] [(.long q5), (.int (3 : Int32)), (.ref b138), (.ref b138)])) rfl rfl (hb hby at_55)
  have V_b138_145 := Arv.set Ar146 q146 S146 N146 H146 G146 rfl W145 3 rfl (Nat.le_of_ble_eq_true rfl)
  have V_b127_145 := V_b127_143.other W145 ne_b127_b138
  have N145 := Fr.snoc X145 N143 ge_b138
  have sz145 : n0 ≤ h145.size := Nat.le_trans sz143 (Nat.le_of_eq W145.size.symm)
  refine Go.st (U' := T145.setTop (mkF m 56 #[.val (.int p0), .val (.long q1), .second, .val (.long q2), .second, .val (.long q3), .second, .val (.long q4), .second, .val (.long q5), .second, .val (.long v126), .second, .val (.ref b127), .unset] [(.ref b138)])) (fun t k => st145 _ k) ?_
  refine Go.st (U' := T145.setTop (mkF m 59 #[.val (.int p0), .val (.long q1), .second, .val (.long q2), .second, .val (.long q3), .second, .val (.long q4), .second, .val (.long q5), .second, .val (.long v126), .second, .val (.ref b127), .unset] [(.long q1), (.int (4 : Int32)), (.ref b138), (.ref b138)])) (fun t k => ?_) ?_
  · show Steps p.tables e below (T145.setTop (mkF m 56 #[.val (.int p0), .val (.long q1), .second, .val (.long q2), .second, .val (.long q3), .second, .val (.long q4), .second, .val (.long q5), .second, .val (.long v126), .second, .val (.ref b127), .unset] [(.ref b138)])) _
    refine XS.dup X145.here hx rfl (hb hby at_56) rfl rfl ?_
    show Steps p.tables e below (T145.setTop (mkF m 57 #[.val (.int p0), .val (.long q1), .second, .val (.long q2), .second, .val (.long q3), .second, .val (.long q4), .second, .val (.long q5), .second, .val (.long v126), .second, .val (.ref b127), .unset] [(.ref b138), (.ref b138)])) _
    refine XS.iconst X145.here hx rfl (hb hby at_57) ?_
    show Steps p.tables e below (T145.setTop (mkF m 58 #[.val (.int p0), .val (.long q1), .second, .val (.long q2), .second, .val (.long q3), .second, .val (.long q4), .second, .val (.long q5), .second, .val (.long v126), .second, .val (.ref b127), .unset] [(.int (4 : Int32)), (.ref b138), (.ref b138)])) _
    refine XS.lloadN X145.here hx rfl (hb hby at_58) rfl ?_
    exact k
  obtain ⟨cl148, Ar148, q148, S148, N148, H148, G148⟩ := id V_b138_145
  obtain ⟨T147, h147, X147, e147, W147, st147⟩ := stJ X145 hx hZ e145 Ar148 (j := (4 : Int32)) (inb_of (j := (4 : Int32)) S148 ⟨by decide, by decide⟩) (g := (mkF m 59 #[.val (.int p0), .val (.long q1), .second, .val (.long q2), .second, .val (.long q3), .second, .val (.long q4), .second, .val (.long q5), .second, .val (.long v126), .second, .val (.ref b127), .unset] [(.long q1), (.int (4 : Int32)), (.ref b138), (.ref b138)])) rfl rfl (hb hby at_59)
  have V_b138_147 := Arv.set Ar148 q148 S148 N148 H148 G148 rfl W147 4 rfl (Nat.le_of_ble_eq_true rfl)
  have V_b127_147 := V_b127_145.other W147 ne_b127_b138
  have N147 := Fr.snoc X147 N145 ge_b138
  have sz147 : n0 ≤ h147.size := Nat.le_trans sz145 (Nat.le_of_eq W147.size.symm)
  refine Go.st (U' := T147.setTop (mkF m 60 #[.val (.int p0), .val (.long q1), .second, .val (.long q2), .second, .val (.long q3), .second, .val (.long q4), .second, .val (.long q5), .second, .val (.long v126), .second, .val (.ref b127), .unset] [(.ref b138)])) (fun t k => st147 _ k) ?_
  refine Go.st (U' := T147.setTop (mkF m 68 #[.val (.int p0), .val (.long q1), .second, .val (.long q2), .second, .val (.long q3), .second, .val (.long q4), .second, .val (.long q5), .second, .val (.long v126), .second, .val (.ref b127), .val (.ref b138)] [(.ref b138), (.ref b127), (.long v126)])) (fun t k => ?_) ?_
  · show Steps p.tables e below (T147.setTop (mkF m 60 #[.val (.int p0), .val (.long q1), .second, .val (.long q2), .second, .val (.long q3), .second, .val (.long q4), .second, .val (.long q5), .second, .val (.long v126), .second, .val (.ref b127), .unset] [(.ref b138)])) _
    refine XS.astore X147.here hx rfl (hb hby at_60) rfl rfl (l' := #[.val (.int p0), .val (.long q1), .second, .val (.long q2), .second, .val (.long q3), .second, .val (.long q4), .second, .val (.long q5), .second, .val (.long v126), .second, .val (.ref b127), .val (.ref b138)]) rfl ?_
    show Steps p.tables e below (T147.setTop (mkF m 62 #[.val (.int p0), .val (.long q1), .second, .val (.long q2), .second, .val (.long q3), .second, .val (.long q4), .second, .val (.long q5), .second, .val (.long v126), .second, .val (.ref b127), .val (.ref b138)] [])) _
    refine XS.lload X147.here hx rfl (hb hby at_62) rfl ?_
    show Steps p.tables e below (T147.setTop (mkF m 64 #[.val (.int p0), .val (.long q1), .second, .val (.long q2), .second, .val (.long q3), .second, .val (.long q4), .second, .val (.long q5), .second, .val (.long v126), .second, .val (.ref b127), .val (.ref b138)] [(.long v126)])) _
    refine XS.aload X147.here hx rfl (hb hby at_64) rfl rfl ?_
    show Steps p.tables e below (T147.setTop (mkF m 66 #[.val (.int p0), .val (.long q1), .second, .val (.long q2), .second, .val (.long q3), .second, .val (.long q4), .second, .val (.long q5), .second, .val (.long v126), .second, .val (.ref b127), .val (.ref b138)] [(.ref b127), (.long v126)])) _
    refine XS.aload X147.here hx rfl (hb hby at_66) rfl rfl ?_
    exact k
  obtain ⟨_, _, ⟨T149, L149, k149, n149⟩, -, X149, ⟨Lc149, hQ149, l149, y149, z149⟩, st149⟩ := Jvm.LawKit.callS X147 hx (y := own_y0) hown (mvT hZ (own_w hw 1 rfl)) (mvT hZ (own_w hw 2 rfl)) (mvT hZ (own_w hw 3 rfl)) (mvT hZ (own_w hw 4 rfl)) (by decide) (backOf (W := 0) (rm1 l Z a0 hw [] v126 b127 b138 k127 k138 q1 q2 q3 q4 q5 q2 q3 q4 q5 q1 h147 n0 sz147 V_b127_147 V_b138_147 ge_b127 ge_b138 ne_b127_b138) hZ (own_w hw 4 rfl) (own_w hw 3 rfl) (by decide) (by decide)) (g := (mkF m 68 #[.val (.int p0), .val (.long q1), .second, .val (.long q2), .second, .val (.long q3), .second, .val (.long q4), .second, .val (.long q5), .second, .val (.long v126), .second, .val (.ref b127), .val (.ref b138)] [(.ref b138), (.ref b127), (.long v126)])) rfl (by rw [hml]; rfl) (argsL := [(.long v126), (.ref b127), (.ref b138)]) (rest := []) (lenOf pd_0 rfl) rfl (by show 2 * 0 + _ ≤ _; exact Nat.le_of_eq rfl) (hb hby at_68) (fun _ _ => ⟨rfl, e147, (by decide : 2 + 0 ≤ _), (by decide : 10 + 0 ≤ _)⟩)
  dsimp only [Pt.U, Pt.locs, Pt.cells, Pt.slots] at X149 l149 y149 z149 st149 hQ149
  subst l149 y149 z149
  obtain ⟨rfl, N149q, K149, P149_0, P149_1⟩ := hQ149
  have sz149 : n0 ≤ T149.heap.size := Nat.le_trans sz147 K149.1
  have N149 := Fr.app N147 N149q
  refine Go.st (U' := T149.setTop (mkF m 71 #[.val (.int p0), .val (.long q1), .second, .val (.long q2), .second, .val (.long q3), .second, .val (.long q4), .second, .val (.long q5), .second, .val (.long v126), .second, .val (.ref b127), .val (.ref b138)] [])) (fun t k => st149 _ k) ?_
  refine Go.st (U' := T149.setTop (mkF m 75 #[.val (.int p0), .val (.long q1), .second, .val (.long q2), .second, .val (.long q3), .second, .val (.long q4), .second, .val (.long q5), .second, .val (.long v126), .second, .val (.ref b127), .val (.ref b138)] [(.int (lcmpW v126 (1 : Int64)))])) (fun t k => ?_) ?_
  · show Steps p.tables e below (T149.setTop (mkF m 71 #[.val (.int p0), .val (.long q1), .second, .val (.long q2), .second, .val (.long q3), .second, .val (.long q4), .second, .val (.long q5), .second, .val (.long v126), .second, .val (.ref b127), .val (.ref b138)] [])) _
    refine XS.lload X149.here hx rfl (hb hby at_71) rfl ?_
    show Steps p.tables e below (T149.setTop (mkF m 73 #[.val (.int p0), .val (.long q1), .second, .val (.long q2), .second, .val (.long q3), .second, .val (.long q4), .second, .val (.long q5), .second, .val (.long v126), .second, .val (.ref b127), .val (.ref b138)] [(.long v126)])) _
    refine XS.lconst X149.here hx rfl (hb hby at_73) ?_
    show Steps p.tables e below (T149.setTop (mkF m 74 #[.val (.int p0), .val (.long q1), .second, .val (.long q2), .second, .val (.long q3), .second, .val (.long q4), .second, .val (.long q5), .second, .val (.long v126), .second, .val (.ref b127), .val (.ref b138)] [(.long (1 : Int64)), (.long v126)])) _
    refine XS.lcmp X149.here hx rfl (hb hby at_74) rfl ?_
    exact k
  by_cases hc150 : v126 = (1 : Int64)
  · obtain ⟨cl151, Ar151, q151, S151, N151, H151, G151⟩ := id P149_0
    obtain ⟨cl152, Ar152, q152, S152, N152, H152, G152⟩ := id P149_1
    refine Go.st (U' := T149.setTop (mkF m 179 #[.val (.int p0), .val (.long q1), .second, .val (.long q2), .second, .val (.long q3), .second, .val (.long q4), .second, .val (.long q5), .second, .val (.long v126), .second, .val (.ref b127), .val (.ref b138)] [(.int (1 : Int32))])) (fun t k => ?_) ?_
    · show Steps p.tables e below (T149.setTop (mkF m 75 #[.val (.int p0), .val (.long q1), .second, .val (.long q2), .second, .val (.long q3), .second, .val (.long q4), .second, .val (.long q5), .second, .val (.long v126), .second, .val (.ref b127), .val (.ref b138)] [(.int (lcmpW v126 (1 : Int64)))])) _
      refine XS.ifNo X149.here hx rfl (hb hby at_75) rfl ((if0 _ _).trans (teq ((lw_eq _ _).mpr hc150)).2) ?_
      show Steps p.tables e below (T149.setTop (mkF m 78 #[.val (.int p0), .val (.long q1), .second, .val (.long q2), .second, .val (.long q3), .second, .val (.long q4), .second, .val (.long q5), .second, .val (.long v126), .second, .val (.ref b127), .val (.ref b138)] [])) _
      refine XS.aload X149.here hx rfl (hb hby at_78) rfl rfl ?_
      show Steps p.tables e below (T149.setTop (mkF m 80 #[.val (.int p0), .val (.long q1), .second, .val (.long q2), .second, .val (.long q3), .second, .val (.long q4), .second, .val (.long q5), .second, .val (.long v126), .second, .val (.ref b127), .val (.ref b138)] [(.ref b127)])) _
      refine XS.iconst X149.here hx rfl (hb hby at_80) ?_
      show Steps p.tables e below (T149.setTop (mkF m 81 #[.val (.int p0), .val (.long q1), .second, .val (.long q2), .second, .val (.long q3), .second, .val (.long q4), .second, .val (.long q5), .second, .val (.long v126), .second, .val (.ref b127), .val (.ref b138)] [(.int (0 : Int32)), (.ref b127)])) _
      refine X149.laload hx (j := (0 : Int32)) (v := (.long (q1 ^^^ ((-v126) &&& (q1 ^^^ q2))))) (Ar151.1) (State.isArrayOf_alike hZ.alike Ar151.2.1) Ar151.2.2 (inb_of (j := (0 : Int32)) S151 ⟨by decide, by decide⟩) (Has.at H151 (inb_of (j := (0 : Int32)) S151 ⟨by decide, by decide⟩) rfl) (g := (mkF m 81 #[.val (.int p0), .val (.long q1), .second, .val (.long q2), .second, .val (.long q3), .second, .val (.long q4), .second, .val (.long q5), .second, .val (.long v126), .second, .val (.ref b127), .val (.ref b138)] [(.int (0 : Int32)), (.ref b127)])) rfl rfl (hb hby at_81) _ ?_
      show Steps p.tables e below (T149.setTop (mkF m 82 #[.val (.int p0), .val (.long q1), .second, .val (.long q2), .second, .val (.long q3), .second, .val (.long q4), .second, .val (.long q5), .second, .val (.long v126), .second, .val (.ref b127), .val (.ref b138)] [(.long (q1 ^^^ ((-v126) &&& (q1 ^^^ q2))))])) _
      refine XS.lloadN X149.here hx rfl (hb hby at_82) rfl ?_
      show Steps p.tables e below (T149.setTop (mkF m 83 #[.val (.int p0), .val (.long q1), .second, .val (.long q2), .second, .val (.long q3), .second, .val (.long q4), .second, .val (.long q5), .second, .val (.long v126), .second, .val (.ref b127), .val (.ref b138)] [(.long q2), (.long (q1 ^^^ ((-v126) &&& (q1 ^^^ q2))))])) _
      refine XS.lcmp X149.here hx rfl (hb hby at_83) rfl ?_
      show Steps p.tables e below (T149.setTop (mkF m 84 #[.val (.int p0), .val (.long q1), .second, .val (.long q2), .second, .val (.long q3), .second, .val (.long q4), .second, .val (.long q5), .second, .val (.long v126), .second, .val (.ref b127), .val (.ref b138)] [(.int (lcmpW (q1 ^^^ ((-v126) &&& (q1 ^^^ q2))) q2))])) _
      refine XS.ifNo X149.here hx rfl (hb hby at_84) rfl ((if0 _ _).trans (teq ((lw_eq _ _).mpr ((own_1 hc150 q1 q2).1 : (q1 ^^^ ((-v126) &&& (q1 ^^^ q2))) = q2))).2) ?_
      show Steps p.tables e below (T149.setTop (mkF m 87 #[.val (.int p0), .val (.long q1), .second, .val (.long q2), .second, .val (.long q3), .second, .val (.long q4), .second, .val (.long q5), .second, .val (.long v126), .second, .val (.ref b127), .val (.ref b138)] [])) _
      refine XS.aload X149.here hx rfl (hb hby at_87) rfl rfl ?_
      show Steps p.tables e below (T149.setTop (mkF m 89 #[.val (.int p0), .val (.long q1), .second, .val (.long q2), .second, .val (.long q3), .second, .val (.long q4), .second, .val (.long q5), .second, .val (.long v126), .second, .val (.ref b127), .val (.ref b138)] [(.ref b127)])) _
      refine XS.iconst X149.here hx rfl (hb hby at_89) ?_
      show Steps p.tables e below (T149.setTop (mkF m 90 #[.val (.int p0), .val (.long q1), .second, .val (.long q2), .second, .val (.long q3), .second, .val (.long q4), .second, .val (.long q5), .second, .val (.long v126), .second, .val (.ref b127), .val (.ref b138)] [(.int (1 : Int32)), (.ref b127)])) _
      refine X149.laload hx (j := (1 : Int32)) (v := (.long (q2 ^^^ ((-v126) &&& (q2 ^^^ q3))))) (Ar151.1) (State.isArrayOf_alike hZ.alike Ar151.2.1) Ar151.2.2 (inb_of (j := (1 : Int32)) S151 ⟨by decide, by decide⟩) (Has.at H151 (inb_of (j := (1 : Int32)) S151 ⟨by decide, by decide⟩) rfl) (g := (mkF m 90 #[.val (.int p0), .val (.long q1), .second, .val (.long q2), .second, .val (.long q3), .second, .val (.long q4), .second, .val (.long q5), .second, .val (.long v126), .second, .val (.ref b127), .val (.ref b138)] [(.int (1 : Int32)), (.ref b127)])) rfl rfl (hb hby at_90) _ ?_
      show Steps p.tables e below (T149.setTop (mkF m 91 #[.val (.int p0), .val (.long q1), .second, .val (.long q2), .second, .val (.long q3), .second, .val (.long q4), .second, .val (.long q5), .second, .val (.long v126), .second, .val (.ref b127), .val (.ref b138)] [(.long (q2 ^^^ ((-v126) &&& (q2 ^^^ q3))))])) _
      refine XS.lload X149.here hx rfl (hb hby at_91) rfl ?_
      show Steps p.tables e below (T149.setTop (mkF m 93 #[.val (.int p0), .val (.long q1), .second, .val (.long q2), .second, .val (.long q3), .second, .val (.long q4), .second, .val (.long q5), .second, .val (.long v126), .second, .val (.ref b127), .val (.ref b138)] [(.long q3), (.long (q2 ^^^ ((-v126) &&& (q2 ^^^ q3))))])) _
      refine XS.lcmp X149.here hx rfl (hb hby at_93) rfl ?_
      show Steps p.tables e below (T149.setTop (mkF m 94 #[.val (.int p0), .val (.long q1), .second, .val (.long q2), .second, .val (.long q3), .second, .val (.long q4), .second, .val (.long q5), .second, .val (.long v126), .second, .val (.ref b127), .val (.ref b138)] [(.int (lcmpW (q2 ^^^ ((-v126) &&& (q2 ^^^ q3))) q3))])) _
      refine XS.ifNo X149.here hx rfl (hb hby at_94) rfl ((if0 _ _).trans (teq ((lw_eq _ _).mpr ((own_1 hc150 q2 q3).1 : (q2 ^^^ ((-v126) &&& (q2 ^^^ q3))) = q3))).2) ?_
      show Steps p.tables e below (T149.setTop (mkF m 97 #[.val (.int p0), .val (.long q1), .second, .val (.long q2), .second, .val (.long q3), .second, .val (.long q4), .second, .val (.long q5), .second, .val (.long v126), .second, .val (.ref b127), .val (.ref b138)] [])) _
      refine XS.aload X149.here hx rfl (hb hby at_97) rfl rfl ?_
      show Steps p.tables e below (T149.setTop (mkF m 99 #[.val (.int p0), .val (.long q1), .second, .val (.long q2), .second, .val (.long q3), .second, .val (.long q4), .second, .val (.long q5), .second, .val (.long v126), .second, .val (.ref b127), .val (.ref b138)] [(.ref b127)])) _
      refine XS.iconst X149.here hx rfl (hb hby at_99) ?_
      show Steps p.tables e below (T149.setTop (mkF m 100 #[.val (.int p0), .val (.long q1), .second, .val (.long q2), .second, .val (.long q3), .second, .val (.long q4), .second, .val (.long q5), .second, .val (.long v126), .second, .val (.ref b127), .val (.ref b138)] [(.int (2 : Int32)), (.ref b127)])) _
      refine X149.laload hx (j := (2 : Int32)) (v := (.long (q3 ^^^ ((-v126) &&& (q3 ^^^ q4))))) (Ar151.1) (State.isArrayOf_alike hZ.alike Ar151.2.1) Ar151.2.2 (inb_of (j := (2 : Int32)) S151 ⟨by decide, by decide⟩) (Has.at H151 (inb_of (j := (2 : Int32)) S151 ⟨by decide, by decide⟩) rfl) (g := (mkF m 100 #[.val (.int p0), .val (.long q1), .second, .val (.long q2), .second, .val (.long q3), .second, .val (.long q4), .second, .val (.long q5), .second, .val (.long v126), .second, .val (.ref b127), .val (.ref b138)] [(.int (2 : Int32)), (.ref b127)])) rfl rfl (hb hby at_100) _ ?_
      show Steps p.tables e below (T149.setTop (mkF m 101 #[.val (.int p0), .val (.long q1), .second, .val (.long q2), .second, .val (.long q3), .second, .val (.long q4), .second, .val (.long q5), .second, .val (.long v126), .second, .val (.ref b127), .val (.ref b138)] [(.long (q3 ^^^ ((-v126) &&& (q3 ^^^ q4))))])) _
      refine XS.lload X149.here hx rfl (hb hby at_101) rfl ?_
      show Steps p.tables e below (T149.setTop (mkF m 103 #[.val (.int p0), .val (.long q1), .second, .val (.long q2), .second, .val (.long q3), .second, .val (.long q4), .second, .val (.long q5), .second, .val (.long v126), .second, .val (.ref b127), .val (.ref b138)] [(.long q4), (.long (q3 ^^^ ((-v126) &&& (q3 ^^^ q4))))])) _
      refine XS.lcmp X149.here hx rfl (hb hby at_103) rfl ?_
      show Steps p.tables e below (T149.setTop (mkF m 104 #[.val (.int p0), .val (.long q1), .second, .val (.long q2), .second, .val (.long q3), .second, .val (.long q4), .second, .val (.long q5), .second, .val (.long v126), .second, .val (.ref b127), .val (.ref b138)] [(.int (lcmpW (q3 ^^^ ((-v126) &&& (q3 ^^^ q4))) q4))])) _
      refine XS.ifNo X149.here hx rfl (hb hby at_104) rfl ((if0 _ _).trans (teq ((lw_eq _ _).mpr ((own_1 hc150 q3 q4).1 : (q3 ^^^ ((-v126) &&& (q3 ^^^ q4))) = q4))).2) ?_
      show Steps p.tables e below (T149.setTop (mkF m 107 #[.val (.int p0), .val (.long q1), .second, .val (.long q2), .second, .val (.long q3), .second, .val (.long q4), .second, .val (.long q5), .second, .val (.long v126), .second, .val (.ref b127), .val (.ref b138)] [])) _
      refine XS.aload X149.here hx rfl (hb hby at_107) rfl rfl ?_
      show Steps p.tables e below (T149.setTop (mkF m 109 #[.val (.int p0), .val (.long q1), .second, .val (.long q2), .second, .val (.long q3), .second, .val (.long q4), .second, .val (.long q5), .second, .val (.long v126), .second, .val (.ref b127), .val (.ref b138)] [(.ref b127)])) _
      refine XS.iconst X149.here hx rfl (hb hby at_109) ?_
      show Steps p.tables e below (T149.setTop (mkF m 110 #[.val (.int p0), .val (.long q1), .second, .val (.long q2), .second, .val (.long q3), .second, .val (.long q4), .second, .val (.long q5), .second, .val (.long v126), .second, .val (.ref b127), .val (.ref b138)] [(.int (3 : Int32)), (.ref b127)])) _
      refine X149.laload hx (j := (3 : Int32)) (v := (.long (q4 ^^^ ((-v126) &&& (q4 ^^^ q5))))) (Ar151.1) (State.isArrayOf_alike hZ.alike Ar151.2.1) Ar151.2.2 (inb_of (j := (3 : Int32)) S151 ⟨by decide, by decide⟩) (Has.at H151 (inb_of (j := (3 : Int32)) S151 ⟨by decide, by decide⟩) rfl) (g := (mkF m 110 #[.val (.int p0), .val (.long q1), .second, .val (.long q2), .second, .val (.long q3), .second, .val (.long q4), .second, .val (.long q5), .second, .val (.long v126), .second, .val (.ref b127), .val (.ref b138)] [(.int (3 : Int32)), (.ref b127)])) rfl rfl (hb hby at_110) _ ?_
      show Steps p.tables e below (T149.setTop (mkF m 111 #[.val (.int p0), .val (.long q1), .second, .val (.long q2), .second, .val (.long q3), .second, .val (.long q4), .second, .val (.long q5), .second, .val (.long v126), .second, .val (.ref b127), .val (.ref b138)] [(.long (q4 ^^^ ((-v126) &&& (q4 ^^^ q5))))])) _
      refine XS.lload X149.here hx rfl (hb hby at_111) rfl ?_
      show Steps p.tables e below (T149.setTop (mkF m 113 #[.val (.int p0), .val (.long q1), .second, .val (.long q2), .second, .val (.long q3), .second, .val (.long q4), .second, .val (.long q5), .second, .val (.long v126), .second, .val (.ref b127), .val (.ref b138)] [(.long q5), (.long (q4 ^^^ ((-v126) &&& (q4 ^^^ q5))))])) _
      refine XS.lcmp X149.here hx rfl (hb hby at_113) rfl ?_
      show Steps p.tables e below (T149.setTop (mkF m 114 #[.val (.int p0), .val (.long q1), .second, .val (.long q2), .second, .val (.long q3), .second, .val (.long q4), .second, .val (.long q5), .second, .val (.long v126), .second, .val (.ref b127), .val (.ref b138)] [(.int (lcmpW (q4 ^^^ ((-v126) &&& (q4 ^^^ q5))) q5))])) _
      refine XS.ifNo X149.here hx rfl (hb hby at_114) rfl ((if0 _ _).trans (teq ((lw_eq _ _).mpr ((own_1 hc150 q4 q5).1 : (q4 ^^^ ((-v126) &&& (q4 ^^^ q5))) = q5))).2) ?_
      show Steps p.tables e below (T149.setTop (mkF m 117 #[.val (.int p0), .val (.long q1), .second, .val (.long q2), .second, .val (.long q3), .second, .val (.long q4), .second, .val (.long q5), .second, .val (.long v126), .second, .val (.ref b127), .val (.ref b138)] [])) _
      refine XS.aload X149.here hx rfl (hb hby at_117) rfl rfl ?_
      show Steps p.tables e below (T149.setTop (mkF m 119 #[.val (.int p0), .val (.long q1), .second, .val (.long q2), .second, .val (.long q3), .second, .val (.long q4), .second, .val (.long q5), .second, .val (.long v126), .second, .val (.ref b127), .val (.ref b138)] [(.ref b127)])) _
      refine XS.iconst X149.here hx rfl (hb hby at_119) ?_
      show Steps p.tables e below (T149.setTop (mkF m 120 #[.val (.int p0), .val (.long q1), .second, .val (.long q2), .second, .val (.long q3), .second, .val (.long q4), .second, .val (.long q5), .second, .val (.long v126), .second, .val (.ref b127), .val (.ref b138)] [(.int (4 : Int32)), (.ref b127)])) _
      refine X149.laload hx (j := (4 : Int32)) (v := (.long (q5 ^^^ ((-v126) &&& (q5 ^^^ q1))))) (Ar151.1) (State.isArrayOf_alike hZ.alike Ar151.2.1) Ar151.2.2 (inb_of (j := (4 : Int32)) S151 ⟨by decide, by decide⟩) (Has.at H151 (inb_of (j := (4 : Int32)) S151 ⟨by decide, by decide⟩) rfl) (g := (mkF m 120 #[.val (.int p0), .val (.long q1), .second, .val (.long q2), .second, .val (.long q3), .second, .val (.long q4), .second, .val (.long q5), .second, .val (.long v126), .second, .val (.ref b127), .val (.ref b138)] [(.int (4 : Int32)), (.ref b127)])) rfl rfl (hb hby at_120) _ ?_
      show Steps p.tables e below (T149.setTop (mkF m 121 #[.val (.int p0), .val (.long q1), .second, .val (.long q2), .second, .val (.long q3), .second, .val (.long q4), .second, .val (.long q5), .second, .val (.long v126), .second, .val (.ref b127), .val (.ref b138)] [(.long (q5 ^^^ ((-v126) &&& (q5 ^^^ q1))))])) _
      refine XS.lloadN X149.here hx rfl (hb hby at_121) rfl ?_
      show Steps p.tables e below (T149.setTop (mkF m 122 #[.val (.int p0), .val (.long q1), .second, .val (.long q2), .second, .val (.long q3), .second, .val (.long q4), .second, .val (.long q5), .second, .val (.long v126), .second, .val (.ref b127), .val (.ref b138)] [(.long q1), (.long (q5 ^^^ ((-v126) &&& (q5 ^^^ q1))))])) _
      refine XS.lcmp X149.here hx rfl (hb hby at_122) rfl ?_
      show Steps p.tables e below (T149.setTop (mkF m 123 #[.val (.int p0), .val (.long q1), .second, .val (.long q2), .second, .val (.long q3), .second, .val (.long q4), .second, .val (.long q5), .second, .val (.long v126), .second, .val (.ref b127), .val (.ref b138)] [(.int (lcmpW (q5 ^^^ ((-v126) &&& (q5 ^^^ q1))) q1))])) _
      refine XS.ifNo X149.here hx rfl (hb hby at_123) rfl ((if0 _ _).trans (teq ((lw_eq _ _).mpr ((own_1 hc150 q5 q1).1 : (q5 ^^^ ((-v126) &&& (q5 ^^^ q1))) = q1))).2) ?_
      show Steps p.tables e below (T149.setTop (mkF m 126 #[.val (.int p0), .val (.long q1), .second, .val (.long q2), .second, .val (.long q3), .second, .val (.long q4), .second, .val (.long q5), .second, .val (.long v126), .second, .val (.ref b127), .val (.ref b138)] [])) _
      refine XS.aload X149.here hx rfl (hb hby at_126) rfl rfl ?_
      show Steps p.tables e below (T149.setTop (mkF m 128 #[.val (.int p0), .val (.long q1), .second, .val (.long q2), .second, .val (.long q3), .second, .val (.long q4), .second, .val (.long q5), .second, .val (.long v126), .second, .val (.ref b127), .val (.ref b138)] [(.ref b138)])) _
      refine XS.iconst X149.here hx rfl (hb hby at_128) ?_
      show Steps p.tables e below (T149.setTop (mkF m 129 #[.val (.int p0), .val (.long q1), .second, .val (.long q2), .second, .val (.long q3), .second, .val (.long q4), .second, .val (.long q5), .second, .val (.long v126), .second, .val (.ref b127), .val (.ref b138)] [(.int (0 : Int32)), (.ref b138)])) _
      refine X149.laload hx (j := (0 : Int32)) (v := (.long (q2 ^^^ ((-v126) &&& (q1 ^^^ q2))))) (Ar152.1) (State.isArrayOf_alike hZ.alike Ar152.2.1) Ar152.2.2 (inb_of (j := (0 : Int32)) S152 ⟨by decide, by decide⟩) (Has.at H152 (inb_of (j := (0 : Int32)) S152 ⟨by decide, by decide⟩) rfl) (g := (mkF m 129 #[.val (.int p0), .val (.long q1), .second, .val (.long q2), .second, .val (.long q3), .second, .val (.long q4), .second, .val (.long q5), .second, .val (.long v126), .second, .val (.ref b127), .val (.ref b138)] [(.int (0 : Int32)), (.ref b138)])) rfl rfl (hb hby at_129) _ ?_
      show Steps p.tables e below (T149.setTop (mkF m 130 #[.val (.int p0), .val (.long q1), .second, .val (.long q2), .second, .val (.long q3), .second, .val (.long q4), .second, .val (.long q5), .second, .val (.long v126), .second, .val (.ref b127), .val (.ref b138)] [(.long (q2 ^^^ ((-v126) &&& (q1 ^^^ q2))))])) _
      refine XS.lloadN X149.here hx rfl (hb hby at_130) rfl ?_
      show Steps p.tables e below (T149.setTop (mkF m 131 #[.val (.int p0), .val (.long q1), .second, .val (.long q2), .second, .val (.long q3), .second, .val (.long q4), .second, .val (.long q5), .second, .val (.long v126), .second, .val (.ref b127), .val (.ref b138)] [(.long q1), (.long (q2 ^^^ ((-v126) &&& (q1 ^^^ q2))))])) _
      refine XS.lcmp X149.here hx rfl (hb hby at_131) rfl ?_
      show Steps p.tables e below (T149.setTop (mkF m 132 #[.val (.int p0), .val (.long q1), .second, .val (.long q2), .second, .val (.long q3), .second, .val (.long q4), .second, .val (.long q5), .second, .val (.long v126), .second, .val (.ref b127), .val (.ref b138)] [(.int (lcmpW (q2 ^^^ ((-v126) &&& (q1 ^^^ q2))) q1))])) _
      refine XS.ifNo X149.here hx rfl (hb hby at_132) rfl ((if0 _ _).trans (teq ((lw_eq _ _).mpr ((own_1 hc150 q1 q2).2 : (q2 ^^^ ((-v126) &&& (q1 ^^^ q2))) = q1))).2) ?_
      show Steps p.tables e below (T149.setTop (mkF m 135 #[.val (.int p0), .val (.long q1), .second, .val (.long q2), .second, .val (.long q3), .second, .val (.long q4), .second, .val (.long q5), .second, .val (.long v126), .second, .val (.ref b127), .val (.ref b138)] [])) _
      refine XS.aload X149.here hx rfl (hb hby at_135) rfl rfl ?_
      show Steps p.tables e below (T149.setTop (mkF m 137 #[.val (.int p0), .val (.long q1), .second, .val (.long q2), .second, .val (.long q3), .second, .val (.long q4), .second, .val (.long q5), .second, .val (.long v126), .second, .val (.ref b127), .val (.ref b138)] [(.ref b138)])) _
      refine XS.iconst X149.here hx rfl (hb hby at_137) ?_
      show Steps p.tables e below (T149.setTop (mkF m 138 #[.val (.int p0), .val (.long q1), .second, .val (.long q2), .second, .val (.long q3), .second, .val (.long q4), .second, .val (.long q5), .second, .val (.long v126), .second, .val (.ref b127), .val (.ref b138)] [(.int (1 : Int32)), (.ref b138)])) _
      refine X149.laload hx (j := (1 : Int32)) (v := (.long (q3 ^^^ ((-v126) &&& (q2 ^^^ q3))))) (Ar152.1) (State.isArrayOf_alike hZ.alike Ar152.2.1) Ar152.2.2 (inb_of (j := (1 : Int32)) S152 ⟨by decide, by decide⟩) (Has.at H152 (inb_of (j := (1 : Int32)) S152 ⟨by decide, by decide⟩) rfl) (g := (mkF m 138 #[.val (.int p0), .val (.long q1), .second, .val (.long q2), .second, .val (.long q3), .second, .val (.long q4), .second, .val (.long q5), .second, .val (.long v126), .second, .val (.ref b127), .val (.ref b138)] [(.int (1 : Int32)), (.ref b138)])) rfl rfl (hb hby at_138) _ ?_
      show Steps p.tables e below (T149.setTop (mkF m 139 #[.val (.int p0), .val (.long q1), .second, .val (.long q2), .second, .val (.long q3), .second, .val (.long q4), .second, .val (.long q5), .second, .val (.long v126), .second, .val (.ref b127), .val (.ref b138)] [(.long (q3 ^^^ ((-v126) &&& (q2 ^^^ q3))))])) _
      refine XS.lloadN X149.here hx rfl (hb hby at_139) rfl ?_
      show Steps p.tables e below (T149.setTop (mkF m 140 #[.val (.int p0), .val (.long q1), .second, .val (.long q2), .second, .val (.long q3), .second, .val (.long q4), .second, .val (.long q5), .second, .val (.long v126), .second, .val (.ref b127), .val (.ref b138)] [(.long q2), (.long (q3 ^^^ ((-v126) &&& (q2 ^^^ q3))))])) _
      refine XS.lcmp X149.here hx rfl (hb hby at_140) rfl ?_
      show Steps p.tables e below (T149.setTop (mkF m 141 #[.val (.int p0), .val (.long q1), .second, .val (.long q2), .second, .val (.long q3), .second, .val (.long q4), .second, .val (.long q5), .second, .val (.long v126), .second, .val (.ref b127), .val (.ref b138)] [(.int (lcmpW (q3 ^^^ ((-v126) &&& (q2 ^^^ q3))) q2))])) _
      refine XS.ifNo X149.here hx rfl (hb hby at_141) rfl ((if0 _ _).trans (teq ((lw_eq _ _).mpr ((own_1 hc150 q2 q3).2 : (q3 ^^^ ((-v126) &&& (q2 ^^^ q3))) = q2))).2) ?_
      show Steps p.tables e below (T149.setTop (mkF m 144 #[.val (.int p0), .val (.long q1), .second, .val (.long q2), .second, .val (.long q3), .second, .val (.long q4), .second, .val (.long q5), .second, .val (.long v126), .second, .val (.ref b127), .val (.ref b138)] [])) _
      refine XS.aload X149.here hx rfl (hb hby at_144) rfl rfl ?_
      show Steps p.tables e below (T149.setTop (mkF m 146 #[.val (.int p0), .val (.long q1), .second, .val (.long q2), .second, .val (.long q3), .second, .val (.long q4), .second, .val (.long q5), .second, .val (.long v126), .second, .val (.ref b127), .val (.ref b138)] [(.ref b138)])) _
      refine XS.iconst X149.here hx rfl (hb hby at_146) ?_
      show Steps p.tables e below (T149.setTop (mkF m 147 #[.val (.int p0), .val (.long q1), .second, .val (.long q2), .second, .val (.long q3), .second, .val (.long q4), .second, .val (.long q5), .second, .val (.long v126), .second, .val (.ref b127), .val (.ref b138)] [(.int (2 : Int32)), (.ref b138)])) _
      refine X149.laload hx (j := (2 : Int32)) (v := (.long (q4 ^^^ ((-v126) &&& (q3 ^^^ q4))))) (Ar152.1) (State.isArrayOf_alike hZ.alike Ar152.2.1) Ar152.2.2 (inb_of (j := (2 : Int32)) S152 ⟨by decide, by decide⟩) (Has.at H152 (inb_of (j := (2 : Int32)) S152 ⟨by decide, by decide⟩) rfl) (g := (mkF m 147 #[.val (.int p0), .val (.long q1), .second, .val (.long q2), .second, .val (.long q3), .second, .val (.long q4), .second, .val (.long q5), .second, .val (.long v126), .second, .val (.ref b127), .val (.ref b138)] [(.int (2 : Int32)), (.ref b138)])) rfl rfl (hb hby at_147) _ ?_
      show Steps p.tables e below (T149.setTop (mkF m 148 #[.val (.int p0), .val (.long q1), .second, .val (.long q2), .second, .val (.long q3), .second, .val (.long q4), .second, .val (.long q5), .second, .val (.long v126), .second, .val (.ref b127), .val (.ref b138)] [(.long (q4 ^^^ ((-v126) &&& (q3 ^^^ q4))))])) _
      refine XS.lload X149.here hx rfl (hb hby at_148) rfl ?_
      show Steps p.tables e below (T149.setTop (mkF m 150 #[.val (.int p0), .val (.long q1), .second, .val (.long q2), .second, .val (.long q3), .second, .val (.long q4), .second, .val (.long q5), .second, .val (.long v126), .second, .val (.ref b127), .val (.ref b138)] [(.long q3), (.long (q4 ^^^ ((-v126) &&& (q3 ^^^ q4))))])) _
      refine XS.lcmp X149.here hx rfl (hb hby at_150) rfl ?_
      show Steps p.tables e below (T149.setTop (mkF m 151 #[.val (.int p0), .val (.long q1), .second, .val (.long q2), .second, .val (.long q3), .second, .val (.long q4), .second, .val (.long q5), .second, .val (.long v126), .second, .val (.ref b127), .val (.ref b138)] [(.int (lcmpW (q4 ^^^ ((-v126) &&& (q3 ^^^ q4))) q3))])) _
      refine XS.ifNo X149.here hx rfl (hb hby at_151) rfl ((if0 _ _).trans (teq ((lw_eq _ _).mpr ((own_1 hc150 q3 q4).2 : (q4 ^^^ ((-v126) &&& (q3 ^^^ q4))) = q3))).2) ?_
      show Steps p.tables e below (T149.setTop (mkF m 154 #[.val (.int p0), .val (.long q1), .second, .val (.long q2), .second, .val (.long q3), .second, .val (.long q4), .second, .val (.long q5), .second, .val (.long v126), .second, .val (.ref b127), .val (.ref b138)] [])) _
      refine XS.aload X149.here hx rfl (hb hby at_154) rfl rfl ?_
      show Steps p.tables e below (T149.setTop (mkF m 156 #[.val (.int p0), .val (.long q1), .second, .val (.long q2), .second, .val (.long q3), .second, .val (.long q4), .second, .val (.long q5), .second, .val (.long v126), .second, .val (.ref b127), .val (.ref b138)] [(.ref b138)])) _
      refine XS.iconst X149.here hx rfl (hb hby at_156) ?_
      show Steps p.tables e below (T149.setTop (mkF m 157 #[.val (.int p0), .val (.long q1), .second, .val (.long q2), .second, .val (.long q3), .second, .val (.long q4), .second, .val (.long q5), .second, .val (.long v126), .second, .val (.ref b127), .val (.ref b138)] [(.int (3 : Int32)), (.ref b138)])) _
      refine X149.laload hx (j := (3 : Int32)) (v := (.long (q5 ^^^ ((-v126) &&& (q4 ^^^ q5))))) (Ar152.1) (State.isArrayOf_alike hZ.alike Ar152.2.1) Ar152.2.2 (inb_of (j := (3 : Int32)) S152 ⟨by decide, by decide⟩) (Has.at H152 (inb_of (j := (3 : Int32)) S152 ⟨by decide, by decide⟩) rfl) (g := (mkF m 157 #[.val (.int p0), .val (.long q1), .second, .val (.long q2), .second, .val (.long q3), .second, .val (.long q4), .second, .val (.long q5), .second, .val (.long v126), .second, .val (.ref b127), .val (.ref b138)] [(.int (3 : Int32)), (.ref b138)])) rfl rfl (hb hby at_157) _ ?_
      show Steps p.tables e below (T149.setTop (mkF m 158 #[.val (.int p0), .val (.long q1), .second, .val (.long q2), .second, .val (.long q3), .second, .val (.long q4), .second, .val (.long q5), .second, .val (.long v126), .second, .val (.ref b127), .val (.ref b138)] [(.long (q5 ^^^ ((-v126) &&& (q4 ^^^ q5))))])) _
      refine XS.lload X149.here hx rfl (hb hby at_158) rfl ?_
      show Steps p.tables e below (T149.setTop (mkF m 160 #[.val (.int p0), .val (.long q1), .second, .val (.long q2), .second, .val (.long q3), .second, .val (.long q4), .second, .val (.long q5), .second, .val (.long v126), .second, .val (.ref b127), .val (.ref b138)] [(.long q4), (.long (q5 ^^^ ((-v126) &&& (q4 ^^^ q5))))])) _
      refine XS.lcmp X149.here hx rfl (hb hby at_160) rfl ?_
      show Steps p.tables e below (T149.setTop (mkF m 161 #[.val (.int p0), .val (.long q1), .second, .val (.long q2), .second, .val (.long q3), .second, .val (.long q4), .second, .val (.long q5), .second, .val (.long v126), .second, .val (.ref b127), .val (.ref b138)] [(.int (lcmpW (q5 ^^^ ((-v126) &&& (q4 ^^^ q5))) q4))])) _
      refine XS.ifNo X149.here hx rfl (hb hby at_161) rfl ((if0 _ _).trans (teq ((lw_eq _ _).mpr ((own_1 hc150 q4 q5).2 : (q5 ^^^ ((-v126) &&& (q4 ^^^ q5))) = q4))).2) ?_
      show Steps p.tables e below (T149.setTop (mkF m 164 #[.val (.int p0), .val (.long q1), .second, .val (.long q2), .second, .val (.long q3), .second, .val (.long q4), .second, .val (.long q5), .second, .val (.long v126), .second, .val (.ref b127), .val (.ref b138)] [])) _
      refine XS.aload X149.here hx rfl (hb hby at_164) rfl rfl ?_
      show Steps p.tables e below (T149.setTop (mkF m 166 #[.val (.int p0), .val (.long q1), .second, .val (.long q2), .second, .val (.long q3), .second, .val (.long q4), .second, .val (.long q5), .second, .val (.long v126), .second, .val (.ref b127), .val (.ref b138)] [(.ref b138)])) _
      refine XS.iconst X149.here hx rfl (hb hby at_166) ?_
      show Steps p.tables e below (T149.setTop (mkF m 167 #[.val (.int p0), .val (.long q1), .second, .val (.long q2), .second, .val (.long q3), .second, .val (.long q4), .second, .val (.long q5), .second, .val (.long v126), .second, .val (.ref b127), .val (.ref b138)] [(.int (4 : Int32)), (.ref b138)])) _
      refine X149.laload hx (j := (4 : Int32)) (v := (.long (q1 ^^^ ((-v126) &&& (q5 ^^^ q1))))) (Ar152.1) (State.isArrayOf_alike hZ.alike Ar152.2.1) Ar152.2.2 (inb_of (j := (4 : Int32)) S152 ⟨by decide, by decide⟩) (Has.at H152 (inb_of (j := (4 : Int32)) S152 ⟨by decide, by decide⟩) rfl) (g := (mkF m 167 #[.val (.int p0), .val (.long q1), .second, .val (.long q2), .second, .val (.long q3), .second, .val (.long q4), .second, .val (.long q5), .second, .val (.long v126), .second, .val (.ref b127), .val (.ref b138)] [(.int (4 : Int32)), (.ref b138)])) rfl rfl (hb hby at_167) _ ?_
      show Steps p.tables e below (T149.setTop (mkF m 168 #[.val (.int p0), .val (.long q1), .second, .val (.long q2), .second, .val (.long q3), .second, .val (.long q4), .second, .val (.long q5), .second, .val (.long v126), .second, .val (.ref b127), .val (.ref b138)] [(.long (q1 ^^^ ((-v126) &&& (q5 ^^^ q1))))])) _
      refine XS.lload X149.here hx rfl (hb hby at_168) rfl ?_
      show Steps p.tables e below (T149.setTop (mkF m 170 #[.val (.int p0), .val (.long q1), .second, .val (.long q2), .second, .val (.long q3), .second, .val (.long q4), .second, .val (.long q5), .second, .val (.long v126), .second, .val (.ref b127), .val (.ref b138)] [(.long q5), (.long (q1 ^^^ ((-v126) &&& (q5 ^^^ q1))))])) _
      refine XS.lcmp X149.here hx rfl (hb hby at_170) rfl ?_
      show Steps p.tables e below (T149.setTop (mkF m 171 #[.val (.int p0), .val (.long q1), .second, .val (.long q2), .second, .val (.long q3), .second, .val (.long q4), .second, .val (.long q5), .second, .val (.long v126), .second, .val (.ref b127), .val (.ref b138)] [(.int (lcmpW (q1 ^^^ ((-v126) &&& (q5 ^^^ q1))) q5))])) _
      refine XS.ifNo X149.here hx rfl (hb hby at_171) rfl ((if0 _ _).trans (teq ((lw_eq _ _).mpr ((own_1 hc150 q5 q1).2 : (q1 ^^^ ((-v126) &&& (q5 ^^^ q1))) = q5))).2) ?_
      show Steps p.tables e below (T149.setTop (mkF m 174 #[.val (.int p0), .val (.long q1), .second, .val (.long q2), .second, .val (.long q3), .second, .val (.long q4), .second, .val (.long q5), .second, .val (.long v126), .second, .val (.ref b127), .val (.ref b138)] [])) _
      refine XS.iconst X149.here hx rfl (hb hby at_174) ?_
      show Steps p.tables e below (T149.setTop (mkF m 175 #[.val (.int p0), .val (.long q1), .second, .val (.long q2), .second, .val (.long q3), .second, .val (.long q4), .second, .val (.long q5), .second, .val (.long v126), .second, .val (.ref b127), .val (.ref b138)] [(.int (1 : Int32))])) _
      refine XS.goto X149.here hx rfl (pc0 := 175) (pc' := 179) rfl (hb hby at_175) (by decide) (by decide) ?_
      exact k
    refine own_ret (Q := Q0 Z p0 q1 q2 q3 q4 q5 h0 n0) (v := some (.int (1 : Int32))) X149 hlk (fun h => by rw [hrt] at h; cases h) (by decide) (by decide) ?_ (fun fs hr => retN X149 hx (t := .boolean) hrt (by simp) (hb hby at_179) hr)
    exact ⟨rfl, N149⟩
  · obtain ⟨cl153, Ar153, q153, S153, N153, H153, G153⟩ := id P149_0
    obtain ⟨cl154, Ar154, q154, S154, N154, H154, G154⟩ := id P149_1
    refine Go.st (U' := T149.setTop (mkF m 281 #[.val (.int p0), .val (.long q1), .second, .val (.long q2), .second, .val (.long q3), .second, .val (.long q4), .second, .val (.long q5), .second, .val (.long v126), .second, .val (.ref b127), .val (.ref b138)] [(.int (1 : Int32))])) (fun t k => ?_) ?_
    · show Steps p.tables e below (T149.setTop (mkF m 75 #[.val (.int p0), .val (.long q1), .second, .val (.long q2), .second, .val (.long q3), .second, .val (.long q4), .second, .val (.long q5), .second, .val (.long v126), .second, .val (.ref b127), .val (.ref b138)] [(.int (lcmpW v126 (1 : Int64)))])) _
      refine XS.ifYes X149.here hx rfl (pc0 := 75) (pc' := 180) rfl (hb hby at_75) rfl ((if0 _ _).trans (feq (fun q => hc150 ((lw_eq _ _).mp q))).2) (by decide) (by decide) ?_
      show Steps p.tables e below (T149.setTop (mkF m 180 #[.val (.int p0), .val (.long q1), .second, .val (.long q2), .second, .val (.long q3), .second, .val (.long q4), .second, .val (.long q5), .second, .val (.long v126), .second, .val (.ref b127), .val (.ref b138)] [])) _
      refine XS.aload X149.here hx rfl (hb hby at_180) rfl rfl ?_
      show Steps p.tables e below (T149.setTop (mkF m 182 #[.val (.int p0), .val (.long q1), .second, .val (.long q2), .second, .val (.long q3), .second, .val (.long q4), .second, .val (.long q5), .second, .val (.long v126), .second, .val (.ref b127), .val (.ref b138)] [(.ref b127)])) _
      refine XS.iconst X149.here hx rfl (hb hby at_182) ?_
      show Steps p.tables e below (T149.setTop (mkF m 183 #[.val (.int p0), .val (.long q1), .second, .val (.long q2), .second, .val (.long q3), .second, .val (.long q4), .second, .val (.long q5), .second, .val (.long v126), .second, .val (.ref b127), .val (.ref b138)] [(.int (0 : Int32)), (.ref b127)])) _
      refine X149.laload hx (j := (0 : Int32)) (v := (.long (q1 ^^^ ((-v126) &&& (q1 ^^^ q2))))) (Ar153.1) (State.isArrayOf_alike hZ.alike Ar153.2.1) Ar153.2.2 (inb_of (j := (0 : Int32)) S153 ⟨by decide, by decide⟩) (Has.at H153 (inb_of (j := (0 : Int32)) S153 ⟨by decide, by decide⟩) rfl) (g := (mkF m 183 #[.val (.int p0), .val (.long q1), .second, .val (.long q2), .second, .val (.long q3), .second, .val (.long q4), .second, .val (.long q5), .second, .val (.long v126), .second, .val (.ref b127), .val (.ref b138)] [(.int (0 : Int32)), (.ref b127)])) rfl rfl (hb hby at_183) _ ?_
      show Steps p.tables e below (T149.setTop (mkF m 184 #[.val (.int p0), .val (.long q1), .second, .val (.long q2), .second, .val (.long q3), .second, .val (.long q4), .second, .val (.long q5), .second, .val (.long v126), .second, .val (.ref b127), .val (.ref b138)] [(.long (q1 ^^^ ((-v126) &&& (q1 ^^^ q2))))])) _
      refine XS.lloadN X149.here hx rfl (hb hby at_184) rfl ?_
      show Steps p.tables e below (T149.setTop (mkF m 185 #[.val (.int p0), .val (.long q1), .second, .val (.long q2), .second, .val (.long q3), .second, .val (.long q4), .second, .val (.long q5), .second, .val (.long v126), .second, .val (.ref b127), .val (.ref b138)] [(.long q1), (.long (q1 ^^^ ((-v126) &&& (q1 ^^^ q2))))])) _
      refine XS.lcmp X149.here hx rfl (hb hby at_185) rfl ?_
      show Steps p.tables e below (T149.setTop (mkF m 186 #[.val (.int p0), .val (.long q1), .second, .val (.long q2), .second, .val (.long q3), .second, .val (.long q4), .second, .val (.long q5), .second, .val (.long v126), .second, .val (.ref b127), .val (.ref b138)] [(.int (lcmpW (q1 ^^^ ((-v126) &&& (q1 ^^^ q2))) q1))])) _
      refine XS.ifNo X149.here hx rfl (hb hby at_186) rfl ((if0 _ _).trans (teq ((lw_eq _ _).mpr ((own_0 hv_v126 hc150 q1 q2).1 : (q1 ^^^ ((-v126) &&& (q1 ^^^ q2))) = q1))).2) ?_
      show Steps p.tables e below (T149.setTop (mkF m 189 #[.val (.int p0), .val (.long q1), .second, .val (.long q2), .second, .val (.long q3), .second, .val (.long q4), .second, .val (.long q5), .second, .val (.long v126), .second, .val (.ref b127), .val (.ref b138)] [])) _
      refine XS.aload X149.here hx rfl (hb hby at_189) rfl rfl ?_
      show Steps p.tables e below (T149.setTop (mkF m 191 #[.val (.int p0), .val (.long q1), .second, .val (.long q2), .second, .val (.long q3), .second, .val (.long q4), .second, .val (.long q5), .second, .val (.long v126), .second, .val (.ref b127), .val (.ref b138)] [(.ref b127)])) _
      refine XS.iconst X149.here hx rfl (hb hby at_191) ?_
      show Steps p.tables e below (T149.setTop (mkF m 192 #[.val (.int p0), .val (.long q1), .second, .val (.long q2), .second, .val (.long q3), .second, .val (.long q4), .second, .val (.long q5), .second, .val (.long v126), .second, .val (.ref b127), .val (.ref b138)] [(.int (1 : Int32)), (.ref b127)])) _
      refine X149.laload hx (j := (1 : Int32)) (v := (.long (q2 ^^^ ((-v126) &&& (q2 ^^^ q3))))) (Ar153.1) (State.isArrayOf_alike hZ.alike Ar153.2.1) Ar153.2.2 (inb_of (j := (1 : Int32)) S153 ⟨by decide, by decide⟩) (Has.at H153 (inb_of (j := (1 : Int32)) S153 ⟨by decide, by decide⟩) rfl) (g := (mkF m 192 #[.val (.int p0), .val (.long q1), .second, .val (.long q2), .second, .val (.long q3), .second, .val (.long q4), .second, .val (.long q5), .second, .val (.long v126), .second, .val (.ref b127), .val (.ref b138)] [(.int (1 : Int32)), (.ref b127)])) rfl rfl (hb hby at_192) _ ?_
      show Steps p.tables e below (T149.setTop (mkF m 193 #[.val (.int p0), .val (.long q1), .second, .val (.long q2), .second, .val (.long q3), .second, .val (.long q4), .second, .val (.long q5), .second, .val (.long v126), .second, .val (.ref b127), .val (.ref b138)] [(.long (q2 ^^^ ((-v126) &&& (q2 ^^^ q3))))])) _
      refine XS.lloadN X149.here hx rfl (hb hby at_193) rfl ?_
      show Steps p.tables e below (T149.setTop (mkF m 194 #[.val (.int p0), .val (.long q1), .second, .val (.long q2), .second, .val (.long q3), .second, .val (.long q4), .second, .val (.long q5), .second, .val (.long v126), .second, .val (.ref b127), .val (.ref b138)] [(.long q2), (.long (q2 ^^^ ((-v126) &&& (q2 ^^^ q3))))])) _
      refine XS.lcmp X149.here hx rfl (hb hby at_194) rfl ?_
      show Steps p.tables e below (T149.setTop (mkF m 195 #[.val (.int p0), .val (.long q1), .second, .val (.long q2), .second, .val (.long q3), .second, .val (.long q4), .second, .val (.long q5), .second, .val (.long v126), .second, .val (.ref b127), .val (.ref b138)] [(.int (lcmpW (q2 ^^^ ((-v126) &&& (q2 ^^^ q3))) q2))])) _
      refine XS.ifNo X149.here hx rfl (hb hby at_195) rfl ((if0 _ _).trans (teq ((lw_eq _ _).mpr ((own_0 hv_v126 hc150 q2 q3).1 : (q2 ^^^ ((-v126) &&& (q2 ^^^ q3))) = q2))).2) ?_
      show Steps p.tables e below (T149.setTop (mkF m 198 #[.val (.int p0), .val (.long q1), .second, .val (.long q2), .second, .val (.long q3), .second, .val (.long q4), .second, .val (.long q5), .second, .val (.long v126), .second, .val (.ref b127), .val (.ref b138)] [])) _
      refine XS.aload X149.here hx rfl (hb hby at_198) rfl rfl ?_
      show Steps p.tables e below (T149.setTop (mkF m 200 #[.val (.int p0), .val (.long q1), .second, .val (.long q2), .second, .val (.long q3), .second, .val (.long q4), .second, .val (.long q5), .second, .val (.long v126), .second, .val (.ref b127), .val (.ref b138)] [(.ref b127)])) _
      refine XS.iconst X149.here hx rfl (hb hby at_200) ?_
      show Steps p.tables e below (T149.setTop (mkF m 201 #[.val (.int p0), .val (.long q1), .second, .val (.long q2), .second, .val (.long q3), .second, .val (.long q4), .second, .val (.long q5), .second, .val (.long v126), .second, .val (.ref b127), .val (.ref b138)] [(.int (2 : Int32)), (.ref b127)])) _
      refine X149.laload hx (j := (2 : Int32)) (v := (.long (q3 ^^^ ((-v126) &&& (q3 ^^^ q4))))) (Ar153.1) (State.isArrayOf_alike hZ.alike Ar153.2.1) Ar153.2.2 (inb_of (j := (2 : Int32)) S153 ⟨by decide, by decide⟩) (Has.at H153 (inb_of (j := (2 : Int32)) S153 ⟨by decide, by decide⟩) rfl) (g := (mkF m 201 #[.val (.int p0), .val (.long q1), .second, .val (.long q2), .second, .val (.long q3), .second, .val (.long q4), .second, .val (.long q5), .second, .val (.long v126), .second, .val (.ref b127), .val (.ref b138)] [(.int (2 : Int32)), (.ref b127)])) rfl rfl (hb hby at_201) _ ?_
      show Steps p.tables e below (T149.setTop (mkF m 202 #[.val (.int p0), .val (.long q1), .second, .val (.long q2), .second, .val (.long q3), .second, .val (.long q4), .second, .val (.long q5), .second, .val (.long v126), .second, .val (.ref b127), .val (.ref b138)] [(.long (q3 ^^^ ((-v126) &&& (q3 ^^^ q4))))])) _
      refine XS.lload X149.here hx rfl (hb hby at_202) rfl ?_
      show Steps p.tables e below (T149.setTop (mkF m 204 #[.val (.int p0), .val (.long q1), .second, .val (.long q2), .second, .val (.long q3), .second, .val (.long q4), .second, .val (.long q5), .second, .val (.long v126), .second, .val (.ref b127), .val (.ref b138)] [(.long q3), (.long (q3 ^^^ ((-v126) &&& (q3 ^^^ q4))))])) _
      refine XS.lcmp X149.here hx rfl (hb hby at_204) rfl ?_
      show Steps p.tables e below (T149.setTop (mkF m 205 #[.val (.int p0), .val (.long q1), .second, .val (.long q2), .second, .val (.long q3), .second, .val (.long q4), .second, .val (.long q5), .second, .val (.long v126), .second, .val (.ref b127), .val (.ref b138)] [(.int (lcmpW (q3 ^^^ ((-v126) &&& (q3 ^^^ q4))) q3))])) _
      refine XS.ifNo X149.here hx rfl (hb hby at_205) rfl ((if0 _ _).trans (teq ((lw_eq _ _).mpr ((own_0 hv_v126 hc150 q3 q4).1 : (q3 ^^^ ((-v126) &&& (q3 ^^^ q4))) = q3))).2) ?_
      show Steps p.tables e below (T149.setTop (mkF m 208 #[.val (.int p0), .val (.long q1), .second, .val (.long q2), .second, .val (.long q3), .second, .val (.long q4), .second, .val (.long q5), .second, .val (.long v126), .second, .val (.ref b127), .val (.ref b138)] [])) _
      refine XS.aload X149.here hx rfl (hb hby at_208) rfl rfl ?_
      show Steps p.tables e below (T149.setTop (mkF m 210 #[.val (.int p0), .val (.long q1), .second, .val (.long q2), .second, .val (.long q3), .second, .val (.long q4), .second, .val (.long q5), .second, .val (.long v126), .second, .val (.ref b127), .val (.ref b138)] [(.ref b127)])) _
      refine XS.iconst X149.here hx rfl (hb hby at_210) ?_
      show Steps p.tables e below (T149.setTop (mkF m 211 #[.val (.int p0), .val (.long q1), .second, .val (.long q2), .second, .val (.long q3), .second, .val (.long q4), .second, .val (.long q5), .second, .val (.long v126), .second, .val (.ref b127), .val (.ref b138)] [(.int (3 : Int32)), (.ref b127)])) _
      refine X149.laload hx (j := (3 : Int32)) (v := (.long (q4 ^^^ ((-v126) &&& (q4 ^^^ q5))))) (Ar153.1) (State.isArrayOf_alike hZ.alike Ar153.2.1) Ar153.2.2 (inb_of (j := (3 : Int32)) S153 ⟨by decide, by decide⟩) (Has.at H153 (inb_of (j := (3 : Int32)) S153 ⟨by decide, by decide⟩) rfl) (g := (mkF m 211 #[.val (.int p0), .val (.long q1), .second, .val (.long q2), .second, .val (.long q3), .second, .val (.long q4), .second, .val (.long q5), .second, .val (.long v126), .second, .val (.ref b127), .val (.ref b138)] [(.int (3 : Int32)), (.ref b127)])) rfl rfl (hb hby at_211) _ ?_
      show Steps p.tables e below (T149.setTop (mkF m 212 #[.val (.int p0), .val (.long q1), .second, .val (.long q2), .second, .val (.long q3), .second, .val (.long q4), .second, .val (.long q5), .second, .val (.long v126), .second, .val (.ref b127), .val (.ref b138)] [(.long (q4 ^^^ ((-v126) &&& (q4 ^^^ q5))))])) _
      refine XS.lload X149.here hx rfl (hb hby at_212) rfl ?_
      show Steps p.tables e below (T149.setTop (mkF m 214 #[.val (.int p0), .val (.long q1), .second, .val (.long q2), .second, .val (.long q3), .second, .val (.long q4), .second, .val (.long q5), .second, .val (.long v126), .second, .val (.ref b127), .val (.ref b138)] [(.long q4), (.long (q4 ^^^ ((-v126) &&& (q4 ^^^ q5))))])) _
      refine XS.lcmp X149.here hx rfl (hb hby at_214) rfl ?_
      show Steps p.tables e below (T149.setTop (mkF m 215 #[.val (.int p0), .val (.long q1), .second, .val (.long q2), .second, .val (.long q3), .second, .val (.long q4), .second, .val (.long q5), .second, .val (.long v126), .second, .val (.ref b127), .val (.ref b138)] [(.int (lcmpW (q4 ^^^ ((-v126) &&& (q4 ^^^ q5))) q4))])) _
      refine XS.ifNo X149.here hx rfl (hb hby at_215) rfl ((if0 _ _).trans (teq ((lw_eq _ _).mpr ((own_0 hv_v126 hc150 q4 q5).1 : (q4 ^^^ ((-v126) &&& (q4 ^^^ q5))) = q4))).2) ?_
      show Steps p.tables e below (T149.setTop (mkF m 218 #[.val (.int p0), .val (.long q1), .second, .val (.long q2), .second, .val (.long q3), .second, .val (.long q4), .second, .val (.long q5), .second, .val (.long v126), .second, .val (.ref b127), .val (.ref b138)] [])) _
      refine XS.aload X149.here hx rfl (hb hby at_218) rfl rfl ?_
      show Steps p.tables e below (T149.setTop (mkF m 220 #[.val (.int p0), .val (.long q1), .second, .val (.long q2), .second, .val (.long q3), .second, .val (.long q4), .second, .val (.long q5), .second, .val (.long v126), .second, .val (.ref b127), .val (.ref b138)] [(.ref b127)])) _
      refine XS.iconst X149.here hx rfl (hb hby at_220) ?_
      show Steps p.tables e below (T149.setTop (mkF m 221 #[.val (.int p0), .val (.long q1), .second, .val (.long q2), .second, .val (.long q3), .second, .val (.long q4), .second, .val (.long q5), .second, .val (.long v126), .second, .val (.ref b127), .val (.ref b138)] [(.int (4 : Int32)), (.ref b127)])) _
      refine X149.laload hx (j := (4 : Int32)) (v := (.long (q5 ^^^ ((-v126) &&& (q5 ^^^ q1))))) (Ar153.1) (State.isArrayOf_alike hZ.alike Ar153.2.1) Ar153.2.2 (inb_of (j := (4 : Int32)) S153 ⟨by decide, by decide⟩) (Has.at H153 (inb_of (j := (4 : Int32)) S153 ⟨by decide, by decide⟩) rfl) (g := (mkF m 221 #[.val (.int p0), .val (.long q1), .second, .val (.long q2), .second, .val (.long q3), .second, .val (.long q4), .second, .val (.long q5), .second, .val (.long v126), .second, .val (.ref b127), .val (.ref b138)] [(.int (4 : Int32)), (.ref b127)])) rfl rfl (hb hby at_221) _ ?_
      show Steps p.tables e below (T149.setTop (mkF m 222 #[.val (.int p0), .val (.long q1), .second, .val (.long q2), .second, .val (.long q3), .second, .val (.long q4), .second, .val (.long q5), .second, .val (.long v126), .second, .val (.ref b127), .val (.ref b138)] [(.long (q5 ^^^ ((-v126) &&& (q5 ^^^ q1))))])) _
      refine XS.lload X149.here hx rfl (hb hby at_222) rfl ?_
      show Steps p.tables e below (T149.setTop (mkF m 224 #[.val (.int p0), .val (.long q1), .second, .val (.long q2), .second, .val (.long q3), .second, .val (.long q4), .second, .val (.long q5), .second, .val (.long v126), .second, .val (.ref b127), .val (.ref b138)] [(.long q5), (.long (q5 ^^^ ((-v126) &&& (q5 ^^^ q1))))])) _
      refine XS.lcmp X149.here hx rfl (hb hby at_224) rfl ?_
      show Steps p.tables e below (T149.setTop (mkF m 225 #[.val (.int p0), .val (.long q1), .second, .val (.long q2), .second, .val (.long q3), .second, .val (.long q4), .second, .val (.long q5), .second, .val (.long v126), .second, .val (.ref b127), .val (.ref b138)] [(.int (lcmpW (q5 ^^^ ((-v126) &&& (q5 ^^^ q1))) q5))])) _
      refine XS.ifNo X149.here hx rfl (hb hby at_225) rfl ((if0 _ _).trans (teq ((lw_eq _ _).mpr ((own_0 hv_v126 hc150 q5 q1).1 : (q5 ^^^ ((-v126) &&& (q5 ^^^ q1))) = q5))).2) ?_
      show Steps p.tables e below (T149.setTop (mkF m 228 #[.val (.int p0), .val (.long q1), .second, .val (.long q2), .second, .val (.long q3), .second, .val (.long q4), .second, .val (.long q5), .second, .val (.long v126), .second, .val (.ref b127), .val (.ref b138)] [])) _
      refine XS.aload X149.here hx rfl (hb hby at_228) rfl rfl ?_
      show Steps p.tables e below (T149.setTop (mkF m 230 #[.val (.int p0), .val (.long q1), .second, .val (.long q2), .second, .val (.long q3), .second, .val (.long q4), .second, .val (.long q5), .second, .val (.long v126), .second, .val (.ref b127), .val (.ref b138)] [(.ref b138)])) _
      refine XS.iconst X149.here hx rfl (hb hby at_230) ?_
      show Steps p.tables e below (T149.setTop (mkF m 231 #[.val (.int p0), .val (.long q1), .second, .val (.long q2), .second, .val (.long q3), .second, .val (.long q4), .second, .val (.long q5), .second, .val (.long v126), .second, .val (.ref b127), .val (.ref b138)] [(.int (0 : Int32)), (.ref b138)])) _
      refine X149.laload hx (j := (0 : Int32)) (v := (.long (q2 ^^^ ((-v126) &&& (q1 ^^^ q2))))) (Ar154.1) (State.isArrayOf_alike hZ.alike Ar154.2.1) Ar154.2.2 (inb_of (j := (0 : Int32)) S154 ⟨by decide, by decide⟩) (Has.at H154 (inb_of (j := (0 : Int32)) S154 ⟨by decide, by decide⟩) rfl) (g := (mkF m 231 #[.val (.int p0), .val (.long q1), .second, .val (.long q2), .second, .val (.long q3), .second, .val (.long q4), .second, .val (.long q5), .second, .val (.long v126), .second, .val (.ref b127), .val (.ref b138)] [(.int (0 : Int32)), (.ref b138)])) rfl rfl (hb hby at_231) _ ?_
      show Steps p.tables e below (T149.setTop (mkF m 232 #[.val (.int p0), .val (.long q1), .second, .val (.long q2), .second, .val (.long q3), .second, .val (.long q4), .second, .val (.long q5), .second, .val (.long v126), .second, .val (.ref b127), .val (.ref b138)] [(.long (q2 ^^^ ((-v126) &&& (q1 ^^^ q2))))])) _
      refine XS.lloadN X149.here hx rfl (hb hby at_232) rfl ?_
      show Steps p.tables e below (T149.setTop (mkF m 233 #[.val (.int p0), .val (.long q1), .second, .val (.long q2), .second, .val (.long q3), .second, .val (.long q4), .second, .val (.long q5), .second, .val (.long v126), .second, .val (.ref b127), .val (.ref b138)] [(.long q2), (.long (q2 ^^^ ((-v126) &&& (q1 ^^^ q2))))])) _
      refine XS.lcmp X149.here hx rfl (hb hby at_233) rfl ?_
      show Steps p.tables e below (T149.setTop (mkF m 234 #[.val (.int p0), .val (.long q1), .second, .val (.long q2), .second, .val (.long q3), .second, .val (.long q4), .second, .val (.long q5), .second, .val (.long v126), .second, .val (.ref b127), .val (.ref b138)] [(.int (lcmpW (q2 ^^^ ((-v126) &&& (q1 ^^^ q2))) q2))])) _
      refine XS.ifNo X149.here hx rfl (hb hby at_234) rfl ((if0 _ _).trans (teq ((lw_eq _ _).mpr ((own_0 hv_v126 hc150 q1 q2).2 : (q2 ^^^ ((-v126) &&& (q1 ^^^ q2))) = q2))).2) ?_
      show Steps p.tables e below (T149.setTop (mkF m 237 #[.val (.int p0), .val (.long q1), .second, .val (.long q2), .second, .val (.long q3), .second, .val (.long q4), .second, .val (.long q5), .second, .val (.long v126), .second, .val (.ref b127), .val (.ref b138)] [])) _
      refine XS.aload X149.here hx rfl (hb hby at_237) rfl rfl ?_
      show Steps p.tables e below (T149.setTop (mkF m 239 #[.val (.int p0), .val (.long q1), .second, .val (.long q2), .second, .val (.long q3), .second, .val (.long q4), .second, .val (.long q5), .second, .val (.long v126), .second, .val (.ref b127), .val (.ref b138)] [(.ref b138)])) _
      refine XS.iconst X149.here hx rfl (hb hby at_239) ?_
      show Steps p.tables e below (T149.setTop (mkF m 240 #[.val (.int p0), .val (.long q1), .second, .val (.long q2), .second, .val (.long q3), .second, .val (.long q4), .second, .val (.long q5), .second, .val (.long v126), .second, .val (.ref b127), .val (.ref b138)] [(.int (1 : Int32)), (.ref b138)])) _
      refine X149.laload hx (j := (1 : Int32)) (v := (.long (q3 ^^^ ((-v126) &&& (q2 ^^^ q3))))) (Ar154.1) (State.isArrayOf_alike hZ.alike Ar154.2.1) Ar154.2.2 (inb_of (j := (1 : Int32)) S154 ⟨by decide, by decide⟩) (Has.at H154 (inb_of (j := (1 : Int32)) S154 ⟨by decide, by decide⟩) rfl) (g := (mkF m 240 #[.val (.int p0), .val (.long q1), .second, .val (.long q2), .second, .val (.long q3), .second, .val (.long q4), .second, .val (.long q5), .second, .val (.long v126), .second, .val (.ref b127), .val (.ref b138)] [(.int (1 : Int32)), (.ref b138)])) rfl rfl (hb hby at_240) _ ?_
      show Steps p.tables e below (T149.setTop (mkF m 241 #[.val (.int p0), .val (.long q1), .second, .val (.long q2), .second, .val (.long q3), .second, .val (.long q4), .second, .val (.long q5), .second, .val (.long v126), .second, .val (.ref b127), .val (.ref b138)] [(.long (q3 ^^^ ((-v126) &&& (q2 ^^^ q3))))])) _
      refine XS.lload X149.here hx rfl (hb hby at_241) rfl ?_
      show Steps p.tables e below (T149.setTop (mkF m 243 #[.val (.int p0), .val (.long q1), .second, .val (.long q2), .second, .val (.long q3), .second, .val (.long q4), .second, .val (.long q5), .second, .val (.long v126), .second, .val (.ref b127), .val (.ref b138)] [(.long q3), (.long (q3 ^^^ ((-v126) &&& (q2 ^^^ q3))))])) _
      refine XS.lcmp X149.here hx rfl (hb hby at_243) rfl ?_
      show Steps p.tables e below (T149.setTop (mkF m 244 #[.val (.int p0), .val (.long q1), .second, .val (.long q2), .second, .val (.long q3), .second, .val (.long q4), .second, .val (.long q5), .second, .val (.long v126), .second, .val (.ref b127), .val (.ref b138)] [(.int (lcmpW (q3 ^^^ ((-v126) &&& (q2 ^^^ q3))) q3))])) _
      refine XS.ifNo X149.here hx rfl (hb hby at_244) rfl ((if0 _ _).trans (teq ((lw_eq _ _).mpr ((own_0 hv_v126 hc150 q2 q3).2 : (q3 ^^^ ((-v126) &&& (q2 ^^^ q3))) = q3))).2) ?_
      show Steps p.tables e below (T149.setTop (mkF m 247 #[.val (.int p0), .val (.long q1), .second, .val (.long q2), .second, .val (.long q3), .second, .val (.long q4), .second, .val (.long q5), .second, .val (.long v126), .second, .val (.ref b127), .val (.ref b138)] [])) _
      refine XS.aload X149.here hx rfl (hb hby at_247) rfl rfl ?_
      show Steps p.tables e below (T149.setTop (mkF m 249 #[.val (.int p0), .val (.long q1), .second, .val (.long q2), .second, .val (.long q3), .second, .val (.long q4), .second, .val (.long q5), .second, .val (.long v126), .second, .val (.ref b127), .val (.ref b138)] [(.ref b138)])) _
      refine XS.iconst X149.here hx rfl (hb hby at_249) ?_
      show Steps p.tables e below (T149.setTop (mkF m 250 #[.val (.int p0), .val (.long q1), .second, .val (.long q2), .second, .val (.long q3), .second, .val (.long q4), .second, .val (.long q5), .second, .val (.long v126), .second, .val (.ref b127), .val (.ref b138)] [(.int (2 : Int32)), (.ref b138)])) _
      refine X149.laload hx (j := (2 : Int32)) (v := (.long (q4 ^^^ ((-v126) &&& (q3 ^^^ q4))))) (Ar154.1) (State.isArrayOf_alike hZ.alike Ar154.2.1) Ar154.2.2 (inb_of (j := (2 : Int32)) S154 ⟨by decide, by decide⟩) (Has.at H154 (inb_of (j := (2 : Int32)) S154 ⟨by decide, by decide⟩) rfl) (g := (mkF m 250 #[.val (.int p0), .val (.long q1), .second, .val (.long q2), .second, .val (.long q3), .second, .val (.long q4), .second, .val (.long q5), .second, .val (.long v126), .second, .val (.ref b127), .val (.ref b138)] [(.int (2 : Int32)), (.ref b138)])) rfl rfl (hb hby at_250) _ ?_
      show Steps p.tables e below (T149.setTop (mkF m 251 #[.val (.int p0), .val (.long q1), .second, .val (.long q2), .second, .val (.long q3), .second, .val (.long q4), .second, .val (.long q5), .second, .val (.long v126), .second, .val (.ref b127), .val (.ref b138)] [(.long (q4 ^^^ ((-v126) &&& (q3 ^^^ q4))))])) _
      refine XS.lload X149.here hx rfl (hb hby at_251) rfl ?_
      show Steps p.tables e below (T149.setTop (mkF m 253 #[.val (.int p0), .val (.long q1), .second, .val (.long q2), .second, .val (.long q3), .second, .val (.long q4), .second, .val (.long q5), .second, .val (.long v126), .second, .val (.ref b127), .val (.ref b138)] [(.long q4), (.long (q4 ^^^ ((-v126) &&& (q3 ^^^ q4))))])) _
      refine XS.lcmp X149.here hx rfl (hb hby at_253) rfl ?_
      show Steps p.tables e below (T149.setTop (mkF m 254 #[.val (.int p0), .val (.long q1), .second, .val (.long q2), .second, .val (.long q3), .second, .val (.long q4), .second, .val (.long q5), .second, .val (.long v126), .second, .val (.ref b127), .val (.ref b138)] [(.int (lcmpW (q4 ^^^ ((-v126) &&& (q3 ^^^ q4))) q4))])) _
      refine XS.ifNo X149.here hx rfl (hb hby at_254) rfl ((if0 _ _).trans (teq ((lw_eq _ _).mpr ((own_0 hv_v126 hc150 q3 q4).2 : (q4 ^^^ ((-v126) &&& (q3 ^^^ q4))) = q4))).2) ?_
      show Steps p.tables e below (T149.setTop (mkF m 257 #[.val (.int p0), .val (.long q1), .second, .val (.long q2), .second, .val (.long q3), .second, .val (.long q4), .second, .val (.long q5), .second, .val (.long v126), .second, .val (.ref b127), .val (.ref b138)] [])) _
      refine XS.aload X149.here hx rfl (hb hby at_257) rfl rfl ?_
      show Steps p.tables e below (T149.setTop (mkF m 259 #[.val (.int p0), .val (.long q1), .second, .val (.long q2), .second, .val (.long q3), .second, .val (.long q4), .second, .val (.long q5), .second, .val (.long v126), .second, .val (.ref b127), .val (.ref b138)] [(.ref b138)])) _
      refine XS.iconst X149.here hx rfl (hb hby at_259) ?_
      show Steps p.tables e below (T149.setTop (mkF m 260 #[.val (.int p0), .val (.long q1), .second, .val (.long q2), .second, .val (.long q3), .second, .val (.long q4), .second, .val (.long q5), .second, .val (.long v126), .second, .val (.ref b127), .val (.ref b138)] [(.int (3 : Int32)), (.ref b138)])) _
      refine X149.laload hx (j := (3 : Int32)) (v := (.long (q5 ^^^ ((-v126) &&& (q4 ^^^ q5))))) (Ar154.1) (State.isArrayOf_alike hZ.alike Ar154.2.1) Ar154.2.2 (inb_of (j := (3 : Int32)) S154 ⟨by decide, by decide⟩) (Has.at H154 (inb_of (j := (3 : Int32)) S154 ⟨by decide, by decide⟩) rfl) (g := (mkF m 260 #[.val (.int p0), .val (.long q1), .second, .val (.long q2), .second, .val (.long q3), .second, .val (.long q4), .second, .val (.long q5), .second, .val (.long v126), .second, .val (.ref b127), .val (.ref b138)] [(.int (3 : Int32)), (.ref b138)])) rfl rfl (hb hby at_260) _ ?_
      show Steps p.tables e below (T149.setTop (mkF m 261 #[.val (.int p0), .val (.long q1), .second, .val (.long q2), .second, .val (.long q3), .second, .val (.long q4), .second, .val (.long q5), .second, .val (.long v126), .second, .val (.ref b127), .val (.ref b138)] [(.long (q5 ^^^ ((-v126) &&& (q4 ^^^ q5))))])) _
      refine XS.lload X149.here hx rfl (hb hby at_261) rfl ?_
      show Steps p.tables e below (T149.setTop (mkF m 263 #[.val (.int p0), .val (.long q1), .second, .val (.long q2), .second, .val (.long q3), .second, .val (.long q4), .second, .val (.long q5), .second, .val (.long v126), .second, .val (.ref b127), .val (.ref b138)] [(.long q5), (.long (q5 ^^^ ((-v126) &&& (q4 ^^^ q5))))])) _
      refine XS.lcmp X149.here hx rfl (hb hby at_263) rfl ?_
      show Steps p.tables e below (T149.setTop (mkF m 264 #[.val (.int p0), .val (.long q1), .second, .val (.long q2), .second, .val (.long q3), .second, .val (.long q4), .second, .val (.long q5), .second, .val (.long v126), .second, .val (.ref b127), .val (.ref b138)] [(.int (lcmpW (q5 ^^^ ((-v126) &&& (q4 ^^^ q5))) q5))])) _
      refine XS.ifNo X149.here hx rfl (hb hby at_264) rfl ((if0 _ _).trans (teq ((lw_eq _ _).mpr ((own_0 hv_v126 hc150 q4 q5).2 : (q5 ^^^ ((-v126) &&& (q4 ^^^ q5))) = q5))).2) ?_
      show Steps p.tables e below (T149.setTop (mkF m 267 #[.val (.int p0), .val (.long q1), .second, .val (.long q2), .second, .val (.long q3), .second, .val (.long q4), .second, .val (.long q5), .second, .val (.long v126), .second, .val (.ref b127), .val (.ref b138)] [])) _
      refine XS.aload X149.here hx rfl (hb hby at_267) rfl rfl ?_
      show Steps p.tables e below (T149.setTop (mkF m 269 #[.val (.int p0), .val (.long q1), .second, .val (.long q2), .second, .val (.long q3), .second, .val (.long q4), .second, .val (.long q5), .second, .val (.long v126), .second, .val (.ref b127), .val (.ref b138)] [(.ref b138)])) _
      refine XS.iconst X149.here hx rfl (hb hby at_269) ?_
      show Steps p.tables e below (T149.setTop (mkF m 270 #[.val (.int p0), .val (.long q1), .second, .val (.long q2), .second, .val (.long q3), .second, .val (.long q4), .second, .val (.long q5), .second, .val (.long v126), .second, .val (.ref b127), .val (.ref b138)] [(.int (4 : Int32)), (.ref b138)])) _
      refine X149.laload hx (j := (4 : Int32)) (v := (.long (q1 ^^^ ((-v126) &&& (q5 ^^^ q1))))) (Ar154.1) (State.isArrayOf_alike hZ.alike Ar154.2.1) Ar154.2.2 (inb_of (j := (4 : Int32)) S154 ⟨by decide, by decide⟩) (Has.at H154 (inb_of (j := (4 : Int32)) S154 ⟨by decide, by decide⟩) rfl) (g := (mkF m 270 #[.val (.int p0), .val (.long q1), .second, .val (.long q2), .second, .val (.long q3), .second, .val (.long q4), .second, .val (.long q5), .second, .val (.long v126), .second, .val (.ref b127), .val (.ref b138)] [(.int (4 : Int32)), (.ref b138)])) rfl rfl (hb hby at_270) _ ?_
      show Steps p.tables e below (T149.setTop (mkF m 271 #[.val (.int p0), .val (.long q1), .second, .val (.long q2), .second, .val (.long q3), .second, .val (.long q4), .second, .val (.long q5), .second, .val (.long v126), .second, .val (.ref b127), .val (.ref b138)] [(.long (q1 ^^^ ((-v126) &&& (q5 ^^^ q1))))])) _
      refine XS.lloadN X149.here hx rfl (hb hby at_271) rfl ?_
      show Steps p.tables e below (T149.setTop (mkF m 272 #[.val (.int p0), .val (.long q1), .second, .val (.long q2), .second, .val (.long q3), .second, .val (.long q4), .second, .val (.long q5), .second, .val (.long v126), .second, .val (.ref b127), .val (.ref b138)] [(.long q1), (.long (q1 ^^^ ((-v126) &&& (q5 ^^^ q1))))])) _
      refine XS.lcmp X149.here hx rfl (hb hby at_272) rfl ?_
      show Steps p.tables e below (T149.setTop (mkF m 273 #[.val (.int p0), .val (.long q1), .second, .val (.long q2), .second, .val (.long q3), .second, .val (.long q4), .second, .val (.long q5), .second, .val (.long v126), .second, .val (.ref b127), .val (.ref b138)] [(.int (lcmpW (q1 ^^^ ((-v126) &&& (q5 ^^^ q1))) q1))])) _
      refine XS.ifNo X149.here hx rfl (hb hby at_273) rfl ((if0 _ _).trans (teq ((lw_eq _ _).mpr ((own_0 hv_v126 hc150 q5 q1).2 : (q1 ^^^ ((-v126) &&& (q5 ^^^ q1))) = q1))).2) ?_
      show Steps p.tables e below (T149.setTop (mkF m 276 #[.val (.int p0), .val (.long q1), .second, .val (.long q2), .second, .val (.long q3), .second, .val (.long q4), .second, .val (.long q5), .second, .val (.long v126), .second, .val (.ref b127), .val (.ref b138)] [])) _
      refine XS.iconst X149.here hx rfl (hb hby at_276) ?_
      show Steps p.tables e below (T149.setTop (mkF m 277 #[.val (.int p0), .val (.long q1), .second, .val (.long q2), .second, .val (.long q3), .second, .val (.long q4), .second, .val (.long q5), .second, .val (.long v126), .second, .val (.ref b127), .val (.ref b138)] [(.int (1 : Int32))])) _
      refine XS.goto X149.here hx rfl (pc0 := 277) (pc' := 281) rfl (hb hby at_277) (by decide) (by decide) ?_
      exact k
    refine own_ret (Q := Q0 Z p0 q1 q2 q3 q4 q5 h0 n0) (v := some (.int (1 : Int32))) X149 hlk (fun h => by rw [hrt] at h; cases h) (by decide) (by decide) ?_ (fun fs hr => retN X149 hx (t := .boolean) hrt (by simp) (hb hby at_281) hr)
    exact ⟨rfl, N149⟩
set_option maxRecDepth 65536 in
set_option maxHeartbeats 40000000 in
theorem comes_1 {Post : Tables → Env → Array Value → State → Outcome → State → Prop} (hpost : ∀ tb e args s v u, (limb_1_1.after args s (.returned v) u = true ∧ limb_1_2.after args s (.returned v) u = true ∧ True) → FrameEnd s (.returned v) u (Jvm.fieldLocs frame_1_writes args s ++ Jvm.arrayLocs frame_1_arrays args s ++ Jvm.staticLocs frame_1_statics s) 16 128 → Post tb e args s (.returned v) u) :
    ArmFor flags0 classFile x code maxLocals ret World_1 tables_1 room_1 Calls_1 rest_1 Pre_1 Post := by
  intro l hfl _ _ p e ha hc hk s m args below hf hA hF happ hP
  obtain ⟨hcalls, hrest, hpre⟩ := hP
  obtain ⟨-, -, -, hnamed, -, -, -, hat⟩ := (Spec.applies_iff hf).mp happ
  obtain ⟨hg, hn⟩ := and_e (Cond.before_iff.mp (show (Jvm.Cond.and given_1 narrow_1).before args s = true from hpre))
  obtain ⟨gg1, gg2⟩ := and_e hg
  obtain ⟨gg3, gg4⟩ := and_e gg2
  obtain ⟨gg5, gg6⟩ := and_e gg4
  obtain ⟨gg7, gg8⟩ := and_e gg6
  obtain ⟨gg9, gg10⟩ := and_e gg8
  obtain ⟨gg11, gg12⟩ := and_e gg10
  obtain ⟨w0, w1, w2, w3, w4, w5, rfl⟩ : ∃ w0 w1 w2 w3 w4 w5 : Value, args = #[w0, w1, w2, w3, w4, w5] := by
    have hs : args.size = 6 := by simpa [Cond.value, given_1] using gg1
    obtain ⟨L⟩ := args
    match L, hs with
    | [w0, w1, w2, w3, w4, w5], _ => exact ⟨w0, w1, w2, w3, w4, w5, rfl⟩
  have hw := fun d (hd : d ∈ tables_1) => atoms_spec (ws := Jvm.Cond.code x code maxLocals ret :: tables_1) hat d (List.mem_cons_of_mem _ hd)
  obtain ⟨i0, ei0⟩ := is_v gg3
  obtain rfl : w0 = (.int i0) := Option.some.inj ei0
  obtain ⟨i1, ei1⟩ := isL_v gg5
  obtain rfl : w1 = (.long i1) := Option.some.inj ei1
  obtain ⟨i2, ei2⟩ := isL_v gg7
  obtain rfl : w2 = (.long i2) := Option.some.inj ei2
  obtain ⟨i3, ei3⟩ := isL_v gg9
  obtain rfl : w3 = (.long i3) := Option.some.inj ei3
  obtain ⟨i4, ei4⟩ := isL_v gg11
  obtain rfl : w4 = (.long i4) := Option.some.inj ei4
  obtain ⟨i5, ei5⟩ := isL_v gg12
  obtain rfl : w5 = (.long i5) := Option.some.inj ei5
  obtain ⟨n, o, h1, h2, h3, _, L, rfl, ⟨rfl, N⟩, hq⟩ := rm0 l s _ hw tables_1 i0 i1 i2 i3 i4 i5 s.heap s.heap.size (Nat.le_refl _)  p e ha hc hk s m _ below hf ((Spec.applies_iff_loose hf).mp happ).1 ⟨rfl, State.Warmed39.refl s, rfl⟩ trivial
  refine ⟨n, _, h1, h2, h3, hpost _ _ _ _ _ _ ⟨Cond.after_iff.mpr rfl, Cond.after_iff.mpr (eq_i res_at (Term.int_eval (1)) rfl), trivial⟩ ⟨hq.1, hq.2.1, (hq.2.2.sift fun y hy => Or.inr (N y hy)).mono (by decide) (by decide)⟩⟩
theorem main_1_1 : Claimed_1_1 := comes_1 fun _ _ _ _ _ _ h hF => ⟨h.1, hF⟩
theorem main_1_2 : Claimed_1_2 := comes_1 fun _ _ _ _ _ _ h hF => ⟨h.2.1, hF⟩
end Jvm.Pilot.@@N@@
namespace Jvm.Pilot.@@N@@
open Jvm Jvm.ClassFile Sem Op Lib Jvm.Free Jvm.Stand Jvm.Pilot.@@N@@.Jvm.D
/-! MADE BY PROGRAM (witnessworld.py) out of the Statement's table words and the real class files: 11 classes; the members and pool entries that the words name. The judged class is class 1, her method 1. -/
namespace start1
open Jvm.ClassFile
def u (s : String) : CpInfo := .utf8 (stringToUtf16 s)
/-- a pool by its gaps: so many unusable entries, then the entry; so many at the end -/
def gap : Nat → List CpInfo → List CpInfo
  | 0, r => r
  | n + 1, r => .unusable :: gap n r
def poolList (es : List (Nat × CpInfo)) (last : Nat) : List CpInfo := es.foldr (fun e r => gap e.1 (e.2 :: r)) (gap last [])
def pool (es : List (Nat × CpInfo)) (last : Nat) : Array CpInfo := ⟨poolList es last⟩
def fileOf (pool : Array CpInfo) (this : Nat) (attrs : Array Attribute := #[]) (ms : Array MethodInfo := #[]) (fl : Nat := 33) (sup : Nat := 0) (ifs : Array Nat := #[]) (fds : Array FieldInfo := #[]) : ClassFile where
  minorVersion := 0
  majorVersion := 65
  constantPool := pool
  accessFlags := fl
  thisClass := this
  superClass := sup
  interfaces := ifs
  fields := fds
  methods := ms
  attributes := attrs
def plain (name : String) (sup : Option ClassId) : Class where
  name := name
  kind := .ordinary
  loader := none
  accessFlags := 33
  super := sup
  interfaces := #[]
  cf := none
  fields := #[]
  methods := #[]
  instanceTypes := #[]
  staticTypes := #[]
  resolved := #[]
  callSites := []
  init := .initialized
  statics := none
  mirror := none

def pool0 : Array CpInfo := pool [(5, u "<init>"), (0, u "()V"), (1, .class_ 10), (1, u "java/lang/Object")] 113

def k0m0 : Method := { name := "<init>", desc := "()V", sig := { parameters := [], returnType := none }, accessFlags := 1, code := none }
/-- java/lang/Object -/
def k0 : Class := { plain "java/lang/Object" none with
  accessFlags := 33
  interfaces := #[]
  cf := some (fileOf pool0 8 #[] #[{ accessFlags := 1, nameIndex := 5, descriptorIndex := 6, attributes := #[] }] 33 0 #[] #[])
  fields := #[]
  methods := #[k0m0]
  instanceTypes := #[]
  staticTypes := #[]
  resolved := Array.replicate 124 none
  statics := none }

def pool1 : Array CpInfo := pool [(2, .class_ 4), (1, u "java/lang/Object"), (0, u "<init>"), (0, u "()V"), (0, .methodref 8 9), (0, .class_ 10), (0, .nameAndType 11 12), (0, u "com/example/hopwright/hopwright/crypto/Field25519"), (0, u "conditionalSwap"), (0, u "(J[J[J)V"), (0, .class_ 14), (0, u "com/example/hopwright/hopwright/crypto/Field25519ConditionalSwapPinLaw"), (2, u "law"), (0, u "(IJJJJJ)Z")] 5

def k1m0 : Method := { name := "<init>", desc := "()V", sig := { parameters := [], returnType := none }, accessFlags := 2, code := none }
def k1c1 : Code := { maxStack := 5, maxLocals := 15, code := code, exceptionTable := #[], attributes := #[] }
def k1m1 : Method := { name := "law", desc := "(IJJJJJ)Z", sig := { parameters := [.int, .long, .long, .long, .long, .long], returnType := some .boolean }, accessFlags := 9, code := some k1c1 }
/-- com/example/hopwright/hopwright/crypto/Field25519ConditionalSwapPinLaw -/
def k1 : Class := { plain "com/example/hopwright/hopwright/crypto/Field25519ConditionalSwapPinLaw" (some 0) with
  accessFlags := 49
  interfaces := #[]
  cf := some (fileOf pool1 13 #[] #[{ accessFlags := 2, nameIndex := 5, descriptorIndex := 6, attributes := #[] }, { accessFlags := 9, nameIndex := 17, descriptorIndex := 18, attributes := #[] }] 49 2 #[] #[])
  fields := #[]
  methods := #[k1m0, k1m1]
  instanceTypes := #[]
  staticTypes := #[]
  resolved := Array.replicate 24 none
  statics := none }

def pool2 : Array CpInfo := pool [(1, .class_ 2), (0, u "com/example/hopwright/hopwright/crypto/Field25519"), (1, .class_ 6), (1, u "java/lang/Object"), (0, u "<init>"), (0, u "()V"), (40, u "LIMBS"), (0, u "I"), (2, u "LIMB_BITS"), (1, u "LIMB"), (0, u "J"), (0, u "TWO_P_LOW"), (0, u "TWO_P_REST"), (0, u "A_SHIFT"), (1, u "B_SHIFT"), (1, u "LOW_SHIFT"), (17, u "conditionalSwap"), (0, u "(J[J[J)V")] 2

def k2m0 : Method := { name := "<init>", desc := "()V", sig := { parameters := [], returnType := none }, accessFlags := 2, code := none }
def k2c1 : Code := { maxStack := 6, maxLocals := 9, code := prog_21_method_11_code, exceptionTable := #[], attributes := #[] }
def k2m1 : Method := { name := "conditionalSwap", desc := "(J[J[J)V", sig := { parameters := [.long, (.array .long), (.array .long)], returnType := none }, accessFlags := 8, code := some k2c1 }
/-- com/example/hopwright/hopwright/crypto/Field25519 -/
def k2 : Class := { plain "com/example/hopwright/hopwright/crypto/Field25519" (some 0) with
  accessFlags := 48
  interfaces := #[]
  cf := some (fileOf pool2 1 #[] #[{ accessFlags := 2, nameIndex := 7, descriptorIndex := 8, attributes := #[] }, { accessFlags := 8, nameIndex := 81, descriptorIndex := 82, attributes := #[] }] 48 4 #[] #[{ accessFlags := 24, nameIndex := 49, descriptorIndex := 50, attributes := #[] }, { accessFlags := 26, nameIndex := 53, descriptorIndex := 50, attributes := #[] }, { accessFlags := 26, nameIndex := 55, descriptorIndex := 56, attributes := #[] }, { accessFlags := 26, nameIndex := 57, descriptorIndex := 56, attributes := #[] }, { accessFlags := 26, nameIndex := 58, descriptorIndex := 56, attributes := #[] }, { accessFlags := 26, nameIndex := 59, descriptorIndex := 50, attributes := #[] }, { accessFlags := 26, nameIndex := 61, descriptorIndex := 50, attributes := #[] }, { accessFlags := 26, nameIndex := 63, descriptorIndex := 50, attributes := #[] }])
  fields := #[{ name := "LIMBS", type := .int, accessFlags := 24, slot := 0, constantValue := 0 }, { name := "LIMB_BITS", type := .int, accessFlags := 26, slot := 1, constantValue := 0 }, { name := "LIMB", type := .long, accessFlags := 26, slot := 2, constantValue := 0 }, { name := "TWO_P_LOW", type := .long, accessFlags := 26, slot := 3, constantValue := 0 }, { name := "TWO_P_REST", type := .long, accessFlags := 26, slot := 4, constantValue := 0 }, { name := "A_SHIFT", type := .int, accessFlags := 26, slot := 5, constantValue := 0 }, { name := "B_SHIFT", type := .int, accessFlags := 26, slot := 6, constantValue := 0 }, { name := "LOW_SHIFT", type := .int, accessFlags := 26, slot := 7, constantValue := 0 }]
  methods := #[k2m0, k2m1]
  instanceTypes := #[]
  staticTypes := #[.int, .int, .long, .long, .long, .int, .int, .int]
  resolved := Array.replicate 85 none
  statics := none }

def pool3 : Array CpInfo := pool [(1, u "java/lang/Cloneable"), (0, .class_ 1), (0, u "java/lang/Object"), (0, .class_ 3)] 3

/-- java/lang/Cloneable -/
def k3 : Class := { plain "java/lang/Cloneable" (some 0) with
  accessFlags := 1537
  interfaces := #[]
  cf := some (fileOf pool3 2 #[] #[] 1537 4 #[] #[])
  fields := #[]
  methods := #[]
  instanceTypes := #[]
  staticTypes := #[]
  resolved := Array.replicate 8 none
  statics := none }

def pool4 : Array CpInfo := pool [(1, u "java/io/Serializable"), (0, .class_ 1), (0, u "java/lang/Object"), (0, .class_ 3)] 3

/-- java/io/Serializable -/
def k4 : Class := { plain "java/io/Serializable" (some 0) with
  accessFlags := 1537
  interfaces := #[]
  cf := some (fileOf pool4 2 #[] #[] 1537 4 #[] #[])
  fields := #[]
  methods := #[]
  instanceTypes := #[]
  staticTypes := #[]
  resolved := Array.replicate 8 none
  statics := none }

/-- the primitive byte -/
def k5 : Class := { plain "byte" none with kind := .primitive 'B', accessFlags := 0x411 }
/-- [B -/
def k6 : Class := { plain "[B" (some 0) with kind := .array 5 .byte, interfaces := #[3, 4], accessFlags := 1041 }

/-- the primitive int -/
def k7 : Class := { plain "int" none with kind := .primitive 'I', accessFlags := 0x411 }
/-- [I -/
def k8 : Class := { plain "[I" (some 0) with kind := .array 7 .int, interfaces := #[3, 4], accessFlags := 1041 }

/-- the primitive long -/
def k9 : Class := { plain "long" none with kind := .primitive 'J', accessFlags := 0x411 }
/-- [J -/
def k10 : Class := { plain "[J" (some 0) with kind := .array 9 .long, interfaces := #[3, 4], accessFlags := 1041 }

def heap : Heap := #[]
def classes : Array Class := #[k0, k1, k2, k3, k4, k5, k6, k7, k8, k9, k10]
def interned : List (Array UInt16 × Addr) := []
def slotsUsed : Nat := 0
def theMethod : MethodId := ⟨1, 1⟩
def args0 : Array Value := #[.int 1, .long 0, .long 1, .long 2, .long 3, .long 4]
def aboutOver (below : List Frame) : State where
  vm := { classes := classes, interned := interned.toArray }
  heap := heap
  slotsUsed := slotsUsed
  threads := #[{ frames := .invoking theMethod args0 :: below }]
def below0 : List Frame := [.native { method := ⟨0, 0⟩, args := #[] }]
def about1 : State := aboutOver below0
def p0 : Program := .bare "" "" ""
def e0 : Env := launch0.env 0 0 0
theorem w_frames : about1.frames = Frame.invoking theMethod args0 :: below0 := rfl
set_option maxRecDepth 65536 in
theorem w_args : argsFit about1.vm theMethod args0 = true := by decide +kernel
set_option maxRecDepth 65536 in
theorem w_heap : heapFits about1 = true := by decide +kernel
set_option maxRecDepth 65536 in
theorem w_runnable : about1.curStatus? = some .runnable := by decide +kernel
set_option maxRecDepth 65536 in
theorem w_alone : about1.alone = true := by decide +kernel
set_option maxRecDepth 65536 in
theorem w_named : about1.methodNamed? x = some theMethod := by decide +kernel
set_option maxRecDepth 65536 in
theorem w_hears : about1.hears theMethod below0 = true := by decide +kernel
set_option maxRecDepth 65536 in
theorem w_ripe : about1.ripe theMethod args0 below0 = true := by decide +kernel
theorem w_running : about1.status = .running := rfl
set_option maxRecDepth 65536 in
theorem w_room : about1.hasRoom e0.platform room_1 = true :=
  launch0.hasRoom_least _ room_1 (by decide +kernel) (by decide +kernel) (by decide +kernel) (by decide +kernel) (by decide +kernel) (by decide +kernel)
theorem allAtoms_all (ts : List Jvm.Cond) (a : Array Jvm.Value) (st : Jvm.State) : (allAtoms ts).before a st = ts.all (fun c => c.before a st) := by
  induction ts with
  | nil => rfl
  | cons c t ih =>
    show (Jvm.Cond.and c (allAtoms t)).before a st = _
    rw [Jvm.Cond.before_and, ih, List.all_cons]
def words1 : List Jvm.Cond := Jvm.Cond.code x code maxLocals ret :: tables_1
/-- a 'code' word, met by the world's own term for the bytes: nothing is compared byte by byte -/
theorem code_word {y : MethodName} {bytes : ByteArray} {mx : Nat} {rt : Option FieldType} {a : Array Value} {s : State} {m : MethodId} {meth : Method} {c : Code} (h1 : s.methodNamed? y = some m) (h2 : s.vm.method? m = some meth) (h3 : meth.code = some c) (h4 : c.code = bytes)
    (h5 : (c.maxLocals == mx && c.exceptionTable.isEmpty && decide (c.maxStack ≤ mostOperands) && decide (meth.sig.returnType = rt) && !meth.locks && decide (parseMethodDescriptor y.desc = some meth.sig)) = true) : (Jvm.Cond.code y bytes mx rt).before a s = true := by
  simp only [Bool.and_eq_true, beq_iff_eq, Bool.not_eq_true', decide_eq_true_eq] at h5
  obtain ⟨⟨⟨⟨⟨g1, g2⟩, g3⟩, g4⟩, g5⟩, g6⟩ := h5
  simp [Cond.before, Cond.holds, Cond.value, h1, h2, h3, h4, g1, g2, g3, g4, g5, g6]
def isCode : Jvm.Cond → Bool
  | .code _ _ _ _ => true
  | _ => false
theorem all_split {L : List Jvm.Cond} {P : Jvm.Cond → Bool} (h1 : L.all (fun c => isCode c || P c) = true) (h2 : ∀ c ∈ L.filter isCode, P c = true) : L.all P = true := by
  refine List.all_eq_true.mpr fun c hc => ?_
  have h := List.all_eq_true.mp h1 c hc
  rcases Bool.eq_false_or_eq_true (isCode c) with hi | hi
  · exact h2 c (List.mem_filter.mpr ⟨hc, hi⟩)
  · simpa [hi] using h
set_option maxRecDepth 65536 in
theorem w_c0 : (Jvm.Cond.code x code maxLocals ret).before args0 about1 = true := code_word (m := ⟨1, 1⟩) (meth := k1m1) (c := k1c1) (by decide +kernel) rfl rfl rfl (by decide +kernel)
set_option maxRecDepth 65536 in
theorem w_c1 : (Jvm.Cond.code ({ cls := "com/example/hopwright/hopwright/crypto/Field25519", name := "conditionalSwap", desc := "(J[J[J)V" } : Jvm.MethodName) prog_21_method_11_code (9 : Nat) (Option.none : Option Jvm.ClassFile.FieldType)).before args0 about1 = true := code_word (m := ⟨2, 1⟩) (meth := k2m1) (c := k2c1) (by decide +kernel) rfl rfl rfl (by decide +kernel)
def codes1 : List Jvm.Cond := [Jvm.Cond.code x code maxLocals ret, Jvm.Cond.code ({ cls := "com/example/hopwright/hopwright/crypto/Field25519", name := "conditionalSwap", desc := "(J[J[J)V" } : Jvm.MethodName) prog_21_method_11_code (9 : Nat) (Option.none : Option Jvm.ClassFile.FieldType)]
set_option maxRecDepth 65536 in
theorem codes_eq : words1.filter isCode = codes1 := rfl
theorem w_codes : ∀ c ∈ words1.filter isCode, c.before args0 about1 = true := by
  rw [codes_eq]
  intro c hc
  simp only [codes1, List.mem_cons, List.not_mem_nil, or_false] at hc
  rcases hc with rfl | rfl
  · exact w_c0
  · exact w_c1
set_option maxRecDepth 65536 in
theorem w_t1 : words1.all (fun c => isCode c || c.before args0 about1) = true := by decide +kernel
theorem w_tables : (allAtoms (Jvm.Cond.code x code maxLocals ret :: tables_1)).before args0 about1 = true := by
  rw [allAtoms_all]
  show words1.all (fun c => c.before args0 about1) = true
  refine all_split ?_ w_codes
  rw [w_t1]
set_option maxRecDepth 65536 in
theorem w_case : (Jvm.Cond.and given_1 narrow_1).before args0 about1 = true := by decide +kernel
theorem w_applies : (headSpec (Jvm.Cond.code x code maxLocals ret :: tables_1) room_1).applies x e0.platform about1 = true :=
  (Spec.applies_iff w_frames).mpr ⟨w_running, w_runnable, w_alone, w_named, w_hears, w_ripe, w_room, w_tables⟩
theorem atStart : AtStart classFile x code maxLocals ret World_1 tables_1 room_1 Calls_1 rest_1 Pre_1 launch0 p0 e0 about1 theMethod args0 below0 :=
  ⟨lists_1, trivial, launch0.admits_env _ _ _, launch0.least_env, fairChoices_fair.cas, fairChoices_fair.clock, w_frames, w_args, w_heap, w_applies, trivial, trivial, w_case⟩
end start1
theorem witness_1 : WitnessClaimed_1 := ⟨start1.p0, start1.e0, start1.about1, start1.theMethod, start1.args0, start1.below0, start1.atStart⟩
end Jvm.Pilot.@@N@@
