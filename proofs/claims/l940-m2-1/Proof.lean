import JvmDerived
import JvmDerived.Pilot.@@N@@Statement
import JvmDerived.Pilot.@@N@@Code
set_option linter.unusedVariables false
set_option linter.unusedSimpArgs false
namespace Jvm.Pilot.@@N@@
open Jvm Jvm.ClassFile Sem Op Lib Jvm.Free Jvm.Stand Jvm.LawKit Jvm.RoadKit Bundle Jvm.Pilot.@@N@@.Jvm.D
theorem own_w {Z : State} {a0 : Array Value} {d : Jvm.Cond} (hw : ∀ d ∈ tables_1, d.before a0 Z = true) (i : Nat) (h : tables_1[i]? = some d) : d.before a0 Z = true := hw d (List.mem_of_getElem? h)
/-- from U the run comes to an end of which G says -/
def Go (p : Program) (e : Env) (below : List Frame) (G : State → Outcome → Prop) (U : State) : Prop := ∃ s₂ o, Steps p.tables e below U s₂ ∧ s₂.status = .running ∧ Ended s₂ below o ∧ G s₂ o
theorem Go.st {p : Program} {e : Env} {below : List Frame} {G : State → Outcome → Prop} {U U' : State} (h : ∀ t, Steps p.tables e below U' t → Steps p.tables e below U t) (k : Go p e below G U') : Go p e below G U := by
  obtain ⟨t, o, h1, r⟩ := k
  exact ⟨t, o, h _ h1, r⟩
theorem Go.tr {p : Program} {e : Env} {below : List Frame} {G : State → Outcome → Prop} {U U' : State} (h : Steps p.tables e below U U') (k : Go p e below G U') : Go p e below G U := by
  obtain ⟨t, o, h1, r⟩ := k
  exact ⟨t, o, h.trans h1, r⟩
theorem Go.join {p : Program} {e : Env} {below : List Frame} {G : State → Outcome → Prop} {U : State} {α : Type} {P : α → Prop} {F : α → State} (h2 : (∀ v, P v → Go p e below G (F v)) → Go p e below G U) (h1 : ∀ v, P v → Go p e below G (F v)) : Go p e below G U := h2 h1
theorem Go.join2 {p : Program} {e : Env} {below : List Frame} {G : State → Outcome → Prop} {U : State} {α β : Type} {P : α → β → Prop} {F : α → β → State} (h2 : (∀ v w, P v w → Go p e below G (F v w)) → Go p e below G U) (h1 : ∀ v w, P v w → Go p e below G (F v w)) : Go p e below G U := h2 h1
theorem Go.join3 {p : Program} {e : Env} {below : List Frame} {G : State → Outcome → Prop} {U : State} {α β γ : Type} {P : α → β → γ → Prop} {F : α → β → γ → State} (h2 : (∀ v w u, P v w u → Go p e below G (F v w u)) → Go p e below G U) (h1 : ∀ v w u, P v w u → Go p e below G (F v w u)) : Go p e below G U := h2 h1
theorem own_ret {p : Program} {l : Launch} {e : Env} {R : Room} {s : State} {m : MethodId} {args : Array Value} {below : List Frame} {meth : Method} {c : Code} {T U : State} {locs : List Loc} {cells slots : Nat} {Q : Option Value → Heap → List Loc → Prop} {rc rs : Nat} {v : Option Value}
    (X : Stand p l e R s m args below meth c T locs cells slots) (hlk : meth.locks = false) (hv : meth.sig.returnType = none → v = none) (hc : cells ≤ rc) (hs : slots ≤ rs) (hq : Q v T.heap locs)
    (st : ∀ fs, (∀ (f : JFrame) (acts : List Action), f.method = m → f.locked = none → f.entered = [] → (doReturn e (T.setTop f) acts v).1 = T.setFrames fs) → Steps p.tables e below U (T.setFrames fs)) :
    Go p e below (fun s₂ o => ∃ v L, o = .returned v ∧ Q v s₂.heap L ∧ FrameEnd s o s₂ L rc rs) U := by
  obtain ⟨fs, hr, hrun, hended, hW, hsame⟩ := X.leave (v := v) hv hlk
  exact ⟨_, _, st fs hr, hrun, hended, _, _, rfl, hq, ⟨_, rfl⟩, hW, hsame.mono hc hs⟩
theorem own_getI (L : List Int32) (i : Nat) : (L.map Value.int).getD i (.int 0) = .int (L.getD i 0) := by
  induction L generalizing i with
  | nil => rfl
  | cons a r ih => cases i with
    | zero => rfl
    | succ i => exact ih i
theorem own_getJ (L : List Int64) (i : Nat) : (L.map Value.long).getD i (.long 0) = .long (L.getD i 0) := by
  induction L generalizing i with
  | nil => rfl
  | cons a r ih => cases i with
    | zero => rfl
    | succ i => exact ih i
theorem own_getP {P : Int32 → Prop} (h0 : P 0) (L : List Int32) (h : ∀ x ∈ L, P x) (i : Nat) : P (L.getD i 0) := by
  induction L generalizing i with
  | nil => exact h0
  | cons a r ih => cases i with
    | zero => exact h a (List.mem_cons_self ..)
    | succ i => exact ih (fun x hx => h x (List.mem_cons_of_mem _ hx)) i
theorem own_mk (x m n : Int32) (k : Nat) (hk : k ≤ 31) (hm : m.toBitVec.toNat = 2 ^ k - 1) (hn : ((2 ^ k : Nat) : Int) ≤ n.toInt) : ¬ (x &&& m) < 0 ∧ (x &&& m) < n := by
  have h := c_mask x m k hk hm
  have h2 : (0 : Int) < ((2 ^ k : Nat) : Int) := Int.ofNat_lt.mpr (Nat.two_pow_pos k)
  have h3 := Int.emod_nonneg x.toInt (Int.ne_of_gt h2)
  have h4 := Int.emod_lt_of_pos x.toInt h2
  rw [Int32.lt_iff_toInt_lt, Int32.lt_iff_toInt_lt, h]
  exact ⟨Int.not_lt.mpr h3, Int.lt_of_lt_of_le h4 hn⟩
abbrev own_y0 : MethodName := ⟨"com/example/portcullis/portcullis/io/CdrOutput", "<init>", "()V"⟩
abbrev own_y1 : MethodName := ⟨"com/example/portcullis/portcullis/io/CdrOutput", "reserve", "(I)V"⟩
abbrev own_y2 : MethodName := ⟨"java/util/Arrays", "rangeCheck", "(III)V"⟩
abbrev own_y3 : MethodName := ⟨"com/example/portcullis/portcullis/io/CdrOutput", "writeOctet", "(B)V"⟩
abbrev own_y4 : MethodName := ⟨"java/util/Arrays", "fill", "([BIIB)V"⟩
abbrev own_y5 : MethodName := ⟨"com/example/portcullis/portcullis/io/CdrOutput", "align", "(I)V"⟩
abbrev own_y6 : MethodName := ⟨"com/example/portcullis/portcullis/io/CdrOutput", "writeShort", "(S)V"⟩
abbrev own_y7 : MethodName := ⟨"com/example/portcullis/portcullis/io/CdrOutput", "putInt", "(II)V"⟩
abbrev own_y8 : MethodName := ⟨"com/example/portcullis/portcullis/io/CdrOutput", "writeInt", "(I)V"⟩
abbrev own_y9 : MethodName := ⟨"com/example/portcullis/portcullis/io/CdrOutput", "writeLong", "(J)V"⟩
abbrev own_y10 : MethodName := ⟨"java/lang/Math", "min", "(II)I"⟩
abbrev own_y11 : MethodName := ⟨"java/util/Arrays", "copyOf", "([BI)[B"⟩
abbrev own_y12 : MethodName := ⟨"com/example/portcullis/portcullis/io/CdrOutput", "toByteArray", "()[B"⟩
abbrev own_y13 : MethodName := ⟨"com/example/portcullis/portcullis/io/CdrOutput", "size", "()I"⟩
abbrev own_y14 : MethodName := ⟨"com/example/portcullis/portcullis/io/CdrOutputToByteArrayPinLaw", "at", "([BI)I"⟩
abbrev own_y15 : MethodName := ⟨"com/example/portcullis/portcullis/io/CdrOutputToByteArrayPinLaw", "pack", "([BI)J"⟩
abbrev own_y16 : MethodName := ⟨"com/example/portcullis/portcullis/io/CdrOutputToByteArrayPinLaw", "put4", "([BII)V"⟩
def own_b3 (v : Int32) : Int32 := ((((v.toUInt32 >>> ((24 : Int32) &&& 31).toUInt32).toInt32).toInt8.toInt32).toInt8.toInt32)
def own_b2 (v : Int32) : Int32 := ((((v.toUInt32 >>> ((16 : Int32) &&& 31).toUInt32).toInt32).toInt8.toInt32).toInt8.toInt32)
def own_b1 (v : Int32) : Int32 := ((((v.toUInt32 >>> ((8 : Int32) &&& 31).toUInt32).toInt32).toInt8.toInt32).toInt8.toInt32)
def own_b0 (v : Int32) : Int32 := ((v.toInt8.toInt32).toInt8.toInt32)
def own_o (v : Int32) : Int32 := (v.toInt8.toInt32)
def own_hi (v : Int64) : Int32 := (((v.toUInt64 >>> ((32 : Int32) &&& 0x3f).toInt64.toUInt64).toInt64).toInt32)
theorem own_selp {s : State} {args : Array Value} {y : MethodName} {n : Nat} (wi : (Cond.instantiable y.cls n).before args s = true) (hp : s.PrivateAt y) (hi : (Cond.instanceMethod y).before args s = true) (hy : y.cls ≠ "java/lang/invoke/MethodHandle" ∧ y.cls ≠ "java/lang/invoke/VarHandle") : (Cond.selects y.cls y y).before args s = true := by
  obtain ⟨c, k, h1, h2, h3, h4, h5⟩ := Cond.instantiable_spec wi
  refine Jvm.Stand.selects_self_of_private h1 h2 ?_ hp hi hy
  first | exact h4 | (simp_all; done) | (revert h4; simp; done)
theorem d1_0 : decode prog_14_method_1_code 0 = .ok (.aload_n 0, 1) := by decide +kernel
theorem d1_1 : decode prog_14_method_1_code 1 = .ok (.invokespecial 1, 3) := by decide +kernel
theorem d1_4 : decode prog_14_method_1_code 4 = .ok (.aload_n 0, 1) := by decide +kernel
theorem d1_5 : decode prog_14_method_1_code 5 = .ok (.sipush 256, 3) := by decide +kernel
theorem d1_8 : decode prog_14_method_1_code 8 = .ok (.newarray .byte, 2) := by decide +kernel
theorem d1_10 : decode prog_14_method_1_code 10 = .ok (.putfield 9, 3) := by decide +kernel
theorem d1_13 : decode prog_14_method_1_code 13 = .ok (.return_, 1) := by decide +kernel
theorem pn_0 : plainName "com/example/portcullis/portcullis/io/CdrOutput" = true := by first | (simp [plainName, overriddenIn]; done) | decide +kernel
theorem efi (m : MethodId) (a1 : Addr) : entryFrame m #[(.ref a1)] 1 = mkF m 0 #[.val (.ref a1)] [] := by first | (simp [entryFrame, mkF, argsToLocals, Value.category]; done) | rfl
abbrev own_R1_1_256_16 : Room := { frames := 1, cells := 1, slots := 256, locals := 16 }
def Qi (Z : State) (a1 : Addr) (h0 : Heap) (n0 : Nat) (v : Option Value) (h : Heap) (L : List Loc) : Prop := v = none ∧ Fr n0 L ∧ Keep h0 h [a1] ∧ Exa Z h a1 "com/example/portcullis/portcullis/io/CdrOutput" ∧ ∃ (b : Addr) (k : ClassId), n0 ≤ b ∧ h0.size ≤ b ∧ Fld Z h a1 "com/example/portcullis/portcullis/io/CdrOutput" "buffer" "[B" (.ref b) ∧ Fld Z h a1 "com/example/portcullis/portcullis/io/CdrOutput" "size" "I" (.int (0 : Int32)) ∧ Arv Z h b k .byte (256 : Int32) [(.int (0 : Int32)), (.int (0 : Int32)), (.int (0 : Int32)), (.int (0 : Int32)), (.int (0 : Int32)), (.int (0 : Int32)), (.int (0 : Int32)), (.int (0 : Int32)), (.int (0 : Int32)), (.int (0 : Int32)), (.int (0 : Int32)), (.int (0 : Int32)), (.int (0 : Int32)), (.int (0 : Int32)), (.int (0 : Int32)), (.int (0 : Int32))] (.int (0 : Int32))
set_option maxRecDepth 65536 in
set_option maxHeartbeats 40000000 in
theorem rmi (l : Launch) (Z : State) (a0 : Array Value) (hw : ∀ d ∈ tables_1, d.before a0 Z = true) (ws : List Jvm.Cond) (a1 : Addr) (h0 : Heap) (n0 : Nat) (Z0 : n0 ≤ h0.size) (EX : Exa Z h0 a1 "com/example/portcullis/portcullis/io/CdrOutput") (FB : Fld Z h0 a1 "com/example/portcullis/portcullis/io/CdrOutput" "buffer" "[B" .null) (FS : Fld Z h0 a1 "com/example/portcullis/portcullis/io/CdrOutput" "size" "I" (.int (0 : Int32))) (gA : n0 ≤ a1) :
    MetFree l own_y0 (head1 (Jvm.Cond.code own_y0 prog_14_method_1_code 1 none :: ws) own_R1_1_256_16) (fun a U => a = #[(.ref a1)] ∧ Z.Warmed39 U.vm ∧ U.heap = h0) (fun _ _ _ _ _ => True) (fun _ U o U' => ∃ v L, o = .returned v ∧ Qi Z a1 h0 n0 v U'.heap L ∧ FrameEnd U o U' L (own_R1_1_256_16).cells (own_R1_1_256_16).slots) := by
  refine MetFree.of_bodySF (plainFor_of_name pn_0) hisR ?_
  intro p e s m args below meth c s₁ Bd hml0 hP hK
  obtain ⟨rfl, hZ, hh⟩ := hP
  have hx := Bd.exec
  have hby := Bd.bytes
  have hml : c.maxLocals = 1 := hml0
  have hown : s.vm.findClass "com/example/portcullis/portcullis/io/CdrOutput" = some m.cls := findClass_of_methodNamed Bd.named
  have hnm := (name_of_methodNamed Bd.named Bd.method).1
  have hlk : meth.locks = false := BodyLoose.notSynchronized Bd
  have hrt := Bd.returns
  have X0 : Stand p l e own_R1_1_256_16 s m #[(.ref a1)] below meth c s₁ [] 0 0 := Stand.of_body Bd
  have e0 : s₁.heap = h0 := by rw [← hh, Bd.state]; rfl
  have N0 := Fr.nil n0
  refine (show Go p e below (fun s₂ o => ∃ v L, o = .returned v ∧ Qi Z a1 h0 n0 v s₂.heap L ∧ FrameEnd s o s₂ L 1 256) (s₁.setTop (entryFrame m #[(.ref a1)] 1)) from ?_)
  rw [efi]
  refine Go.st (U' := s₁.setTop (mkF m 1 #[.val (.ref a1)] [(.ref a1)])) (fun t k => ?_) ?_
  · refine XS.aloadN X0.here hx rfl (hb hby d1_0) rfl rfl ?_
    exact k
  obtain ⟨T101, X101, e101, st101⟩ := initO X0 hx hZ hown (own_w hw 6 rfl) (own_w hw 7 rfl) (own_w hw 8 rfl) e0 (g := (mkF m 1 #[.val (.ref a1)] [(.ref a1)])) rfl (by rw [hml]; rfl) rfl (hb hby d1_1) (by decide) (W := 0) (by show 2 * 0 + _ ≤ _; exact Nat.le_of_eq rfl) (by decide)
  refine Go.st (U' := T101.setTop (mkF m 4 #[.val (.ref a1)] [])) (fun t k => st101 _ k) ?_
  refine Go.st (U' := T101.setTop (mkF m 8 #[.val (.ref a1)] [(.int (256 : Int32)), (.ref a1)])) (fun t k => ?_) ?_
  · refine XS.aloadN X101.here hx rfl (hb hby d1_4) rfl rfl ?_
    refine XS.sipush X101.here hx rfl (hb hby d1_5) ?_
    exact k
  obtain ⟨T102, h102, k102, X102, e102, E102, A102, st102⟩ := newP X101 hx hZ (own_w hw 9 rfl) e101 (g := (mkF m 8 #[.val (.ref a1)] [(.int (256 : Int32)), (.ref a1)])) rfl (hb hby d1_8) rfl (by decide) (cap := 256) (by decide) (by decide) (by decide) (by decide)
  obtain ⟨b102, g102⟩ : ∃ z, z = h0.size := ⟨_, rfl⟩
  rw [← g102] at A102 st102
  have ne_a1_b102 : a1 ≠ b102 := Nat.ne_of_lt (Nat.lt_of_lt_of_le EX.lt (Nat.le_of_eq g102.symm))
  have ge_b102 : n0 ≤ b102 := Nat.le_trans Z0 (Nat.le_of_eq g102.symm)
  have sg_b102 : h0.size ≤ b102 := Nat.le_trans (Keep.refl h0 [a1]).1 (Nat.le_of_eq g102.symm)
  have EX_102 := EX.ext E102
  have FB_102 := FB.ext E102
  have FS_102 := FS.ext E102
  have KK102 : Keep h0 h102 [a1] := (Keep.refl h0 [a1]).ext E102
  have V_b102 : Arv Z h102 b102 k102 .byte (256 : Int32) [(.int (0 : Int32)), (.int (0 : Int32)), (.int (0 : Int32)), (.int (0 : Int32)), (.int (0 : Int32)), (.int (0 : Int32)), (.int (0 : Int32)), (.int (0 : Int32)), (.int (0 : Int32)), (.int (0 : Int32)), (.int (0 : Int32)), (.int (0 : Int32)), (.int (0 : Int32)), (.int (0 : Int32)), (.int (0 : Int32)), (.int (0 : Int32))] (.int (0 : Int32)) := (Arv.new A102 (by decide)).pad (pad_rep [] (.int (0 : Int32)) 16)
  have sz102 : n0 ≤ h102.size := Nat.le_trans Z0 E102.1
  refine Go.st (U' := T102.setTop (mkF m 10 #[.val (.ref a1)] [(.ref b102), (.ref a1)])) (fun t k => st102 _ k) ?_
  obtain ⟨T103, h103, X103, e103, W103, st103⟩ := putF X102 hx hZ hown (host := "") (Or.inl (own_w hw 10 rfl)) Via.refl e102 FB_102 EX_102 (Or.inl (own_w hw 11 rfl)) (own_w hw 1 rfl) (ty := (.array .byte)) (by decide) rfl rfl (g := (mkF m 10 #[.val (.ref a1)] [(.ref b102), (.ref a1)])) rfl rfl (hb hby d1_10)
  have F103 := FB_102.same W103
  have EX_103 := EX_102.wr W103
  have FS_103 := FS_102.other W103 (Or.inr (slot_ne (Or.inl (own_w hw 18 rfl)) (Or.inl (own_w hw 11 rfl)) (by decide) (t := .int) (t' := (.array .byte)) (by decide) (by decide)))
  have V_b102_103 := V_b102.other W103 (Ne.symm ne_a1_b102)
  have N103 := Fr.snoc X103 N0 gA
  have KK103 : Keep h0 h103 [a1] := KK102.wr W103 (Or.inl (List.mem_of_getElem? (i := 0) rfl))
  have sz103 : n0 ≤ h103.size := Nat.le_trans sz102 (Nat.le_of_eq W103.size.symm)
  refine Go.st (U' := T103.setTop (mkF m 13 #[.val (.ref a1)] [])) (fun t k => st103 _ k) ?_
  refine own_ret (Q := Qi Z a1 h0 n0) (v := none) X103 hlk (fun _ => rfl) (by decide) (by decide) ?_ (fun fs hr => X103.returnOut hx hrt (hb hby d1_13) hr)
  rw [e103]
  exact ⟨rfl, N103, KK103, EX_103, b102, k102, ge_b102, sg_b102, F103, FS_103, V_b102_103⟩
theorem d10_0 : decode prog_14_method_20_code 0 = .ok (.aload_n 0, 1) := by decide +kernel
theorem d10_1 : decode prog_14_method_20_code 1 = .ok (.getfield 17, 3) := by decide +kernel
theorem d10_4 : decode prog_14_method_20_code 4 = .ok (.iload_n 1, 1) := by decide +kernel
theorem d10_5 : decode prog_14_method_20_code 5 = .ok (.iadd, 1) := by decide +kernel
theorem d10_6 : decode prog_14_method_20_code 6 = .ok (.aload_n 0, 1) := by decide +kernel
theorem d10_7 : decode prog_14_method_20_code 7 = .ok (.getfield 9, 3) := by decide +kernel
theorem d10_10 : decode prog_14_method_20_code 10 = .ok (.arraylength, 1) := by decide +kernel
theorem d10_11 : decode prog_14_method_20_code 11 = .ok (.if_icmp .le 30, 3) := by decide +kernel
theorem d10_41 : decode prog_14_method_20_code 41 = .ok (.return_, 1) := by decide +kernel
theorem efr (m : MethodId) (a1 : Addr) (p2 : Int32) : entryFrame m #[(.ref a1), (.int p2)] 2 = mkF m 0 #[.val (.ref a1), .val (.int p2)] [] := by first | (simp [entryFrame, mkF, argsToLocals, Value.category]; done) | rfl
abbrev own_R0_0_0_0 : Room := { frames := 0, cells := 0, slots := 0, locals := 0 }
def Qr (Z : State) (a1 : Addr) (p2 : Int32) (b1 : Addr) (k1 : ClassId) (u : Int32) (Lv : List Value) (h0 : Heap) (n0 : Nat) (v : Option Value) (h : Heap) (L : List Loc) : Prop := v = none ∧ Fr n0 L ∧ h = h0
set_option maxRecDepth 65536 in
set_option maxHeartbeats 40000000 in
theorem rmr (l : Launch) (Z : State) (a0 : Array Value) (hw : ∀ d ∈ tables_1, d.before a0 Z = true) (ws : List Jvm.Cond) (a1 : Addr) (p2 : Int32) (b1 : Addr) (k1 : ClassId) (u : Int32) (Lv : List Value) (h0 : Heap) (n0 : Nat) (Z0 : n0 ≤ h0.size) (FB : Fld Z h0 a1 "com/example/portcullis/portcullis/io/CdrOutput" "buffer" "[B" (.ref b1)) (FS : Fld Z h0 a1 "com/example/portcullis/portcullis/io/CdrOutput" "size" "I" (.int u)) (VA : Arv Z h0 b1 k1 .byte (256 : Int32) Lv (.int (0 : Int32))) (hR : ¬ (256 : Int32) < (u + p2)) :
    MetFree l own_y1 (head1 (Jvm.Cond.code own_y1 prog_14_method_20_code 2 none :: ws) own_R0_0_0_0) (fun a U => a = #[(.ref a1), (.int p2)] ∧ Z.Warmed39 U.vm ∧ U.heap = h0) (fun _ _ _ _ _ => True) (fun _ U o U' => ∃ v L, o = .returned v ∧ Qr Z a1 p2 b1 k1 u Lv h0 n0 v U'.heap L ∧ FrameEnd U o U' L (own_R0_0_0_0).cells (own_R0_0_0_0).slots) := by
  refine MetFree.of_bodySF (plainFor_of_name pn_0) hisR ?_
  intro p e s m args below meth c s₁ Bd hml0 hP hK
  obtain ⟨rfl, hZ, hh⟩ := hP
  have hx := Bd.exec
  have hby := Bd.bytes
  have hml : c.maxLocals = 2 := hml0
  have hown : s.vm.findClass "com/example/portcullis/portcullis/io/CdrOutput" = some m.cls := findClass_of_methodNamed Bd.named
  have hnm := (name_of_methodNamed Bd.named Bd.method).1
  have hlk : meth.locks = false := BodyLoose.notSynchronized Bd
  have hrt := Bd.returns
  have X0 : Stand p l e own_R0_0_0_0 s m #[(.ref a1), (.int p2)] below meth c s₁ [] 0 0 := Stand.of_body Bd
  have e0 : s₁.heap = h0 := by rw [← hh, Bd.state]; rfl
  have N0 := Fr.nil n0
  refine (show Go p e below (fun s₂ o => ∃ v L, o = .returned v ∧ Qr Z a1 p2 b1 k1 u Lv h0 n0 v s₂.heap L ∧ FrameEnd s o s₂ L 0 0) (s₁.setTop (entryFrame m #[(.ref a1), (.int p2)] 2)) from ?_)
  rw [efr]
  refine Go.st (U' := s₁.setTop (mkF m 1 #[.val (.ref a1), .val (.int p2)] [(.ref a1)])) (fun t k => ?_) ?_
  · refine XS.aloadN X0.here hx rfl (hb hby d10_0) rfl rfl ?_
    exact k
  obtain ⟨T104, X104, e104, st104⟩ := getF X0 hx hZ hown (host := "") (Or.inl (own_w hw 17 rfl)) Via.refl e0 FS (g := (mkF m 1 #[.val (.ref a1), .val (.int p2)] [(.ref a1)])) rfl rfl (hb hby d10_1)
  refine Go.st (U' := T104.setTop (mkF m 4 #[.val (.ref a1), .val (.int p2)] [(.int u)])) (fun t k => st104 _ k) ?_
  refine Go.st (U' := T104.setTop (mkF m 7 #[.val (.ref a1), .val (.int p2)] [(.ref a1), (.int (u + p2))])) (fun t k => ?_) ?_
  · refine XS.iloadN X104.here hx rfl (hb hby d10_4) rfl ?_
    refine XS.iadd X104.here hx rfl (hb hby d10_5) rfl ?_
    refine XS.aloadN X104.here hx rfl (hb hby d10_6) rfl rfl ?_
    exact k
  obtain ⟨T105, X105, e105, st105⟩ := getF X104 hx hZ hown (host := "") (Or.inl (own_w hw 10 rfl)) Via.refl e104 FB (g := (mkF m 7 #[.val (.ref a1), .val (.int p2)] [(.ref a1), (.int (u + p2))])) rfl rfl (hb hby d10_7)
  refine Go.st (U' := T105.setTop (mkF m 10 #[.val (.ref a1), .val (.int p2)] [(.ref b1), (.int (u + p2))])) (fun t k => st105 _ k) ?_
  obtain ⟨cl106, Ar106, q106, S106, N106, H106, G106⟩ := id VA
  refine Go.st (U' := T105.setTop (mkF m 41 #[.val (.ref a1), .val (.int p2)] [])) (fun t k => ?_) ?_
  · refine X105.arraylength hx (by rw [e105]; exact Ar106.1) (State.isArrayOf_alike hZ.alike Ar106.2.1) (g := (mkF m 10 #[.val (.ref a1), .val (.int p2)] [(.ref b1), (.int (u + p2))])) rfl rfl (hb hby d10_10) _ ?_
    rw [len_of S106 N106]
    refine XS.icmpYes X105.here hx rfl (pc0 := 11) (pc' := 41) rfl (hb hby d10_11) rfl (flt (hR : ¬ ((256 : Int32) < (u + p2)))).2.2.2 (by decide) (by decide) ?_
    exact k
  refine own_ret (Q := Qr Z a1 p2 b1 k1 u Lv h0 n0) (v := none) X105 hlk (fun _ => rfl) (by decide) (by decide) ?_ (fun fs hr => X105.returnOut hx hrt (hb hby d10_41) hr)
  rw [e105]
  exact ⟨rfl, N0, rfl⟩
theorem d14_0 : decode jdk_65_method_30_code 0 = .ok (.iload_n 1, 1) := by decide +kernel
theorem d14_1 : decode jdk_65_method_30_code 1 = .ok (.iload_n 2, 1) := by decide +kernel
theorem d14_2 : decode jdk_65_method_30_code 2 = .ok (.if_icmp .le 44, 3) := by decide +kernel
theorem d14_46 : decode jdk_65_method_30_code 46 = .ok (.iload_n 1, 1) := by decide +kernel
theorem d14_47 : decode jdk_65_method_30_code 47 = .ok (.ifCond .ge 12, 3) := by decide +kernel
theorem d14_59 : decode jdk_65_method_30_code 59 = .ok (.iload_n 2, 1) := by decide +kernel
theorem d14_60 : decode jdk_65_method_30_code 60 = .ok (.iload_n 0, 1) := by decide +kernel
theorem d14_61 : decode jdk_65_method_30_code 61 = .ok (.if_icmp .le 12, 3) := by decide +kernel
theorem d14_73 : decode jdk_65_method_30_code 73 = .ok (.return_, 1) := by decide +kernel
theorem pn_4 : plainName "java/util/Arrays" = true := by first | (simp [plainName, overriddenIn]; done) | decide +kernel
theorem efk (m : MethodId) (p1 : Int32) (p2 : Int32) (p3 : Int32) : entryFrame m #[(.int p1), (.int p2), (.int p3)] 3 = mkF m 0 #[.val (.int p1), .val (.int p2), .val (.int p3)] [] := by first | (simp [entryFrame, mkF, argsToLocals, Value.category]; done) | rfl
def Qk (Z : State) (p1 : Int32) (p2 : Int32) (p3 : Int32) (h0 : Heap) (n0 : Nat) (v : Option Value) (h : Heap) (L : List Loc) : Prop := v = none ∧ Fr n0 L ∧ h = h0
set_option maxRecDepth 65536 in
set_option maxHeartbeats 40000000 in
theorem rmk (l : Launch) (Z : State) (a0 : Array Value) (hw : ∀ d ∈ tables_1, d.before a0 Z = true) (ws : List Jvm.Cond) (p1 : Int32) (p2 : Int32) (p3 : Int32) (h0 : Heap) (n0 : Nat) (Z0 : n0 ≤ h0.size) (hA : ¬ p3 < p2) (hB : ¬ p2 < (0 : Int32)) (hC : ¬ p1 < p3) :
    MetFree l own_y2 (head1 (Jvm.Cond.code own_y2 jdk_65_method_30_code 3 none :: ws) own_R0_0_0_0) (fun a U => a = #[(.int p1), (.int p2), (.int p3)] ∧ Z.Warmed39 U.vm ∧ U.heap = h0) (fun _ _ _ _ _ => True) (fun _ U o U' => ∃ v L, o = .returned v ∧ Qk Z p1 p2 p3 h0 n0 v U'.heap L ∧ FrameEnd U o U' L (own_R0_0_0_0).cells (own_R0_0_0_0).slots) := by
  refine MetFree.of_bodySF (plainFor_of_name pn_4) hisR ?_
  intro p e s m args below meth c s₁ Bd hml0 hP hK
  obtain ⟨rfl, hZ, hh⟩ := hP
  have hx := Bd.exec
  have hby := Bd.bytes
  have hml : c.maxLocals = 3 := hml0
  have hown : s.vm.findClass "java/util/Arrays" = some m.cls := findClass_of_methodNamed Bd.named
  have hnm := (name_of_methodNamed Bd.named Bd.method).1
  have hlk : meth.locks = false := BodyLoose.notSynchronized Bd
  have hrt := Bd.returns
  have X0 : Stand p l e own_R0_0_0_0 s m #[(.int p1), (.int p2), (.int p3)] below meth c s₁ [] 0 0 := Stand.of_body Bd
  have e0 : s₁.heap = h0 := by rw [← hh, Bd.state]; rfl
  have N0 := Fr.nil n0
  refine (show Go p e below (fun s₂ o => ∃ v L, o = .returned v ∧ Qk Z p1 p2 p3 h0 n0 v s₂.heap L ∧ FrameEnd s o s₂ L 0 0) (s₁.setTop (entryFrame m #[(.int p1), (.int p2), (.int p3)] 3)) from ?_)
  rw [efk]
  refine Go.st (U' := s₁.setTop (mkF m 73 #[.val (.int p1), .val (.int p2), .val (.int p3)] [])) (fun t k => ?_) ?_
  · refine XS.iloadN X0.here hx rfl (hb hby d14_0) rfl ?_
    refine XS.iloadN X0.here hx rfl (hb hby d14_1) rfl ?_
    refine XS.icmpYes X0.here hx rfl (pc0 := 2) (pc' := 46) rfl (hb hby d14_2) rfl (flt (hA : ¬ (p3 < p2))).2.2.2 (by decide) (by decide) ?_
    refine XS.iloadN X0.here hx rfl (hb hby d14_46) rfl ?_
    refine XS.ifYes X0.here hx rfl (pc0 := 47) (pc' := 59) rfl (hb hby d14_47) rfl ((if0 _ _).trans (flt (hB : ¬ (p2 < (0 : Int32)))).2.1) (by decide) (by decide) ?_
    refine XS.iloadN X0.here hx rfl (hb hby d14_59) rfl ?_
    refine XS.iloadN X0.here hx rfl (hb hby d14_60) rfl ?_
    refine XS.icmpYes X0.here hx rfl (pc0 := 61) (pc' := 73) rfl (hb hby d14_61) rfl (flt (hC : ¬ (p1 < p3))).2.2.2 (by decide) (by decide) ?_
    exact k
  refine own_ret (Q := Qk Z p1 p2 p3 h0 n0) (v := none) X0 hlk (fun _ => rfl) (by decide) (by decide) ?_ (fun fs hr => X0.returnOut hx hrt (hb hby d14_73) hr)
  rw [e0]
  exact ⟨rfl, N0, rfl⟩
theorem d9_0 : decode prog_14_method_2_code 0 = .ok (.aload_n 0, 1) := by decide +kernel
theorem d9_1 : decode prog_14_method_2_code 1 = .ok (.iconst 1, 1) := by decide +kernel
theorem d9_2 : decode prog_14_method_2_code 2 = .ok (.invokevirtual 13, 3) := by decide +kernel
theorem d9_5 : decode prog_14_method_2_code 5 = .ok (.aload_n 0, 1) := by decide +kernel
theorem d9_6 : decode prog_14_method_2_code 6 = .ok (.getfield 9, 3) := by decide +kernel
theorem d9_9 : decode prog_14_method_2_code 9 = .ok (.aload_n 0, 1) := by decide +kernel
theorem d9_10 : decode prog_14_method_2_code 10 = .ok (.dup, 1) := by decide +kernel
theorem d9_11 : decode prog_14_method_2_code 11 = .ok (.getfield 17, 3) := by decide +kernel
theorem d9_14 : decode prog_14_method_2_code 14 = .ok (.dup_x1, 1) := by decide +kernel
theorem d9_15 : decode prog_14_method_2_code 15 = .ok (.iconst 1, 1) := by decide +kernel
theorem d9_16 : decode prog_14_method_2_code 16 = .ok (.iadd, 1) := by decide +kernel
theorem d9_17 : decode prog_14_method_2_code 17 = .ok (.putfield 17, 3) := by decide +kernel
theorem d9_20 : decode prog_14_method_2_code 20 = .ok (.iload_n 1, 1) := by decide +kernel
theorem d9_21 : decode prog_14_method_2_code 21 = .ok (.bastore, 1) := by decide +kernel
theorem d9_22 : decode prog_14_method_2_code 22 = .ok (.return_, 1) := by decide +kernel
theorem pd_0 : parseMethodDescriptor "(I)V" = some ⟨[.int], none⟩ := by decide +kernel
theorem efo0 (m : MethodId) (a1 : Addr) (p2 : Int32) : entryFrame m #[(.ref a1), (.int p2)] 2 = mkF m 0 #[.val (.ref a1), .val (.int p2)] [] := by first | (simp [entryFrame, mkF, argsToLocals, Value.category]; done) | rfl
abbrev own_R3_0_0_80 : Room := { frames := 3, cells := 0, slots := 0, locals := 80 }
def Qo0 (Z : State) (a1 : Addr) (b1 : Addr) (k1 : ClassId) (c0 : Int32) (c1 : Int32) (c2 : Int32) (c3 : Int32) (c4 : Int32) (c5 : Int32) (c6 : Int32) (c7 : Int32) (c8 : Int32) (c9 : Int32) (c10 : Int32) (c11 : Int32) (c12 : Int32) (c13 : Int32) (c14 : Int32) (c15 : Int32) (p2 : Int32) (h0 : Heap) (n0 : Nat) (v : Option Value) (h : Heap) (L : List Loc) : Prop := v = none ∧ Fr n0 L ∧ Keep h0 h [a1, b1] ∧ Exa Z h a1 "com/example/portcullis/portcullis/io/CdrOutput" ∧ Fld Z h a1 "com/example/portcullis/portcullis/io/CdrOutput" "buffer" "[B" (.ref b1) ∧ Fld Z h a1 "com/example/portcullis/portcullis/io/CdrOutput" "size" "I" (.int (1 : Int32)) ∧ Arv Z h b1 k1 .byte (256 : Int32) [(.int (own_o p2)), (.int c1), (.int c2), (.int c3), (.int c4), (.int c5), (.int c6), (.int c7), (.int c8), (.int c9), (.int c10), (.int c11), (.int c12), (.int c13), (.int c14), (.int c15)] (.int (0 : Int32))
set_option maxRecDepth 65536 in
set_option maxHeartbeats 40000000 in
theorem rmo0 (l : Launch) (Z : State) (a0 : Array Value) (hw : ∀ d ∈ tables_1, d.before a0 Z = true) (ws : List Jvm.Cond) (a1 : Addr) (b1 : Addr) (k1 : ClassId) (c0 : Int32) (c1 : Int32) (c2 : Int32) (c3 : Int32) (c4 : Int32) (c5 : Int32) (c6 : Int32) (c7 : Int32) (c8 : Int32) (c9 : Int32) (c10 : Int32) (c11 : Int32) (c12 : Int32) (c13 : Int32) (c14 : Int32) (c15 : Int32) (p2 : Int32) (h0 : Heap) (n0 : Nat) (Z0 : n0 ≤ h0.size) (EX : Exa Z h0 a1 "com/example/portcullis/portcullis/io/CdrOutput") (FB : Fld Z h0 a1 "com/example/portcullis/portcullis/io/CdrOutput" "buffer" "[B" (.ref b1)) (FS : Fld Z h0 a1 "com/example/portcullis/portcullis/io/CdrOutput" "size" "I" (.int (0 : Int32))) (VA : Arv Z h0 b1 k1 .byte (256 : Int32) [(.int c0), (.int c1), (.int c2), (.int c3), (.int c4), (.int c5), (.int c6), (.int c7), (.int c8), (.int c9), (.int c10), (.int c11), (.int c12), (.int c13), (.int c14), (.int c15)] (.int (0 : Int32))) (gA : n0 ≤ a1) (gB : n0 ≤ b1) (nab : a1 ≠ b1) :
    MetFree l own_y3 (head1 (Jvm.Cond.code own_y3 prog_14_method_2_code 2 none :: ws) own_R3_0_0_80) (fun a U => a = #[(.ref a1), (.int p2)] ∧ Z.Warmed39 U.vm ∧ U.heap = h0) (fun _ _ _ _ _ => True) (fun _ U o U' => ∃ v L, o = .returned v ∧ Qo0 Z a1 b1 k1 c0 c1 c2 c3 c4 c5 c6 c7 c8 c9 c10 c11 c12 c13 c14 c15 p2 h0 n0 v U'.heap L ∧ FrameEnd U o U' L (own_R3_0_0_80).cells (own_R3_0_0_80).slots) := by
  refine MetFree.of_bodySF (plainFor_of_name pn_0) hisR ?_
  intro p e s m args below meth c s₁ Bd hml0 hP hK
  obtain ⟨rfl, hZ, hh⟩ := hP
  have hx := Bd.exec
  have hby := Bd.bytes
  have hml : c.maxLocals = 2 := hml0
  have hown : s.vm.findClass "com/example/portcullis/portcullis/io/CdrOutput" = some m.cls := findClass_of_methodNamed Bd.named
  have hnm := (name_of_methodNamed Bd.named Bd.method).1
  have hlk : meth.locks = false := BodyLoose.notSynchronized Bd
  have hrt := Bd.returns
  have X0 : Stand p l e own_R3_0_0_80 s m #[(.ref a1), (.int p2)] below meth c s₁ [] 0 0 := Stand.of_body Bd
  have e0 : s₁.heap = h0 := by rw [← hh, Bd.state]; rfl
  have N0 := Fr.nil n0
  refine (show Go p e below (fun s₂ o => ∃ v L, o = .returned v ∧ Qo0 Z a1 b1 k1 c0 c1 c2 c3 c4 c5 c6 c7 c8 c9 c10 c11 c12 c13 c14 c15 p2 h0 n0 v s₂.heap L ∧ FrameEnd s o s₂ L 0 0) (s₁.setTop (entryFrame m #[(.ref a1), (.int p2)] 2)) from ?_)
  rw [efo0]
  refine Go.st (U' := s₁.setTop (mkF m 2 #[.val (.ref a1), .val (.int p2)] [(.int (1 : Int32)), (.ref a1)])) (fun t k => ?_) ?_
  · refine XS.aloadN X0.here hx rfl (hb hby d9_0) rfl rfl ?_
    refine XS.iconst X0.here hx rfl (hb hby d9_1) ?_
    exact k
  obtain ⟨cq107, q107, q107'⟩ := EX.cell
  obtain ⟨_, _, ⟨T107, L107, k107, n107⟩, -, X107, ⟨Lc107, hQ107, l107, y107, z107⟩, st107⟩ := X0.privateBack hx (y := own_y1) hown (mvT hZ (own_w hw 48 rfl)) (mvT hZ (own_w hw 49 rfl)) (own_selp (y := own_y1) (mvT hZ (own_w hw 1 rfl)) (Cond.privateMethod_at (mvP hZ (own_w hw 50 rfl) (args := #[]))) (mvT hZ (own_w hw 49 rfl)) (by decide)) (Cond.privateMethod_at (mvP hZ (own_w hw 50 rfl) (args := #[]))) (mvT hZ (own_w hw 51 rfl)) (by decide) (backOf (W := 0) (rmr l Z a0 hw [] a1 (1 : Int32) b1 k1 (0 : Int32) [(.int c0), (.int c1), (.int c2), (.int c3), (.int c4), (.int c5), (.int c6), (.int c7), (.int c8), (.int c9), (.int c10), (.int c11), (.int c12), (.int c13), (.int c14), (.int c15)] h0 n0 Z0 FB FS VA (by decide)) hZ (own_w hw 51 rfl) (own_w hw 2 rfl) (by decide) (by decide)) (g := (mkF m 2 #[.val (.ref a1), .val (.int p2)] [(.int (1 : Int32)), (.ref a1)])) rfl (by rw [hml]; rfl) (Steps.refl _) (a := a1) (by rw [e0]; exact q107) q107' (argsL := [(.int (1 : Int32))]) (rest := []) (lenOf pd_0 rfl) rfl (by show 2 * 0 + _ ≤ _; exact Nat.le_of_eq rfl) (hb hby d9_2) (fun _ _ => ⟨rfl, e0, (by decide : 0 + 0 ≤ _), (by decide : 0 + 0 ≤ _)⟩)
  dsimp only [Pt.U, Pt.locs, Pt.cells, Pt.slots] at X107 l107 y107 z107 st107 hQ107
  subst l107 y107 z107
  obtain ⟨rfl, N107q, e107⟩ := hQ107
  have N107 := Fr.app N0 N107q
  refine Go.tr (U' := T107.setTop (mkF m 5 #[.val (.ref a1), .val (.int p2)] [])) st107 ?_
  refine Go.st (U' := T107.setTop (mkF m 6 #[.val (.ref a1), .val (.int p2)] [(.ref a1)])) (fun t k => ?_) ?_
  · refine XS.aloadN X107.here hx rfl (hb hby d9_5) rfl rfl ?_
    exact k
  obtain ⟨T108, X108, e108, st108⟩ := getF X107 hx hZ hown (host := "") (Or.inl (own_w hw 10 rfl)) Via.refl e107 FB (g := (mkF m 6 #[.val (.ref a1), .val (.int p2)] [(.ref a1)])) rfl rfl (hb hby d9_6)
  refine Go.st (U' := T108.setTop (mkF m 9 #[.val (.ref a1), .val (.int p2)] [(.ref b1)])) (fun t k => st108 _ k) ?_
  refine Go.st (U' := T108.setTop (mkF m 11 #[.val (.ref a1), .val (.int p2)] [(.ref a1), (.ref a1), (.ref b1)])) (fun t k => ?_) ?_
  · refine XS.aloadN X108.here hx rfl (hb hby d9_9) rfl rfl ?_
    refine XS.dup X108.here hx rfl (hb hby d9_10) rfl rfl ?_
    exact k
  obtain ⟨T109, X109, e109, st109⟩ := getF X108 hx hZ hown (host := "") (Or.inl (own_w hw 17 rfl)) Via.refl e108 FS (g := (mkF m 11 #[.val (.ref a1), .val (.int p2)] [(.ref a1), (.ref a1), (.ref b1)])) rfl rfl (hb hby d9_11)
  refine Go.st (U' := T109.setTop (mkF m 14 #[.val (.ref a1), .val (.int p2)] [(.int (0 : Int32)), (.ref a1), (.ref b1)])) (fun t k => st109 _ k) ?_
  refine Go.st (U' := T109.setTop (mkF m 17 #[.val (.ref a1), .val (.int p2)] [(.int (1 : Int32)), (.ref a1), (.int (0 : Int32)), (.ref b1)])) (fun t k => ?_) ?_
  · refine XS.dupX1 X109.here hx rfl (hb hby d9_14) rfl rfl rfl ?_
    refine XS.iconst X109.here hx rfl (hb hby d9_15) ?_
    refine XS.iadd X109.here hx rfl (hb hby d9_16) rfl ?_
    exact k
  obtain ⟨T110, h110, X110, e110, W110, st110⟩ := putF X109 hx hZ hown (host := "") (Or.inl (own_w hw 17 rfl)) Via.refl e109 FS EX (Or.inl (own_w hw 18 rfl)) (own_w hw 1 rfl) (ty := .int) (by decide) rfl rfl (g := (mkF m 17 #[.val (.ref a1), .val (.int p2)] [(.int (1 : Int32)), (.ref a1), (.int (0 : Int32)), (.ref b1)])) rfl rfl (hb hby d9_17)
  have F110 := FS.same W110
  have EX_110 := EX.wr W110
  have FB_110 := FB.other W110 (Or.inr (slot_ne (Or.inl (own_w hw 11 rfl)) (Or.inl (own_w hw 18 rfl)) (by decide) (t := (.array .byte)) (t' := .int) (by decide) (by decide)))
  have VA_110 := VA.other W110 (Ne.symm nab)
  have N110 := Fr.snoc X110 N107 gA
  have KK110 : Keep h0 h110 [a1, b1] := (Keep.refl h0 [a1, b1]).wr W110 (Or.inl (List.mem_of_getElem? (i := 0) rfl))
  have sz110 : n0 ≤ h110.size := Nat.le_trans Z0 (Nat.le_of_eq W110.size.symm)
  refine Go.st (U' := T110.setTop (mkF m 20 #[.val (.ref a1), .val (.int p2)] [(.int (0 : Int32)), (.ref b1)])) (fun t k => st110 _ k) ?_
  refine Go.st (U' := T110.setTop (mkF m 21 #[.val (.ref a1), .val (.int p2)] [(.int p2), (.int (0 : Int32)), (.ref b1)])) (fun t k => ?_) ?_
  · refine XS.iloadN X110.here hx rfl (hb hby d9_20) rfl ?_
    exact k
  obtain ⟨cl112, Ar112, q112, S112, N112, H112, G112⟩ := id VA_110
  obtain ⟨T111, h111, X111, e111, W111, st111⟩ := stB X110 hx hZ e110 Ar112 (j := (0 : Int32)) (inb_of (j := (0 : Int32)) S112 ⟨by decide, by decide⟩) (g := (mkF m 21 #[.val (.ref a1), .val (.int p2)] [(.int p2), (.int (0 : Int32)), (.ref b1)])) rfl rfl (hb hby d9_21)
  have VA_111 := Arv.set Ar112 q112 S112 N112 H112 G112 (fits_nar_byte _) W111 0 rfl (Nat.le_of_ble_eq_true rfl)
  have EX_111 := EX_110.wr W111
  have FB_111 := FB_110.other W111 (Or.inl nab)
  have FS_111 := F110.other W111 (Or.inl nab)
  have N111 := Fr.snoc X111 N110 gB
  have KK111 : Keep h0 h111 [a1, b1] := KK110.wr W111 (Or.inl (List.mem_of_getElem? (i := 1) rfl))
  have sz111 : n0 ≤ h111.size := Nat.le_trans sz110 (Nat.le_of_eq W111.size.symm)
  refine Go.st (U' := T111.setTop (mkF m 22 #[.val (.ref a1), .val (.int p2)] [])) (fun t k => st111 _ k) ?_
  refine own_ret (Q := Qo0 Z a1 b1 k1 c0 c1 c2 c3 c4 c5 c6 c7 c8 c9 c10 c11 c12 c13 c14 c15 p2 h0 n0) (v := none) X111 hlk (fun _ => rfl) (by decide) (by decide) ?_ (fun fs hr => X111.returnOut hx hrt (hb hby d9_22) hr)
  rw [e111]
  exact ⟨rfl, N111, KK111, EX_111, FB_111, FS_111, VA_111⟩
theorem d13_0 : decode jdk_65_method_110_code 0 = .ok (.aload_n 0, 1) := by decide +kernel
theorem d13_1 : decode jdk_65_method_110_code 1 = .ok (.arraylength, 1) := by decide +kernel
theorem d13_2 : decode jdk_65_method_110_code 2 = .ok (.iload_n 1, 1) := by decide +kernel
theorem d13_3 : decode jdk_65_method_110_code 3 = .ok (.iload_n 2, 1) := by decide +kernel
theorem d13_4 : decode jdk_65_method_110_code 4 = .ok (.invokestatic 13, 3) := by decide +kernel
theorem d13_7 : decode jdk_65_method_110_code 7 = .ok (.iload_n 1, 1) := by decide +kernel
theorem d13_8 : decode jdk_65_method_110_code 8 = .ok (.istore 4, 2) := by decide +kernel
theorem d13_10 : decode jdk_65_method_110_code 10 = .ok (.iload 4, 2) := by decide +kernel
theorem d13_12 : decode jdk_65_method_110_code 12 = .ok (.iload_n 2, 1) := by decide +kernel
theorem d13_13 : decode jdk_65_method_110_code 13 = .ok (.if_icmp .ge 14, 3) := by decide +kernel
theorem d13_27 : decode jdk_65_method_110_code 27 = .ok (.return_, 1) := by decide +kernel
theorem pd_1 : parseMethodDescriptor "(III)V" = some ⟨[.int, .int, .int], none⟩ := by decide +kernel
theorem eff0_0 (m : MethodId) (a1 : Addr) : entryFrame m #[(.ref a1), (.int (0 : Int32)), (.int (0 : Int32)), (.int (0 : Int32))] 5 = mkF m 0 #[.val (.ref a1), .val (.int (0 : Int32)), .val (.int (0 : Int32)), .val (.int (0 : Int32)), .unset] [] := by first | (simp [entryFrame, mkF, argsToLocals, Value.category]; done) | rfl
abbrev own_R1_0_0_16 : Room := { frames := 1, cells := 0, slots := 0, locals := 16 }
def Qf0_0 (Z : State) (a1 : Addr) (k1 : ClassId) (c0 : Int32) (c1 : Int32) (c2 : Int32) (c3 : Int32) (c4 : Int32) (c5 : Int32) (c6 : Int32) (c7 : Int32) (c8 : Int32) (c9 : Int32) (c10 : Int32) (c11 : Int32) (c12 : Int32) (c13 : Int32) (c14 : Int32) (c15 : Int32) (h0 : Heap) (n0 : Nat) (v : Option Value) (h : Heap) (L : List Loc) : Prop := v = none ∧ Fr n0 L ∧ Keep h0 h [a1] ∧ Arv Z h a1 k1 .byte (256 : Int32) [(.int c0), (.int c1), (.int c2), (.int c3), (.int c4), (.int c5), (.int c6), (.int c7), (.int c8), (.int c9), (.int c10), (.int c11), (.int c12), (.int c13), (.int c14), (.int c15)] (.int (0 : Int32))
set_option maxRecDepth 65536 in
set_option maxHeartbeats 40000000 in
theorem rmf0_0 (l : Launch) (Z : State) (a0 : Array Value) (hw : ∀ d ∈ tables_1, d.before a0 Z = true) (ws : List Jvm.Cond) (a1 : Addr) (k1 : ClassId) (c0 : Int32) (c1 : Int32) (c2 : Int32) (c3 : Int32) (c4 : Int32) (c5 : Int32) (c6 : Int32) (c7 : Int32) (c8 : Int32) (c9 : Int32) (c10 : Int32) (c11 : Int32) (c12 : Int32) (c13 : Int32) (c14 : Int32) (c15 : Int32) (h0 : Heap) (n0 : Nat) (Z0 : n0 ≤ h0.size) (VA : Arv Z h0 a1 k1 .byte (256 : Int32) [(.int c0), (.int c1), (.int c2), (.int c3), (.int c4), (.int c5), (.int c6), (.int c7), (.int c8), (.int c9), (.int c10), (.int c11), (.int c12), (.int c13), (.int c14), (.int c15)] (.int (0 : Int32))) (gA : n0 ≤ a1) :
    MetFree l own_y4 (head1 (Jvm.Cond.code own_y4 jdk_65_method_110_code 5 none :: ws) own_R1_0_0_16) (fun a U => a = #[(.ref a1), (.int (0 : Int32)), (.int (0 : Int32)), (.int (0 : Int32))] ∧ Z.Warmed39 U.vm ∧ U.heap = h0) (fun _ _ _ _ _ => True) (fun _ U o U' => ∃ v L, o = .returned v ∧ Qf0_0 Z a1 k1 c0 c1 c2 c3 c4 c5 c6 c7 c8 c9 c10 c11 c12 c13 c14 c15 h0 n0 v U'.heap L ∧ FrameEnd U o U' L (own_R1_0_0_16).cells (own_R1_0_0_16).slots) := by
  refine MetFree.of_bodySF (plainFor_of_name pn_4) hisR ?_
  intro p e s m args below meth c s₁ Bd hml0 hP hK
  obtain ⟨rfl, hZ, hh⟩ := hP
  have hx := Bd.exec
  have hby := Bd.bytes
  have hml : c.maxLocals = 5 := hml0
  have hown : s.vm.findClass "java/util/Arrays" = some m.cls := findClass_of_methodNamed Bd.named
  have hnm := (name_of_methodNamed Bd.named Bd.method).1
  have hlk : meth.locks = false := BodyLoose.notSynchronized Bd
  have hrt := Bd.returns
  have X0 : Stand p l e own_R1_0_0_16 s m #[(.ref a1), (.int (0 : Int32)), (.int (0 : Int32)), (.int (0 : Int32))] below meth c s₁ [] 0 0 := Stand.of_body Bd
  have e0 : s₁.heap = h0 := by rw [← hh, Bd.state]; rfl
  have N0 := Fr.nil n0
  refine (show Go p e below (fun s₂ o => ∃ v L, o = .returned v ∧ Qf0_0 Z a1 k1 c0 c1 c2 c3 c4 c5 c6 c7 c8 c9 c10 c11 c12 c13 c14 c15 h0 n0 v s₂.heap L ∧ FrameEnd s o s₂ L 0 0) (s₁.setTop (entryFrame m #[(.ref a1), (.int (0 : Int32)), (.int (0 : Int32)), (.int (0 : Int32))] 5)) from ?_)
  rw [eff0_0]
  obtain ⟨cl113, Ar113, q113, S113, N113, H113, G113⟩ := id VA
  refine Go.st (U' := s₁.setTop (mkF m 4 #[.val (.ref a1), .val (.int (0 : Int32)), .val (.int (0 : Int32)), .val (.int (0 : Int32)), .unset] [(.int (0 : Int32)), (.int (0 : Int32)), (.int (256 : Int32))])) (fun t k => ?_) ?_
  · refine XS.aloadN X0.here hx rfl (hb hby d13_0) rfl rfl ?_
    refine X0.arraylength hx (by rw [e0]; exact Ar113.1) (State.isArrayOf_alike hZ.alike Ar113.2.1) (g := (mkF m 1 #[.val (.ref a1), .val (.int (0 : Int32)), .val (.int (0 : Int32)), .val (.int (0 : Int32)), .unset] [(.ref a1)])) rfl rfl (hb hby d13_1) _ ?_
    rw [len_of S113 N113]
    refine XS.iloadN X0.here hx rfl (hb hby d13_2) rfl ?_
    refine XS.iloadN X0.here hx rfl (hb hby d13_3) rfl ?_
    exact k
  obtain ⟨_, _, ⟨T114, L114, k114, n114⟩, -, X114, ⟨Lc114, hQ114, l114, y114, z114⟩, st114⟩ := Jvm.LawKit.callS X0 hx (y := own_y2) hown (mvT hZ (own_w hw 65 rfl)) (mvT hZ (own_w hw 66 rfl)) (mvT hZ (own_w hw 21 rfl)) (mvT hZ (own_w hw 67 rfl)) (by decide) (backOf (W := 0) (rmk l Z a0 hw [] (256 : Int32) (0 : Int32) (0 : Int32) h0 n0 Z0 (by decide) (by decide) (by decide)) hZ (own_w hw 67 rfl) (own_w hw 21 rfl) (by decide) (by decide)) (g := (mkF m 4 #[.val (.ref a1), .val (.int (0 : Int32)), .val (.int (0 : Int32)), .val (.int (0 : Int32)), .unset] [(.int (0 : Int32)), (.int (0 : Int32)), (.int (256 : Int32))])) rfl (by rw [hml]; rfl) (argsL := [(.int (256 : Int32)), (.int (0 : Int32)), (.int (0 : Int32))]) (rest := []) (lenOf pd_1 rfl) rfl (by show 2 * 0 + _ ≤ _; exact Nat.le_of_eq rfl) (hb hby d13_4) (fun _ _ => ⟨rfl, e0, (by decide : 0 + 0 ≤ _), (by decide : 0 + 0 ≤ _)⟩)
  dsimp only [Pt.U, Pt.locs, Pt.cells, Pt.slots] at X114 l114 y114 z114 st114 hQ114
  subst l114 y114 z114
  obtain ⟨rfl, N114q, e114⟩ := hQ114
  have N114 := Fr.app N0 N114q
  refine Go.st (U' := T114.setTop (mkF m 7 #[.val (.ref a1), .val (.int (0 : Int32)), .val (.int (0 : Int32)), .val (.int (0 : Int32)), .unset] [])) (fun t k => st114 _ k) ?_
  refine Go.st (U' := T114.setTop (mkF m 27 #[.val (.ref a1), .val (.int (0 : Int32)), .val (.int (0 : Int32)), .val (.int (0 : Int32)), .val (.int (0 : Int32))] [])) (fun t k => ?_) ?_
  · refine XS.iloadN X114.here hx rfl (hb hby d13_7) rfl ?_
    refine XS.istore X114.here hx rfl (hb hby d13_8) rfl (l' := #[.val (.ref a1), .val (.int (0 : Int32)), .val (.int (0 : Int32)), .val (.int (0 : Int32)), .val (.int (0 : Int32))]) rfl ?_
    refine XS.iload X114.here hx rfl (hb hby d13_10) rfl ?_
    refine XS.iloadN X114.here hx rfl (hb hby d13_12) rfl ?_
    refine XS.icmpYes X114.here hx rfl (pc0 := 13) (pc' := 27) rfl (hb hby d13_13) rfl (flt (by decide : ¬ ((0 : Int32) < (0 : Int32)))).2.1 (by decide) (by decide) ?_
    exact k
  refine own_ret (Q := Qf0_0 Z a1 k1 c0 c1 c2 c3 c4 c5 c6 c7 c8 c9 c10 c11 c12 c13 c14 c15 h0 n0) (v := none) X114 hlk (fun _ => rfl) (by decide) (by decide) ?_ (fun fs hr => X114.returnOut hx hrt (hb hby d13_27) hr)
  rw [e114]
  exact ⟨rfl, N114, (Keep.refl h0 [a1]), VA⟩
theorem d12_0 : decode prog_14_method_14_code 0 = .ok (.aload_n 0, 1) := by decide +kernel
theorem d12_1 : decode prog_14_method_14_code 1 = .ok (.getfield 17, 3) := by decide +kernel
theorem d12_4 : decode prog_14_method_14_code 4 = .ok (.ineg, 1) := by decide +kernel
theorem d12_5 : decode prog_14_method_14_code 5 = .ok (.iload_n 1, 1) := by decide +kernel
theorem d12_6 : decode prog_14_method_14_code 6 = .ok (.iconst 1, 1) := by decide +kernel
theorem d12_7 : decode prog_14_method_14_code 7 = .ok (.isub, 1) := by decide +kernel
theorem d12_8 : decode prog_14_method_14_code 8 = .ok (.iand, 1) := by decide +kernel
theorem d12_9 : decode prog_14_method_14_code 9 = .ok (.istore_n 2, 1) := by decide +kernel
theorem d12_10 : decode prog_14_method_14_code 10 = .ok (.aload_n 0, 1) := by decide +kernel
theorem d12_11 : decode prog_14_method_14_code 11 = .ok (.iload_n 2, 1) := by decide +kernel
theorem d12_12 : decode prog_14_method_14_code 12 = .ok (.invokevirtual 13, 3) := by decide +kernel
theorem d12_15 : decode prog_14_method_14_code 15 = .ok (.aload_n 0, 1) := by decide +kernel
theorem d12_16 : decode prog_14_method_14_code 16 = .ok (.getfield 9, 3) := by decide +kernel
theorem d12_19 : decode prog_14_method_14_code 19 = .ok (.aload_n 0, 1) := by decide +kernel
theorem d12_20 : decode prog_14_method_14_code 20 = .ok (.getfield 17, 3) := by decide +kernel
theorem d12_23 : decode prog_14_method_14_code 23 = .ok (.aload_n 0, 1) := by decide +kernel
theorem d12_24 : decode prog_14_method_14_code 24 = .ok (.getfield 17, 3) := by decide +kernel
theorem d12_27 : decode prog_14_method_14_code 27 = .ok (.iload_n 2, 1) := by decide +kernel
theorem d12_28 : decode prog_14_method_14_code 28 = .ok (.iadd, 1) := by decide +kernel
theorem d12_29 : decode prog_14_method_14_code 29 = .ok (.iconst 0, 1) := by decide +kernel
theorem d12_30 : decode prog_14_method_14_code 30 = .ok (.invokestatic 96, 3) := by decide +kernel
theorem d12_33 : decode prog_14_method_14_code 33 = .ok (.aload_n 0, 1) := by decide +kernel
theorem d12_34 : decode prog_14_method_14_code 34 = .ok (.dup, 1) := by decide +kernel
theorem d12_35 : decode prog_14_method_14_code 35 = .ok (.getfield 17, 3) := by decide +kernel
theorem d12_38 : decode prog_14_method_14_code 38 = .ok (.iload_n 2, 1) := by decide +kernel
theorem d12_39 : decode prog_14_method_14_code 39 = .ok (.iadd, 1) := by decide +kernel
theorem d12_40 : decode prog_14_method_14_code 40 = .ok (.putfield 17, 3) := by decide +kernel
theorem d12_43 : decode prog_14_method_14_code 43 = .ok (.return_, 1) := by decide +kernel
theorem pd_2 : parseMethodDescriptor "([BIIB)V" = some ⟨[(.array .byte), .int, .int, .byte], none⟩ := by decide +kernel
theorem efa0_2 (m : MethodId) (a1 : Addr) : entryFrame m #[(.ref a1), (.int (2 : Int32))] 3 = mkF m 0 #[.val (.ref a1), .val (.int (2 : Int32)), .unset] [] := by first | (simp [entryFrame, mkF, argsToLocals, Value.category]; done) | rfl
abbrev own_R2_0_0_48 : Room := { frames := 2, cells := 0, slots := 0, locals := 48 }
def Qa0_2 (Z : State) (a1 : Addr) (b1 : Addr) (k1 : ClassId) (c0 : Int32) (c1 : Int32) (c2 : Int32) (c3 : Int32) (c4 : Int32) (c5 : Int32) (c6 : Int32) (c7 : Int32) (c8 : Int32) (c9 : Int32) (c10 : Int32) (c11 : Int32) (c12 : Int32) (c13 : Int32) (c14 : Int32) (c15 : Int32) (h0 : Heap) (n0 : Nat) (v : Option Value) (h : Heap) (L : List Loc) : Prop := v = none ∧ Fr n0 L ∧ Keep h0 h [a1, b1] ∧ Exa Z h a1 "com/example/portcullis/portcullis/io/CdrOutput" ∧ Fld Z h a1 "com/example/portcullis/portcullis/io/CdrOutput" "buffer" "[B" (.ref b1) ∧ Fld Z h a1 "com/example/portcullis/portcullis/io/CdrOutput" "size" "I" (.int (0 : Int32)) ∧ Arv Z h b1 k1 .byte (256 : Int32) [(.int c0), (.int c1), (.int c2), (.int c3), (.int c4), (.int c5), (.int c6), (.int c7), (.int c8), (.int c9), (.int c10), (.int c11), (.int c12), (.int c13), (.int c14), (.int c15)] (.int (0 : Int32))
set_option maxRecDepth 65536 in
set_option maxHeartbeats 40000000 in
theorem rma0_2 (l : Launch) (Z : State) (a0 : Array Value) (hw : ∀ d ∈ tables_1, d.before a0 Z = true) (ws : List Jvm.Cond) (a1 : Addr) (b1 : Addr) (k1 : ClassId) (c0 : Int32) (c1 : Int32) (c2 : Int32) (c3 : Int32) (c4 : Int32) (c5 : Int32) (c6 : Int32) (c7 : Int32) (c8 : Int32) (c9 : Int32) (c10 : Int32) (c11 : Int32) (c12 : Int32) (c13 : Int32) (c14 : Int32) (c15 : Int32) (h0 : Heap) (n0 : Nat) (Z0 : n0 ≤ h0.size) (EX : Exa Z h0 a1 "com/example/portcullis/portcullis/io/CdrOutput") (FB : Fld Z h0 a1 "com/example/portcullis/portcullis/io/CdrOutput" "buffer" "[B" (.ref b1)) (FS : Fld Z h0 a1 "com/example/portcullis/portcullis/io/CdrOutput" "size" "I" (.int (0 : Int32))) (VA : Arv Z h0 b1 k1 .byte (256 : Int32) [(.int c0), (.int c1), (.int c2), (.int c3), (.int c4), (.int c5), (.int c6), (.int c7), (.int c8), (.int c9), (.int c10), (.int c11), (.int c12), (.int c13), (.int c14), (.int c15)] (.int (0 : Int32))) (gA : n0 ≤ a1) (gB : n0 ≤ b1) (nab : a1 ≠ b1) :
    MetFree l own_y5 (head1 (Jvm.Cond.code own_y5 prog_14_method_14_code 3 none :: ws) own_R2_0_0_48) (fun a U => a = #[(.ref a1), (.int (2 : Int32))] ∧ Z.Warmed39 U.vm ∧ U.heap = h0) (fun _ _ _ _ _ => True) (fun _ U o U' => ∃ v L, o = .returned v ∧ Qa0_2 Z a1 b1 k1 c0 c1 c2 c3 c4 c5 c6 c7 c8 c9 c10 c11 c12 c13 c14 c15 h0 n0 v U'.heap L ∧ FrameEnd U o U' L (own_R2_0_0_48).cells (own_R2_0_0_48).slots) := by
  refine MetFree.of_bodySF (plainFor_of_name pn_0) hisR ?_
  intro p e s m args below meth c s₁ Bd hml0 hP hK
  obtain ⟨rfl, hZ, hh⟩ := hP
  have hx := Bd.exec
  have hby := Bd.bytes
  have hml : c.maxLocals = 3 := hml0
  have hown : s.vm.findClass "com/example/portcullis/portcullis/io/CdrOutput" = some m.cls := findClass_of_methodNamed Bd.named
  have hnm := (name_of_methodNamed Bd.named Bd.method).1
  have hlk : meth.locks = false := BodyLoose.notSynchronized Bd
  have hrt := Bd.returns
  have X0 : Stand p l e own_R2_0_0_48 s m #[(.ref a1), (.int (2 : Int32))] below meth c s₁ [] 0 0 := Stand.of_body Bd
  have e0 : s₁.heap = h0 := by rw [← hh, Bd.state]; rfl
  have N0 := Fr.nil n0
  refine (show Go p e below (fun s₂ o => ∃ v L, o = .returned v ∧ Qa0_2 Z a1 b1 k1 c0 c1 c2 c3 c4 c5 c6 c7 c8 c9 c10 c11 c12 c13 c14 c15 h0 n0 v s₂.heap L ∧ FrameEnd s o s₂ L 0 0) (s₁.setTop (entryFrame m #[(.ref a1), (.int (2 : Int32))] 3)) from ?_)
  rw [efa0_2]
  refine Go.st (U' := s₁.setTop (mkF m 1 #[.val (.ref a1), .val (.int (2 : Int32)), .unset] [(.ref a1)])) (fun t k => ?_) ?_
  · refine XS.aloadN X0.here hx rfl (hb hby d12_0) rfl rfl ?_
    exact k
  obtain ⟨T115, X115, e115, st115⟩ := getF X0 hx hZ hown (host := "") (Or.inl (own_w hw 17 rfl)) Via.refl e0 FS (g := (mkF m 1 #[.val (.ref a1), .val (.int (2 : Int32)), .unset] [(.ref a1)])) rfl rfl (hb hby d12_1)
  refine Go.st (U' := T115.setTop (mkF m 4 #[.val (.ref a1), .val (.int (2 : Int32)), .unset] [(.int (0 : Int32))])) (fun t k => st115 _ k) ?_
  refine Go.st (U' := T115.setTop (mkF m 12 #[.val (.ref a1), .val (.int (2 : Int32)), .val (.int (0 : Int32))] [(.int (0 : Int32)), (.ref a1)])) (fun t k => ?_) ?_
  · refine XS.ineg X115.here hx rfl (hb hby d12_4) rfl ?_
    refine XS.iloadN X115.here hx rfl (hb hby d12_5) rfl ?_
    refine XS.iconst X115.here hx rfl (hb hby d12_6) ?_
    refine XS.isub X115.here hx rfl (hb hby d12_7) rfl ?_
    refine XS.iand X115.here hx rfl (hb hby d12_8) rfl ?_
    refine XS.istoreN X115.here hx rfl (hb hby d12_9) rfl (l' := #[.val (.ref a1), .val (.int (2 : Int32)), .val (.int (0 : Int32))]) rfl ?_
    refine XS.aloadN X115.here hx rfl (hb hby d12_10) rfl rfl ?_
    refine XS.iloadN X115.here hx rfl (hb hby d12_11) rfl ?_
    exact k
  obtain ⟨cq116, q116, q116'⟩ := EX.cell
  obtain ⟨_, _, ⟨T116, L116, k116, n116⟩, -, X116, ⟨Lc116, hQ116, l116, y116, z116⟩, st116⟩ := X115.privateBack hx (y := own_y1) hown (mvT hZ (own_w hw 48 rfl)) (mvT hZ (own_w hw 49 rfl)) (own_selp (y := own_y1) (mvT hZ (own_w hw 1 rfl)) (Cond.privateMethod_at (mvP hZ (own_w hw 50 rfl) (args := #[]))) (mvT hZ (own_w hw 49 rfl)) (by decide)) (Cond.privateMethod_at (mvP hZ (own_w hw 50 rfl) (args := #[]))) (mvT hZ (own_w hw 51 rfl)) (by decide) (backOf (W := 0) (rmr l Z a0 hw [] a1 (0 : Int32) b1 k1 (0 : Int32) [(.int c0), (.int c1), (.int c2), (.int c3), (.int c4), (.int c5), (.int c6), (.int c7), (.int c8), (.int c9), (.int c10), (.int c11), (.int c12), (.int c13), (.int c14), (.int c15)] h0 n0 Z0 FB FS VA (by decide)) hZ (own_w hw 51 rfl) (own_w hw 2 rfl) (by decide) (by decide)) (g := (mkF m 12 #[.val (.ref a1), .val (.int (2 : Int32)), .val (.int (0 : Int32))] [(.int (0 : Int32)), (.ref a1)])) rfl (by rw [hml]; rfl) (Steps.refl _) (a := a1) (by rw [e115]; exact q116) q116' (argsL := [(.int (0 : Int32))]) (rest := []) (lenOf pd_0 rfl) rfl (by show 2 * 0 + _ ≤ _; exact Nat.le_of_eq rfl) (hb hby d12_12) (fun _ _ => ⟨rfl, e115, (by decide : 0 + 0 ≤ _), (by decide : 0 + 0 ≤ _)⟩)
  dsimp only [Pt.U, Pt.locs, Pt.cells, Pt.slots] at X116 l116 y116 z116 st116 hQ116
  subst l116 y116 z116
  obtain ⟨rfl, N116q, e116⟩ := hQ116
  have N116 := Fr.app N0 N116q
  refine Go.tr (U' := T116.setTop (mkF m 15 #[.val (.ref a1), .val (.int (2 : Int32)), .val (.int (0 : Int32))] [])) st116 ?_
  refine Go.st (U' := T116.setTop (mkF m 16 #[.val (.ref a1), .val (.int (2 : Int32)), .val (.int (0 : Int32))] [(.ref a1)])) (fun t k => ?_) ?_
  · refine XS.aloadN X116.here hx rfl (hb hby d12_15) rfl rfl ?_
    exact k
  obtain ⟨T117, X117, e117, st117⟩ := getF X116 hx hZ hown (host := "") (Or.inl (own_w hw 10 rfl)) Via.refl e116 FB (g := (mkF m 16 #[.val (.ref a1), .val (.int (2 : Int32)), .val (.int (0 : Int32))] [(.ref a1)])) rfl rfl (hb hby d12_16)
  refine Go.st (U' := T117.setTop (mkF m 19 #[.val (.ref a1), .val (.int (2 : Int32)), .val (.int (0 : Int32))] [(.ref b1)])) (fun t k => st117 _ k) ?_
  refine Go.st (U' := T117.setTop (mkF m 20 #[.val (.ref a1), .val (.int (2 : Int32)), .val (.int (0 : Int32))] [(.ref a1), (.ref b1)])) (fun t k => ?_) ?_
  · refine XS.aloadN X117.here hx rfl (hb hby d12_19) rfl rfl ?_
    exact k
  obtain ⟨T118, X118, e118, st118⟩ := getF X117 hx hZ hown (host := "") (Or.inl (own_w hw 17 rfl)) Via.refl e117 FS (g := (mkF m 20 #[.val (.ref a1), .val (.int (2 : Int32)), .val (.int (0 : Int32))] [(.ref a1), (.ref b1)])) rfl rfl (hb hby d12_20)
  refine Go.st (U' := T118.setTop (mkF m 23 #[.val (.ref a1), .val (.int (2 : Int32)), .val (.int (0 : Int32))] [(.int (0 : Int32)), (.ref b1)])) (fun t k => st118 _ k) ?_
  refine Go.st (U' := T118.setTop (mkF m 24 #[.val (.ref a1), .val (.int (2 : Int32)), .val (.int (0 : Int32))] [(.ref a1), (.int (0 : Int32)), (.ref b1)])) (fun t k => ?_) ?_
  · refine XS.aloadN X118.here hx rfl (hb hby d12_23) rfl rfl ?_
    exact k
  obtain ⟨T119, X119, e119, st119⟩ := getF X118 hx hZ hown (host := "") (Or.inl (own_w hw 17 rfl)) Via.refl e118 FS (g := (mkF m 24 #[.val (.ref a1), .val (.int (2 : Int32)), .val (.int (0 : Int32))] [(.ref a1), (.int (0 : Int32)), (.ref b1)])) rfl rfl (hb hby d12_24)
  refine Go.st (U' := T119.setTop (mkF m 27 #[.val (.ref a1), .val (.int (2 : Int32)), .val (.int (0 : Int32))] [(.int (0 : Int32)), (.int (0 : Int32)), (.ref b1)])) (fun t k => st119 _ k) ?_
  refine Go.st (U' := T119.setTop (mkF m 30 #[.val (.ref a1), .val (.int (2 : Int32)), .val (.int (0 : Int32))] [(.int (0 : Int32)), (.int (0 : Int32)), (.int (0 : Int32)), (.ref b1)])) (fun t k => ?_) ?_
  · refine XS.iloadN X119.here hx rfl (hb hby d12_27) rfl ?_
    refine XS.iadd X119.here hx rfl (hb hby d12_28) rfl ?_
    refine XS.iconst X119.here hx rfl (hb hby d12_29) ?_
    exact k
  obtain ⟨_, _, ⟨T120, L120, k120, n120⟩, -, X120, ⟨Lc120, hQ120, l120, y120, z120⟩, st120⟩ := Jvm.LawKit.callS X119 hx (y := own_y4) hown (mvT hZ (own_w hw 62 rfl)) (mvT hZ (own_w hw 63 rfl)) (mvT hZ (own_w hw 21 rfl)) (mvT hZ (own_w hw 64 rfl)) (by decide) (backOf (W := 0) (rmf0_0 l Z a0 hw [] b1 k1 c0 c1 c2 c3 c4 c5 c6 c7 c8 c9 c10 c11 c12 c13 c14 c15 h0 n0 Z0 VA gB) hZ (own_w hw 64 rfl) (own_w hw 21 rfl) (by decide) (by decide)) (g := (mkF m 30 #[.val (.ref a1), .val (.int (2 : Int32)), .val (.int (0 : Int32))] [(.int (0 : Int32)), (.int (0 : Int32)), (.int (0 : Int32)), (.ref b1)])) rfl (by rw [hml]; rfl) (argsL := [(.ref b1), (.int (0 : Int32)), (.int (0 : Int32)), (.int (0 : Int32))]) (rest := []) (lenOf pd_2 rfl) rfl (by show 2 * 0 + _ ≤ _; exact Nat.le_of_eq rfl) (hb hby d12_30) (fun _ _ => ⟨rfl, e119, (by decide : 0 + 0 ≤ _), (by decide : 0 + 0 ≤ _)⟩)
  dsimp only [Pt.U, Pt.locs, Pt.cells, Pt.slots] at X120 l120 y120 z120 st120 hQ120
  subst l120 y120 z120
  obtain ⟨rfl, N120q, K120, P120_0⟩ := hQ120
  have KK120 : Keep h0 T120.heap [a1, b1] := (Keep.refl h0 [a1, b1]).trans K120 (allS (Or.inl (List.mem_of_getElem? (i := 1) rfl)) all0)
  have EX_120 := EX.keep K120
  have FB_120 := FB.keep K120 (ninS nab nin0)
  have FS_120 := FS.keep K120 (ninS nab nin0)
  have sz120 : n0 ≤ T120.heap.size := Nat.le_trans Z0 K120.1
  have N120 := Fr.app N116 N120q
  refine Go.st (U' := T120.setTop (mkF m 33 #[.val (.ref a1), .val (.int (2 : Int32)), .val (.int (0 : Int32))] [])) (fun t k => st120 _ k) ?_
  refine Go.st (U' := T120.setTop (mkF m 35 #[.val (.ref a1), .val (.int (2 : Int32)), .val (.int (0 : Int32))] [(.ref a1), (.ref a1)])) (fun t k => ?_) ?_
  · refine XS.aloadN X120.here hx rfl (hb hby d12_33) rfl rfl ?_
    refine XS.dup X120.here hx rfl (hb hby d12_34) rfl rfl ?_
    exact k
  obtain ⟨T121, X121, e121, st121⟩ := getF X120 hx hZ hown (host := "") (Or.inl (own_w hw 17 rfl)) Via.refl rfl FS_120 (g := (mkF m 35 #[.val (.ref a1), .val (.int (2 : Int32)), .val (.int (0 : Int32))] [(.ref a1), (.ref a1)])) rfl rfl (hb hby d12_35)
  refine Go.st (U' := T121.setTop (mkF m 38 #[.val (.ref a1), .val (.int (2 : Int32)), .val (.int (0 : Int32))] [(.int (0 : Int32)), (.ref a1)])) (fun t k => st121 _ k) ?_
  refine Go.st (U' := T121.setTop (mkF m 40 #[.val (.ref a1), .val (.int (2 : Int32)), .val (.int (0 : Int32))] [(.int (0 : Int32)), (.ref a1)])) (fun t k => ?_) ?_
  · refine XS.iloadN X121.here hx rfl (hb hby d12_38) rfl ?_
    refine XS.iadd X121.here hx rfl (hb hby d12_39) rfl ?_
    exact k
  obtain ⟨T122, h122, X122, e122, W122, st122⟩ := putF X121 hx hZ hown (host := "") (Or.inl (own_w hw 17 rfl)) Via.refl e121 FS_120 EX_120 (Or.inl (own_w hw 18 rfl)) (own_w hw 1 rfl) (ty := .int) (by decide) rfl rfl (g := (mkF m 40 #[.val (.ref a1), .val (.int (2 : Int32)), .val (.int (0 : Int32))] [(.int (0 : Int32)), (.ref a1)])) rfl rfl (hb hby d12_40)
  have F122 := FS_120.same W122
  have EX_122 := EX_120.wr W122
  have FB_122 := FB_120.other W122 (Or.inr (slot_ne (Or.inl (own_w hw 11 rfl)) (Or.inl (own_w hw 18 rfl)) (by decide) (t := (.array .byte)) (t' := .int) (by decide) (by decide)))
  have P120_0_122 := P120_0.other W122 (Ne.symm nab)
  have N122 := Fr.snoc X122 N120 gA
  have KK122 : Keep h0 h122 [a1, b1] := KK120.wr W122 (Or.inl (List.mem_of_getElem? (i := 0) rfl))
  have sz122 : n0 ≤ h122.size := Nat.le_trans sz120 (Nat.le_of_eq W122.size.symm)
  refine Go.st (U' := T122.setTop (mkF m 43 #[.val (.ref a1), .val (.int (2 : Int32)), .val (.int (0 : Int32))] [])) (fun t k => st122 _ k) ?_
  refine own_ret (Q := Qa0_2 Z a1 b1 k1 c0 c1 c2 c3 c4 c5 c6 c7 c8 c9 c10 c11 c12 c13 c14 c15 h0 n0) (v := none) X122 hlk (fun _ => rfl) (by decide) (by decide) ?_ (fun fs hr => X122.returnOut hx hrt (hb hby d12_43) hr)
  rw [e122]
  exact ⟨rfl, N122, KK122, EX_122, FB_122, F122, P120_0_122⟩
theorem d11_0 : decode prog_14_method_4_code 0 = .ok (.aload_n 0, 1) := by decide +kernel
theorem d11_1 : decode prog_14_method_4_code 1 = .ok (.iconst 2, 1) := by decide +kernel
theorem d11_2 : decode prog_14_method_4_code 2 = .ok (.invokevirtual 25, 3) := by decide +kernel
theorem d11_5 : decode prog_14_method_4_code 5 = .ok (.aload_n 0, 1) := by decide +kernel
theorem d11_6 : decode prog_14_method_4_code 6 = .ok (.iconst 2, 1) := by decide +kernel
theorem d11_7 : decode prog_14_method_4_code 7 = .ok (.invokevirtual 13, 3) := by decide +kernel
theorem d11_10 : decode prog_14_method_4_code 10 = .ok (.aload_n 0, 1) := by decide +kernel
theorem d11_11 : decode prog_14_method_4_code 11 = .ok (.getfield 9, 3) := by decide +kernel
theorem d11_14 : decode prog_14_method_4_code 14 = .ok (.aload_n 0, 1) := by decide +kernel
theorem d11_15 : decode prog_14_method_4_code 15 = .ok (.dup, 1) := by decide +kernel
theorem d11_16 : decode prog_14_method_4_code 16 = .ok (.getfield 17, 3) := by decide +kernel
theorem d11_19 : decode prog_14_method_4_code 19 = .ok (.dup_x1, 1) := by decide +kernel
theorem d11_20 : decode prog_14_method_4_code 20 = .ok (.iconst 1, 1) := by decide +kernel
theorem d11_21 : decode prog_14_method_4_code 21 = .ok (.iadd, 1) := by decide +kernel
theorem d11_22 : decode prog_14_method_4_code 22 = .ok (.putfield 17, 3) := by decide +kernel
theorem d11_25 : decode prog_14_method_4_code 25 = .ok (.iload_n 1, 1) := by decide +kernel
theorem d11_26 : decode prog_14_method_4_code 26 = .ok (.bipush 8, 2) := by decide +kernel
theorem d11_28 : decode prog_14_method_4_code 28 = .ok (.iushr, 1) := by decide +kernel
theorem d11_29 : decode prog_14_method_4_code 29 = .ok (.i2b, 1) := by decide +kernel
theorem d11_30 : decode prog_14_method_4_code 30 = .ok (.bastore, 1) := by decide +kernel
theorem d11_31 : decode prog_14_method_4_code 31 = .ok (.aload_n 0, 1) := by decide +kernel
theorem d11_32 : decode prog_14_method_4_code 32 = .ok (.getfield 9, 3) := by decide +kernel
theorem d11_35 : decode prog_14_method_4_code 35 = .ok (.aload_n 0, 1) := by decide +kernel
theorem d11_36 : decode prog_14_method_4_code 36 = .ok (.dup, 1) := by decide +kernel
theorem d11_37 : decode prog_14_method_4_code 37 = .ok (.getfield 17, 3) := by decide +kernel
theorem d11_40 : decode prog_14_method_4_code 40 = .ok (.dup_x1, 1) := by decide +kernel
theorem d11_41 : decode prog_14_method_4_code 41 = .ok (.iconst 1, 1) := by decide +kernel
theorem d11_42 : decode prog_14_method_4_code 42 = .ok (.iadd, 1) := by decide +kernel
theorem d11_43 : decode prog_14_method_4_code 43 = .ok (.putfield 17, 3) := by decide +kernel
theorem d11_46 : decode prog_14_method_4_code 46 = .ok (.iload_n 1, 1) := by decide +kernel
theorem d11_47 : decode prog_14_method_4_code 47 = .ok (.i2b, 1) := by decide +kernel
theorem d11_48 : decode prog_14_method_4_code 48 = .ok (.bastore, 1) := by decide +kernel
theorem d11_49 : decode prog_14_method_4_code 49 = .ok (.return_, 1) := by decide +kernel
theorem efs0 (m : MethodId) (a1 : Addr) (p2 : Int32) : entryFrame m #[(.ref a1), (.int p2)] 2 = mkF m 0 #[.val (.ref a1), .val (.int p2)] [] := by first | (simp [entryFrame, mkF, argsToLocals, Value.category]; done) | rfl
def Qs0 (Z : State) (a1 : Addr) (b1 : Addr) (k1 : ClassId) (c0 : Int32) (c1 : Int32) (c2 : Int32) (c3 : Int32) (c4 : Int32) (c5 : Int32) (c6 : Int32) (c7 : Int32) (c8 : Int32) (c9 : Int32) (c10 : Int32) (c11 : Int32) (c12 : Int32) (c13 : Int32) (c14 : Int32) (c15 : Int32) (p2 : Int32) (h0 : Heap) (n0 : Nat) (v : Option Value) (h : Heap) (L : List Loc) : Prop := v = none ∧ Fr n0 L ∧ Keep h0 h [a1, b1] ∧ Exa Z h a1 "com/example/portcullis/portcullis/io/CdrOutput" ∧ Fld Z h a1 "com/example/portcullis/portcullis/io/CdrOutput" "buffer" "[B" (.ref b1) ∧ Fld Z h a1 "com/example/portcullis/portcullis/io/CdrOutput" "size" "I" (.int (2 : Int32)) ∧ Arv Z h b1 k1 .byte (256 : Int32) [(.int (own_b1 p2)), (.int (own_b0 p2)), (.int c2), (.int c3), (.int c4), (.int c5), (.int c6), (.int c7), (.int c8), (.int c9), (.int c10), (.int c11), (.int c12), (.int c13), (.int c14), (.int c15)] (.int (0 : Int32))
set_option maxRecDepth 65536 in
set_option maxHeartbeats 40000000 in
theorem rms0 (l : Launch) (Z : State) (a0 : Array Value) (hw : ∀ d ∈ tables_1, d.before a0 Z = true) (ws : List Jvm.Cond) (a1 : Addr) (b1 : Addr) (k1 : ClassId) (c0 : Int32) (c1 : Int32) (c2 : Int32) (c3 : Int32) (c4 : Int32) (c5 : Int32) (c6 : Int32) (c7 : Int32) (c8 : Int32) (c9 : Int32) (c10 : Int32) (c11 : Int32) (c12 : Int32) (c13 : Int32) (c14 : Int32) (c15 : Int32) (p2 : Int32) (h0 : Heap) (n0 : Nat) (Z0 : n0 ≤ h0.size) (EX : Exa Z h0 a1 "com/example/portcullis/portcullis/io/CdrOutput") (FB : Fld Z h0 a1 "com/example/portcullis/portcullis/io/CdrOutput" "buffer" "[B" (.ref b1)) (FS : Fld Z h0 a1 "com/example/portcullis/portcullis/io/CdrOutput" "size" "I" (.int (0 : Int32))) (VA : Arv Z h0 b1 k1 .byte (256 : Int32) [(.int c0), (.int c1), (.int c2), (.int c3), (.int c4), (.int c5), (.int c6), (.int c7), (.int c8), (.int c9), (.int c10), (.int c11), (.int c12), (.int c13), (.int c14), (.int c15)] (.int (0 : Int32))) (gA : n0 ≤ a1) (gB : n0 ≤ b1) (nab : a1 ≠ b1) :
    MetFree l own_y6 (head1 (Jvm.Cond.code own_y6 prog_14_method_4_code 2 none :: ws) own_R3_0_0_80) (fun a U => a = #[(.ref a1), (.int p2)] ∧ Z.Warmed39 U.vm ∧ U.heap = h0) (fun _ _ _ _ _ => True) (fun _ U o U' => ∃ v L, o = .returned v ∧ Qs0 Z a1 b1 k1 c0 c1 c2 c3 c4 c5 c6 c7 c8 c9 c10 c11 c12 c13 c14 c15 p2 h0 n0 v U'.heap L ∧ FrameEnd U o U' L (own_R3_0_0_80).cells (own_R3_0_0_80).slots) := by
  refine MetFree.of_bodySF (plainFor_of_name pn_0) hisR ?_
  intro p e s m args below meth c s₁ Bd hml0 hP hK
  obtain ⟨rfl, hZ, hh⟩ := hP
  have hx := Bd.exec
  have hby := Bd.bytes
  have hml : c.maxLocals = 2 := hml0
  have hown : s.vm.findClass "com/example/portcullis/portcullis/io/CdrOutput" = some m.cls := findClass_of_methodNamed Bd.named
  have hnm := (name_of_methodNamed Bd.named Bd.method).1
  have hlk : meth.locks = false := BodyLoose.notSynchronized Bd
  have hrt := Bd.returns
  have X0 : Stand p l e own_R3_0_0_80 s m #[(.ref a1), (.int p2)] below meth c s₁ [] 0 0 := Stand.of_body Bd
  have e0 : s₁.heap = h0 := by rw [← hh, Bd.state]; rfl
  have N0 := Fr.nil n0
  refine (show Go p e below (fun s₂ o => ∃ v L, o = .returned v ∧ Qs0 Z a1 b1 k1 c0 c1 c2 c3 c4 c5 c6 c7 c8 c9 c10 c11 c12 c13 c14 c15 p2 h0 n0 v s₂.heap L ∧ FrameEnd s o s₂ L 0 0) (s₁.setTop (entryFrame m #[(.ref a1), (.int p2)] 2)) from ?_)
  rw [efs0]
  refine Go.st (U' := s₁.setTop (mkF m 2 #[.val (.ref a1), .val (.int p2)] [(.int (2 : Int32)), (.ref a1)])) (fun t k => ?_) ?_
  · refine XS.aloadN X0.here hx rfl (hb hby d11_0) rfl rfl ?_
    refine XS.iconst X0.here hx rfl (hb hby d11_1) ?_
    exact k
  obtain ⟨cq123, kq123, q123a, q123b, q123c⟩ := isOf hZ e0 EX
  obtain ⟨_, _, ⟨T123, L123, k123, n123⟩, -, X123, ⟨Lc123, hQ123, l123, y123, z123⟩, st123⟩ := X0.virtualBack hx (y := own_y5) (z := own_y5) hown (mvT hZ (own_w hw 57 rfl)) (mvT hZ (own_w hw 58 rfl)) (notFace_of_selects (args := #[]) (mvT hZ (own_w hw 60 rfl))) (mvT hZ (own_w hw 60 rfl)) (mvT hZ (own_w hw 59 rfl)) (by decide) (backOf (W := 0) (rma0_2 l Z a0 hw [] a1 b1 k1 c0 c1 c2 c3 c4 c5 c6 c7 c8 c9 c10 c11 c12 c13 c14 c15 h0 n0 Z0 EX FB FS VA gA gB nab) hZ (own_w hw 61 rfl) (own_w hw 2 rfl) (by decide) (by decide)) q123a q123c (g := (mkF m 2 #[.val (.ref a1), .val (.int p2)] [(.int (2 : Int32)), (.ref a1)])) rfl (by rw [hml]; rfl) (Steps.refl _) (argsL := [(.int (2 : Int32))]) (rest := []) (lenOf pd_0 rfl) rfl (by show 2 * 0 + _ ≤ _; exact Nat.le_of_eq rfl) (hb hby d11_2) (fun _ _ => ⟨rfl, e0, (by decide : 0 + 0 ≤ _), (by decide : 0 + 0 ≤ _)⟩)
  dsimp only [Pt.U, Pt.locs, Pt.cells, Pt.slots] at X123 l123 y123 z123 st123 hQ123
  subst l123 y123 z123
  obtain ⟨rfl, N123q, K123, PE123, PV123, PZ123, PA123⟩ := hQ123
  have KK123 : Keep h0 T123.heap [a1, b1] := (Keep.refl h0 [a1, b1]).trans K123 (allS (Or.inl (List.mem_of_getElem? (i := 0) rfl)) (allS (Or.inl (List.mem_of_getElem? (i := 1) rfl)) all0))
  have EX_123 := EX.keep K123
  have sz123 : n0 ≤ T123.heap.size := Nat.le_trans Z0 K123.1
  have N123 := Fr.app N0 N123q
  refine Go.tr (U' := T123.setTop (mkF m 5 #[.val (.ref a1), .val (.int p2)] [])) st123 ?_
  refine Go.st (U' := T123.setTop (mkF m 7 #[.val (.ref a1), .val (.int p2)] [(.int (2 : Int32)), (.ref a1)])) (fun t k => ?_) ?_
  · refine XS.aloadN X123.here hx rfl (hb hby d11_5) rfl rfl ?_
    refine XS.iconst X123.here hx rfl (hb hby d11_6) ?_
    exact k
  obtain ⟨cq124, q124, q124'⟩ := PE123.cell
  obtain ⟨_, _, ⟨T124, L124, k124, n124⟩, -, X124, ⟨Lc124, hQ124, l124, y124, z124⟩, st124⟩ := X123.privateBack hx (y := own_y1) hown (mvT hZ (own_w hw 48 rfl)) (mvT hZ (own_w hw 49 rfl)) (own_selp (y := own_y1) (mvT hZ (own_w hw 1 rfl)) (Cond.privateMethod_at (mvP hZ (own_w hw 50 rfl) (args := #[]))) (mvT hZ (own_w hw 49 rfl)) (by decide)) (Cond.privateMethod_at (mvP hZ (own_w hw 50 rfl) (args := #[]))) (mvT hZ (own_w hw 51 rfl)) (by decide) (backOf (W := 0) (rmr l Z a0 hw [] a1 (2 : Int32) b1 k1 (0 : Int32) [(.int c0), (.int c1), (.int c2), (.int c3), (.int c4), (.int c5), (.int c6), (.int c7), (.int c8), (.int c9), (.int c10), (.int c11), (.int c12), (.int c13), (.int c14), (.int c15)] T123.heap n0 sz123 PV123 PZ123 PA123 (by decide)) hZ (own_w hw 51 rfl) (own_w hw 2 rfl) (by decide) (by decide)) (g := (mkF m 7 #[.val (.ref a1), .val (.int p2)] [(.int (2 : Int32)), (.ref a1)])) rfl (by rw [hml]; rfl) (Steps.refl _) (a := a1) q124 q124' (argsL := [(.int (2 : Int32))]) (rest := []) (lenOf pd_0 rfl) rfl (by show 2 * 0 + _ ≤ _; exact Nat.le_of_eq rfl) (hb hby d11_7) (fun _ _ => ⟨rfl, rfl, (by decide : 0 + 0 ≤ _), (by decide : 0 + 0 ≤ _)⟩)
  dsimp only [Pt.U, Pt.locs, Pt.cells, Pt.slots] at X124 l124 y124 z124 st124 hQ124
  subst l124 y124 z124
  obtain ⟨rfl, N124q, e124⟩ := hQ124
  have N124 := Fr.app N123 N124q
  refine Go.tr (U' := T124.setTop (mkF m 10 #[.val (.ref a1), .val (.int p2)] [])) st124 ?_
  refine Go.st (U' := T124.setTop (mkF m 11 #[.val (.ref a1), .val (.int p2)] [(.ref a1)])) (fun t k => ?_) ?_
  · refine XS.aloadN X124.here hx rfl (hb hby d11_10) rfl rfl ?_
    exact k
  obtain ⟨T125, X125, e125, st125⟩ := getF X124 hx hZ hown (host := "") (Or.inl (own_w hw 10 rfl)) Via.refl e124 PV123 (g := (mkF m 11 #[.val (.ref a1), .val (.int p2)] [(.ref a1)])) rfl rfl (hb hby d11_11)
  refine Go.st (U' := T125.setTop (mkF m 14 #[.val (.ref a1), .val (.int p2)] [(.ref b1)])) (fun t k => st125 _ k) ?_
  refine Go.st (U' := T125.setTop (mkF m 16 #[.val (.ref a1), .val (.int p2)] [(.ref a1), (.ref a1), (.ref b1)])) (fun t k => ?_) ?_
  · refine XS.aloadN X125.here hx rfl (hb hby d11_14) rfl rfl ?_
    refine XS.dup X125.here hx rfl (hb hby d11_15) rfl rfl ?_
    exact k
  obtain ⟨T126, X126, e126, st126⟩ := getF X125 hx hZ hown (host := "") (Or.inl (own_w hw 17 rfl)) Via.refl e125 PZ123 (g := (mkF m 16 #[.val (.ref a1), .val (.int p2)] [(.ref a1), (.ref a1), (.ref b1)])) rfl rfl (hb hby d11_16)
  refine Go.st (U' := T126.setTop (mkF m 19 #[.val (.ref a1), .val (.int p2)] [(.int (0 : Int32)), (.ref a1), (.ref b1)])) (fun t k => st126 _ k) ?_
  refine Go.st (U' := T126.setTop (mkF m 22 #[.val (.ref a1), .val (.int p2)] [(.int (1 : Int32)), (.ref a1), (.int (0 : Int32)), (.ref b1)])) (fun t k => ?_) ?_
  · refine XS.dupX1 X126.here hx rfl (hb hby d11_19) rfl rfl rfl ?_
    refine XS.iconst X126.here hx rfl (hb hby d11_20) ?_
    refine XS.iadd X126.here hx rfl (hb hby d11_21) rfl ?_
    exact k
  obtain ⟨T127, h127, X127, e127, W127, st127⟩ := putF X126 hx hZ hown (host := "") (Or.inl (own_w hw 17 rfl)) Via.refl e126 PZ123 PE123 (Or.inl (own_w hw 18 rfl)) (own_w hw 1 rfl) (ty := .int) (by decide) rfl rfl (g := (mkF m 22 #[.val (.ref a1), .val (.int p2)] [(.int (1 : Int32)), (.ref a1), (.int (0 : Int32)), (.ref b1)])) rfl rfl (hb hby d11_22)
  have F127 := PZ123.same W127
  have PE123_127 := PE123.wr W127
  have PV123_127 := PV123.other W127 (Or.inr (slot_ne (Or.inl (own_w hw 11 rfl)) (Or.inl (own_w hw 18 rfl)) (by decide) (t := (.array .byte)) (t' := .int) (by decide) (by decide)))
  have PA123_127 := PA123.other W127 (Ne.symm nab)
  have N127 := Fr.snoc X127 N124 gA
  have KK127 : Keep h0 h127 [a1, b1] := KK123.wr W127 (Or.inl (List.mem_of_getElem? (i := 0) rfl))
  have sz127 : n0 ≤ h127.size := Nat.le_trans sz123 (Nat.le_of_eq W127.size.symm)
  refine Go.st (U' := T127.setTop (mkF m 25 #[.val (.ref a1), .val (.int p2)] [(.int (0 : Int32)), (.ref b1)])) (fun t k => st127 _ k) ?_
  refine Go.st (U' := T127.setTop (mkF m 30 #[.val (.ref a1), .val (.int p2)] [(.int (((p2.toUInt32 >>> ((8 : Int32) &&& 31).toUInt32).toInt32).toInt8.toInt32)), (.int (0 : Int32)), (.ref b1)])) (fun t k => ?_) ?_
  · refine XS.iloadN X127.here hx rfl (hb hby d11_25) rfl ?_
    refine XS.bipush X127.here hx rfl (hb hby d11_26) ?_
    refine XS.iushr X127.here hx rfl (hb hby d11_28) rfl ?_
    refine XS.i2b X127.here hx rfl (hb hby d11_29) rfl ?_
    exact k
  obtain ⟨cl129, Ar129, q129, S129, N129, H129, G129⟩ := id PA123_127
  obtain ⟨T128, h128, X128, e128, W128, st128⟩ := stB X127 hx hZ e127 Ar129 (j := (0 : Int32)) (inb_of (j := (0 : Int32)) S129 ⟨by decide, by decide⟩) (g := (mkF m 30 #[.val (.ref a1), .val (.int p2)] [(.int (((p2.toUInt32 >>> ((8 : Int32) &&& 31).toUInt32).toInt32).toInt8.toInt32)), (.int (0 : Int32)), (.ref b1)])) rfl rfl (hb hby d11_30)
  have PA123_128 := Arv.set Ar129 q129 S129 N129 H129 G129 (fits_nar_byte _) W128 0 rfl (Nat.le_of_ble_eq_true rfl)
  have PE123_128 := PE123_127.wr W128
  have PV123_128 := PV123_127.other W128 (Or.inl nab)
  have PZ123_128 := F127.other W128 (Or.inl nab)
  have N128 := Fr.snoc X128 N127 gB
  have KK128 : Keep h0 h128 [a1, b1] := KK127.wr W128 (Or.inl (List.mem_of_getElem? (i := 1) rfl))
  have sz128 : n0 ≤ h128.size := Nat.le_trans sz127 (Nat.le_of_eq W128.size.symm)
  refine Go.st (U' := T128.setTop (mkF m 31 #[.val (.ref a1), .val (.int p2)] [])) (fun t k => st128 _ k) ?_
  refine Go.st (U' := T128.setTop (mkF m 32 #[.val (.ref a1), .val (.int p2)] [(.ref a1)])) (fun t k => ?_) ?_
  · refine XS.aloadN X128.here hx rfl (hb hby d11_31) rfl rfl ?_
    exact k
  obtain ⟨T130, X130, e130, st130⟩ := getF X128 hx hZ hown (host := "") (Or.inl (own_w hw 10 rfl)) Via.refl e128 PV123_128 (g := (mkF m 32 #[.val (.ref a1), .val (.int p2)] [(.ref a1)])) rfl rfl (hb hby d11_32)
  refine Go.st (U' := T130.setTop (mkF m 35 #[.val (.ref a1), .val (.int p2)] [(.ref b1)])) (fun t k => st130 _ k) ?_
  refine Go.st (U' := T130.setTop (mkF m 37 #[.val (.ref a1), .val (.int p2)] [(.ref a1), (.ref a1), (.ref b1)])) (fun t k => ?_) ?_
  · refine XS.aloadN X130.here hx rfl (hb hby d11_35) rfl rfl ?_
    refine XS.dup X130.here hx rfl (hb hby d11_36) rfl rfl ?_
    exact k
  obtain ⟨T131, X131, e131, st131⟩ := getF X130 hx hZ hown (host := "") (Or.inl (own_w hw 17 rfl)) Via.refl e130 PZ123_128 (g := (mkF m 37 #[.val (.ref a1), .val (.int p2)] [(.ref a1), (.ref a1), (.ref b1)])) rfl rfl (hb hby d11_37)
  refine Go.st (U' := T131.setTop (mkF m 40 #[.val (.ref a1), .val (.int p2)] [(.int (1 : Int32)), (.ref a1), (.ref b1)])) (fun t k => st131 _ k) ?_
  refine Go.st (U' := T131.setTop (mkF m 43 #[.val (.ref a1), .val (.int p2)] [(.int (2 : Int32)), (.ref a1), (.int (1 : Int32)), (.ref b1)])) (fun t k => ?_) ?_
  · refine XS.dupX1 X131.here hx rfl (hb hby d11_40) rfl rfl rfl ?_
    refine XS.iconst X131.here hx rfl (hb hby d11_41) ?_
    refine XS.iadd X131.here hx rfl (hb hby d11_42) rfl ?_
    exact k
  obtain ⟨T132, h132, X132, e132, W132, st132⟩ := putF X131 hx hZ hown (host := "") (Or.inl (own_w hw 17 rfl)) Via.refl e131 PZ123_128 PE123_128 (Or.inl (own_w hw 18 rfl)) (own_w hw 1 rfl) (ty := .int) (by decide) rfl rfl (g := (mkF m 43 #[.val (.ref a1), .val (.int p2)] [(.int (2 : Int32)), (.ref a1), (.int (1 : Int32)), (.ref b1)])) rfl rfl (hb hby d11_43)
  have F132 := PZ123_128.same W132
  have PE123_132 := PE123_128.wr W132
  have PV123_132 := PV123_128.other W132 (Or.inr (slot_ne (Or.inl (own_w hw 11 rfl)) (Or.inl (own_w hw 18 rfl)) (by decide) (t := (.array .byte)) (t' := .int) (by decide) (by decide)))
  have PA123_132 := PA123_128.other W132 (Ne.symm nab)
  have N132 := Fr.snoc X132 N128 gA
  have KK132 : Keep h0 h132 [a1, b1] := KK128.wr W132 (Or.inl (List.mem_of_getElem? (i := 0) rfl))
  have sz132 : n0 ≤ h132.size := Nat.le_trans sz128 (Nat.le_of_eq W132.size.symm)
  refine Go.st (U' := T132.setTop (mkF m 46 #[.val (.ref a1), .val (.int p2)] [(.int (1 : Int32)), (.ref b1)])) (fun t k => st132 _ k) ?_
  refine Go.st (U' := T132.setTop (mkF m 48 #[.val (.ref a1), .val (.int p2)] [(.int (p2.toInt8.toInt32)), (.int (1 : Int32)), (.ref b1)])) (fun t k => ?_) ?_
  · refine XS.iloadN X132.here hx rfl (hb hby d11_46) rfl ?_
    refine XS.i2b X132.here hx rfl (hb hby d11_47) rfl ?_
    exact k
  obtain ⟨cl134, Ar134, q134, S134, N134, H134, G134⟩ := id PA123_132
  obtain ⟨T133, h133, X133, e133, W133, st133⟩ := stB X132 hx hZ e132 Ar134 (j := (1 : Int32)) (inb_of (j := (1 : Int32)) S134 ⟨by decide, by decide⟩) (g := (mkF m 48 #[.val (.ref a1), .val (.int p2)] [(.int (p2.toInt8.toInt32)), (.int (1 : Int32)), (.ref b1)])) rfl rfl (hb hby d11_48)
  have PA123_133 := Arv.set Ar134 q134 S134 N134 H134 G134 (fits_nar_byte _) W133 1 rfl (Nat.le_of_ble_eq_true rfl)
  have PE123_133 := PE123_132.wr W133
  have PV123_133 := PV123_132.other W133 (Or.inl nab)
  have PZ123_133 := F132.other W133 (Or.inl nab)
  have N133 := Fr.snoc X133 N132 gB
  have KK133 : Keep h0 h133 [a1, b1] := KK132.wr W133 (Or.inl (List.mem_of_getElem? (i := 1) rfl))
  have sz133 : n0 ≤ h133.size := Nat.le_trans sz132 (Nat.le_of_eq W133.size.symm)
  refine Go.st (U' := T133.setTop (mkF m 49 #[.val (.ref a1), .val (.int p2)] [])) (fun t k => st133 _ k) ?_
  refine own_ret (Q := Qs0 Z a1 b1 k1 c0 c1 c2 c3 c4 c5 c6 c7 c8 c9 c10 c11 c12 c13 c14 c15 p2 h0 n0) (v := none) X133 hlk (fun _ => rfl) (by decide) (by decide) ?_ (fun fs hr => X133.returnOut hx hrt (hb hby d11_49) hr)
  rw [e133]
  exact ⟨rfl, N133, KK133, PE123_133, PV123_133, PZ123_133, PA123_133⟩
theorem d13_16 : decode jdk_65_method_110_code 16 = .ok (.aload_n 0, 1) := by decide +kernel
theorem d13_17 : decode jdk_65_method_110_code 17 = .ok (.iload 4, 2) := by decide +kernel
theorem d13_19 : decode jdk_65_method_110_code 19 = .ok (.iload_n 3, 1) := by decide +kernel
theorem d13_20 : decode jdk_65_method_110_code 20 = .ok (.bastore, 1) := by decide +kernel
theorem d13_21 : decode jdk_65_method_110_code 21 = .ok (.iinc 4 1, 3) := by decide +kernel
theorem d13_24 : decode jdk_65_method_110_code 24 = .ok (.goto (-14), 3) := by decide +kernel
theorem eff1_2 (m : MethodId) (a1 : Addr) : entryFrame m #[(.ref a1), (.int (1 : Int32)), (.int (2 : Int32)), (.int (0 : Int32))] 5 = mkF m 0 #[.val (.ref a1), .val (.int (1 : Int32)), .val (.int (2 : Int32)), .val (.int (0 : Int32)), .unset] [] := by first | (simp [entryFrame, mkF, argsToLocals, Value.category]; done) | rfl
def Qf1_2 (Z : State) (a1 : Addr) (k1 : ClassId) (c0 : Int32) (c1 : Int32) (c2 : Int32) (c3 : Int32) (c4 : Int32) (c5 : Int32) (c6 : Int32) (c7 : Int32) (c8 : Int32) (c9 : Int32) (c10 : Int32) (c11 : Int32) (c12 : Int32) (c13 : Int32) (c14 : Int32) (c15 : Int32) (h0 : Heap) (n0 : Nat) (v : Option Value) (h : Heap) (L : List Loc) : Prop := v = none ∧ Fr n0 L ∧ Keep h0 h [a1] ∧ Arv Z h a1 k1 .byte (256 : Int32) [(.int c0), (.int (0 : Int32)), (.int c2), (.int c3), (.int c4), (.int c5), (.int c6), (.int c7), (.int c8), (.int c9), (.int c10), (.int c11), (.int c12), (.int c13), (.int c14), (.int c15)] (.int (0 : Int32))
set_option maxRecDepth 65536 in
set_option maxHeartbeats 40000000 in
theorem rmf1_2 (l : Launch) (Z : State) (a0 : Array Value) (hw : ∀ d ∈ tables_1, d.before a0 Z = true) (ws : List Jvm.Cond) (a1 : Addr) (k1 : ClassId) (c0 : Int32) (c1 : Int32) (c2 : Int32) (c3 : Int32) (c4 : Int32) (c5 : Int32) (c6 : Int32) (c7 : Int32) (c8 : Int32) (c9 : Int32) (c10 : Int32) (c11 : Int32) (c12 : Int32) (c13 : Int32) (c14 : Int32) (c15 : Int32) (h0 : Heap) (n0 : Nat) (Z0 : n0 ≤ h0.size) (VA : Arv Z h0 a1 k1 .byte (256 : Int32) [(.int c0), (.int c1), (.int c2), (.int c3), (.int c4), (.int c5), (.int c6), (.int c7), (.int c8), (.int c9), (.int c10), (.int c11), (.int c12), (.int c13), (.int c14), (.int c15)] (.int (0 : Int32))) (gA : n0 ≤ a1) :
    MetFree l own_y4 (head1 (Jvm.Cond.code own_y4 jdk_65_method_110_code 5 none :: ws) own_R1_0_0_16) (fun a U => a = #[(.ref a1), (.int (1 : Int32)), (.int (2 : Int32)), (.int (0 : Int32))] ∧ Z.Warmed39 U.vm ∧ U.heap = h0) (fun _ _ _ _ _ => True) (fun _ U o U' => ∃ v L, o = .returned v ∧ Qf1_2 Z a1 k1 c0 c1 c2 c3 c4 c5 c6 c7 c8 c9 c10 c11 c12 c13 c14 c15 h0 n0 v U'.heap L ∧ FrameEnd U o U' L (own_R1_0_0_16).cells (own_R1_0_0_16).slots) := by
  refine MetFree.of_bodySF (plainFor_of_name pn_4) hisR ?_
  intro p e s m args below meth c s₁ Bd hml0 hP hK
  obtain ⟨rfl, hZ, hh⟩ := hP
  have hx := Bd.exec
  have hby := Bd.bytes
  have hml : c.maxLocals = 5 := hml0
  have hown : s.vm.findClass "java/util/Arrays" = some m.cls := findClass_of_methodNamed Bd.named
  have hnm := (name_of_methodNamed Bd.named Bd.method).1
  have hlk : meth.locks = false := BodyLoose.notSynchronized Bd
  have hrt := Bd.returns
  have X0 : Stand p l e own_R1_0_0_16 s m #[(.ref a1), (.int (1 : Int32)), (.int (2 : Int32)), (.int (0 : Int32))] below meth c s₁ [] 0 0 := Stand.of_body Bd
  have e0 : s₁.heap = h0 := by rw [← hh, Bd.state]; rfl
  have N0 := Fr.nil n0
  refine (show Go p e below (fun s₂ o => ∃ v L, o = .returned v ∧ Qf1_2 Z a1 k1 c0 c1 c2 c3 c4 c5 c6 c7 c8 c9 c10 c11 c12 c13 c14 c15 h0 n0 v s₂.heap L ∧ FrameEnd s o s₂ L 0 0) (s₁.setTop (entryFrame m #[(.ref a1), (.int (1 : Int32)), (.int (2 : Int32)), (.int (0 : Int32))] 5)) from ?_)
  rw [eff1_2]
  obtain ⟨cl135, Ar135, q135, S135, N135, H135, G135⟩ := id VA
  refine Go.st (U' := s₁.setTop (mkF m 4 #[.val (.ref a1), .val (.int (1 : Int32)), .val (.int (2 : Int32)), .val (.int (0 : Int32)), .unset] [(.int (2 : Int32)), (.int (1 : Int32)), (.int (256 : Int32))])) (fun t k => ?_) ?_
  · refine XS.aloadN X0.here hx rfl (hb hby d13_0) rfl rfl ?_
    refine X0.arraylength hx (by rw [e0]; exact Ar135.1) (State.isArrayOf_alike hZ.alike Ar135.2.1) (g := (mkF m 1 #[.val (.ref a1), .val (.int (1 : Int32)), .val (.int (2 : Int32)), .val (.int (0 : Int32)), .unset] [(.ref a1)])) rfl rfl (hb hby d13_1) _ ?_
    rw [len_of S135 N135]
    refine XS.iloadN X0.here hx rfl (hb hby d13_2) rfl ?_
    refine XS.iloadN X0.here hx rfl (hb hby d13_3) rfl ?_
    exact k
  obtain ⟨_, _, ⟨T136, L136, k136, n136⟩, -, X136, ⟨Lc136, hQ136, l136, y136, z136⟩, st136⟩ := Jvm.LawKit.callS X0 hx (y := own_y2) hown (mvT hZ (own_w hw 65 rfl)) (mvT hZ (own_w hw 66 rfl)) (mvT hZ (own_w hw 21 rfl)) (mvT hZ (own_w hw 67 rfl)) (by decide) (backOf (W := 0) (rmk l Z a0 hw [] (256 : Int32) (1 : Int32) (2 : Int32) h0 n0 Z0 (by decide) (by decide) (by decide)) hZ (own_w hw 67 rfl) (own_w hw 21 rfl) (by decide) (by decide)) (g := (mkF m 4 #[.val (.ref a1), .val (.int (1 : Int32)), .val (.int (2 : Int32)), .val (.int (0 : Int32)), .unset] [(.int (2 : Int32)), (.int (1 : Int32)), (.int (256 : Int32))])) rfl (by rw [hml]; rfl) (argsL := [(.int (256 : Int32)), (.int (1 : Int32)), (.int (2 : Int32))]) (rest := []) (lenOf pd_1 rfl) rfl (by show 2 * 0 + _ ≤ _; exact Nat.le_of_eq rfl) (hb hby d13_4) (fun _ _ => ⟨rfl, e0, (by decide : 0 + 0 ≤ _), (by decide : 0 + 0 ≤ _)⟩)
  dsimp only [Pt.U, Pt.locs, Pt.cells, Pt.slots] at X136 l136 y136 z136 st136 hQ136
  subst l136 y136 z136
  obtain ⟨rfl, N136q, e136⟩ := hQ136
  have N136 := Fr.app N0 N136q
  refine Go.st (U' := T136.setTop (mkF m 7 #[.val (.ref a1), .val (.int (1 : Int32)), .val (.int (2 : Int32)), .val (.int (0 : Int32)), .unset] [])) (fun t k => st136 _ k) ?_
  refine Go.st (U' := T136.setTop (mkF m 20 #[.val (.ref a1), .val (.int (1 : Int32)), .val (.int (2 : Int32)), .val (.int (0 : Int32)), .val (.int (1 : Int32))] [(.int (0 : Int32)), (.int (1 : Int32)), (.ref a1)])) (fun t k => ?_) ?_
  · refine XS.iloadN X136.here hx rfl (hb hby d13_7) rfl ?_
    refine XS.istore X136.here hx rfl (hb hby d13_8) rfl (l' := #[.val (.ref a1), .val (.int (1 : Int32)), .val (.int (2 : Int32)), .val (.int (0 : Int32)), .val (.int (1 : Int32))]) rfl ?_
    refine XS.iload X136.here hx rfl (hb hby d13_10) rfl ?_
    refine XS.iloadN X136.here hx rfl (hb hby d13_12) rfl ?_
    refine XS.icmpNo X136.here hx rfl (hb hby d13_13) rfl (tlt (by decide : (1 : Int32) < (2 : Int32))).2.1 ?_
    refine XS.aloadN X136.here hx rfl (hb hby d13_16) rfl rfl ?_
    refine XS.iload X136.here hx rfl (hb hby d13_17) rfl ?_
    refine XS.iloadN X136.here hx rfl (hb hby d13_19) rfl ?_
    exact k
  obtain ⟨T137, h137, X137, e137, W137, st137⟩ := stB X136 hx hZ e136 Ar135 (j := (1 : Int32)) (inb_of (j := (1 : Int32)) S135 ⟨by decide, by decide⟩) (g := (mkF m 20 #[.val (.ref a1), .val (.int (1 : Int32)), .val (.int (2 : Int32)), .val (.int (0 : Int32)), .val (.int (1 : Int32))] [(.int (0 : Int32)), (.int (1 : Int32)), (.ref a1)])) rfl rfl (hb hby d13_20)
  have VA_137 := Arv.set Ar135 q135 S135 N135 H135 G135 (fits_nar_byte _) W137 1 rfl (Nat.le_of_ble_eq_true rfl)
  have N137 := Fr.snoc X137 N136 gA
  have KK137 : Keep h0 h137 [a1] := (Keep.refl h0 [a1]).wr W137 (Or.inl (List.mem_of_getElem? (i := 0) rfl))
  have sz137 : n0 ≤ h137.size := Nat.le_trans Z0 (Nat.le_of_eq W137.size.symm)
  refine Go.st (U' := T137.setTop (mkF m 21 #[.val (.ref a1), .val (.int (1 : Int32)), .val (.int (2 : Int32)), .val (.int (0 : Int32)), .val (.int (1 : Int32))] [])) (fun t k => st137 _ k) ?_
  refine Go.st (U' := T137.setTop (mkF m 27 #[.val (.ref a1), .val (.int (1 : Int32)), .val (.int (2 : Int32)), .val (.int (0 : Int32)), .val (.int (2 : Int32))] [])) (fun t k => ?_) ?_
  · refine XS.iinc X137.here hx rfl (hb hby d13_21) rfl (l' := #[.val (.ref a1), .val (.int (1 : Int32)), .val (.int (2 : Int32)), .val (.int (0 : Int32)), .val (.int (2 : Int32))]) rfl ?_
    refine XS.goto X137.here hx rfl (pc0 := 24) (pc' := 10) rfl (hb hby d13_24) (by decide) (by decide) ?_
    refine XS.iload X137.here hx rfl (hb hby d13_10) rfl ?_
    refine XS.iloadN X137.here hx rfl (hb hby d13_12) rfl ?_
    refine XS.icmpYes X137.here hx rfl (pc0 := 13) (pc' := 27) rfl (hb hby d13_13) rfl (flt (by decide : ¬ ((2 : Int32) < (2 : Int32)))).2.1 (by decide) (by decide) ?_
    exact k
  refine own_ret (Q := Qf1_2 Z a1 k1 c0 c1 c2 c3 c4 c5 c6 c7 c8 c9 c10 c11 c12 c13 c14 c15 h0 n0) (v := none) X137 hlk (fun _ => rfl) (by decide) (by decide) ?_ (fun fs hr => X137.returnOut hx hrt (hb hby d13_27) hr)
  rw [e137]
  exact ⟨rfl, N137, KK137, VA_137⟩
theorem efa1_2 (m : MethodId) (a1 : Addr) : entryFrame m #[(.ref a1), (.int (2 : Int32))] 3 = mkF m 0 #[.val (.ref a1), .val (.int (2 : Int32)), .unset] [] := by first | (simp [entryFrame, mkF, argsToLocals, Value.category]; done) | rfl
def Qa1_2 (Z : State) (a1 : Addr) (b1 : Addr) (k1 : ClassId) (c0 : Int32) (c1 : Int32) (c2 : Int32) (c3 : Int32) (c4 : Int32) (c5 : Int32) (c6 : Int32) (c7 : Int32) (c8 : Int32) (c9 : Int32) (c10 : Int32) (c11 : Int32) (c12 : Int32) (c13 : Int32) (c14 : Int32) (c15 : Int32) (h0 : Heap) (n0 : Nat) (v : Option Value) (h : Heap) (L : List Loc) : Prop := v = none ∧ Fr n0 L ∧ Keep h0 h [a1, b1] ∧ Exa Z h a1 "com/example/portcullis/portcullis/io/CdrOutput" ∧ Fld Z h a1 "com/example/portcullis/portcullis/io/CdrOutput" "buffer" "[B" (.ref b1) ∧ Fld Z h a1 "com/example/portcullis/portcullis/io/CdrOutput" "size" "I" (.int (2 : Int32)) ∧ Arv Z h b1 k1 .byte (256 : Int32) [(.int c0), (.int (0 : Int32)), (.int c2), (.int c3), (.int c4), (.int c5), (.int c6), (.int c7), (.int c8), (.int c9), (.int c10), (.int c11), (.int c12), (.int c13), (.int c14), (.int c15)] (.int (0 : Int32))
set_option maxRecDepth 65536 in
set_option maxHeartbeats 40000000 in
theorem rma1_2 (l : Launch) (Z : State) (a0 : Array Value) (hw : ∀ d ∈ tables_1, d.before a0 Z = true) (ws : List Jvm.Cond) (a1 : Addr) (b1 : Addr) (k1 : ClassId) (c0 : Int32) (c1 : Int32) (c2 : Int32) (c3 : Int32) (c4 : Int32) (c5 : Int32) (c6 : Int32) (c7 : Int32) (c8 : Int32) (c9 : Int32) (c10 : Int32) (c11 : Int32) (c12 : Int32) (c13 : Int32) (c14 : Int32) (c15 : Int32) (h0 : Heap) (n0 : Nat) (Z0 : n0 ≤ h0.size) (EX : Exa Z h0 a1 "com/example/portcullis/portcullis/io/CdrOutput") (FB : Fld Z h0 a1 "com/example/portcullis/portcullis/io/CdrOutput" "buffer" "[B" (.ref b1)) (FS : Fld Z h0 a1 "com/example/portcullis/portcullis/io/CdrOutput" "size" "I" (.int (1 : Int32))) (VA : Arv Z h0 b1 k1 .byte (256 : Int32) [(.int c0), (.int c1), (.int c2), (.int c3), (.int c4), (.int c5), (.int c6), (.int c7), (.int c8), (.int c9), (.int c10), (.int c11), (.int c12), (.int c13), (.int c14), (.int c15)] (.int (0 : Int32))) (gA : n0 ≤ a1) (gB : n0 ≤ b1) (nab : a1 ≠ b1) :
    MetFree l own_y5 (head1 (Jvm.Cond.code own_y5 prog_14_method_14_code 3 none :: ws) own_R2_0_0_48) (fun a U => a = #[(.ref a1), (.int (2 : Int32))] ∧ Z.Warmed39 U.vm ∧ U.heap = h0) (fun _ _ _ _ _ => True) (fun _ U o U' => ∃ v L, o = .returned v ∧ Qa1_2 Z a1 b1 k1 c0 c1 c2 c3 c4 c5 c6 c7 c8 c9 c10 c11 c12 c13 c14 c15 h0 n0 v U'.heap L ∧ FrameEnd U o U' L (own_R2_0_0_48).cells (own_R2_0_0_48).slots) := by
  refine MetFree.of_bodySF (plainFor_of_name pn_0) hisR ?_
  intro p e s m args below meth c s₁ Bd hml0 hP hK
  obtain ⟨rfl, hZ, hh⟩ := hP
  have hx := Bd.exec
  have hby := Bd.bytes
  have hml : c.maxLocals = 3 := hml0
  have hown : s.vm.findClass "com/example/portcullis/portcullis/io/CdrOutput" = some m.cls := findClass_of_methodNamed Bd.named
  have hnm := (name_of_methodNamed Bd.named Bd.method).1
  have hlk : meth.locks = false := BodyLoose.notSynchronized Bd
  have hrt := Bd.returns
  have X0 : Stand p l e own_R2_0_0_48 s m #[(.ref a1), (.int (2 : Int32))] below meth c s₁ [] 0 0 := Stand.of_body Bd
  have e0 : s₁.heap = h0 := by rw [← hh, Bd.state]; rfl
  have N0 := Fr.nil n0
  refine (show Go p e below (fun s₂ o => ∃ v L, o = .returned v ∧ Qa1_2 Z a1 b1 k1 c0 c1 c2 c3 c4 c5 c6 c7 c8 c9 c10 c11 c12 c13 c14 c15 h0 n0 v s₂.heap L ∧ FrameEnd s o s₂ L 0 0) (s₁.setTop (entryFrame m #[(.ref a1), (.int (2 : Int32))] 3)) from ?_)
  rw [efa1_2]
  refine Go.st (U' := s₁.setTop (mkF m 1 #[.val (.ref a1), .val (.int (2 : Int32)), .unset] [(.ref a1)])) (fun t k => ?_) ?_
  · refine XS.aloadN X0.here hx rfl (hb hby d12_0) rfl rfl ?_
    exact k
  obtain ⟨T138, X138, e138, st138⟩ := getF X0 hx hZ hown (host := "") (Or.inl (own_w hw 17 rfl)) Via.refl e0 FS (g := (mkF m 1 #[.val (.ref a1), .val (.int (2 : Int32)), .unset] [(.ref a1)])) rfl rfl (hb hby d12_1)
  refine Go.st (U' := T138.setTop (mkF m 4 #[.val (.ref a1), .val (.int (2 : Int32)), .unset] [(.int (1 : Int32))])) (fun t k => st138 _ k) ?_
  refine Go.st (U' := T138.setTop (mkF m 12 #[.val (.ref a1), .val (.int (2 : Int32)), .val (.int (1 : Int32))] [(.int (1 : Int32)), (.ref a1)])) (fun t k => ?_) ?_
  · refine XS.ineg X138.here hx rfl (hb hby d12_4) rfl ?_
    refine XS.iloadN X138.here hx rfl (hb hby d12_5) rfl ?_
    refine XS.iconst X138.here hx rfl (hb hby d12_6) ?_
    refine XS.isub X138.here hx rfl (hb hby d12_7) rfl ?_
    refine XS.iand X138.here hx rfl (hb hby d12_8) rfl ?_
    refine XS.istoreN X138.here hx rfl (hb hby d12_9) rfl (l' := #[.val (.ref a1), .val (.int (2 : Int32)), .val (.int (1 : Int32))]) rfl ?_
    refine XS.aloadN X138.here hx rfl (hb hby d12_10) rfl rfl ?_
    refine XS.iloadN X138.here hx rfl (hb hby d12_11) rfl ?_
    exact k
  obtain ⟨cq139, q139, q139'⟩ := EX.cell
  obtain ⟨_, _, ⟨T139, L139, k139, n139⟩, -, X139, ⟨Lc139, hQ139, l139, y139, z139⟩, st139⟩ := X138.privateBack hx (y := own_y1) hown (mvT hZ (own_w hw 48 rfl)) (mvT hZ (own_w hw 49 rfl)) (own_selp (y := own_y1) (mvT hZ (own_w hw 1 rfl)) (Cond.privateMethod_at (mvP hZ (own_w hw 50 rfl) (args := #[]))) (mvT hZ (own_w hw 49 rfl)) (by decide)) (Cond.privateMethod_at (mvP hZ (own_w hw 50 rfl) (args := #[]))) (mvT hZ (own_w hw 51 rfl)) (by decide) (backOf (W := 0) (rmr l Z a0 hw [] a1 (1 : Int32) b1 k1 (1 : Int32) [(.int c0), (.int c1), (.int c2), (.int c3), (.int c4), (.int c5), (.int c6), (.int c7), (.int c8), (.int c9), (.int c10), (.int c11), (.int c12), (.int c13), (.int c14), (.int c15)] h0 n0 Z0 FB FS VA (by decide)) hZ (own_w hw 51 rfl) (own_w hw 2 rfl) (by decide) (by decide)) (g := (mkF m 12 #[.val (.ref a1), .val (.int (2 : Int32)), .val (.int (1 : Int32))] [(.int (1 : Int32)), (.ref a1)])) rfl (by rw [hml]; rfl) (Steps.refl _) (a := a1) (by rw [e138]; exact q139) q139' (argsL := [(.int (1 : Int32))]) (rest := []) (lenOf pd_0 rfl) rfl (by show 2 * 0 + _ ≤ _; exact Nat.le_of_eq rfl) (hb hby d12_12) (fun _ _ => ⟨rfl, e138, (by decide : 0 + 0 ≤ _), (by decide : 0 + 0 ≤ _)⟩)
  dsimp only [Pt.U, Pt.locs, Pt.cells, Pt.slots] at X139 l139 y139 z139 st139 hQ139
  subst l139 y139 z139
  obtain ⟨rfl, N139q, e139⟩ := hQ139
  have N139 := Fr.app N0 N139q
  refine Go.tr (U' := T139.setTop (mkF m 15 #[.val (.ref a1), .val (.int (2 : Int32)), .val (.int (1 : Int32))] [])) st139 ?_
  refine Go.st (U' := T139.setTop (mkF m 16 #[.val (.ref a1), .val (.int (2 : Int32)), .val (.int (1 : Int32))] [(.ref a1)])) (fun t k => ?_) ?_
  · refine XS.aloadN X139.here hx rfl (hb hby d12_15) rfl rfl ?_
    exact k
  obtain ⟨T140, X140, e140, st140⟩ := getF X139 hx hZ hown (host := "") (Or.inl (own_w hw 10 rfl)) Via.refl e139 FB (g := (mkF m 16 #[.val (.ref a1), .val (.int (2 : Int32)), .val (.int (1 : Int32))] [(.ref a1)])) rfl rfl (hb hby d12_16)
  refine Go.st (U' := T140.setTop (mkF m 19 #[.val (.ref a1), .val (.int (2 : Int32)), .val (.int (1 : Int32))] [(.ref b1)])) (fun t k => st140 _ k) ?_
  refine Go.st (U' := T140.setTop (mkF m 20 #[.val (.ref a1), .val (.int (2 : Int32)), .val (.int (1 : Int32))] [(.ref a1), (.ref b1)])) (fun t k => ?_) ?_
  · refine XS.aloadN X140.here hx rfl (hb hby d12_19) rfl rfl ?_
    exact k
  obtain ⟨T141, X141, e141, st141⟩ := getF X140 hx hZ hown (host := "") (Or.inl (own_w hw 17 rfl)) Via.refl e140 FS (g := (mkF m 20 #[.val (.ref a1), .val (.int (2 : Int32)), .val (.int (1 : Int32))] [(.ref a1), (.ref b1)])) rfl rfl (hb hby d12_20)
  refine Go.st (U' := T141.setTop (mkF m 23 #[.val (.ref a1), .val (.int (2 : Int32)), .val (.int (1 : Int32))] [(.int (1 : Int32)), (.ref b1)])) (fun t k => st141 _ k) ?_
  refine Go.st (U' := T141.setTop (mkF m 24 #[.val (.ref a1), .val (.int (2 : Int32)), .val (.int (1 : Int32))] [(.ref a1), (.int (1 : Int32)), (.ref b1)])) (fun t k => ?_) ?_
  · refine XS.aloadN X141.here hx rfl (hb hby d12_23) rfl rfl ?_
    exact k
  obtain ⟨T142, X142, e142, st142⟩ := getF X141 hx hZ hown (host := "") (Or.inl (own_w hw 17 rfl)) Via.refl e141 FS (g := (mkF m 24 #[.val (.ref a1), .val (.int (2 : Int32)), .val (.int (1 : Int32))] [(.ref a1), (.int (1 : Int32)), (.ref b1)])) rfl rfl (hb hby d12_24)
  refine Go.st (U' := T142.setTop (mkF m 27 #[.val (.ref a1), .val (.int (2 : Int32)), .val (.int (1 : Int32))] [(.int (1 : Int32)), (.int (1 : Int32)), (.ref b1)])) (fun t k => st142 _ k) ?_
  refine Go.st (U' := T142.setTop (mkF m 30 #[.val (.ref a1), .val (.int (2 : Int32)), .val (.int (1 : Int32))] [(.int (0 : Int32)), (.int (2 : Int32)), (.int (1 : Int32)), (.ref b1)])) (fun t k => ?_) ?_
  · refine XS.iloadN X142.here hx rfl (hb hby d12_27) rfl ?_
    refine XS.iadd X142.here hx rfl (hb hby d12_28) rfl ?_
    refine XS.iconst X142.here hx rfl (hb hby d12_29) ?_
    exact k
  obtain ⟨_, _, ⟨T143, L143, k143, n143⟩, -, X143, ⟨Lc143, hQ143, l143, y143, z143⟩, st143⟩ := Jvm.LawKit.callS X142 hx (y := own_y4) hown (mvT hZ (own_w hw 62 rfl)) (mvT hZ (own_w hw 63 rfl)) (mvT hZ (own_w hw 21 rfl)) (mvT hZ (own_w hw 64 rfl)) (by decide) (backOf (W := 0) (rmf1_2 l Z a0 hw [] b1 k1 c0 c1 c2 c3 c4 c5 c6 c7 c8 c9 c10 c11 c12 c13 c14 c15 h0 n0 Z0 VA gB) hZ (own_w hw 64 rfl) (own_w hw 21 rfl) (by decide) (by decide)) (g := (mkF m 30 #[.val (.ref a1), .val (.int (2 : Int32)), .val (.int (1 : Int32))] [(.int (0 : Int32)), (.int (2 : Int32)), (.int (1 : Int32)), (.ref b1)])) rfl (by rw [hml]; rfl) (argsL := [(.ref b1), (.int (1 : Int32)), (.int (2 : Int32)), (.int (0 : Int32))]) (rest := []) (lenOf pd_2 rfl) rfl (by show 2 * 0 + _ ≤ _; exact Nat.le_of_eq rfl) (hb hby d12_30) (fun _ _ => ⟨rfl, e142, (by decide : 0 + 0 ≤ _), (by decide : 0 + 0 ≤ _)⟩)
  dsimp only [Pt.U, Pt.locs, Pt.cells, Pt.slots] at X143 l143 y143 z143 st143 hQ143
  subst l143 y143 z143
  obtain ⟨rfl, N143q, K143, P143_0⟩ := hQ143
  have KK143 : Keep h0 T143.heap [a1, b1] := (Keep.refl h0 [a1, b1]).trans K143 (allS (Or.inl (List.mem_of_getElem? (i := 1) rfl)) all0)
  have EX_143 := EX.keep K143
  have FB_143 := FB.keep K143 (ninS nab nin0)
  have FS_143 := FS.keep K143 (ninS nab nin0)
  have sz143 : n0 ≤ T143.heap.size := Nat.le_trans Z0 K143.1
  have N143 := Fr.app N139 N143q
  refine Go.st (U' := T143.setTop (mkF m 33 #[.val (.ref a1), .val (.int (2 : Int32)), .val (.int (1 : Int32))] [])) (fun t k => st143 _ k) ?_
  refine Go.st (U' := T143.setTop (mkF m 35 #[.val (.ref a1), .val (.int (2 : Int32)), .val (.int (1 : Int32))] [(.ref a1), (.ref a1)])) (fun t k => ?_) ?_
  · refine XS.aloadN X143.here hx rfl (hb hby d12_33) rfl rfl ?_
    refine XS.dup X143.here hx rfl (hb hby d12_34) rfl rfl ?_
    exact k
  obtain ⟨T144, X144, e144, st144⟩ := getF X143 hx hZ hown (host := "") (Or.inl (own_w hw 17 rfl)) Via.refl rfl FS_143 (g := (mkF m 35 #[.val (.ref a1), .val (.int (2 : Int32)), .val (.int (1 : Int32))] [(.ref a1), (.ref a1)])) rfl rfl (hb hby d12_35)
  refine Go.st (U' := T144.setTop (mkF m 38 #[.val (.ref a1), .val (.int (2 : Int32)), .val (.int (1 : Int32))] [(.int (1 : Int32)), (.ref a1)])) (fun t k => st144 _ k) ?_
  refine Go.st (U' := T144.setTop (mkF m 40 #[.val (.ref a1), .val (.int (2 : Int32)), .val (.int (1 : Int32))] [(.int (2 : Int32)), (.ref a1)])) (fun t k => ?_) ?_
  · refine XS.iloadN X144.here hx rfl (hb hby d12_38) rfl ?_
    refine XS.iadd X144.here hx rfl (hb hby d12_39) rfl ?_
    exact k
  obtain ⟨T145, h145, X145, e145, W145, st145⟩ := putF X144 hx hZ hown (host := "") (Or.inl (own_w hw 17 rfl)) Via.refl e144 FS_143 EX_143 (Or.inl (own_w hw 18 rfl)) (own_w hw 1 rfl) (ty := .int) (by decide) rfl rfl (g := (mkF m 40 #[.val (.ref a1), .val (.int (2 : Int32)), .val (.int (1 : Int32))] [(.int (2 : Int32)), (.ref a1)])) rfl rfl (hb hby d12_40)
  have F145 := FS_143.same W145
  have EX_145 := EX_143.wr W145
  have FB_145 := FB_143.other W145 (Or.inr (slot_ne (Or.inl (own_w hw 11 rfl)) (Or.inl (own_w hw 18 rfl)) (by decide) (t := (.array .byte)) (t' := .int) (by decide) (by decide)))
  have P143_0_145 := P143_0.other W145 (Ne.symm nab)
  have N145 := Fr.snoc X145 N143 gA
  have KK145 : Keep h0 h145 [a1, b1] := KK143.wr W145 (Or.inl (List.mem_of_getElem? (i := 0) rfl))
  have sz145 : n0 ≤ h145.size := Nat.le_trans sz143 (Nat.le_of_eq W145.size.symm)
  refine Go.st (U' := T145.setTop (mkF m 43 #[.val (.ref a1), .val (.int (2 : Int32)), .val (.int (1 : Int32))] [])) (fun t k => st145 _ k) ?_
  refine own_ret (Q := Qa1_2 Z a1 b1 k1 c0 c1 c2 c3 c4 c5 c6 c7 c8 c9 c10 c11 c12 c13 c14 c15 h0 n0) (v := none) X145 hlk (fun _ => rfl) (by decide) (by decide) ?_ (fun fs hr => X145.returnOut hx hrt (hb hby d12_43) hr)
  rw [e145]
  exact ⟨rfl, N145, KK145, EX_145, FB_145, F145, P143_0_145⟩
theorem efs1 (m : MethodId) (a1 : Addr) (p2 : Int32) : entryFrame m #[(.ref a1), (.int p2)] 2 = mkF m 0 #[.val (.ref a1), .val (.int p2)] [] := by first | (simp [entryFrame, mkF, argsToLocals, Value.category]; done) | rfl
def Qs1 (Z : State) (a1 : Addr) (b1 : Addr) (k1 : ClassId) (c0 : Int32) (c1 : Int32) (c2 : Int32) (c3 : Int32) (c4 : Int32) (c5 : Int32) (c6 : Int32) (c7 : Int32) (c8 : Int32) (c9 : Int32) (c10 : Int32) (c11 : Int32) (c12 : Int32) (c13 : Int32) (c14 : Int32) (c15 : Int32) (p2 : Int32) (h0 : Heap) (n0 : Nat) (v : Option Value) (h : Heap) (L : List Loc) : Prop := v = none ∧ Fr n0 L ∧ Keep h0 h [a1, b1] ∧ Exa Z h a1 "com/example/portcullis/portcullis/io/CdrOutput" ∧ Fld Z h a1 "com/example/portcullis/portcullis/io/CdrOutput" "buffer" "[B" (.ref b1) ∧ Fld Z h a1 "com/example/portcullis/portcullis/io/CdrOutput" "size" "I" (.int (4 : Int32)) ∧ Arv Z h b1 k1 .byte (256 : Int32) [(.int c0), (.int (0 : Int32)), (.int (own_b1 p2)), (.int (own_b0 p2)), (.int c4), (.int c5), (.int c6), (.int c7), (.int c8), (.int c9), (.int c10), (.int c11), (.int c12), (.int c13), (.int c14), (.int c15)] (.int (0 : Int32))
set_option maxRecDepth 65536 in
set_option maxHeartbeats 40000000 in
theorem rms1 (l : Launch) (Z : State) (a0 : Array Value) (hw : ∀ d ∈ tables_1, d.before a0 Z = true) (ws : List Jvm.Cond) (a1 : Addr) (b1 : Addr) (k1 : ClassId) (c0 : Int32) (c1 : Int32) (c2 : Int32) (c3 : Int32) (c4 : Int32) (c5 : Int32) (c6 : Int32) (c7 : Int32) (c8 : Int32) (c9 : Int32) (c10 : Int32) (c11 : Int32) (c12 : Int32) (c13 : Int32) (c14 : Int32) (c15 : Int32) (p2 : Int32) (h0 : Heap) (n0 : Nat) (Z0 : n0 ≤ h0.size) (EX : Exa Z h0 a1 "com/example/portcullis/portcullis/io/CdrOutput") (FB : Fld Z h0 a1 "com/example/portcullis/portcullis/io/CdrOutput" "buffer" "[B" (.ref b1)) (FS : Fld Z h0 a1 "com/example/portcullis/portcullis/io/CdrOutput" "size" "I" (.int (1 : Int32))) (VA : Arv Z h0 b1 k1 .byte (256 : Int32) [(.int c0), (.int c1), (.int c2), (.int c3), (.int c4), (.int c5), (.int c6), (.int c7), (.int c8), (.int c9), (.int c10), (.int c11), (.int c12), (.int c13), (.int c14), (.int c15)] (.int (0 : Int32))) (gA : n0 ≤ a1) (gB : n0 ≤ b1) (nab : a1 ≠ b1) :
    MetFree l own_y6 (head1 (Jvm.Cond.code own_y6 prog_14_method_4_code 2 none :: ws) own_R3_0_0_80) (fun a U => a = #[(.ref a1), (.int p2)] ∧ Z.Warmed39 U.vm ∧ U.heap = h0) (fun _ _ _ _ _ => True) (fun _ U o U' => ∃ v L, o = .returned v ∧ Qs1 Z a1 b1 k1 c0 c1 c2 c3 c4 c5 c6 c7 c8 c9 c10 c11 c12 c13 c14 c15 p2 h0 n0 v U'.heap L ∧ FrameEnd U o U' L (own_R3_0_0_80).cells (own_R3_0_0_80).slots) := by
  refine MetFree.of_bodySF (plainFor_of_name pn_0) hisR ?_
  intro p e s m args below meth c s₁ Bd hml0 hP hK
  obtain ⟨rfl, hZ, hh⟩ := hP
  have hx := Bd.exec
  have hby := Bd.bytes
  have hml : c.maxLocals = 2 := hml0
  have hown : s.vm.findClass "com/example/portcullis/portcullis/io/CdrOutput" = some m.cls := findClass_of_methodNamed Bd.named
  have hnm := (name_of_methodNamed Bd.named Bd.method).1
  have hlk : meth.locks = false := BodyLoose.notSynchronized Bd
  have hrt := Bd.returns
  have X0 : Stand p l e own_R3_0_0_80 s m #[(.ref a1), (.int p2)] below meth c s₁ [] 0 0 := Stand.of_body Bd
  have e0 : s₁.heap = h0 := by rw [← hh, Bd.state]; rfl
  have N0 := Fr.nil n0
  refine (show Go p e below (fun s₂ o => ∃ v L, o = .returned v ∧ Qs1 Z a1 b1 k1 c0 c1 c2 c3 c4 c5 c6 c7 c8 c9 c10 c11 c12 c13 c14 c15 p2 h0 n0 v s₂.heap L ∧ FrameEnd s o s₂ L 0 0) (s₁.setTop (entryFrame m #[(.ref a1), (.int p2)] 2)) from ?_)
  rw [efs1]
  refine Go.st (U' := s₁.setTop (mkF m 2 #[.val (.ref a1), .val (.int p2)] [(.int (2 : Int32)), (.ref a1)])) (fun t k => ?_) ?_
  · refine XS.aloadN X0.here hx rfl (hb hby d11_0) rfl rfl ?_
    refine XS.iconst X0.here hx rfl (hb hby d11_1) ?_
    exact k
  obtain ⟨cq146, kq146, q146a, q146b, q146c⟩ := isOf hZ e0 EX
  obtain ⟨_, _, ⟨T146, L146, k146, n146⟩, -, X146, ⟨Lc146, hQ146, l146, y146, z146⟩, st146⟩ := X0.virtualBack hx (y := own_y5) (z := own_y5) hown (mvT hZ (own_w hw 57 rfl)) (mvT hZ (own_w hw 58 rfl)) (notFace_of_selects (args := #[]) (mvT hZ (own_w hw 60 rfl))) (mvT hZ (own_w hw 60 rfl)) (mvT hZ (own_w hw 59 rfl)) (by decide) (backOf (W := 0) (rma1_2 l Z a0 hw [] a1 b1 k1 c0 c1 c2 c3 c4 c5 c6 c7 c8 c9 c10 c11 c12 c13 c14 c15 h0 n0 Z0 EX FB FS VA gA gB nab) hZ (own_w hw 61 rfl) (own_w hw 2 rfl) (by decide) (by decide)) q146a q146c (g := (mkF m 2 #[.val (.ref a1), .val (.int p2)] [(.int (2 : Int32)), (.ref a1)])) rfl (by rw [hml]; rfl) (Steps.refl _) (argsL := [(.int (2 : Int32))]) (rest := []) (lenOf pd_0 rfl) rfl (by show 2 * 0 + _ ≤ _; exact Nat.le_of_eq rfl) (hb hby d11_2) (fun _ _ => ⟨rfl, e0, (by decide : 0 + 0 ≤ _), (by decide : 0 + 0 ≤ _)⟩)
  dsimp only [Pt.U, Pt.locs, Pt.cells, Pt.slots] at X146 l146 y146 z146 st146 hQ146
  subst l146 y146 z146
  obtain ⟨rfl, N146q, K146, PE146, PV146, PZ146, PA146⟩ := hQ146
  have KK146 : Keep h0 T146.heap [a1, b1] := (Keep.refl h0 [a1, b1]).trans K146 (allS (Or.inl (List.mem_of_getElem? (i := 0) rfl)) (allS (Or.inl (List.mem_of_getElem? (i := 1) rfl)) all0))
  have EX_146 := EX.keep K146
  have sz146 : n0 ≤ T146.heap.size := Nat.le_trans Z0 K146.1
  have N146 := Fr.app N0 N146q
  refine Go.tr (U' := T146.setTop (mkF m 5 #[.val (.ref a1), .val (.int p2)] [])) st146 ?_
  refine Go.st (U' := T146.setTop (mkF m 7 #[.val (.ref a1), .val (.int p2)] [(.int (2 : Int32)), (.ref a1)])) (fun t k => ?_) ?_
  · refine XS.aloadN X146.here hx rfl (hb hby d11_5) rfl rfl ?_
    refine XS.iconst X146.here hx rfl (hb hby d11_6) ?_
    exact k
  obtain ⟨cq147, q147, q147'⟩ := PE146.cell
  obtain ⟨_, _, ⟨T147, L147, k147, n147⟩, -, X147, ⟨Lc147, hQ147, l147, y147, z147⟩, st147⟩ := X146.privateBack hx (y := own_y1) hown (mvT hZ (own_w hw 48 rfl)) (mvT hZ (own_w hw 49 rfl)) (own_selp (y := own_y1) (mvT hZ (own_w hw 1 rfl)) (Cond.privateMethod_at (mvP hZ (own_w hw 50 rfl) (args := #[]))) (mvT hZ (own_w hw 49 rfl)) (by decide)) (Cond.privateMethod_at (mvP hZ (own_w hw 50 rfl) (args := #[]))) (mvT hZ (own_w hw 51 rfl)) (by decide) (backOf (W := 0) (rmr l Z a0 hw [] a1 (2 : Int32) b1 k1 (2 : Int32) [(.int c0), (.int (0 : Int32)), (.int c2), (.int c3), (.int c4), (.int c5), (.int c6), (.int c7), (.int c8), (.int c9), (.int c10), (.int c11), (.int c12), (.int c13), (.int c14), (.int c15)] T146.heap n0 sz146 PV146 PZ146 PA146 (by decide)) hZ (own_w hw 51 rfl) (own_w hw 2 rfl) (by decide) (by decide)) (g := (mkF m 7 #[.val (.ref a1), .val (.int p2)] [(.int (2 : Int32)), (.ref a1)])) rfl (by rw [hml]; rfl) (Steps.refl _) (a := a1) q147 q147' (argsL := [(.int (2 : Int32))]) (rest := []) (lenOf pd_0 rfl) rfl (by show 2 * 0 + _ ≤ _; exact Nat.le_of_eq rfl) (hb hby d11_7) (fun _ _ => ⟨rfl, rfl, (by decide : 0 + 0 ≤ _), (by decide : 0 + 0 ≤ _)⟩)
  dsimp only [Pt.U, Pt.locs, Pt.cells, Pt.slots] at X147 l147 y147 z147 st147 hQ147
  subst l147 y147 z147
  obtain ⟨rfl, N147q, e147⟩ := hQ147
  have N147 := Fr.app N146 N147q
  refine Go.tr (U' := T147.setTop (mkF m 10 #[.val (.ref a1), .val (.int p2)] [])) st147 ?_
  refine Go.st (U' := T147.setTop (mkF m 11 #[.val (.ref a1), .val (.int p2)] [(.ref a1)])) (fun t k => ?_) ?_
  · refine XS.aloadN X147.here hx rfl (hb hby d11_10) rfl rfl ?_
    exact k
  obtain ⟨T148, X148, e148, st148⟩ := getF X147 hx hZ hown (host := "") (Or.inl (own_w hw 10 rfl)) Via.refl e147 PV146 (g := (mkF m 11 #[.val (.ref a1), .val (.int p2)] [(.ref a1)])) rfl rfl (hb hby d11_11)
  refine Go.st (U' := T148.setTop (mkF m 14 #[.val (.ref a1), .val (.int p2)] [(.ref b1)])) (fun t k => st148 _ k) ?_
  refine Go.st (U' := T148.setTop (mkF m 16 #[.val (.ref a1), .val (.int p2)] [(.ref a1), (.ref a1), (.ref b1)])) (fun t k => ?_) ?_
  · refine XS.aloadN X148.here hx rfl (hb hby d11_14) rfl rfl ?_
    refine XS.dup X148.here hx rfl (hb hby d11_15) rfl rfl ?_
    exact k
  obtain ⟨T149, X149, e149, st149⟩ := getF X148 hx hZ hown (host := "") (Or.inl (own_w hw 17 rfl)) Via.refl e148 PZ146 (g := (mkF m 16 #[.val (.ref a1), .val (.int p2)] [(.ref a1), (.ref a1), (.ref b1)])) rfl rfl (hb hby d11_16)
  refine Go.st (U' := T149.setTop (mkF m 19 #[.val (.ref a1), .val (.int p2)] [(.int (2 : Int32)), (.ref a1), (.ref b1)])) (fun t k => st149 _ k) ?_
  refine Go.st (U' := T149.setTop (mkF m 22 #[.val (.ref a1), .val (.int p2)] [(.int (3 : Int32)), (.ref a1), (.int (2 : Int32)), (.ref b1)])) (fun t k => ?_) ?_
  · refine XS.dupX1 X149.here hx rfl (hb hby d11_19) rfl rfl rfl ?_
    refine XS.iconst X149.here hx rfl (hb hby d11_20) ?_
    refine XS.iadd X149.here hx rfl (hb hby d11_21) rfl ?_
    exact k
  obtain ⟨T150, h150, X150, e150, W150, st150⟩ := putF X149 hx hZ hown (host := "") (Or.inl (own_w hw 17 rfl)) Via.refl e149 PZ146 PE146 (Or.inl (own_w hw 18 rfl)) (own_w hw 1 rfl) (ty := .int) (by decide) rfl rfl (g := (mkF m 22 #[.val (.ref a1), .val (.int p2)] [(.int (3 : Int32)), (.ref a1), (.int (2 : Int32)), (.ref b1)])) rfl rfl (hb hby d11_22)
  have F150 := PZ146.same W150
  have PE146_150 := PE146.wr W150
  have PV146_150 := PV146.other W150 (Or.inr (slot_ne (Or.inl (own_w hw 11 rfl)) (Or.inl (own_w hw 18 rfl)) (by decide) (t := (.array .byte)) (t' := .int) (by decide) (by decide)))
  have PA146_150 := PA146.other W150 (Ne.symm nab)
  have N150 := Fr.snoc X150 N147 gA
  have KK150 : Keep h0 h150 [a1, b1] := KK146.wr W150 (Or.inl (List.mem_of_getElem? (i := 0) rfl))
  have sz150 : n0 ≤ h150.size := Nat.le_trans sz146 (Nat.le_of_eq W150.size.symm)
  refine Go.st (U' := T150.setTop (mkF m 25 #[.val (.ref a1), .val (.int p2)] [(.int (2 : Int32)), (.ref b1)])) (fun t k => st150 _ k) ?_
  refine Go.st (U' := T150.setTop (mkF m 30 #[.val (.ref a1), .val (.int p2)] [(.int (((p2.toUInt32 >>> ((8 : Int32) &&& 31).toUInt32).toInt32).toInt8.toInt32)), (.int (2 : Int32)), (.ref b1)])) (fun t k => ?_) ?_
  · refine XS.iloadN X150.here hx rfl (hb hby d11_25) rfl ?_
    refine XS.bipush X150.here hx rfl (hb hby d11_26) ?_
    refine XS.iushr X150.here hx rfl (hb hby d11_28) rfl ?_
    refine XS.i2b X150.here hx rfl (hb hby d11_29) rfl ?_
    exact k
  obtain ⟨cl152, Ar152, q152, S152, N152, H152, G152⟩ := id PA146_150
  obtain ⟨T151, h151, X151, e151, W151, st151⟩ := stB X150 hx hZ e150 Ar152 (j := (2 : Int32)) (inb_of (j := (2 : Int32)) S152 ⟨by decide, by decide⟩) (g := (mkF m 30 #[.val (.ref a1), .val (.int p2)] [(.int (((p2.toUInt32 >>> ((8 : Int32) &&& 31).toUInt32).toInt32).toInt8.toInt32)), (.int (2 : Int32)), (.ref b1)])) rfl rfl (hb hby d11_30)
  have PA146_151 := Arv.set Ar152 q152 S152 N152 H152 G152 (fits_nar_byte _) W151 2 rfl (Nat.le_of_ble_eq_true rfl)
  have PE146_151 := PE146_150.wr W151
  have PV146_151 := PV146_150.other W151 (Or.inl nab)
  have PZ146_151 := F150.other W151 (Or.inl nab)
  have N151 := Fr.snoc X151 N150 gB
  have KK151 : Keep h0 h151 [a1, b1] := KK150.wr W151 (Or.inl (List.mem_of_getElem? (i := 1) rfl))
  have sz151 : n0 ≤ h151.size := Nat.le_trans sz150 (Nat.le_of_eq W151.size.symm)
  refine Go.st (U' := T151.setTop (mkF m 31 #[.val (.ref a1), .val (.int p2)] [])) (fun t k => st151 _ k) ?_
  refine Go.st (U' := T151.setTop (mkF m 32 #[.val (.ref a1), .val (.int p2)] [(.ref a1)])) (fun t k => ?_) ?_
  · refine XS.aloadN X151.here hx rfl (hb hby d11_31) rfl rfl ?_
    exact k
  obtain ⟨T153, X153, e153, st153⟩ := getF X151 hx hZ hown (host := "") (Or.inl (own_w hw 10 rfl)) Via.refl e151 PV146_151 (g := (mkF m 32 #[.val (.ref a1), .val (.int p2)] [(.ref a1)])) rfl rfl (hb hby d11_32)
  refine Go.st (U' := T153.setTop (mkF m 35 #[.val (.ref a1), .val (.int p2)] [(.ref b1)])) (fun t k => st153 _ k) ?_
  refine Go.st (U' := T153.setTop (mkF m 37 #[.val (.ref a1), .val (.int p2)] [(.ref a1), (.ref a1), (.ref b1)])) (fun t k => ?_) ?_
  · refine XS.aloadN X153.here hx rfl (hb hby d11_35) rfl rfl ?_
    refine XS.dup X153.here hx rfl (hb hby d11_36) rfl rfl ?_
    exact k
  obtain ⟨T154, X154, e154, st154⟩ := getF X153 hx hZ hown (host := "") (Or.inl (own_w hw 17 rfl)) Via.refl e153 PZ146_151 (g := (mkF m 37 #[.val (.ref a1), .val (.int p2)] [(.ref a1), (.ref a1), (.ref b1)])) rfl rfl (hb hby d11_37)
  refine Go.st (U' := T154.setTop (mkF m 40 #[.val (.ref a1), .val (.int p2)] [(.int (3 : Int32)), (.ref a1), (.ref b1)])) (fun t k => st154 _ k) ?_
  refine Go.st (U' := T154.setTop (mkF m 43 #[.val (.ref a1), .val (.int p2)] [(.int (4 : Int32)), (.ref a1), (.int (3 : Int32)), (.ref b1)])) (fun t k => ?_) ?_
  · refine XS.dupX1 X154.here hx rfl (hb hby d11_40) rfl rfl rfl ?_
    refine XS.iconst X154.here hx rfl (hb hby d11_41) ?_
    refine XS.iadd X154.here hx rfl (hb hby d11_42) rfl ?_
    exact k
  obtain ⟨T155, h155, X155, e155, W155, st155⟩ := putF X154 hx hZ hown (host := "") (Or.inl (own_w hw 17 rfl)) Via.refl e154 PZ146_151 PE146_151 (Or.inl (own_w hw 18 rfl)) (own_w hw 1 rfl) (ty := .int) (by decide) rfl rfl (g := (mkF m 43 #[.val (.ref a1), .val (.int p2)] [(.int (4 : Int32)), (.ref a1), (.int (3 : Int32)), (.ref b1)])) rfl rfl (hb hby d11_43)
  have F155 := PZ146_151.same W155
  have PE146_155 := PE146_151.wr W155
  have PV146_155 := PV146_151.other W155 (Or.inr (slot_ne (Or.inl (own_w hw 11 rfl)) (Or.inl (own_w hw 18 rfl)) (by decide) (t := (.array .byte)) (t' := .int) (by decide) (by decide)))
  have PA146_155 := PA146_151.other W155 (Ne.symm nab)
  have N155 := Fr.snoc X155 N151 gA
  have KK155 : Keep h0 h155 [a1, b1] := KK151.wr W155 (Or.inl (List.mem_of_getElem? (i := 0) rfl))
  have sz155 : n0 ≤ h155.size := Nat.le_trans sz151 (Nat.le_of_eq W155.size.symm)
  refine Go.st (U' := T155.setTop (mkF m 46 #[.val (.ref a1), .val (.int p2)] [(.int (3 : Int32)), (.ref b1)])) (fun t k => st155 _ k) ?_
  refine Go.st (U' := T155.setTop (mkF m 48 #[.val (.ref a1), .val (.int p2)] [(.int (p2.toInt8.toInt32)), (.int (3 : Int32)), (.ref b1)])) (fun t k => ?_) ?_
  · refine XS.iloadN X155.here hx rfl (hb hby d11_46) rfl ?_
    refine XS.i2b X155.here hx rfl (hb hby d11_47) rfl ?_
    exact k
  obtain ⟨cl157, Ar157, q157, S157, N157, H157, G157⟩ := id PA146_155
  obtain ⟨T156, h156, X156, e156, W156, st156⟩ := stB X155 hx hZ e155 Ar157 (j := (3 : Int32)) (inb_of (j := (3 : Int32)) S157 ⟨by decide, by decide⟩) (g := (mkF m 48 #[.val (.ref a1), .val (.int p2)] [(.int (p2.toInt8.toInt32)), (.int (3 : Int32)), (.ref b1)])) rfl rfl (hb hby d11_48)
  have PA146_156 := Arv.set Ar157 q157 S157 N157 H157 G157 (fits_nar_byte _) W156 3 rfl (Nat.le_of_ble_eq_true rfl)
  have PE146_156 := PE146_155.wr W156
  have PV146_156 := PV146_155.other W156 (Or.inl nab)
  have PZ146_156 := F155.other W156 (Or.inl nab)
  have N156 := Fr.snoc X156 N155 gB
  have KK156 : Keep h0 h156 [a1, b1] := KK155.wr W156 (Or.inl (List.mem_of_getElem? (i := 1) rfl))
  have sz156 : n0 ≤ h156.size := Nat.le_trans sz155 (Nat.le_of_eq W156.size.symm)
  refine Go.st (U' := T156.setTop (mkF m 49 #[.val (.ref a1), .val (.int p2)] [])) (fun t k => st156 _ k) ?_
  refine own_ret (Q := Qs1 Z a1 b1 k1 c0 c1 c2 c3 c4 c5 c6 c7 c8 c9 c10 c11 c12 c13 c14 c15 p2 h0 n0) (v := none) X156 hlk (fun _ => rfl) (by decide) (by decide) ?_ (fun fs hr => X156.returnOut hx hrt (hb hby d11_49) hr)
  rw [e156]
  exact ⟨rfl, N156, KK156, PE146_156, PV146_156, PZ146_156, PA146_156⟩
theorem efa0_4 (m : MethodId) (a1 : Addr) : entryFrame m #[(.ref a1), (.int (4 : Int32))] 3 = mkF m 0 #[.val (.ref a1), .val (.int (4 : Int32)), .unset] [] := by first | (simp [entryFrame, mkF, argsToLocals, Value.category]; done) | rfl
def Qa0_4 (Z : State) (a1 : Addr) (b1 : Addr) (k1 : ClassId) (c0 : Int32) (c1 : Int32) (c2 : Int32) (c3 : Int32) (c4 : Int32) (c5 : Int32) (c6 : Int32) (c7 : Int32) (c8 : Int32) (c9 : Int32) (c10 : Int32) (c11 : Int32) (c12 : Int32) (c13 : Int32) (c14 : Int32) (c15 : Int32) (h0 : Heap) (n0 : Nat) (v : Option Value) (h : Heap) (L : List Loc) : Prop := v = none ∧ Fr n0 L ∧ Keep h0 h [a1, b1] ∧ Exa Z h a1 "com/example/portcullis/portcullis/io/CdrOutput" ∧ Fld Z h a1 "com/example/portcullis/portcullis/io/CdrOutput" "buffer" "[B" (.ref b1) ∧ Fld Z h a1 "com/example/portcullis/portcullis/io/CdrOutput" "size" "I" (.int (0 : Int32)) ∧ Arv Z h b1 k1 .byte (256 : Int32) [(.int c0), (.int c1), (.int c2), (.int c3), (.int c4), (.int c5), (.int c6), (.int c7), (.int c8), (.int c9), (.int c10), (.int c11), (.int c12), (.int c13), (.int c14), (.int c15)] (.int (0 : Int32))
set_option maxRecDepth 65536 in
set_option maxHeartbeats 40000000 in
theorem rma0_4 (l : Launch) (Z : State) (a0 : Array Value) (hw : ∀ d ∈ tables_1, d.before a0 Z = true) (ws : List Jvm.Cond) (a1 : Addr) (b1 : Addr) (k1 : ClassId) (c0 : Int32) (c1 : Int32) (c2 : Int32) (c3 : Int32) (c4 : Int32) (c5 : Int32) (c6 : Int32) (c7 : Int32) (c8 : Int32) (c9 : Int32) (c10 : Int32) (c11 : Int32) (c12 : Int32) (c13 : Int32) (c14 : Int32) (c15 : Int32) (h0 : Heap) (n0 : Nat) (Z0 : n0 ≤ h0.size) (EX : Exa Z h0 a1 "com/example/portcullis/portcullis/io/CdrOutput") (FB : Fld Z h0 a1 "com/example/portcullis/portcullis/io/CdrOutput" "buffer" "[B" (.ref b1)) (FS : Fld Z h0 a1 "com/example/portcullis/portcullis/io/CdrOutput" "size" "I" (.int (0 : Int32))) (VA : Arv Z h0 b1 k1 .byte (256 : Int32) [(.int c0), (.int c1), (.int c2), (.int c3), (.int c4), (.int c5), (.int c6), (.int c7), (.int c8), (.int c9), (.int c10), (.int c11), (.int c12), (.int c13), (.int c14), (.int c15)] (.int (0 : Int32))) (gA : n0 ≤ a1) (gB : n0 ≤ b1) (nab : a1 ≠ b1) :
    MetFree l own_y5 (head1 (Jvm.Cond.code own_y5 prog_14_method_14_code 3 none :: ws) own_R2_0_0_48) (fun a U => a = #[(.ref a1), (.int (4 : Int32))] ∧ Z.Warmed39 U.vm ∧ U.heap = h0) (fun _ _ _ _ _ => True) (fun _ U o U' => ∃ v L, o = .returned v ∧ Qa0_4 Z a1 b1 k1 c0 c1 c2 c3 c4 c5 c6 c7 c8 c9 c10 c11 c12 c13 c14 c15 h0 n0 v U'.heap L ∧ FrameEnd U o U' L (own_R2_0_0_48).cells (own_R2_0_0_48).slots) := by
  refine MetFree.of_bodySF (plainFor_of_name pn_0) hisR ?_
  intro p e s m args below meth c s₁ Bd hml0 hP hK
  obtain ⟨rfl, hZ, hh⟩ := hP
  have hx := Bd.exec
  have hby := Bd.bytes
  have hml : c.maxLocals = 3 := hml0
  have hown : s.vm.findClass "com/example/portcullis/portcullis/io/CdrOutput" = some m.cls := findClass_of_methodNamed Bd.named
  have hnm := (name_of_methodNamed Bd.named Bd.method).1
  have hlk : meth.locks = false := BodyLoose.notSynchronized Bd
  have hrt := Bd.returns
  have X0 : Stand p l e own_R2_0_0_48 s m #[(.ref a1), (.int (4 : Int32))] below meth c s₁ [] 0 0 := Stand.of_body Bd
  have e0 : s₁.heap = h0 := by rw [← hh, Bd.state]; rfl
  have N0 := Fr.nil n0
  refine (show Go p e below (fun s₂ o => ∃ v L, o = .returned v ∧ Qa0_4 Z a1 b1 k1 c0 c1 c2 c3 c4 c5 c6 c7 c8 c9 c10 c11 c12 c13 c14 c15 h0 n0 v s₂.heap L ∧ FrameEnd s o s₂ L 0 0) (s₁.setTop (entryFrame m #[(.ref a1), (.int (4 : Int32))] 3)) from ?_)
  rw [efa0_4]
  refine Go.st (U' := s₁.setTop (mkF m 1 #[.val (.ref a1), .val (.int (4 : Int32)), .unset] [(.ref a1)])) (fun t k => ?_) ?_
  · refine XS.aloadN X0.here hx rfl (hb hby d12_0) rfl rfl ?_
    exact k
  obtain ⟨T158, X158, e158, st158⟩ := getF X0 hx hZ hown (host := "") (Or.inl (own_w hw 17 rfl)) Via.refl e0 FS (g := (mkF m 1 #[.val (.ref a1), .val (.int (4 : Int32)), .unset] [(.ref a1)])) rfl rfl (hb hby d12_1)
  refine Go.st (U' := T158.setTop (mkF m 4 #[.val (.ref a1), .val (.int (4 : Int32)), .unset] [(.int (0 : Int32))])) (fun t k => st158 _ k) ?_
  refine Go.st (U' := T158.setTop (mkF m 12 #[.val (.ref a1), .val (.int (4 : Int32)), .val (.int (0 : Int32))] [(.int (0 : Int32)), (.ref a1)])) (fun t k => ?_) ?_
  · refine XS.ineg X158.here hx rfl (hb hby d12_4) rfl ?_
    refine XS.iloadN X158.here hx rfl (hb hby d12_5) rfl ?_
    refine XS.iconst X158.here hx rfl (hb hby d12_6) ?_
    refine XS.isub X158.here hx rfl (hb hby d12_7) rfl ?_
    refine XS.iand X158.here hx rfl (hb hby d12_8) rfl ?_
    refine XS.istoreN X158.here hx rfl (hb hby d12_9) rfl (l' := #[.val (.ref a1), .val (.int (4 : Int32)), .val (.int (0 : Int32))]) rfl ?_
    refine XS.aloadN X158.here hx rfl (hb hby d12_10) rfl rfl ?_
    refine XS.iloadN X158.here hx rfl (hb hby d12_11) rfl ?_
    exact k
  obtain ⟨cq159, q159, q159'⟩ := EX.cell
  obtain ⟨_, _, ⟨T159, L159, k159, n159⟩, -, X159, ⟨Lc159, hQ159, l159, y159, z159⟩, st159⟩ := X158.privateBack hx (y := own_y1) hown (mvT hZ (own_w hw 48 rfl)) (mvT hZ (own_w hw 49 rfl)) (own_selp (y := own_y1) (mvT hZ (own_w hw 1 rfl)) (Cond.privateMethod_at (mvP hZ (own_w hw 50 rfl) (args := #[]))) (mvT hZ (own_w hw 49 rfl)) (by decide)) (Cond.privateMethod_at (mvP hZ (own_w hw 50 rfl) (args := #[]))) (mvT hZ (own_w hw 51 rfl)) (by decide) (backOf (W := 0) (rmr l Z a0 hw [] a1 (0 : Int32) b1 k1 (0 : Int32) [(.int c0), (.int c1), (.int c2), (.int c3), (.int c4), (.int c5), (.int c6), (.int c7), (.int c8), (.int c9), (.int c10), (.int c11), (.int c12), (.int c13), (.int c14), (.int c15)] h0 n0 Z0 FB FS VA (by decide)) hZ (own_w hw 51 rfl) (own_w hw 2 rfl) (by decide) (by decide)) (g := (mkF m 12 #[.val (.ref a1), .val (.int (4 : Int32)), .val (.int (0 : Int32))] [(.int (0 : Int32)), (.ref a1)])) rfl (by rw [hml]; rfl) (Steps.refl _) (a := a1) (by rw [e158]; exact q159) q159' (argsL := [(.int (0 : Int32))]) (rest := []) (lenOf pd_0 rfl) rfl (by show 2 * 0 + _ ≤ _; exact Nat.le_of_eq rfl) (hb hby d12_12) (fun _ _ => ⟨rfl, e158, (by decide : 0 + 0 ≤ _), (by decide : 0 + 0 ≤ _)⟩)
  dsimp only [Pt.U, Pt.locs, Pt.cells, Pt.slots] at X159 l159 y159 z159 st159 hQ159
  subst l159 y159 z159
  obtain ⟨rfl, N159q, e159⟩ := hQ159
  have N159 := Fr.app N0 N159q
  refine Go.tr (U' := T159.setTop (mkF m 15 #[.val (.ref a1), .val (.int (4 : Int32)), .val (.int (0 : Int32))] [])) st159 ?_
  refine Go.st (U' := T159.setTop (mkF m 16 #[.val (.ref a1), .val (.int (4 : Int32)), .val (.int (0 : Int32))] [(.ref a1)])) (fun t k => ?_) ?_
  · refine XS.aloadN X159.here hx rfl (hb hby d12_15) rfl rfl ?_
    exact k
  obtain ⟨T160, X160, e160, st160⟩ := getF X159 hx hZ hown (host := "") (Or.inl (own_w hw 10 rfl)) Via.refl e159 FB (g := (mkF m 16 #[.val (.ref a1), .val (.int (4 : Int32)), .val (.int (0 : Int32))] [(.ref a1)])) rfl rfl (hb hby d12_16)
  refine Go.st (U' := T160.setTop (mkF m 19 #[.val (.ref a1), .val (.int (4 : Int32)), .val (.int (0 : Int32))] [(.ref b1)])) (fun t k => st160 _ k) ?_
  refine Go.st (U' := T160.setTop (mkF m 20 #[.val (.ref a1), .val (.int (4 : Int32)), .val (.int (0 : Int32))] [(.ref a1), (.ref b1)])) (fun t k => ?_) ?_
  · refine XS.aloadN X160.here hx rfl (hb hby d12_19) rfl rfl ?_
    exact k
  obtain ⟨T161, X161, e161, st161⟩ := getF X160 hx hZ hown (host := "") (Or.inl (own_w hw 17 rfl)) Via.refl e160 FS (g := (mkF m 20 #[.val (.ref a1), .val (.int (4 : Int32)), .val (.int (0 : Int32))] [(.ref a1), (.ref b1)])) rfl rfl (hb hby d12_20)
  refine Go.st (U' := T161.setTop (mkF m 23 #[.val (.ref a1), .val (.int (4 : Int32)), .val (.int (0 : Int32))] [(.int (0 : Int32)), (.ref b1)])) (fun t k => st161 _ k) ?_
  refine Go.st (U' := T161.setTop (mkF m 24 #[.val (.ref a1), .val (.int (4 : Int32)), .val (.int (0 : Int32))] [(.ref a1), (.int (0 : Int32)), (.ref b1)])) (fun t k => ?_) ?_
  · refine XS.aloadN X161.here hx rfl (hb hby d12_23) rfl rfl ?_
    exact k
  obtain ⟨T162, X162, e162, st162⟩ := getF X161 hx hZ hown (host := "") (Or.inl (own_w hw 17 rfl)) Via.refl e161 FS (g := (mkF m 24 #[.val (.ref a1), .val (.int (4 : Int32)), .val (.int (0 : Int32))] [(.ref a1), (.int (0 : Int32)), (.ref b1)])) rfl rfl (hb hby d12_24)
  refine Go.st (U' := T162.setTop (mkF m 27 #[.val (.ref a1), .val (.int (4 : Int32)), .val (.int (0 : Int32))] [(.int (0 : Int32)), (.int (0 : Int32)), (.ref b1)])) (fun t k => st162 _ k) ?_
  refine Go.st (U' := T162.setTop (mkF m 30 #[.val (.ref a1), .val (.int (4 : Int32)), .val (.int (0 : Int32))] [(.int (0 : Int32)), (.int (0 : Int32)), (.int (0 : Int32)), (.ref b1)])) (fun t k => ?_) ?_
  · refine XS.iloadN X162.here hx rfl (hb hby d12_27) rfl ?_
    refine XS.iadd X162.here hx rfl (hb hby d12_28) rfl ?_
    refine XS.iconst X162.here hx rfl (hb hby d12_29) ?_
    exact k
  obtain ⟨_, _, ⟨T163, L163, k163, n163⟩, -, X163, ⟨Lc163, hQ163, l163, y163, z163⟩, st163⟩ := Jvm.LawKit.callS X162 hx (y := own_y4) hown (mvT hZ (own_w hw 62 rfl)) (mvT hZ (own_w hw 63 rfl)) (mvT hZ (own_w hw 21 rfl)) (mvT hZ (own_w hw 64 rfl)) (by decide) (backOf (W := 0) (rmf0_0 l Z a0 hw [] b1 k1 c0 c1 c2 c3 c4 c5 c6 c7 c8 c9 c10 c11 c12 c13 c14 c15 h0 n0 Z0 VA gB) hZ (own_w hw 64 rfl) (own_w hw 21 rfl) (by decide) (by decide)) (g := (mkF m 30 #[.val (.ref a1), .val (.int (4 : Int32)), .val (.int (0 : Int32))] [(.int (0 : Int32)), (.int (0 : Int32)), (.int (0 : Int32)), (.ref b1)])) rfl (by rw [hml]; rfl) (argsL := [(.ref b1), (.int (0 : Int32)), (.int (0 : Int32)), (.int (0 : Int32))]) (rest := []) (lenOf pd_2 rfl) rfl (by show 2 * 0 + _ ≤ _; exact Nat.le_of_eq rfl) (hb hby d12_30) (fun _ _ => ⟨rfl, e162, (by decide : 0 + 0 ≤ _), (by decide : 0 + 0 ≤ _)⟩)
  dsimp only [Pt.U, Pt.locs, Pt.cells, Pt.slots] at X163 l163 y163 z163 st163 hQ163
  subst l163 y163 z163
  obtain ⟨rfl, N163q, K163, P163_0⟩ := hQ163
  have KK163 : Keep h0 T163.heap [a1, b1] := (Keep.refl h0 [a1, b1]).trans K163 (allS (Or.inl (List.mem_of_getElem? (i := 1) rfl)) all0)
  have EX_163 := EX.keep K163
  have FB_163 := FB.keep K163 (ninS nab nin0)
  have FS_163 := FS.keep K163 (ninS nab nin0)
  have sz163 : n0 ≤ T163.heap.size := Nat.le_trans Z0 K163.1
  have N163 := Fr.app N159 N163q
  refine Go.st (U' := T163.setTop (mkF m 33 #[.val (.ref a1), .val (.int (4 : Int32)), .val (.int (0 : Int32))] [])) (fun t k => st163 _ k) ?_
  refine Go.st (U' := T163.setTop (mkF m 35 #[.val (.ref a1), .val (.int (4 : Int32)), .val (.int (0 : Int32))] [(.ref a1), (.ref a1)])) (fun t k => ?_) ?_
  · refine XS.aloadN X163.here hx rfl (hb hby d12_33) rfl rfl ?_
    refine XS.dup X163.here hx rfl (hb hby d12_34) rfl rfl ?_
    exact k
  obtain ⟨T164, X164, e164, st164⟩ := getF X163 hx hZ hown (host := "") (Or.inl (own_w hw 17 rfl)) Via.refl rfl FS_163 (g := (mkF m 35 #[.val (.ref a1), .val (.int (4 : Int32)), .val (.int (0 : Int32))] [(.ref a1), (.ref a1)])) rfl rfl (hb hby d12_35)
  refine Go.st (U' := T164.setTop (mkF m 38 #[.val (.ref a1), .val (.int (4 : Int32)), .val (.int (0 : Int32))] [(.int (0 : Int32)), (.ref a1)])) (fun t k => st164 _ k) ?_
  refine Go.st (U' := T164.setTop (mkF m 40 #[.val (.ref a1), .val (.int (4 : Int32)), .val (.int (0 : Int32))] [(.int (0 : Int32)), (.ref a1)])) (fun t k => ?_) ?_
  · refine XS.iloadN X164.here hx rfl (hb hby d12_38) rfl ?_
    refine XS.iadd X164.here hx rfl (hb hby d12_39) rfl ?_
    exact k
  obtain ⟨T165, h165, X165, e165, W165, st165⟩ := putF X164 hx hZ hown (host := "") (Or.inl (own_w hw 17 rfl)) Via.refl e164 FS_163 EX_163 (Or.inl (own_w hw 18 rfl)) (own_w hw 1 rfl) (ty := .int) (by decide) rfl rfl (g := (mkF m 40 #[.val (.ref a1), .val (.int (4 : Int32)), .val (.int (0 : Int32))] [(.int (0 : Int32)), (.ref a1)])) rfl rfl (hb hby d12_40)
  have F165 := FS_163.same W165
  have EX_165 := EX_163.wr W165
  have FB_165 := FB_163.other W165 (Or.inr (slot_ne (Or.inl (own_w hw 11 rfl)) (Or.inl (own_w hw 18 rfl)) (by decide) (t := (.array .byte)) (t' := .int) (by decide) (by decide)))
  have P163_0_165 := P163_0.other W165 (Ne.symm nab)
  have N165 := Fr.snoc X165 N163 gA
  have KK165 : Keep h0 h165 [a1, b1] := KK163.wr W165 (Or.inl (List.mem_of_getElem? (i := 0) rfl))
  have sz165 : n0 ≤ h165.size := Nat.le_trans sz163 (Nat.le_of_eq W165.size.symm)
  refine Go.st (U' := T165.setTop (mkF m 43 #[.val (.ref a1), .val (.int (4 : Int32)), .val (.int (0 : Int32))] [])) (fun t k => st165 _ k) ?_
  refine own_ret (Q := Qa0_4 Z a1 b1 k1 c0 c1 c2 c3 c4 c5 c6 c7 c8 c9 c10 c11 c12 c13 c14 c15 h0 n0) (v := none) X165 hlk (fun _ => rfl) (by decide) (by decide) ?_ (fun fs hr => X165.returnOut hx hrt (hb hby d12_43) hr)
  rw [e165]
  exact ⟨rfl, N165, KK165, EX_165, FB_165, F165, P163_0_165⟩
theorem d16_0 : decode prog_14_method_19_code 0 = .ok (.aload_n 0, 1) := by decide +kernel
theorem d16_1 : decode prog_14_method_19_code 1 = .ok (.getfield 9, 3) := by decide +kernel
theorem d16_4 : decode prog_14_method_19_code 4 = .ok (.iload_n 1, 1) := by decide +kernel
theorem d16_5 : decode prog_14_method_19_code 5 = .ok (.iload_n 2, 1) := by decide +kernel
theorem d16_6 : decode prog_14_method_19_code 6 = .ok (.bipush 24, 2) := by decide +kernel
theorem d16_8 : decode prog_14_method_19_code 8 = .ok (.iushr, 1) := by decide +kernel
theorem d16_9 : decode prog_14_method_19_code 9 = .ok (.i2b, 1) := by decide +kernel
theorem d16_10 : decode prog_14_method_19_code 10 = .ok (.bastore, 1) := by decide +kernel
theorem d16_11 : decode prog_14_method_19_code 11 = .ok (.aload_n 0, 1) := by decide +kernel
theorem d16_12 : decode prog_14_method_19_code 12 = .ok (.getfield 9, 3) := by decide +kernel
theorem d16_15 : decode prog_14_method_19_code 15 = .ok (.iload_n 1, 1) := by decide +kernel
theorem d16_16 : decode prog_14_method_19_code 16 = .ok (.iconst 1, 1) := by decide +kernel
theorem d16_17 : decode prog_14_method_19_code 17 = .ok (.iadd, 1) := by decide +kernel
theorem d16_18 : decode prog_14_method_19_code 18 = .ok (.iload_n 2, 1) := by decide +kernel
theorem d16_19 : decode prog_14_method_19_code 19 = .ok (.bipush 16, 2) := by decide +kernel
theorem d16_21 : decode prog_14_method_19_code 21 = .ok (.iushr, 1) := by decide +kernel
theorem d16_22 : decode prog_14_method_19_code 22 = .ok (.i2b, 1) := by decide +kernel
theorem d16_23 : decode prog_14_method_19_code 23 = .ok (.bastore, 1) := by decide +kernel
theorem d16_24 : decode prog_14_method_19_code 24 = .ok (.aload_n 0, 1) := by decide +kernel
theorem d16_25 : decode prog_14_method_19_code 25 = .ok (.getfield 9, 3) := by decide +kernel
theorem d16_28 : decode prog_14_method_19_code 28 = .ok (.iload_n 1, 1) := by decide +kernel
theorem d16_29 : decode prog_14_method_19_code 29 = .ok (.iconst 2, 1) := by decide +kernel
theorem d16_30 : decode prog_14_method_19_code 30 = .ok (.iadd, 1) := by decide +kernel
theorem d16_31 : decode prog_14_method_19_code 31 = .ok (.iload_n 2, 1) := by decide +kernel
theorem d16_32 : decode prog_14_method_19_code 32 = .ok (.bipush 8, 2) := by decide +kernel
theorem d16_34 : decode prog_14_method_19_code 34 = .ok (.iushr, 1) := by decide +kernel
theorem d16_35 : decode prog_14_method_19_code 35 = .ok (.i2b, 1) := by decide +kernel
theorem d16_36 : decode prog_14_method_19_code 36 = .ok (.bastore, 1) := by decide +kernel
theorem d16_37 : decode prog_14_method_19_code 37 = .ok (.aload_n 0, 1) := by decide +kernel
theorem d16_38 : decode prog_14_method_19_code 38 = .ok (.getfield 9, 3) := by decide +kernel
theorem d16_41 : decode prog_14_method_19_code 41 = .ok (.iload_n 1, 1) := by decide +kernel
theorem d16_42 : decode prog_14_method_19_code 42 = .ok (.iconst 3, 1) := by decide +kernel
theorem d16_43 : decode prog_14_method_19_code 43 = .ok (.iadd, 1) := by decide +kernel
theorem d16_44 : decode prog_14_method_19_code 44 = .ok (.iload_n 2, 1) := by decide +kernel
theorem d16_45 : decode prog_14_method_19_code 45 = .ok (.i2b, 1) := by decide +kernel
theorem d16_46 : decode prog_14_method_19_code 46 = .ok (.bastore, 1) := by decide +kernel
theorem d16_47 : decode prog_14_method_19_code 47 = .ok (.return_, 1) := by decide +kernel
theorem efp0_0 (m : MethodId) (a1 : Addr) (p3 : Int32) : entryFrame m #[(.ref a1), (.int (0 : Int32)), (.int p3)] 3 = mkF m 0 #[.val (.ref a1), .val (.int (0 : Int32)), .val (.int p3)] [] := by first | (simp [entryFrame, mkF, argsToLocals, Value.category]; done) | rfl
def Qp0_0 (Z : State) (a1 : Addr) (b1 : Addr) (k1 : ClassId) (c0 : Int32) (c1 : Int32) (c2 : Int32) (c3 : Int32) (c4 : Int32) (c5 : Int32) (c6 : Int32) (c7 : Int32) (c8 : Int32) (c9 : Int32) (c10 : Int32) (c11 : Int32) (c12 : Int32) (c13 : Int32) (c14 : Int32) (c15 : Int32) (p3 : Int32) (h0 : Heap) (n0 : Nat) (v : Option Value) (h : Heap) (L : List Loc) : Prop := v = none ∧ Fr n0 L ∧ Keep h0 h [a1, b1] ∧ Exa Z h a1 "com/example/portcullis/portcullis/io/CdrOutput" ∧ Fld Z h a1 "com/example/portcullis/portcullis/io/CdrOutput" "buffer" "[B" (.ref b1) ∧ Fld Z h a1 "com/example/portcullis/portcullis/io/CdrOutput" "size" "I" (.int (0 : Int32)) ∧ Arv Z h b1 k1 .byte (256 : Int32) [(.int (own_b3 p3)), (.int (own_b2 p3)), (.int (own_b1 p3)), (.int (own_b0 p3)), (.int c4), (.int c5), (.int c6), (.int c7), (.int c8), (.int c9), (.int c10), (.int c11), (.int c12), (.int c13), (.int c14), (.int c15)] (.int (0 : Int32))
set_option maxRecDepth 65536 in
set_option maxHeartbeats 40000000 in
theorem rmp0_0 (l : Launch) (Z : State) (a0 : Array Value) (hw : ∀ d ∈ tables_1, d.before a0 Z = true) (ws : List Jvm.Cond) (a1 : Addr) (b1 : Addr) (k1 : ClassId) (c0 : Int32) (c1 : Int32) (c2 : Int32) (c3 : Int32) (c4 : Int32) (c5 : Int32) (c6 : Int32) (c7 : Int32) (c8 : Int32) (c9 : Int32) (c10 : Int32) (c11 : Int32) (c12 : Int32) (c13 : Int32) (c14 : Int32) (c15 : Int32) (p3 : Int32) (h0 : Heap) (n0 : Nat) (Z0 : n0 ≤ h0.size) (EX : Exa Z h0 a1 "com/example/portcullis/portcullis/io/CdrOutput") (FB : Fld Z h0 a1 "com/example/portcullis/portcullis/io/CdrOutput" "buffer" "[B" (.ref b1)) (FS : Fld Z h0 a1 "com/example/portcullis/portcullis/io/CdrOutput" "size" "I" (.int (0 : Int32))) (VA : Arv Z h0 b1 k1 .byte (256 : Int32) [(.int c0), (.int c1), (.int c2), (.int c3), (.int c4), (.int c5), (.int c6), (.int c7), (.int c8), (.int c9), (.int c10), (.int c11), (.int c12), (.int c13), (.int c14), (.int c15)] (.int (0 : Int32))) (gA : n0 ≤ a1) (gB : n0 ≤ b1) (nab : a1 ≠ b1) :
    MetFree l own_y7 (head1 (Jvm.Cond.code own_y7 prog_14_method_19_code 3 none :: ws) own_R0_0_0_0) (fun a U => a = #[(.ref a1), (.int (0 : Int32)), (.int p3)] ∧ Z.Warmed39 U.vm ∧ U.heap = h0) (fun _ _ _ _ _ => True) (fun _ U o U' => ∃ v L, o = .returned v ∧ Qp0_0 Z a1 b1 k1 c0 c1 c2 c3 c4 c5 c6 c7 c8 c9 c10 c11 c12 c13 c14 c15 p3 h0 n0 v U'.heap L ∧ FrameEnd U o U' L (own_R0_0_0_0).cells (own_R0_0_0_0).slots) := by
  refine MetFree.of_bodySF (plainFor_of_name pn_0) hisR ?_
  intro p e s m args below meth c s₁ Bd hml0 hP hK
  obtain ⟨rfl, hZ, hh⟩ := hP
  have hx := Bd.exec
  have hby := Bd.bytes
  have hml : c.maxLocals = 3 := hml0
  have hown : s.vm.findClass "com/example/portcullis/portcullis/io/CdrOutput" = some m.cls := findClass_of_methodNamed Bd.named
  have hnm := (name_of_methodNamed Bd.named Bd.method).1
  have hlk : meth.locks = false := BodyLoose.notSynchronized Bd
  have hrt := Bd.returns
  have X0 : Stand p l e own_R0_0_0_0 s m #[(.ref a1), (.int (0 : Int32)), (.int p3)] below meth c s₁ [] 0 0 := Stand.of_body Bd
  have e0 : s₁.heap = h0 := by rw [← hh, Bd.state]; rfl
  have N0 := Fr.nil n0
  refine (show Go p e below (fun s₂ o => ∃ v L, o = .returned v ∧ Qp0_0 Z a1 b1 k1 c0 c1 c2 c3 c4 c5 c6 c7 c8 c9 c10 c11 c12 c13 c14 c15 p3 h0 n0 v s₂.heap L ∧ FrameEnd s o s₂ L 0 0) (s₁.setTop (entryFrame m #[(.ref a1), (.int (0 : Int32)), (.int p3)] 3)) from ?_)
  rw [efp0_0]
  refine Go.st (U' := s₁.setTop (mkF m 1 #[.val (.ref a1), .val (.int (0 : Int32)), .val (.int p3)] [(.ref a1)])) (fun t k => ?_) ?_
  · refine XS.aloadN X0.here hx rfl (hb hby d16_0) rfl rfl ?_
    exact k
  obtain ⟨T166, X166, e166, st166⟩ := getF X0 hx hZ hown (host := "") (Or.inl (own_w hw 10 rfl)) Via.refl e0 FB (g := (mkF m 1 #[.val (.ref a1), .val (.int (0 : Int32)), .val (.int p3)] [(.ref a1)])) rfl rfl (hb hby d16_1)
  refine Go.st (U' := T166.setTop (mkF m 4 #[.val (.ref a1), .val (.int (0 : Int32)), .val (.int p3)] [(.ref b1)])) (fun t k => st166 _ k) ?_
  refine Go.st (U' := T166.setTop (mkF m 10 #[.val (.ref a1), .val (.int (0 : Int32)), .val (.int p3)] [(.int (((p3.toUInt32 >>> ((24 : Int32) &&& 31).toUInt32).toInt32).toInt8.toInt32)), (.int (0 : Int32)), (.ref b1)])) (fun t k => ?_) ?_
  · refine XS.iloadN X166.here hx rfl (hb hby d16_4) rfl ?_
    refine XS.iloadN X166.here hx rfl (hb hby d16_5) rfl ?_
    refine XS.bipush X166.here hx rfl (hb hby d16_6) ?_
    refine XS.iushr X166.here hx rfl (hb hby d16_8) rfl ?_
    refine XS.i2b X166.here hx rfl (hb hby d16_9) rfl ?_
    exact k
  obtain ⟨cl168, Ar168, q168, S168, N168, H168, G168⟩ := id VA
  obtain ⟨T167, h167, X167, e167, W167, st167⟩ := stB X166 hx hZ e166 Ar168 (j := (0 : Int32)) (inb_of (j := (0 : Int32)) S168 ⟨by decide, by decide⟩) (g := (mkF m 10 #[.val (.ref a1), .val (.int (0 : Int32)), .val (.int p3)] [(.int (((p3.toUInt32 >>> ((24 : Int32) &&& 31).toUInt32).toInt32).toInt8.toInt32)), (.int (0 : Int32)), (.ref b1)])) rfl rfl (hb hby d16_10)
  have VA_167 := Arv.set Ar168 q168 S168 N168 H168 G168 (fits_nar_byte _) W167 0 rfl (Nat.le_of_ble_eq_true rfl)
  have EX_167 := EX.wr W167
  have FB_167 := FB.other W167 (Or.inl nab)
  have FS_167 := FS.other W167 (Or.inl nab)
  have N167 := Fr.snoc X167 N0 gB
  have KK167 : Keep h0 h167 [a1, b1] := (Keep.refl h0 [a1, b1]).wr W167 (Or.inl (List.mem_of_getElem? (i := 1) rfl))
  have sz167 : n0 ≤ h167.size := Nat.le_trans Z0 (Nat.le_of_eq W167.size.symm)
  refine Go.st (U' := T167.setTop (mkF m 11 #[.val (.ref a1), .val (.int (0 : Int32)), .val (.int p3)] [])) (fun t k => st167 _ k) ?_
  refine Go.st (U' := T167.setTop (mkF m 12 #[.val (.ref a1), .val (.int (0 : Int32)), .val (.int p3)] [(.ref a1)])) (fun t k => ?_) ?_
  · refine XS.aloadN X167.here hx rfl (hb hby d16_11) rfl rfl ?_
    exact k
  obtain ⟨T169, X169, e169, st169⟩ := getF X167 hx hZ hown (host := "") (Or.inl (own_w hw 10 rfl)) Via.refl e167 FB_167 (g := (mkF m 12 #[.val (.ref a1), .val (.int (0 : Int32)), .val (.int p3)] [(.ref a1)])) rfl rfl (hb hby d16_12)
  refine Go.st (U' := T169.setTop (mkF m 15 #[.val (.ref a1), .val (.int (0 : Int32)), .val (.int p3)] [(.ref b1)])) (fun t k => st169 _ k) ?_
  refine Go.st (U' := T169.setTop (mkF m 23 #[.val (.ref a1), .val (.int (0 : Int32)), .val (.int p3)] [(.int (((p3.toUInt32 >>> ((16 : Int32) &&& 31).toUInt32).toInt32).toInt8.toInt32)), (.int (1 : Int32)), (.ref b1)])) (fun t k => ?_) ?_
  · refine XS.iloadN X169.here hx rfl (hb hby d16_15) rfl ?_
    refine XS.iconst X169.here hx rfl (hb hby d16_16) ?_
    refine XS.iadd X169.here hx rfl (hb hby d16_17) rfl ?_
    refine XS.iloadN X169.here hx rfl (hb hby d16_18) rfl ?_
    refine XS.bipush X169.here hx rfl (hb hby d16_19) ?_
    refine XS.iushr X169.here hx rfl (hb hby d16_21) rfl ?_
    refine XS.i2b X169.here hx rfl (hb hby d16_22) rfl ?_
    exact k
  obtain ⟨cl171, Ar171, q171, S171, N171, H171, G171⟩ := id VA_167
  obtain ⟨T170, h170, X170, e170, W170, st170⟩ := stB X169 hx hZ e169 Ar171 (j := (1 : Int32)) (inb_of (j := (1 : Int32)) S171 ⟨by decide, by decide⟩) (g := (mkF m 23 #[.val (.ref a1), .val (.int (0 : Int32)), .val (.int p3)] [(.int (((p3.toUInt32 >>> ((16 : Int32) &&& 31).toUInt32).toInt32).toInt8.toInt32)), (.int (1 : Int32)), (.ref b1)])) rfl rfl (hb hby d16_23)
  have VA_170 := Arv.set Ar171 q171 S171 N171 H171 G171 (fits_nar_byte _) W170 1 rfl (Nat.le_of_ble_eq_true rfl)
  have EX_170 := EX_167.wr W170
  have FB_170 := FB_167.other W170 (Or.inl nab)
  have FS_170 := FS_167.other W170 (Or.inl nab)
  have N170 := Fr.snoc X170 N167 gB
  have KK170 : Keep h0 h170 [a1, b1] := KK167.wr W170 (Or.inl (List.mem_of_getElem? (i := 1) rfl))
  have sz170 : n0 ≤ h170.size := Nat.le_trans sz167 (Nat.le_of_eq W170.size.symm)
  refine Go.st (U' := T170.setTop (mkF m 24 #[.val (.ref a1), .val (.int (0 : Int32)), .val (.int p3)] [])) (fun t k => st170 _ k) ?_
  refine Go.st (U' := T170.setTop (mkF m 25 #[.val (.ref a1), .val (.int (0 : Int32)), .val (.int p3)] [(.ref a1)])) (fun t k => ?_) ?_
  · refine XS.aloadN X170.here hx rfl (hb hby d16_24) rfl rfl ?_
    exact k
  obtain ⟨T172, X172, e172, st172⟩ := getF X170 hx hZ hown (host := "") (Or.inl (own_w hw 10 rfl)) Via.refl e170 FB_170 (g := (mkF m 25 #[.val (.ref a1), .val (.int (0 : Int32)), .val (.int p3)] [(.ref a1)])) rfl rfl (hb hby d16_25)
  refine Go.st (U' := T172.setTop (mkF m 28 #[.val (.ref a1), .val (.int (0 : Int32)), .val (.int p3)] [(.ref b1)])) (fun t k => st172 _ k) ?_
  refine Go.st (U' := T172.setTop (mkF m 36 #[.val (.ref a1), .val (.int (0 : Int32)), .val (.int p3)] [(.int (((p3.toUInt32 >>> ((8 : Int32) &&& 31).toUInt32).toInt32).toInt8.toInt32)), (.int (2 : Int32)), (.ref b1)])) (fun t k => ?_) ?_
  · refine XS.iloadN X172.here hx rfl (hb hby d16_28) rfl ?_
    refine XS.iconst X172.here hx rfl (hb hby d16_29) ?_
    refine XS.iadd X172.here hx rfl (hb hby d16_30) rfl ?_
    refine XS.iloadN X172.here hx rfl (hb hby d16_31) rfl ?_
    refine XS.bipush X172.here hx rfl (hb hby d16_32) ?_
    refine XS.iushr X172.here hx rfl (hb hby d16_34) rfl ?_
    refine XS.i2b X172.here hx rfl (hb hby d16_35) rfl ?_
    exact k
  obtain ⟨cl174, Ar174, q174, S174, N174, H174, G174⟩ := id VA_170
  obtain ⟨T173, h173, X173, e173, W173, st173⟩ := stB X172 hx hZ e172 Ar174 (j := (2 : Int32)) (inb_of (j := (2 : Int32)) S174 ⟨by decide, by decide⟩) (g := (mkF m 36 #[.val (.ref a1), .val (.int (0 : Int32)), .val (.int p3)] [(.int (((p3.toUInt32 >>> ((8 : Int32) &&& 31).toUInt32).toInt32).toInt8.toInt32)), (.int (2 : Int32)), (.ref b1)])) rfl rfl (hb hby d16_36)
  have VA_173 := Arv.set Ar174 q174 S174 N174 H174 G174 (fits_nar_byte _) W173 2 rfl (Nat.le_of_ble_eq_true rfl)
  have EX_173 := EX_170.wr W173
  have FB_173 := FB_170.other W173 (Or.inl nab)
  have FS_173 := FS_170.other W173 (Or.inl nab)
  have N173 := Fr.snoc X173 N170 gB
  have KK173 : Keep h0 h173 [a1, b1] := KK170.wr W173 (Or.inl (List.mem_of_getElem? (i := 1) rfl))
  have sz173 : n0 ≤ h173.size := Nat.le_trans sz170 (Nat.le_of_eq W173.size.symm)
  refine Go.st (U' := T173.setTop (mkF m 37 #[.val (.ref a1), .val (.int (0 : Int32)), .val (.int p3)] [])) (fun t k => st173 _ k) ?_
  refine Go.st (U' := T173.setTop (mkF m 38 #[.val (.ref a1), .val (.int (0 : Int32)), .val (.int p3)] [(.ref a1)])) (fun t k => ?_) ?_
  · refine XS.aloadN X173.here hx rfl (hb hby d16_37) rfl rfl ?_
    exact k
  obtain ⟨T175, X175, e175, st175⟩ := getF X173 hx hZ hown (host := "") (Or.inl (own_w hw 10 rfl)) Via.refl e173 FB_173 (g := (mkF m 38 #[.val (.ref a1), .val (.int (0 : Int32)), .val (.int p3)] [(.ref a1)])) rfl rfl (hb hby d16_38)
  refine Go.st (U' := T175.setTop (mkF m 41 #[.val (.ref a1), .val (.int (0 : Int32)), .val (.int p3)] [(.ref b1)])) (fun t k => st175 _ k) ?_
  refine Go.st (U' := T175.setTop (mkF m 46 #[.val (.ref a1), .val (.int (0 : Int32)), .val (.int p3)] [(.int (p3.toInt8.toInt32)), (.int (3 : Int32)), (.ref b1)])) (fun t k => ?_) ?_
  · refine XS.iloadN X175.here hx rfl (hb hby d16_41) rfl ?_
    refine XS.iconst X175.here hx rfl (hb hby d16_42) ?_
    refine XS.iadd X175.here hx rfl (hb hby d16_43) rfl ?_
    refine XS.iloadN X175.here hx rfl (hb hby d16_44) rfl ?_
    refine XS.i2b X175.here hx rfl (hb hby d16_45) rfl ?_
    exact k
  obtain ⟨cl177, Ar177, q177, S177, N177, H177, G177⟩ := id VA_173
  obtain ⟨T176, h176, X176, e176, W176, st176⟩ := stB X175 hx hZ e175 Ar177 (j := (3 : Int32)) (inb_of (j := (3 : Int32)) S177 ⟨by decide, by decide⟩) (g := (mkF m 46 #[.val (.ref a1), .val (.int (0 : Int32)), .val (.int p3)] [(.int (p3.toInt8.toInt32)), (.int (3 : Int32)), (.ref b1)])) rfl rfl (hb hby d16_46)
  have VA_176 := Arv.set Ar177 q177 S177 N177 H177 G177 (fits_nar_byte _) W176 3 rfl (Nat.le_of_ble_eq_true rfl)
  have EX_176 := EX_173.wr W176
  have FB_176 := FB_173.other W176 (Or.inl nab)
  have FS_176 := FS_173.other W176 (Or.inl nab)
  have N176 := Fr.snoc X176 N173 gB
  have KK176 : Keep h0 h176 [a1, b1] := KK173.wr W176 (Or.inl (List.mem_of_getElem? (i := 1) rfl))
  have sz176 : n0 ≤ h176.size := Nat.le_trans sz173 (Nat.le_of_eq W176.size.symm)
  refine Go.st (U' := T176.setTop (mkF m 47 #[.val (.ref a1), .val (.int (0 : Int32)), .val (.int p3)] [])) (fun t k => st176 _ k) ?_
  refine own_ret (Q := Qp0_0 Z a1 b1 k1 c0 c1 c2 c3 c4 c5 c6 c7 c8 c9 c10 c11 c12 c13 c14 c15 p3 h0 n0) (v := none) X176 hlk (fun _ => rfl) (by decide) (by decide) ?_ (fun fs hr => X176.returnOut hx hrt (hb hby d16_47) hr)
  rw [e176]
  exact ⟨rfl, N176, KK176, EX_176, FB_176, FS_176, VA_176⟩
theorem d18_0 : decode prog_14_method_5_code 0 = .ok (.aload_n 0, 1) := by decide +kernel
theorem d18_1 : decode prog_14_method_5_code 1 = .ok (.iconst 4, 1) := by decide +kernel
theorem d18_2 : decode prog_14_method_5_code 2 = .ok (.invokevirtual 25, 3) := by decide +kernel
theorem d18_5 : decode prog_14_method_5_code 5 = .ok (.aload_n 0, 1) := by decide +kernel
theorem d18_6 : decode prog_14_method_5_code 6 = .ok (.iconst 4, 1) := by decide +kernel
theorem d18_7 : decode prog_14_method_5_code 7 = .ok (.invokevirtual 13, 3) := by decide +kernel
theorem d18_10 : decode prog_14_method_5_code 10 = .ok (.aload_n 0, 1) := by decide +kernel
theorem d18_11 : decode prog_14_method_5_code 11 = .ok (.aload_n 0, 1) := by decide +kernel
theorem d18_12 : decode prog_14_method_5_code 12 = .ok (.getfield 17, 3) := by decide +kernel
theorem d18_15 : decode prog_14_method_5_code 15 = .ok (.iload_n 1, 1) := by decide +kernel
theorem d18_16 : decode prog_14_method_5_code 16 = .ok (.invokevirtual 28, 3) := by decide +kernel
theorem d18_19 : decode prog_14_method_5_code 19 = .ok (.aload_n 0, 1) := by decide +kernel
theorem d18_20 : decode prog_14_method_5_code 20 = .ok (.dup, 1) := by decide +kernel
theorem d18_21 : decode prog_14_method_5_code 21 = .ok (.getfield 17, 3) := by decide +kernel
theorem d18_24 : decode prog_14_method_5_code 24 = .ok (.iconst 4, 1) := by decide +kernel
theorem d18_25 : decode prog_14_method_5_code 25 = .ok (.iadd, 1) := by decide +kernel
theorem d18_26 : decode prog_14_method_5_code 26 = .ok (.putfield 17, 3) := by decide +kernel
theorem d18_29 : decode prog_14_method_5_code 29 = .ok (.return_, 1) := by decide +kernel
theorem pd_3 : parseMethodDescriptor "(II)V" = some ⟨[.int, .int], none⟩ := by decide +kernel
theorem efn0 (m : MethodId) (a1 : Addr) (p2 : Int32) : entryFrame m #[(.ref a1), (.int p2)] 2 = mkF m 0 #[.val (.ref a1), .val (.int p2)] [] := by first | (simp [entryFrame, mkF, argsToLocals, Value.category]; done) | rfl
def Qn0 (Z : State) (a1 : Addr) (b1 : Addr) (k1 : ClassId) (c0 : Int32) (c1 : Int32) (c2 : Int32) (c3 : Int32) (c4 : Int32) (c5 : Int32) (c6 : Int32) (c7 : Int32) (c8 : Int32) (c9 : Int32) (c10 : Int32) (c11 : Int32) (c12 : Int32) (c13 : Int32) (c14 : Int32) (c15 : Int32) (p2 : Int32) (h0 : Heap) (n0 : Nat) (v : Option Value) (h : Heap) (L : List Loc) : Prop := v = none ∧ Fr n0 L ∧ Keep h0 h [a1, b1] ∧ Exa Z h a1 "com/example/portcullis/portcullis/io/CdrOutput" ∧ Fld Z h a1 "com/example/portcullis/portcullis/io/CdrOutput" "buffer" "[B" (.ref b1) ∧ Fld Z h a1 "com/example/portcullis/portcullis/io/CdrOutput" "size" "I" (.int (4 : Int32)) ∧ Arv Z h b1 k1 .byte (256 : Int32) [(.int (own_b3 p2)), (.int (own_b2 p2)), (.int (own_b1 p2)), (.int (own_b0 p2)), (.int c4), (.int c5), (.int c6), (.int c7), (.int c8), (.int c9), (.int c10), (.int c11), (.int c12), (.int c13), (.int c14), (.int c15)] (.int (0 : Int32))
set_option maxRecDepth 65536 in
set_option maxHeartbeats 40000000 in
theorem rmn0 (l : Launch) (Z : State) (a0 : Array Value) (hw : ∀ d ∈ tables_1, d.before a0 Z = true) (ws : List Jvm.Cond) (a1 : Addr) (b1 : Addr) (k1 : ClassId) (c0 : Int32) (c1 : Int32) (c2 : Int32) (c3 : Int32) (c4 : Int32) (c5 : Int32) (c6 : Int32) (c7 : Int32) (c8 : Int32) (c9 : Int32) (c10 : Int32) (c11 : Int32) (c12 : Int32) (c13 : Int32) (c14 : Int32) (c15 : Int32) (p2 : Int32) (h0 : Heap) (n0 : Nat) (Z0 : n0 ≤ h0.size) (EX : Exa Z h0 a1 "com/example/portcullis/portcullis/io/CdrOutput") (FB : Fld Z h0 a1 "com/example/portcullis/portcullis/io/CdrOutput" "buffer" "[B" (.ref b1)) (FS : Fld Z h0 a1 "com/example/portcullis/portcullis/io/CdrOutput" "size" "I" (.int (0 : Int32))) (VA : Arv Z h0 b1 k1 .byte (256 : Int32) [(.int c0), (.int c1), (.int c2), (.int c3), (.int c4), (.int c5), (.int c6), (.int c7), (.int c8), (.int c9), (.int c10), (.int c11), (.int c12), (.int c13), (.int c14), (.int c15)] (.int (0 : Int32))) (gA : n0 ≤ a1) (gB : n0 ≤ b1) (nab : a1 ≠ b1) :
    MetFree l own_y8 (head1 (Jvm.Cond.code own_y8 prog_14_method_5_code 2 none :: ws) own_R3_0_0_80) (fun a U => a = #[(.ref a1), (.int p2)] ∧ Z.Warmed39 U.vm ∧ U.heap = h0) (fun _ _ _ _ _ => True) (fun _ U o U' => ∃ v L, o = .returned v ∧ Qn0 Z a1 b1 k1 c0 c1 c2 c3 c4 c5 c6 c7 c8 c9 c10 c11 c12 c13 c14 c15 p2 h0 n0 v U'.heap L ∧ FrameEnd U o U' L (own_R3_0_0_80).cells (own_R3_0_0_80).slots) := by
  refine MetFree.of_bodySF (plainFor_of_name pn_0) hisR ?_
  intro p e s m args below meth c s₁ Bd hml0 hP hK
  obtain ⟨rfl, hZ, hh⟩ := hP
  have hx := Bd.exec
  have hby := Bd.bytes
  have hml : c.maxLocals = 2 := hml0
  have hown : s.vm.findClass "com/example/portcullis/portcullis/io/CdrOutput" = some m.cls := findClass_of_methodNamed Bd.named
  have hnm := (name_of_methodNamed Bd.named Bd.method).1
  have hlk : meth.locks = false := BodyLoose.notSynchronized Bd
  have hrt := Bd.returns
  have X0 : Stand p l e own_R3_0_0_80 s m #[(.ref a1), (.int p2)] below meth c s₁ [] 0 0 := Stand.of_body Bd
  have e0 : s₁.heap = h0 := by rw [← hh, Bd.state]; rfl
  have N0 := Fr.nil n0
  refine (show Go p e below (fun s₂ o => ∃ v L, o = .returned v ∧ Qn0 Z a1 b1 k1 c0 c1 c2 c3 c4 c5 c6 c7 c8 c9 c10 c11 c12 c13 c14 c15 p2 h0 n0 v s₂.heap L ∧ FrameEnd s o s₂ L 0 0) (s₁.setTop (entryFrame m #[(.ref a1), (.int p2)] 2)) from ?_)
  rw [efn0]
  refine Go.st (U' := s₁.setTop (mkF m 2 #[.val (.ref a1), .val (.int p2)] [(.int (4 : Int32)), (.ref a1)])) (fun t k => ?_) ?_
  · refine XS.aloadN X0.here hx rfl (hb hby d18_0) rfl rfl ?_
    refine XS.iconst X0.here hx rfl (hb hby d18_1) ?_
    exact k
  obtain ⟨cq178, kq178, q178a, q178b, q178c⟩ := isOf hZ e0 EX
  obtain ⟨_, _, ⟨T178, L178, k178, n178⟩, -, X178, ⟨Lc178, hQ178, l178, y178, z178⟩, st178⟩ := X0.virtualBack hx (y := own_y5) (z := own_y5) hown (mvT hZ (own_w hw 57 rfl)) (mvT hZ (own_w hw 58 rfl)) (notFace_of_selects (args := #[]) (mvT hZ (own_w hw 60 rfl))) (mvT hZ (own_w hw 60 rfl)) (mvT hZ (own_w hw 59 rfl)) (by decide) (backOf (W := 0) (rma0_4 l Z a0 hw [] a1 b1 k1 c0 c1 c2 c3 c4 c5 c6 c7 c8 c9 c10 c11 c12 c13 c14 c15 h0 n0 Z0 EX FB FS VA gA gB nab) hZ (own_w hw 61 rfl) (own_w hw 2 rfl) (by decide) (by decide)) q178a q178c (g := (mkF m 2 #[.val (.ref a1), .val (.int p2)] [(.int (4 : Int32)), (.ref a1)])) rfl (by rw [hml]; rfl) (Steps.refl _) (argsL := [(.int (4 : Int32))]) (rest := []) (lenOf pd_0 rfl) rfl (by show 2 * 0 + _ ≤ _; exact Nat.le_of_eq rfl) (hb hby d18_2) (fun _ _ => ⟨rfl, e0, (by decide : 0 + 0 ≤ _), (by decide : 0 + 0 ≤ _)⟩)
  dsimp only [Pt.U, Pt.locs, Pt.cells, Pt.slots] at X178 l178 y178 z178 st178 hQ178
  subst l178 y178 z178
  obtain ⟨rfl, N178q, K178, PE178, PV178, PZ178, PA178⟩ := hQ178
  have KK178 : Keep h0 T178.heap [a1, b1] := (Keep.refl h0 [a1, b1]).trans K178 (allS (Or.inl (List.mem_of_getElem? (i := 0) rfl)) (allS (Or.inl (List.mem_of_getElem? (i := 1) rfl)) all0))
  have EX_178 := EX.keep K178
  have sz178 : n0 ≤ T178.heap.size := Nat.le_trans Z0 K178.1
  have N178 := Fr.app N0 N178q
  refine Go.tr (U' := T178.setTop (mkF m 5 #[.val (.ref a1), .val (.int p2)] [])) st178 ?_
  refine Go.st (U' := T178.setTop (mkF m 7 #[.val (.ref a1), .val (.int p2)] [(.int (4 : Int32)), (.ref a1)])) (fun t k => ?_) ?_
  · refine XS.aloadN X178.here hx rfl (hb hby d18_5) rfl rfl ?_
    refine XS.iconst X178.here hx rfl (hb hby d18_6) ?_
    exact k
  obtain ⟨cq179, q179, q179'⟩ := PE178.cell
  obtain ⟨_, _, ⟨T179, L179, k179, n179⟩, -, X179, ⟨Lc179, hQ179, l179, y179, z179⟩, st179⟩ := X178.privateBack hx (y := own_y1) hown (mvT hZ (own_w hw 48 rfl)) (mvT hZ (own_w hw 49 rfl)) (own_selp (y := own_y1) (mvT hZ (own_w hw 1 rfl)) (Cond.privateMethod_at (mvP hZ (own_w hw 50 rfl) (args := #[]))) (mvT hZ (own_w hw 49 rfl)) (by decide)) (Cond.privateMethod_at (mvP hZ (own_w hw 50 rfl) (args := #[]))) (mvT hZ (own_w hw 51 rfl)) (by decide) (backOf (W := 0) (rmr l Z a0 hw [] a1 (4 : Int32) b1 k1 (0 : Int32) [(.int c0), (.int c1), (.int c2), (.int c3), (.int c4), (.int c5), (.int c6), (.int c7), (.int c8), (.int c9), (.int c10), (.int c11), (.int c12), (.int c13), (.int c14), (.int c15)] T178.heap n0 sz178 PV178 PZ178 PA178 (by decide)) hZ (own_w hw 51 rfl) (own_w hw 2 rfl) (by decide) (by decide)) (g := (mkF m 7 #[.val (.ref a1), .val (.int p2)] [(.int (4 : Int32)), (.ref a1)])) rfl (by rw [hml]; rfl) (Steps.refl _) (a := a1) q179 q179' (argsL := [(.int (4 : Int32))]) (rest := []) (lenOf pd_0 rfl) rfl (by show 2 * 0 + _ ≤ _; exact Nat.le_of_eq rfl) (hb hby d18_7) (fun _ _ => ⟨rfl, rfl, (by decide : 0 + 0 ≤ _), (by decide : 0 + 0 ≤ _)⟩)
  dsimp only [Pt.U, Pt.locs, Pt.cells, Pt.slots] at X179 l179 y179 z179 st179 hQ179
  subst l179 y179 z179
  obtain ⟨rfl, N179q, e179⟩ := hQ179
  have N179 := Fr.app N178 N179q
  refine Go.tr (U' := T179.setTop (mkF m 10 #[.val (.ref a1), .val (.int p2)] [])) st179 ?_
  refine Go.st (U' := T179.setTop (mkF m 12 #[.val (.ref a1), .val (.int p2)] [(.ref a1), (.ref a1)])) (fun t k => ?_) ?_
  · refine XS.aloadN X179.here hx rfl (hb hby d18_10) rfl rfl ?_
    refine XS.aloadN X179.here hx rfl (hb hby d18_11) rfl rfl ?_
    exact k
  obtain ⟨T180, X180, e180, st180⟩ := getF X179 hx hZ hown (host := "") (Or.inl (own_w hw 17 rfl)) Via.refl e179 PZ178 (g := (mkF m 12 #[.val (.ref a1), .val (.int p2)] [(.ref a1), (.ref a1)])) rfl rfl (hb hby d18_12)
  refine Go.st (U' := T180.setTop (mkF m 15 #[.val (.ref a1), .val (.int p2)] [(.int (0 : Int32)), (.ref a1)])) (fun t k => st180 _ k) ?_
  refine Go.st (U' := T180.setTop (mkF m 16 #[.val (.ref a1), .val (.int p2)] [(.int p2), (.int (0 : Int32)), (.ref a1)])) (fun t k => ?_) ?_
  · refine XS.iloadN X180.here hx rfl (hb hby d18_15) rfl ?_
    exact k
  obtain ⟨cq181, q181, q181'⟩ := PE178.cell
  obtain ⟨_, _, ⟨T181, L181, k181, n181⟩, -, X181, ⟨Lc181, hQ181, l181, y181, z181⟩, st181⟩ := X180.privateBack hx (y := own_y7) hown (mvT hZ (own_w hw 73 rfl)) (mvT hZ (own_w hw 74 rfl)) (own_selp (y := own_y7) (mvT hZ (own_w hw 1 rfl)) (Cond.privateMethod_at (mvP hZ (own_w hw 75 rfl) (args := #[]))) (mvT hZ (own_w hw 74 rfl)) (by decide)) (Cond.privateMethod_at (mvP hZ (own_w hw 75 rfl) (args := #[]))) (mvT hZ (own_w hw 76 rfl)) (by decide) (backOf (W := 0) (rmp0_0 l Z a0 hw [] a1 b1 k1 c0 c1 c2 c3 c4 c5 c6 c7 c8 c9 c10 c11 c12 c13 c14 c15 p2 T178.heap n0 sz178 PE178 PV178 PZ178 PA178 gA gB nab) hZ (own_w hw 76 rfl) (own_w hw 2 rfl) (by decide) (by decide)) (g := (mkF m 16 #[.val (.ref a1), .val (.int p2)] [(.int p2), (.int (0 : Int32)), (.ref a1)])) rfl (by rw [hml]; rfl) (Steps.refl _) (a := a1) (by rw [e180]; exact q181) q181' (argsL := [(.int (0 : Int32)), (.int p2)]) (rest := []) (lenOf pd_3 rfl) rfl (by show 2 * 0 + _ ≤ _; exact Nat.le_of_eq rfl) (hb hby d18_16) (fun _ _ => ⟨rfl, e180, (by decide : 0 + 0 ≤ _), (by decide : 0 + 0 ≤ _)⟩)
  dsimp only [Pt.U, Pt.locs, Pt.cells, Pt.slots] at X181 l181 y181 z181 st181 hQ181
  subst l181 y181 z181
  obtain ⟨rfl, N181q, K181, PE181, PV181, PZ181, PA181⟩ := hQ181
  have KK181 : Keep h0 T181.heap [a1, b1] := KK178.trans K181 (allS (Or.inl (List.mem_of_getElem? (i := 0) rfl)) (allS (Or.inl (List.mem_of_getElem? (i := 1) rfl)) all0))
  have PE178_181 := PE178.keep K181
  have sz181 : n0 ≤ T181.heap.size := Nat.le_trans sz178 K181.1
  have N181 := Fr.app N179 N181q
  refine Go.tr (U' := T181.setTop (mkF m 19 #[.val (.ref a1), .val (.int p2)] [])) st181 ?_
  refine Go.st (U' := T181.setTop (mkF m 21 #[.val (.ref a1), .val (.int p2)] [(.ref a1), (.ref a1)])) (fun t k => ?_) ?_
  · refine XS.aloadN X181.here hx rfl (hb hby d18_19) rfl rfl ?_
    refine XS.dup X181.here hx rfl (hb hby d18_20) rfl rfl ?_
    exact k
  obtain ⟨T182, X182, e182, st182⟩ := getF X181 hx hZ hown (host := "") (Or.inl (own_w hw 17 rfl)) Via.refl rfl PZ181 (g := (mkF m 21 #[.val (.ref a1), .val (.int p2)] [(.ref a1), (.ref a1)])) rfl rfl (hb hby d18_21)
  refine Go.st (U' := T182.setTop (mkF m 24 #[.val (.ref a1), .val (.int p2)] [(.int (0 : Int32)), (.ref a1)])) (fun t k => st182 _ k) ?_
  refine Go.st (U' := T182.setTop (mkF m 26 #[.val (.ref a1), .val (.int p2)] [(.int (4 : Int32)), (.ref a1)])) (fun t k => ?_) ?_
  · refine XS.iconst X182.here hx rfl (hb hby d18_24) ?_
    refine XS.iadd X182.here hx rfl (hb hby d18_25) rfl ?_
    exact k
  obtain ⟨T183, h183, X183, e183, W183, st183⟩ := putF X182 hx hZ hown (host := "") (Or.inl (own_w hw 17 rfl)) Via.refl e182 PZ181 PE181 (Or.inl (own_w hw 18 rfl)) (own_w hw 1 rfl) (ty := .int) (by decide) rfl rfl (g := (mkF m 26 #[.val (.ref a1), .val (.int p2)] [(.int (4 : Int32)), (.ref a1)])) rfl rfl (hb hby d18_26)
  have F183 := PZ181.same W183
  have PE181_183 := PE181.wr W183
  have PV181_183 := PV181.other W183 (Or.inr (slot_ne (Or.inl (own_w hw 11 rfl)) (Or.inl (own_w hw 18 rfl)) (by decide) (t := (.array .byte)) (t' := .int) (by decide) (by decide)))
  have PA181_183 := PA181.other W183 (Ne.symm nab)
  have N183 := Fr.snoc X183 N181 gA
  have KK183 : Keep h0 h183 [a1, b1] := KK181.wr W183 (Or.inl (List.mem_of_getElem? (i := 0) rfl))
  have sz183 : n0 ≤ h183.size := Nat.le_trans sz181 (Nat.le_of_eq W183.size.symm)
  refine Go.st (U' := T183.setTop (mkF m 29 #[.val (.ref a1), .val (.int p2)] [])) (fun t k => st183 _ k) ?_
  refine own_ret (Q := Qn0 Z a1 b1 k1 c0 c1 c2 c3 c4 c5 c6 c7 c8 c9 c10 c11 c12 c13 c14 c15 p2 h0 n0) (v := none) X183 hlk (fun _ => rfl) (by decide) (by decide) ?_ (fun fs hr => X183.returnOut hx hrt (hb hby d18_29) hr)
  rw [e183]
  exact ⟨rfl, N183, KK183, PE181_183, PV181_183, F183, PA181_183⟩
theorem eff1_4 (m : MethodId) (a1 : Addr) : entryFrame m #[(.ref a1), (.int (1 : Int32)), (.int (4 : Int32)), (.int (0 : Int32))] 5 = mkF m 0 #[.val (.ref a1), .val (.int (1 : Int32)), .val (.int (4 : Int32)), .val (.int (0 : Int32)), .unset] [] := by first | (simp [entryFrame, mkF, argsToLocals, Value.category]; done) | rfl
def Qf1_4 (Z : State) (a1 : Addr) (k1 : ClassId) (c0 : Int32) (c1 : Int32) (c2 : Int32) (c3 : Int32) (c4 : Int32) (c5 : Int32) (c6 : Int32) (c7 : Int32) (c8 : Int32) (c9 : Int32) (c10 : Int32) (c11 : Int32) (c12 : Int32) (c13 : Int32) (c14 : Int32) (c15 : Int32) (h0 : Heap) (n0 : Nat) (v : Option Value) (h : Heap) (L : List Loc) : Prop := v = none ∧ Fr n0 L ∧ Keep h0 h [a1] ∧ Arv Z h a1 k1 .byte (256 : Int32) [(.int c0), (.int (0 : Int32)), (.int (0 : Int32)), (.int (0 : Int32)), (.int c4), (.int c5), (.int c6), (.int c7), (.int c8), (.int c9), (.int c10), (.int c11), (.int c12), (.int c13), (.int c14), (.int c15)] (.int (0 : Int32))
set_option maxRecDepth 65536 in
set_option maxHeartbeats 40000000 in
theorem rmf1_4 (l : Launch) (Z : State) (a0 : Array Value) (hw : ∀ d ∈ tables_1, d.before a0 Z = true) (ws : List Jvm.Cond) (a1 : Addr) (k1 : ClassId) (c0 : Int32) (c1 : Int32) (c2 : Int32) (c3 : Int32) (c4 : Int32) (c5 : Int32) (c6 : Int32) (c7 : Int32) (c8 : Int32) (c9 : Int32) (c10 : Int32) (c11 : Int32) (c12 : Int32) (c13 : Int32) (c14 : Int32) (c15 : Int32) (h0 : Heap) (n0 : Nat) (Z0 : n0 ≤ h0.size) (VA : Arv Z h0 a1 k1 .byte (256 : Int32) [(.int c0), (.int c1), (.int c2), (.int c3), (.int c4), (.int c5), (.int c6), (.int c7), (.int c8), (.int c9), (.int c10), (.int c11), (.int c12), (.int c13), (.int c14), (.int c15)] (.int (0 : Int32))) (gA : n0 ≤ a1) :
    MetFree l own_y4 (head1 (Jvm.Cond.code own_y4 jdk_65_method_110_code 5 none :: ws) own_R1_0_0_16) (fun a U => a = #[(.ref a1), (.int (1 : Int32)), (.int (4 : Int32)), (.int (0 : Int32))] ∧ Z.Warmed39 U.vm ∧ U.heap = h0) (fun _ _ _ _ _ => True) (fun _ U o U' => ∃ v L, o = .returned v ∧ Qf1_4 Z a1 k1 c0 c1 c2 c3 c4 c5 c6 c7 c8 c9 c10 c11 c12 c13 c14 c15 h0 n0 v U'.heap L ∧ FrameEnd U o U' L (own_R1_0_0_16).cells (own_R1_0_0_16).slots) := by
  refine MetFree.of_bodySF (plainFor_of_name pn_4) hisR ?_
  intro p e s m args below meth c s₁ Bd hml0 hP hK
  obtain ⟨rfl, hZ, hh⟩ := hP
  have hx := Bd.exec
  have hby := Bd.bytes
  have hml : c.maxLocals = 5 := hml0
  have hown : s.vm.findClass "java/util/Arrays" = some m.cls := findClass_of_methodNamed Bd.named
  have hnm := (name_of_methodNamed Bd.named Bd.method).1
  have hlk : meth.locks = false := BodyLoose.notSynchronized Bd
  have hrt := Bd.returns
  have X0 : Stand p l e own_R1_0_0_16 s m #[(.ref a1), (.int (1 : Int32)), (.int (4 : Int32)), (.int (0 : Int32))] below meth c s₁ [] 0 0 := Stand.of_body Bd
  have e0 : s₁.heap = h0 := by rw [← hh, Bd.state]; rfl
  have N0 := Fr.nil n0
  refine (show Go p e below (fun s₂ o => ∃ v L, o = .returned v ∧ Qf1_4 Z a1 k1 c0 c1 c2 c3 c4 c5 c6 c7 c8 c9 c10 c11 c12 c13 c14 c15 h0 n0 v s₂.heap L ∧ FrameEnd s o s₂ L 0 0) (s₁.setTop (entryFrame m #[(.ref a1), (.int (1 : Int32)), (.int (4 : Int32)), (.int (0 : Int32))] 5)) from ?_)
  rw [eff1_4]
  obtain ⟨cl184, Ar184, q184, S184, N184, H184, G184⟩ := id VA
  refine Go.st (U' := s₁.setTop (mkF m 4 #[.val (.ref a1), .val (.int (1 : Int32)), .val (.int (4 : Int32)), .val (.int (0 : Int32)), .unset] [(.int (4 : Int32)), (.int (1 : Int32)), (.int (256 : Int32))])) (fun t k => ?_) ?_
  · refine XS.aloadN X0.here hx rfl (hb hby d13_0) rfl rfl ?_
    refine X0.arraylength hx (by rw [e0]; exact Ar184.1) (State.isArrayOf_alike hZ.alike Ar184.2.1) (g := (mkF m 1 #[.val (.ref a1), .val (.int (1 : Int32)), .val (.int (4 : Int32)), .val (.int (0 : Int32)), .unset] [(.ref a1)])) rfl rfl (hb hby d13_1) _ ?_
    rw [len_of S184 N184]
    refine XS.iloadN X0.here hx rfl (hb hby d13_2) rfl ?_
    refine XS.iloadN X0.here hx rfl (hb hby d13_3) rfl ?_
    exact k
  obtain ⟨_, _, ⟨T185, L185, k185, n185⟩, -, X185, ⟨Lc185, hQ185, l185, y185, z185⟩, st185⟩ := Jvm.LawKit.callS X0 hx (y := own_y2) hown (mvT hZ (own_w hw 65 rfl)) (mvT hZ (own_w hw 66 rfl)) (mvT hZ (own_w hw 21 rfl)) (mvT hZ (own_w hw 67 rfl)) (by decide) (backOf (W := 0) (rmk l Z a0 hw [] (256 : Int32) (1 : Int32) (4 : Int32) h0 n0 Z0 (by decide) (by decide) (by decide)) hZ (own_w hw 67 rfl) (own_w hw 21 rfl) (by decide) (by decide)) (g := (mkF m 4 #[.val (.ref a1), .val (.int (1 : Int32)), .val (.int (4 : Int32)), .val (.int (0 : Int32)), .unset] [(.int (4 : Int32)), (.int (1 : Int32)), (.int (256 : Int32))])) rfl (by rw [hml]; rfl) (argsL := [(.int (256 : Int32)), (.int (1 : Int32)), (.int (4 : Int32))]) (rest := []) (lenOf pd_1 rfl) rfl (by show 2 * 0 + _ ≤ _; exact Nat.le_of_eq rfl) (hb hby d13_4) (fun _ _ => ⟨rfl, e0, (by decide : 0 + 0 ≤ _), (by decide : 0 + 0 ≤ _)⟩)
  dsimp only [Pt.U, Pt.locs, Pt.cells, Pt.slots] at X185 l185 y185 z185 st185 hQ185
  subst l185 y185 z185
  obtain ⟨rfl, N185q, e185⟩ := hQ185
  have N185 := Fr.app N0 N185q
  refine Go.st (U' := T185.setTop (mkF m 7 #[.val (.ref a1), .val (.int (1 : Int32)), .val (.int (4 : Int32)), .val (.int (0 : Int32)), .unset] [])) (fun t k => st185 _ k) ?_
  refine Go.st (U' := T185.setTop (mkF m 20 #[.val (.ref a1), .val (.int (1 : Int32)), .val (.int (4 : Int32)), .val (.int (0 : Int32)), .val (.int (1 : Int32))] [(.int (0 : Int32)), (.int (1 : Int32)), (.ref a1)])) (fun t k => ?_) ?_
  · refine XS.iloadN X185.here hx rfl (hb hby d13_7) rfl ?_
    refine XS.istore X185.here hx rfl (hb hby d13_8) rfl (l' := #[.val (.ref a1), .val (.int (1 : Int32)), .val (.int (4 : Int32)), .val (.int (0 : Int32)), .val (.int (1 : Int32))]) rfl ?_
    refine XS.iload X185.here hx rfl (hb hby d13_10) rfl ?_
    refine XS.iloadN X185.here hx rfl (hb hby d13_12) rfl ?_
    refine XS.icmpNo X185.here hx rfl (hb hby d13_13) rfl (tlt (by decide : (1 : Int32) < (4 : Int32))).2.1 ?_
    refine XS.aloadN X185.here hx rfl (hb hby d13_16) rfl rfl ?_
    refine XS.iload X185.here hx rfl (hb hby d13_17) rfl ?_
    refine XS.iloadN X185.here hx rfl (hb hby d13_19) rfl ?_
    exact k
  obtain ⟨T186, h186, X186, e186, W186, st186⟩ := stB X185 hx hZ e185 Ar184 (j := (1 : Int32)) (inb_of (j := (1 : Int32)) S184 ⟨by decide, by decide⟩) (g := (mkF m 20 #[.val (.ref a1), .val (.int (1 : Int32)), .val (.int (4 : Int32)), .val (.int (0 : Int32)), .val (.int (1 : Int32))] [(.int (0 : Int32)), (.int (1 : Int32)), (.ref a1)])) rfl rfl (hb hby d13_20)
  have VA_186 := Arv.set Ar184 q184 S184 N184 H184 G184 (fits_nar_byte _) W186 1 rfl (Nat.le_of_ble_eq_true rfl)
  have N186 := Fr.snoc X186 N185 gA
  have KK186 : Keep h0 h186 [a1] := (Keep.refl h0 [a1]).wr W186 (Or.inl (List.mem_of_getElem? (i := 0) rfl))
  have sz186 : n0 ≤ h186.size := Nat.le_trans Z0 (Nat.le_of_eq W186.size.symm)
  refine Go.st (U' := T186.setTop (mkF m 21 #[.val (.ref a1), .val (.int (1 : Int32)), .val (.int (4 : Int32)), .val (.int (0 : Int32)), .val (.int (1 : Int32))] [])) (fun t k => st186 _ k) ?_
  refine Go.st (U' := T186.setTop (mkF m 20 #[.val (.ref a1), .val (.int (1 : Int32)), .val (.int (4 : Int32)), .val (.int (0 : Int32)), .val (.int (2 : Int32))] [(.int (0 : Int32)), (.int (2 : Int32)), (.ref a1)])) (fun t k => ?_) ?_
  · refine XS.iinc X186.here hx rfl (hb hby d13_21) rfl (l' := #[.val (.ref a1), .val (.int (1 : Int32)), .val (.int (4 : Int32)), .val (.int (0 : Int32)), .val (.int (2 : Int32))]) rfl ?_
    refine XS.goto X186.here hx rfl (pc0 := 24) (pc' := 10) rfl (hb hby d13_24) (by decide) (by decide) ?_
    refine XS.iload X186.here hx rfl (hb hby d13_10) rfl ?_
    refine XS.iloadN X186.here hx rfl (hb hby d13_12) rfl ?_
    refine XS.icmpNo X186.here hx rfl (hb hby d13_13) rfl (tlt (by decide : (2 : Int32) < (4 : Int32))).2.1 ?_
    refine XS.aloadN X186.here hx rfl (hb hby d13_16) rfl rfl ?_
    refine XS.iload X186.here hx rfl (hb hby d13_17) rfl ?_
    refine XS.iloadN X186.here hx rfl (hb hby d13_19) rfl ?_
    exact k
  obtain ⟨cl188, Ar188, q188, S188, N188, H188, G188⟩ := id VA_186
  obtain ⟨T187, h187, X187, e187, W187, st187⟩ := stB X186 hx hZ e186 Ar188 (j := (2 : Int32)) (inb_of (j := (2 : Int32)) S188 ⟨by decide, by decide⟩) (g := (mkF m 20 #[.val (.ref a1), .val (.int (1 : Int32)), .val (.int (4 : Int32)), .val (.int (0 : Int32)), .val (.int (2 : Int32))] [(.int (0 : Int32)), (.int (2 : Int32)), (.ref a1)])) rfl rfl (hb hby d13_20)
  have VA_187 := Arv.set Ar188 q188 S188 N188 H188 G188 (fits_nar_byte _) W187 2 rfl (Nat.le_of_ble_eq_true rfl)
  have N187 := Fr.snoc X187 N186 gA
  have KK187 : Keep h0 h187 [a1] := KK186.wr W187 (Or.inl (List.mem_of_getElem? (i := 0) rfl))
  have sz187 : n0 ≤ h187.size := Nat.le_trans sz186 (Nat.le_of_eq W187.size.symm)
  refine Go.st (U' := T187.setTop (mkF m 21 #[.val (.ref a1), .val (.int (1 : Int32)), .val (.int (4 : Int32)), .val (.int (0 : Int32)), .val (.int (2 : Int32))] [])) (fun t k => st187 _ k) ?_
  refine Go.st (U' := T187.setTop (mkF m 20 #[.val (.ref a1), .val (.int (1 : Int32)), .val (.int (4 : Int32)), .val (.int (0 : Int32)), .val (.int (3 : Int32))] [(.int (0 : Int32)), (.int (3 : Int32)), (.ref a1)])) (fun t k => ?_) ?_
  · refine XS.iinc X187.here hx rfl (hb hby d13_21) rfl (l' := #[.val (.ref a1), .val (.int (1 : Int32)), .val (.int (4 : Int32)), .val (.int (0 : Int32)), .val (.int (3 : Int32))]) rfl ?_
    refine XS.goto X187.here hx rfl (pc0 := 24) (pc' := 10) rfl (hb hby d13_24) (by decide) (by decide) ?_
    refine XS.iload X187.here hx rfl (hb hby d13_10) rfl ?_
    refine XS.iloadN X187.here hx rfl (hb hby d13_12) rfl ?_
    refine XS.icmpNo X187.here hx rfl (hb hby d13_13) rfl (tlt (by decide : (3 : Int32) < (4 : Int32))).2.1 ?_
    refine XS.aloadN X187.here hx rfl (hb hby d13_16) rfl rfl ?_
    refine XS.iload X187.here hx rfl (hb hby d13_17) rfl ?_
    refine XS.iloadN X187.here hx rfl (hb hby d13_19) rfl ?_
    exact k
  obtain ⟨cl190, Ar190, q190, S190, N190, H190, G190⟩ := id VA_187
  obtain ⟨T189, h189, X189, e189, W189, st189⟩ := stB X187 hx hZ e187 Ar190 (j := (3 : Int32)) (inb_of (j := (3 : Int32)) S190 ⟨by decide, by decide⟩) (g := (mkF m 20 #[.val (.ref a1), .val (.int (1 : Int32)), .val (.int (4 : Int32)), .val (.int (0 : Int32)), .val (.int (3 : Int32))] [(.int (0 : Int32)), (.int (3 : Int32)), (.ref a1)])) rfl rfl (hb hby d13_20)
  have VA_189 := Arv.set Ar190 q190 S190 N190 H190 G190 (fits_nar_byte _) W189 3 rfl (Nat.le_of_ble_eq_true rfl)
  have N189 := Fr.snoc X189 N187 gA
  have KK189 : Keep h0 h189 [a1] := KK187.wr W189 (Or.inl (List.mem_of_getElem? (i := 0) rfl))
  have sz189 : n0 ≤ h189.size := Nat.le_trans sz187 (Nat.le_of_eq W189.size.symm)
  refine Go.st (U' := T189.setTop (mkF m 21 #[.val (.ref a1), .val (.int (1 : Int32)), .val (.int (4 : Int32)), .val (.int (0 : Int32)), .val (.int (3 : Int32))] [])) (fun t k => st189 _ k) ?_
  refine Go.st (U' := T189.setTop (mkF m 27 #[.val (.ref a1), .val (.int (1 : Int32)), .val (.int (4 : Int32)), .val (.int (0 : Int32)), .val (.int (4 : Int32))] [])) (fun t k => ?_) ?_
  · refine XS.iinc X189.here hx rfl (hb hby d13_21) rfl (l' := #[.val (.ref a1), .val (.int (1 : Int32)), .val (.int (4 : Int32)), .val (.int (0 : Int32)), .val (.int (4 : Int32))]) rfl ?_
    refine XS.goto X189.here hx rfl (pc0 := 24) (pc' := 10) rfl (hb hby d13_24) (by decide) (by decide) ?_
    refine XS.iload X189.here hx rfl (hb hby d13_10) rfl ?_
    refine XS.iloadN X189.here hx rfl (hb hby d13_12) rfl ?_
    refine XS.icmpYes X189.here hx rfl (pc0 := 13) (pc' := 27) rfl (hb hby d13_13) rfl (flt (by decide : ¬ ((4 : Int32) < (4 : Int32)))).2.1 (by decide) (by decide) ?_
    exact k
  refine own_ret (Q := Qf1_4 Z a1 k1 c0 c1 c2 c3 c4 c5 c6 c7 c8 c9 c10 c11 c12 c13 c14 c15 h0 n0) (v := none) X189 hlk (fun _ => rfl) (by decide) (by decide) ?_ (fun fs hr => X189.returnOut hx hrt (hb hby d13_27) hr)
  rw [e189]
  exact ⟨rfl, N189, KK189, VA_189⟩
theorem efa1_4 (m : MethodId) (a1 : Addr) : entryFrame m #[(.ref a1), (.int (4 : Int32))] 3 = mkF m 0 #[.val (.ref a1), .val (.int (4 : Int32)), .unset] [] := by first | (simp [entryFrame, mkF, argsToLocals, Value.category]; done) | rfl
def Qa1_4 (Z : State) (a1 : Addr) (b1 : Addr) (k1 : ClassId) (c0 : Int32) (c1 : Int32) (c2 : Int32) (c3 : Int32) (c4 : Int32) (c5 : Int32) (c6 : Int32) (c7 : Int32) (c8 : Int32) (c9 : Int32) (c10 : Int32) (c11 : Int32) (c12 : Int32) (c13 : Int32) (c14 : Int32) (c15 : Int32) (h0 : Heap) (n0 : Nat) (v : Option Value) (h : Heap) (L : List Loc) : Prop := v = none ∧ Fr n0 L ∧ Keep h0 h [a1, b1] ∧ Exa Z h a1 "com/example/portcullis/portcullis/io/CdrOutput" ∧ Fld Z h a1 "com/example/portcullis/portcullis/io/CdrOutput" "buffer" "[B" (.ref b1) ∧ Fld Z h a1 "com/example/portcullis/portcullis/io/CdrOutput" "size" "I" (.int (4 : Int32)) ∧ Arv Z h b1 k1 .byte (256 : Int32) [(.int c0), (.int (0 : Int32)), (.int (0 : Int32)), (.int (0 : Int32)), (.int c4), (.int c5), (.int c6), (.int c7), (.int c8), (.int c9), (.int c10), (.int c11), (.int c12), (.int c13), (.int c14), (.int c15)] (.int (0 : Int32))
set_option maxRecDepth 65536 in
set_option maxHeartbeats 40000000 in
theorem rma1_4 (l : Launch) (Z : State) (a0 : Array Value) (hw : ∀ d ∈ tables_1, d.before a0 Z = true) (ws : List Jvm.Cond) (a1 : Addr) (b1 : Addr) (k1 : ClassId) (c0 : Int32) (c1 : Int32) (c2 : Int32) (c3 : Int32) (c4 : Int32) (c5 : Int32) (c6 : Int32) (c7 : Int32) (c8 : Int32) (c9 : Int32) (c10 : Int32) (c11 : Int32) (c12 : Int32) (c13 : Int32) (c14 : Int32) (c15 : Int32) (h0 : Heap) (n0 : Nat) (Z0 : n0 ≤ h0.size) (EX : Exa Z h0 a1 "com/example/portcullis/portcullis/io/CdrOutput") (FB : Fld Z h0 a1 "com/example/portcullis/portcullis/io/CdrOutput" "buffer" "[B" (.ref b1)) (FS : Fld Z h0 a1 "com/example/portcullis/portcullis/io/CdrOutput" "size" "I" (.int (1 : Int32))) (VA : Arv Z h0 b1 k1 .byte (256 : Int32) [(.int c0), (.int c1), (.int c2), (.int c3), (.int c4), (.int c5), (.int c6), (.int c7), (.int c8), (.int c9), (.int c10), (.int c11), (.int c12), (.int c13), (.int c14), (.int c15)] (.int (0 : Int32))) (gA : n0 ≤ a1) (gB : n0 ≤ b1) (nab : a1 ≠ b1) :
    MetFree l own_y5 (head1 (Jvm.Cond.code own_y5 prog_14_method_14_code 3 none :: ws) own_R2_0_0_48) (fun a U => a = #[(.ref a1), (.int (4 : Int32))] ∧ Z.Warmed39 U.vm ∧ U.heap = h0) (fun _ _ _ _ _ => True) (fun _ U o U' => ∃ v L, o = .returned v ∧ Qa1_4 Z a1 b1 k1 c0 c1 c2 c3 c4 c5 c6 c7 c8 c9 c10 c11 c12 c13 c14 c15 h0 n0 v U'.heap L ∧ FrameEnd U o U' L (own_R2_0_0_48).cells (own_R2_0_0_48).slots) := by
  refine MetFree.of_bodySF (plainFor_of_name pn_0) hisR ?_
  intro p e s m args below meth c s₁ Bd hml0 hP hK
  obtain ⟨rfl, hZ, hh⟩ := hP
  have hx := Bd.exec
  have hby := Bd.bytes
  have hml : c.maxLocals = 3 := hml0
  have hown : s.vm.findClass "com/example/portcullis/portcullis/io/CdrOutput" = some m.cls := findClass_of_methodNamed Bd.named
  have hnm := (name_of_methodNamed Bd.named Bd.method).1
  have hlk : meth.locks = false := BodyLoose.notSynchronized Bd
  have hrt := Bd.returns
  have X0 : Stand p l e own_R2_0_0_48 s m #[(.ref a1), (.int (4 : Int32))] below meth c s₁ [] 0 0 := Stand.of_body Bd
  have e0 : s₁.heap = h0 := by rw [← hh, Bd.state]; rfl
  have N0 := Fr.nil n0
  refine (show Go p e below (fun s₂ o => ∃ v L, o = .returned v ∧ Qa1_4 Z a1 b1 k1 c0 c1 c2 c3 c4 c5 c6 c7 c8 c9 c10 c11 c12 c13 c14 c15 h0 n0 v s₂.heap L ∧ FrameEnd s o s₂ L 0 0) (s₁.setTop (entryFrame m #[(.ref a1), (.int (4 : Int32))] 3)) from ?_)
  rw [efa1_4]
  refine Go.st (U' := s₁.setTop (mkF m 1 #[.val (.ref a1), .val (.int (4 : Int32)), .unset] [(.ref a1)])) (fun t k => ?_) ?_
  · refine XS.aloadN X0.here hx rfl (hb hby d12_0) rfl rfl ?_
    exact k
  obtain ⟨T191, X191, e191, st191⟩ := getF X0 hx hZ hown (host := "") (Or.inl (own_w hw 17 rfl)) Via.refl e0 FS (g := (mkF m 1 #[.val (.ref a1), .val (.int (4 : Int32)), .unset] [(.ref a1)])) rfl rfl (hb hby d12_1)
  refine Go.st (U' := T191.setTop (mkF m 4 #[.val (.ref a1), .val (.int (4 : Int32)), .unset] [(.int (1 : Int32))])) (fun t k => st191 _ k) ?_
  refine Go.st (U' := T191.setTop (mkF m 12 #[.val (.ref a1), .val (.int (4 : Int32)), .val (.int (3 : Int32))] [(.int (3 : Int32)), (.ref a1)])) (fun t k => ?_) ?_
  · refine XS.ineg X191.here hx rfl (hb hby d12_4) rfl ?_
    refine XS.iloadN X191.here hx rfl (hb hby d12_5) rfl ?_
    refine XS.iconst X191.here hx rfl (hb hby d12_6) ?_
    refine XS.isub X191.here hx rfl (hb hby d12_7) rfl ?_
    refine XS.iand X191.here hx rfl (hb hby d12_8) rfl ?_
    refine XS.istoreN X191.here hx rfl (hb hby d12_9) rfl (l' := #[.val (.ref a1), .val (.int (4 : Int32)), .val (.int (3 : Int32))]) rfl ?_
    refine XS.aloadN X191.here hx rfl (hb hby d12_10) rfl rfl ?_
    refine XS.iloadN X191.here hx rfl (hb hby d12_11) rfl ?_
    exact k
  obtain ⟨cq192, q192, q192'⟩ := EX.cell
  obtain ⟨_, _, ⟨T192, L192, k192, n192⟩, -, X192, ⟨Lc192, hQ192, l192, y192, z192⟩, st192⟩ := X191.privateBack hx (y := own_y1) hown (mvT hZ (own_w hw 48 rfl)) (mvT hZ (own_w hw 49 rfl)) (own_selp (y := own_y1) (mvT hZ (own_w hw 1 rfl)) (Cond.privateMethod_at (mvP hZ (own_w hw 50 rfl) (args := #[]))) (mvT hZ (own_w hw 49 rfl)) (by decide)) (Cond.privateMethod_at (mvP hZ (own_w hw 50 rfl) (args := #[]))) (mvT hZ (own_w hw 51 rfl)) (by decide) (backOf (W := 0) (rmr l Z a0 hw [] a1 (3 : Int32) b1 k1 (1 : Int32) [(.int c0), (.int c1), (.int c2), (.int c3), (.int c4), (.int c5), (.int c6), (.int c7), (.int c8), (.int c9), (.int c10), (.int c11), (.int c12), (.int c13), (.int c14), (.int c15)] h0 n0 Z0 FB FS VA (by decide)) hZ (own_w hw 51 rfl) (own_w hw 2 rfl) (by decide) (by decide)) (g := (mkF m 12 #[.val (.ref a1), .val (.int (4 : Int32)), .val (.int (3 : Int32))] [(.int (3 : Int32)), (.ref a1)])) rfl (by rw [hml]; rfl) (Steps.refl _) (a := a1) (by rw [e191]; exact q192) q192' (argsL := [(.int (3 : Int32))]) (rest := []) (lenOf pd_0 rfl) rfl (by show 2 * 0 + _ ≤ _; exact Nat.le_of_eq rfl) (hb hby d12_12) (fun _ _ => ⟨rfl, e191, (by decide : 0 + 0 ≤ _), (by decide : 0 + 0 ≤ _)⟩)
  dsimp only [Pt.U, Pt.locs, Pt.cells, Pt.slots] at X192 l192 y192 z192 st192 hQ192
  subst l192 y192 z192
  obtain ⟨rfl, N192q, e192⟩ := hQ192
  have N192 := Fr.app N0 N192q
  refine Go.tr (U' := T192.setTop (mkF m 15 #[.val (.ref a1), .val (.int (4 : Int32)), .val (.int (3 : Int32))] [])) st192 ?_
  refine Go.st (U' := T192.setTop (mkF m 16 #[.val (.ref a1), .val (.int (4 : Int32)), .val (.int (3 : Int32))] [(.ref a1)])) (fun t k => ?_) ?_
  · refine XS.aloadN X192.here hx rfl (hb hby d12_15) rfl rfl ?_
    exact k
  obtain ⟨T193, X193, e193, st193⟩ := getF X192 hx hZ hown (host := "") (Or.inl (own_w hw 10 rfl)) Via.refl e192 FB (g := (mkF m 16 #[.val (.ref a1), .val (.int (4 : Int32)), .val (.int (3 : Int32))] [(.ref a1)])) rfl rfl (hb hby d12_16)
  refine Go.st (U' := T193.setTop (mkF m 19 #[.val (.ref a1), .val (.int (4 : Int32)), .val (.int (3 : Int32))] [(.ref b1)])) (fun t k => st193 _ k) ?_
  refine Go.st (U' := T193.setTop (mkF m 20 #[.val (.ref a1), .val (.int (4 : Int32)), .val (.int (3 : Int32))] [(.ref a1), (.ref b1)])) (fun t k => ?_) ?_
  · refine XS.aloadN X193.here hx rfl (hb hby d12_19) rfl rfl ?_
    exact k
  obtain ⟨T194, X194, e194, st194⟩ := getF X193 hx hZ hown (host := "") (Or.inl (own_w hw 17 rfl)) Via.refl e193 FS (g := (mkF m 20 #[.val (.ref a1), .val (.int (4 : Int32)), .val (.int (3 : Int32))] [(.ref a1), (.ref b1)])) rfl rfl (hb hby d12_20)
  refine Go.st (U' := T194.setTop (mkF m 23 #[.val (.ref a1), .val (.int (4 : Int32)), .val (.int (3 : Int32))] [(.int (1 : Int32)), (.ref b1)])) (fun t k => st194 _ k) ?_
  refine Go.st (U' := T194.setTop (mkF m 24 #[.val (.ref a1), .val (.int (4 : Int32)), .val (.int (3 : Int32))] [(.ref a1), (.int (1 : Int32)), (.ref b1)])) (fun t k => ?_) ?_
  · refine XS.aloadN X194.here hx rfl (hb hby d12_23) rfl rfl ?_
    exact k
  obtain ⟨T195, X195, e195, st195⟩ := getF X194 hx hZ hown (host := "") (Or.inl (own_w hw 17 rfl)) Via.refl e194 FS (g := (mkF m 24 #[.val (.ref a1), .val (.int (4 : Int32)), .val (.int (3 : Int32))] [(.ref a1), (.int (1 : Int32)), (.ref b1)])) rfl rfl (hb hby d12_24)
  refine Go.st (U' := T195.setTop (mkF m 27 #[.val (.ref a1), .val (.int (4 : Int32)), .val (.int (3 : Int32))] [(.int (1 : Int32)), (.int (1 : Int32)), (.ref b1)])) (fun t k => st195 _ k) ?_
  refine Go.st (U' := T195.setTop (mkF m 30 #[.val (.ref a1), .val (.int (4 : Int32)), .val (.int (3 : Int32))] [(.int (0 : Int32)), (.int (4 : Int32)), (.int (1 : Int32)), (.ref b1)])) (fun t k => ?_) ?_
  · refine XS.iloadN X195.here hx rfl (hb hby d12_27) rfl ?_
    refine XS.iadd X195.here hx rfl (hb hby d12_28) rfl ?_
    refine XS.iconst X195.here hx rfl (hb hby d12_29) ?_
    exact k
  obtain ⟨_, _, ⟨T196, L196, k196, n196⟩, -, X196, ⟨Lc196, hQ196, l196, y196, z196⟩, st196⟩ := Jvm.LawKit.callS X195 hx (y := own_y4) hown (mvT hZ (own_w hw 62 rfl)) (mvT hZ (own_w hw 63 rfl)) (mvT hZ (own_w hw 21 rfl)) (mvT hZ (own_w hw 64 rfl)) (by decide) (backOf (W := 0) (rmf1_4 l Z a0 hw [] b1 k1 c0 c1 c2 c3 c4 c5 c6 c7 c8 c9 c10 c11 c12 c13 c14 c15 h0 n0 Z0 VA gB) hZ (own_w hw 64 rfl) (own_w hw 21 rfl) (by decide) (by decide)) (g := (mkF m 30 #[.val (.ref a1), .val (.int (4 : Int32)), .val (.int (3 : Int32))] [(.int (0 : Int32)), (.int (4 : Int32)), (.int (1 : Int32)), (.ref b1)])) rfl (by rw [hml]; rfl) (argsL := [(.ref b1), (.int (1 : Int32)), (.int (4 : Int32)), (.int (0 : Int32))]) (rest := []) (lenOf pd_2 rfl) rfl (by show 2 * 0 + _ ≤ _; exact Nat.le_of_eq rfl) (hb hby d12_30) (fun _ _ => ⟨rfl, e195, (by decide : 0 + 0 ≤ _), (by decide : 0 + 0 ≤ _)⟩)
  dsimp only [Pt.U, Pt.locs, Pt.cells, Pt.slots] at X196 l196 y196 z196 st196 hQ196
  subst l196 y196 z196
  obtain ⟨rfl, N196q, K196, P196_0⟩ := hQ196
  have KK196 : Keep h0 T196.heap [a1, b1] := (Keep.refl h0 [a1, b1]).trans K196 (allS (Or.inl (List.mem_of_getElem? (i := 1) rfl)) all0)
  have EX_196 := EX.keep K196
  have FB_196 := FB.keep K196 (ninS nab nin0)
  have FS_196 := FS.keep K196 (ninS nab nin0)
  have sz196 : n0 ≤ T196.heap.size := Nat.le_trans Z0 K196.1
  have N196 := Fr.app N192 N196q
  refine Go.st (U' := T196.setTop (mkF m 33 #[.val (.ref a1), .val (.int (4 : Int32)), .val (.int (3 : Int32))] [])) (fun t k => st196 _ k) ?_
  refine Go.st (U' := T196.setTop (mkF m 35 #[.val (.ref a1), .val (.int (4 : Int32)), .val (.int (3 : Int32))] [(.ref a1), (.ref a1)])) (fun t k => ?_) ?_
  · refine XS.aloadN X196.here hx rfl (hb hby d12_33) rfl rfl ?_
    refine XS.dup X196.here hx rfl (hb hby d12_34) rfl rfl ?_
    exact k
  obtain ⟨T197, X197, e197, st197⟩ := getF X196 hx hZ hown (host := "") (Or.inl (own_w hw 17 rfl)) Via.refl rfl FS_196 (g := (mkF m 35 #[.val (.ref a1), .val (.int (4 : Int32)), .val (.int (3 : Int32))] [(.ref a1), (.ref a1)])) rfl rfl (hb hby d12_35)
  refine Go.st (U' := T197.setTop (mkF m 38 #[.val (.ref a1), .val (.int (4 : Int32)), .val (.int (3 : Int32))] [(.int (1 : Int32)), (.ref a1)])) (fun t k => st197 _ k) ?_
  refine Go.st (U' := T197.setTop (mkF m 40 #[.val (.ref a1), .val (.int (4 : Int32)), .val (.int (3 : Int32))] [(.int (4 : Int32)), (.ref a1)])) (fun t k => ?_) ?_
  · refine XS.iloadN X197.here hx rfl (hb hby d12_38) rfl ?_
    refine XS.iadd X197.here hx rfl (hb hby d12_39) rfl ?_
    exact k
  obtain ⟨T198, h198, X198, e198, W198, st198⟩ := putF X197 hx hZ hown (host := "") (Or.inl (own_w hw 17 rfl)) Via.refl e197 FS_196 EX_196 (Or.inl (own_w hw 18 rfl)) (own_w hw 1 rfl) (ty := .int) (by decide) rfl rfl (g := (mkF m 40 #[.val (.ref a1), .val (.int (4 : Int32)), .val (.int (3 : Int32))] [(.int (4 : Int32)), (.ref a1)])) rfl rfl (hb hby d12_40)
  have F198 := FS_196.same W198
  have EX_198 := EX_196.wr W198
  have FB_198 := FB_196.other W198 (Or.inr (slot_ne (Or.inl (own_w hw 11 rfl)) (Or.inl (own_w hw 18 rfl)) (by decide) (t := (.array .byte)) (t' := .int) (by decide) (by decide)))
  have P196_0_198 := P196_0.other W198 (Ne.symm nab)
  have N198 := Fr.snoc X198 N196 gA
  have KK198 : Keep h0 h198 [a1, b1] := KK196.wr W198 (Or.inl (List.mem_of_getElem? (i := 0) rfl))
  have sz198 : n0 ≤ h198.size := Nat.le_trans sz196 (Nat.le_of_eq W198.size.symm)
  refine Go.st (U' := T198.setTop (mkF m 43 #[.val (.ref a1), .val (.int (4 : Int32)), .val (.int (3 : Int32))] [])) (fun t k => st198 _ k) ?_
  refine own_ret (Q := Qa1_4 Z a1 b1 k1 c0 c1 c2 c3 c4 c5 c6 c7 c8 c9 c10 c11 c12 c13 c14 c15 h0 n0) (v := none) X198 hlk (fun _ => rfl) (by decide) (by decide) ?_ (fun fs hr => X198.returnOut hx hrt (hb hby d12_43) hr)
  rw [e198]
  exact ⟨rfl, N198, KK198, EX_198, FB_198, F198, P196_0_198⟩
theorem efp4_4 (m : MethodId) (a1 : Addr) (p3 : Int32) : entryFrame m #[(.ref a1), (.int (4 : Int32)), (.int p3)] 3 = mkF m 0 #[.val (.ref a1), .val (.int (4 : Int32)), .val (.int p3)] [] := by first | (simp [entryFrame, mkF, argsToLocals, Value.category]; done) | rfl
def Qp4_4 (Z : State) (a1 : Addr) (b1 : Addr) (k1 : ClassId) (c0 : Int32) (c1 : Int32) (c2 : Int32) (c3 : Int32) (c4 : Int32) (c5 : Int32) (c6 : Int32) (c7 : Int32) (c8 : Int32) (c9 : Int32) (c10 : Int32) (c11 : Int32) (c12 : Int32) (c13 : Int32) (c14 : Int32) (c15 : Int32) (p3 : Int32) (h0 : Heap) (n0 : Nat) (v : Option Value) (h : Heap) (L : List Loc) : Prop := v = none ∧ Fr n0 L ∧ Keep h0 h [a1, b1] ∧ Exa Z h a1 "com/example/portcullis/portcullis/io/CdrOutput" ∧ Fld Z h a1 "com/example/portcullis/portcullis/io/CdrOutput" "buffer" "[B" (.ref b1) ∧ Fld Z h a1 "com/example/portcullis/portcullis/io/CdrOutput" "size" "I" (.int (4 : Int32)) ∧ Arv Z h b1 k1 .byte (256 : Int32) [(.int c0), (.int c1), (.int c2), (.int c3), (.int (own_b3 p3)), (.int (own_b2 p3)), (.int (own_b1 p3)), (.int (own_b0 p3)), (.int c8), (.int c9), (.int c10), (.int c11), (.int c12), (.int c13), (.int c14), (.int c15)] (.int (0 : Int32))
set_option maxRecDepth 65536 in
set_option maxHeartbeats 40000000 in
theorem rmp4_4 (l : Launch) (Z : State) (a0 : Array Value) (hw : ∀ d ∈ tables_1, d.before a0 Z = true) (ws : List Jvm.Cond) (a1 : Addr) (b1 : Addr) (k1 : ClassId) (c0 : Int32) (c1 : Int32) (c2 : Int32) (c3 : Int32) (c4 : Int32) (c5 : Int32) (c6 : Int32) (c7 : Int32) (c8 : Int32) (c9 : Int32) (c10 : Int32) (c11 : Int32) (c12 : Int32) (c13 : Int32) (c14 : Int32) (c15 : Int32) (p3 : Int32) (h0 : Heap) (n0 : Nat) (Z0 : n0 ≤ h0.size) (EX : Exa Z h0 a1 "com/example/portcullis/portcullis/io/CdrOutput") (FB : Fld Z h0 a1 "com/example/portcullis/portcullis/io/CdrOutput" "buffer" "[B" (.ref b1)) (FS : Fld Z h0 a1 "com/example/portcullis/portcullis/io/CdrOutput" "size" "I" (.int (4 : Int32))) (VA : Arv Z h0 b1 k1 .byte (256 : Int32) [(.int c0), (.int c1), (.int c2), (.int c3), (.int c4), (.int c5), (.int c6), (.int c7), (.int c8), (.int c9), (.int c10), (.int c11), (.int c12), (.int c13), (.int c14), (.int c15)] (.int (0 : Int32))) (gA : n0 ≤ a1) (gB : n0 ≤ b1) (nab : a1 ≠ b1) :
    MetFree l own_y7 (head1 (Jvm.Cond.code own_y7 prog_14_method_19_code 3 none :: ws) own_R0_0_0_0) (fun a U => a = #[(.ref a1), (.int (4 : Int32)), (.int p3)] ∧ Z.Warmed39 U.vm ∧ U.heap = h0) (fun _ _ _ _ _ => True) (fun _ U o U' => ∃ v L, o = .returned v ∧ Qp4_4 Z a1 b1 k1 c0 c1 c2 c3 c4 c5 c6 c7 c8 c9 c10 c11 c12 c13 c14 c15 p3 h0 n0 v U'.heap L ∧ FrameEnd U o U' L (own_R0_0_0_0).cells (own_R0_0_0_0).slots) := by
  refine MetFree.of_bodySF (plainFor_of_name pn_0) hisR ?_
  intro p e s m args below meth c s₁ Bd hml0 hP hK
  obtain ⟨rfl, hZ, hh⟩ := hP
  have hx := Bd.exec
  have hby := Bd.bytes
  have hml : c.maxLocals = 3 := hml0
  have hown : s.vm.findClass "com/example/portcullis/portcullis/io/CdrOutput" = some m.cls := findClass_of_methodNamed Bd.named
  have hnm := (name_of_methodNamed Bd.named Bd.method).1
  have hlk : meth.locks = false := BodyLoose.notSynchronized Bd
  have hrt := Bd.returns
  have X0 : Stand p l e own_R0_0_0_0 s m #[(.ref a1), (.int (4 : Int32)), (.int p3)] below meth c s₁ [] 0 0 := Stand.of_body Bd
  have e0 : s₁.heap = h0 := by rw [← hh, Bd.state]; rfl
  have N0 := Fr.nil n0
  refine (show Go p e below (fun s₂ o => ∃ v L, o = .returned v ∧ Qp4_4 Z a1 b1 k1 c0 c1 c2 c3 c4 c5 c6 c7 c8 c9 c10 c11 c12 c13 c14 c15 p3 h0 n0 v s₂.heap L ∧ FrameEnd s o s₂ L 0 0) (s₁.setTop (entryFrame m #[(.ref a1), (.int (4 : Int32)), (.int p3)] 3)) from ?_)
  rw [efp4_4]
  refine Go.st (U' := s₁.setTop (mkF m 1 #[.val (.ref a1), .val (.int (4 : Int32)), .val (.int p3)] [(.ref a1)])) (fun t k => ?_) ?_
  · refine XS.aloadN X0.here hx rfl (hb hby d16_0) rfl rfl ?_
    exact k
  obtain ⟨T199, X199, e199, st199⟩ := getF X0 hx hZ hown (host := "") (Or.inl (own_w hw 10 rfl)) Via.refl e0 FB (g := (mkF m 1 #[.val (.ref a1), .val (.int (4 : Int32)), .val (.int p3)] [(.ref a1)])) rfl rfl (hb hby d16_1)
  refine Go.st (U' := T199.setTop (mkF m 4 #[.val (.ref a1), .val (.int (4 : Int32)), .val (.int p3)] [(.ref b1)])) (fun t k => st199 _ k) ?_
  refine Go.st (U' := T199.setTop (mkF m 10 #[.val (.ref a1), .val (.int (4 : Int32)), .val (.int p3)] [(.int (((p3.toUInt32 >>> ((24 : Int32) &&& 31).toUInt32).toInt32).toInt8.toInt32)), (.int (4 : Int32)), (.ref b1)])) (fun t k => ?_) ?_
  · refine XS.iloadN X199.here hx rfl (hb hby d16_4) rfl ?_
    refine XS.iloadN X199.here hx rfl (hb hby d16_5) rfl ?_
    refine XS.bipush X199.here hx rfl (hb hby d16_6) ?_
    refine XS.iushr X199.here hx rfl (hb hby d16_8) rfl ?_
    refine XS.i2b X199.here hx rfl (hb hby d16_9) rfl ?_
    exact k
  obtain ⟨cl201, Ar201, q201, S201, N201, H201, G201⟩ := id VA
  obtain ⟨T200, h200, X200, e200, W200, st200⟩ := stB X199 hx hZ e199 Ar201 (j := (4 : Int32)) (inb_of (j := (4 : Int32)) S201 ⟨by decide, by decide⟩) (g := (mkF m 10 #[.val (.ref a1), .val (.int (4 : Int32)), .val (.int p3)] [(.int (((p3.toUInt32 >>> ((24 : Int32) &&& 31).toUInt32).toInt32).toInt8.toInt32)), (.int (4 : Int32)), (.ref b1)])) rfl rfl (hb hby d16_10)
  have VA_200 := Arv.set Ar201 q201 S201 N201 H201 G201 (fits_nar_byte _) W200 4 rfl (Nat.le_of_ble_eq_true rfl)
  have EX_200 := EX.wr W200
  have FB_200 := FB.other W200 (Or.inl nab)
  have FS_200 := FS.other W200 (Or.inl nab)
  have N200 := Fr.snoc X200 N0 gB
  have KK200 : Keep h0 h200 [a1, b1] := (Keep.refl h0 [a1, b1]).wr W200 (Or.inl (List.mem_of_getElem? (i := 1) rfl))
  have sz200 : n0 ≤ h200.size := Nat.le_trans Z0 (Nat.le_of_eq W200.size.symm)
  refine Go.st (U' := T200.setTop (mkF m 11 #[.val (.ref a1), .val (.int (4 : Int32)), .val (.int p3)] [])) (fun t k => st200 _ k) ?_
  refine Go.st (U' := T200.setTop (mkF m 12 #[.val (.ref a1), .val (.int (4 : Int32)), .val (.int p3)] [(.ref a1)])) (fun t k => ?_) ?_
  · refine XS.aloadN X200.here hx rfl (hb hby d16_11) rfl rfl ?_
    exact k
  obtain ⟨T202, X202, e202, st202⟩ := getF X200 hx hZ hown (host := "") (Or.inl (own_w hw 10 rfl)) Via.refl e200 FB_200 (g := (mkF m 12 #[.val (.ref a1), .val (.int (4 : Int32)), .val (.int p3)] [(.ref a1)])) rfl rfl (hb hby d16_12)
  refine Go.st (U' := T202.setTop (mkF m 15 #[.val (.ref a1), .val (.int (4 : Int32)), .val (.int p3)] [(.ref b1)])) (fun t k => st202 _ k) ?_
  refine Go.st (U' := T202.setTop (mkF m 23 #[.val (.ref a1), .val (.int (4 : Int32)), .val (.int p3)] [(.int (((p3.toUInt32 >>> ((16 : Int32) &&& 31).toUInt32).toInt32).toInt8.toInt32)), (.int (5 : Int32)), (.ref b1)])) (fun t k => ?_) ?_
  · refine XS.iloadN X202.here hx rfl (hb hby d16_15) rfl ?_
    refine XS.iconst X202.here hx rfl (hb hby d16_16) ?_
    refine XS.iadd X202.here hx rfl (hb hby d16_17) rfl ?_
    refine XS.iloadN X202.here hx rfl (hb hby d16_18) rfl ?_
    refine XS.bipush X202.here hx rfl (hb hby d16_19) ?_
    refine XS.iushr X202.here hx rfl (hb hby d16_21) rfl ?_
    refine XS.i2b X202.here hx rfl (hb hby d16_22) rfl ?_
    exact k
  obtain ⟨cl204, Ar204, q204, S204, N204, H204, G204⟩ := id VA_200
  obtain ⟨T203, h203, X203, e203, W203, st203⟩ := stB X202 hx hZ e202 Ar204 (j := (5 : Int32)) (inb_of (j := (5 : Int32)) S204 ⟨by decide, by decide⟩) (g := (mkF m 23 #[.val (.ref a1), .val (.int (4 : Int32)), .val (.int p3)] [(.int (((p3.toUInt32 >>> ((16 : Int32) &&& 31).toUInt32).toInt32).toInt8.toInt32)), (.int (5 : Int32)), (.ref b1)])) rfl rfl (hb hby d16_23)
  have VA_203 := Arv.set Ar204 q204 S204 N204 H204 G204 (fits_nar_byte _) W203 5 rfl (Nat.le_of_ble_eq_true rfl)
  have EX_203 := EX_200.wr W203
  have FB_203 := FB_200.other W203 (Or.inl nab)
  have FS_203 := FS_200.other W203 (Or.inl nab)
  have N203 := Fr.snoc X203 N200 gB
  have KK203 : Keep h0 h203 [a1, b1] := KK200.wr W203 (Or.inl (List.mem_of_getElem? (i := 1) rfl))
  have sz203 : n0 ≤ h203.size := Nat.le_trans sz200 (Nat.le_of_eq W203.size.symm)
  refine Go.st (U' := T203.setTop (mkF m 24 #[.val (.ref a1), .val (.int (4 : Int32)), .val (.int p3)] [])) (fun t k => st203 _ k) ?_
  refine Go.st (U' := T203.setTop (mkF m 25 #[.val (.ref a1), .val (.int (4 : Int32)), .val (.int p3)] [(.ref a1)])) (fun t k => ?_) ?_
  · refine XS.aloadN X203.here hx rfl (hb hby d16_24) rfl rfl ?_
    exact k
  obtain ⟨T205, X205, e205, st205⟩ := getF X203 hx hZ hown (host := "") (Or.inl (own_w hw 10 rfl)) Via.refl e203 FB_203 (g := (mkF m 25 #[.val (.ref a1), .val (.int (4 : Int32)), .val (.int p3)] [(.ref a1)])) rfl rfl (hb hby d16_25)
  refine Go.st (U' := T205.setTop (mkF m 28 #[.val (.ref a1), .val (.int (4 : Int32)), .val (.int p3)] [(.ref b1)])) (fun t k => st205 _ k) ?_
  refine Go.st (U' := T205.setTop (mkF m 36 #[.val (.ref a1), .val (.int (4 : Int32)), .val (.int p3)] [(.int (((p3.toUInt32 >>> ((8 : Int32) &&& 31).toUInt32).toInt32).toInt8.toInt32)), (.int (6 : Int32)), (.ref b1)])) (fun t k => ?_) ?_
  · refine XS.iloadN X205.here hx rfl (hb hby d16_28) rfl ?_
    refine XS.iconst X205.here hx rfl (hb hby d16_29) ?_
    refine XS.iadd X205.here hx rfl (hb hby d16_30) rfl ?_
    refine XS.iloadN X205.here hx rfl (hb hby d16_31) rfl ?_
    refine XS.bipush X205.here hx rfl (hb hby d16_32) ?_
    refine XS.iushr X205.here hx rfl (hb hby d16_34) rfl ?_
    refine XS.i2b X205.here hx rfl (hb hby d16_35) rfl ?_
    exact k
  obtain ⟨cl207, Ar207, q207, S207, N207, H207, G207⟩ := id VA_203
  obtain ⟨T206, h206, X206, e206, W206, st206⟩ := stB X205 hx hZ e205 Ar207 (j := (6 : Int32)) (inb_of (j := (6 : Int32)) S207 ⟨by decide, by decide⟩) (g := (mkF m 36 #[.val (.ref a1), .val (.int (4 : Int32)), .val (.int p3)] [(.int (((p3.toUInt32 >>> ((8 : Int32) &&& 31).toUInt32).toInt32).toInt8.toInt32)), (.int (6 : Int32)), (.ref b1)])) rfl rfl (hb hby d16_36)
  have VA_206 := Arv.set Ar207 q207 S207 N207 H207 G207 (fits_nar_byte _) W206 6 rfl (Nat.le_of_ble_eq_true rfl)
  have EX_206 := EX_203.wr W206
  have FB_206 := FB_203.other W206 (Or.inl nab)
  have FS_206 := FS_203.other W206 (Or.inl nab)
  have N206 := Fr.snoc X206 N203 gB
  have KK206 : Keep h0 h206 [a1, b1] := KK203.wr W206 (Or.inl (List.mem_of_getElem? (i := 1) rfl))
  have sz206 : n0 ≤ h206.size := Nat.le_trans sz203 (Nat.le_of_eq W206.size.symm)
  refine Go.st (U' := T206.setTop (mkF m 37 #[.val (.ref a1), .val (.int (4 : Int32)), .val (.int p3)] [])) (fun t k => st206 _ k) ?_
  refine Go.st (U' := T206.setTop (mkF m 38 #[.val (.ref a1), .val (.int (4 : Int32)), .val (.int p3)] [(.ref a1)])) (fun t k => ?_) ?_
  · refine XS.aloadN X206.here hx rfl (hb hby d16_37) rfl rfl ?_
    exact k
  obtain ⟨T208, X208, e208, st208⟩ := getF X206 hx hZ hown (host := "") (Or.inl (own_w hw 10 rfl)) Via.refl e206 FB_206 (g := (mkF m 38 #[.val (.ref a1), .val (.int (4 : Int32)), .val (.int p3)] [(.ref a1)])) rfl rfl (hb hby d16_38)
  refine Go.st (U' := T208.setTop (mkF m 41 #[.val (.ref a1), .val (.int (4 : Int32)), .val (.int p3)] [(.ref b1)])) (fun t k => st208 _ k) ?_
  refine Go.st (U' := T208.setTop (mkF m 46 #[.val (.ref a1), .val (.int (4 : Int32)), .val (.int p3)] [(.int (p3.toInt8.toInt32)), (.int (7 : Int32)), (.ref b1)])) (fun t k => ?_) ?_
  · refine XS.iloadN X208.here hx rfl (hb hby d16_41) rfl ?_
    refine XS.iconst X208.here hx rfl (hb hby d16_42) ?_
    refine XS.iadd X208.here hx rfl (hb hby d16_43) rfl ?_
    refine XS.iloadN X208.here hx rfl (hb hby d16_44) rfl ?_
    refine XS.i2b X208.here hx rfl (hb hby d16_45) rfl ?_
    exact k
  obtain ⟨cl210, Ar210, q210, S210, N210, H210, G210⟩ := id VA_206
  obtain ⟨T209, h209, X209, e209, W209, st209⟩ := stB X208 hx hZ e208 Ar210 (j := (7 : Int32)) (inb_of (j := (7 : Int32)) S210 ⟨by decide, by decide⟩) (g := (mkF m 46 #[.val (.ref a1), .val (.int (4 : Int32)), .val (.int p3)] [(.int (p3.toInt8.toInt32)), (.int (7 : Int32)), (.ref b1)])) rfl rfl (hb hby d16_46)
  have VA_209 := Arv.set Ar210 q210 S210 N210 H210 G210 (fits_nar_byte _) W209 7 rfl (Nat.le_of_ble_eq_true rfl)
  have EX_209 := EX_206.wr W209
  have FB_209 := FB_206.other W209 (Or.inl nab)
  have FS_209 := FS_206.other W209 (Or.inl nab)
  have N209 := Fr.snoc X209 N206 gB
  have KK209 : Keep h0 h209 [a1, b1] := KK206.wr W209 (Or.inl (List.mem_of_getElem? (i := 1) rfl))
  have sz209 : n0 ≤ h209.size := Nat.le_trans sz206 (Nat.le_of_eq W209.size.symm)
  refine Go.st (U' := T209.setTop (mkF m 47 #[.val (.ref a1), .val (.int (4 : Int32)), .val (.int p3)] [])) (fun t k => st209 _ k) ?_
  refine own_ret (Q := Qp4_4 Z a1 b1 k1 c0 c1 c2 c3 c4 c5 c6 c7 c8 c9 c10 c11 c12 c13 c14 c15 p3 h0 n0) (v := none) X209 hlk (fun _ => rfl) (by decide) (by decide) ?_ (fun fs hr => X209.returnOut hx hrt (hb hby d16_47) hr)
  rw [e209]
  exact ⟨rfl, N209, KK209, EX_209, FB_209, FS_209, VA_209⟩
theorem efn1 (m : MethodId) (a1 : Addr) (p2 : Int32) : entryFrame m #[(.ref a1), (.int p2)] 2 = mkF m 0 #[.val (.ref a1), .val (.int p2)] [] := by first | (simp [entryFrame, mkF, argsToLocals, Value.category]; done) | rfl
def Qn1 (Z : State) (a1 : Addr) (b1 : Addr) (k1 : ClassId) (c0 : Int32) (c1 : Int32) (c2 : Int32) (c3 : Int32) (c4 : Int32) (c5 : Int32) (c6 : Int32) (c7 : Int32) (c8 : Int32) (c9 : Int32) (c10 : Int32) (c11 : Int32) (c12 : Int32) (c13 : Int32) (c14 : Int32) (c15 : Int32) (p2 : Int32) (h0 : Heap) (n0 : Nat) (v : Option Value) (h : Heap) (L : List Loc) : Prop := v = none ∧ Fr n0 L ∧ Keep h0 h [a1, b1] ∧ Exa Z h a1 "com/example/portcullis/portcullis/io/CdrOutput" ∧ Fld Z h a1 "com/example/portcullis/portcullis/io/CdrOutput" "buffer" "[B" (.ref b1) ∧ Fld Z h a1 "com/example/portcullis/portcullis/io/CdrOutput" "size" "I" (.int (8 : Int32)) ∧ Arv Z h b1 k1 .byte (256 : Int32) [(.int c0), (.int (0 : Int32)), (.int (0 : Int32)), (.int (0 : Int32)), (.int (own_b3 p2)), (.int (own_b2 p2)), (.int (own_b1 p2)), (.int (own_b0 p2)), (.int c8), (.int c9), (.int c10), (.int c11), (.int c12), (.int c13), (.int c14), (.int c15)] (.int (0 : Int32))
set_option maxRecDepth 65536 in
set_option maxHeartbeats 40000000 in
theorem rmn1 (l : Launch) (Z : State) (a0 : Array Value) (hw : ∀ d ∈ tables_1, d.before a0 Z = true) (ws : List Jvm.Cond) (a1 : Addr) (b1 : Addr) (k1 : ClassId) (c0 : Int32) (c1 : Int32) (c2 : Int32) (c3 : Int32) (c4 : Int32) (c5 : Int32) (c6 : Int32) (c7 : Int32) (c8 : Int32) (c9 : Int32) (c10 : Int32) (c11 : Int32) (c12 : Int32) (c13 : Int32) (c14 : Int32) (c15 : Int32) (p2 : Int32) (h0 : Heap) (n0 : Nat) (Z0 : n0 ≤ h0.size) (EX : Exa Z h0 a1 "com/example/portcullis/portcullis/io/CdrOutput") (FB : Fld Z h0 a1 "com/example/portcullis/portcullis/io/CdrOutput" "buffer" "[B" (.ref b1)) (FS : Fld Z h0 a1 "com/example/portcullis/portcullis/io/CdrOutput" "size" "I" (.int (1 : Int32))) (VA : Arv Z h0 b1 k1 .byte (256 : Int32) [(.int c0), (.int c1), (.int c2), (.int c3), (.int c4), (.int c5), (.int c6), (.int c7), (.int c8), (.int c9), (.int c10), (.int c11), (.int c12), (.int c13), (.int c14), (.int c15)] (.int (0 : Int32))) (gA : n0 ≤ a1) (gB : n0 ≤ b1) (nab : a1 ≠ b1) :
    MetFree l own_y8 (head1 (Jvm.Cond.code own_y8 prog_14_method_5_code 2 none :: ws) own_R3_0_0_80) (fun a U => a = #[(.ref a1), (.int p2)] ∧ Z.Warmed39 U.vm ∧ U.heap = h0) (fun _ _ _ _ _ => True) (fun _ U o U' => ∃ v L, o = .returned v ∧ Qn1 Z a1 b1 k1 c0 c1 c2 c3 c4 c5 c6 c7 c8 c9 c10 c11 c12 c13 c14 c15 p2 h0 n0 v U'.heap L ∧ FrameEnd U o U' L (own_R3_0_0_80).cells (own_R3_0_0_80).slots) := by
  refine MetFree.of_bodySF (plainFor_of_name pn_0) hisR ?_
  intro p e s m args below meth c s₁ Bd hml0 hP hK
  obtain ⟨rfl, hZ, hh⟩ := hP
  have hx := Bd.exec
  have hby := Bd.bytes
  have hml : c.maxLocals = 2 := hml0
  have hown : s.vm.findClass "com/example/portcullis/portcullis/io/CdrOutput" = some m.cls := findClass_of_methodNamed Bd.named
  have hnm := (name_of_methodNamed Bd.named Bd.method).1
  have hlk : meth.locks = false := BodyLoose.notSynchronized Bd
  have hrt := Bd.returns
  have X0 : Stand p l e own_R3_0_0_80 s m #[(.ref a1), (.int p2)] below meth c s₁ [] 0 0 := Stand.of_body Bd
  have e0 : s₁.heap = h0 := by rw [← hh, Bd.state]; rfl
  have N0 := Fr.nil n0
  refine (show Go p e below (fun s₂ o => ∃ v L, o = .returned v ∧ Qn1 Z a1 b1 k1 c0 c1 c2 c3 c4 c5 c6 c7 c8 c9 c10 c11 c12 c13 c14 c15 p2 h0 n0 v s₂.heap L ∧ FrameEnd s o s₂ L 0 0) (s₁.setTop (entryFrame m #[(.ref a1), (.int p2)] 2)) from ?_)
  rw [efn1]
  refine Go.st (U' := s₁.setTop (mkF m 2 #[.val (.ref a1), .val (.int p2)] [(.int (4 : Int32)), (.ref a1)])) (fun t k => ?_) ?_
  · refine XS.aloadN X0.here hx rfl (hb hby d18_0) rfl rfl ?_
    refine XS.iconst X0.here hx rfl (hb hby d18_1) ?_
    exact k
  obtain ⟨cq211, kq211, q211a, q211b, q211c⟩ := isOf hZ e0 EX
  obtain ⟨_, _, ⟨T211, L211, k211, n211⟩, -, X211, ⟨Lc211, hQ211, l211, y211, z211⟩, st211⟩ := X0.virtualBack hx (y := own_y5) (z := own_y5) hown (mvT hZ (own_w hw 57 rfl)) (mvT hZ (own_w hw 58 rfl)) (notFace_of_selects (args := #[]) (mvT hZ (own_w hw 60 rfl))) (mvT hZ (own_w hw 60 rfl)) (mvT hZ (own_w hw 59 rfl)) (by decide) (backOf (W := 0) (rma1_4 l Z a0 hw [] a1 b1 k1 c0 c1 c2 c3 c4 c5 c6 c7 c8 c9 c10 c11 c12 c13 c14 c15 h0 n0 Z0 EX FB FS VA gA gB nab) hZ (own_w hw 61 rfl) (own_w hw 2 rfl) (by decide) (by decide)) q211a q211c (g := (mkF m 2 #[.val (.ref a1), .val (.int p2)] [(.int (4 : Int32)), (.ref a1)])) rfl (by rw [hml]; rfl) (Steps.refl _) (argsL := [(.int (4 : Int32))]) (rest := []) (lenOf pd_0 rfl) rfl (by show 2 * 0 + _ ≤ _; exact Nat.le_of_eq rfl) (hb hby d18_2) (fun _ _ => ⟨rfl, e0, (by decide : 0 + 0 ≤ _), (by decide : 0 + 0 ≤ _)⟩)
  dsimp only [Pt.U, Pt.locs, Pt.cells, Pt.slots] at X211 l211 y211 z211 st211 hQ211
  subst l211 y211 z211
  obtain ⟨rfl, N211q, K211, PE211, PV211, PZ211, PA211⟩ := hQ211
  have KK211 : Keep h0 T211.heap [a1, b1] := (Keep.refl h0 [a1, b1]).trans K211 (allS (Or.inl (List.mem_of_getElem? (i := 0) rfl)) (allS (Or.inl (List.mem_of_getElem? (i := 1) rfl)) all0))
  have EX_211 := EX.keep K211
  have sz211 : n0 ≤ T211.heap.size := Nat.le_trans Z0 K211.1
  have N211 := Fr.app N0 N211q
  refine Go.tr (U' := T211.setTop (mkF m 5 #[.val (.ref a1), .val (.int p2)] [])) st211 ?_
  refine Go.st (U' := T211.setTop (mkF m 7 #[.val (.ref a1), .val (.int p2)] [(.int (4 : Int32)), (.ref a1)])) (fun t k => ?_) ?_
  · refine XS.aloadN X211.here hx rfl (hb hby d18_5) rfl rfl ?_
    refine XS.iconst X211.here hx rfl (hb hby d18_6) ?_
    exact k
  obtain ⟨cq212, q212, q212'⟩ := PE211.cell
  obtain ⟨_, _, ⟨T212, L212, k212, n212⟩, -, X212, ⟨Lc212, hQ212, l212, y212, z212⟩, st212⟩ := X211.privateBack hx (y := own_y1) hown (mvT hZ (own_w hw 48 rfl)) (mvT hZ (own_w hw 49 rfl)) (own_selp (y := own_y1) (mvT hZ (own_w hw 1 rfl)) (Cond.privateMethod_at (mvP hZ (own_w hw 50 rfl) (args := #[]))) (mvT hZ (own_w hw 49 rfl)) (by decide)) (Cond.privateMethod_at (mvP hZ (own_w hw 50 rfl) (args := #[]))) (mvT hZ (own_w hw 51 rfl)) (by decide) (backOf (W := 0) (rmr l Z a0 hw [] a1 (4 : Int32) b1 k1 (4 : Int32) [(.int c0), (.int (0 : Int32)), (.int (0 : Int32)), (.int (0 : Int32)), (.int c4), (.int c5), (.int c6), (.int c7), (.int c8), (.int c9), (.int c10), (.int c11), (.int c12), (.int c13), (.int c14), (.int c15)] T211.heap n0 sz211 PV211 PZ211 PA211 (by decide)) hZ (own_w hw 51 rfl) (own_w hw 2 rfl) (by decide) (by decide)) (g := (mkF m 7 #[.val (.ref a1), .val (.int p2)] [(.int (4 : Int32)), (.ref a1)])) rfl (by rw [hml]; rfl) (Steps.refl _) (a := a1) q212 q212' (argsL := [(.int (4 : Int32))]) (rest := []) (lenOf pd_0 rfl) rfl (by show 2 * 0 + _ ≤ _; exact Nat.le_of_eq rfl) (hb hby d18_7) (fun _ _ => ⟨rfl, rfl, (by decide : 0 + 0 ≤ _), (by decide : 0 + 0 ≤ _)⟩)
  dsimp only [Pt.U, Pt.locs, Pt.cells, Pt.slots] at X212 l212 y212 z212 st212 hQ212
  subst l212 y212 z212
  obtain ⟨rfl, N212q, e212⟩ := hQ212
  have N212 := Fr.app N211 N212q
  refine Go.tr (U' := T212.setTop (mkF m 10 #[.val (.ref a1), .val (.int p2)] [])) st212 ?_
  refine Go.st (U' := T212.setTop (mkF m 12 #[.val (.ref a1), .val (.int p2)] [(.ref a1), (.ref a1)])) (fun t k => ?_) ?_
  · refine XS.aloadN X212.here hx rfl (hb hby d18_10) rfl rfl ?_
    refine XS.aloadN X212.here hx rfl (hb hby d18_11) rfl rfl ?_
    exact k
  obtain ⟨T213, X213, e213, st213⟩ := getF X212 hx hZ hown (host := "") (Or.inl (own_w hw 17 rfl)) Via.refl e212 PZ211 (g := (mkF m 12 #[.val (.ref a1), .val (.int p2)] [(.ref a1), (.ref a1)])) rfl rfl (hb hby d18_12)
  refine Go.st (U' := T213.setTop (mkF m 15 #[.val (.ref a1), .val (.int p2)] [(.int (4 : Int32)), (.ref a1)])) (fun t k => st213 _ k) ?_
  refine Go.st (U' := T213.setTop (mkF m 16 #[.val (.ref a1), .val (.int p2)] [(.int p2), (.int (4 : Int32)), (.ref a1)])) (fun t k => ?_) ?_
  · refine XS.iloadN X213.here hx rfl (hb hby d18_15) rfl ?_
    exact k
  obtain ⟨cq214, q214, q214'⟩ := PE211.cell
  obtain ⟨_, _, ⟨T214, L214, k214, n214⟩, -, X214, ⟨Lc214, hQ214, l214, y214, z214⟩, st214⟩ := X213.privateBack hx (y := own_y7) hown (mvT hZ (own_w hw 73 rfl)) (mvT hZ (own_w hw 74 rfl)) (own_selp (y := own_y7) (mvT hZ (own_w hw 1 rfl)) (Cond.privateMethod_at (mvP hZ (own_w hw 75 rfl) (args := #[]))) (mvT hZ (own_w hw 74 rfl)) (by decide)) (Cond.privateMethod_at (mvP hZ (own_w hw 75 rfl) (args := #[]))) (mvT hZ (own_w hw 76 rfl)) (by decide) (backOf (W := 0) (rmp4_4 l Z a0 hw [] a1 b1 k1 c0 (0 : Int32) (0 : Int32) (0 : Int32) c4 c5 c6 c7 c8 c9 c10 c11 c12 c13 c14 c15 p2 T211.heap n0 sz211 PE211 PV211 PZ211 PA211 gA gB nab) hZ (own_w hw 76 rfl) (own_w hw 2 rfl) (by decide) (by decide)) (g := (mkF m 16 #[.val (.ref a1), .val (.int p2)] [(.int p2), (.int (4 : Int32)), (.ref a1)])) rfl (by rw [hml]; rfl) (Steps.refl _) (a := a1) (by rw [e213]; exact q214) q214' (argsL := [(.int (4 : Int32)), (.int p2)]) (rest := []) (lenOf pd_3 rfl) rfl (by show 2 * 0 + _ ≤ _; exact Nat.le_of_eq rfl) (hb hby d18_16) (fun _ _ => ⟨rfl, e213, (by decide : 0 + 0 ≤ _), (by decide : 0 + 0 ≤ _)⟩)
  dsimp only [Pt.U, Pt.locs, Pt.cells, Pt.slots] at X214 l214 y214 z214 st214 hQ214
  subst l214 y214 z214
  obtain ⟨rfl, N214q, K214, PE214, PV214, PZ214, PA214⟩ := hQ214
  have KK214 : Keep h0 T214.heap [a1, b1] := KK211.trans K214 (allS (Or.inl (List.mem_of_getElem? (i := 0) rfl)) (allS (Or.inl (List.mem_of_getElem? (i := 1) rfl)) all0))
  have PE211_214 := PE211.keep K214
  have sz214 : n0 ≤ T214.heap.size := Nat.le_trans sz211 K214.1
  have N214 := Fr.app N212 N214q
  refine Go.tr (U' := T214.setTop (mkF m 19 #[.val (.ref a1), .val (.int p2)] [])) st214 ?_
  refine Go.st (U' := T214.setTop (mkF m 21 #[.val (.ref a1), .val (.int p2)] [(.ref a1), (.ref a1)])) (fun t k => ?_) ?_
  · refine XS.aloadN X214.here hx rfl (hb hby d18_19) rfl rfl ?_
    refine XS.dup X214.here hx rfl (hb hby d18_20) rfl rfl ?_
    exact k
  obtain ⟨T215, X215, e215, st215⟩ := getF X214 hx hZ hown (host := "") (Or.inl (own_w hw 17 rfl)) Via.refl rfl PZ214 (g := (mkF m 21 #[.val (.ref a1), .val (.int p2)] [(.ref a1), (.ref a1)])) rfl rfl (hb hby d18_21)
  refine Go.st (U' := T215.setTop (mkF m 24 #[.val (.ref a1), .val (.int p2)] [(.int (4 : Int32)), (.ref a1)])) (fun t k => st215 _ k) ?_
  refine Go.st (U' := T215.setTop (mkF m 26 #[.val (.ref a1), .val (.int p2)] [(.int (8 : Int32)), (.ref a1)])) (fun t k => ?_) ?_
  · refine XS.iconst X215.here hx rfl (hb hby d18_24) ?_
    refine XS.iadd X215.here hx rfl (hb hby d18_25) rfl ?_
    exact k
  obtain ⟨T216, h216, X216, e216, W216, st216⟩ := putF X215 hx hZ hown (host := "") (Or.inl (own_w hw 17 rfl)) Via.refl e215 PZ214 PE214 (Or.inl (own_w hw 18 rfl)) (own_w hw 1 rfl) (ty := .int) (by decide) rfl rfl (g := (mkF m 26 #[.val (.ref a1), .val (.int p2)] [(.int (8 : Int32)), (.ref a1)])) rfl rfl (hb hby d18_26)
  have F216 := PZ214.same W216
  have PE214_216 := PE214.wr W216
  have PV214_216 := PV214.other W216 (Or.inr (slot_ne (Or.inl (own_w hw 11 rfl)) (Or.inl (own_w hw 18 rfl)) (by decide) (t := (.array .byte)) (t' := .int) (by decide) (by decide)))
  have PA214_216 := PA214.other W216 (Ne.symm nab)
  have N216 := Fr.snoc X216 N214 gA
  have KK216 : Keep h0 h216 [a1, b1] := KK214.wr W216 (Or.inl (List.mem_of_getElem? (i := 0) rfl))
  have sz216 : n0 ≤ h216.size := Nat.le_trans sz214 (Nat.le_of_eq W216.size.symm)
  refine Go.st (U' := T216.setTop (mkF m 29 #[.val (.ref a1), .val (.int p2)] [])) (fun t k => st216 _ k) ?_
  refine own_ret (Q := Qn1 Z a1 b1 k1 c0 c1 c2 c3 c4 c5 c6 c7 c8 c9 c10 c11 c12 c13 c14 c15 p2 h0 n0) (v := none) X216 hlk (fun _ => rfl) (by decide) (by decide) ?_ (fun fs hr => X216.returnOut hx hrt (hb hby d18_29) hr)
  rw [e216]
  exact ⟨rfl, N216, KK216, PE214_216, PV214_216, F216, PA214_216⟩
theorem eff2_4 (m : MethodId) (a1 : Addr) : entryFrame m #[(.ref a1), (.int (2 : Int32)), (.int (4 : Int32)), (.int (0 : Int32))] 5 = mkF m 0 #[.val (.ref a1), .val (.int (2 : Int32)), .val (.int (4 : Int32)), .val (.int (0 : Int32)), .unset] [] := by first | (simp [entryFrame, mkF, argsToLocals, Value.category]; done) | rfl
def Qf2_4 (Z : State) (a1 : Addr) (k1 : ClassId) (c0 : Int32) (c1 : Int32) (c2 : Int32) (c3 : Int32) (c4 : Int32) (c5 : Int32) (c6 : Int32) (c7 : Int32) (c8 : Int32) (c9 : Int32) (c10 : Int32) (c11 : Int32) (c12 : Int32) (c13 : Int32) (c14 : Int32) (c15 : Int32) (h0 : Heap) (n0 : Nat) (v : Option Value) (h : Heap) (L : List Loc) : Prop := v = none ∧ Fr n0 L ∧ Keep h0 h [a1] ∧ Arv Z h a1 k1 .byte (256 : Int32) [(.int c0), (.int c1), (.int (0 : Int32)), (.int (0 : Int32)), (.int c4), (.int c5), (.int c6), (.int c7), (.int c8), (.int c9), (.int c10), (.int c11), (.int c12), (.int c13), (.int c14), (.int c15)] (.int (0 : Int32))
set_option maxRecDepth 65536 in
set_option maxHeartbeats 40000000 in
theorem rmf2_4 (l : Launch) (Z : State) (a0 : Array Value) (hw : ∀ d ∈ tables_1, d.before a0 Z = true) (ws : List Jvm.Cond) (a1 : Addr) (k1 : ClassId) (c0 : Int32) (c1 : Int32) (c2 : Int32) (c3 : Int32) (c4 : Int32) (c5 : Int32) (c6 : Int32) (c7 : Int32) (c8 : Int32) (c9 : Int32) (c10 : Int32) (c11 : Int32) (c12 : Int32) (c13 : Int32) (c14 : Int32) (c15 : Int32) (h0 : Heap) (n0 : Nat) (Z0 : n0 ≤ h0.size) (VA : Arv Z h0 a1 k1 .byte (256 : Int32) [(.int c0), (.int c1), (.int c2), (.int c3), (.int c4), (.int c5), (.int c6), (.int c7), (.int c8), (.int c9), (.int c10), (.int c11), (.int c12), (.int c13), (.int c14), (.int c15)] (.int (0 : Int32))) (gA : n0 ≤ a1) :
    MetFree l own_y4 (head1 (Jvm.Cond.code own_y4 jdk_65_method_110_code 5 none :: ws) own_R1_0_0_16) (fun a U => a = #[(.ref a1), (.int (2 : Int32)), (.int (4 : Int32)), (.int (0 : Int32))] ∧ Z.Warmed39 U.vm ∧ U.heap = h0) (fun _ _ _ _ _ => True) (fun _ U o U' => ∃ v L, o = .returned v ∧ Qf2_4 Z a1 k1 c0 c1 c2 c3 c4 c5 c6 c7 c8 c9 c10 c11 c12 c13 c14 c15 h0 n0 v U'.heap L ∧ FrameEnd U o U' L (own_R1_0_0_16).cells (own_R1_0_0_16).slots) := by
  refine MetFree.of_bodySF (plainFor_of_name pn_4) hisR ?_
  intro p e s m args below meth c s₁ Bd hml0 hP hK
  obtain ⟨rfl, hZ, hh⟩ := hP
  have hx := Bd.exec
  have hby := Bd.bytes
  have hml : c.maxLocals = 5 := hml0
  have hown : s.vm.findClass "java/util/Arrays" = some m.cls := findClass_of_methodNamed Bd.named
  have hnm := (name_of_methodNamed Bd.named Bd.method).1
  have hlk : meth.locks = false := BodyLoose.notSynchronized Bd
  have hrt := Bd.returns
  have X0 : Stand p l e own_R1_0_0_16 s m #[(.ref a1), (.int (2 : Int32)), (.int (4 : Int32)), (.int (0 : Int32))] below meth c s₁ [] 0 0 := Stand.of_body Bd
  have e0 : s₁.heap = h0 := by rw [← hh, Bd.state]; rfl
  have N0 := Fr.nil n0
  refine (show Go p e below (fun s₂ o => ∃ v L, o = .returned v ∧ Qf2_4 Z a1 k1 c0 c1 c2 c3 c4 c5 c6 c7 c8 c9 c10 c11 c12 c13 c14 c15 h0 n0 v s₂.heap L ∧ FrameEnd s o s₂ L 0 0) (s₁.setTop (entryFrame m #[(.ref a1), (.int (2 : Int32)), (.int (4 : Int32)), (.int (0 : Int32))] 5)) from ?_)
  rw [eff2_4]
  obtain ⟨cl217, Ar217, q217, S217, N217, H217, G217⟩ := id VA
  refine Go.st (U' := s₁.setTop (mkF m 4 #[.val (.ref a1), .val (.int (2 : Int32)), .val (.int (4 : Int32)), .val (.int (0 : Int32)), .unset] [(.int (4 : Int32)), (.int (2 : Int32)), (.int (256 : Int32))])) (fun t k => ?_) ?_
  · refine XS.aloadN X0.here hx rfl (hb hby d13_0) rfl rfl ?_
    refine X0.arraylength hx (by rw [e0]; exact Ar217.1) (State.isArrayOf_alike hZ.alike Ar217.2.1) (g := (mkF m 1 #[.val (.ref a1), .val (.int (2 : Int32)), .val (.int (4 : Int32)), .val (.int (0 : Int32)), .unset] [(.ref a1)])) rfl rfl (hb hby d13_1) _ ?_
    rw [len_of S217 N217]
    refine XS.iloadN X0.here hx rfl (hb hby d13_2) rfl ?_
    refine XS.iloadN X0.here hx rfl (hb hby d13_3) rfl ?_
    exact k
  obtain ⟨_, _, ⟨T218, L218, k218, n218⟩, -, X218, ⟨Lc218, hQ218, l218, y218, z218⟩, st218⟩ := Jvm.LawKit.callS X0 hx (y := own_y2) hown (mvT hZ (own_w hw 65 rfl)) (mvT hZ (own_w hw 66 rfl)) (mvT hZ (own_w hw 21 rfl)) (mvT hZ (own_w hw 67 rfl)) (by decide) (backOf (W := 0) (rmk l Z a0 hw [] (256 : Int32) (2 : Int32) (4 : Int32) h0 n0 Z0 (by decide) (by decide) (by decide)) hZ (own_w hw 67 rfl) (own_w hw 21 rfl) (by decide) (by decide)) (g := (mkF m 4 #[.val (.ref a1), .val (.int (2 : Int32)), .val (.int (4 : Int32)), .val (.int (0 : Int32)), .unset] [(.int (4 : Int32)), (.int (2 : Int32)), (.int (256 : Int32))])) rfl (by rw [hml]; rfl) (argsL := [(.int (256 : Int32)), (.int (2 : Int32)), (.int (4 : Int32))]) (rest := []) (lenOf pd_1 rfl) rfl (by show 2 * 0 + _ ≤ _; exact Nat.le_of_eq rfl) (hb hby d13_4) (fun _ _ => ⟨rfl, e0, (by decide : 0 + 0 ≤ _), (by decide : 0 + 0 ≤ _)⟩)
  dsimp only [Pt.U, Pt.locs, Pt.cells, Pt.slots] at X218 l218 y218 z218 st218 hQ218
  subst l218 y218 z218
  obtain ⟨rfl, N218q, e218⟩ := hQ218
  have N218 := Fr.app N0 N218q
  refine Go.st (U' := T218.setTop (mkF m 7 #[.val (.ref a1), .val (.int (2 : Int32)), .val (.int (4 : Int32)), .val (.int (0 : Int32)), .unset] [])) (fun t k => st218 _ k) ?_
  refine Go.st (U' := T218.setTop (mkF m 20 #[.val (.ref a1), .val (.int (2 : Int32)), .val (.int (4 : Int32)), .val (.int (0 : Int32)), .val (.int (2 : Int32))] [(.int (0 : Int32)), (.int (2 : Int32)), (.ref a1)])) (fun t k => ?_) ?_
  · refine XS.iloadN X218.here hx rfl (hb hby d13_7) rfl ?_
    refine XS.istore X218.here hx rfl (hb hby d13_8) rfl (l' := #[.val (.ref a1), .val (.int (2 : Int32)), .val (.int (4 : Int32)), .val (.int (0 : Int32)), .val (.int (2 : Int32))]) rfl ?_
    refine XS.iload X218.here hx rfl (hb hby d13_10) rfl ?_
    refine XS.iloadN X218.here hx rfl (hb hby d13_12) rfl ?_
    refine XS.icmpNo X218.here hx rfl (hb hby d13_13) rfl (tlt (by decide : (2 : Int32) < (4 : Int32))).2.1 ?_
    refine XS.aloadN X218.here hx rfl (hb hby d13_16) rfl rfl ?_
    refine XS.iload X218.here hx rfl (hb hby d13_17) rfl ?_
    refine XS.iloadN X218.here hx rfl (hb hby d13_19) rfl ?_
    exact k
  obtain ⟨T219, h219, X219, e219, W219, st219⟩ := stB X218 hx hZ e218 Ar217 (j := (2 : Int32)) (inb_of (j := (2 : Int32)) S217 ⟨by decide, by decide⟩) (g := (mkF m 20 #[.val (.ref a1), .val (.int (2 : Int32)), .val (.int (4 : Int32)), .val (.int (0 : Int32)), .val (.int (2 : Int32))] [(.int (0 : Int32)), (.int (2 : Int32)), (.ref a1)])) rfl rfl (hb hby d13_20)
  have VA_219 := Arv.set Ar217 q217 S217 N217 H217 G217 (fits_nar_byte _) W219 2 rfl (Nat.le_of_ble_eq_true rfl)
  have N219 := Fr.snoc X219 N218 gA
  have KK219 : Keep h0 h219 [a1] := (Keep.refl h0 [a1]).wr W219 (Or.inl (List.mem_of_getElem? (i := 0) rfl))
  have sz219 : n0 ≤ h219.size := Nat.le_trans Z0 (Nat.le_of_eq W219.size.symm)
  refine Go.st (U' := T219.setTop (mkF m 21 #[.val (.ref a1), .val (.int (2 : Int32)), .val (.int (4 : Int32)), .val (.int (0 : Int32)), .val (.int (2 : Int32))] [])) (fun t k => st219 _ k) ?_
  refine Go.st (U' := T219.setTop (mkF m 20 #[.val (.ref a1), .val (.int (2 : Int32)), .val (.int (4 : Int32)), .val (.int (0 : Int32)), .val (.int (3 : Int32))] [(.int (0 : Int32)), (.int (3 : Int32)), (.ref a1)])) (fun t k => ?_) ?_
  · refine XS.iinc X219.here hx rfl (hb hby d13_21) rfl (l' := #[.val (.ref a1), .val (.int (2 : Int32)), .val (.int (4 : Int32)), .val (.int (0 : Int32)), .val (.int (3 : Int32))]) rfl ?_
    refine XS.goto X219.here hx rfl (pc0 := 24) (pc' := 10) rfl (hb hby d13_24) (by decide) (by decide) ?_
    refine XS.iload X219.here hx rfl (hb hby d13_10) rfl ?_
    refine XS.iloadN X219.here hx rfl (hb hby d13_12) rfl ?_
    refine XS.icmpNo X219.here hx rfl (hb hby d13_13) rfl (tlt (by decide : (3 : Int32) < (4 : Int32))).2.1 ?_
    refine XS.aloadN X219.here hx rfl (hb hby d13_16) rfl rfl ?_
    refine XS.iload X219.here hx rfl (hb hby d13_17) rfl ?_
    refine XS.iloadN X219.here hx rfl (hb hby d13_19) rfl ?_
    exact k
  obtain ⟨cl221, Ar221, q221, S221, N221, H221, G221⟩ := id VA_219
  obtain ⟨T220, h220, X220, e220, W220, st220⟩ := stB X219 hx hZ e219 Ar221 (j := (3 : Int32)) (inb_of (j := (3 : Int32)) S221 ⟨by decide, by decide⟩) (g := (mkF m 20 #[.val (.ref a1), .val (.int (2 : Int32)), .val (.int (4 : Int32)), .val (.int (0 : Int32)), .val (.int (3 : Int32))] [(.int (0 : Int32)), (.int (3 : Int32)), (.ref a1)])) rfl rfl (hb hby d13_20)
  have VA_220 := Arv.set Ar221 q221 S221 N221 H221 G221 (fits_nar_byte _) W220 3 rfl (Nat.le_of_ble_eq_true rfl)
  have N220 := Fr.snoc X220 N219 gA
  have KK220 : Keep h0 h220 [a1] := KK219.wr W220 (Or.inl (List.mem_of_getElem? (i := 0) rfl))
  have sz220 : n0 ≤ h220.size := Nat.le_trans sz219 (Nat.le_of_eq W220.size.symm)
  refine Go.st (U' := T220.setTop (mkF m 21 #[.val (.ref a1), .val (.int (2 : Int32)), .val (.int (4 : Int32)), .val (.int (0 : Int32)), .val (.int (3 : Int32))] [])) (fun t k => st220 _ k) ?_
  refine Go.st (U' := T220.setTop (mkF m 27 #[.val (.ref a1), .val (.int (2 : Int32)), .val (.int (4 : Int32)), .val (.int (0 : Int32)), .val (.int (4 : Int32))] [])) (fun t k => ?_) ?_
  · refine XS.iinc X220.here hx rfl (hb hby d13_21) rfl (l' := #[.val (.ref a1), .val (.int (2 : Int32)), .val (.int (4 : Int32)), .val (.int (0 : Int32)), .val (.int (4 : Int32))]) rfl ?_
    refine XS.goto X220.here hx rfl (pc0 := 24) (pc' := 10) rfl (hb hby d13_24) (by decide) (by decide) ?_
    refine XS.iload X220.here hx rfl (hb hby d13_10) rfl ?_
    refine XS.iloadN X220.here hx rfl (hb hby d13_12) rfl ?_
    refine XS.icmpYes X220.here hx rfl (pc0 := 13) (pc' := 27) rfl (hb hby d13_13) rfl (flt (by decide : ¬ ((4 : Int32) < (4 : Int32)))).2.1 (by decide) (by decide) ?_
    exact k
  refine own_ret (Q := Qf2_4 Z a1 k1 c0 c1 c2 c3 c4 c5 c6 c7 c8 c9 c10 c11 c12 c13 c14 c15 h0 n0) (v := none) X220 hlk (fun _ => rfl) (by decide) (by decide) ?_ (fun fs hr => X220.returnOut hx hrt (hb hby d13_27) hr)
  rw [e220]
  exact ⟨rfl, N220, KK220, VA_220⟩
theorem efa2_4 (m : MethodId) (a1 : Addr) : entryFrame m #[(.ref a1), (.int (4 : Int32))] 3 = mkF m 0 #[.val (.ref a1), .val (.int (4 : Int32)), .unset] [] := by first | (simp [entryFrame, mkF, argsToLocals, Value.category]; done) | rfl
def Qa2_4 (Z : State) (a1 : Addr) (b1 : Addr) (k1 : ClassId) (c0 : Int32) (c1 : Int32) (c2 : Int32) (c3 : Int32) (c4 : Int32) (c5 : Int32) (c6 : Int32) (c7 : Int32) (c8 : Int32) (c9 : Int32) (c10 : Int32) (c11 : Int32) (c12 : Int32) (c13 : Int32) (c14 : Int32) (c15 : Int32) (h0 : Heap) (n0 : Nat) (v : Option Value) (h : Heap) (L : List Loc) : Prop := v = none ∧ Fr n0 L ∧ Keep h0 h [a1, b1] ∧ Exa Z h a1 "com/example/portcullis/portcullis/io/CdrOutput" ∧ Fld Z h a1 "com/example/portcullis/portcullis/io/CdrOutput" "buffer" "[B" (.ref b1) ∧ Fld Z h a1 "com/example/portcullis/portcullis/io/CdrOutput" "size" "I" (.int (4 : Int32)) ∧ Arv Z h b1 k1 .byte (256 : Int32) [(.int c0), (.int c1), (.int (0 : Int32)), (.int (0 : Int32)), (.int c4), (.int c5), (.int c6), (.int c7), (.int c8), (.int c9), (.int c10), (.int c11), (.int c12), (.int c13), (.int c14), (.int c15)] (.int (0 : Int32))
set_option maxRecDepth 65536 in
set_option maxHeartbeats 40000000 in
theorem rma2_4 (l : Launch) (Z : State) (a0 : Array Value) (hw : ∀ d ∈ tables_1, d.before a0 Z = true) (ws : List Jvm.Cond) (a1 : Addr) (b1 : Addr) (k1 : ClassId) (c0 : Int32) (c1 : Int32) (c2 : Int32) (c3 : Int32) (c4 : Int32) (c5 : Int32) (c6 : Int32) (c7 : Int32) (c8 : Int32) (c9 : Int32) (c10 : Int32) (c11 : Int32) (c12 : Int32) (c13 : Int32) (c14 : Int32) (c15 : Int32) (h0 : Heap) (n0 : Nat) (Z0 : n0 ≤ h0.size) (EX : Exa Z h0 a1 "com/example/portcullis/portcullis/io/CdrOutput") (FB : Fld Z h0 a1 "com/example/portcullis/portcullis/io/CdrOutput" "buffer" "[B" (.ref b1)) (FS : Fld Z h0 a1 "com/example/portcullis/portcullis/io/CdrOutput" "size" "I" (.int (2 : Int32))) (VA : Arv Z h0 b1 k1 .byte (256 : Int32) [(.int c0), (.int c1), (.int c2), (.int c3), (.int c4), (.int c5), (.int c6), (.int c7), (.int c8), (.int c9), (.int c10), (.int c11), (.int c12), (.int c13), (.int c14), (.int c15)] (.int (0 : Int32))) (gA : n0 ≤ a1) (gB : n0 ≤ b1) (nab : a1 ≠ b1) :
    MetFree l own_y5 (head1 (Jvm.Cond.code own_y5 prog_14_method_14_code 3 none :: ws) own_R2_0_0_48) (fun a U => a = #[(.ref a1), (.int (4 : Int32))] ∧ Z.Warmed39 U.vm ∧ U.heap = h0) (fun _ _ _ _ _ => True) (fun _ U o U' => ∃ v L, o = .returned v ∧ Qa2_4 Z a1 b1 k1 c0 c1 c2 c3 c4 c5 c6 c7 c8 c9 c10 c11 c12 c13 c14 c15 h0 n0 v U'.heap L ∧ FrameEnd U o U' L (own_R2_0_0_48).cells (own_R2_0_0_48).slots) := by
  refine MetFree.of_bodySF (plainFor_of_name pn_0) hisR ?_
  intro p e s m args below meth c s₁ Bd hml0 hP hK
  obtain ⟨rfl, hZ, hh⟩ := hP
  have hx := Bd.exec
  have hby := Bd.bytes
  have hml : c.maxLocals = 3 := hml0
  have hown : s.vm.findClass "com/example/portcullis/portcullis/io/CdrOutput" = some m.cls := findClass_of_methodNamed Bd.named
  have hnm := (name_of_methodNamed Bd.named Bd.method).1
  have hlk : meth.locks = false := BodyLoose.notSynchronized Bd
  have hrt := Bd.returns
  have X0 : Stand p l e own_R2_0_0_48 s m #[(.ref a1), (.int (4 : Int32))] below meth c s₁ [] 0 0 := Stand.of_body Bd
  have e0 : s₁.heap = h0 := by rw [← hh, Bd.state]; rfl
  have N0 := Fr.nil n0
  refine (show Go p e below (fun s₂ o => ∃ v L, o = .returned v ∧ Qa2_4 Z a1 b1 k1 c0 c1 c2 c3 c4 c5 c6 c7 c8 c9 c10 c11 c12 c13 c14 c15 h0 n0 v s₂.heap L ∧ FrameEnd s o s₂ L 0 0) (s₁.setTop (entryFrame m #[(.ref a1), (.int (4 : Int32))] 3)) from ?_)
  rw [efa2_4]
  refine Go.st (U' := s₁.setTop (mkF m 1 #[.val (.ref a1), .val (.int (4 : Int32)), .unset] [(.ref a1)])) (fun t k => ?_) ?_
  · refine XS.aloadN X0.here hx rfl (hb hby d12_0) rfl rfl ?_
    exact k
  obtain ⟨T222, X222, e222, st222⟩ := getF X0 hx hZ hown (host := "") (Or.inl (own_w hw 17 rfl)) Via.refl e0 FS (g := (mkF m 1 #[.val (.ref a1), .val (.int (4 : Int32)), .unset] [(.ref a1)])) rfl rfl (hb hby d12_1)
  refine Go.st (U' := T222.setTop (mkF m 4 #[.val (.ref a1), .val (.int (4 : Int32)), .unset] [(.int (2 : Int32))])) (fun t k => st222 _ k) ?_
  refine Go.st (U' := T222.setTop (mkF m 12 #[.val (.ref a1), .val (.int (4 : Int32)), .val (.int (2 : Int32))] [(.int (2 : Int32)), (.ref a1)])) (fun t k => ?_) ?_
  · refine XS.ineg X222.here hx rfl (hb hby d12_4) rfl ?_
    refine XS.iloadN X222.here hx rfl (hb hby d12_5) rfl ?_
    refine XS.iconst X222.here hx rfl (hb hby d12_6) ?_
    refine XS.isub X222.here hx rfl (hb hby d12_7) rfl ?_
    refine XS.iand X222.here hx rfl (hb hby d12_8) rfl ?_
    refine XS.istoreN X222.here hx rfl (hb hby d12_9) rfl (l' := #[.val (.ref a1), .val (.int (4 : Int32)), .val (.int (2 : Int32))]) rfl ?_
    refine XS.aloadN X222.here hx rfl (hb hby d12_10) rfl rfl ?_
    refine XS.iloadN X222.here hx rfl (hb hby d12_11) rfl ?_
    exact k
  obtain ⟨cq223, q223, q223'⟩ := EX.cell
  obtain ⟨_, _, ⟨T223, L223, k223, n223⟩, -, X223, ⟨Lc223, hQ223, l223, y223, z223⟩, st223⟩ := X222.privateBack hx (y := own_y1) hown (mvT hZ (own_w hw 48 rfl)) (mvT hZ (own_w hw 49 rfl)) (own_selp (y := own_y1) (mvT hZ (own_w hw 1 rfl)) (Cond.privateMethod_at (mvP hZ (own_w hw 50 rfl) (args := #[]))) (mvT hZ (own_w hw 49 rfl)) (by decide)) (Cond.privateMethod_at (mvP hZ (own_w hw 50 rfl) (args := #[]))) (mvT hZ (own_w hw 51 rfl)) (by decide) (backOf (W := 0) (rmr l Z a0 hw [] a1 (2 : Int32) b1 k1 (2 : Int32) [(.int c0), (.int c1), (.int c2), (.int c3), (.int c4), (.int c5), (.int c6), (.int c7), (.int c8), (.int c9), (.int c10), (.int c11), (.int c12), (.int c13), (.int c14), (.int c15)] h0 n0 Z0 FB FS VA (by decide)) hZ (own_w hw 51 rfl) (own_w hw 2 rfl) (by decide) (by decide)) (g := (mkF m 12 #[.val (.ref a1), .val (.int (4 : Int32)), .val (.int (2 : Int32))] [(.int (2 : Int32)), (.ref a1)])) rfl (by rw [hml]; rfl) (Steps.refl _) (a := a1) (by rw [e222]; exact q223) q223' (argsL := [(.int (2 : Int32))]) (rest := []) (lenOf pd_0 rfl) rfl (by show 2 * 0 + _ ≤ _; exact Nat.le_of_eq rfl) (hb hby d12_12) (fun _ _ => ⟨rfl, e222, (by decide : 0 + 0 ≤ _), (by decide : 0 + 0 ≤ _)⟩)
  dsimp only [Pt.U, Pt.locs, Pt.cells, Pt.slots] at X223 l223 y223 z223 st223 hQ223
  subst l223 y223 z223
  obtain ⟨rfl, N223q, e223⟩ := hQ223
  have N223 := Fr.app N0 N223q
  refine Go.tr (U' := T223.setTop (mkF m 15 #[.val (.ref a1), .val (.int (4 : Int32)), .val (.int (2 : Int32))] [])) st223 ?_
  refine Go.st (U' := T223.setTop (mkF m 16 #[.val (.ref a1), .val (.int (4 : Int32)), .val (.int (2 : Int32))] [(.ref a1)])) (fun t k => ?_) ?_
  · refine XS.aloadN X223.here hx rfl (hb hby d12_15) rfl rfl ?_
    exact k
  obtain ⟨T224, X224, e224, st224⟩ := getF X223 hx hZ hown (host := "") (Or.inl (own_w hw 10 rfl)) Via.refl e223 FB (g := (mkF m 16 #[.val (.ref a1), .val (.int (4 : Int32)), .val (.int (2 : Int32))] [(.ref a1)])) rfl rfl (hb hby d12_16)
  refine Go.st (U' := T224.setTop (mkF m 19 #[.val (.ref a1), .val (.int (4 : Int32)), .val (.int (2 : Int32))] [(.ref b1)])) (fun t k => st224 _ k) ?_
  refine Go.st (U' := T224.setTop (mkF m 20 #[.val (.ref a1), .val (.int (4 : Int32)), .val (.int (2 : Int32))] [(.ref a1), (.ref b1)])) (fun t k => ?_) ?_
  · refine XS.aloadN X224.here hx rfl (hb hby d12_19) rfl rfl ?_
    exact k
  obtain ⟨T225, X225, e225, st225⟩ := getF X224 hx hZ hown (host := "") (Or.inl (own_w hw 17 rfl)) Via.refl e224 FS (g := (mkF m 20 #[.val (.ref a1), .val (.int (4 : Int32)), .val (.int (2 : Int32))] [(.ref a1), (.ref b1)])) rfl rfl (hb hby d12_20)
  refine Go.st (U' := T225.setTop (mkF m 23 #[.val (.ref a1), .val (.int (4 : Int32)), .val (.int (2 : Int32))] [(.int (2 : Int32)), (.ref b1)])) (fun t k => st225 _ k) ?_
  refine Go.st (U' := T225.setTop (mkF m 24 #[.val (.ref a1), .val (.int (4 : Int32)), .val (.int (2 : Int32))] [(.ref a1), (.int (2 : Int32)), (.ref b1)])) (fun t k => ?_) ?_
  · refine XS.aloadN X225.here hx rfl (hb hby d12_23) rfl rfl ?_
    exact k
  obtain ⟨T226, X226, e226, st226⟩ := getF X225 hx hZ hown (host := "") (Or.inl (own_w hw 17 rfl)) Via.refl e225 FS (g := (mkF m 24 #[.val (.ref a1), .val (.int (4 : Int32)), .val (.int (2 : Int32))] [(.ref a1), (.int (2 : Int32)), (.ref b1)])) rfl rfl (hb hby d12_24)
  refine Go.st (U' := T226.setTop (mkF m 27 #[.val (.ref a1), .val (.int (4 : Int32)), .val (.int (2 : Int32))] [(.int (2 : Int32)), (.int (2 : Int32)), (.ref b1)])) (fun t k => st226 _ k) ?_
  refine Go.st (U' := T226.setTop (mkF m 30 #[.val (.ref a1), .val (.int (4 : Int32)), .val (.int (2 : Int32))] [(.int (0 : Int32)), (.int (4 : Int32)), (.int (2 : Int32)), (.ref b1)])) (fun t k => ?_) ?_
  · refine XS.iloadN X226.here hx rfl (hb hby d12_27) rfl ?_
    refine XS.iadd X226.here hx rfl (hb hby d12_28) rfl ?_
    refine XS.iconst X226.here hx rfl (hb hby d12_29) ?_
    exact k
  obtain ⟨_, _, ⟨T227, L227, k227, n227⟩, -, X227, ⟨Lc227, hQ227, l227, y227, z227⟩, st227⟩ := Jvm.LawKit.callS X226 hx (y := own_y4) hown (mvT hZ (own_w hw 62 rfl)) (mvT hZ (own_w hw 63 rfl)) (mvT hZ (own_w hw 21 rfl)) (mvT hZ (own_w hw 64 rfl)) (by decide) (backOf (W := 0) (rmf2_4 l Z a0 hw [] b1 k1 c0 c1 c2 c3 c4 c5 c6 c7 c8 c9 c10 c11 c12 c13 c14 c15 h0 n0 Z0 VA gB) hZ (own_w hw 64 rfl) (own_w hw 21 rfl) (by decide) (by decide)) (g := (mkF m 30 #[.val (.ref a1), .val (.int (4 : Int32)), .val (.int (2 : Int32))] [(.int (0 : Int32)), (.int (4 : Int32)), (.int (2 : Int32)), (.ref b1)])) rfl (by rw [hml]; rfl) (argsL := [(.ref b1), (.int (2 : Int32)), (.int (4 : Int32)), (.int (0 : Int32))]) (rest := []) (lenOf pd_2 rfl) rfl (by show 2 * 0 + _ ≤ _; exact Nat.le_of_eq rfl) (hb hby d12_30) (fun _ _ => ⟨rfl, e226, (by decide : 0 + 0 ≤ _), (by decide : 0 + 0 ≤ _)⟩)
  dsimp only [Pt.U, Pt.locs, Pt.cells, Pt.slots] at X227 l227 y227 z227 st227 hQ227
  subst l227 y227 z227
  obtain ⟨rfl, N227q, K227, P227_0⟩ := hQ227
  have KK227 : Keep h0 T227.heap [a1, b1] := (Keep.refl h0 [a1, b1]).trans K227 (allS (Or.inl (List.mem_of_getElem? (i := 1) rfl)) all0)
  have EX_227 := EX.keep K227
  have FB_227 := FB.keep K227 (ninS nab nin0)
  have FS_227 := FS.keep K227 (ninS nab nin0)
  have sz227 : n0 ≤ T227.heap.size := Nat.le_trans Z0 K227.1
  have N227 := Fr.app N223 N227q
  refine Go.st (U' := T227.setTop (mkF m 33 #[.val (.ref a1), .val (.int (4 : Int32)), .val (.int (2 : Int32))] [])) (fun t k => st227 _ k) ?_
  refine Go.st (U' := T227.setTop (mkF m 35 #[.val (.ref a1), .val (.int (4 : Int32)), .val (.int (2 : Int32))] [(.ref a1), (.ref a1)])) (fun t k => ?_) ?_
  · refine XS.aloadN X227.here hx rfl (hb hby d12_33) rfl rfl ?_
    refine XS.dup X227.here hx rfl (hb hby d12_34) rfl rfl ?_
    exact k
  obtain ⟨T228, X228, e228, st228⟩ := getF X227 hx hZ hown (host := "") (Or.inl (own_w hw 17 rfl)) Via.refl rfl FS_227 (g := (mkF m 35 #[.val (.ref a1), .val (.int (4 : Int32)), .val (.int (2 : Int32))] [(.ref a1), (.ref a1)])) rfl rfl (hb hby d12_35)
  refine Go.st (U' := T228.setTop (mkF m 38 #[.val (.ref a1), .val (.int (4 : Int32)), .val (.int (2 : Int32))] [(.int (2 : Int32)), (.ref a1)])) (fun t k => st228 _ k) ?_
  refine Go.st (U' := T228.setTop (mkF m 40 #[.val (.ref a1), .val (.int (4 : Int32)), .val (.int (2 : Int32))] [(.int (4 : Int32)), (.ref a1)])) (fun t k => ?_) ?_
  · refine XS.iloadN X228.here hx rfl (hb hby d12_38) rfl ?_
    refine XS.iadd X228.here hx rfl (hb hby d12_39) rfl ?_
    exact k
  obtain ⟨T229, h229, X229, e229, W229, st229⟩ := putF X228 hx hZ hown (host := "") (Or.inl (own_w hw 17 rfl)) Via.refl e228 FS_227 EX_227 (Or.inl (own_w hw 18 rfl)) (own_w hw 1 rfl) (ty := .int) (by decide) rfl rfl (g := (mkF m 40 #[.val (.ref a1), .val (.int (4 : Int32)), .val (.int (2 : Int32))] [(.int (4 : Int32)), (.ref a1)])) rfl rfl (hb hby d12_40)
  have F229 := FS_227.same W229
  have EX_229 := EX_227.wr W229
  have FB_229 := FB_227.other W229 (Or.inr (slot_ne (Or.inl (own_w hw 11 rfl)) (Or.inl (own_w hw 18 rfl)) (by decide) (t := (.array .byte)) (t' := .int) (by decide) (by decide)))
  have P227_0_229 := P227_0.other W229 (Ne.symm nab)
  have N229 := Fr.snoc X229 N227 gA
  have KK229 : Keep h0 h229 [a1, b1] := KK227.wr W229 (Or.inl (List.mem_of_getElem? (i := 0) rfl))
  have sz229 : n0 ≤ h229.size := Nat.le_trans sz227 (Nat.le_of_eq W229.size.symm)
  refine Go.st (U' := T229.setTop (mkF m 43 #[.val (.ref a1), .val (.int (4 : Int32)), .val (.int (2 : Int32))] [])) (fun t k => st229 _ k) ?_
  refine own_ret (Q := Qa2_4 Z a1 b1 k1 c0 c1 c2 c3 c4 c5 c6 c7 c8 c9 c10 c11 c12 c13 c14 c15 h0 n0) (v := none) X229 hlk (fun _ => rfl) (by decide) (by decide) ?_ (fun fs hr => X229.returnOut hx hrt (hb hby d12_43) hr)
  rw [e229]
  exact ⟨rfl, N229, KK229, EX_229, FB_229, F229, P227_0_229⟩
theorem efn2 (m : MethodId) (a1 : Addr) (p2 : Int32) : entryFrame m #[(.ref a1), (.int p2)] 2 = mkF m 0 #[.val (.ref a1), .val (.int p2)] [] := by first | (simp [entryFrame, mkF, argsToLocals, Value.category]; done) | rfl
def Qn2 (Z : State) (a1 : Addr) (b1 : Addr) (k1 : ClassId) (c0 : Int32) (c1 : Int32) (c2 : Int32) (c3 : Int32) (c4 : Int32) (c5 : Int32) (c6 : Int32) (c7 : Int32) (c8 : Int32) (c9 : Int32) (c10 : Int32) (c11 : Int32) (c12 : Int32) (c13 : Int32) (c14 : Int32) (c15 : Int32) (p2 : Int32) (h0 : Heap) (n0 : Nat) (v : Option Value) (h : Heap) (L : List Loc) : Prop := v = none ∧ Fr n0 L ∧ Keep h0 h [a1, b1] ∧ Exa Z h a1 "com/example/portcullis/portcullis/io/CdrOutput" ∧ Fld Z h a1 "com/example/portcullis/portcullis/io/CdrOutput" "buffer" "[B" (.ref b1) ∧ Fld Z h a1 "com/example/portcullis/portcullis/io/CdrOutput" "size" "I" (.int (8 : Int32)) ∧ Arv Z h b1 k1 .byte (256 : Int32) [(.int c0), (.int c1), (.int (0 : Int32)), (.int (0 : Int32)), (.int (own_b3 p2)), (.int (own_b2 p2)), (.int (own_b1 p2)), (.int (own_b0 p2)), (.int c8), (.int c9), (.int c10), (.int c11), (.int c12), (.int c13), (.int c14), (.int c15)] (.int (0 : Int32))
set_option maxRecDepth 65536 in
set_option maxHeartbeats 40000000 in
theorem rmn2 (l : Launch) (Z : State) (a0 : Array Value) (hw : ∀ d ∈ tables_1, d.before a0 Z = true) (ws : List Jvm.Cond) (a1 : Addr) (b1 : Addr) (k1 : ClassId) (c0 : Int32) (c1 : Int32) (c2 : Int32) (c3 : Int32) (c4 : Int32) (c5 : Int32) (c6 : Int32) (c7 : Int32) (c8 : Int32) (c9 : Int32) (c10 : Int32) (c11 : Int32) (c12 : Int32) (c13 : Int32) (c14 : Int32) (c15 : Int32) (p2 : Int32) (h0 : Heap) (n0 : Nat) (Z0 : n0 ≤ h0.size) (EX : Exa Z h0 a1 "com/example/portcullis/portcullis/io/CdrOutput") (FB : Fld Z h0 a1 "com/example/portcullis/portcullis/io/CdrOutput" "buffer" "[B" (.ref b1)) (FS : Fld Z h0 a1 "com/example/portcullis/portcullis/io/CdrOutput" "size" "I" (.int (2 : Int32))) (VA : Arv Z h0 b1 k1 .byte (256 : Int32) [(.int c0), (.int c1), (.int c2), (.int c3), (.int c4), (.int c5), (.int c6), (.int c7), (.int c8), (.int c9), (.int c10), (.int c11), (.int c12), (.int c13), (.int c14), (.int c15)] (.int (0 : Int32))) (gA : n0 ≤ a1) (gB : n0 ≤ b1) (nab : a1 ≠ b1) :
    MetFree l own_y8 (head1 (Jvm.Cond.code own_y8 prog_14_method_5_code 2 none :: ws) own_R3_0_0_80) (fun a U => a = #[(.ref a1), (.int p2)] ∧ Z.Warmed39 U.vm ∧ U.heap = h0) (fun _ _ _ _ _ => True) (fun _ U o U' => ∃ v L, o = .returned v ∧ Qn2 Z a1 b1 k1 c0 c1 c2 c3 c4 c5 c6 c7 c8 c9 c10 c11 c12 c13 c14 c15 p2 h0 n0 v U'.heap L ∧ FrameEnd U o U' L (own_R3_0_0_80).cells (own_R3_0_0_80).slots) := by
  refine MetFree.of_bodySF (plainFor_of_name pn_0) hisR ?_
  intro p e s m args below meth c s₁ Bd hml0 hP hK
  obtain ⟨rfl, hZ, hh⟩ := hP
  have hx := Bd.exec
  have hby := Bd.bytes
  have hml : c.maxLocals = 2 := hml0
  have hown : s.vm.findClass "com/example/portcullis/portcullis/io/CdrOutput" = some m.cls := findClass_of_methodNamed Bd.named
  have hnm := (name_of_methodNamed Bd.named Bd.method).1
  have hlk : meth.locks = false := BodyLoose.notSynchronized Bd
  have hrt := Bd.returns
  have X0 : Stand p l e own_R3_0_0_80 s m #[(.ref a1), (.int p2)] below meth c s₁ [] 0 0 := Stand.of_body Bd
  have e0 : s₁.heap = h0 := by rw [← hh, Bd.state]; rfl
  have N0 := Fr.nil n0
  refine (show Go p e below (fun s₂ o => ∃ v L, o = .returned v ∧ Qn2 Z a1 b1 k1 c0 c1 c2 c3 c4 c5 c6 c7 c8 c9 c10 c11 c12 c13 c14 c15 p2 h0 n0 v s₂.heap L ∧ FrameEnd s o s₂ L 0 0) (s₁.setTop (entryFrame m #[(.ref a1), (.int p2)] 2)) from ?_)
  rw [efn2]
  refine Go.st (U' := s₁.setTop (mkF m 2 #[.val (.ref a1), .val (.int p2)] [(.int (4 : Int32)), (.ref a1)])) (fun t k => ?_) ?_
  · refine XS.aloadN X0.here hx rfl (hb hby d18_0) rfl rfl ?_
    refine XS.iconst X0.here hx rfl (hb hby d18_1) ?_
    exact k
  obtain ⟨cq230, kq230, q230a, q230b, q230c⟩ := isOf hZ e0 EX
  obtain ⟨_, _, ⟨T230, L230, k230, n230⟩, -, X230, ⟨Lc230, hQ230, l230, y230, z230⟩, st230⟩ := X0.virtualBack hx (y := own_y5) (z := own_y5) hown (mvT hZ (own_w hw 57 rfl)) (mvT hZ (own_w hw 58 rfl)) (notFace_of_selects (args := #[]) (mvT hZ (own_w hw 60 rfl))) (mvT hZ (own_w hw 60 rfl)) (mvT hZ (own_w hw 59 rfl)) (by decide) (backOf (W := 0) (rma2_4 l Z a0 hw [] a1 b1 k1 c0 c1 c2 c3 c4 c5 c6 c7 c8 c9 c10 c11 c12 c13 c14 c15 h0 n0 Z0 EX FB FS VA gA gB nab) hZ (own_w hw 61 rfl) (own_w hw 2 rfl) (by decide) (by decide)) q230a q230c (g := (mkF m 2 #[.val (.ref a1), .val (.int p2)] [(.int (4 : Int32)), (.ref a1)])) rfl (by rw [hml]; rfl) (Steps.refl _) (argsL := [(.int (4 : Int32))]) (rest := []) (lenOf pd_0 rfl) rfl (by show 2 * 0 + _ ≤ _; exact Nat.le_of_eq rfl) (hb hby d18_2) (fun _ _ => ⟨rfl, e0, (by decide : 0 + 0 ≤ _), (by decide : 0 + 0 ≤ _)⟩)
  dsimp only [Pt.U, Pt.locs, Pt.cells, Pt.slots] at X230 l230 y230 z230 st230 hQ230
  subst l230 y230 z230
  obtain ⟨rfl, N230q, K230, PE230, PV230, PZ230, PA230⟩ := hQ230
  have KK230 : Keep h0 T230.heap [a1, b1] := (Keep.refl h0 [a1, b1]).trans K230 (allS (Or.inl (List.mem_of_getElem? (i := 0) rfl)) (allS (Or.inl (List.mem_of_getElem? (i := 1) rfl)) all0))
  have EX_230 := EX.keep K230
  have sz230 : n0 ≤ T230.heap.size := Nat.le_trans Z0 K230.1
  have N230 := Fr.app N0 N230q
  refine Go.tr (U' := T230.setTop (mkF m 5 #[.val (.ref a1), .val (.int p2)] [])) st230 ?_
  refine Go.st (U' := T230.setTop (mkF m 7 #[.val (.ref a1), .val (.int p2)] [(.int (4 : Int32)), (.ref a1)])) (fun t k => ?_) ?_
  · refine XS.aloadN X230.here hx rfl (hb hby d18_5) rfl rfl ?_
    refine XS.iconst X230.here hx rfl (hb hby d18_6) ?_
    exact k
  obtain ⟨cq231, q231, q231'⟩ := PE230.cell
  obtain ⟨_, _, ⟨T231, L231, k231, n231⟩, -, X231, ⟨Lc231, hQ231, l231, y231, z231⟩, st231⟩ := X230.privateBack hx (y := own_y1) hown (mvT hZ (own_w hw 48 rfl)) (mvT hZ (own_w hw 49 rfl)) (own_selp (y := own_y1) (mvT hZ (own_w hw 1 rfl)) (Cond.privateMethod_at (mvP hZ (own_w hw 50 rfl) (args := #[]))) (mvT hZ (own_w hw 49 rfl)) (by decide)) (Cond.privateMethod_at (mvP hZ (own_w hw 50 rfl) (args := #[]))) (mvT hZ (own_w hw 51 rfl)) (by decide) (backOf (W := 0) (rmr l Z a0 hw [] a1 (4 : Int32) b1 k1 (4 : Int32) [(.int c0), (.int c1), (.int (0 : Int32)), (.int (0 : Int32)), (.int c4), (.int c5), (.int c6), (.int c7), (.int c8), (.int c9), (.int c10), (.int c11), (.int c12), (.int c13), (.int c14), (.int c15)] T230.heap n0 sz230 PV230 PZ230 PA230 (by decide)) hZ (own_w hw 51 rfl) (own_w hw 2 rfl) (by decide) (by decide)) (g := (mkF m 7 #[.val (.ref a1), .val (.int p2)] [(.int (4 : Int32)), (.ref a1)])) rfl (by rw [hml]; rfl) (Steps.refl _) (a := a1) q231 q231' (argsL := [(.int (4 : Int32))]) (rest := []) (lenOf pd_0 rfl) rfl (by show 2 * 0 + _ ≤ _; exact Nat.le_of_eq rfl) (hb hby d18_7) (fun _ _ => ⟨rfl, rfl, (by decide : 0 + 0 ≤ _), (by decide : 0 + 0 ≤ _)⟩)
  dsimp only [Pt.U, Pt.locs, Pt.cells, Pt.slots] at X231 l231 y231 z231 st231 hQ231
  subst l231 y231 z231
  obtain ⟨rfl, N231q, e231⟩ := hQ231
  have N231 := Fr.app N230 N231q
  refine Go.tr (U' := T231.setTop (mkF m 10 #[.val (.ref a1), .val (.int p2)] [])) st231 ?_
  refine Go.st (U' := T231.setTop (mkF m 12 #[.val (.ref a1), .val (.int p2)] [(.ref a1), (.ref a1)])) (fun t k => ?_) ?_
  · refine XS.aloadN X231.here hx rfl (hb hby d18_10) rfl rfl ?_
    refine XS.aloadN X231.here hx rfl (hb hby d18_11) rfl rfl ?_
    exact k
  obtain ⟨T232, X232, e232, st232⟩ := getF X231 hx hZ hown (host := "") (Or.inl (own_w hw 17 rfl)) Via.refl e231 PZ230 (g := (mkF m 12 #[.val (.ref a1), .val (.int p2)] [(.ref a1), (.ref a1)])) rfl rfl (hb hby d18_12)
  refine Go.st (U' := T232.setTop (mkF m 15 #[.val (.ref a1), .val (.int p2)] [(.int (4 : Int32)), (.ref a1)])) (fun t k => st232 _ k) ?_
  refine Go.st (U' := T232.setTop (mkF m 16 #[.val (.ref a1), .val (.int p2)] [(.int p2), (.int (4 : Int32)), (.ref a1)])) (fun t k => ?_) ?_
  · refine XS.iloadN X232.here hx rfl (hb hby d18_15) rfl ?_
    exact k
  obtain ⟨cq233, q233, q233'⟩ := PE230.cell
  obtain ⟨_, _, ⟨T233, L233, k233, n233⟩, -, X233, ⟨Lc233, hQ233, l233, y233, z233⟩, st233⟩ := X232.privateBack hx (y := own_y7) hown (mvT hZ (own_w hw 73 rfl)) (mvT hZ (own_w hw 74 rfl)) (own_selp (y := own_y7) (mvT hZ (own_w hw 1 rfl)) (Cond.privateMethod_at (mvP hZ (own_w hw 75 rfl) (args := #[]))) (mvT hZ (own_w hw 74 rfl)) (by decide)) (Cond.privateMethod_at (mvP hZ (own_w hw 75 rfl) (args := #[]))) (mvT hZ (own_w hw 76 rfl)) (by decide) (backOf (W := 0) (rmp4_4 l Z a0 hw [] a1 b1 k1 c0 c1 (0 : Int32) (0 : Int32) c4 c5 c6 c7 c8 c9 c10 c11 c12 c13 c14 c15 p2 T230.heap n0 sz230 PE230 PV230 PZ230 PA230 gA gB nab) hZ (own_w hw 76 rfl) (own_w hw 2 rfl) (by decide) (by decide)) (g := (mkF m 16 #[.val (.ref a1), .val (.int p2)] [(.int p2), (.int (4 : Int32)), (.ref a1)])) rfl (by rw [hml]; rfl) (Steps.refl _) (a := a1) (by rw [e232]; exact q233) q233' (argsL := [(.int (4 : Int32)), (.int p2)]) (rest := []) (lenOf pd_3 rfl) rfl (by show 2 * 0 + _ ≤ _; exact Nat.le_of_eq rfl) (hb hby d18_16) (fun _ _ => ⟨rfl, e232, (by decide : 0 + 0 ≤ _), (by decide : 0 + 0 ≤ _)⟩)
  dsimp only [Pt.U, Pt.locs, Pt.cells, Pt.slots] at X233 l233 y233 z233 st233 hQ233
  subst l233 y233 z233
  obtain ⟨rfl, N233q, K233, PE233, PV233, PZ233, PA233⟩ := hQ233
  have KK233 : Keep h0 T233.heap [a1, b1] := KK230.trans K233 (allS (Or.inl (List.mem_of_getElem? (i := 0) rfl)) (allS (Or.inl (List.mem_of_getElem? (i := 1) rfl)) all0))
  have PE230_233 := PE230.keep K233
  have sz233 : n0 ≤ T233.heap.size := Nat.le_trans sz230 K233.1
  have N233 := Fr.app N231 N233q
  refine Go.tr (U' := T233.setTop (mkF m 19 #[.val (.ref a1), .val (.int p2)] [])) st233 ?_
  refine Go.st (U' := T233.setTop (mkF m 21 #[.val (.ref a1), .val (.int p2)] [(.ref a1), (.ref a1)])) (fun t k => ?_) ?_
  · refine XS.aloadN X233.here hx rfl (hb hby d18_19) rfl rfl ?_
    refine XS.dup X233.here hx rfl (hb hby d18_20) rfl rfl ?_
    exact k
  obtain ⟨T234, X234, e234, st234⟩ := getF X233 hx hZ hown (host := "") (Or.inl (own_w hw 17 rfl)) Via.refl rfl PZ233 (g := (mkF m 21 #[.val (.ref a1), .val (.int p2)] [(.ref a1), (.ref a1)])) rfl rfl (hb hby d18_21)
  refine Go.st (U' := T234.setTop (mkF m 24 #[.val (.ref a1), .val (.int p2)] [(.int (4 : Int32)), (.ref a1)])) (fun t k => st234 _ k) ?_
  refine Go.st (U' := T234.setTop (mkF m 26 #[.val (.ref a1), .val (.int p2)] [(.int (8 : Int32)), (.ref a1)])) (fun t k => ?_) ?_
  · refine XS.iconst X234.here hx rfl (hb hby d18_24) ?_
    refine XS.iadd X234.here hx rfl (hb hby d18_25) rfl ?_
    exact k
  obtain ⟨T235, h235, X235, e235, W235, st235⟩ := putF X234 hx hZ hown (host := "") (Or.inl (own_w hw 17 rfl)) Via.refl e234 PZ233 PE233 (Or.inl (own_w hw 18 rfl)) (own_w hw 1 rfl) (ty := .int) (by decide) rfl rfl (g := (mkF m 26 #[.val (.ref a1), .val (.int p2)] [(.int (8 : Int32)), (.ref a1)])) rfl rfl (hb hby d18_26)
  have F235 := PZ233.same W235
  have PE233_235 := PE233.wr W235
  have PV233_235 := PV233.other W235 (Or.inr (slot_ne (Or.inl (own_w hw 11 rfl)) (Or.inl (own_w hw 18 rfl)) (by decide) (t := (.array .byte)) (t' := .int) (by decide) (by decide)))
  have PA233_235 := PA233.other W235 (Ne.symm nab)
  have N235 := Fr.snoc X235 N233 gA
  have KK235 : Keep h0 h235 [a1, b1] := KK233.wr W235 (Or.inl (List.mem_of_getElem? (i := 0) rfl))
  have sz235 : n0 ≤ h235.size := Nat.le_trans sz233 (Nat.le_of_eq W235.size.symm)
  refine Go.st (U' := T235.setTop (mkF m 29 #[.val (.ref a1), .val (.int p2)] [])) (fun t k => st235 _ k) ?_
  refine own_ret (Q := Qn2 Z a1 b1 k1 c0 c1 c2 c3 c4 c5 c6 c7 c8 c9 c10 c11 c12 c13 c14 c15 p2 h0 n0) (v := none) X235 hlk (fun _ => rfl) (by decide) (by decide) ?_ (fun fs hr => X235.returnOut hx hrt (hb hby d18_29) hr)
  rw [e235]
  exact ⟨rfl, N235, KK235, PE233_235, PV233_235, F235, PA233_235⟩
theorem eff4_4 (m : MethodId) (a1 : Addr) : entryFrame m #[(.ref a1), (.int (4 : Int32)), (.int (4 : Int32)), (.int (0 : Int32))] 5 = mkF m 0 #[.val (.ref a1), .val (.int (4 : Int32)), .val (.int (4 : Int32)), .val (.int (0 : Int32)), .unset] [] := by first | (simp [entryFrame, mkF, argsToLocals, Value.category]; done) | rfl
def Qf4_4 (Z : State) (a1 : Addr) (k1 : ClassId) (c0 : Int32) (c1 : Int32) (c2 : Int32) (c3 : Int32) (c4 : Int32) (c5 : Int32) (c6 : Int32) (c7 : Int32) (c8 : Int32) (c9 : Int32) (c10 : Int32) (c11 : Int32) (c12 : Int32) (c13 : Int32) (c14 : Int32) (c15 : Int32) (h0 : Heap) (n0 : Nat) (v : Option Value) (h : Heap) (L : List Loc) : Prop := v = none ∧ Fr n0 L ∧ Keep h0 h [a1] ∧ Arv Z h a1 k1 .byte (256 : Int32) [(.int c0), (.int c1), (.int c2), (.int c3), (.int c4), (.int c5), (.int c6), (.int c7), (.int c8), (.int c9), (.int c10), (.int c11), (.int c12), (.int c13), (.int c14), (.int c15)] (.int (0 : Int32))
set_option maxRecDepth 65536 in
set_option maxHeartbeats 40000000 in
theorem rmf4_4 (l : Launch) (Z : State) (a0 : Array Value) (hw : ∀ d ∈ tables_1, d.before a0 Z = true) (ws : List Jvm.Cond) (a1 : Addr) (k1 : ClassId) (c0 : Int32) (c1 : Int32) (c2 : Int32) (c3 : Int32) (c4 : Int32) (c5 : Int32) (c6 : Int32) (c7 : Int32) (c8 : Int32) (c9 : Int32) (c10 : Int32) (c11 : Int32) (c12 : Int32) (c13 : Int32) (c14 : Int32) (c15 : Int32) (h0 : Heap) (n0 : Nat) (Z0 : n0 ≤ h0.size) (VA : Arv Z h0 a1 k1 .byte (256 : Int32) [(.int c0), (.int c1), (.int c2), (.int c3), (.int c4), (.int c5), (.int c6), (.int c7), (.int c8), (.int c9), (.int c10), (.int c11), (.int c12), (.int c13), (.int c14), (.int c15)] (.int (0 : Int32))) (gA : n0 ≤ a1) :
    MetFree l own_y4 (head1 (Jvm.Cond.code own_y4 jdk_65_method_110_code 5 none :: ws) own_R1_0_0_16) (fun a U => a = #[(.ref a1), (.int (4 : Int32)), (.int (4 : Int32)), (.int (0 : Int32))] ∧ Z.Warmed39 U.vm ∧ U.heap = h0) (fun _ _ _ _ _ => True) (fun _ U o U' => ∃ v L, o = .returned v ∧ Qf4_4 Z a1 k1 c0 c1 c2 c3 c4 c5 c6 c7 c8 c9 c10 c11 c12 c13 c14 c15 h0 n0 v U'.heap L ∧ FrameEnd U o U' L (own_R1_0_0_16).cells (own_R1_0_0_16).slots) := by
  refine MetFree.of_bodySF (plainFor_of_name pn_4) hisR ?_
  intro p e s m args below meth c s₁ Bd hml0 hP hK
  obtain ⟨rfl, hZ, hh⟩ := hP
  have hx := Bd.exec
  have hby := Bd.bytes
  have hml : c.maxLocals = 5 := hml0
  have hown : s.vm.findClass "java/util/Arrays" = some m.cls := findClass_of_methodNamed Bd.named
  have hnm := (name_of_methodNamed Bd.named Bd.method).1
  have hlk : meth.locks = false := BodyLoose.notSynchronized Bd
  have hrt := Bd.returns
  have X0 : Stand p l e own_R1_0_0_16 s m #[(.ref a1), (.int (4 : Int32)), (.int (4 : Int32)), (.int (0 : Int32))] below meth c s₁ [] 0 0 := Stand.of_body Bd
  have e0 : s₁.heap = h0 := by rw [← hh, Bd.state]; rfl
  have N0 := Fr.nil n0
  refine (show Go p e below (fun s₂ o => ∃ v L, o = .returned v ∧ Qf4_4 Z a1 k1 c0 c1 c2 c3 c4 c5 c6 c7 c8 c9 c10 c11 c12 c13 c14 c15 h0 n0 v s₂.heap L ∧ FrameEnd s o s₂ L 0 0) (s₁.setTop (entryFrame m #[(.ref a1), (.int (4 : Int32)), (.int (4 : Int32)), (.int (0 : Int32))] 5)) from ?_)
  rw [eff4_4]
  obtain ⟨cl236, Ar236, q236, S236, N236, H236, G236⟩ := id VA
  refine Go.st (U' := s₁.setTop (mkF m 4 #[.val (.ref a1), .val (.int (4 : Int32)), .val (.int (4 : Int32)), .val (.int (0 : Int32)), .unset] [(.int (4 : Int32)), (.int (4 : Int32)), (.int (256 : Int32))])) (fun t k => ?_) ?_
  · refine XS.aloadN X0.here hx rfl (hb hby d13_0) rfl rfl ?_
    refine X0.arraylength hx (by rw [e0]; exact Ar236.1) (State.isArrayOf_alike hZ.alike Ar236.2.1) (g := (mkF m 1 #[.val (.ref a1), .val (.int (4 : Int32)), .val (.int (4 : Int32)), .val (.int (0 : Int32)), .unset] [(.ref a1)])) rfl rfl (hb hby d13_1) _ ?_
    rw [len_of S236 N236]
    refine XS.iloadN X0.here hx rfl (hb hby d13_2) rfl ?_
    refine XS.iloadN X0.here hx rfl (hb hby d13_3) rfl ?_
    exact k
  obtain ⟨_, _, ⟨T237, L237, k237, n237⟩, -, X237, ⟨Lc237, hQ237, l237, y237, z237⟩, st237⟩ := Jvm.LawKit.callS X0 hx (y := own_y2) hown (mvT hZ (own_w hw 65 rfl)) (mvT hZ (own_w hw 66 rfl)) (mvT hZ (own_w hw 21 rfl)) (mvT hZ (own_w hw 67 rfl)) (by decide) (backOf (W := 0) (rmk l Z a0 hw [] (256 : Int32) (4 : Int32) (4 : Int32) h0 n0 Z0 (by decide) (by decide) (by decide)) hZ (own_w hw 67 rfl) (own_w hw 21 rfl) (by decide) (by decide)) (g := (mkF m 4 #[.val (.ref a1), .val (.int (4 : Int32)), .val (.int (4 : Int32)), .val (.int (0 : Int32)), .unset] [(.int (4 : Int32)), (.int (4 : Int32)), (.int (256 : Int32))])) rfl (by rw [hml]; rfl) (argsL := [(.int (256 : Int32)), (.int (4 : Int32)), (.int (4 : Int32))]) (rest := []) (lenOf pd_1 rfl) rfl (by show 2 * 0 + _ ≤ _; exact Nat.le_of_eq rfl) (hb hby d13_4) (fun _ _ => ⟨rfl, e0, (by decide : 0 + 0 ≤ _), (by decide : 0 + 0 ≤ _)⟩)
  dsimp only [Pt.U, Pt.locs, Pt.cells, Pt.slots] at X237 l237 y237 z237 st237 hQ237
  subst l237 y237 z237
  obtain ⟨rfl, N237q, e237⟩ := hQ237
  have N237 := Fr.app N0 N237q
  refine Go.st (U' := T237.setTop (mkF m 7 #[.val (.ref a1), .val (.int (4 : Int32)), .val (.int (4 : Int32)), .val (.int (0 : Int32)), .unset] [])) (fun t k => st237 _ k) ?_
  refine Go.st (U' := T237.setTop (mkF m 27 #[.val (.ref a1), .val (.int (4 : Int32)), .val (.int (4 : Int32)), .val (.int (0 : Int32)), .val (.int (4 : Int32))] [])) (fun t k => ?_) ?_
  · refine XS.iloadN X237.here hx rfl (hb hby d13_7) rfl ?_
    refine XS.istore X237.here hx rfl (hb hby d13_8) rfl (l' := #[.val (.ref a1), .val (.int (4 : Int32)), .val (.int (4 : Int32)), .val (.int (0 : Int32)), .val (.int (4 : Int32))]) rfl ?_
    refine XS.iload X237.here hx rfl (hb hby d13_10) rfl ?_
    refine XS.iloadN X237.here hx rfl (hb hby d13_12) rfl ?_
    refine XS.icmpYes X237.here hx rfl (pc0 := 13) (pc' := 27) rfl (hb hby d13_13) rfl (flt (by decide : ¬ ((4 : Int32) < (4 : Int32)))).2.1 (by decide) (by decide) ?_
    exact k
  refine own_ret (Q := Qf4_4 Z a1 k1 c0 c1 c2 c3 c4 c5 c6 c7 c8 c9 c10 c11 c12 c13 c14 c15 h0 n0) (v := none) X237 hlk (fun _ => rfl) (by decide) (by decide) ?_ (fun fs hr => X237.returnOut hx hrt (hb hby d13_27) hr)
  rw [e237]
  exact ⟨rfl, N237, (Keep.refl h0 [a1]), VA⟩
theorem efa4_4 (m : MethodId) (a1 : Addr) : entryFrame m #[(.ref a1), (.int (4 : Int32))] 3 = mkF m 0 #[.val (.ref a1), .val (.int (4 : Int32)), .unset] [] := by first | (simp [entryFrame, mkF, argsToLocals, Value.category]; done) | rfl
def Qa4_4 (Z : State) (a1 : Addr) (b1 : Addr) (k1 : ClassId) (c0 : Int32) (c1 : Int32) (c2 : Int32) (c3 : Int32) (c4 : Int32) (c5 : Int32) (c6 : Int32) (c7 : Int32) (c8 : Int32) (c9 : Int32) (c10 : Int32) (c11 : Int32) (c12 : Int32) (c13 : Int32) (c14 : Int32) (c15 : Int32) (h0 : Heap) (n0 : Nat) (v : Option Value) (h : Heap) (L : List Loc) : Prop := v = none ∧ Fr n0 L ∧ Keep h0 h [a1, b1] ∧ Exa Z h a1 "com/example/portcullis/portcullis/io/CdrOutput" ∧ Fld Z h a1 "com/example/portcullis/portcullis/io/CdrOutput" "buffer" "[B" (.ref b1) ∧ Fld Z h a1 "com/example/portcullis/portcullis/io/CdrOutput" "size" "I" (.int (4 : Int32)) ∧ Arv Z h b1 k1 .byte (256 : Int32) [(.int c0), (.int c1), (.int c2), (.int c3), (.int c4), (.int c5), (.int c6), (.int c7), (.int c8), (.int c9), (.int c10), (.int c11), (.int c12), (.int c13), (.int c14), (.int c15)] (.int (0 : Int32))
set_option maxRecDepth 65536 in
set_option maxHeartbeats 40000000 in
theorem rma4_4 (l : Launch) (Z : State) (a0 : Array Value) (hw : ∀ d ∈ tables_1, d.before a0 Z = true) (ws : List Jvm.Cond) (a1 : Addr) (b1 : Addr) (k1 : ClassId) (c0 : Int32) (c1 : Int32) (c2 : Int32) (c3 : Int32) (c4 : Int32) (c5 : Int32) (c6 : Int32) (c7 : Int32) (c8 : Int32) (c9 : Int32) (c10 : Int32) (c11 : Int32) (c12 : Int32) (c13 : Int32) (c14 : Int32) (c15 : Int32) (h0 : Heap) (n0 : Nat) (Z0 : n0 ≤ h0.size) (EX : Exa Z h0 a1 "com/example/portcullis/portcullis/io/CdrOutput") (FB : Fld Z h0 a1 "com/example/portcullis/portcullis/io/CdrOutput" "buffer" "[B" (.ref b1)) (FS : Fld Z h0 a1 "com/example/portcullis/portcullis/io/CdrOutput" "size" "I" (.int (4 : Int32))) (VA : Arv Z h0 b1 k1 .byte (256 : Int32) [(.int c0), (.int c1), (.int c2), (.int c3), (.int c4), (.int c5), (.int c6), (.int c7), (.int c8), (.int c9), (.int c10), (.int c11), (.int c12), (.int c13), (.int c14), (.int c15)] (.int (0 : Int32))) (gA : n0 ≤ a1) (gB : n0 ≤ b1) (nab : a1 ≠ b1) :
    MetFree l own_y5 (head1 (Jvm.Cond.code own_y5 prog_14_method_14_code 3 none :: ws) own_R2_0_0_48) (fun a U => a = #[(.ref a1), (.int (4 : Int32))] ∧ Z.Warmed39 U.vm ∧ U.heap = h0) (fun _ _ _ _ _ => True) (fun _ U o U' => ∃ v L, o = .returned v ∧ Qa4_4 Z a1 b1 k1 c0 c1 c2 c3 c4 c5 c6 c7 c8 c9 c10 c11 c12 c13 c14 c15 h0 n0 v U'.heap L ∧ FrameEnd U o U' L (own_R2_0_0_48).cells (own_R2_0_0_48).slots) := by
  refine MetFree.of_bodySF (plainFor_of_name pn_0) hisR ?_
  intro p e s m args below meth c s₁ Bd hml0 hP hK
  obtain ⟨rfl, hZ, hh⟩ := hP
  have hx := Bd.exec
  have hby := Bd.bytes
  have hml : c.maxLocals = 3 := hml0
  have hown : s.vm.findClass "com/example/portcullis/portcullis/io/CdrOutput" = some m.cls := findClass_of_methodNamed Bd.named
  have hnm := (name_of_methodNamed Bd.named Bd.method).1
  have hlk : meth.locks = false := BodyLoose.notSynchronized Bd
  have hrt := Bd.returns
  have X0 : Stand p l e own_R2_0_0_48 s m #[(.ref a1), (.int (4 : Int32))] below meth c s₁ [] 0 0 := Stand.of_body Bd
  have e0 : s₁.heap = h0 := by rw [← hh, Bd.state]; rfl
  have N0 := Fr.nil n0
  refine (show Go p e below (fun s₂ o => ∃ v L, o = .returned v ∧ Qa4_4 Z a1 b1 k1 c0 c1 c2 c3 c4 c5 c6 c7 c8 c9 c10 c11 c12 c13 c14 c15 h0 n0 v s₂.heap L ∧ FrameEnd s o s₂ L 0 0) (s₁.setTop (entryFrame m #[(.ref a1), (.int (4 : Int32))] 3)) from ?_)
  rw [efa4_4]
  refine Go.st (U' := s₁.setTop (mkF m 1 #[.val (.ref a1), .val (.int (4 : Int32)), .unset] [(.ref a1)])) (fun t k => ?_) ?_
  · refine XS.aloadN X0.here hx rfl (hb hby d12_0) rfl rfl ?_
    exact k
  obtain ⟨T238, X238, e238, st238⟩ := getF X0 hx hZ hown (host := "") (Or.inl (own_w hw 17 rfl)) Via.refl e0 FS (g := (mkF m 1 #[.val (.ref a1), .val (.int (4 : Int32)), .unset] [(.ref a1)])) rfl rfl (hb hby d12_1)
  refine Go.st (U' := T238.setTop (mkF m 4 #[.val (.ref a1), .val (.int (4 : Int32)), .unset] [(.int (4 : Int32))])) (fun t k => st238 _ k) ?_
  refine Go.st (U' := T238.setTop (mkF m 12 #[.val (.ref a1), .val (.int (4 : Int32)), .val (.int (0 : Int32))] [(.int (0 : Int32)), (.ref a1)])) (fun t k => ?_) ?_
  · refine XS.ineg X238.here hx rfl (hb hby d12_4) rfl ?_
    refine XS.iloadN X238.here hx rfl (hb hby d12_5) rfl ?_
    refine XS.iconst X238.here hx rfl (hb hby d12_6) ?_
    refine XS.isub X238.here hx rfl (hb hby d12_7) rfl ?_
    refine XS.iand X238.here hx rfl (hb hby d12_8) rfl ?_
    refine XS.istoreN X238.here hx rfl (hb hby d12_9) rfl (l' := #[.val (.ref a1), .val (.int (4 : Int32)), .val (.int (0 : Int32))]) rfl ?_
    refine XS.aloadN X238.here hx rfl (hb hby d12_10) rfl rfl ?_
    refine XS.iloadN X238.here hx rfl (hb hby d12_11) rfl ?_
    exact k
  obtain ⟨cq239, q239, q239'⟩ := EX.cell
  obtain ⟨_, _, ⟨T239, L239, k239, n239⟩, -, X239, ⟨Lc239, hQ239, l239, y239, z239⟩, st239⟩ := X238.privateBack hx (y := own_y1) hown (mvT hZ (own_w hw 48 rfl)) (mvT hZ (own_w hw 49 rfl)) (own_selp (y := own_y1) (mvT hZ (own_w hw 1 rfl)) (Cond.privateMethod_at (mvP hZ (own_w hw 50 rfl) (args := #[]))) (mvT hZ (own_w hw 49 rfl)) (by decide)) (Cond.privateMethod_at (mvP hZ (own_w hw 50 rfl) (args := #[]))) (mvT hZ (own_w hw 51 rfl)) (by decide) (backOf (W := 0) (rmr l Z a0 hw [] a1 (0 : Int32) b1 k1 (4 : Int32) [(.int c0), (.int c1), (.int c2), (.int c3), (.int c4), (.int c5), (.int c6), (.int c7), (.int c8), (.int c9), (.int c10), (.int c11), (.int c12), (.int c13), (.int c14), (.int c15)] h0 n0 Z0 FB FS VA (by decide)) hZ (own_w hw 51 rfl) (own_w hw 2 rfl) (by decide) (by decide)) (g := (mkF m 12 #[.val (.ref a1), .val (.int (4 : Int32)), .val (.int (0 : Int32))] [(.int (0 : Int32)), (.ref a1)])) rfl (by rw [hml]; rfl) (Steps.refl _) (a := a1) (by rw [e238]; exact q239) q239' (argsL := [(.int (0 : Int32))]) (rest := []) (lenOf pd_0 rfl) rfl (by show 2 * 0 + _ ≤ _; exact Nat.le_of_eq rfl) (hb hby d12_12) (fun _ _ => ⟨rfl, e238, (by decide : 0 + 0 ≤ _), (by decide : 0 + 0 ≤ _)⟩)
  dsimp only [Pt.U, Pt.locs, Pt.cells, Pt.slots] at X239 l239 y239 z239 st239 hQ239
  subst l239 y239 z239
  obtain ⟨rfl, N239q, e239⟩ := hQ239
  have N239 := Fr.app N0 N239q
  refine Go.tr (U' := T239.setTop (mkF m 15 #[.val (.ref a1), .val (.int (4 : Int32)), .val (.int (0 : Int32))] [])) st239 ?_
  refine Go.st (U' := T239.setTop (mkF m 16 #[.val (.ref a1), .val (.int (4 : Int32)), .val (.int (0 : Int32))] [(.ref a1)])) (fun t k => ?_) ?_
  · refine XS.aloadN X239.here hx rfl (hb hby d12_15) rfl rfl ?_
    exact k
  obtain ⟨T240, X240, e240, st240⟩ := getF X239 hx hZ hown (host := "") (Or.inl (own_w hw 10 rfl)) Via.refl e239 FB (g := (mkF m 16 #[.val (.ref a1), .val (.int (4 : Int32)), .val (.int (0 : Int32))] [(.ref a1)])) rfl rfl (hb hby d12_16)
  refine Go.st (U' := T240.setTop (mkF m 19 #[.val (.ref a1), .val (.int (4 : Int32)), .val (.int (0 : Int32))] [(.ref b1)])) (fun t k => st240 _ k) ?_
  refine Go.st (U' := T240.setTop (mkF m 20 #[.val (.ref a1), .val (.int (4 : Int32)), .val (.int (0 : Int32))] [(.ref a1), (.ref b1)])) (fun t k => ?_) ?_
  · refine XS.aloadN X240.here hx rfl (hb hby d12_19) rfl rfl ?_
    exact k
  obtain ⟨T241, X241, e241, st241⟩ := getF X240 hx hZ hown (host := "") (Or.inl (own_w hw 17 rfl)) Via.refl e240 FS (g := (mkF m 20 #[.val (.ref a1), .val (.int (4 : Int32)), .val (.int (0 : Int32))] [(.ref a1), (.ref b1)])) rfl rfl (hb hby d12_20)
  refine Go.st (U' := T241.setTop (mkF m 23 #[.val (.ref a1), .val (.int (4 : Int32)), .val (.int (0 : Int32))] [(.int (4 : Int32)), (.ref b1)])) (fun t k => st241 _ k) ?_
  refine Go.st (U' := T241.setTop (mkF m 24 #[.val (.ref a1), .val (.int (4 : Int32)), .val (.int (0 : Int32))] [(.ref a1), (.int (4 : Int32)), (.ref b1)])) (fun t k => ?_) ?_
  · refine XS.aloadN X241.here hx rfl (hb hby d12_23) rfl rfl ?_
    exact k
  obtain ⟨T242, X242, e242, st242⟩ := getF X241 hx hZ hown (host := "") (Or.inl (own_w hw 17 rfl)) Via.refl e241 FS (g := (mkF m 24 #[.val (.ref a1), .val (.int (4 : Int32)), .val (.int (0 : Int32))] [(.ref a1), (.int (4 : Int32)), (.ref b1)])) rfl rfl (hb hby d12_24)
  refine Go.st (U' := T242.setTop (mkF m 27 #[.val (.ref a1), .val (.int (4 : Int32)), .val (.int (0 : Int32))] [(.int (4 : Int32)), (.int (4 : Int32)), (.ref b1)])) (fun t k => st242 _ k) ?_
  refine Go.st (U' := T242.setTop (mkF m 30 #[.val (.ref a1), .val (.int (4 : Int32)), .val (.int (0 : Int32))] [(.int (0 : Int32)), (.int (4 : Int32)), (.int (4 : Int32)), (.ref b1)])) (fun t k => ?_) ?_
  · refine XS.iloadN X242.here hx rfl (hb hby d12_27) rfl ?_
    refine XS.iadd X242.here hx rfl (hb hby d12_28) rfl ?_
    refine XS.iconst X242.here hx rfl (hb hby d12_29) ?_
    exact k
  obtain ⟨_, _, ⟨T243, L243, k243, n243⟩, -, X243, ⟨Lc243, hQ243, l243, y243, z243⟩, st243⟩ := Jvm.LawKit.callS X242 hx (y := own_y4) hown (mvT hZ (own_w hw 62 rfl)) (mvT hZ (own_w hw 63 rfl)) (mvT hZ (own_w hw 21 rfl)) (mvT hZ (own_w hw 64 rfl)) (by decide) (backOf (W := 0) (rmf4_4 l Z a0 hw [] b1 k1 c0 c1 c2 c3 c4 c5 c6 c7 c8 c9 c10 c11 c12 c13 c14 c15 h0 n0 Z0 VA gB) hZ (own_w hw 64 rfl) (own_w hw 21 rfl) (by decide) (by decide)) (g := (mkF m 30 #[.val (.ref a1), .val (.int (4 : Int32)), .val (.int (0 : Int32))] [(.int (0 : Int32)), (.int (4 : Int32)), (.int (4 : Int32)), (.ref b1)])) rfl (by rw [hml]; rfl) (argsL := [(.ref b1), (.int (4 : Int32)), (.int (4 : Int32)), (.int (0 : Int32))]) (rest := []) (lenOf pd_2 rfl) rfl (by show 2 * 0 + _ ≤ _; exact Nat.le_of_eq rfl) (hb hby d12_30) (fun _ _ => ⟨rfl, e242, (by decide : 0 + 0 ≤ _), (by decide : 0 + 0 ≤ _)⟩)
  dsimp only [Pt.U, Pt.locs, Pt.cells, Pt.slots] at X243 l243 y243 z243 st243 hQ243
  subst l243 y243 z243
  obtain ⟨rfl, N243q, K243, P243_0⟩ := hQ243
  have KK243 : Keep h0 T243.heap [a1, b1] := (Keep.refl h0 [a1, b1]).trans K243 (allS (Or.inl (List.mem_of_getElem? (i := 1) rfl)) all0)
  have EX_243 := EX.keep K243
  have FB_243 := FB.keep K243 (ninS nab nin0)
  have FS_243 := FS.keep K243 (ninS nab nin0)
  have sz243 : n0 ≤ T243.heap.size := Nat.le_trans Z0 K243.1
  have N243 := Fr.app N239 N243q
  refine Go.st (U' := T243.setTop (mkF m 33 #[.val (.ref a1), .val (.int (4 : Int32)), .val (.int (0 : Int32))] [])) (fun t k => st243 _ k) ?_
  refine Go.st (U' := T243.setTop (mkF m 35 #[.val (.ref a1), .val (.int (4 : Int32)), .val (.int (0 : Int32))] [(.ref a1), (.ref a1)])) (fun t k => ?_) ?_
  · refine XS.aloadN X243.here hx rfl (hb hby d12_33) rfl rfl ?_
    refine XS.dup X243.here hx rfl (hb hby d12_34) rfl rfl ?_
    exact k
  obtain ⟨T244, X244, e244, st244⟩ := getF X243 hx hZ hown (host := "") (Or.inl (own_w hw 17 rfl)) Via.refl rfl FS_243 (g := (mkF m 35 #[.val (.ref a1), .val (.int (4 : Int32)), .val (.int (0 : Int32))] [(.ref a1), (.ref a1)])) rfl rfl (hb hby d12_35)
  refine Go.st (U' := T244.setTop (mkF m 38 #[.val (.ref a1), .val (.int (4 : Int32)), .val (.int (0 : Int32))] [(.int (4 : Int32)), (.ref a1)])) (fun t k => st244 _ k) ?_
  refine Go.st (U' := T244.setTop (mkF m 40 #[.val (.ref a1), .val (.int (4 : Int32)), .val (.int (0 : Int32))] [(.int (4 : Int32)), (.ref a1)])) (fun t k => ?_) ?_
  · refine XS.iloadN X244.here hx rfl (hb hby d12_38) rfl ?_
    refine XS.iadd X244.here hx rfl (hb hby d12_39) rfl ?_
    exact k
  obtain ⟨T245, h245, X245, e245, W245, st245⟩ := putF X244 hx hZ hown (host := "") (Or.inl (own_w hw 17 rfl)) Via.refl e244 FS_243 EX_243 (Or.inl (own_w hw 18 rfl)) (own_w hw 1 rfl) (ty := .int) (by decide) rfl rfl (g := (mkF m 40 #[.val (.ref a1), .val (.int (4 : Int32)), .val (.int (0 : Int32))] [(.int (4 : Int32)), (.ref a1)])) rfl rfl (hb hby d12_40)
  have F245 := FS_243.same W245
  have EX_245 := EX_243.wr W245
  have FB_245 := FB_243.other W245 (Or.inr (slot_ne (Or.inl (own_w hw 11 rfl)) (Or.inl (own_w hw 18 rfl)) (by decide) (t := (.array .byte)) (t' := .int) (by decide) (by decide)))
  have P243_0_245 := P243_0.other W245 (Ne.symm nab)
  have N245 := Fr.snoc X245 N243 gA
  have KK245 : Keep h0 h245 [a1, b1] := KK243.wr W245 (Or.inl (List.mem_of_getElem? (i := 0) rfl))
  have sz245 : n0 ≤ h245.size := Nat.le_trans sz243 (Nat.le_of_eq W245.size.symm)
  refine Go.st (U' := T245.setTop (mkF m 43 #[.val (.ref a1), .val (.int (4 : Int32)), .val (.int (0 : Int32))] [])) (fun t k => st245 _ k) ?_
  refine own_ret (Q := Qa4_4 Z a1 b1 k1 c0 c1 c2 c3 c4 c5 c6 c7 c8 c9 c10 c11 c12 c13 c14 c15 h0 n0) (v := none) X245 hlk (fun _ => rfl) (by decide) (by decide) ?_ (fun fs hr => X245.returnOut hx hrt (hb hby d12_43) hr)
  rw [e245]
  exact ⟨rfl, N245, KK245, EX_245, FB_245, F245, P243_0_245⟩
theorem efn4 (m : MethodId) (a1 : Addr) (p2 : Int32) : entryFrame m #[(.ref a1), (.int p2)] 2 = mkF m 0 #[.val (.ref a1), .val (.int p2)] [] := by first | (simp [entryFrame, mkF, argsToLocals, Value.category]; done) | rfl
def Qn4 (Z : State) (a1 : Addr) (b1 : Addr) (k1 : ClassId) (c0 : Int32) (c1 : Int32) (c2 : Int32) (c3 : Int32) (c4 : Int32) (c5 : Int32) (c6 : Int32) (c7 : Int32) (c8 : Int32) (c9 : Int32) (c10 : Int32) (c11 : Int32) (c12 : Int32) (c13 : Int32) (c14 : Int32) (c15 : Int32) (p2 : Int32) (h0 : Heap) (n0 : Nat) (v : Option Value) (h : Heap) (L : List Loc) : Prop := v = none ∧ Fr n0 L ∧ Keep h0 h [a1, b1] ∧ Exa Z h a1 "com/example/portcullis/portcullis/io/CdrOutput" ∧ Fld Z h a1 "com/example/portcullis/portcullis/io/CdrOutput" "buffer" "[B" (.ref b1) ∧ Fld Z h a1 "com/example/portcullis/portcullis/io/CdrOutput" "size" "I" (.int (8 : Int32)) ∧ Arv Z h b1 k1 .byte (256 : Int32) [(.int c0), (.int c1), (.int c2), (.int c3), (.int (own_b3 p2)), (.int (own_b2 p2)), (.int (own_b1 p2)), (.int (own_b0 p2)), (.int c8), (.int c9), (.int c10), (.int c11), (.int c12), (.int c13), (.int c14), (.int c15)] (.int (0 : Int32))
set_option maxRecDepth 65536 in
set_option maxHeartbeats 40000000 in
theorem rmn4 (l : Launch) (Z : State) (a0 : Array Value) (hw : ∀ d ∈ tables_1, d.before a0 Z = true) (ws : List Jvm.Cond) (a1 : Addr) (b1 : Addr) (k1 : ClassId) (c0 : Int32) (c1 : Int32) (c2 : Int32) (c3 : Int32) (c4 : Int32) (c5 : Int32) (c6 : Int32) (c7 : Int32) (c8 : Int32) (c9 : Int32) (c10 : Int32) (c11 : Int32) (c12 : Int32) (c13 : Int32) (c14 : Int32) (c15 : Int32) (p2 : Int32) (h0 : Heap) (n0 : Nat) (Z0 : n0 ≤ h0.size) (EX : Exa Z h0 a1 "com/example/portcullis/portcullis/io/CdrOutput") (FB : Fld Z h0 a1 "com/example/portcullis/portcullis/io/CdrOutput" "buffer" "[B" (.ref b1)) (FS : Fld Z h0 a1 "com/example/portcullis/portcullis/io/CdrOutput" "size" "I" (.int (4 : Int32))) (VA : Arv Z h0 b1 k1 .byte (256 : Int32) [(.int c0), (.int c1), (.int c2), (.int c3), (.int c4), (.int c5), (.int c6), (.int c7), (.int c8), (.int c9), (.int c10), (.int c11), (.int c12), (.int c13), (.int c14), (.int c15)] (.int (0 : Int32))) (gA : n0 ≤ a1) (gB : n0 ≤ b1) (nab : a1 ≠ b1) :
    MetFree l own_y8 (head1 (Jvm.Cond.code own_y8 prog_14_method_5_code 2 none :: ws) own_R3_0_0_80) (fun a U => a = #[(.ref a1), (.int p2)] ∧ Z.Warmed39 U.vm ∧ U.heap = h0) (fun _ _ _ _ _ => True) (fun _ U o U' => ∃ v L, o = .returned v ∧ Qn4 Z a1 b1 k1 c0 c1 c2 c3 c4 c5 c6 c7 c8 c9 c10 c11 c12 c13 c14 c15 p2 h0 n0 v U'.heap L ∧ FrameEnd U o U' L (own_R3_0_0_80).cells (own_R3_0_0_80).slots) := by
  refine MetFree.of_bodySF (plainFor_of_name pn_0) hisR ?_
  intro p e s m args below meth c s₁ Bd hml0 hP hK
  obtain ⟨rfl, hZ, hh⟩ := hP
  have hx := Bd.exec
  have hby := Bd.bytes
  have hml : c.maxLocals = 2 := hml0
  have hown : s.vm.findClass "com/example/portcullis/portcullis/io/CdrOutput" = some m.cls := findClass_of_methodNamed Bd.named
  have hnm := (name_of_methodNamed Bd.named Bd.method).1
  have hlk : meth.locks = false := BodyLoose.notSynchronized Bd
  have hrt := Bd.returns
  have X0 : Stand p l e own_R3_0_0_80 s m #[(.ref a1), (.int p2)] below meth c s₁ [] 0 0 := Stand.of_body Bd
  have e0 : s₁.heap = h0 := by rw [← hh, Bd.state]; rfl
  have N0 := Fr.nil n0
  refine (show Go p e below (fun s₂ o => ∃ v L, o = .returned v ∧ Qn4 Z a1 b1 k1 c0 c1 c2 c3 c4 c5 c6 c7 c8 c9 c10 c11 c12 c13 c14 c15 p2 h0 n0 v s₂.heap L ∧ FrameEnd s o s₂ L 0 0) (s₁.setTop (entryFrame m #[(.ref a1), (.int p2)] 2)) from ?_)
  rw [efn4]
  refine Go.st (U' := s₁.setTop (mkF m 2 #[.val (.ref a1), .val (.int p2)] [(.int (4 : Int32)), (.ref a1)])) (fun t k => ?_) ?_
  · refine XS.aloadN X0.here hx rfl (hb hby d18_0) rfl rfl ?_
    refine XS.iconst X0.here hx rfl (hb hby d18_1) ?_
    exact k
  obtain ⟨cq246, kq246, q246a, q246b, q246c⟩ := isOf hZ e0 EX
  obtain ⟨_, _, ⟨T246, L246, k246, n246⟩, -, X246, ⟨Lc246, hQ246, l246, y246, z246⟩, st246⟩ := X0.virtualBack hx (y := own_y5) (z := own_y5) hown (mvT hZ (own_w hw 57 rfl)) (mvT hZ (own_w hw 58 rfl)) (notFace_of_selects (args := #[]) (mvT hZ (own_w hw 60 rfl))) (mvT hZ (own_w hw 60 rfl)) (mvT hZ (own_w hw 59 rfl)) (by decide) (backOf (W := 0) (rma4_4 l Z a0 hw [] a1 b1 k1 c0 c1 c2 c3 c4 c5 c6 c7 c8 c9 c10 c11 c12 c13 c14 c15 h0 n0 Z0 EX FB FS VA gA gB nab) hZ (own_w hw 61 rfl) (own_w hw 2 rfl) (by decide) (by decide)) q246a q246c (g := (mkF m 2 #[.val (.ref a1), .val (.int p2)] [(.int (4 : Int32)), (.ref a1)])) rfl (by rw [hml]; rfl) (Steps.refl _) (argsL := [(.int (4 : Int32))]) (rest := []) (lenOf pd_0 rfl) rfl (by show 2 * 0 + _ ≤ _; exact Nat.le_of_eq rfl) (hb hby d18_2) (fun _ _ => ⟨rfl, e0, (by decide : 0 + 0 ≤ _), (by decide : 0 + 0 ≤ _)⟩)
  dsimp only [Pt.U, Pt.locs, Pt.cells, Pt.slots] at X246 l246 y246 z246 st246 hQ246
  subst l246 y246 z246
  obtain ⟨rfl, N246q, K246, PE246, PV246, PZ246, PA246⟩ := hQ246
  have KK246 : Keep h0 T246.heap [a1, b1] := (Keep.refl h0 [a1, b1]).trans K246 (allS (Or.inl (List.mem_of_getElem? (i := 0) rfl)) (allS (Or.inl (List.mem_of_getElem? (i := 1) rfl)) all0))
  have EX_246 := EX.keep K246
  have sz246 : n0 ≤ T246.heap.size := Nat.le_trans Z0 K246.1
  have N246 := Fr.app N0 N246q
  refine Go.tr (U' := T246.setTop (mkF m 5 #[.val (.ref a1), .val (.int p2)] [])) st246 ?_
  refine Go.st (U' := T246.setTop (mkF m 7 #[.val (.ref a1), .val (.int p2)] [(.int (4 : Int32)), (.ref a1)])) (fun t k => ?_) ?_
  · refine XS.aloadN X246.here hx rfl (hb hby d18_5) rfl rfl ?_
    refine XS.iconst X246.here hx rfl (hb hby d18_6) ?_
    exact k
  obtain ⟨cq247, q247, q247'⟩ := PE246.cell
  obtain ⟨_, _, ⟨T247, L247, k247, n247⟩, -, X247, ⟨Lc247, hQ247, l247, y247, z247⟩, st247⟩ := X246.privateBack hx (y := own_y1) hown (mvT hZ (own_w hw 48 rfl)) (mvT hZ (own_w hw 49 rfl)) (own_selp (y := own_y1) (mvT hZ (own_w hw 1 rfl)) (Cond.privateMethod_at (mvP hZ (own_w hw 50 rfl) (args := #[]))) (mvT hZ (own_w hw 49 rfl)) (by decide)) (Cond.privateMethod_at (mvP hZ (own_w hw 50 rfl) (args := #[]))) (mvT hZ (own_w hw 51 rfl)) (by decide) (backOf (W := 0) (rmr l Z a0 hw [] a1 (4 : Int32) b1 k1 (4 : Int32) [(.int c0), (.int c1), (.int c2), (.int c3), (.int c4), (.int c5), (.int c6), (.int c7), (.int c8), (.int c9), (.int c10), (.int c11), (.int c12), (.int c13), (.int c14), (.int c15)] T246.heap n0 sz246 PV246 PZ246 PA246 (by decide)) hZ (own_w hw 51 rfl) (own_w hw 2 rfl) (by decide) (by decide)) (g := (mkF m 7 #[.val (.ref a1), .val (.int p2)] [(.int (4 : Int32)), (.ref a1)])) rfl (by rw [hml]; rfl) (Steps.refl _) (a := a1) q247 q247' (argsL := [(.int (4 : Int32))]) (rest := []) (lenOf pd_0 rfl) rfl (by show 2 * 0 + _ ≤ _; exact Nat.le_of_eq rfl) (hb hby d18_7) (fun _ _ => ⟨rfl, rfl, (by decide : 0 + 0 ≤ _), (by decide : 0 + 0 ≤ _)⟩)
  dsimp only [Pt.U, Pt.locs, Pt.cells, Pt.slots] at X247 l247 y247 z247 st247 hQ247
  subst l247 y247 z247
  obtain ⟨rfl, N247q, e247⟩ := hQ247
  have N247 := Fr.app N246 N247q
  refine Go.tr (U' := T247.setTop (mkF m 10 #[.val (.ref a1), .val (.int p2)] [])) st247 ?_
  refine Go.st (U' := T247.setTop (mkF m 12 #[.val (.ref a1), .val (.int p2)] [(.ref a1), (.ref a1)])) (fun t k => ?_) ?_
  · refine XS.aloadN X247.here hx rfl (hb hby d18_10) rfl rfl ?_
    refine XS.aloadN X247.here hx rfl (hb hby d18_11) rfl rfl ?_
    exact k
  obtain ⟨T248, X248, e248, st248⟩ := getF X247 hx hZ hown (host := "") (Or.inl (own_w hw 17 rfl)) Via.refl e247 PZ246 (g := (mkF m 12 #[.val (.ref a1), .val (.int p2)] [(.ref a1), (.ref a1)])) rfl rfl (hb hby d18_12)
  refine Go.st (U' := T248.setTop (mkF m 15 #[.val (.ref a1), .val (.int p2)] [(.int (4 : Int32)), (.ref a1)])) (fun t k => st248 _ k) ?_
  refine Go.st (U' := T248.setTop (mkF m 16 #[.val (.ref a1), .val (.int p2)] [(.int p2), (.int (4 : Int32)), (.ref a1)])) (fun t k => ?_) ?_
  · refine XS.iloadN X248.here hx rfl (hb hby d18_15) rfl ?_
    exact k
  obtain ⟨cq249, q249, q249'⟩ := PE246.cell
  obtain ⟨_, _, ⟨T249, L249, k249, n249⟩, -, X249, ⟨Lc249, hQ249, l249, y249, z249⟩, st249⟩ := X248.privateBack hx (y := own_y7) hown (mvT hZ (own_w hw 73 rfl)) (mvT hZ (own_w hw 74 rfl)) (own_selp (y := own_y7) (mvT hZ (own_w hw 1 rfl)) (Cond.privateMethod_at (mvP hZ (own_w hw 75 rfl) (args := #[]))) (mvT hZ (own_w hw 74 rfl)) (by decide)) (Cond.privateMethod_at (mvP hZ (own_w hw 75 rfl) (args := #[]))) (mvT hZ (own_w hw 76 rfl)) (by decide) (backOf (W := 0) (rmp4_4 l Z a0 hw [] a1 b1 k1 c0 c1 c2 c3 c4 c5 c6 c7 c8 c9 c10 c11 c12 c13 c14 c15 p2 T246.heap n0 sz246 PE246 PV246 PZ246 PA246 gA gB nab) hZ (own_w hw 76 rfl) (own_w hw 2 rfl) (by decide) (by decide)) (g := (mkF m 16 #[.val (.ref a1), .val (.int p2)] [(.int p2), (.int (4 : Int32)), (.ref a1)])) rfl (by rw [hml]; rfl) (Steps.refl _) (a := a1) (by rw [e248]; exact q249) q249' (argsL := [(.int (4 : Int32)), (.int p2)]) (rest := []) (lenOf pd_3 rfl) rfl (by show 2 * 0 + _ ≤ _; exact Nat.le_of_eq rfl) (hb hby d18_16) (fun _ _ => ⟨rfl, e248, (by decide : 0 + 0 ≤ _), (by decide : 0 + 0 ≤ _)⟩)
  dsimp only [Pt.U, Pt.locs, Pt.cells, Pt.slots] at X249 l249 y249 z249 st249 hQ249
  subst l249 y249 z249
  obtain ⟨rfl, N249q, K249, PE249, PV249, PZ249, PA249⟩ := hQ249
  have KK249 : Keep h0 T249.heap [a1, b1] := KK246.trans K249 (allS (Or.inl (List.mem_of_getElem? (i := 0) rfl)) (allS (Or.inl (List.mem_of_getElem? (i := 1) rfl)) all0))
  have PE246_249 := PE246.keep K249
  have sz249 : n0 ≤ T249.heap.size := Nat.le_trans sz246 K249.1
  have N249 := Fr.app N247 N249q
  refine Go.tr (U' := T249.setTop (mkF m 19 #[.val (.ref a1), .val (.int p2)] [])) st249 ?_
  refine Go.st (U' := T249.setTop (mkF m 21 #[.val (.ref a1), .val (.int p2)] [(.ref a1), (.ref a1)])) (fun t k => ?_) ?_
  · refine XS.aloadN X249.here hx rfl (hb hby d18_19) rfl rfl ?_
    refine XS.dup X249.here hx rfl (hb hby d18_20) rfl rfl ?_
    exact k
  obtain ⟨T250, X250, e250, st250⟩ := getF X249 hx hZ hown (host := "") (Or.inl (own_w hw 17 rfl)) Via.refl rfl PZ249 (g := (mkF m 21 #[.val (.ref a1), .val (.int p2)] [(.ref a1), (.ref a1)])) rfl rfl (hb hby d18_21)
  refine Go.st (U' := T250.setTop (mkF m 24 #[.val (.ref a1), .val (.int p2)] [(.int (4 : Int32)), (.ref a1)])) (fun t k => st250 _ k) ?_
  refine Go.st (U' := T250.setTop (mkF m 26 #[.val (.ref a1), .val (.int p2)] [(.int (8 : Int32)), (.ref a1)])) (fun t k => ?_) ?_
  · refine XS.iconst X250.here hx rfl (hb hby d18_24) ?_
    refine XS.iadd X250.here hx rfl (hb hby d18_25) rfl ?_
    exact k
  obtain ⟨T251, h251, X251, e251, W251, st251⟩ := putF X250 hx hZ hown (host := "") (Or.inl (own_w hw 17 rfl)) Via.refl e250 PZ249 PE249 (Or.inl (own_w hw 18 rfl)) (own_w hw 1 rfl) (ty := .int) (by decide) rfl rfl (g := (mkF m 26 #[.val (.ref a1), .val (.int p2)] [(.int (8 : Int32)), (.ref a1)])) rfl rfl (hb hby d18_26)
  have F251 := PZ249.same W251
  have PE249_251 := PE249.wr W251
  have PV249_251 := PV249.other W251 (Or.inr (slot_ne (Or.inl (own_w hw 11 rfl)) (Or.inl (own_w hw 18 rfl)) (by decide) (t := (.array .byte)) (t' := .int) (by decide) (by decide)))
  have PA249_251 := PA249.other W251 (Ne.symm nab)
  have N251 := Fr.snoc X251 N249 gA
  have KK251 : Keep h0 h251 [a1, b1] := KK249.wr W251 (Or.inl (List.mem_of_getElem? (i := 0) rfl))
  have sz251 : n0 ≤ h251.size := Nat.le_trans sz249 (Nat.le_of_eq W251.size.symm)
  refine Go.st (U' := T251.setTop (mkF m 29 #[.val (.ref a1), .val (.int p2)] [])) (fun t k => st251 _ k) ?_
  refine own_ret (Q := Qn4 Z a1 b1 k1 c0 c1 c2 c3 c4 c5 c6 c7 c8 c9 c10 c11 c12 c13 c14 c15 p2 h0 n0) (v := none) X251 hlk (fun _ => rfl) (by decide) (by decide) ?_ (fun fs hr => X251.returnOut hx hrt (hb hby d18_29) hr)
  rw [e251]
  exact ⟨rfl, N251, KK251, PE249_251, PV249_251, F251, PA249_251⟩
theorem efa0_8 (m : MethodId) (a1 : Addr) : entryFrame m #[(.ref a1), (.int (8 : Int32))] 3 = mkF m 0 #[.val (.ref a1), .val (.int (8 : Int32)), .unset] [] := by first | (simp [entryFrame, mkF, argsToLocals, Value.category]; done) | rfl
def Qa0_8 (Z : State) (a1 : Addr) (b1 : Addr) (k1 : ClassId) (c0 : Int32) (c1 : Int32) (c2 : Int32) (c3 : Int32) (c4 : Int32) (c5 : Int32) (c6 : Int32) (c7 : Int32) (c8 : Int32) (c9 : Int32) (c10 : Int32) (c11 : Int32) (c12 : Int32) (c13 : Int32) (c14 : Int32) (c15 : Int32) (h0 : Heap) (n0 : Nat) (v : Option Value) (h : Heap) (L : List Loc) : Prop := v = none ∧ Fr n0 L ∧ Keep h0 h [a1, b1] ∧ Exa Z h a1 "com/example/portcullis/portcullis/io/CdrOutput" ∧ Fld Z h a1 "com/example/portcullis/portcullis/io/CdrOutput" "buffer" "[B" (.ref b1) ∧ Fld Z h a1 "com/example/portcullis/portcullis/io/CdrOutput" "size" "I" (.int (0 : Int32)) ∧ Arv Z h b1 k1 .byte (256 : Int32) [(.int c0), (.int c1), (.int c2), (.int c3), (.int c4), (.int c5), (.int c6), (.int c7), (.int c8), (.int c9), (.int c10), (.int c11), (.int c12), (.int c13), (.int c14), (.int c15)] (.int (0 : Int32))
set_option maxRecDepth 65536 in
set_option maxHeartbeats 40000000 in
theorem rma0_8 (l : Launch) (Z : State) (a0 : Array Value) (hw : ∀ d ∈ tables_1, d.before a0 Z = true) (ws : List Jvm.Cond) (a1 : Addr) (b1 : Addr) (k1 : ClassId) (c0 : Int32) (c1 : Int32) (c2 : Int32) (c3 : Int32) (c4 : Int32) (c5 : Int32) (c6 : Int32) (c7 : Int32) (c8 : Int32) (c9 : Int32) (c10 : Int32) (c11 : Int32) (c12 : Int32) (c13 : Int32) (c14 : Int32) (c15 : Int32) (h0 : Heap) (n0 : Nat) (Z0 : n0 ≤ h0.size) (EX : Exa Z h0 a1 "com/example/portcullis/portcullis/io/CdrOutput") (FB : Fld Z h0 a1 "com/example/portcullis/portcullis/io/CdrOutput" "buffer" "[B" (.ref b1)) (FS : Fld Z h0 a1 "com/example/portcullis/portcullis/io/CdrOutput" "size" "I" (.int (0 : Int32))) (VA : Arv Z h0 b1 k1 .byte (256 : Int32) [(.int c0), (.int c1), (.int c2), (.int c3), (.int c4), (.int c5), (.int c6), (.int c7), (.int c8), (.int c9), (.int c10), (.int c11), (.int c12), (.int c13), (.int c14), (.int c15)] (.int (0 : Int32))) (gA : n0 ≤ a1) (gB : n0 ≤ b1) (nab : a1 ≠ b1) :
    MetFree l own_y5 (head1 (Jvm.Cond.code own_y5 prog_14_method_14_code 3 none :: ws) own_R2_0_0_48) (fun a U => a = #[(.ref a1), (.int (8 : Int32))] ∧ Z.Warmed39 U.vm ∧ U.heap = h0) (fun _ _ _ _ _ => True) (fun _ U o U' => ∃ v L, o = .returned v ∧ Qa0_8 Z a1 b1 k1 c0 c1 c2 c3 c4 c5 c6 c7 c8 c9 c10 c11 c12 c13 c14 c15 h0 n0 v U'.heap L ∧ FrameEnd U o U' L (own_R2_0_0_48).cells (own_R2_0_0_48).slots) := by
  refine MetFree.of_bodySF (plainFor_of_name pn_0) hisR ?_
  intro p e s m args below meth c s₁ Bd hml0 hP hK
  obtain ⟨rfl, hZ, hh⟩ := hP
  have hx := Bd.exec
  have hby := Bd.bytes
  have hml : c.maxLocals = 3 := hml0
  have hown : s.vm.findClass "com/example/portcullis/portcullis/io/CdrOutput" = some m.cls := findClass_of_methodNamed Bd.named
  have hnm := (name_of_methodNamed Bd.named Bd.method).1
  have hlk : meth.locks = false := BodyLoose.notSynchronized Bd
  have hrt := Bd.returns
  have X0 : Stand p l e own_R2_0_0_48 s m #[(.ref a1), (.int (8 : Int32))] below meth c s₁ [] 0 0 := Stand.of_body Bd
  have e0 : s₁.heap = h0 := by rw [← hh, Bd.state]; rfl
  have N0 := Fr.nil n0
  refine (show Go p e below (fun s₂ o => ∃ v L, o = .returned v ∧ Qa0_8 Z a1 b1 k1 c0 c1 c2 c3 c4 c5 c6 c7 c8 c9 c10 c11 c12 c13 c14 c15 h0 n0 v s₂.heap L ∧ FrameEnd s o s₂ L 0 0) (s₁.setTop (entryFrame m #[(.ref a1), (.int (8 : Int32))] 3)) from ?_)
  rw [efa0_8]
  refine Go.st (U' := s₁.setTop (mkF m 1 #[.val (.ref a1), .val (.int (8 : Int32)), .unset] [(.ref a1)])) (fun t k => ?_) ?_
  · refine XS.aloadN X0.here hx rfl (hb hby d12_0) rfl rfl ?_
    exact k
  obtain ⟨T252, X252, e252, st252⟩ := getF X0 hx hZ hown (host := "") (Or.inl (own_w hw 17 rfl)) Via.refl e0 FS (g := (mkF m 1 #[.val (.ref a1), .val (.int (8 : Int32)), .unset] [(.ref a1)])) rfl rfl (hb hby d12_1)
  refine Go.st (U' := T252.setTop (mkF m 4 #[.val (.ref a1), .val (.int (8 : Int32)), .unset] [(.int (0 : Int32))])) (fun t k => st252 _ k) ?_
  refine Go.st (U' := T252.setTop (mkF m 12 #[.val (.ref a1), .val (.int (8 : Int32)), .val (.int (0 : Int32))] [(.int (0 : Int32)), (.ref a1)])) (fun t k => ?_) ?_
  · refine XS.ineg X252.here hx rfl (hb hby d12_4) rfl ?_
    refine XS.iloadN X252.here hx rfl (hb hby d12_5) rfl ?_
    refine XS.iconst X252.here hx rfl (hb hby d12_6) ?_
    refine XS.isub X252.here hx rfl (hb hby d12_7) rfl ?_
    refine XS.iand X252.here hx rfl (hb hby d12_8) rfl ?_
    refine XS.istoreN X252.here hx rfl (hb hby d12_9) rfl (l' := #[.val (.ref a1), .val (.int (8 : Int32)), .val (.int (0 : Int32))]) rfl ?_
    refine XS.aloadN X252.here hx rfl (hb hby d12_10) rfl rfl ?_
    refine XS.iloadN X252.here hx rfl (hb hby d12_11) rfl ?_
    exact k
  obtain ⟨cq253, q253, q253'⟩ := EX.cell
  obtain ⟨_, _, ⟨T253, L253, k253, n253⟩, -, X253, ⟨Lc253, hQ253, l253, y253, z253⟩, st253⟩ := X252.privateBack hx (y := own_y1) hown (mvT hZ (own_w hw 48 rfl)) (mvT hZ (own_w hw 49 rfl)) (own_selp (y := own_y1) (mvT hZ (own_w hw 1 rfl)) (Cond.privateMethod_at (mvP hZ (own_w hw 50 rfl) (args := #[]))) (mvT hZ (own_w hw 49 rfl)) (by decide)) (Cond.privateMethod_at (mvP hZ (own_w hw 50 rfl) (args := #[]))) (mvT hZ (own_w hw 51 rfl)) (by decide) (backOf (W := 0) (rmr l Z a0 hw [] a1 (0 : Int32) b1 k1 (0 : Int32) [(.int c0), (.int c1), (.int c2), (.int c3), (.int c4), (.int c5), (.int c6), (.int c7), (.int c8), (.int c9), (.int c10), (.int c11), (.int c12), (.int c13), (.int c14), (.int c15)] h0 n0 Z0 FB FS VA (by decide)) hZ (own_w hw 51 rfl) (own_w hw 2 rfl) (by decide) (by decide)) (g := (mkF m 12 #[.val (.ref a1), .val (.int (8 : Int32)), .val (.int (0 : Int32))] [(.int (0 : Int32)), (.ref a1)])) rfl (by rw [hml]; rfl) (Steps.refl _) (a := a1) (by rw [e252]; exact q253) q253' (argsL := [(.int (0 : Int32))]) (rest := []) (lenOf pd_0 rfl) rfl (by show 2 * 0 + _ ≤ _; exact Nat.le_of_eq rfl) (hb hby d12_12) (fun _ _ => ⟨rfl, e252, (by decide : 0 + 0 ≤ _), (by decide : 0 + 0 ≤ _)⟩)
  dsimp only [Pt.U, Pt.locs, Pt.cells, Pt.slots] at X253 l253 y253 z253 st253 hQ253
  subst l253 y253 z253
  obtain ⟨rfl, N253q, e253⟩ := hQ253
  have N253 := Fr.app N0 N253q
  refine Go.tr (U' := T253.setTop (mkF m 15 #[.val (.ref a1), .val (.int (8 : Int32)), .val (.int (0 : Int32))] [])) st253 ?_
  refine Go.st (U' := T253.setTop (mkF m 16 #[.val (.ref a1), .val (.int (8 : Int32)), .val (.int (0 : Int32))] [(.ref a1)])) (fun t k => ?_) ?_
  · refine XS.aloadN X253.here hx rfl (hb hby d12_15) rfl rfl ?_
    exact k
  obtain ⟨T254, X254, e254, st254⟩ := getF X253 hx hZ hown (host := "") (Or.inl (own_w hw 10 rfl)) Via.refl e253 FB (g := (mkF m 16 #[.val (.ref a1), .val (.int (8 : Int32)), .val (.int (0 : Int32))] [(.ref a1)])) rfl rfl (hb hby d12_16)
  refine Go.st (U' := T254.setTop (mkF m 19 #[.val (.ref a1), .val (.int (8 : Int32)), .val (.int (0 : Int32))] [(.ref b1)])) (fun t k => st254 _ k) ?_
  refine Go.st (U' := T254.setTop (mkF m 20 #[.val (.ref a1), .val (.int (8 : Int32)), .val (.int (0 : Int32))] [(.ref a1), (.ref b1)])) (fun t k => ?_) ?_
  · refine XS.aloadN X254.here hx rfl (hb hby d12_19) rfl rfl ?_
    exact k
  obtain ⟨T255, X255, e255, st255⟩ := getF X254 hx hZ hown (host := "") (Or.inl (own_w hw 17 rfl)) Via.refl e254 FS (g := (mkF m 20 #[.val (.ref a1), .val (.int (8 : Int32)), .val (.int (0 : Int32))] [(.ref a1), (.ref b1)])) rfl rfl (hb hby d12_20)
  refine Go.st (U' := T255.setTop (mkF m 23 #[.val (.ref a1), .val (.int (8 : Int32)), .val (.int (0 : Int32))] [(.int (0 : Int32)), (.ref b1)])) (fun t k => st255 _ k) ?_
  refine Go.st (U' := T255.setTop (mkF m 24 #[.val (.ref a1), .val (.int (8 : Int32)), .val (.int (0 : Int32))] [(.ref a1), (.int (0 : Int32)), (.ref b1)])) (fun t k => ?_) ?_
  · refine XS.aloadN X255.here hx rfl (hb hby d12_23) rfl rfl ?_
    exact k
  obtain ⟨T256, X256, e256, st256⟩ := getF X255 hx hZ hown (host := "") (Or.inl (own_w hw 17 rfl)) Via.refl e255 FS (g := (mkF m 24 #[.val (.ref a1), .val (.int (8 : Int32)), .val (.int (0 : Int32))] [(.ref a1), (.int (0 : Int32)), (.ref b1)])) rfl rfl (hb hby d12_24)
  refine Go.st (U' := T256.setTop (mkF m 27 #[.val (.ref a1), .val (.int (8 : Int32)), .val (.int (0 : Int32))] [(.int (0 : Int32)), (.int (0 : Int32)), (.ref b1)])) (fun t k => st256 _ k) ?_
  refine Go.st (U' := T256.setTop (mkF m 30 #[.val (.ref a1), .val (.int (8 : Int32)), .val (.int (0 : Int32))] [(.int (0 : Int32)), (.int (0 : Int32)), (.int (0 : Int32)), (.ref b1)])) (fun t k => ?_) ?_
  · refine XS.iloadN X256.here hx rfl (hb hby d12_27) rfl ?_
    refine XS.iadd X256.here hx rfl (hb hby d12_28) rfl ?_
    refine XS.iconst X256.here hx rfl (hb hby d12_29) ?_
    exact k
  obtain ⟨_, _, ⟨T257, L257, k257, n257⟩, -, X257, ⟨Lc257, hQ257, l257, y257, z257⟩, st257⟩ := Jvm.LawKit.callS X256 hx (y := own_y4) hown (mvT hZ (own_w hw 62 rfl)) (mvT hZ (own_w hw 63 rfl)) (mvT hZ (own_w hw 21 rfl)) (mvT hZ (own_w hw 64 rfl)) (by decide) (backOf (W := 0) (rmf0_0 l Z a0 hw [] b1 k1 c0 c1 c2 c3 c4 c5 c6 c7 c8 c9 c10 c11 c12 c13 c14 c15 h0 n0 Z0 VA gB) hZ (own_w hw 64 rfl) (own_w hw 21 rfl) (by decide) (by decide)) (g := (mkF m 30 #[.val (.ref a1), .val (.int (8 : Int32)), .val (.int (0 : Int32))] [(.int (0 : Int32)), (.int (0 : Int32)), (.int (0 : Int32)), (.ref b1)])) rfl (by rw [hml]; rfl) (argsL := [(.ref b1), (.int (0 : Int32)), (.int (0 : Int32)), (.int (0 : Int32))]) (rest := []) (lenOf pd_2 rfl) rfl (by show 2 * 0 + _ ≤ _; exact Nat.le_of_eq rfl) (hb hby d12_30) (fun _ _ => ⟨rfl, e256, (by decide : 0 + 0 ≤ _), (by decide : 0 + 0 ≤ _)⟩)
  dsimp only [Pt.U, Pt.locs, Pt.cells, Pt.slots] at X257 l257 y257 z257 st257 hQ257
  subst l257 y257 z257
  obtain ⟨rfl, N257q, K257, P257_0⟩ := hQ257
  have KK257 : Keep h0 T257.heap [a1, b1] := (Keep.refl h0 [a1, b1]).trans K257 (allS (Or.inl (List.mem_of_getElem? (i := 1) rfl)) all0)
  have EX_257 := EX.keep K257
  have FB_257 := FB.keep K257 (ninS nab nin0)
  have FS_257 := FS.keep K257 (ninS nab nin0)
  have sz257 : n0 ≤ T257.heap.size := Nat.le_trans Z0 K257.1
  have N257 := Fr.app N253 N257q
  refine Go.st (U' := T257.setTop (mkF m 33 #[.val (.ref a1), .val (.int (8 : Int32)), .val (.int (0 : Int32))] [])) (fun t k => st257 _ k) ?_
  refine Go.st (U' := T257.setTop (mkF m 35 #[.val (.ref a1), .val (.int (8 : Int32)), .val (.int (0 : Int32))] [(.ref a1), (.ref a1)])) (fun t k => ?_) ?_
  · refine XS.aloadN X257.here hx rfl (hb hby d12_33) rfl rfl ?_
    refine XS.dup X257.here hx rfl (hb hby d12_34) rfl rfl ?_
    exact k
  obtain ⟨T258, X258, e258, st258⟩ := getF X257 hx hZ hown (host := "") (Or.inl (own_w hw 17 rfl)) Via.refl rfl FS_257 (g := (mkF m 35 #[.val (.ref a1), .val (.int (8 : Int32)), .val (.int (0 : Int32))] [(.ref a1), (.ref a1)])) rfl rfl (hb hby d12_35)
  refine Go.st (U' := T258.setTop (mkF m 38 #[.val (.ref a1), .val (.int (8 : Int32)), .val (.int (0 : Int32))] [(.int (0 : Int32)), (.ref a1)])) (fun t k => st258 _ k) ?_
  refine Go.st (U' := T258.setTop (mkF m 40 #[.val (.ref a1), .val (.int (8 : Int32)), .val (.int (0 : Int32))] [(.int (0 : Int32)), (.ref a1)])) (fun t k => ?_) ?_
  · refine XS.iloadN X258.here hx rfl (hb hby d12_38) rfl ?_
    refine XS.iadd X258.here hx rfl (hb hby d12_39) rfl ?_
    exact k
  obtain ⟨T259, h259, X259, e259, W259, st259⟩ := putF X258 hx hZ hown (host := "") (Or.inl (own_w hw 17 rfl)) Via.refl e258 FS_257 EX_257 (Or.inl (own_w hw 18 rfl)) (own_w hw 1 rfl) (ty := .int) (by decide) rfl rfl (g := (mkF m 40 #[.val (.ref a1), .val (.int (8 : Int32)), .val (.int (0 : Int32))] [(.int (0 : Int32)), (.ref a1)])) rfl rfl (hb hby d12_40)
  have F259 := FS_257.same W259
  have EX_259 := EX_257.wr W259
  have FB_259 := FB_257.other W259 (Or.inr (slot_ne (Or.inl (own_w hw 11 rfl)) (Or.inl (own_w hw 18 rfl)) (by decide) (t := (.array .byte)) (t' := .int) (by decide) (by decide)))
  have P257_0_259 := P257_0.other W259 (Ne.symm nab)
  have N259 := Fr.snoc X259 N257 gA
  have KK259 : Keep h0 h259 [a1, b1] := KK257.wr W259 (Or.inl (List.mem_of_getElem? (i := 0) rfl))
  have sz259 : n0 ≤ h259.size := Nat.le_trans sz257 (Nat.le_of_eq W259.size.symm)
  refine Go.st (U' := T259.setTop (mkF m 43 #[.val (.ref a1), .val (.int (8 : Int32)), .val (.int (0 : Int32))] [])) (fun t k => st259 _ k) ?_
  refine own_ret (Q := Qa0_8 Z a1 b1 k1 c0 c1 c2 c3 c4 c5 c6 c7 c8 c9 c10 c11 c12 c13 c14 c15 h0 n0) (v := none) X259 hlk (fun _ => rfl) (by decide) (by decide) ?_ (fun fs hr => X259.returnOut hx hrt (hb hby d12_43) hr)
  rw [e259]
  exact ⟨rfl, N259, KK259, EX_259, FB_259, F259, P257_0_259⟩
theorem efp0_4 (m : MethodId) (a1 : Addr) (p3 : Int32) : entryFrame m #[(.ref a1), (.int (4 : Int32)), (.int p3)] 3 = mkF m 0 #[.val (.ref a1), .val (.int (4 : Int32)), .val (.int p3)] [] := by first | (simp [entryFrame, mkF, argsToLocals, Value.category]; done) | rfl
def Qp0_4 (Z : State) (a1 : Addr) (b1 : Addr) (k1 : ClassId) (c0 : Int32) (c1 : Int32) (c2 : Int32) (c3 : Int32) (c4 : Int32) (c5 : Int32) (c6 : Int32) (c7 : Int32) (c8 : Int32) (c9 : Int32) (c10 : Int32) (c11 : Int32) (c12 : Int32) (c13 : Int32) (c14 : Int32) (c15 : Int32) (p3 : Int32) (h0 : Heap) (n0 : Nat) (v : Option Value) (h : Heap) (L : List Loc) : Prop := v = none ∧ Fr n0 L ∧ Keep h0 h [a1, b1] ∧ Exa Z h a1 "com/example/portcullis/portcullis/io/CdrOutput" ∧ Fld Z h a1 "com/example/portcullis/portcullis/io/CdrOutput" "buffer" "[B" (.ref b1) ∧ Fld Z h a1 "com/example/portcullis/portcullis/io/CdrOutput" "size" "I" (.int (0 : Int32)) ∧ Arv Z h b1 k1 .byte (256 : Int32) [(.int c0), (.int c1), (.int c2), (.int c3), (.int (own_b3 p3)), (.int (own_b2 p3)), (.int (own_b1 p3)), (.int (own_b0 p3)), (.int c8), (.int c9), (.int c10), (.int c11), (.int c12), (.int c13), (.int c14), (.int c15)] (.int (0 : Int32))
set_option maxRecDepth 65536 in
set_option maxHeartbeats 40000000 in
theorem rmp0_4 (l : Launch) (Z : State) (a0 : Array Value) (hw : ∀ d ∈ tables_1, d.before a0 Z = true) (ws : List Jvm.Cond) (a1 : Addr) (b1 : Addr) (k1 : ClassId) (c0 : Int32) (c1 : Int32) (c2 : Int32) (c3 : Int32) (c4 : Int32) (c5 : Int32) (c6 : Int32) (c7 : Int32) (c8 : Int32) (c9 : Int32) (c10 : Int32) (c11 : Int32) (c12 : Int32) (c13 : Int32) (c14 : Int32) (c15 : Int32) (p3 : Int32) (h0 : Heap) (n0 : Nat) (Z0 : n0 ≤ h0.size) (EX : Exa Z h0 a1 "com/example/portcullis/portcullis/io/CdrOutput") (FB : Fld Z h0 a1 "com/example/portcullis/portcullis/io/CdrOutput" "buffer" "[B" (.ref b1)) (FS : Fld Z h0 a1 "com/example/portcullis/portcullis/io/CdrOutput" "size" "I" (.int (0 : Int32))) (VA : Arv Z h0 b1 k1 .byte (256 : Int32) [(.int c0), (.int c1), (.int c2), (.int c3), (.int c4), (.int c5), (.int c6), (.int c7), (.int c8), (.int c9), (.int c10), (.int c11), (.int c12), (.int c13), (.int c14), (.int c15)] (.int (0 : Int32))) (gA : n0 ≤ a1) (gB : n0 ≤ b1) (nab : a1 ≠ b1) :
    MetFree l own_y7 (head1 (Jvm.Cond.code own_y7 prog_14_method_19_code 3 none :: ws) own_R0_0_0_0) (fun a U => a = #[(.ref a1), (.int (4 : Int32)), (.int p3)] ∧ Z.Warmed39 U.vm ∧ U.heap = h0) (fun _ _ _ _ _ => True) (fun _ U o U' => ∃ v L, o = .returned v ∧ Qp0_4 Z a1 b1 k1 c0 c1 c2 c3 c4 c5 c6 c7 c8 c9 c10 c11 c12 c13 c14 c15 p3 h0 n0 v U'.heap L ∧ FrameEnd U o U' L (own_R0_0_0_0).cells (own_R0_0_0_0).slots) := by
  refine MetFree.of_bodySF (plainFor_of_name pn_0) hisR ?_
  intro p e s m args below meth c s₁ Bd hml0 hP hK
  obtain ⟨rfl, hZ, hh⟩ := hP
  have hx := Bd.exec
  have hby := Bd.bytes
  have hml : c.maxLocals = 3 := hml0
  have hown : s.vm.findClass "com/example/portcullis/portcullis/io/CdrOutput" = some m.cls := findClass_of_methodNamed Bd.named
  have hnm := (name_of_methodNamed Bd.named Bd.method).1
  have hlk : meth.locks = false := BodyLoose.notSynchronized Bd
  have hrt := Bd.returns
  have X0 : Stand p l e own_R0_0_0_0 s m #[(.ref a1), (.int (4 : Int32)), (.int p3)] below meth c s₁ [] 0 0 := Stand.of_body Bd
  have e0 : s₁.heap = h0 := by rw [← hh, Bd.state]; rfl
  have N0 := Fr.nil n0
  refine (show Go p e below (fun s₂ o => ∃ v L, o = .returned v ∧ Qp0_4 Z a1 b1 k1 c0 c1 c2 c3 c4 c5 c6 c7 c8 c9 c10 c11 c12 c13 c14 c15 p3 h0 n0 v s₂.heap L ∧ FrameEnd s o s₂ L 0 0) (s₁.setTop (entryFrame m #[(.ref a1), (.int (4 : Int32)), (.int p3)] 3)) from ?_)
  rw [efp0_4]
  refine Go.st (U' := s₁.setTop (mkF m 1 #[.val (.ref a1), .val (.int (4 : Int32)), .val (.int p3)] [(.ref a1)])) (fun t k => ?_) ?_
  · refine XS.aloadN X0.here hx rfl (hb hby d16_0) rfl rfl ?_
    exact k
  obtain ⟨T260, X260, e260, st260⟩ := getF X0 hx hZ hown (host := "") (Or.inl (own_w hw 10 rfl)) Via.refl e0 FB (g := (mkF m 1 #[.val (.ref a1), .val (.int (4 : Int32)), .val (.int p3)] [(.ref a1)])) rfl rfl (hb hby d16_1)
  refine Go.st (U' := T260.setTop (mkF m 4 #[.val (.ref a1), .val (.int (4 : Int32)), .val (.int p3)] [(.ref b1)])) (fun t k => st260 _ k) ?_
  refine Go.st (U' := T260.setTop (mkF m 10 #[.val (.ref a1), .val (.int (4 : Int32)), .val (.int p3)] [(.int (((p3.toUInt32 >>> ((24 : Int32) &&& 31).toUInt32).toInt32).toInt8.toInt32)), (.int (4 : Int32)), (.ref b1)])) (fun t k => ?_) ?_
  · refine XS.iloadN X260.here hx rfl (hb hby d16_4) rfl ?_
    refine XS.iloadN X260.here hx rfl (hb hby d16_5) rfl ?_
    refine XS.bipush X260.here hx rfl (hb hby d16_6) ?_
    refine XS.iushr X260.here hx rfl (hb hby d16_8) rfl ?_
    refine XS.i2b X260.here hx rfl (hb hby d16_9) rfl ?_
    exact k
  obtain ⟨cl262, Ar262, q262, S262, N262, H262, G262⟩ := id VA
  obtain ⟨T261, h261, X261, e261, W261, st261⟩ := stB X260 hx hZ e260 Ar262 (j := (4 : Int32)) (inb_of (j := (4 : Int32)) S262 ⟨by decide, by decide⟩) (g := (mkF m 10 #[.val (.ref a1), .val (.int (4 : Int32)), .val (.int p3)] [(.int (((p3.toUInt32 >>> ((24 : Int32) &&& 31).toUInt32).toInt32).toInt8.toInt32)), (.int (4 : Int32)), (.ref b1)])) rfl rfl (hb hby d16_10)
  have VA_261 := Arv.set Ar262 q262 S262 N262 H262 G262 (fits_nar_byte _) W261 4 rfl (Nat.le_of_ble_eq_true rfl)
  have EX_261 := EX.wr W261
  have FB_261 := FB.other W261 (Or.inl nab)
  have FS_261 := FS.other W261 (Or.inl nab)
  have N261 := Fr.snoc X261 N0 gB
  have KK261 : Keep h0 h261 [a1, b1] := (Keep.refl h0 [a1, b1]).wr W261 (Or.inl (List.mem_of_getElem? (i := 1) rfl))
  have sz261 : n0 ≤ h261.size := Nat.le_trans Z0 (Nat.le_of_eq W261.size.symm)
  refine Go.st (U' := T261.setTop (mkF m 11 #[.val (.ref a1), .val (.int (4 : Int32)), .val (.int p3)] [])) (fun t k => st261 _ k) ?_
  refine Go.st (U' := T261.setTop (mkF m 12 #[.val (.ref a1), .val (.int (4 : Int32)), .val (.int p3)] [(.ref a1)])) (fun t k => ?_) ?_
  · refine XS.aloadN X261.here hx rfl (hb hby d16_11) rfl rfl ?_
    exact k
  obtain ⟨T263, X263, e263, st263⟩ := getF X261 hx hZ hown (host := "") (Or.inl (own_w hw 10 rfl)) Via.refl e261 FB_261 (g := (mkF m 12 #[.val (.ref a1), .val (.int (4 : Int32)), .val (.int p3)] [(.ref a1)])) rfl rfl (hb hby d16_12)
  refine Go.st (U' := T263.setTop (mkF m 15 #[.val (.ref a1), .val (.int (4 : Int32)), .val (.int p3)] [(.ref b1)])) (fun t k => st263 _ k) ?_
  refine Go.st (U' := T263.setTop (mkF m 23 #[.val (.ref a1), .val (.int (4 : Int32)), .val (.int p3)] [(.int (((p3.toUInt32 >>> ((16 : Int32) &&& 31).toUInt32).toInt32).toInt8.toInt32)), (.int (5 : Int32)), (.ref b1)])) (fun t k => ?_) ?_
  · refine XS.iloadN X263.here hx rfl (hb hby d16_15) rfl ?_
    refine XS.iconst X263.here hx rfl (hb hby d16_16) ?_
    refine XS.iadd X263.here hx rfl (hb hby d16_17) rfl ?_
    refine XS.iloadN X263.here hx rfl (hb hby d16_18) rfl ?_
    refine XS.bipush X263.here hx rfl (hb hby d16_19) ?_
    refine XS.iushr X263.here hx rfl (hb hby d16_21) rfl ?_
    refine XS.i2b X263.here hx rfl (hb hby d16_22) rfl ?_
    exact k
  obtain ⟨cl265, Ar265, q265, S265, N265, H265, G265⟩ := id VA_261
  obtain ⟨T264, h264, X264, e264, W264, st264⟩ := stB X263 hx hZ e263 Ar265 (j := (5 : Int32)) (inb_of (j := (5 : Int32)) S265 ⟨by decide, by decide⟩) (g := (mkF m 23 #[.val (.ref a1), .val (.int (4 : Int32)), .val (.int p3)] [(.int (((p3.toUInt32 >>> ((16 : Int32) &&& 31).toUInt32).toInt32).toInt8.toInt32)), (.int (5 : Int32)), (.ref b1)])) rfl rfl (hb hby d16_23)
  have VA_264 := Arv.set Ar265 q265 S265 N265 H265 G265 (fits_nar_byte _) W264 5 rfl (Nat.le_of_ble_eq_true rfl)
  have EX_264 := EX_261.wr W264
  have FB_264 := FB_261.other W264 (Or.inl nab)
  have FS_264 := FS_261.other W264 (Or.inl nab)
  have N264 := Fr.snoc X264 N261 gB
  have KK264 : Keep h0 h264 [a1, b1] := KK261.wr W264 (Or.inl (List.mem_of_getElem? (i := 1) rfl))
  have sz264 : n0 ≤ h264.size := Nat.le_trans sz261 (Nat.le_of_eq W264.size.symm)
  refine Go.st (U' := T264.setTop (mkF m 24 #[.val (.ref a1), .val (.int (4 : Int32)), .val (.int p3)] [])) (fun t k => st264 _ k) ?_
  refine Go.st (U' := T264.setTop (mkF m 25 #[.val (.ref a1), .val (.int (4 : Int32)), .val (.int p3)] [(.ref a1)])) (fun t k => ?_) ?_
  · refine XS.aloadN X264.here hx rfl (hb hby d16_24) rfl rfl ?_
    exact k
  obtain ⟨T266, X266, e266, st266⟩ := getF X264 hx hZ hown (host := "") (Or.inl (own_w hw 10 rfl)) Via.refl e264 FB_264 (g := (mkF m 25 #[.val (.ref a1), .val (.int (4 : Int32)), .val (.int p3)] [(.ref a1)])) rfl rfl (hb hby d16_25)
  refine Go.st (U' := T266.setTop (mkF m 28 #[.val (.ref a1), .val (.int (4 : Int32)), .val (.int p3)] [(.ref b1)])) (fun t k => st266 _ k) ?_
  refine Go.st (U' := T266.setTop (mkF m 36 #[.val (.ref a1), .val (.int (4 : Int32)), .val (.int p3)] [(.int (((p3.toUInt32 >>> ((8 : Int32) &&& 31).toUInt32).toInt32).toInt8.toInt32)), (.int (6 : Int32)), (.ref b1)])) (fun t k => ?_) ?_
  · refine XS.iloadN X266.here hx rfl (hb hby d16_28) rfl ?_
    refine XS.iconst X266.here hx rfl (hb hby d16_29) ?_
    refine XS.iadd X266.here hx rfl (hb hby d16_30) rfl ?_
    refine XS.iloadN X266.here hx rfl (hb hby d16_31) rfl ?_
    refine XS.bipush X266.here hx rfl (hb hby d16_32) ?_
    refine XS.iushr X266.here hx rfl (hb hby d16_34) rfl ?_
    refine XS.i2b X266.here hx rfl (hb hby d16_35) rfl ?_
    exact k
  obtain ⟨cl268, Ar268, q268, S268, N268, H268, G268⟩ := id VA_264
  obtain ⟨T267, h267, X267, e267, W267, st267⟩ := stB X266 hx hZ e266 Ar268 (j := (6 : Int32)) (inb_of (j := (6 : Int32)) S268 ⟨by decide, by decide⟩) (g := (mkF m 36 #[.val (.ref a1), .val (.int (4 : Int32)), .val (.int p3)] [(.int (((p3.toUInt32 >>> ((8 : Int32) &&& 31).toUInt32).toInt32).toInt8.toInt32)), (.int (6 : Int32)), (.ref b1)])) rfl rfl (hb hby d16_36)
  have VA_267 := Arv.set Ar268 q268 S268 N268 H268 G268 (fits_nar_byte _) W267 6 rfl (Nat.le_of_ble_eq_true rfl)
  have EX_267 := EX_264.wr W267
  have FB_267 := FB_264.other W267 (Or.inl nab)
  have FS_267 := FS_264.other W267 (Or.inl nab)
  have N267 := Fr.snoc X267 N264 gB
  have KK267 : Keep h0 h267 [a1, b1] := KK264.wr W267 (Or.inl (List.mem_of_getElem? (i := 1) rfl))
  have sz267 : n0 ≤ h267.size := Nat.le_trans sz264 (Nat.le_of_eq W267.size.symm)
  refine Go.st (U' := T267.setTop (mkF m 37 #[.val (.ref a1), .val (.int (4 : Int32)), .val (.int p3)] [])) (fun t k => st267 _ k) ?_
  refine Go.st (U' := T267.setTop (mkF m 38 #[.val (.ref a1), .val (.int (4 : Int32)), .val (.int p3)] [(.ref a1)])) (fun t k => ?_) ?_
  · refine XS.aloadN X267.here hx rfl (hb hby d16_37) rfl rfl ?_
    exact k
  obtain ⟨T269, X269, e269, st269⟩ := getF X267 hx hZ hown (host := "") (Or.inl (own_w hw 10 rfl)) Via.refl e267 FB_267 (g := (mkF m 38 #[.val (.ref a1), .val (.int (4 : Int32)), .val (.int p3)] [(.ref a1)])) rfl rfl (hb hby d16_38)
  refine Go.st (U' := T269.setTop (mkF m 41 #[.val (.ref a1), .val (.int (4 : Int32)), .val (.int p3)] [(.ref b1)])) (fun t k => st269 _ k) ?_
  refine Go.st (U' := T269.setTop (mkF m 46 #[.val (.ref a1), .val (.int (4 : Int32)), .val (.int p3)] [(.int (p3.toInt8.toInt32)), (.int (7 : Int32)), (.ref b1)])) (fun t k => ?_) ?_
  · refine XS.iloadN X269.here hx rfl (hb hby d16_41) rfl ?_
    refine XS.iconst X269.here hx rfl (hb hby d16_42) ?_
    refine XS.iadd X269.here hx rfl (hb hby d16_43) rfl ?_
    refine XS.iloadN X269.here hx rfl (hb hby d16_44) rfl ?_
    refine XS.i2b X269.here hx rfl (hb hby d16_45) rfl ?_
    exact k
  obtain ⟨cl271, Ar271, q271, S271, N271, H271, G271⟩ := id VA_267
  obtain ⟨T270, h270, X270, e270, W270, st270⟩ := stB X269 hx hZ e269 Ar271 (j := (7 : Int32)) (inb_of (j := (7 : Int32)) S271 ⟨by decide, by decide⟩) (g := (mkF m 46 #[.val (.ref a1), .val (.int (4 : Int32)), .val (.int p3)] [(.int (p3.toInt8.toInt32)), (.int (7 : Int32)), (.ref b1)])) rfl rfl (hb hby d16_46)
  have VA_270 := Arv.set Ar271 q271 S271 N271 H271 G271 (fits_nar_byte _) W270 7 rfl (Nat.le_of_ble_eq_true rfl)
  have EX_270 := EX_267.wr W270
  have FB_270 := FB_267.other W270 (Or.inl nab)
  have FS_270 := FS_267.other W270 (Or.inl nab)
  have N270 := Fr.snoc X270 N267 gB
  have KK270 : Keep h0 h270 [a1, b1] := KK267.wr W270 (Or.inl (List.mem_of_getElem? (i := 1) rfl))
  have sz270 : n0 ≤ h270.size := Nat.le_trans sz267 (Nat.le_of_eq W270.size.symm)
  refine Go.st (U' := T270.setTop (mkF m 47 #[.val (.ref a1), .val (.int (4 : Int32)), .val (.int p3)] [])) (fun t k => st270 _ k) ?_
  refine own_ret (Q := Qp0_4 Z a1 b1 k1 c0 c1 c2 c3 c4 c5 c6 c7 c8 c9 c10 c11 c12 c13 c14 c15 p3 h0 n0) (v := none) X270 hlk (fun _ => rfl) (by decide) (by decide) ?_ (fun fs hr => X270.returnOut hx hrt (hb hby d16_47) hr)
  rw [e270]
  exact ⟨rfl, N270, KK270, EX_270, FB_270, FS_270, VA_270⟩
theorem d15_0 : decode prog_14_method_6_code 0 = .ok (.aload_n 0, 1) := by decide +kernel
theorem d15_1 : decode prog_14_method_6_code 1 = .ok (.bipush 8, 2) := by decide +kernel
theorem d15_3 : decode prog_14_method_6_code 3 = .ok (.invokevirtual 25, 3) := by decide +kernel
theorem d15_6 : decode prog_14_method_6_code 6 = .ok (.aload_n 0, 1) := by decide +kernel
theorem d15_7 : decode prog_14_method_6_code 7 = .ok (.bipush 8, 2) := by decide +kernel
theorem d15_9 : decode prog_14_method_6_code 9 = .ok (.invokevirtual 13, 3) := by decide +kernel
theorem d15_12 : decode prog_14_method_6_code 12 = .ok (.aload_n 0, 1) := by decide +kernel
theorem d15_13 : decode prog_14_method_6_code 13 = .ok (.aload_n 0, 1) := by decide +kernel
theorem d15_14 : decode prog_14_method_6_code 14 = .ok (.getfield 17, 3) := by decide +kernel
theorem d15_17 : decode prog_14_method_6_code 17 = .ok (.lload_n 1, 1) := by decide +kernel
theorem d15_18 : decode prog_14_method_6_code 18 = .ok (.bipush 32, 2) := by decide +kernel
theorem d15_20 : decode prog_14_method_6_code 20 = .ok (.lushr, 1) := by decide +kernel
theorem d15_21 : decode prog_14_method_6_code 21 = .ok (.l2i, 1) := by decide +kernel
theorem d15_22 : decode prog_14_method_6_code 22 = .ok (.invokevirtual 28, 3) := by decide +kernel
theorem d15_25 : decode prog_14_method_6_code 25 = .ok (.aload_n 0, 1) := by decide +kernel
theorem d15_26 : decode prog_14_method_6_code 26 = .ok (.aload_n 0, 1) := by decide +kernel
theorem d15_27 : decode prog_14_method_6_code 27 = .ok (.getfield 17, 3) := by decide +kernel
theorem d15_30 : decode prog_14_method_6_code 30 = .ok (.iconst 4, 1) := by decide +kernel
theorem d15_31 : decode prog_14_method_6_code 31 = .ok (.iadd, 1) := by decide +kernel
theorem d15_32 : decode prog_14_method_6_code 32 = .ok (.lload_n 1, 1) := by decide +kernel
theorem d15_33 : decode prog_14_method_6_code 33 = .ok (.l2i, 1) := by decide +kernel
theorem d15_34 : decode prog_14_method_6_code 34 = .ok (.invokevirtual 28, 3) := by decide +kernel
theorem d15_37 : decode prog_14_method_6_code 37 = .ok (.aload_n 0, 1) := by decide +kernel
theorem d15_38 : decode prog_14_method_6_code 38 = .ok (.dup, 1) := by decide +kernel
theorem d15_39 : decode prog_14_method_6_code 39 = .ok (.getfield 17, 3) := by decide +kernel
theorem d15_42 : decode prog_14_method_6_code 42 = .ok (.bipush 8, 2) := by decide +kernel
theorem d15_44 : decode prog_14_method_6_code 44 = .ok (.iadd, 1) := by decide +kernel
theorem d15_45 : decode prog_14_method_6_code 45 = .ok (.putfield 17, 3) := by decide +kernel
theorem d15_48 : decode prog_14_method_6_code 48 = .ok (.return_, 1) := by decide +kernel
theorem efl0 (m : MethodId) (a1 : Addr) (q2 : Int64) : entryFrame m #[(.ref a1), (.long q2)] 3 = mkF m 0 #[.val (.ref a1), .val (.long q2), .second] [] := by first | (simp [entryFrame, mkF, argsToLocals, Value.category]; done) | rfl
def Ql0 (Z : State) (a1 : Addr) (b1 : Addr) (k1 : ClassId) (c0 : Int32) (c1 : Int32) (c2 : Int32) (c3 : Int32) (c4 : Int32) (c5 : Int32) (c6 : Int32) (c7 : Int32) (c8 : Int32) (c9 : Int32) (c10 : Int32) (c11 : Int32) (c12 : Int32) (c13 : Int32) (c14 : Int32) (c15 : Int32) (q2 : Int64) (h0 : Heap) (n0 : Nat) (v : Option Value) (h : Heap) (L : List Loc) : Prop := v = none ∧ Fr n0 L ∧ Keep h0 h [a1, b1] ∧ Exa Z h a1 "com/example/portcullis/portcullis/io/CdrOutput" ∧ Fld Z h a1 "com/example/portcullis/portcullis/io/CdrOutput" "buffer" "[B" (.ref b1) ∧ Fld Z h a1 "com/example/portcullis/portcullis/io/CdrOutput" "size" "I" (.int (8 : Int32)) ∧ Arv Z h b1 k1 .byte (256 : Int32) [(.int (own_b3 (own_hi q2))), (.int (own_b2 (own_hi q2))), (.int (own_b1 (own_hi q2))), (.int (own_b0 (own_hi q2))), (.int (own_b3 (q2.toInt32))), (.int (own_b2 (q2.toInt32))), (.int (own_b1 (q2.toInt32))), (.int (own_b0 (q2.toInt32))), (.int c8), (.int c9), (.int c10), (.int c11), (.int c12), (.int c13), (.int c14), (.int c15)] (.int (0 : Int32))
set_option maxRecDepth 65536 in
set_option maxHeartbeats 40000000 in
theorem rml0 (l : Launch) (Z : State) (a0 : Array Value) (hw : ∀ d ∈ tables_1, d.before a0 Z = true) (ws : List Jvm.Cond) (a1 : Addr) (b1 : Addr) (k1 : ClassId) (c0 : Int32) (c1 : Int32) (c2 : Int32) (c3 : Int32) (c4 : Int32) (c5 : Int32) (c6 : Int32) (c7 : Int32) (c8 : Int32) (c9 : Int32) (c10 : Int32) (c11 : Int32) (c12 : Int32) (c13 : Int32) (c14 : Int32) (c15 : Int32) (q2 : Int64) (h0 : Heap) (n0 : Nat) (Z0 : n0 ≤ h0.size) (EX : Exa Z h0 a1 "com/example/portcullis/portcullis/io/CdrOutput") (FB : Fld Z h0 a1 "com/example/portcullis/portcullis/io/CdrOutput" "buffer" "[B" (.ref b1)) (FS : Fld Z h0 a1 "com/example/portcullis/portcullis/io/CdrOutput" "size" "I" (.int (0 : Int32))) (VA : Arv Z h0 b1 k1 .byte (256 : Int32) [(.int c0), (.int c1), (.int c2), (.int c3), (.int c4), (.int c5), (.int c6), (.int c7), (.int c8), (.int c9), (.int c10), (.int c11), (.int c12), (.int c13), (.int c14), (.int c15)] (.int (0 : Int32))) (gA : n0 ≤ a1) (gB : n0 ≤ b1) (nab : a1 ≠ b1) :
    MetFree l own_y9 (head1 (Jvm.Cond.code own_y9 prog_14_method_6_code 3 none :: ws) own_R3_0_0_80) (fun a U => a = #[(.ref a1), (.long q2)] ∧ Z.Warmed39 U.vm ∧ U.heap = h0) (fun _ _ _ _ _ => True) (fun _ U o U' => ∃ v L, o = .returned v ∧ Ql0 Z a1 b1 k1 c0 c1 c2 c3 c4 c5 c6 c7 c8 c9 c10 c11 c12 c13 c14 c15 q2 h0 n0 v U'.heap L ∧ FrameEnd U o U' L (own_R3_0_0_80).cells (own_R3_0_0_80).slots) := by
  refine MetFree.of_bodySF (plainFor_of_name pn_0) hisR ?_
  intro p e s m args below meth c s₁ Bd hml0 hP hK
  obtain ⟨rfl, hZ, hh⟩ := hP
  have hx := Bd.exec
  have hby := Bd.bytes
  have hml : c.maxLocals = 3 := hml0
  have hown : s.vm.findClass "com/example/portcullis/portcullis/io/CdrOutput" = some m.cls := findClass_of_methodNamed Bd.named
  have hnm := (name_of_methodNamed Bd.named Bd.method).1
  have hlk : meth.locks = false := BodyLoose.notSynchronized Bd
  have hrt := Bd.returns
  have X0 : Stand p l e own_R3_0_0_80 s m #[(.ref a1), (.long q2)] below meth c s₁ [] 0 0 := Stand.of_body Bd
  have e0 : s₁.heap = h0 := by rw [← hh, Bd.state]; rfl
  have N0 := Fr.nil n0
  refine (show Go p e below (fun s₂ o => ∃ v L, o = .returned v ∧ Ql0 Z a1 b1 k1 c0 c1 c2 c3 c4 c5 c6 c7 c8 c9 c10 c11 c12 c13 c14 c15 q2 h0 n0 v s₂.heap L ∧ FrameEnd s o s₂ L 0 0) (s₁.setTop (entryFrame m #[(.ref a1), (.long q2)] 3)) from ?_)
  rw [efl0]
  refine Go.st (U' := s₁.setTop (mkF m 3 #[.val (.ref a1), .val (.long q2), .second] [(.int (8 : Int32)), (.ref a1)])) (fun t k => ?_) ?_
  · refine XS.aloadN X0.here hx rfl (hb hby d15_0) rfl rfl ?_
    refine XS.bipush X0.here hx rfl (hb hby d15_1) ?_
    exact k
  obtain ⟨cq272, kq272, q272a, q272b, q272c⟩ := isOf hZ e0 EX
  obtain ⟨_, _, ⟨T272, L272, k272, n272⟩, -, X272, ⟨Lc272, hQ272, l272, y272, z272⟩, st272⟩ := X0.virtualBack hx (y := own_y5) (z := own_y5) hown (mvT hZ (own_w hw 57 rfl)) (mvT hZ (own_w hw 58 rfl)) (notFace_of_selects (args := #[]) (mvT hZ (own_w hw 60 rfl))) (mvT hZ (own_w hw 60 rfl)) (mvT hZ (own_w hw 59 rfl)) (by decide) (backOf (W := 0) (rma0_8 l Z a0 hw [] a1 b1 k1 c0 c1 c2 c3 c4 c5 c6 c7 c8 c9 c10 c11 c12 c13 c14 c15 h0 n0 Z0 EX FB FS VA gA gB nab) hZ (own_w hw 61 rfl) (own_w hw 2 rfl) (by decide) (by decide)) q272a q272c (g := (mkF m 3 #[.val (.ref a1), .val (.long q2), .second] [(.int (8 : Int32)), (.ref a1)])) rfl (by rw [hml]; rfl) (Steps.refl _) (argsL := [(.int (8 : Int32))]) (rest := []) (lenOf pd_0 rfl) rfl (by show 2 * 0 + _ ≤ _; exact Nat.le_of_eq rfl) (hb hby d15_3) (fun _ _ => ⟨rfl, e0, (by decide : 0 + 0 ≤ _), (by decide : 0 + 0 ≤ _)⟩)
  dsimp only [Pt.U, Pt.locs, Pt.cells, Pt.slots] at X272 l272 y272 z272 st272 hQ272
  subst l272 y272 z272
  obtain ⟨rfl, N272q, K272, PE272, PV272, PZ272, PA272⟩ := hQ272
  have KK272 : Keep h0 T272.heap [a1, b1] := (Keep.refl h0 [a1, b1]).trans K272 (allS (Or.inl (List.mem_of_getElem? (i := 0) rfl)) (allS (Or.inl (List.mem_of_getElem? (i := 1) rfl)) all0))
  have EX_272 := EX.keep K272
  have sz272 : n0 ≤ T272.heap.size := Nat.le_trans Z0 K272.1
  have N272 := Fr.app N0 N272q
  refine Go.tr (U' := T272.setTop (mkF m 6 #[.val (.ref a1), .val (.long q2), .second] [])) st272 ?_
  refine Go.st (U' := T272.setTop (mkF m 9 #[.val (.ref a1), .val (.long q2), .second] [(.int (8 : Int32)), (.ref a1)])) (fun t k => ?_) ?_
  · refine XS.aloadN X272.here hx rfl (hb hby d15_6) rfl rfl ?_
    refine XS.bipush X272.here hx rfl (hb hby d15_7) ?_
    exact k
  obtain ⟨cq273, q273, q273'⟩ := PE272.cell
  obtain ⟨_, _, ⟨T273, L273, k273, n273⟩, -, X273, ⟨Lc273, hQ273, l273, y273, z273⟩, st273⟩ := X272.privateBack hx (y := own_y1) hown (mvT hZ (own_w hw 48 rfl)) (mvT hZ (own_w hw 49 rfl)) (own_selp (y := own_y1) (mvT hZ (own_w hw 1 rfl)) (Cond.privateMethod_at (mvP hZ (own_w hw 50 rfl) (args := #[]))) (mvT hZ (own_w hw 49 rfl)) (by decide)) (Cond.privateMethod_at (mvP hZ (own_w hw 50 rfl) (args := #[]))) (mvT hZ (own_w hw 51 rfl)) (by decide) (backOf (W := 0) (rmr l Z a0 hw [] a1 (8 : Int32) b1 k1 (0 : Int32) [(.int c0), (.int c1), (.int c2), (.int c3), (.int c4), (.int c5), (.int c6), (.int c7), (.int c8), (.int c9), (.int c10), (.int c11), (.int c12), (.int c13), (.int c14), (.int c15)] T272.heap n0 sz272 PV272 PZ272 PA272 (by decide)) hZ (own_w hw 51 rfl) (own_w hw 2 rfl) (by decide) (by decide)) (g := (mkF m 9 #[.val (.ref a1), .val (.long q2), .second] [(.int (8 : Int32)), (.ref a1)])) rfl (by rw [hml]; rfl) (Steps.refl _) (a := a1) q273 q273' (argsL := [(.int (8 : Int32))]) (rest := []) (lenOf pd_0 rfl) rfl (by show 2 * 0 + _ ≤ _; exact Nat.le_of_eq rfl) (hb hby d15_9) (fun _ _ => ⟨rfl, rfl, (by decide : 0 + 0 ≤ _), (by decide : 0 + 0 ≤ _)⟩)
  dsimp only [Pt.U, Pt.locs, Pt.cells, Pt.slots] at X273 l273 y273 z273 st273 hQ273
  subst l273 y273 z273
  obtain ⟨rfl, N273q, e273⟩ := hQ273
  have N273 := Fr.app N272 N273q
  refine Go.tr (U' := T273.setTop (mkF m 12 #[.val (.ref a1), .val (.long q2), .second] [])) st273 ?_
  refine Go.st (U' := T273.setTop (mkF m 14 #[.val (.ref a1), .val (.long q2), .second] [(.ref a1), (.ref a1)])) (fun t k => ?_) ?_
  · refine XS.aloadN X273.here hx rfl (hb hby d15_12) rfl rfl ?_
    refine XS.aloadN X273.here hx rfl (hb hby d15_13) rfl rfl ?_
    exact k
  obtain ⟨T274, X274, e274, st274⟩ := getF X273 hx hZ hown (host := "") (Or.inl (own_w hw 17 rfl)) Via.refl e273 PZ272 (g := (mkF m 14 #[.val (.ref a1), .val (.long q2), .second] [(.ref a1), (.ref a1)])) rfl rfl (hb hby d15_14)
  refine Go.st (U' := T274.setTop (mkF m 17 #[.val (.ref a1), .val (.long q2), .second] [(.int (0 : Int32)), (.ref a1)])) (fun t k => st274 _ k) ?_
  refine Go.st (U' := T274.setTop (mkF m 22 #[.val (.ref a1), .val (.long q2), .second] [(.int (((q2.toUInt64 >>> ((32 : Int32) &&& 0x3f).toInt64.toUInt64).toInt64).toInt32)), (.int (0 : Int32)), (.ref a1)])) (fun t k => ?_) ?_
  · refine XS.lloadN X274.here hx rfl (hb hby d15_17) rfl ?_
    refine XS.bipush X274.here hx rfl (hb hby d15_18) ?_
    refine XS.lushr X274.here hx rfl (hb hby d15_20) rfl ?_
    refine XS.l2i X274.here hx rfl (hb hby d15_21) rfl ?_
    exact k
  obtain ⟨cq275, q275, q275'⟩ := PE272.cell
  obtain ⟨_, _, ⟨T275, L275, k275, n275⟩, -, X275, ⟨Lc275, hQ275, l275, y275, z275⟩, st275⟩ := X274.privateBack hx (y := own_y7) hown (mvT hZ (own_w hw 73 rfl)) (mvT hZ (own_w hw 74 rfl)) (own_selp (y := own_y7) (mvT hZ (own_w hw 1 rfl)) (Cond.privateMethod_at (mvP hZ (own_w hw 75 rfl) (args := #[]))) (mvT hZ (own_w hw 74 rfl)) (by decide)) (Cond.privateMethod_at (mvP hZ (own_w hw 75 rfl) (args := #[]))) (mvT hZ (own_w hw 76 rfl)) (by decide) (backOf (W := 0) (rmp0_0 l Z a0 hw [] a1 b1 k1 c0 c1 c2 c3 c4 c5 c6 c7 c8 c9 c10 c11 c12 c13 c14 c15 (((q2.toUInt64 >>> ((32 : Int32) &&& 0x3f).toInt64.toUInt64).toInt64).toInt32) T272.heap n0 sz272 PE272 PV272 PZ272 PA272 gA gB nab) hZ (own_w hw 76 rfl) (own_w hw 2 rfl) (by decide) (by decide)) (g := (mkF m 22 #[.val (.ref a1), .val (.long q2), .second] [(.int (((q2.toUInt64 >>> ((32 : Int32) &&& 0x3f).toInt64.toUInt64).toInt64).toInt32)), (.int (0 : Int32)), (.ref a1)])) rfl (by rw [hml]; rfl) (Steps.refl _) (a := a1) (by rw [e274]; exact q275) q275' (argsL := [(.int (0 : Int32)), (.int (((q2.toUInt64 >>> ((32 : Int32) &&& 0x3f).toInt64.toUInt64).toInt64).toInt32))]) (rest := []) (lenOf pd_3 rfl) rfl (by show 2 * 0 + _ ≤ _; exact Nat.le_of_eq rfl) (hb hby d15_22) (fun _ _ => ⟨rfl, e274, (by decide : 0 + 0 ≤ _), (by decide : 0 + 0 ≤ _)⟩)
  dsimp only [Pt.U, Pt.locs, Pt.cells, Pt.slots] at X275 l275 y275 z275 st275 hQ275
  subst l275 y275 z275
  obtain ⟨rfl, N275q, K275, PE275, PV275, PZ275, PA275⟩ := hQ275
  have KK275 : Keep h0 T275.heap [a1, b1] := KK272.trans K275 (allS (Or.inl (List.mem_of_getElem? (i := 0) rfl)) (allS (Or.inl (List.mem_of_getElem? (i := 1) rfl)) all0))
  have PE272_275 := PE272.keep K275
  have sz275 : n0 ≤ T275.heap.size := Nat.le_trans sz272 K275.1
  have N275 := Fr.app N273 N275q
  refine Go.tr (U' := T275.setTop (mkF m 25 #[.val (.ref a1), .val (.long q2), .second] [])) st275 ?_
  refine Go.st (U' := T275.setTop (mkF m 27 #[.val (.ref a1), .val (.long q2), .second] [(.ref a1), (.ref a1)])) (fun t k => ?_) ?_
  · refine XS.aloadN X275.here hx rfl (hb hby d15_25) rfl rfl ?_
    refine XS.aloadN X275.here hx rfl (hb hby d15_26) rfl rfl ?_
    exact k
  obtain ⟨T276, X276, e276, st276⟩ := getF X275 hx hZ hown (host := "") (Or.inl (own_w hw 17 rfl)) Via.refl rfl PZ275 (g := (mkF m 27 #[.val (.ref a1), .val (.long q2), .second] [(.ref a1), (.ref a1)])) rfl rfl (hb hby d15_27)
  refine Go.st (U' := T276.setTop (mkF m 30 #[.val (.ref a1), .val (.long q2), .second] [(.int (0 : Int32)), (.ref a1)])) (fun t k => st276 _ k) ?_
  refine Go.st (U' := T276.setTop (mkF m 34 #[.val (.ref a1), .val (.long q2), .second] [(.int (q2.toInt32)), (.int (4 : Int32)), (.ref a1)])) (fun t k => ?_) ?_
  · refine XS.iconst X276.here hx rfl (hb hby d15_30) ?_
    refine XS.iadd X276.here hx rfl (hb hby d15_31) rfl ?_
    refine XS.lloadN X276.here hx rfl (hb hby d15_32) rfl ?_
    refine XS.l2i X276.here hx rfl (hb hby d15_33) rfl ?_
    exact k
  obtain ⟨cq277, q277, q277'⟩ := PE275.cell
  obtain ⟨_, _, ⟨T277, L277, k277, n277⟩, -, X277, ⟨Lc277, hQ277, l277, y277, z277⟩, st277⟩ := X276.privateBack hx (y := own_y7) hown (mvT hZ (own_w hw 73 rfl)) (mvT hZ (own_w hw 74 rfl)) (own_selp (y := own_y7) (mvT hZ (own_w hw 1 rfl)) (Cond.privateMethod_at (mvP hZ (own_w hw 75 rfl) (args := #[]))) (mvT hZ (own_w hw 74 rfl)) (by decide)) (Cond.privateMethod_at (mvP hZ (own_w hw 75 rfl) (args := #[]))) (mvT hZ (own_w hw 76 rfl)) (by decide) (backOf (W := 0) (rmp0_4 l Z a0 hw [] a1 b1 k1 (own_b3 (((q2.toUInt64 >>> ((32 : Int32) &&& 0x3f).toInt64.toUInt64).toInt64).toInt32)) (own_b2 (((q2.toUInt64 >>> ((32 : Int32) &&& 0x3f).toInt64.toUInt64).toInt64).toInt32)) (own_b1 (((q2.toUInt64 >>> ((32 : Int32) &&& 0x3f).toInt64.toUInt64).toInt64).toInt32)) (own_b0 (((q2.toUInt64 >>> ((32 : Int32) &&& 0x3f).toInt64.toUInt64).toInt64).toInt32)) c4 c5 c6 c7 c8 c9 c10 c11 c12 c13 c14 c15 (q2.toInt32) T275.heap n0 sz275 PE275 PV275 PZ275 PA275 gA gB nab) hZ (own_w hw 76 rfl) (own_w hw 2 rfl) (by decide) (by decide)) (g := (mkF m 34 #[.val (.ref a1), .val (.long q2), .second] [(.int (q2.toInt32)), (.int (4 : Int32)), (.ref a1)])) rfl (by rw [hml]; rfl) (Steps.refl _) (a := a1) (by rw [e276]; exact q277) q277' (argsL := [(.int (4 : Int32)), (.int (q2.toInt32))]) (rest := []) (lenOf pd_3 rfl) rfl (by show 2 * 0 + _ ≤ _; exact Nat.le_of_eq rfl) (hb hby d15_34) (fun _ _ => ⟨rfl, e276, (by decide : 0 + 0 ≤ _), (by decide : 0 + 0 ≤ _)⟩)
  dsimp only [Pt.U, Pt.locs, Pt.cells, Pt.slots] at X277 l277 y277 z277 st277 hQ277
  subst l277 y277 z277
  obtain ⟨rfl, N277q, K277, PE277, PV277, PZ277, PA277⟩ := hQ277
  have KK277 : Keep h0 T277.heap [a1, b1] := KK275.trans K277 (allS (Or.inl (List.mem_of_getElem? (i := 0) rfl)) (allS (Or.inl (List.mem_of_getElem? (i := 1) rfl)) all0))
  have PE275_277 := PE275.keep K277
  have sz277 : n0 ≤ T277.heap.size := Nat.le_trans sz275 K277.1
  have N277 := Fr.app N275 N277q
  refine Go.tr (U' := T277.setTop (mkF m 37 #[.val (.ref a1), .val (.long q2), .second] [])) st277 ?_
  refine Go.st (U' := T277.setTop (mkF m 39 #[.val (.ref a1), .val (.long q2), .second] [(.ref a1), (.ref a1)])) (fun t k => ?_) ?_
  · refine XS.aloadN X277.here hx rfl (hb hby d15_37) rfl rfl ?_
    refine XS.dup X277.here hx rfl (hb hby d15_38) rfl rfl ?_
    exact k
  obtain ⟨T278, X278, e278, st278⟩ := getF X277 hx hZ hown (host := "") (Or.inl (own_w hw 17 rfl)) Via.refl rfl PZ277 (g := (mkF m 39 #[.val (.ref a1), .val (.long q2), .second] [(.ref a1), (.ref a1)])) rfl rfl (hb hby d15_39)
  refine Go.st (U' := T278.setTop (mkF m 42 #[.val (.ref a1), .val (.long q2), .second] [(.int (0 : Int32)), (.ref a1)])) (fun t k => st278 _ k) ?_
  refine Go.st (U' := T278.setTop (mkF m 45 #[.val (.ref a1), .val (.long q2), .second] [(.int (8 : Int32)), (.ref a1)])) (fun t k => ?_) ?_
  · refine XS.bipush X278.here hx rfl (hb hby d15_42) ?_
    refine XS.iadd X278.here hx rfl (hb hby d15_44) rfl ?_
    exact k
  obtain ⟨T279, h279, X279, e279, W279, st279⟩ := putF X278 hx hZ hown (host := "") (Or.inl (own_w hw 17 rfl)) Via.refl e278 PZ277 PE277 (Or.inl (own_w hw 18 rfl)) (own_w hw 1 rfl) (ty := .int) (by decide) rfl rfl (g := (mkF m 45 #[.val (.ref a1), .val (.long q2), .second] [(.int (8 : Int32)), (.ref a1)])) rfl rfl (hb hby d15_45)
  have F279 := PZ277.same W279
  have PE277_279 := PE277.wr W279
  have PV277_279 := PV277.other W279 (Or.inr (slot_ne (Or.inl (own_w hw 11 rfl)) (Or.inl (own_w hw 18 rfl)) (by decide) (t := (.array .byte)) (t' := .int) (by decide) (by decide)))
  have PA277_279 := PA277.other W279 (Ne.symm nab)
  have N279 := Fr.snoc X279 N277 gA
  have KK279 : Keep h0 h279 [a1, b1] := KK277.wr W279 (Or.inl (List.mem_of_getElem? (i := 0) rfl))
  have sz279 : n0 ≤ h279.size := Nat.le_trans sz277 (Nat.le_of_eq W279.size.symm)
  refine Go.st (U' := T279.setTop (mkF m 48 #[.val (.ref a1), .val (.long q2), .second] [])) (fun t k => st279 _ k) ?_
  refine own_ret (Q := Ql0 Z a1 b1 k1 c0 c1 c2 c3 c4 c5 c6 c7 c8 c9 c10 c11 c12 c13 c14 c15 q2 h0 n0) (v := none) X279 hlk (fun _ => rfl) (by decide) (by decide) ?_ (fun fs hr => X279.returnOut hx hrt (hb hby d15_48) hr)
  rw [e279]
  exact ⟨rfl, N279, KK279, PE277_279, PV277_279, F279, PA277_279⟩
theorem eff1_8 (m : MethodId) (a1 : Addr) : entryFrame m #[(.ref a1), (.int (1 : Int32)), (.int (8 : Int32)), (.int (0 : Int32))] 5 = mkF m 0 #[.val (.ref a1), .val (.int (1 : Int32)), .val (.int (8 : Int32)), .val (.int (0 : Int32)), .unset] [] := by first | (simp [entryFrame, mkF, argsToLocals, Value.category]; done) | rfl
def Qf1_8 (Z : State) (a1 : Addr) (k1 : ClassId) (c0 : Int32) (c1 : Int32) (c2 : Int32) (c3 : Int32) (c4 : Int32) (c5 : Int32) (c6 : Int32) (c7 : Int32) (c8 : Int32) (c9 : Int32) (c10 : Int32) (c11 : Int32) (c12 : Int32) (c13 : Int32) (c14 : Int32) (c15 : Int32) (h0 : Heap) (n0 : Nat) (v : Option Value) (h : Heap) (L : List Loc) : Prop := v = none ∧ Fr n0 L ∧ Keep h0 h [a1] ∧ Arv Z h a1 k1 .byte (256 : Int32) [(.int c0), (.int (0 : Int32)), (.int (0 : Int32)), (.int (0 : Int32)), (.int (0 : Int32)), (.int (0 : Int32)), (.int (0 : Int32)), (.int (0 : Int32)), (.int c8), (.int c9), (.int c10), (.int c11), (.int c12), (.int c13), (.int c14), (.int c15)] (.int (0 : Int32))
set_option maxRecDepth 65536 in
set_option maxHeartbeats 40000000 in
theorem rmf1_8 (l : Launch) (Z : State) (a0 : Array Value) (hw : ∀ d ∈ tables_1, d.before a0 Z = true) (ws : List Jvm.Cond) (a1 : Addr) (k1 : ClassId) (c0 : Int32) (c1 : Int32) (c2 : Int32) (c3 : Int32) (c4 : Int32) (c5 : Int32) (c6 : Int32) (c7 : Int32) (c8 : Int32) (c9 : Int32) (c10 : Int32) (c11 : Int32) (c12 : Int32) (c13 : Int32) (c14 : Int32) (c15 : Int32) (h0 : Heap) (n0 : Nat) (Z0 : n0 ≤ h0.size) (VA : Arv Z h0 a1 k1 .byte (256 : Int32) [(.int c0), (.int c1), (.int c2), (.int c3), (.int c4), (.int c5), (.int c6), (.int c7), (.int c8), (.int c9), (.int c10), (.int c11), (.int c12), (.int c13), (.int c14), (.int c15)] (.int (0 : Int32))) (gA : n0 ≤ a1) :
    MetFree l own_y4 (head1 (Jvm.Cond.code own_y4 jdk_65_method_110_code 5 none :: ws) own_R1_0_0_16) (fun a U => a = #[(.ref a1), (.int (1 : Int32)), (.int (8 : Int32)), (.int (0 : Int32))] ∧ Z.Warmed39 U.vm ∧ U.heap = h0) (fun _ _ _ _ _ => True) (fun _ U o U' => ∃ v L, o = .returned v ∧ Qf1_8 Z a1 k1 c0 c1 c2 c3 c4 c5 c6 c7 c8 c9 c10 c11 c12 c13 c14 c15 h0 n0 v U'.heap L ∧ FrameEnd U o U' L (own_R1_0_0_16).cells (own_R1_0_0_16).slots) := by
  refine MetFree.of_bodySF (plainFor_of_name pn_4) hisR ?_
  intro p e s m args below meth c s₁ Bd hml0 hP hK
  obtain ⟨rfl, hZ, hh⟩ := hP
  have hx := Bd.exec
  have hby := Bd.bytes
  have hml : c.maxLocals = 5 := hml0
  have hown : s.vm.findClass "java/util/Arrays" = some m.cls := findClass_of_methodNamed Bd.named
  have hnm := (name_of_methodNamed Bd.named Bd.method).1
  have hlk : meth.locks = false := BodyLoose.notSynchronized Bd
  have hrt := Bd.returns
  have X0 : Stand p l e own_R1_0_0_16 s m #[(.ref a1), (.int (1 : Int32)), (.int (8 : Int32)), (.int (0 : Int32))] below meth c s₁ [] 0 0 := Stand.of_body Bd
  have e0 : s₁.heap = h0 := by rw [← hh, Bd.state]; rfl
  have N0 := Fr.nil n0
  refine (show Go p e below (fun s₂ o => ∃ v L, o = .returned v ∧ Qf1_8 Z a1 k1 c0 c1 c2 c3 c4 c5 c6 c7 c8 c9 c10 c11 c12 c13 c14 c15 h0 n0 v s₂.heap L ∧ FrameEnd s o s₂ L 0 0) (s₁.setTop (entryFrame m #[(.ref a1), (.int (1 : Int32)), (.int (8 : Int32)), (.int (0 : Int32))] 5)) from ?_)
  rw [eff1_8]
  obtain ⟨cl280, Ar280, q280, S280, N280, H280, G280⟩ := id VA
  refine Go.st (U' := s₁.setTop (mkF m 4 #[.val (.ref a1), .val (.int (1 : Int32)), .val (.int (8 : Int32)), .val (.int (0 : Int32)), .unset] [(.int (8 : Int32)), (.int (1 : Int32)), (.int (256 : Int32))])) (fun t k => ?_) ?_
  · refine XS.aloadN X0.here hx rfl (hb hby d13_0) rfl rfl ?_
    refine X0.arraylength hx (by rw [e0]; exact Ar280.1) (State.isArrayOf_alike hZ.alike Ar280.2.1) (g := (mkF m 1 #[.val (.ref a1), .val (.int (1 : Int32)), .val (.int (8 : Int32)), .val (.int (0 : Int32)), .unset] [(.ref a1)])) rfl rfl (hb hby d13_1) _ ?_
    rw [len_of S280 N280]
    refine XS.iloadN X0.here hx rfl (hb hby d13_2) rfl ?_
    refine XS.iloadN X0.here hx rfl (hb hby d13_3) rfl ?_
    exact k
  obtain ⟨_, _, ⟨T281, L281, k281, n281⟩, -, X281, ⟨Lc281, hQ281, l281, y281, z281⟩, st281⟩ := Jvm.LawKit.callS X0 hx (y := own_y2) hown (mvT hZ (own_w hw 65 rfl)) (mvT hZ (own_w hw 66 rfl)) (mvT hZ (own_w hw 21 rfl)) (mvT hZ (own_w hw 67 rfl)) (by decide) (backOf (W := 0) (rmk l Z a0 hw [] (256 : Int32) (1 : Int32) (8 : Int32) h0 n0 Z0 (by decide) (by decide) (by decide)) hZ (own_w hw 67 rfl) (own_w hw 21 rfl) (by decide) (by decide)) (g := (mkF m 4 #[.val (.ref a1), .val (.int (1 : Int32)), .val (.int (8 : Int32)), .val (.int (0 : Int32)), .unset] [(.int (8 : Int32)), (.int (1 : Int32)), (.int (256 : Int32))])) rfl (by rw [hml]; rfl) (argsL := [(.int (256 : Int32)), (.int (1 : Int32)), (.int (8 : Int32))]) (rest := []) (lenOf pd_1 rfl) rfl (by show 2 * 0 + _ ≤ _; exact Nat.le_of_eq rfl) (hb hby d13_4) (fun _ _ => ⟨rfl, e0, (by decide : 0 + 0 ≤ _), (by decide : 0 + 0 ≤ _)⟩)
  dsimp only [Pt.U, Pt.locs, Pt.cells, Pt.slots] at X281 l281 y281 z281 st281 hQ281
  subst l281 y281 z281
  obtain ⟨rfl, N281q, e281⟩ := hQ281
  have N281 := Fr.app N0 N281q
  refine Go.st (U' := T281.setTop (mkF m 7 #[.val (.ref a1), .val (.int (1 : Int32)), .val (.int (8 : Int32)), .val (.int (0 : Int32)), .unset] [])) (fun t k => st281 _ k) ?_
  refine Go.st (U' := T281.setTop (mkF m 20 #[.val (.ref a1), .val (.int (1 : Int32)), .val (.int (8 : Int32)), .val (.int (0 : Int32)), .val (.int (1 : Int32))] [(.int (0 : Int32)), (.int (1 : Int32)), (.ref a1)])) (fun t k => ?_) ?_
  · refine XS.iloadN X281.here hx rfl (hb hby d13_7) rfl ?_
    refine XS.istore X281.here hx rfl (hb hby d13_8) rfl (l' := #[.val (.ref a1), .val (.int (1 : Int32)), .val (.int (8 : Int32)), .val (.int (0 : Int32)), .val (.int (1 : Int32))]) rfl ?_
    refine XS.iload X281.here hx rfl (hb hby d13_10) rfl ?_
    refine XS.iloadN X281.here hx rfl (hb hby d13_12) rfl ?_
    refine XS.icmpNo X281.here hx rfl (hb hby d13_13) rfl (tlt (by decide : (1 : Int32) < (8 : Int32))).2.1 ?_
    refine XS.aloadN X281.here hx rfl (hb hby d13_16) rfl rfl ?_
    refine XS.iload X281.here hx rfl (hb hby d13_17) rfl ?_
    refine XS.iloadN X281.here hx rfl (hb hby d13_19) rfl ?_
    exact k
  obtain ⟨T282, h282, X282, e282, W282, st282⟩ := stB X281 hx hZ e281 Ar280 (j := (1 : Int32)) (inb_of (j := (1 : Int32)) S280 ⟨by decide, by decide⟩) (g := (mkF m 20 #[.val (.ref a1), .val (.int (1 : Int32)), .val (.int (8 : Int32)), .val (.int (0 : Int32)), .val (.int (1 : Int32))] [(.int (0 : Int32)), (.int (1 : Int32)), (.ref a1)])) rfl rfl (hb hby d13_20)
  have VA_282 := Arv.set Ar280 q280 S280 N280 H280 G280 (fits_nar_byte _) W282 1 rfl (Nat.le_of_ble_eq_true rfl)
  have N282 := Fr.snoc X282 N281 gA
  have KK282 : Keep h0 h282 [a1] := (Keep.refl h0 [a1]).wr W282 (Or.inl (List.mem_of_getElem? (i := 0) rfl))
  have sz282 : n0 ≤ h282.size := Nat.le_trans Z0 (Nat.le_of_eq W282.size.symm)
  refine Go.st (U' := T282.setTop (mkF m 21 #[.val (.ref a1), .val (.int (1 : Int32)), .val (.int (8 : Int32)), .val (.int (0 : Int32)), .val (.int (1 : Int32))] [])) (fun t k => st282 _ k) ?_
  refine Go.st (U' := T282.setTop (mkF m 20 #[.val (.ref a1), .val (.int (1 : Int32)), .val (.int (8 : Int32)), .val (.int (0 : Int32)), .val (.int (2 : Int32))] [(.int (0 : Int32)), (.int (2 : Int32)), (.ref a1)])) (fun t k => ?_) ?_
  · refine XS.iinc X282.here hx rfl (hb hby d13_21) rfl (l' := #[.val (.ref a1), .val (.int (1 : Int32)), .val (.int (8 : Int32)), .val (.int (0 : Int32)), .val (.int (2 : Int32))]) rfl ?_
    refine XS.goto X282.here hx rfl (pc0 := 24) (pc' := 10) rfl (hb hby d13_24) (by decide) (by decide) ?_
    refine XS.iload X282.here hx rfl (hb hby d13_10) rfl ?_
    refine XS.iloadN X282.here hx rfl (hb hby d13_12) rfl ?_
    refine XS.icmpNo X282.here hx rfl (hb hby d13_13) rfl (tlt (by decide : (2 : Int32) < (8 : Int32))).2.1 ?_
    refine XS.aloadN X282.here hx rfl (hb hby d13_16) rfl rfl ?_
    refine XS.iload X282.here hx rfl (hb hby d13_17) rfl ?_
    refine XS.iloadN X282.here hx rfl (hb hby d13_19) rfl ?_
    exact k
  obtain ⟨cl284, Ar284, q284, S284, N284, H284, G284⟩ := id VA_282
  obtain ⟨T283, h283, X283, e283, W283, st283⟩ := stB X282 hx hZ e282 Ar284 (j := (2 : Int32)) (inb_of (j := (2 : Int32)) S284 ⟨by decide, by decide⟩) (g := (mkF m 20 #[.val (.ref a1), .val (.int (1 : Int32)), .val (.int (8 : Int32)), .val (.int (0 : Int32)), .val (.int (2 : Int32))] [(.int (0 : Int32)), (.int (2 : Int32)), (.ref a1)])) rfl rfl (hb hby d13_20)
  have VA_283 := Arv.set Ar284 q284 S284 N284 H284 G284 (fits_nar_byte _) W283 2 rfl (Nat.le_of_ble_eq_true rfl)
  have N283 := Fr.snoc X283 N282 gA
  have KK283 : Keep h0 h283 [a1] := KK282.wr W283 (Or.inl (List.mem_of_getElem? (i := 0) rfl))
  have sz283 : n0 ≤ h283.size := Nat.le_trans sz282 (Nat.le_of_eq W283.size.symm)
  refine Go.st (U' := T283.setTop (mkF m 21 #[.val (.ref a1), .val (.int (1 : Int32)), .val (.int (8 : Int32)), .val (.int (0 : Int32)), .val (.int (2 : Int32))] [])) (fun t k => st283 _ k) ?_
  refine Go.st (U' := T283.setTop (mkF m 20 #[.val (.ref a1), .val (.int (1 : Int32)), .val (.int (8 : Int32)), .val (.int (0 : Int32)), .val (.int (3 : Int32))] [(.int (0 : Int32)), (.int (3 : Int32)), (.ref a1)])) (fun t k => ?_) ?_
  · refine XS.iinc X283.here hx rfl (hb hby d13_21) rfl (l' := #[.val (.ref a1), .val (.int (1 : Int32)), .val (.int (8 : Int32)), .val (.int (0 : Int32)), .val (.int (3 : Int32))]) rfl ?_
    refine XS.goto X283.here hx rfl (pc0 := 24) (pc' := 10) rfl (hb hby d13_24) (by decide) (by decide) ?_
    refine XS.iload X283.here hx rfl (hb hby d13_10) rfl ?_
    refine XS.iloadN X283.here hx rfl (hb hby d13_12) rfl ?_
    refine XS.icmpNo X283.here hx rfl (hb hby d13_13) rfl (tlt (by decide : (3 : Int32) < (8 : Int32))).2.1 ?_
    refine XS.aloadN X283.here hx rfl (hb hby d13_16) rfl rfl ?_
    refine XS.iload X283.here hx rfl (hb hby d13_17) rfl ?_
    refine XS.iloadN X283.here hx rfl (hb hby d13_19) rfl ?_
    exact k
  obtain ⟨cl286, Ar286, q286, S286, N286, H286, G286⟩ := id VA_283
  obtain ⟨T285, h285, X285, e285, W285, st285⟩ := stB X283 hx hZ e283 Ar286 (j := (3 : Int32)) (inb_of (j := (3 : Int32)) S286 ⟨by decide, by decide⟩) (g := (mkF m 20 #[.val (.ref a1), .val (.int (1 : Int32)), .val (.int (8 : Int32)), .val (.int (0 : Int32)), .val (.int (3 : Int32))] [(.int (0 : Int32)), (.int (3 : Int32)), (.ref a1)])) rfl rfl (hb hby d13_20)
  have VA_285 := Arv.set Ar286 q286 S286 N286 H286 G286 (fits_nar_byte _) W285 3 rfl (Nat.le_of_ble_eq_true rfl)
  have N285 := Fr.snoc X285 N283 gA
  have KK285 : Keep h0 h285 [a1] := KK283.wr W285 (Or.inl (List.mem_of_getElem? (i := 0) rfl))
  have sz285 : n0 ≤ h285.size := Nat.le_trans sz283 (Nat.le_of_eq W285.size.symm)
  refine Go.st (U' := T285.setTop (mkF m 21 #[.val (.ref a1), .val (.int (1 : Int32)), .val (.int (8 : Int32)), .val (.int (0 : Int32)), .val (.int (3 : Int32))] [])) (fun t k => st285 _ k) ?_
  refine Go.st (U' := T285.setTop (mkF m 20 #[.val (.ref a1), .val (.int (1 : Int32)), .val (.int (8 : Int32)), .val (.int (0 : Int32)), .val (.int (4 : Int32))] [(.int (0 : Int32)), (.int (4 : Int32)), (.ref a1)])) (fun t k => ?_) ?_
  · refine XS.iinc X285.here hx rfl (hb hby d13_21) rfl (l' := #[.val (.ref a1), .val (.int (1 : Int32)), .val (.int (8 : Int32)), .val (.int (0 : Int32)), .val (.int (4 : Int32))]) rfl ?_
    refine XS.goto X285.here hx rfl (pc0 := 24) (pc' := 10) rfl (hb hby d13_24) (by decide) (by decide) ?_
    refine XS.iload X285.here hx rfl (hb hby d13_10) rfl ?_
    refine XS.iloadN X285.here hx rfl (hb hby d13_12) rfl ?_
    refine XS.icmpNo X285.here hx rfl (hb hby d13_13) rfl (tlt (by decide : (4 : Int32) < (8 : Int32))).2.1 ?_
    refine XS.aloadN X285.here hx rfl (hb hby d13_16) rfl rfl ?_
    refine XS.iload X285.here hx rfl (hb hby d13_17) rfl ?_
    refine XS.iloadN X285.here hx rfl (hb hby d13_19) rfl ?_
    exact k
  obtain ⟨cl288, Ar288, q288, S288, N288, H288, G288⟩ := id VA_285
  obtain ⟨T287, h287, X287, e287, W287, st287⟩ := stB X285 hx hZ e285 Ar288 (j := (4 : Int32)) (inb_of (j := (4 : Int32)) S288 ⟨by decide, by decide⟩) (g := (mkF m 20 #[.val (.ref a1), .val (.int (1 : Int32)), .val (.int (8 : Int32)), .val (.int (0 : Int32)), .val (.int (4 : Int32))] [(.int (0 : Int32)), (.int (4 : Int32)), (.ref a1)])) rfl rfl (hb hby d13_20)
  have VA_287 := Arv.set Ar288 q288 S288 N288 H288 G288 (fits_nar_byte _) W287 4 rfl (Nat.le_of_ble_eq_true rfl)
  have N287 := Fr.snoc X287 N285 gA
  have KK287 : Keep h0 h287 [a1] := KK285.wr W287 (Or.inl (List.mem_of_getElem? (i := 0) rfl))
  have sz287 : n0 ≤ h287.size := Nat.le_trans sz285 (Nat.le_of_eq W287.size.symm)
  refine Go.st (U' := T287.setTop (mkF m 21 #[.val (.ref a1), .val (.int (1 : Int32)), .val (.int (8 : Int32)), .val (.int (0 : Int32)), .val (.int (4 : Int32))] [])) (fun t k => st287 _ k) ?_
  refine Go.st (U' := T287.setTop (mkF m 20 #[.val (.ref a1), .val (.int (1 : Int32)), .val (.int (8 : Int32)), .val (.int (0 : Int32)), .val (.int (5 : Int32))] [(.int (0 : Int32)), (.int (5 : Int32)), (.ref a1)])) (fun t k => ?_) ?_
  · refine XS.iinc X287.here hx rfl (hb hby d13_21) rfl (l' := #[.val (.ref a1), .val (.int (1 : Int32)), .val (.int (8 : Int32)), .val (.int (0 : Int32)), .val (.int (5 : Int32))]) rfl ?_
    refine XS.goto X287.here hx rfl (pc0 := 24) (pc' := 10) rfl (hb hby d13_24) (by decide) (by decide) ?_
    refine XS.iload X287.here hx rfl (hb hby d13_10) rfl ?_
    refine XS.iloadN X287.here hx rfl (hb hby d13_12) rfl ?_
    refine XS.icmpNo X287.here hx rfl (hb hby d13_13) rfl (tlt (by decide : (5 : Int32) < (8 : Int32))).2.1 ?_
    refine XS.aloadN X287.here hx rfl (hb hby d13_16) rfl rfl ?_
    refine XS.iload X287.here hx rfl (hb hby d13_17) rfl ?_
    refine XS.iloadN X287.here hx rfl (hb hby d13_19) rfl ?_
    exact k
  obtain ⟨cl290, Ar290, q290, S290, N290, H290, G290⟩ := id VA_287
  obtain ⟨T289, h289, X289, e289, W289, st289⟩ := stB X287 hx hZ e287 Ar290 (j := (5 : Int32)) (inb_of (j := (5 : Int32)) S290 ⟨by decide, by decide⟩) (g := (mkF m 20 #[.val (.ref a1), .val (.int (1 : Int32)), .val (.int (8 : Int32)), .val (.int (0 : Int32)), .val (.int (5 : Int32))] [(.int (0 : Int32)), (.int (5 : Int32)), (.ref a1)])) rfl rfl (hb hby d13_20)
  have VA_289 := Arv.set Ar290 q290 S290 N290 H290 G290 (fits_nar_byte _) W289 5 rfl (Nat.le_of_ble_eq_true rfl)
  have N289 := Fr.snoc X289 N287 gA
  have KK289 : Keep h0 h289 [a1] := KK287.wr W289 (Or.inl (List.mem_of_getElem? (i := 0) rfl))
  have sz289 : n0 ≤ h289.size := Nat.le_trans sz287 (Nat.le_of_eq W289.size.symm)
  refine Go.st (U' := T289.setTop (mkF m 21 #[.val (.ref a1), .val (.int (1 : Int32)), .val (.int (8 : Int32)), .val (.int (0 : Int32)), .val (.int (5 : Int32))] [])) (fun t k => st289 _ k) ?_
  refine Go.st (U' := T289.setTop (mkF m 20 #[.val (.ref a1), .val (.int (1 : Int32)), .val (.int (8 : Int32)), .val (.int (0 : Int32)), .val (.int (6 : Int32))] [(.int (0 : Int32)), (.int (6 : Int32)), (.ref a1)])) (fun t k => ?_) ?_
  · refine XS.iinc X289.here hx rfl (hb hby d13_21) rfl (l' := #[.val (.ref a1), .val (.int (1 : Int32)), .val (.int (8 : Int32)), .val (.int (0 : Int32)), .val (.int (6 : Int32))]) rfl ?_
    refine XS.goto X289.here hx rfl (pc0 := 24) (pc' := 10) rfl (hb hby d13_24) (by decide) (by decide) ?_
    refine XS.iload X289.here hx rfl (hb hby d13_10) rfl ?_
    refine XS.iloadN X289.here hx rfl (hb hby d13_12) rfl ?_
    refine XS.icmpNo X289.here hx rfl (hb hby d13_13) rfl (tlt (by decide : (6 : Int32) < (8 : Int32))).2.1 ?_
    refine XS.aloadN X289.here hx rfl (hb hby d13_16) rfl rfl ?_
    refine XS.iload X289.here hx rfl (hb hby d13_17) rfl ?_
    refine XS.iloadN X289.here hx rfl (hb hby d13_19) rfl ?_
    exact k
  obtain ⟨cl292, Ar292, q292, S292, N292, H292, G292⟩ := id VA_289
  obtain ⟨T291, h291, X291, e291, W291, st291⟩ := stB X289 hx hZ e289 Ar292 (j := (6 : Int32)) (inb_of (j := (6 : Int32)) S292 ⟨by decide, by decide⟩) (g := (mkF m 20 #[.val (.ref a1), .val (.int (1 : Int32)), .val (.int (8 : Int32)), .val (.int (0 : Int32)), .val (.int (6 : Int32))] [(.int (0 : Int32)), (.int (6 : Int32)), (.ref a1)])) rfl rfl (hb hby d13_20)
  have VA_291 := Arv.set Ar292 q292 S292 N292 H292 G292 (fits_nar_byte _) W291 6 rfl (Nat.le_of_ble_eq_true rfl)
  have N291 := Fr.snoc X291 N289 gA
  have KK291 : Keep h0 h291 [a1] := KK289.wr W291 (Or.inl (List.mem_of_getElem? (i := 0) rfl))
  have sz291 : n0 ≤ h291.size := Nat.le_trans sz289 (Nat.le_of_eq W291.size.symm)
  refine Go.st (U' := T291.setTop (mkF m 21 #[.val (.ref a1), .val (.int (1 : Int32)), .val (.int (8 : Int32)), .val (.int (0 : Int32)), .val (.int (6 : Int32))] [])) (fun t k => st291 _ k) ?_
  refine Go.st (U' := T291.setTop (mkF m 20 #[.val (.ref a1), .val (.int (1 : Int32)), .val (.int (8 : Int32)), .val (.int (0 : Int32)), .val (.int (7 : Int32))] [(.int (0 : Int32)), (.int (7 : Int32)), (.ref a1)])) (fun t k => ?_) ?_
  · refine XS.iinc X291.here hx rfl (hb hby d13_21) rfl (l' := #[.val (.ref a1), .val (.int (1 : Int32)), .val (.int (8 : Int32)), .val (.int (0 : Int32)), .val (.int (7 : Int32))]) rfl ?_
    refine XS.goto X291.here hx rfl (pc0 := 24) (pc' := 10) rfl (hb hby d13_24) (by decide) (by decide) ?_
    refine XS.iload X291.here hx rfl (hb hby d13_10) rfl ?_
    refine XS.iloadN X291.here hx rfl (hb hby d13_12) rfl ?_
    refine XS.icmpNo X291.here hx rfl (hb hby d13_13) rfl (tlt (by decide : (7 : Int32) < (8 : Int32))).2.1 ?_
    refine XS.aloadN X291.here hx rfl (hb hby d13_16) rfl rfl ?_
    refine XS.iload X291.here hx rfl (hb hby d13_17) rfl ?_
    refine XS.iloadN X291.here hx rfl (hb hby d13_19) rfl ?_
    exact k
  obtain ⟨cl294, Ar294, q294, S294, N294, H294, G294⟩ := id VA_291
  obtain ⟨T293, h293, X293, e293, W293, st293⟩ := stB X291 hx hZ e291 Ar294 (j := (7 : Int32)) (inb_of (j := (7 : Int32)) S294 ⟨by decide, by decide⟩) (g := (mkF m 20 #[.val (.ref a1), .val (.int (1 : Int32)), .val (.int (8 : Int32)), .val (.int (0 : Int32)), .val (.int (7 : Int32))] [(.int (0 : Int32)), (.int (7 : Int32)), (.ref a1)])) rfl rfl (hb hby d13_20)
  have VA_293 := Arv.set Ar294 q294 S294 N294 H294 G294 (fits_nar_byte _) W293 7 rfl (Nat.le_of_ble_eq_true rfl)
  have N293 := Fr.snoc X293 N291 gA
  have KK293 : Keep h0 h293 [a1] := KK291.wr W293 (Or.inl (List.mem_of_getElem? (i := 0) rfl))
  have sz293 : n0 ≤ h293.size := Nat.le_trans sz291 (Nat.le_of_eq W293.size.symm)
  refine Go.st (U' := T293.setTop (mkF m 21 #[.val (.ref a1), .val (.int (1 : Int32)), .val (.int (8 : Int32)), .val (.int (0 : Int32)), .val (.int (7 : Int32))] [])) (fun t k => st293 _ k) ?_
  refine Go.st (U' := T293.setTop (mkF m 27 #[.val (.ref a1), .val (.int (1 : Int32)), .val (.int (8 : Int32)), .val (.int (0 : Int32)), .val (.int (8 : Int32))] [])) (fun t k => ?_) ?_
  · refine XS.iinc X293.here hx rfl (hb hby d13_21) rfl (l' := #[.val (.ref a1), .val (.int (1 : Int32)), .val (.int (8 : Int32)), .val (.int (0 : Int32)), .val (.int (8 : Int32))]) rfl ?_
    refine XS.goto X293.here hx rfl (pc0 := 24) (pc' := 10) rfl (hb hby d13_24) (by decide) (by decide) ?_
    refine XS.iload X293.here hx rfl (hb hby d13_10) rfl ?_
    refine XS.iloadN X293.here hx rfl (hb hby d13_12) rfl ?_
    refine XS.icmpYes X293.here hx rfl (pc0 := 13) (pc' := 27) rfl (hb hby d13_13) rfl (flt (by decide : ¬ ((8 : Int32) < (8 : Int32)))).2.1 (by decide) (by decide) ?_
    exact k
  refine own_ret (Q := Qf1_8 Z a1 k1 c0 c1 c2 c3 c4 c5 c6 c7 c8 c9 c10 c11 c12 c13 c14 c15 h0 n0) (v := none) X293 hlk (fun _ => rfl) (by decide) (by decide) ?_ (fun fs hr => X293.returnOut hx hrt (hb hby d13_27) hr)
  rw [e293]
  exact ⟨rfl, N293, KK293, VA_293⟩
theorem efa1_8 (m : MethodId) (a1 : Addr) : entryFrame m #[(.ref a1), (.int (8 : Int32))] 3 = mkF m 0 #[.val (.ref a1), .val (.int (8 : Int32)), .unset] [] := by first | (simp [entryFrame, mkF, argsToLocals, Value.category]; done) | rfl
def Qa1_8 (Z : State) (a1 : Addr) (b1 : Addr) (k1 : ClassId) (c0 : Int32) (c1 : Int32) (c2 : Int32) (c3 : Int32) (c4 : Int32) (c5 : Int32) (c6 : Int32) (c7 : Int32) (c8 : Int32) (c9 : Int32) (c10 : Int32) (c11 : Int32) (c12 : Int32) (c13 : Int32) (c14 : Int32) (c15 : Int32) (h0 : Heap) (n0 : Nat) (v : Option Value) (h : Heap) (L : List Loc) : Prop := v = none ∧ Fr n0 L ∧ Keep h0 h [a1, b1] ∧ Exa Z h a1 "com/example/portcullis/portcullis/io/CdrOutput" ∧ Fld Z h a1 "com/example/portcullis/portcullis/io/CdrOutput" "buffer" "[B" (.ref b1) ∧ Fld Z h a1 "com/example/portcullis/portcullis/io/CdrOutput" "size" "I" (.int (8 : Int32)) ∧ Arv Z h b1 k1 .byte (256 : Int32) [(.int c0), (.int (0 : Int32)), (.int (0 : Int32)), (.int (0 : Int32)), (.int (0 : Int32)), (.int (0 : Int32)), (.int (0 : Int32)), (.int (0 : Int32)), (.int c8), (.int c9), (.int c10), (.int c11), (.int c12), (.int c13), (.int c14), (.int c15)] (.int (0 : Int32))
set_option maxRecDepth 65536 in
set_option maxHeartbeats 40000000 in
theorem rma1_8 (l : Launch) (Z : State) (a0 : Array Value) (hw : ∀ d ∈ tables_1, d.before a0 Z = true) (ws : List Jvm.Cond) (a1 : Addr) (b1 : Addr) (k1 : ClassId) (c0 : Int32) (c1 : Int32) (c2 : Int32) (c3 : Int32) (c4 : Int32) (c5 : Int32) (c6 : Int32) (c7 : Int32) (c8 : Int32) (c9 : Int32) (c10 : Int32) (c11 : Int32) (c12 : Int32) (c13 : Int32) (c14 : Int32) (c15 : Int32) (h0 : Heap) (n0 : Nat) (Z0 : n0 ≤ h0.size) (EX : Exa Z h0 a1 "com/example/portcullis/portcullis/io/CdrOutput") (FB : Fld Z h0 a1 "com/example/portcullis/portcullis/io/CdrOutput" "buffer" "[B" (.ref b1)) (FS : Fld Z h0 a1 "com/example/portcullis/portcullis/io/CdrOutput" "size" "I" (.int (1 : Int32))) (VA : Arv Z h0 b1 k1 .byte (256 : Int32) [(.int c0), (.int c1), (.int c2), (.int c3), (.int c4), (.int c5), (.int c6), (.int c7), (.int c8), (.int c9), (.int c10), (.int c11), (.int c12), (.int c13), (.int c14), (.int c15)] (.int (0 : Int32))) (gA : n0 ≤ a1) (gB : n0 ≤ b1) (nab : a1 ≠ b1) :
    MetFree l own_y5 (head1 (Jvm.Cond.code own_y5 prog_14_method_14_code 3 none :: ws) own_R2_0_0_48) (fun a U => a = #[(.ref a1), (.int (8 : Int32))] ∧ Z.Warmed39 U.vm ∧ U.heap = h0) (fun _ _ _ _ _ => True) (fun _ U o U' => ∃ v L, o = .returned v ∧ Qa1_8 Z a1 b1 k1 c0 c1 c2 c3 c4 c5 c6 c7 c8 c9 c10 c11 c12 c13 c14 c15 h0 n0 v U'.heap L ∧ FrameEnd U o U' L (own_R2_0_0_48).cells (own_R2_0_0_48).slots) := by
  refine MetFree.of_bodySF (plainFor_of_name pn_0) hisR ?_
  intro p e s m args below meth c s₁ Bd hml0 hP hK
  obtain ⟨rfl, hZ, hh⟩ := hP
  have hx := Bd.exec
  have hby := Bd.bytes
  have hml : c.maxLocals = 3 := hml0
  have hown : s.vm.findClass "com/example/portcullis/portcullis/io/CdrOutput" = some m.cls := findClass_of_methodNamed Bd.named
  have hnm := (name_of_methodNamed Bd.named Bd.method).1
  have hlk : meth.locks = false := BodyLoose.notSynchronized Bd
  have hrt := Bd.returns
  have X0 : Stand p l e own_R2_0_0_48 s m #[(.ref a1), (.int (8 : Int32))] below meth c s₁ [] 0 0 := Stand.of_body Bd
  have e0 : s₁.heap = h0 := by rw [← hh, Bd.state]; rfl
  have N0 := Fr.nil n0
  refine (show Go p e below (fun s₂ o => ∃ v L, o = .returned v ∧ Qa1_8 Z a1 b1 k1 c0 c1 c2 c3 c4 c5 c6 c7 c8 c9 c10 c11 c12 c13 c14 c15 h0 n0 v s₂.heap L ∧ FrameEnd s o s₂ L 0 0) (s₁.setTop (entryFrame m #[(.ref a1), (.int (8 : Int32))] 3)) from ?_)
  rw [efa1_8]
  refine Go.st (U' := s₁.setTop (mkF m 1 #[.val (.ref a1), .val (.int (8 : Int32)), .unset] [(.ref a1)])) (fun t k => ?_) ?_
  · refine XS.aloadN X0.here hx rfl (hb hby d12_0) rfl rfl ?_
    exact k
  obtain ⟨T295, X295, e295, st295⟩ := getF X0 hx hZ hown (host := "") (Or.inl (own_w hw 17 rfl)) Via.refl e0 FS (g := (mkF m 1 #[.val (.ref a1), .val (.int (8 : Int32)), .unset] [(.ref a1)])) rfl rfl (hb hby d12_1)
  refine Go.st (U' := T295.setTop (mkF m 4 #[.val (.ref a1), .val (.int (8 : Int32)), .unset] [(.int (1 : Int32))])) (fun t k => st295 _ k) ?_
  refine Go.st (U' := T295.setTop (mkF m 12 #[.val (.ref a1), .val (.int (8 : Int32)), .val (.int (7 : Int32))] [(.int (7 : Int32)), (.ref a1)])) (fun t k => ?_) ?_
  · refine XS.ineg X295.here hx rfl (hb hby d12_4) rfl ?_
    refine XS.iloadN X295.here hx rfl (hb hby d12_5) rfl ?_
    refine XS.iconst X295.here hx rfl (hb hby d12_6) ?_
    refine XS.isub X295.here hx rfl (hb hby d12_7) rfl ?_
    refine XS.iand X295.here hx rfl (hb hby d12_8) rfl ?_
    refine XS.istoreN X295.here hx rfl (hb hby d12_9) rfl (l' := #[.val (.ref a1), .val (.int (8 : Int32)), .val (.int (7 : Int32))]) rfl ?_
    refine XS.aloadN X295.here hx rfl (hb hby d12_10) rfl rfl ?_
    refine XS.iloadN X295.here hx rfl (hb hby d12_11) rfl ?_
    exact k
  obtain ⟨cq296, q296, q296'⟩ := EX.cell
  obtain ⟨_, _, ⟨T296, L296, k296, n296⟩, -, X296, ⟨Lc296, hQ296, l296, y296, z296⟩, st296⟩ := X295.privateBack hx (y := own_y1) hown (mvT hZ (own_w hw 48 rfl)) (mvT hZ (own_w hw 49 rfl)) (own_selp (y := own_y1) (mvT hZ (own_w hw 1 rfl)) (Cond.privateMethod_at (mvP hZ (own_w hw 50 rfl) (args := #[]))) (mvT hZ (own_w hw 49 rfl)) (by decide)) (Cond.privateMethod_at (mvP hZ (own_w hw 50 rfl) (args := #[]))) (mvT hZ (own_w hw 51 rfl)) (by decide) (backOf (W := 0) (rmr l Z a0 hw [] a1 (7 : Int32) b1 k1 (1 : Int32) [(.int c0), (.int c1), (.int c2), (.int c3), (.int c4), (.int c5), (.int c6), (.int c7), (.int c8), (.int c9), (.int c10), (.int c11), (.int c12), (.int c13), (.int c14), (.int c15)] h0 n0 Z0 FB FS VA (by decide)) hZ (own_w hw 51 rfl) (own_w hw 2 rfl) (by decide) (by decide)) (g := (mkF m 12 #[.val (.ref a1), .val (.int (8 : Int32)), .val (.int (7 : Int32))] [(.int (7 : Int32)), (.ref a1)])) rfl (by rw [hml]; rfl) (Steps.refl _) (a := a1) (by rw [e295]; exact q296) q296' (argsL := [(.int (7 : Int32))]) (rest := []) (lenOf pd_0 rfl) rfl (by show 2 * 0 + _ ≤ _; exact Nat.le_of_eq rfl) (hb hby d12_12) (fun _ _ => ⟨rfl, e295, (by decide : 0 + 0 ≤ _), (by decide : 0 + 0 ≤ _)⟩)
  dsimp only [Pt.U, Pt.locs, Pt.cells, Pt.slots] at X296 l296 y296 z296 st296 hQ296
  subst l296 y296 z296
  obtain ⟨rfl, N296q, e296⟩ := hQ296
  have N296 := Fr.app N0 N296q
  refine Go.tr (U' := T296.setTop (mkF m 15 #[.val (.ref a1), .val (.int (8 : Int32)), .val (.int (7 : Int32))] [])) st296 ?_
  refine Go.st (U' := T296.setTop (mkF m 16 #[.val (.ref a1), .val (.int (8 : Int32)), .val (.int (7 : Int32))] [(.ref a1)])) (fun t k => ?_) ?_
  · refine XS.aloadN X296.here hx rfl (hb hby d12_15) rfl rfl ?_
    exact k
  obtain ⟨T297, X297, e297, st297⟩ := getF X296 hx hZ hown (host := "") (Or.inl (own_w hw 10 rfl)) Via.refl e296 FB (g := (mkF m 16 #[.val (.ref a1), .val (.int (8 : Int32)), .val (.int (7 : Int32))] [(.ref a1)])) rfl rfl (hb hby d12_16)
  refine Go.st (U' := T297.setTop (mkF m 19 #[.val (.ref a1), .val (.int (8 : Int32)), .val (.int (7 : Int32))] [(.ref b1)])) (fun t k => st297 _ k) ?_
  refine Go.st (U' := T297.setTop (mkF m 20 #[.val (.ref a1), .val (.int (8 : Int32)), .val (.int (7 : Int32))] [(.ref a1), (.ref b1)])) (fun t k => ?_) ?_
  · refine XS.aloadN X297.here hx rfl (hb hby d12_19) rfl rfl ?_
    exact k
  obtain ⟨T298, X298, e298, st298⟩ := getF X297 hx hZ hown (host := "") (Or.inl (own_w hw 17 rfl)) Via.refl e297 FS (g := (mkF m 20 #[.val (.ref a1), .val (.int (8 : Int32)), .val (.int (7 : Int32))] [(.ref a1), (.ref b1)])) rfl rfl (hb hby d12_20)
  refine Go.st (U' := T298.setTop (mkF m 23 #[.val (.ref a1), .val (.int (8 : Int32)), .val (.int (7 : Int32))] [(.int (1 : Int32)), (.ref b1)])) (fun t k => st298 _ k) ?_
  refine Go.st (U' := T298.setTop (mkF m 24 #[.val (.ref a1), .val (.int (8 : Int32)), .val (.int (7 : Int32))] [(.ref a1), (.int (1 : Int32)), (.ref b1)])) (fun t k => ?_) ?_
  · refine XS.aloadN X298.here hx rfl (hb hby d12_23) rfl rfl ?_
    exact k
  obtain ⟨T299, X299, e299, st299⟩ := getF X298 hx hZ hown (host := "") (Or.inl (own_w hw 17 rfl)) Via.refl e298 FS (g := (mkF m 24 #[.val (.ref a1), .val (.int (8 : Int32)), .val (.int (7 : Int32))] [(.ref a1), (.int (1 : Int32)), (.ref b1)])) rfl rfl (hb hby d12_24)
  refine Go.st (U' := T299.setTop (mkF m 27 #[.val (.ref a1), .val (.int (8 : Int32)), .val (.int (7 : Int32))] [(.int (1 : Int32)), (.int (1 : Int32)), (.ref b1)])) (fun t k => st299 _ k) ?_
  refine Go.st (U' := T299.setTop (mkF m 30 #[.val (.ref a1), .val (.int (8 : Int32)), .val (.int (7 : Int32))] [(.int (0 : Int32)), (.int (8 : Int32)), (.int (1 : Int32)), (.ref b1)])) (fun t k => ?_) ?_
  · refine XS.iloadN X299.here hx rfl (hb hby d12_27) rfl ?_
    refine XS.iadd X299.here hx rfl (hb hby d12_28) rfl ?_
    refine XS.iconst X299.here hx rfl (hb hby d12_29) ?_
    exact k
  obtain ⟨_, _, ⟨T300, L300, k300, n300⟩, -, X300, ⟨Lc300, hQ300, l300, y300, z300⟩, st300⟩ := Jvm.LawKit.callS X299 hx (y := own_y4) hown (mvT hZ (own_w hw 62 rfl)) (mvT hZ (own_w hw 63 rfl)) (mvT hZ (own_w hw 21 rfl)) (mvT hZ (own_w hw 64 rfl)) (by decide) (backOf (W := 0) (rmf1_8 l Z a0 hw [] b1 k1 c0 c1 c2 c3 c4 c5 c6 c7 c8 c9 c10 c11 c12 c13 c14 c15 h0 n0 Z0 VA gB) hZ (own_w hw 64 rfl) (own_w hw 21 rfl) (by decide) (by decide)) (g := (mkF m 30 #[.val (.ref a1), .val (.int (8 : Int32)), .val (.int (7 : Int32))] [(.int (0 : Int32)), (.int (8 : Int32)), (.int (1 : Int32)), (.ref b1)])) rfl (by rw [hml]; rfl) (argsL := [(.ref b1), (.int (1 : Int32)), (.int (8 : Int32)), (.int (0 : Int32))]) (rest := []) (lenOf pd_2 rfl) rfl (by show 2 * 0 + _ ≤ _; exact Nat.le_of_eq rfl) (hb hby d12_30) (fun _ _ => ⟨rfl, e299, (by decide : 0 + 0 ≤ _), (by decide : 0 + 0 ≤ _)⟩)
  dsimp only [Pt.U, Pt.locs, Pt.cells, Pt.slots] at X300 l300 y300 z300 st300 hQ300
  subst l300 y300 z300
  obtain ⟨rfl, N300q, K300, P300_0⟩ := hQ300
  have KK300 : Keep h0 T300.heap [a1, b1] := (Keep.refl h0 [a1, b1]).trans K300 (allS (Or.inl (List.mem_of_getElem? (i := 1) rfl)) all0)
  have EX_300 := EX.keep K300
  have FB_300 := FB.keep K300 (ninS nab nin0)
  have FS_300 := FS.keep K300 (ninS nab nin0)
  have sz300 : n0 ≤ T300.heap.size := Nat.le_trans Z0 K300.1
  have N300 := Fr.app N296 N300q
  refine Go.st (U' := T300.setTop (mkF m 33 #[.val (.ref a1), .val (.int (8 : Int32)), .val (.int (7 : Int32))] [])) (fun t k => st300 _ k) ?_
  refine Go.st (U' := T300.setTop (mkF m 35 #[.val (.ref a1), .val (.int (8 : Int32)), .val (.int (7 : Int32))] [(.ref a1), (.ref a1)])) (fun t k => ?_) ?_
  · refine XS.aloadN X300.here hx rfl (hb hby d12_33) rfl rfl ?_
    refine XS.dup X300.here hx rfl (hb hby d12_34) rfl rfl ?_
    exact k
  obtain ⟨T301, X301, e301, st301⟩ := getF X300 hx hZ hown (host := "") (Or.inl (own_w hw 17 rfl)) Via.refl rfl FS_300 (g := (mkF m 35 #[.val (.ref a1), .val (.int (8 : Int32)), .val (.int (7 : Int32))] [(.ref a1), (.ref a1)])) rfl rfl (hb hby d12_35)
  refine Go.st (U' := T301.setTop (mkF m 38 #[.val (.ref a1), .val (.int (8 : Int32)), .val (.int (7 : Int32))] [(.int (1 : Int32)), (.ref a1)])) (fun t k => st301 _ k) ?_
  refine Go.st (U' := T301.setTop (mkF m 40 #[.val (.ref a1), .val (.int (8 : Int32)), .val (.int (7 : Int32))] [(.int (8 : Int32)), (.ref a1)])) (fun t k => ?_) ?_
  · refine XS.iloadN X301.here hx rfl (hb hby d12_38) rfl ?_
    refine XS.iadd X301.here hx rfl (hb hby d12_39) rfl ?_
    exact k
  obtain ⟨T302, h302, X302, e302, W302, st302⟩ := putF X301 hx hZ hown (host := "") (Or.inl (own_w hw 17 rfl)) Via.refl e301 FS_300 EX_300 (Or.inl (own_w hw 18 rfl)) (own_w hw 1 rfl) (ty := .int) (by decide) rfl rfl (g := (mkF m 40 #[.val (.ref a1), .val (.int (8 : Int32)), .val (.int (7 : Int32))] [(.int (8 : Int32)), (.ref a1)])) rfl rfl (hb hby d12_40)
  have F302 := FS_300.same W302
  have EX_302 := EX_300.wr W302
  have FB_302 := FB_300.other W302 (Or.inr (slot_ne (Or.inl (own_w hw 11 rfl)) (Or.inl (own_w hw 18 rfl)) (by decide) (t := (.array .byte)) (t' := .int) (by decide) (by decide)))
  have P300_0_302 := P300_0.other W302 (Ne.symm nab)
  have N302 := Fr.snoc X302 N300 gA
  have KK302 : Keep h0 h302 [a1, b1] := KK300.wr W302 (Or.inl (List.mem_of_getElem? (i := 0) rfl))
  have sz302 : n0 ≤ h302.size := Nat.le_trans sz300 (Nat.le_of_eq W302.size.symm)
  refine Go.st (U' := T302.setTop (mkF m 43 #[.val (.ref a1), .val (.int (8 : Int32)), .val (.int (7 : Int32))] [])) (fun t k => st302 _ k) ?_
  refine own_ret (Q := Qa1_8 Z a1 b1 k1 c0 c1 c2 c3 c4 c5 c6 c7 c8 c9 c10 c11 c12 c13 c14 c15 h0 n0) (v := none) X302 hlk (fun _ => rfl) (by decide) (by decide) ?_ (fun fs hr => X302.returnOut hx hrt (hb hby d12_43) hr)
  rw [e302]
  exact ⟨rfl, N302, KK302, EX_302, FB_302, F302, P300_0_302⟩
theorem efp8_8 (m : MethodId) (a1 : Addr) (p3 : Int32) : entryFrame m #[(.ref a1), (.int (8 : Int32)), (.int p3)] 3 = mkF m 0 #[.val (.ref a1), .val (.int (8 : Int32)), .val (.int p3)] [] := by first | (simp [entryFrame, mkF, argsToLocals, Value.category]; done) | rfl
def Qp8_8 (Z : State) (a1 : Addr) (b1 : Addr) (k1 : ClassId) (c0 : Int32) (c1 : Int32) (c2 : Int32) (c3 : Int32) (c4 : Int32) (c5 : Int32) (c6 : Int32) (c7 : Int32) (c8 : Int32) (c9 : Int32) (c10 : Int32) (c11 : Int32) (c12 : Int32) (c13 : Int32) (c14 : Int32) (c15 : Int32) (p3 : Int32) (h0 : Heap) (n0 : Nat) (v : Option Value) (h : Heap) (L : List Loc) : Prop := v = none ∧ Fr n0 L ∧ Keep h0 h [a1, b1] ∧ Exa Z h a1 "com/example/portcullis/portcullis/io/CdrOutput" ∧ Fld Z h a1 "com/example/portcullis/portcullis/io/CdrOutput" "buffer" "[B" (.ref b1) ∧ Fld Z h a1 "com/example/portcullis/portcullis/io/CdrOutput" "size" "I" (.int (8 : Int32)) ∧ Arv Z h b1 k1 .byte (256 : Int32) [(.int c0), (.int c1), (.int c2), (.int c3), (.int c4), (.int c5), (.int c6), (.int c7), (.int (own_b3 p3)), (.int (own_b2 p3)), (.int (own_b1 p3)), (.int (own_b0 p3)), (.int c12), (.int c13), (.int c14), (.int c15)] (.int (0 : Int32))
set_option maxRecDepth 65536 in
set_option maxHeartbeats 40000000 in
theorem rmp8_8 (l : Launch) (Z : State) (a0 : Array Value) (hw : ∀ d ∈ tables_1, d.before a0 Z = true) (ws : List Jvm.Cond) (a1 : Addr) (b1 : Addr) (k1 : ClassId) (c0 : Int32) (c1 : Int32) (c2 : Int32) (c3 : Int32) (c4 : Int32) (c5 : Int32) (c6 : Int32) (c7 : Int32) (c8 : Int32) (c9 : Int32) (c10 : Int32) (c11 : Int32) (c12 : Int32) (c13 : Int32) (c14 : Int32) (c15 : Int32) (p3 : Int32) (h0 : Heap) (n0 : Nat) (Z0 : n0 ≤ h0.size) (EX : Exa Z h0 a1 "com/example/portcullis/portcullis/io/CdrOutput") (FB : Fld Z h0 a1 "com/example/portcullis/portcullis/io/CdrOutput" "buffer" "[B" (.ref b1)) (FS : Fld Z h0 a1 "com/example/portcullis/portcullis/io/CdrOutput" "size" "I" (.int (8 : Int32))) (VA : Arv Z h0 b1 k1 .byte (256 : Int32) [(.int c0), (.int c1), (.int c2), (.int c3), (.int c4), (.int c5), (.int c6), (.int c7), (.int c8), (.int c9), (.int c10), (.int c11), (.int c12), (.int c13), (.int c14), (.int c15)] (.int (0 : Int32))) (gA : n0 ≤ a1) (gB : n0 ≤ b1) (nab : a1 ≠ b1) :
    MetFree l own_y7 (head1 (Jvm.Cond.code own_y7 prog_14_method_19_code 3 none :: ws) own_R0_0_0_0) (fun a U => a = #[(.ref a1), (.int (8 : Int32)), (.int p3)] ∧ Z.Warmed39 U.vm ∧ U.heap = h0) (fun _ _ _ _ _ => True) (fun _ U o U' => ∃ v L, o = .returned v ∧ Qp8_8 Z a1 b1 k1 c0 c1 c2 c3 c4 c5 c6 c7 c8 c9 c10 c11 c12 c13 c14 c15 p3 h0 n0 v U'.heap L ∧ FrameEnd U o U' L (own_R0_0_0_0).cells (own_R0_0_0_0).slots) := by
  refine MetFree.of_bodySF (plainFor_of_name pn_0) hisR ?_
  intro p e s m args below meth c s₁ Bd hml0 hP hK
  obtain ⟨rfl, hZ, hh⟩ := hP
  have hx := Bd.exec
  have hby := Bd.bytes
  have hml : c.maxLocals = 3 := hml0
  have hown : s.vm.findClass "com/example/portcullis/portcullis/io/CdrOutput" = some m.cls := findClass_of_methodNamed Bd.named
  have hnm := (name_of_methodNamed Bd.named Bd.method).1
  have hlk : meth.locks = false := BodyLoose.notSynchronized Bd
  have hrt := Bd.returns
  have X0 : Stand p l e own_R0_0_0_0 s m #[(.ref a1), (.int (8 : Int32)), (.int p3)] below meth c s₁ [] 0 0 := Stand.of_body Bd
  have e0 : s₁.heap = h0 := by rw [← hh, Bd.state]; rfl
  have N0 := Fr.nil n0
  refine (show Go p e below (fun s₂ o => ∃ v L, o = .returned v ∧ Qp8_8 Z a1 b1 k1 c0 c1 c2 c3 c4 c5 c6 c7 c8 c9 c10 c11 c12 c13 c14 c15 p3 h0 n0 v s₂.heap L ∧ FrameEnd s o s₂ L 0 0) (s₁.setTop (entryFrame m #[(.ref a1), (.int (8 : Int32)), (.int p3)] 3)) from ?_)
  rw [efp8_8]
  refine Go.st (U' := s₁.setTop (mkF m 1 #[.val (.ref a1), .val (.int (8 : Int32)), .val (.int p3)] [(.ref a1)])) (fun t k => ?_) ?_
  · refine XS.aloadN X0.here hx rfl (hb hby d16_0) rfl rfl ?_
    exact k
  obtain ⟨T303, X303, e303, st303⟩ := getF X0 hx hZ hown (host := "") (Or.inl (own_w hw 10 rfl)) Via.refl e0 FB (g := (mkF m 1 #[.val (.ref a1), .val (.int (8 : Int32)), .val (.int p3)] [(.ref a1)])) rfl rfl (hb hby d16_1)
  refine Go.st (U' := T303.setTop (mkF m 4 #[.val (.ref a1), .val (.int (8 : Int32)), .val (.int p3)] [(.ref b1)])) (fun t k => st303 _ k) ?_
  refine Go.st (U' := T303.setTop (mkF m 10 #[.val (.ref a1), .val (.int (8 : Int32)), .val (.int p3)] [(.int (((p3.toUInt32 >>> ((24 : Int32) &&& 31).toUInt32).toInt32).toInt8.toInt32)), (.int (8 : Int32)), (.ref b1)])) (fun t k => ?_) ?_
  · refine XS.iloadN X303.here hx rfl (hb hby d16_4) rfl ?_
    refine XS.iloadN X303.here hx rfl (hb hby d16_5) rfl ?_
    refine XS.bipush X303.here hx rfl (hb hby d16_6) ?_
    refine XS.iushr X303.here hx rfl (hb hby d16_8) rfl ?_
    refine XS.i2b X303.here hx rfl (hb hby d16_9) rfl ?_
    exact k
  obtain ⟨cl305, Ar305, q305, S305, N305, H305, G305⟩ := id VA
  obtain ⟨T304, h304, X304, e304, W304, st304⟩ := stB X303 hx hZ e303 Ar305 (j := (8 : Int32)) (inb_of (j := (8 : Int32)) S305 ⟨by decide, by decide⟩) (g := (mkF m 10 #[.val (.ref a1), .val (.int (8 : Int32)), .val (.int p3)] [(.int (((p3.toUInt32 >>> ((24 : Int32) &&& 31).toUInt32).toInt32).toInt8.toInt32)), (.int (8 : Int32)), (.ref b1)])) rfl rfl (hb hby d16_10)
  have VA_304 := Arv.set Ar305 q305 S305 N305 H305 G305 (fits_nar_byte _) W304 8 rfl (Nat.le_of_ble_eq_true rfl)
  have EX_304 := EX.wr W304
  have FB_304 := FB.other W304 (Or.inl nab)
  have FS_304 := FS.other W304 (Or.inl nab)
  have N304 := Fr.snoc X304 N0 gB
  have KK304 : Keep h0 h304 [a1, b1] := (Keep.refl h0 [a1, b1]).wr W304 (Or.inl (List.mem_of_getElem? (i := 1) rfl))
  have sz304 : n0 ≤ h304.size := Nat.le_trans Z0 (Nat.le_of_eq W304.size.symm)
  refine Go.st (U' := T304.setTop (mkF m 11 #[.val (.ref a1), .val (.int (8 : Int32)), .val (.int p3)] [])) (fun t k => st304 _ k) ?_
  refine Go.st (U' := T304.setTop (mkF m 12 #[.val (.ref a1), .val (.int (8 : Int32)), .val (.int p3)] [(.ref a1)])) (fun t k => ?_) ?_
  · refine XS.aloadN X304.here hx rfl (hb hby d16_11) rfl rfl ?_
    exact k
  obtain ⟨T306, X306, e306, st306⟩ := getF X304 hx hZ hown (host := "") (Or.inl (own_w hw 10 rfl)) Via.refl e304 FB_304 (g := (mkF m 12 #[.val (.ref a1), .val (.int (8 : Int32)), .val (.int p3)] [(.ref a1)])) rfl rfl (hb hby d16_12)
  refine Go.st (U' := T306.setTop (mkF m 15 #[.val (.ref a1), .val (.int (8 : Int32)), .val (.int p3)] [(.ref b1)])) (fun t k => st306 _ k) ?_
  refine Go.st (U' := T306.setTop (mkF m 23 #[.val (.ref a1), .val (.int (8 : Int32)), .val (.int p3)] [(.int (((p3.toUInt32 >>> ((16 : Int32) &&& 31).toUInt32).toInt32).toInt8.toInt32)), (.int (9 : Int32)), (.ref b1)])) (fun t k => ?_) ?_
  · refine XS.iloadN X306.here hx rfl (hb hby d16_15) rfl ?_
    refine XS.iconst X306.here hx rfl (hb hby d16_16) ?_
    refine XS.iadd X306.here hx rfl (hb hby d16_17) rfl ?_
    refine XS.iloadN X306.here hx rfl (hb hby d16_18) rfl ?_
    refine XS.bipush X306.here hx rfl (hb hby d16_19) ?_
    refine XS.iushr X306.here hx rfl (hb hby d16_21) rfl ?_
    refine XS.i2b X306.here hx rfl (hb hby d16_22) rfl ?_
    exact k
  obtain ⟨cl308, Ar308, q308, S308, N308, H308, G308⟩ := id VA_304
  obtain ⟨T307, h307, X307, e307, W307, st307⟩ := stB X306 hx hZ e306 Ar308 (j := (9 : Int32)) (inb_of (j := (9 : Int32)) S308 ⟨by decide, by decide⟩) (g := (mkF m 23 #[.val (.ref a1), .val (.int (8 : Int32)), .val (.int p3)] [(.int (((p3.toUInt32 >>> ((16 : Int32) &&& 31).toUInt32).toInt32).toInt8.toInt32)), (.int (9 : Int32)), (.ref b1)])) rfl rfl (hb hby d16_23)
  have VA_307 := Arv.set Ar308 q308 S308 N308 H308 G308 (fits_nar_byte _) W307 9 rfl (Nat.le_of_ble_eq_true rfl)
  have EX_307 := EX_304.wr W307
  have FB_307 := FB_304.other W307 (Or.inl nab)
  have FS_307 := FS_304.other W307 (Or.inl nab)
  have N307 := Fr.snoc X307 N304 gB
  have KK307 : Keep h0 h307 [a1, b1] := KK304.wr W307 (Or.inl (List.mem_of_getElem? (i := 1) rfl))
  have sz307 : n0 ≤ h307.size := Nat.le_trans sz304 (Nat.le_of_eq W307.size.symm)
  refine Go.st (U' := T307.setTop (mkF m 24 #[.val (.ref a1), .val (.int (8 : Int32)), .val (.int p3)] [])) (fun t k => st307 _ k) ?_
  refine Go.st (U' := T307.setTop (mkF m 25 #[.val (.ref a1), .val (.int (8 : Int32)), .val (.int p3)] [(.ref a1)])) (fun t k => ?_) ?_
  · refine XS.aloadN X307.here hx rfl (hb hby d16_24) rfl rfl ?_
    exact k
  obtain ⟨T309, X309, e309, st309⟩ := getF X307 hx hZ hown (host := "") (Or.inl (own_w hw 10 rfl)) Via.refl e307 FB_307 (g := (mkF m 25 #[.val (.ref a1), .val (.int (8 : Int32)), .val (.int p3)] [(.ref a1)])) rfl rfl (hb hby d16_25)
  refine Go.st (U' := T309.setTop (mkF m 28 #[.val (.ref a1), .val (.int (8 : Int32)), .val (.int p3)] [(.ref b1)])) (fun t k => st309 _ k) ?_
  refine Go.st (U' := T309.setTop (mkF m 36 #[.val (.ref a1), .val (.int (8 : Int32)), .val (.int p3)] [(.int (((p3.toUInt32 >>> ((8 : Int32) &&& 31).toUInt32).toInt32).toInt8.toInt32)), (.int (10 : Int32)), (.ref b1)])) (fun t k => ?_) ?_
  · refine XS.iloadN X309.here hx rfl (hb hby d16_28) rfl ?_
    refine XS.iconst X309.here hx rfl (hb hby d16_29) ?_
    refine XS.iadd X309.here hx rfl (hb hby d16_30) rfl ?_
    refine XS.iloadN X309.here hx rfl (hb hby d16_31) rfl ?_
    refine XS.bipush X309.here hx rfl (hb hby d16_32) ?_
    refine XS.iushr X309.here hx rfl (hb hby d16_34) rfl ?_
    refine XS.i2b X309.here hx rfl (hb hby d16_35) rfl ?_
    exact k
  obtain ⟨cl311, Ar311, q311, S311, N311, H311, G311⟩ := id VA_307
  obtain ⟨T310, h310, X310, e310, W310, st310⟩ := stB X309 hx hZ e309 Ar311 (j := (10 : Int32)) (inb_of (j := (10 : Int32)) S311 ⟨by decide, by decide⟩) (g := (mkF m 36 #[.val (.ref a1), .val (.int (8 : Int32)), .val (.int p3)] [(.int (((p3.toUInt32 >>> ((8 : Int32) &&& 31).toUInt32).toInt32).toInt8.toInt32)), (.int (10 : Int32)), (.ref b1)])) rfl rfl (hb hby d16_36)
  have VA_310 := Arv.set Ar311 q311 S311 N311 H311 G311 (fits_nar_byte _) W310 10 rfl (Nat.le_of_ble_eq_true rfl)
  have EX_310 := EX_307.wr W310
  have FB_310 := FB_307.other W310 (Or.inl nab)
  have FS_310 := FS_307.other W310 (Or.inl nab)
  have N310 := Fr.snoc X310 N307 gB
  have KK310 : Keep h0 h310 [a1, b1] := KK307.wr W310 (Or.inl (List.mem_of_getElem? (i := 1) rfl))
  have sz310 : n0 ≤ h310.size := Nat.le_trans sz307 (Nat.le_of_eq W310.size.symm)
  refine Go.st (U' := T310.setTop (mkF m 37 #[.val (.ref a1), .val (.int (8 : Int32)), .val (.int p3)] [])) (fun t k => st310 _ k) ?_
  refine Go.st (U' := T310.setTop (mkF m 38 #[.val (.ref a1), .val (.int (8 : Int32)), .val (.int p3)] [(.ref a1)])) (fun t k => ?_) ?_
  · refine XS.aloadN X310.here hx rfl (hb hby d16_37) rfl rfl ?_
    exact k
  obtain ⟨T312, X312, e312, st312⟩ := getF X310 hx hZ hown (host := "") (Or.inl (own_w hw 10 rfl)) Via.refl e310 FB_310 (g := (mkF m 38 #[.val (.ref a1), .val (.int (8 : Int32)), .val (.int p3)] [(.ref a1)])) rfl rfl (hb hby d16_38)
  refine Go.st (U' := T312.setTop (mkF m 41 #[.val (.ref a1), .val (.int (8 : Int32)), .val (.int p3)] [(.ref b1)])) (fun t k => st312 _ k) ?_
  refine Go.st (U' := T312.setTop (mkF m 46 #[.val (.ref a1), .val (.int (8 : Int32)), .val (.int p3)] [(.int (p3.toInt8.toInt32)), (.int (11 : Int32)), (.ref b1)])) (fun t k => ?_) ?_
  · refine XS.iloadN X312.here hx rfl (hb hby d16_41) rfl ?_
    refine XS.iconst X312.here hx rfl (hb hby d16_42) ?_
    refine XS.iadd X312.here hx rfl (hb hby d16_43) rfl ?_
    refine XS.iloadN X312.here hx rfl (hb hby d16_44) rfl ?_
    refine XS.i2b X312.here hx rfl (hb hby d16_45) rfl ?_
    exact k
  obtain ⟨cl314, Ar314, q314, S314, N314, H314, G314⟩ := id VA_310
  obtain ⟨T313, h313, X313, e313, W313, st313⟩ := stB X312 hx hZ e312 Ar314 (j := (11 : Int32)) (inb_of (j := (11 : Int32)) S314 ⟨by decide, by decide⟩) (g := (mkF m 46 #[.val (.ref a1), .val (.int (8 : Int32)), .val (.int p3)] [(.int (p3.toInt8.toInt32)), (.int (11 : Int32)), (.ref b1)])) rfl rfl (hb hby d16_46)
  have VA_313 := Arv.set Ar314 q314 S314 N314 H314 G314 (fits_nar_byte _) W313 11 rfl (Nat.le_of_ble_eq_true rfl)
  have EX_313 := EX_310.wr W313
  have FB_313 := FB_310.other W313 (Or.inl nab)
  have FS_313 := FS_310.other W313 (Or.inl nab)
  have N313 := Fr.snoc X313 N310 gB
  have KK313 : Keep h0 h313 [a1, b1] := KK310.wr W313 (Or.inl (List.mem_of_getElem? (i := 1) rfl))
  have sz313 : n0 ≤ h313.size := Nat.le_trans sz310 (Nat.le_of_eq W313.size.symm)
  refine Go.st (U' := T313.setTop (mkF m 47 #[.val (.ref a1), .val (.int (8 : Int32)), .val (.int p3)] [])) (fun t k => st313 _ k) ?_
  refine own_ret (Q := Qp8_8 Z a1 b1 k1 c0 c1 c2 c3 c4 c5 c6 c7 c8 c9 c10 c11 c12 c13 c14 c15 p3 h0 n0) (v := none) X313 hlk (fun _ => rfl) (by decide) (by decide) ?_ (fun fs hr => X313.returnOut hx hrt (hb hby d16_47) hr)
  rw [e313]
  exact ⟨rfl, N313, KK313, EX_313, FB_313, FS_313, VA_313⟩
theorem efp8_12 (m : MethodId) (a1 : Addr) (p3 : Int32) : entryFrame m #[(.ref a1), (.int (12 : Int32)), (.int p3)] 3 = mkF m 0 #[.val (.ref a1), .val (.int (12 : Int32)), .val (.int p3)] [] := by first | (simp [entryFrame, mkF, argsToLocals, Value.category]; done) | rfl
def Qp8_12 (Z : State) (a1 : Addr) (b1 : Addr) (k1 : ClassId) (c0 : Int32) (c1 : Int32) (c2 : Int32) (c3 : Int32) (c4 : Int32) (c5 : Int32) (c6 : Int32) (c7 : Int32) (c8 : Int32) (c9 : Int32) (c10 : Int32) (c11 : Int32) (c12 : Int32) (c13 : Int32) (c14 : Int32) (c15 : Int32) (p3 : Int32) (h0 : Heap) (n0 : Nat) (v : Option Value) (h : Heap) (L : List Loc) : Prop := v = none ∧ Fr n0 L ∧ Keep h0 h [a1, b1] ∧ Exa Z h a1 "com/example/portcullis/portcullis/io/CdrOutput" ∧ Fld Z h a1 "com/example/portcullis/portcullis/io/CdrOutput" "buffer" "[B" (.ref b1) ∧ Fld Z h a1 "com/example/portcullis/portcullis/io/CdrOutput" "size" "I" (.int (8 : Int32)) ∧ Arv Z h b1 k1 .byte (256 : Int32) [(.int c0), (.int c1), (.int c2), (.int c3), (.int c4), (.int c5), (.int c6), (.int c7), (.int c8), (.int c9), (.int c10), (.int c11), (.int (own_b3 p3)), (.int (own_b2 p3)), (.int (own_b1 p3)), (.int (own_b0 p3))] (.int (0 : Int32))
set_option maxRecDepth 65536 in
set_option maxHeartbeats 40000000 in
theorem rmp8_12 (l : Launch) (Z : State) (a0 : Array Value) (hw : ∀ d ∈ tables_1, d.before a0 Z = true) (ws : List Jvm.Cond) (a1 : Addr) (b1 : Addr) (k1 : ClassId) (c0 : Int32) (c1 : Int32) (c2 : Int32) (c3 : Int32) (c4 : Int32) (c5 : Int32) (c6 : Int32) (c7 : Int32) (c8 : Int32) (c9 : Int32) (c10 : Int32) (c11 : Int32) (c12 : Int32) (c13 : Int32) (c14 : Int32) (c15 : Int32) (p3 : Int32) (h0 : Heap) (n0 : Nat) (Z0 : n0 ≤ h0.size) (EX : Exa Z h0 a1 "com/example/portcullis/portcullis/io/CdrOutput") (FB : Fld Z h0 a1 "com/example/portcullis/portcullis/io/CdrOutput" "buffer" "[B" (.ref b1)) (FS : Fld Z h0 a1 "com/example/portcullis/portcullis/io/CdrOutput" "size" "I" (.int (8 : Int32))) (VA : Arv Z h0 b1 k1 .byte (256 : Int32) [(.int c0), (.int c1), (.int c2), (.int c3), (.int c4), (.int c5), (.int c6), (.int c7), (.int c8), (.int c9), (.int c10), (.int c11), (.int c12), (.int c13), (.int c14), (.int c15)] (.int (0 : Int32))) (gA : n0 ≤ a1) (gB : n0 ≤ b1) (nab : a1 ≠ b1) :
    MetFree l own_y7 (head1 (Jvm.Cond.code own_y7 prog_14_method_19_code 3 none :: ws) own_R0_0_0_0) (fun a U => a = #[(.ref a1), (.int (12 : Int32)), (.int p3)] ∧ Z.Warmed39 U.vm ∧ U.heap = h0) (fun _ _ _ _ _ => True) (fun _ U o U' => ∃ v L, o = .returned v ∧ Qp8_12 Z a1 b1 k1 c0 c1 c2 c3 c4 c5 c6 c7 c8 c9 c10 c11 c12 c13 c14 c15 p3 h0 n0 v U'.heap L ∧ FrameEnd U o U' L (own_R0_0_0_0).cells (own_R0_0_0_0).slots) := by
  refine MetFree.of_bodySF (plainFor_of_name pn_0) hisR ?_
  intro p e s m args below meth c s₁ Bd hml0 hP hK
  obtain ⟨rfl, hZ, hh⟩ := hP
  have hx := Bd.exec
  have hby := Bd.bytes
  have hml : c.maxLocals = 3 := hml0
  have hown : s.vm.findClass "com/example/portcullis/portcullis/io/CdrOutput" = some m.cls := findClass_of_methodNamed Bd.named
  have hnm := (name_of_methodNamed Bd.named Bd.method).1
  have hlk : meth.locks = false := BodyLoose.notSynchronized Bd
  have hrt := Bd.returns
  have X0 : Stand p l e own_R0_0_0_0 s m #[(.ref a1), (.int (12 : Int32)), (.int p3)] below meth c s₁ [] 0 0 := Stand.of_body Bd
  have e0 : s₁.heap = h0 := by rw [← hh, Bd.state]; rfl
  have N0 := Fr.nil n0
  refine (show Go p e below (fun s₂ o => ∃ v L, o = .returned v ∧ Qp8_12 Z a1 b1 k1 c0 c1 c2 c3 c4 c5 c6 c7 c8 c9 c10 c11 c12 c13 c14 c15 p3 h0 n0 v s₂.heap L ∧ FrameEnd s o s₂ L 0 0) (s₁.setTop (entryFrame m #[(.ref a1), (.int (12 : Int32)), (.int p3)] 3)) from ?_)
  rw [efp8_12]
  refine Go.st (U' := s₁.setTop (mkF m 1 #[.val (.ref a1), .val (.int (12 : Int32)), .val (.int p3)] [(.ref a1)])) (fun t k => ?_) ?_
  · refine XS.aloadN X0.here hx rfl (hb hby d16_0) rfl rfl ?_
    exact k
  obtain ⟨T315, X315, e315, st315⟩ := getF X0 hx hZ hown (host := "") (Or.inl (own_w hw 10 rfl)) Via.refl e0 FB (g := (mkF m 1 #[.val (.ref a1), .val (.int (12 : Int32)), .val (.int p3)] [(.ref a1)])) rfl rfl (hb hby d16_1)
  refine Go.st (U' := T315.setTop (mkF m 4 #[.val (.ref a1), .val (.int (12 : Int32)), .val (.int p3)] [(.ref b1)])) (fun t k => st315 _ k) ?_
  refine Go.st (U' := T315.setTop (mkF m 10 #[.val (.ref a1), .val (.int (12 : Int32)), .val (.int p3)] [(.int (((p3.toUInt32 >>> ((24 : Int32) &&& 31).toUInt32).toInt32).toInt8.toInt32)), (.int (12 : Int32)), (.ref b1)])) (fun t k => ?_) ?_
  · refine XS.iloadN X315.here hx rfl (hb hby d16_4) rfl ?_
    refine XS.iloadN X315.here hx rfl (hb hby d16_5) rfl ?_
    refine XS.bipush X315.here hx rfl (hb hby d16_6) ?_
    refine XS.iushr X315.here hx rfl (hb hby d16_8) rfl ?_
    refine XS.i2b X315.here hx rfl (hb hby d16_9) rfl ?_
    exact k
  obtain ⟨cl317, Ar317, q317, S317, N317, H317, G317⟩ := id VA
  obtain ⟨T316, h316, X316, e316, W316, st316⟩ := stB X315 hx hZ e315 Ar317 (j := (12 : Int32)) (inb_of (j := (12 : Int32)) S317 ⟨by decide, by decide⟩) (g := (mkF m 10 #[.val (.ref a1), .val (.int (12 : Int32)), .val (.int p3)] [(.int (((p3.toUInt32 >>> ((24 : Int32) &&& 31).toUInt32).toInt32).toInt8.toInt32)), (.int (12 : Int32)), (.ref b1)])) rfl rfl (hb hby d16_10)
  have VA_316 := Arv.set Ar317 q317 S317 N317 H317 G317 (fits_nar_byte _) W316 12 rfl (Nat.le_of_ble_eq_true rfl)
  have EX_316 := EX.wr W316
  have FB_316 := FB.other W316 (Or.inl nab)
  have FS_316 := FS.other W316 (Or.inl nab)
  have N316 := Fr.snoc X316 N0 gB
  have KK316 : Keep h0 h316 [a1, b1] := (Keep.refl h0 [a1, b1]).wr W316 (Or.inl (List.mem_of_getElem? (i := 1) rfl))
  have sz316 : n0 ≤ h316.size := Nat.le_trans Z0 (Nat.le_of_eq W316.size.symm)
  refine Go.st (U' := T316.setTop (mkF m 11 #[.val (.ref a1), .val (.int (12 : Int32)), .val (.int p3)] [])) (fun t k => st316 _ k) ?_
  refine Go.st (U' := T316.setTop (mkF m 12 #[.val (.ref a1), .val (.int (12 : Int32)), .val (.int p3)] [(.ref a1)])) (fun t k => ?_) ?_
  · refine XS.aloadN X316.here hx rfl (hb hby d16_11) rfl rfl ?_
    exact k
  obtain ⟨T318, X318, e318, st318⟩ := getF X316 hx hZ hown (host := "") (Or.inl (own_w hw 10 rfl)) Via.refl e316 FB_316 (g := (mkF m 12 #[.val (.ref a1), .val (.int (12 : Int32)), .val (.int p3)] [(.ref a1)])) rfl rfl (hb hby d16_12)
  refine Go.st (U' := T318.setTop (mkF m 15 #[.val (.ref a1), .val (.int (12 : Int32)), .val (.int p3)] [(.ref b1)])) (fun t k => st318 _ k) ?_
  refine Go.st (U' := T318.setTop (mkF m 23 #[.val (.ref a1), .val (.int (12 : Int32)), .val (.int p3)] [(.int (((p3.toUInt32 >>> ((16 : Int32) &&& 31).toUInt32).toInt32).toInt8.toInt32)), (.int (13 : Int32)), (.ref b1)])) (fun t k => ?_) ?_
  · refine XS.iloadN X318.here hx rfl (hb hby d16_15) rfl ?_
    refine XS.iconst X318.here hx rfl (hb hby d16_16) ?_
    refine XS.iadd X318.here hx rfl (hb hby d16_17) rfl ?_
    refine XS.iloadN X318.here hx rfl (hb hby d16_18) rfl ?_
    refine XS.bipush X318.here hx rfl (hb hby d16_19) ?_
    refine XS.iushr X318.here hx rfl (hb hby d16_21) rfl ?_
    refine XS.i2b X318.here hx rfl (hb hby d16_22) rfl ?_
    exact k
  obtain ⟨cl320, Ar320, q320, S320, N320, H320, G320⟩ := id VA_316
  obtain ⟨T319, h319, X319, e319, W319, st319⟩ := stB X318 hx hZ e318 Ar320 (j := (13 : Int32)) (inb_of (j := (13 : Int32)) S320 ⟨by decide, by decide⟩) (g := (mkF m 23 #[.val (.ref a1), .val (.int (12 : Int32)), .val (.int p3)] [(.int (((p3.toUInt32 >>> ((16 : Int32) &&& 31).toUInt32).toInt32).toInt8.toInt32)), (.int (13 : Int32)), (.ref b1)])) rfl rfl (hb hby d16_23)
  have VA_319 := Arv.set Ar320 q320 S320 N320 H320 G320 (fits_nar_byte _) W319 13 rfl (Nat.le_of_ble_eq_true rfl)
  have EX_319 := EX_316.wr W319
  have FB_319 := FB_316.other W319 (Or.inl nab)
  have FS_319 := FS_316.other W319 (Or.inl nab)
  have N319 := Fr.snoc X319 N316 gB
  have KK319 : Keep h0 h319 [a1, b1] := KK316.wr W319 (Or.inl (List.mem_of_getElem? (i := 1) rfl))
  have sz319 : n0 ≤ h319.size := Nat.le_trans sz316 (Nat.le_of_eq W319.size.symm)
  refine Go.st (U' := T319.setTop (mkF m 24 #[.val (.ref a1), .val (.int (12 : Int32)), .val (.int p3)] [])) (fun t k => st319 _ k) ?_
  refine Go.st (U' := T319.setTop (mkF m 25 #[.val (.ref a1), .val (.int (12 : Int32)), .val (.int p3)] [(.ref a1)])) (fun t k => ?_) ?_
  · refine XS.aloadN X319.here hx rfl (hb hby d16_24) rfl rfl ?_
    exact k
  obtain ⟨T321, X321, e321, st321⟩ := getF X319 hx hZ hown (host := "") (Or.inl (own_w hw 10 rfl)) Via.refl e319 FB_319 (g := (mkF m 25 #[.val (.ref a1), .val (.int (12 : Int32)), .val (.int p3)] [(.ref a1)])) rfl rfl (hb hby d16_25)
  refine Go.st (U' := T321.setTop (mkF m 28 #[.val (.ref a1), .val (.int (12 : Int32)), .val (.int p3)] [(.ref b1)])) (fun t k => st321 _ k) ?_
  refine Go.st (U' := T321.setTop (mkF m 36 #[.val (.ref a1), .val (.int (12 : Int32)), .val (.int p3)] [(.int (((p3.toUInt32 >>> ((8 : Int32) &&& 31).toUInt32).toInt32).toInt8.toInt32)), (.int (14 : Int32)), (.ref b1)])) (fun t k => ?_) ?_
  · refine XS.iloadN X321.here hx rfl (hb hby d16_28) rfl ?_
    refine XS.iconst X321.here hx rfl (hb hby d16_29) ?_
    refine XS.iadd X321.here hx rfl (hb hby d16_30) rfl ?_
    refine XS.iloadN X321.here hx rfl (hb hby d16_31) rfl ?_
    refine XS.bipush X321.here hx rfl (hb hby d16_32) ?_
    refine XS.iushr X321.here hx rfl (hb hby d16_34) rfl ?_
    refine XS.i2b X321.here hx rfl (hb hby d16_35) rfl ?_
    exact k
  obtain ⟨cl323, Ar323, q323, S323, N323, H323, G323⟩ := id VA_319
  obtain ⟨T322, h322, X322, e322, W322, st322⟩ := stB X321 hx hZ e321 Ar323 (j := (14 : Int32)) (inb_of (j := (14 : Int32)) S323 ⟨by decide, by decide⟩) (g := (mkF m 36 #[.val (.ref a1), .val (.int (12 : Int32)), .val (.int p3)] [(.int (((p3.toUInt32 >>> ((8 : Int32) &&& 31).toUInt32).toInt32).toInt8.toInt32)), (.int (14 : Int32)), (.ref b1)])) rfl rfl (hb hby d16_36)
  have VA_322 := Arv.set Ar323 q323 S323 N323 H323 G323 (fits_nar_byte _) W322 14 rfl (Nat.le_of_ble_eq_true rfl)
  have EX_322 := EX_319.wr W322
  have FB_322 := FB_319.other W322 (Or.inl nab)
  have FS_322 := FS_319.other W322 (Or.inl nab)
  have N322 := Fr.snoc X322 N319 gB
  have KK322 : Keep h0 h322 [a1, b1] := KK319.wr W322 (Or.inl (List.mem_of_getElem? (i := 1) rfl))
  have sz322 : n0 ≤ h322.size := Nat.le_trans sz319 (Nat.le_of_eq W322.size.symm)
  refine Go.st (U' := T322.setTop (mkF m 37 #[.val (.ref a1), .val (.int (12 : Int32)), .val (.int p3)] [])) (fun t k => st322 _ k) ?_
  refine Go.st (U' := T322.setTop (mkF m 38 #[.val (.ref a1), .val (.int (12 : Int32)), .val (.int p3)] [(.ref a1)])) (fun t k => ?_) ?_
  · refine XS.aloadN X322.here hx rfl (hb hby d16_37) rfl rfl ?_
    exact k
  obtain ⟨T324, X324, e324, st324⟩ := getF X322 hx hZ hown (host := "") (Or.inl (own_w hw 10 rfl)) Via.refl e322 FB_322 (g := (mkF m 38 #[.val (.ref a1), .val (.int (12 : Int32)), .val (.int p3)] [(.ref a1)])) rfl rfl (hb hby d16_38)
  refine Go.st (U' := T324.setTop (mkF m 41 #[.val (.ref a1), .val (.int (12 : Int32)), .val (.int p3)] [(.ref b1)])) (fun t k => st324 _ k) ?_
  refine Go.st (U' := T324.setTop (mkF m 46 #[.val (.ref a1), .val (.int (12 : Int32)), .val (.int p3)] [(.int (p3.toInt8.toInt32)), (.int (15 : Int32)), (.ref b1)])) (fun t k => ?_) ?_
  · refine XS.iloadN X324.here hx rfl (hb hby d16_41) rfl ?_
    refine XS.iconst X324.here hx rfl (hb hby d16_42) ?_
    refine XS.iadd X324.here hx rfl (hb hby d16_43) rfl ?_
    refine XS.iloadN X324.here hx rfl (hb hby d16_44) rfl ?_
    refine XS.i2b X324.here hx rfl (hb hby d16_45) rfl ?_
    exact k
  obtain ⟨cl326, Ar326, q326, S326, N326, H326, G326⟩ := id VA_322
  obtain ⟨T325, h325, X325, e325, W325, st325⟩ := stB X324 hx hZ e324 Ar326 (j := (15 : Int32)) (inb_of (j := (15 : Int32)) S326 ⟨by decide, by decide⟩) (g := (mkF m 46 #[.val (.ref a1), .val (.int (12 : Int32)), .val (.int p3)] [(.int (p3.toInt8.toInt32)), (.int (15 : Int32)), (.ref b1)])) rfl rfl (hb hby d16_46)
  have VA_325 := Arv.set Ar326 q326 S326 N326 H326 G326 (fits_nar_byte _) W325 15 rfl (Nat.le_of_ble_eq_true rfl)
  have EX_325 := EX_322.wr W325
  have FB_325 := FB_322.other W325 (Or.inl nab)
  have FS_325 := FS_322.other W325 (Or.inl nab)
  have N325 := Fr.snoc X325 N322 gB
  have KK325 : Keep h0 h325 [a1, b1] := KK322.wr W325 (Or.inl (List.mem_of_getElem? (i := 1) rfl))
  have sz325 : n0 ≤ h325.size := Nat.le_trans sz322 (Nat.le_of_eq W325.size.symm)
  refine Go.st (U' := T325.setTop (mkF m 47 #[.val (.ref a1), .val (.int (12 : Int32)), .val (.int p3)] [])) (fun t k => st325 _ k) ?_
  refine own_ret (Q := Qp8_12 Z a1 b1 k1 c0 c1 c2 c3 c4 c5 c6 c7 c8 c9 c10 c11 c12 c13 c14 c15 p3 h0 n0) (v := none) X325 hlk (fun _ => rfl) (by decide) (by decide) ?_ (fun fs hr => X325.returnOut hx hrt (hb hby d16_47) hr)
  rw [e325]
  exact ⟨rfl, N325, KK325, EX_325, FB_325, FS_325, VA_325⟩
theorem efl1 (m : MethodId) (a1 : Addr) (q2 : Int64) : entryFrame m #[(.ref a1), (.long q2)] 3 = mkF m 0 #[.val (.ref a1), .val (.long q2), .second] [] := by first | (simp [entryFrame, mkF, argsToLocals, Value.category]; done) | rfl
def Ql1 (Z : State) (a1 : Addr) (b1 : Addr) (k1 : ClassId) (c0 : Int32) (c1 : Int32) (c2 : Int32) (c3 : Int32) (c4 : Int32) (c5 : Int32) (c6 : Int32) (c7 : Int32) (c8 : Int32) (c9 : Int32) (c10 : Int32) (c11 : Int32) (c12 : Int32) (c13 : Int32) (c14 : Int32) (c15 : Int32) (q2 : Int64) (h0 : Heap) (n0 : Nat) (v : Option Value) (h : Heap) (L : List Loc) : Prop := v = none ∧ Fr n0 L ∧ Keep h0 h [a1, b1] ∧ Exa Z h a1 "com/example/portcullis/portcullis/io/CdrOutput" ∧ Fld Z h a1 "com/example/portcullis/portcullis/io/CdrOutput" "buffer" "[B" (.ref b1) ∧ Fld Z h a1 "com/example/portcullis/portcullis/io/CdrOutput" "size" "I" (.int (16 : Int32)) ∧ Arv Z h b1 k1 .byte (256 : Int32) [(.int c0), (.int (0 : Int32)), (.int (0 : Int32)), (.int (0 : Int32)), (.int (0 : Int32)), (.int (0 : Int32)), (.int (0 : Int32)), (.int (0 : Int32)), (.int (own_b3 (own_hi q2))), (.int (own_b2 (own_hi q2))), (.int (own_b1 (own_hi q2))), (.int (own_b0 (own_hi q2))), (.int (own_b3 (q2.toInt32))), (.int (own_b2 (q2.toInt32))), (.int (own_b1 (q2.toInt32))), (.int (own_b0 (q2.toInt32)))] (.int (0 : Int32))
set_option maxRecDepth 65536 in
set_option maxHeartbeats 40000000 in
theorem rml1 (l : Launch) (Z : State) (a0 : Array Value) (hw : ∀ d ∈ tables_1, d.before a0 Z = true) (ws : List Jvm.Cond) (a1 : Addr) (b1 : Addr) (k1 : ClassId) (c0 : Int32) (c1 : Int32) (c2 : Int32) (c3 : Int32) (c4 : Int32) (c5 : Int32) (c6 : Int32) (c7 : Int32) (c8 : Int32) (c9 : Int32) (c10 : Int32) (c11 : Int32) (c12 : Int32) (c13 : Int32) (c14 : Int32) (c15 : Int32) (q2 : Int64) (h0 : Heap) (n0 : Nat) (Z0 : n0 ≤ h0.size) (EX : Exa Z h0 a1 "com/example/portcullis/portcullis/io/CdrOutput") (FB : Fld Z h0 a1 "com/example/portcullis/portcullis/io/CdrOutput" "buffer" "[B" (.ref b1)) (FS : Fld Z h0 a1 "com/example/portcullis/portcullis/io/CdrOutput" "size" "I" (.int (1 : Int32))) (VA : Arv Z h0 b1 k1 .byte (256 : Int32) [(.int c0), (.int c1), (.int c2), (.int c3), (.int c4), (.int c5), (.int c6), (.int c7), (.int c8), (.int c9), (.int c10), (.int c11), (.int c12), (.int c13), (.int c14), (.int c15)] (.int (0 : Int32))) (gA : n0 ≤ a1) (gB : n0 ≤ b1) (nab : a1 ≠ b1) :
    MetFree l own_y9 (head1 (Jvm.Cond.code own_y9 prog_14_method_6_code 3 none :: ws) own_R3_0_0_80) (fun a U => a = #[(.ref a1), (.long q2)] ∧ Z.Warmed39 U.vm ∧ U.heap = h0) (fun _ _ _ _ _ => True) (fun _ U o U' => ∃ v L, o = .returned v ∧ Ql1 Z a1 b1 k1 c0 c1 c2 c3 c4 c5 c6 c7 c8 c9 c10 c11 c12 c13 c14 c15 q2 h0 n0 v U'.heap L ∧ FrameEnd U o U' L (own_R3_0_0_80).cells (own_R3_0_0_80).slots) := by
  refine MetFree.of_bodySF (plainFor_of_name pn_0) hisR ?_
  intro p e s m args below meth c s₁ Bd hml0 hP hK
  obtain ⟨rfl, hZ, hh⟩ := hP
  have hx := Bd.exec
  have hby := Bd.bytes
  have hml : c.maxLocals = 3 := hml0
  have hown : s.vm.findClass "com/example/portcullis/portcullis/io/CdrOutput" = some m.cls := findClass_of_methodNamed Bd.named
  have hnm := (name_of_methodNamed Bd.named Bd.method).1
  have hlk : meth.locks = false := BodyLoose.notSynchronized Bd
  have hrt := Bd.returns
  have X0 : Stand p l e own_R3_0_0_80 s m #[(.ref a1), (.long q2)] below meth c s₁ [] 0 0 := Stand.of_body Bd
  have e0 : s₁.heap = h0 := by rw [← hh, Bd.state]; rfl
  have N0 := Fr.nil n0
  refine (show Go p e below (fun s₂ o => ∃ v L, o = .returned v ∧ Ql1 Z a1 b1 k1 c0 c1 c2 c3 c4 c5 c6 c7 c8 c9 c10 c11 c12 c13 c14 c15 q2 h0 n0 v s₂.heap L ∧ FrameEnd s o s₂ L 0 0) (s₁.setTop (entryFrame m #[(.ref a1), (.long q2)] 3)) from ?_)
  rw [efl1]
  refine Go.st (U' := s₁.setTop (mkF m 3 #[.val (.ref a1), .val (.long q2), .second] [(.int (8 : Int32)), (.ref a1)])) (fun t k => ?_) ?_
  · refine XS.aloadN X0.here hx rfl (hb hby d15_0) rfl rfl ?_
    refine XS.bipush X0.here hx rfl (hb hby d15_1) ?_
    exact k
  obtain ⟨cq327, kq327, q327a, q327b, q327c⟩ := isOf hZ e0 EX
  obtain ⟨_, _, ⟨T327, L327, k327, n327⟩, -, X327, ⟨Lc327, hQ327, l327, y327, z327⟩, st327⟩ := X0.virtualBack hx (y := own_y5) (z := own_y5) hown (mvT hZ (own_w hw 57 rfl)) (mvT hZ (own_w hw 58 rfl)) (notFace_of_selects (args := #[]) (mvT hZ (own_w hw 60 rfl))) (mvT hZ (own_w hw 60 rfl)) (mvT hZ (own_w hw 59 rfl)) (by decide) (backOf (W := 0) (rma1_8 l Z a0 hw [] a1 b1 k1 c0 c1 c2 c3 c4 c5 c6 c7 c8 c9 c10 c11 c12 c13 c14 c15 h0 n0 Z0 EX FB FS VA gA gB nab) hZ (own_w hw 61 rfl) (own_w hw 2 rfl) (by decide) (by decide)) q327a q327c (g := (mkF m 3 #[.val (.ref a1), .val (.long q2), .second] [(.int (8 : Int32)), (.ref a1)])) rfl (by rw [hml]; rfl) (Steps.refl _) (argsL := [(.int (8 : Int32))]) (rest := []) (lenOf pd_0 rfl) rfl (by show 2 * 0 + _ ≤ _; exact Nat.le_of_eq rfl) (hb hby d15_3) (fun _ _ => ⟨rfl, e0, (by decide : 0 + 0 ≤ _), (by decide : 0 + 0 ≤ _)⟩)
  dsimp only [Pt.U, Pt.locs, Pt.cells, Pt.slots] at X327 l327 y327 z327 st327 hQ327
  subst l327 y327 z327
  obtain ⟨rfl, N327q, K327, PE327, PV327, PZ327, PA327⟩ := hQ327
  have KK327 : Keep h0 T327.heap [a1, b1] := (Keep.refl h0 [a1, b1]).trans K327 (allS (Or.inl (List.mem_of_getElem? (i := 0) rfl)) (allS (Or.inl (List.mem_of_getElem? (i := 1) rfl)) all0))
  have EX_327 := EX.keep K327
  have sz327 : n0 ≤ T327.heap.size := Nat.le_trans Z0 K327.1
  have N327 := Fr.app N0 N327q
  refine Go.tr (U' := T327.setTop (mkF m 6 #[.val (.ref a1), .val (.long q2), .second] [])) st327 ?_
  refine Go.st (U' := T327.setTop (mkF m 9 #[.val (.ref a1), .val (.long q2), .second] [(.int (8 : Int32)), (.ref a1)])) (fun t k => ?_) ?_
  · refine XS.aloadN X327.here hx rfl (hb hby d15_6) rfl rfl ?_
    refine XS.bipush X327.here hx rfl (hb hby d15_7) ?_
    exact k
  obtain ⟨cq328, q328, q328'⟩ := PE327.cell
  obtain ⟨_, _, ⟨T328, L328, k328, n328⟩, -, X328, ⟨Lc328, hQ328, l328, y328, z328⟩, st328⟩ := X327.privateBack hx (y := own_y1) hown (mvT hZ (own_w hw 48 rfl)) (mvT hZ (own_w hw 49 rfl)) (own_selp (y := own_y1) (mvT hZ (own_w hw 1 rfl)) (Cond.privateMethod_at (mvP hZ (own_w hw 50 rfl) (args := #[]))) (mvT hZ (own_w hw 49 rfl)) (by decide)) (Cond.privateMethod_at (mvP hZ (own_w hw 50 rfl) (args := #[]))) (mvT hZ (own_w hw 51 rfl)) (by decide) (backOf (W := 0) (rmr l Z a0 hw [] a1 (8 : Int32) b1 k1 (8 : Int32) [(.int c0), (.int (0 : Int32)), (.int (0 : Int32)), (.int (0 : Int32)), (.int (0 : Int32)), (.int (0 : Int32)), (.int (0 : Int32)), (.int (0 : Int32)), (.int c8), (.int c9), (.int c10), (.int c11), (.int c12), (.int c13), (.int c14), (.int c15)] T327.heap n0 sz327 PV327 PZ327 PA327 (by decide)) hZ (own_w hw 51 rfl) (own_w hw 2 rfl) (by decide) (by decide)) (g := (mkF m 9 #[.val (.ref a1), .val (.long q2), .second] [(.int (8 : Int32)), (.ref a1)])) rfl (by rw [hml]; rfl) (Steps.refl _) (a := a1) q328 q328' (argsL := [(.int (8 : Int32))]) (rest := []) (lenOf pd_0 rfl) rfl (by show 2 * 0 + _ ≤ _; exact Nat.le_of_eq rfl) (hb hby d15_9) (fun _ _ => ⟨rfl, rfl, (by decide : 0 + 0 ≤ _), (by decide : 0 + 0 ≤ _)⟩)
  dsimp only [Pt.U, Pt.locs, Pt.cells, Pt.slots] at X328 l328 y328 z328 st328 hQ328
  subst l328 y328 z328
  obtain ⟨rfl, N328q, e328⟩ := hQ328
  have N328 := Fr.app N327 N328q
  refine Go.tr (U' := T328.setTop (mkF m 12 #[.val (.ref a1), .val (.long q2), .second] [])) st328 ?_
  refine Go.st (U' := T328.setTop (mkF m 14 #[.val (.ref a1), .val (.long q2), .second] [(.ref a1), (.ref a1)])) (fun t k => ?_) ?_
  · refine XS.aloadN X328.here hx rfl (hb hby d15_12) rfl rfl ?_
    refine XS.aloadN X328.here hx rfl (hb hby d15_13) rfl rfl ?_
    exact k
  obtain ⟨T329, X329, e329, st329⟩ := getF X328 hx hZ hown (host := "") (Or.inl (own_w hw 17 rfl)) Via.refl e328 PZ327 (g := (mkF m 14 #[.val (.ref a1), .val (.long q2), .second] [(.ref a1), (.ref a1)])) rfl rfl (hb hby d15_14)
  refine Go.st (U' := T329.setTop (mkF m 17 #[.val (.ref a1), .val (.long q2), .second] [(.int (8 : Int32)), (.ref a1)])) (fun t k => st329 _ k) ?_
  refine Go.st (U' := T329.setTop (mkF m 22 #[.val (.ref a1), .val (.long q2), .second] [(.int (((q2.toUInt64 >>> ((32 : Int32) &&& 0x3f).toInt64.toUInt64).toInt64).toInt32)), (.int (8 : Int32)), (.ref a1)])) (fun t k => ?_) ?_
  · refine XS.lloadN X329.here hx rfl (hb hby d15_17) rfl ?_
    refine XS.bipush X329.here hx rfl (hb hby d15_18) ?_
    refine XS.lushr X329.here hx rfl (hb hby d15_20) rfl ?_
    refine XS.l2i X329.here hx rfl (hb hby d15_21) rfl ?_
    exact k
  obtain ⟨cq330, q330, q330'⟩ := PE327.cell
  obtain ⟨_, _, ⟨T330, L330, k330, n330⟩, -, X330, ⟨Lc330, hQ330, l330, y330, z330⟩, st330⟩ := X329.privateBack hx (y := own_y7) hown (mvT hZ (own_w hw 73 rfl)) (mvT hZ (own_w hw 74 rfl)) (own_selp (y := own_y7) (mvT hZ (own_w hw 1 rfl)) (Cond.privateMethod_at (mvP hZ (own_w hw 75 rfl) (args := #[]))) (mvT hZ (own_w hw 74 rfl)) (by decide)) (Cond.privateMethod_at (mvP hZ (own_w hw 75 rfl) (args := #[]))) (mvT hZ (own_w hw 76 rfl)) (by decide) (backOf (W := 0) (rmp8_8 l Z a0 hw [] a1 b1 k1 c0 (0 : Int32) (0 : Int32) (0 : Int32) (0 : Int32) (0 : Int32) (0 : Int32) (0 : Int32) c8 c9 c10 c11 c12 c13 c14 c15 (((q2.toUInt64 >>> ((32 : Int32) &&& 0x3f).toInt64.toUInt64).toInt64).toInt32) T327.heap n0 sz327 PE327 PV327 PZ327 PA327 gA gB nab) hZ (own_w hw 76 rfl) (own_w hw 2 rfl) (by decide) (by decide)) (g := (mkF m 22 #[.val (.ref a1), .val (.long q2), .second] [(.int (((q2.toUInt64 >>> ((32 : Int32) &&& 0x3f).toInt64.toUInt64).toInt64).toInt32)), (.int (8 : Int32)), (.ref a1)])) rfl (by rw [hml]; rfl) (Steps.refl _) (a := a1) (by rw [e329]; exact q330) q330' (argsL := [(.int (8 : Int32)), (.int (((q2.toUInt64 >>> ((32 : Int32) &&& 0x3f).toInt64.toUInt64).toInt64).toInt32))]) (rest := []) (lenOf pd_3 rfl) rfl (by show 2 * 0 + _ ≤ _; exact Nat.le_of_eq rfl) (hb hby d15_22) (fun _ _ => ⟨rfl, e329, (by decide : 0 + 0 ≤ _), (by decide : 0 + 0 ≤ _)⟩)
  dsimp only [Pt.U, Pt.locs, Pt.cells, Pt.slots] at X330 l330 y330 z330 st330 hQ330
  subst l330 y330 z330
  obtain ⟨rfl, N330q, K330, PE330, PV330, PZ330, PA330⟩ := hQ330
  have KK330 : Keep h0 T330.heap [a1, b1] := KK327.trans K330 (allS (Or.inl (List.mem_of_getElem? (i := 0) rfl)) (allS (Or.inl (List.mem_of_getElem? (i := 1) rfl)) all0))
  have PE327_330 := PE327.keep K330
  have sz330 : n0 ≤ T330.heap.size := Nat.le_trans sz327 K330.1
  have N330 := Fr.app N328 N330q
  refine Go.tr (U' := T330.setTop (mkF m 25 #[.val (.ref a1), .val (.long q2), .second] [])) st330 ?_
  refine Go.st (U' := T330.setTop (mkF m 27 #[.val (.ref a1), .val (.long q2), .second] [(.ref a1), (.ref a1)])) (fun t k => ?_) ?_
  · refine XS.aloadN X330.here hx rfl (hb hby d15_25) rfl rfl ?_
    refine XS.aloadN X330.here hx rfl (hb hby d15_26) rfl rfl ?_
    exact k
  obtain ⟨T331, X331, e331, st331⟩ := getF X330 hx hZ hown (host := "") (Or.inl (own_w hw 17 rfl)) Via.refl rfl PZ330 (g := (mkF m 27 #[.val (.ref a1), .val (.long q2), .second] [(.ref a1), (.ref a1)])) rfl rfl (hb hby d15_27)
  refine Go.st (U' := T331.setTop (mkF m 30 #[.val (.ref a1), .val (.long q2), .second] [(.int (8 : Int32)), (.ref a1)])) (fun t k => st331 _ k) ?_
  refine Go.st (U' := T331.setTop (mkF m 34 #[.val (.ref a1), .val (.long q2), .second] [(.int (q2.toInt32)), (.int (12 : Int32)), (.ref a1)])) (fun t k => ?_) ?_
  · refine XS.iconst X331.here hx rfl (hb hby d15_30) ?_
    refine XS.iadd X331.here hx rfl (hb hby d15_31) rfl ?_
    refine XS.lloadN X331.here hx rfl (hb hby d15_32) rfl ?_
    refine XS.l2i X331.here hx rfl (hb hby d15_33) rfl ?_
    exact k
  obtain ⟨cq332, q332, q332'⟩ := PE330.cell
  obtain ⟨_, _, ⟨T332, L332, k332, n332⟩, -, X332, ⟨Lc332, hQ332, l332, y332, z332⟩, st332⟩ := X331.privateBack hx (y := own_y7) hown (mvT hZ (own_w hw 73 rfl)) (mvT hZ (own_w hw 74 rfl)) (own_selp (y := own_y7) (mvT hZ (own_w hw 1 rfl)) (Cond.privateMethod_at (mvP hZ (own_w hw 75 rfl) (args := #[]))) (mvT hZ (own_w hw 74 rfl)) (by decide)) (Cond.privateMethod_at (mvP hZ (own_w hw 75 rfl) (args := #[]))) (mvT hZ (own_w hw 76 rfl)) (by decide) (backOf (W := 0) (rmp8_12 l Z a0 hw [] a1 b1 k1 c0 (0 : Int32) (0 : Int32) (0 : Int32) (0 : Int32) (0 : Int32) (0 : Int32) (0 : Int32) (own_b3 (((q2.toUInt64 >>> ((32 : Int32) &&& 0x3f).toInt64.toUInt64).toInt64).toInt32)) (own_b2 (((q2.toUInt64 >>> ((32 : Int32) &&& 0x3f).toInt64.toUInt64).toInt64).toInt32)) (own_b1 (((q2.toUInt64 >>> ((32 : Int32) &&& 0x3f).toInt64.toUInt64).toInt64).toInt32)) (own_b0 (((q2.toUInt64 >>> ((32 : Int32) &&& 0x3f).toInt64.toUInt64).toInt64).toInt32)) c12 c13 c14 c15 (q2.toInt32) T330.heap n0 sz330 PE330 PV330 PZ330 PA330 gA gB nab) hZ (own_w hw 76 rfl) (own_w hw 2 rfl) (by decide) (by decide)) (g := (mkF m 34 #[.val (.ref a1), .val (.long q2), .second] [(.int (q2.toInt32)), (.int (12 : Int32)), (.ref a1)])) rfl (by rw [hml]; rfl) (Steps.refl _) (a := a1) (by rw [e331]; exact q332) q332' (argsL := [(.int (12 : Int32)), (.int (q2.toInt32))]) (rest := []) (lenOf pd_3 rfl) rfl (by show 2 * 0 + _ ≤ _; exact Nat.le_of_eq rfl) (hb hby d15_34) (fun _ _ => ⟨rfl, e331, (by decide : 0 + 0 ≤ _), (by decide : 0 + 0 ≤ _)⟩)
  dsimp only [Pt.U, Pt.locs, Pt.cells, Pt.slots] at X332 l332 y332 z332 st332 hQ332
  subst l332 y332 z332
  obtain ⟨rfl, N332q, K332, PE332, PV332, PZ332, PA332⟩ := hQ332
  have KK332 : Keep h0 T332.heap [a1, b1] := KK330.trans K332 (allS (Or.inl (List.mem_of_getElem? (i := 0) rfl)) (allS (Or.inl (List.mem_of_getElem? (i := 1) rfl)) all0))
  have PE330_332 := PE330.keep K332
  have sz332 : n0 ≤ T332.heap.size := Nat.le_trans sz330 K332.1
  have N332 := Fr.app N330 N332q
  refine Go.tr (U' := T332.setTop (mkF m 37 #[.val (.ref a1), .val (.long q2), .second] [])) st332 ?_
  refine Go.st (U' := T332.setTop (mkF m 39 #[.val (.ref a1), .val (.long q2), .second] [(.ref a1), (.ref a1)])) (fun t k => ?_) ?_
  · refine XS.aloadN X332.here hx rfl (hb hby d15_37) rfl rfl ?_
    refine XS.dup X332.here hx rfl (hb hby d15_38) rfl rfl ?_
    exact k
  obtain ⟨T333, X333, e333, st333⟩ := getF X332 hx hZ hown (host := "") (Or.inl (own_w hw 17 rfl)) Via.refl rfl PZ332 (g := (mkF m 39 #[.val (.ref a1), .val (.long q2), .second] [(.ref a1), (.ref a1)])) rfl rfl (hb hby d15_39)
  refine Go.st (U' := T333.setTop (mkF m 42 #[.val (.ref a1), .val (.long q2), .second] [(.int (8 : Int32)), (.ref a1)])) (fun t k => st333 _ k) ?_
  refine Go.st (U' := T333.setTop (mkF m 45 #[.val (.ref a1), .val (.long q2), .second] [(.int (16 : Int32)), (.ref a1)])) (fun t k => ?_) ?_
  · refine XS.bipush X333.here hx rfl (hb hby d15_42) ?_
    refine XS.iadd X333.here hx rfl (hb hby d15_44) rfl ?_
    exact k
  obtain ⟨T334, h334, X334, e334, W334, st334⟩ := putF X333 hx hZ hown (host := "") (Or.inl (own_w hw 17 rfl)) Via.refl e333 PZ332 PE332 (Or.inl (own_w hw 18 rfl)) (own_w hw 1 rfl) (ty := .int) (by decide) rfl rfl (g := (mkF m 45 #[.val (.ref a1), .val (.long q2), .second] [(.int (16 : Int32)), (.ref a1)])) rfl rfl (hb hby d15_45)
  have F334 := PZ332.same W334
  have PE332_334 := PE332.wr W334
  have PV332_334 := PV332.other W334 (Or.inr (slot_ne (Or.inl (own_w hw 11 rfl)) (Or.inl (own_w hw 18 rfl)) (by decide) (t := (.array .byte)) (t' := .int) (by decide) (by decide)))
  have PA332_334 := PA332.other W334 (Ne.symm nab)
  have N334 := Fr.snoc X334 N332 gA
  have KK334 : Keep h0 h334 [a1, b1] := KK332.wr W334 (Or.inl (List.mem_of_getElem? (i := 0) rfl))
  have sz334 : n0 ≤ h334.size := Nat.le_trans sz332 (Nat.le_of_eq W334.size.symm)
  refine Go.st (U' := T334.setTop (mkF m 48 #[.val (.ref a1), .val (.long q2), .second] [])) (fun t k => st334 _ k) ?_
  refine own_ret (Q := Ql1 Z a1 b1 k1 c0 c1 c2 c3 c4 c5 c6 c7 c8 c9 c10 c11 c12 c13 c14 c15 q2 h0 n0) (v := none) X334 hlk (fun _ => rfl) (by decide) (by decide) ?_ (fun fs hr => X334.returnOut hx hrt (hb hby d15_48) hr)
  rw [e334]
  exact ⟨rfl, N334, KK334, PE332_334, PV332_334, F334, PA332_334⟩
theorem eff2_8 (m : MethodId) (a1 : Addr) : entryFrame m #[(.ref a1), (.int (2 : Int32)), (.int (8 : Int32)), (.int (0 : Int32))] 5 = mkF m 0 #[.val (.ref a1), .val (.int (2 : Int32)), .val (.int (8 : Int32)), .val (.int (0 : Int32)), .unset] [] := by first | (simp [entryFrame, mkF, argsToLocals, Value.category]; done) | rfl
def Qf2_8 (Z : State) (a1 : Addr) (k1 : ClassId) (c0 : Int32) (c1 : Int32) (c2 : Int32) (c3 : Int32) (c4 : Int32) (c5 : Int32) (c6 : Int32) (c7 : Int32) (c8 : Int32) (c9 : Int32) (c10 : Int32) (c11 : Int32) (c12 : Int32) (c13 : Int32) (c14 : Int32) (c15 : Int32) (h0 : Heap) (n0 : Nat) (v : Option Value) (h : Heap) (L : List Loc) : Prop := v = none ∧ Fr n0 L ∧ Keep h0 h [a1] ∧ Arv Z h a1 k1 .byte (256 : Int32) [(.int c0), (.int c1), (.int (0 : Int32)), (.int (0 : Int32)), (.int (0 : Int32)), (.int (0 : Int32)), (.int (0 : Int32)), (.int (0 : Int32)), (.int c8), (.int c9), (.int c10), (.int c11), (.int c12), (.int c13), (.int c14), (.int c15)] (.int (0 : Int32))
set_option maxRecDepth 65536 in
set_option maxHeartbeats 40000000 in
theorem rmf2_8 (l : Launch) (Z : State) (a0 : Array Value) (hw : ∀ d ∈ tables_1, d.before a0 Z = true) (ws : List Jvm.Cond) (a1 : Addr) (k1 : ClassId) (c0 : Int32) (c1 : Int32) (c2 : Int32) (c3 : Int32) (c4 : Int32) (c5 : Int32) (c6 : Int32) (c7 : Int32) (c8 : Int32) (c9 : Int32) (c10 : Int32) (c11 : Int32) (c12 : Int32) (c13 : Int32) (c14 : Int32) (c15 : Int32) (h0 : Heap) (n0 : Nat) (Z0 : n0 ≤ h0.size) (VA : Arv Z h0 a1 k1 .byte (256 : Int32) [(.int c0), (.int c1), (.int c2), (.int c3), (.int c4), (.int c5), (.int c6), (.int c7), (.int c8), (.int c9), (.int c10), (.int c11), (.int c12), (.int c13), (.int c14), (.int c15)] (.int (0 : Int32))) (gA : n0 ≤ a1) :
    MetFree l own_y4 (head1 (Jvm.Cond.code own_y4 jdk_65_method_110_code 5 none :: ws) own_R1_0_0_16) (fun a U => a = #[(.ref a1), (.int (2 : Int32)), (.int (8 : Int32)), (.int (0 : Int32))] ∧ Z.Warmed39 U.vm ∧ U.heap = h0) (fun _ _ _ _ _ => True) (fun _ U o U' => ∃ v L, o = .returned v ∧ Qf2_8 Z a1 k1 c0 c1 c2 c3 c4 c5 c6 c7 c8 c9 c10 c11 c12 c13 c14 c15 h0 n0 v U'.heap L ∧ FrameEnd U o U' L (own_R1_0_0_16).cells (own_R1_0_0_16).slots) := by
  refine MetFree.of_bodySF (plainFor_of_name pn_4) hisR ?_
  intro p e s m args below meth c s₁ Bd hml0 hP hK
  obtain ⟨rfl, hZ, hh⟩ := hP
  have hx := Bd.exec
  have hby := Bd.bytes
  have hml : c.maxLocals = 5 := hml0
  have hown : s.vm.findClass "java/util/Arrays" = some m.cls := findClass_of_methodNamed Bd.named
  have hnm := (name_of_methodNamed Bd.named Bd.method).1
  have hlk : meth.locks = false := BodyLoose.notSynchronized Bd
  have hrt := Bd.returns
  have X0 : Stand p l e own_R1_0_0_16 s m #[(.ref a1), (.int (2 : Int32)), (.int (8 : Int32)), (.int (0 : Int32))] below meth c s₁ [] 0 0 := Stand.of_body Bd
  have e0 : s₁.heap = h0 := by rw [← hh, Bd.state]; rfl
  have N0 := Fr.nil n0
  refine (show Go p e below (fun s₂ o => ∃ v L, o = .returned v ∧ Qf2_8 Z a1 k1 c0 c1 c2 c3 c4 c5 c6 c7 c8 c9 c10 c11 c12 c13 c14 c15 h0 n0 v s₂.heap L ∧ FrameEnd s o s₂ L 0 0) (s₁.setTop (entryFrame m #[(.ref a1), (.int (2 : Int32)), (.int (8 : Int32)), (.int (0 : Int32))] 5)) from ?_)
  rw [eff2_8]
  obtain ⟨cl335, Ar335, q335, S335, N335, H335, G335⟩ := id VA
  refine Go.st (U' := s₁.setTop (mkF m 4 #[.val (.ref a1), .val (.int (2 : Int32)), .val (.int (8 : Int32)), .val (.int (0 : Int32)), .unset] [(.int (8 : Int32)), (.int (2 : Int32)), (.int (256 : Int32))])) (fun t k => ?_) ?_
  · refine XS.aloadN X0.here hx rfl (hb hby d13_0) rfl rfl ?_
    refine X0.arraylength hx (by rw [e0]; exact Ar335.1) (State.isArrayOf_alike hZ.alike Ar335.2.1) (g := (mkF m 1 #[.val (.ref a1), .val (.int (2 : Int32)), .val (.int (8 : Int32)), .val (.int (0 : Int32)), .unset] [(.ref a1)])) rfl rfl (hb hby d13_1) _ ?_
    rw [len_of S335 N335]
    refine XS.iloadN X0.here hx rfl (hb hby d13_2) rfl ?_
    refine XS.iloadN X0.here hx rfl (hb hby d13_3) rfl ?_
    exact k
  obtain ⟨_, _, ⟨T336, L336, k336, n336⟩, -, X336, ⟨Lc336, hQ336, l336, y336, z336⟩, st336⟩ := Jvm.LawKit.callS X0 hx (y := own_y2) hown (mvT hZ (own_w hw 65 rfl)) (mvT hZ (own_w hw 66 rfl)) (mvT hZ (own_w hw 21 rfl)) (mvT hZ (own_w hw 67 rfl)) (by decide) (backOf (W := 0) (rmk l Z a0 hw [] (256 : Int32) (2 : Int32) (8 : Int32) h0 n0 Z0 (by decide) (by decide) (by decide)) hZ (own_w hw 67 rfl) (own_w hw 21 rfl) (by decide) (by decide)) (g := (mkF m 4 #[.val (.ref a1), .val (.int (2 : Int32)), .val (.int (8 : Int32)), .val (.int (0 : Int32)), .unset] [(.int (8 : Int32)), (.int (2 : Int32)), (.int (256 : Int32))])) rfl (by rw [hml]; rfl) (argsL := [(.int (256 : Int32)), (.int (2 : Int32)), (.int (8 : Int32))]) (rest := []) (lenOf pd_1 rfl) rfl (by show 2 * 0 + _ ≤ _; exact Nat.le_of_eq rfl) (hb hby d13_4) (fun _ _ => ⟨rfl, e0, (by decide : 0 + 0 ≤ _), (by decide : 0 + 0 ≤ _)⟩)
  dsimp only [Pt.U, Pt.locs, Pt.cells, Pt.slots] at X336 l336 y336 z336 st336 hQ336
  subst l336 y336 z336
  obtain ⟨rfl, N336q, e336⟩ := hQ336
  have N336 := Fr.app N0 N336q
  refine Go.st (U' := T336.setTop (mkF m 7 #[.val (.ref a1), .val (.int (2 : Int32)), .val (.int (8 : Int32)), .val (.int (0 : Int32)), .unset] [])) (fun t k => st336 _ k) ?_
  refine Go.st (U' := T336.setTop (mkF m 20 #[.val (.ref a1), .val (.int (2 : Int32)), .val (.int (8 : Int32)), .val (.int (0 : Int32)), .val (.int (2 : Int32))] [(.int (0 : Int32)), (.int (2 : Int32)), (.ref a1)])) (fun t k => ?_) ?_
  · refine XS.iloadN X336.here hx rfl (hb hby d13_7) rfl ?_
    refine XS.istore X336.here hx rfl (hb hby d13_8) rfl (l' := #[.val (.ref a1), .val (.int (2 : Int32)), .val (.int (8 : Int32)), .val (.int (0 : Int32)), .val (.int (2 : Int32))]) rfl ?_
    refine XS.iload X336.here hx rfl (hb hby d13_10) rfl ?_
    refine XS.iloadN X336.here hx rfl (hb hby d13_12) rfl ?_
    refine XS.icmpNo X336.here hx rfl (hb hby d13_13) rfl (tlt (by decide : (2 : Int32) < (8 : Int32))).2.1 ?_
    refine XS.aloadN X336.here hx rfl (hb hby d13_16) rfl rfl ?_
    refine XS.iload X336.here hx rfl (hb hby d13_17) rfl ?_
    refine XS.iloadN X336.here hx rfl (hb hby d13_19) rfl ?_
    exact k
  obtain ⟨T337, h337, X337, e337, W337, st337⟩ := stB X336 hx hZ e336 Ar335 (j := (2 : Int32)) (inb_of (j := (2 : Int32)) S335 ⟨by decide, by decide⟩) (g := (mkF m 20 #[.val (.ref a1), .val (.int (2 : Int32)), .val (.int (8 : Int32)), .val (.int (0 : Int32)), .val (.int (2 : Int32))] [(.int (0 : Int32)), (.int (2 : Int32)), (.ref a1)])) rfl rfl (hb hby d13_20)
  have VA_337 := Arv.set Ar335 q335 S335 N335 H335 G335 (fits_nar_byte _) W337 2 rfl (Nat.le_of_ble_eq_true rfl)
  have N337 := Fr.snoc X337 N336 gA
  have KK337 : Keep h0 h337 [a1] := (Keep.refl h0 [a1]).wr W337 (Or.inl (List.mem_of_getElem? (i := 0) rfl))
  have sz337 : n0 ≤ h337.size := Nat.le_trans Z0 (Nat.le_of_eq W337.size.symm)
  refine Go.st (U' := T337.setTop (mkF m 21 #[.val (.ref a1), .val (.int (2 : Int32)), .val (.int (8 : Int32)), .val (.int (0 : Int32)), .val (.int (2 : Int32))] [])) (fun t k => st337 _ k) ?_
  refine Go.st (U' := T337.setTop (mkF m 20 #[.val (.ref a1), .val (.int (2 : Int32)), .val (.int (8 : Int32)), .val (.int (0 : Int32)), .val (.int (3 : Int32))] [(.int (0 : Int32)), (.int (3 : Int32)), (.ref a1)])) (fun t k => ?_) ?_
  · refine XS.iinc X337.here hx rfl (hb hby d13_21) rfl (l' := #[.val (.ref a1), .val (.int (2 : Int32)), .val (.int (8 : Int32)), .val (.int (0 : Int32)), .val (.int (3 : Int32))]) rfl ?_
    refine XS.goto X337.here hx rfl (pc0 := 24) (pc' := 10) rfl (hb hby d13_24) (by decide) (by decide) ?_
    refine XS.iload X337.here hx rfl (hb hby d13_10) rfl ?_
    refine XS.iloadN X337.here hx rfl (hb hby d13_12) rfl ?_
    refine XS.icmpNo X337.here hx rfl (hb hby d13_13) rfl (tlt (by decide : (3 : Int32) < (8 : Int32))).2.1 ?_
    refine XS.aloadN X337.here hx rfl (hb hby d13_16) rfl rfl ?_
    refine XS.iload X337.here hx rfl (hb hby d13_17) rfl ?_
    refine XS.iloadN X337.here hx rfl (hb hby d13_19) rfl ?_
    exact k
  obtain ⟨cl339, Ar339, q339, S339, N339, H339, G339⟩ := id VA_337
  obtain ⟨T338, h338, X338, e338, W338, st338⟩ := stB X337 hx hZ e337 Ar339 (j := (3 : Int32)) (inb_of (j := (3 : Int32)) S339 ⟨by decide, by decide⟩) (g := (mkF m 20 #[.val (.ref a1), .val (.int (2 : Int32)), .val (.int (8 : Int32)), .val (.int (0 : Int32)), .val (.int (3 : Int32))] [(.int (0 : Int32)), (.int (3 : Int32)), (.ref a1)])) rfl rfl (hb hby d13_20)
  have VA_338 := Arv.set Ar339 q339 S339 N339 H339 G339 (fits_nar_byte _) W338 3 rfl (Nat.le_of_ble_eq_true rfl)
  have N338 := Fr.snoc X338 N337 gA
  have KK338 : Keep h0 h338 [a1] := KK337.wr W338 (Or.inl (List.mem_of_getElem? (i := 0) rfl))
  have sz338 : n0 ≤ h338.size := Nat.le_trans sz337 (Nat.le_of_eq W338.size.symm)
  refine Go.st (U' := T338.setTop (mkF m 21 #[.val (.ref a1), .val (.int (2 : Int32)), .val (.int (8 : Int32)), .val (.int (0 : Int32)), .val (.int (3 : Int32))] [])) (fun t k => st338 _ k) ?_
  refine Go.st (U' := T338.setTop (mkF m 20 #[.val (.ref a1), .val (.int (2 : Int32)), .val (.int (8 : Int32)), .val (.int (0 : Int32)), .val (.int (4 : Int32))] [(.int (0 : Int32)), (.int (4 : Int32)), (.ref a1)])) (fun t k => ?_) ?_
  · refine XS.iinc X338.here hx rfl (hb hby d13_21) rfl (l' := #[.val (.ref a1), .val (.int (2 : Int32)), .val (.int (8 : Int32)), .val (.int (0 : Int32)), .val (.int (4 : Int32))]) rfl ?_
    refine XS.goto X338.here hx rfl (pc0 := 24) (pc' := 10) rfl (hb hby d13_24) (by decide) (by decide) ?_
    refine XS.iload X338.here hx rfl (hb hby d13_10) rfl ?_
    refine XS.iloadN X338.here hx rfl (hb hby d13_12) rfl ?_
    refine XS.icmpNo X338.here hx rfl (hb hby d13_13) rfl (tlt (by decide : (4 : Int32) < (8 : Int32))).2.1 ?_
    refine XS.aloadN X338.here hx rfl (hb hby d13_16) rfl rfl ?_
    refine XS.iload X338.here hx rfl (hb hby d13_17) rfl ?_
    refine XS.iloadN X338.here hx rfl (hb hby d13_19) rfl ?_
    exact k
  obtain ⟨cl341, Ar341, q341, S341, N341, H341, G341⟩ := id VA_338
  obtain ⟨T340, h340, X340, e340, W340, st340⟩ := stB X338 hx hZ e338 Ar341 (j := (4 : Int32)) (inb_of (j := (4 : Int32)) S341 ⟨by decide, by decide⟩) (g := (mkF m 20 #[.val (.ref a1), .val (.int (2 : Int32)), .val (.int (8 : Int32)), .val (.int (0 : Int32)), .val (.int (4 : Int32))] [(.int (0 : Int32)), (.int (4 : Int32)), (.ref a1)])) rfl rfl (hb hby d13_20)
  have VA_340 := Arv.set Ar341 q341 S341 N341 H341 G341 (fits_nar_byte _) W340 4 rfl (Nat.le_of_ble_eq_true rfl)
  have N340 := Fr.snoc X340 N338 gA
  have KK340 : Keep h0 h340 [a1] := KK338.wr W340 (Or.inl (List.mem_of_getElem? (i := 0) rfl))
  have sz340 : n0 ≤ h340.size := Nat.le_trans sz338 (Nat.le_of_eq W340.size.symm)
  refine Go.st (U' := T340.setTop (mkF m 21 #[.val (.ref a1), .val (.int (2 : Int32)), .val (.int (8 : Int32)), .val (.int (0 : Int32)), .val (.int (4 : Int32))] [])) (fun t k => st340 _ k) ?_
  refine Go.st (U' := T340.setTop (mkF m 20 #[.val (.ref a1), .val (.int (2 : Int32)), .val (.int (8 : Int32)), .val (.int (0 : Int32)), .val (.int (5 : Int32))] [(.int (0 : Int32)), (.int (5 : Int32)), (.ref a1)])) (fun t k => ?_) ?_
  · refine XS.iinc X340.here hx rfl (hb hby d13_21) rfl (l' := #[.val (.ref a1), .val (.int (2 : Int32)), .val (.int (8 : Int32)), .val (.int (0 : Int32)), .val (.int (5 : Int32))]) rfl ?_
    refine XS.goto X340.here hx rfl (pc0 := 24) (pc' := 10) rfl (hb hby d13_24) (by decide) (by decide) ?_
    refine XS.iload X340.here hx rfl (hb hby d13_10) rfl ?_
    refine XS.iloadN X340.here hx rfl (hb hby d13_12) rfl ?_
    refine XS.icmpNo X340.here hx rfl (hb hby d13_13) rfl (tlt (by decide : (5 : Int32) < (8 : Int32))).2.1 ?_
    refine XS.aloadN X340.here hx rfl (hb hby d13_16) rfl rfl ?_
    refine XS.iload X340.here hx rfl (hb hby d13_17) rfl ?_
    refine XS.iloadN X340.here hx rfl (hb hby d13_19) rfl ?_
    exact k
  obtain ⟨cl343, Ar343, q343, S343, N343, H343, G343⟩ := id VA_340
  obtain ⟨T342, h342, X342, e342, W342, st342⟩ := stB X340 hx hZ e340 Ar343 (j := (5 : Int32)) (inb_of (j := (5 : Int32)) S343 ⟨by decide, by decide⟩) (g := (mkF m 20 #[.val (.ref a1), .val (.int (2 : Int32)), .val (.int (8 : Int32)), .val (.int (0 : Int32)), .val (.int (5 : Int32))] [(.int (0 : Int32)), (.int (5 : Int32)), (.ref a1)])) rfl rfl (hb hby d13_20)
  have VA_342 := Arv.set Ar343 q343 S343 N343 H343 G343 (fits_nar_byte _) W342 5 rfl (Nat.le_of_ble_eq_true rfl)
  have N342 := Fr.snoc X342 N340 gA
  have KK342 : Keep h0 h342 [a1] := KK340.wr W342 (Or.inl (List.mem_of_getElem? (i := 0) rfl))
  have sz342 : n0 ≤ h342.size := Nat.le_trans sz340 (Nat.le_of_eq W342.size.symm)
  refine Go.st (U' := T342.setTop (mkF m 21 #[.val (.ref a1), .val (.int (2 : Int32)), .val (.int (8 : Int32)), .val (.int (0 : Int32)), .val (.int (5 : Int32))] [])) (fun t k => st342 _ k) ?_
  refine Go.st (U' := T342.setTop (mkF m 20 #[.val (.ref a1), .val (.int (2 : Int32)), .val (.int (8 : Int32)), .val (.int (0 : Int32)), .val (.int (6 : Int32))] [(.int (0 : Int32)), (.int (6 : Int32)), (.ref a1)])) (fun t k => ?_) ?_
  · refine XS.iinc X342.here hx rfl (hb hby d13_21) rfl (l' := #[.val (.ref a1), .val (.int (2 : Int32)), .val (.int (8 : Int32)), .val (.int (0 : Int32)), .val (.int (6 : Int32))]) rfl ?_
    refine XS.goto X342.here hx rfl (pc0 := 24) (pc' := 10) rfl (hb hby d13_24) (by decide) (by decide) ?_
    refine XS.iload X342.here hx rfl (hb hby d13_10) rfl ?_
    refine XS.iloadN X342.here hx rfl (hb hby d13_12) rfl ?_
    refine XS.icmpNo X342.here hx rfl (hb hby d13_13) rfl (tlt (by decide : (6 : Int32) < (8 : Int32))).2.1 ?_
    refine XS.aloadN X342.here hx rfl (hb hby d13_16) rfl rfl ?_
    refine XS.iload X342.here hx rfl (hb hby d13_17) rfl ?_
    refine XS.iloadN X342.here hx rfl (hb hby d13_19) rfl ?_
    exact k
  obtain ⟨cl345, Ar345, q345, S345, N345, H345, G345⟩ := id VA_342
  obtain ⟨T344, h344, X344, e344, W344, st344⟩ := stB X342 hx hZ e342 Ar345 (j := (6 : Int32)) (inb_of (j := (6 : Int32)) S345 ⟨by decide, by decide⟩) (g := (mkF m 20 #[.val (.ref a1), .val (.int (2 : Int32)), .val (.int (8 : Int32)), .val (.int (0 : Int32)), .val (.int (6 : Int32))] [(.int (0 : Int32)), (.int (6 : Int32)), (.ref a1)])) rfl rfl (hb hby d13_20)
  have VA_344 := Arv.set Ar345 q345 S345 N345 H345 G345 (fits_nar_byte _) W344 6 rfl (Nat.le_of_ble_eq_true rfl)
  have N344 := Fr.snoc X344 N342 gA
  have KK344 : Keep h0 h344 [a1] := KK342.wr W344 (Or.inl (List.mem_of_getElem? (i := 0) rfl))
  have sz344 : n0 ≤ h344.size := Nat.le_trans sz342 (Nat.le_of_eq W344.size.symm)
  refine Go.st (U' := T344.setTop (mkF m 21 #[.val (.ref a1), .val (.int (2 : Int32)), .val (.int (8 : Int32)), .val (.int (0 : Int32)), .val (.int (6 : Int32))] [])) (fun t k => st344 _ k) ?_
  refine Go.st (U' := T344.setTop (mkF m 20 #[.val (.ref a1), .val (.int (2 : Int32)), .val (.int (8 : Int32)), .val (.int (0 : Int32)), .val (.int (7 : Int32))] [(.int (0 : Int32)), (.int (7 : Int32)), (.ref a1)])) (fun t k => ?_) ?_
  · refine XS.iinc X344.here hx rfl (hb hby d13_21) rfl (l' := #[.val (.ref a1), .val (.int (2 : Int32)), .val (.int (8 : Int32)), .val (.int (0 : Int32)), .val (.int (7 : Int32))]) rfl ?_
    refine XS.goto X344.here hx rfl (pc0 := 24) (pc' := 10) rfl (hb hby d13_24) (by decide) (by decide) ?_
    refine XS.iload X344.here hx rfl (hb hby d13_10) rfl ?_
    refine XS.iloadN X344.here hx rfl (hb hby d13_12) rfl ?_
    refine XS.icmpNo X344.here hx rfl (hb hby d13_13) rfl (tlt (by decide : (7 : Int32) < (8 : Int32))).2.1 ?_
    refine XS.aloadN X344.here hx rfl (hb hby d13_16) rfl rfl ?_
    refine XS.iload X344.here hx rfl (hb hby d13_17) rfl ?_
    refine XS.iloadN X344.here hx rfl (hb hby d13_19) rfl ?_
    exact k
  obtain ⟨cl347, Ar347, q347, S347, N347, H347, G347⟩ := id VA_344
  obtain ⟨T346, h346, X346, e346, W346, st346⟩ := stB X344 hx hZ e344 Ar347 (j := (7 : Int32)) (inb_of (j := (7 : Int32)) S347 ⟨by decide, by decide⟩) (g := (mkF m 20 #[.val (.ref a1), .val (.int (2 : Int32)), .val (.int (8 : Int32)), .val (.int (0 : Int32)), .val (.int (7 : Int32))] [(.int (0 : Int32)), (.int (7 : Int32)), (.ref a1)])) rfl rfl (hb hby d13_20)
  have VA_346 := Arv.set Ar347 q347 S347 N347 H347 G347 (fits_nar_byte _) W346 7 rfl (Nat.le_of_ble_eq_true rfl)
  have N346 := Fr.snoc X346 N344 gA
  have KK346 : Keep h0 h346 [a1] := KK344.wr W346 (Or.inl (List.mem_of_getElem? (i := 0) rfl))
  have sz346 : n0 ≤ h346.size := Nat.le_trans sz344 (Nat.le_of_eq W346.size.symm)
  refine Go.st (U' := T346.setTop (mkF m 21 #[.val (.ref a1), .val (.int (2 : Int32)), .val (.int (8 : Int32)), .val (.int (0 : Int32)), .val (.int (7 : Int32))] [])) (fun t k => st346 _ k) ?_
  refine Go.st (U' := T346.setTop (mkF m 27 #[.val (.ref a1), .val (.int (2 : Int32)), .val (.int (8 : Int32)), .val (.int (0 : Int32)), .val (.int (8 : Int32))] [])) (fun t k => ?_) ?_
  · refine XS.iinc X346.here hx rfl (hb hby d13_21) rfl (l' := #[.val (.ref a1), .val (.int (2 : Int32)), .val (.int (8 : Int32)), .val (.int (0 : Int32)), .val (.int (8 : Int32))]) rfl ?_
    refine XS.goto X346.here hx rfl (pc0 := 24) (pc' := 10) rfl (hb hby d13_24) (by decide) (by decide) ?_
    refine XS.iload X346.here hx rfl (hb hby d13_10) rfl ?_
    refine XS.iloadN X346.here hx rfl (hb hby d13_12) rfl ?_
    refine XS.icmpYes X346.here hx rfl (pc0 := 13) (pc' := 27) rfl (hb hby d13_13) rfl (flt (by decide : ¬ ((8 : Int32) < (8 : Int32)))).2.1 (by decide) (by decide) ?_
    exact k
  refine own_ret (Q := Qf2_8 Z a1 k1 c0 c1 c2 c3 c4 c5 c6 c7 c8 c9 c10 c11 c12 c13 c14 c15 h0 n0) (v := none) X346 hlk (fun _ => rfl) (by decide) (by decide) ?_ (fun fs hr => X346.returnOut hx hrt (hb hby d13_27) hr)
  rw [e346]
  exact ⟨rfl, N346, KK346, VA_346⟩
theorem efa2_8 (m : MethodId) (a1 : Addr) : entryFrame m #[(.ref a1), (.int (8 : Int32))] 3 = mkF m 0 #[.val (.ref a1), .val (.int (8 : Int32)), .unset] [] := by first | (simp [entryFrame, mkF, argsToLocals, Value.category]; done) | rfl
def Qa2_8 (Z : State) (a1 : Addr) (b1 : Addr) (k1 : ClassId) (c0 : Int32) (c1 : Int32) (c2 : Int32) (c3 : Int32) (c4 : Int32) (c5 : Int32) (c6 : Int32) (c7 : Int32) (c8 : Int32) (c9 : Int32) (c10 : Int32) (c11 : Int32) (c12 : Int32) (c13 : Int32) (c14 : Int32) (c15 : Int32) (h0 : Heap) (n0 : Nat) (v : Option Value) (h : Heap) (L : List Loc) : Prop := v = none ∧ Fr n0 L ∧ Keep h0 h [a1, b1] ∧ Exa Z h a1 "com/example/portcullis/portcullis/io/CdrOutput" ∧ Fld Z h a1 "com/example/portcullis/portcullis/io/CdrOutput" "buffer" "[B" (.ref b1) ∧ Fld Z h a1 "com/example/portcullis/portcullis/io/CdrOutput" "size" "I" (.int (8 : Int32)) ∧ Arv Z h b1 k1 .byte (256 : Int32) [(.int c0), (.int c1), (.int (0 : Int32)), (.int (0 : Int32)), (.int (0 : Int32)), (.int (0 : Int32)), (.int (0 : Int32)), (.int (0 : Int32)), (.int c8), (.int c9), (.int c10), (.int c11), (.int c12), (.int c13), (.int c14), (.int c15)] (.int (0 : Int32))
set_option maxRecDepth 65536 in
set_option maxHeartbeats 40000000 in
theorem rma2_8 (l : Launch) (Z : State) (a0 : Array Value) (hw : ∀ d ∈ tables_1, d.before a0 Z = true) (ws : List Jvm.Cond) (a1 : Addr) (b1 : Addr) (k1 : ClassId) (c0 : Int32) (c1 : Int32) (c2 : Int32) (c3 : Int32) (c4 : Int32) (c5 : Int32) (c6 : Int32) (c7 : Int32) (c8 : Int32) (c9 : Int32) (c10 : Int32) (c11 : Int32) (c12 : Int32) (c13 : Int32) (c14 : Int32) (c15 : Int32) (h0 : Heap) (n0 : Nat) (Z0 : n0 ≤ h0.size) (EX : Exa Z h0 a1 "com/example/portcullis/portcullis/io/CdrOutput") (FB : Fld Z h0 a1 "com/example/portcullis/portcullis/io/CdrOutput" "buffer" "[B" (.ref b1)) (FS : Fld Z h0 a1 "com/example/portcullis/portcullis/io/CdrOutput" "size" "I" (.int (2 : Int32))) (VA : Arv Z h0 b1 k1 .byte (256 : Int32) [(.int c0), (.int c1), (.int c2), (.int c3), (.int c4), (.int c5), (.int c6), (.int c7), (.int c8), (.int c9), (.int c10), (.int c11), (.int c12), (.int c13), (.int c14), (.int c15)] (.int (0 : Int32))) (gA : n0 ≤ a1) (gB : n0 ≤ b1) (nab : a1 ≠ b1) :
    MetFree l own_y5 (head1 (Jvm.Cond.code own_y5 prog_14_method_14_code 3 none :: ws) own_R2_0_0_48) (fun a U => a = #[(.ref a1), (.int (8 : Int32))] ∧ Z.Warmed39 U.vm ∧ U.heap = h0) (fun _ _ _ _ _ => True) (fun _ U o U' => ∃ v L, o = .returned v ∧ Qa2_8 Z a1 b1 k1 c0 c1 c2 c3 c4 c5 c6 c7 c8 c9 c10 c11 c12 c13 c14 c15 h0 n0 v U'.heap L ∧ FrameEnd U o U' L (own_R2_0_0_48).cells (own_R2_0_0_48).slots) := by
  refine MetFree.of_bodySF (plainFor_of_name pn_0) hisR ?_
  intro p e s m args below meth c s₁ Bd hml0 hP hK
  obtain ⟨rfl, hZ, hh⟩ := hP
  have hx := Bd.exec
  have hby := Bd.bytes
  have hml : c.maxLocals = 3 := hml0
  have hown : s.vm.findClass "com/example/portcullis/portcullis/io/CdrOutput" = some m.cls := findClass_of_methodNamed Bd.named
  have hnm := (name_of_methodNamed Bd.named Bd.method).1
  have hlk : meth.locks = false := BodyLoose.notSynchronized Bd
  have hrt := Bd.returns
  have X0 : Stand p l e own_R2_0_0_48 s m #[(.ref a1), (.int (8 : Int32))] below meth c s₁ [] 0 0 := Stand.of_body Bd
  have e0 : s₁.heap = h0 := by rw [← hh, Bd.state]; rfl
  have N0 := Fr.nil n0
  refine (show Go p e below (fun s₂ o => ∃ v L, o = .returned v ∧ Qa2_8 Z a1 b1 k1 c0 c1 c2 c3 c4 c5 c6 c7 c8 c9 c10 c11 c12 c13 c14 c15 h0 n0 v s₂.heap L ∧ FrameEnd s o s₂ L 0 0) (s₁.setTop (entryFrame m #[(.ref a1), (.int (8 : Int32))] 3)) from ?_)
  rw [efa2_8]
  refine Go.st (U' := s₁.setTop (mkF m 1 #[.val (.ref a1), .val (.int (8 : Int32)), .unset] [(.ref a1)])) (fun t k => ?_) ?_
  · refine XS.aloadN X0.here hx rfl (hb hby d12_0) rfl rfl ?_
    exact k
  obtain ⟨T348, X348, e348, st348⟩ := getF X0 hx hZ hown (host := "") (Or.inl (own_w hw 17 rfl)) Via.refl e0 FS (g := (mkF m 1 #[.val (.ref a1), .val (.int (8 : Int32)), .unset] [(.ref a1)])) rfl rfl (hb hby d12_1)
  refine Go.st (U' := T348.setTop (mkF m 4 #[.val (.ref a1), .val (.int (8 : Int32)), .unset] [(.int (2 : Int32))])) (fun t k => st348 _ k) ?_
  refine Go.st (U' := T348.setTop (mkF m 12 #[.val (.ref a1), .val (.int (8 : Int32)), .val (.int (6 : Int32))] [(.int (6 : Int32)), (.ref a1)])) (fun t k => ?_) ?_
  · refine XS.ineg X348.here hx rfl (hb hby d12_4) rfl ?_
    refine XS.iloadN X348.here hx rfl (hb hby d12_5) rfl ?_
    refine XS.iconst X348.here hx rfl (hb hby d12_6) ?_
    refine XS.isub X348.here hx rfl (hb hby d12_7) rfl ?_
    refine XS.iand X348.here hx rfl (hb hby d12_8) rfl ?_
    refine XS.istoreN X348.here hx rfl (hb hby d12_9) rfl (l' := #[.val (.ref a1), .val (.int (8 : Int32)), .val (.int (6 : Int32))]) rfl ?_
    refine XS.aloadN X348.here hx rfl (hb hby d12_10) rfl rfl ?_
    refine XS.iloadN X348.here hx rfl (hb hby d12_11) rfl ?_
    exact k
  obtain ⟨cq349, q349, q349'⟩ := EX.cell
  obtain ⟨_, _, ⟨T349, L349, k349, n349⟩, -, X349, ⟨Lc349, hQ349, l349, y349, z349⟩, st349⟩ := X348.privateBack hx (y := own_y1) hown (mvT hZ (own_w hw 48 rfl)) (mvT hZ (own_w hw 49 rfl)) (own_selp (y := own_y1) (mvT hZ (own_w hw 1 rfl)) (Cond.privateMethod_at (mvP hZ (own_w hw 50 rfl) (args := #[]))) (mvT hZ (own_w hw 49 rfl)) (by decide)) (Cond.privateMethod_at (mvP hZ (own_w hw 50 rfl) (args := #[]))) (mvT hZ (own_w hw 51 rfl)) (by decide) (backOf (W := 0) (rmr l Z a0 hw [] a1 (6 : Int32) b1 k1 (2 : Int32) [(.int c0), (.int c1), (.int c2), (.int c3), (.int c4), (.int c5), (.int c6), (.int c7), (.int c8), (.int c9), (.int c10), (.int c11), (.int c12), (.int c13), (.int c14), (.int c15)] h0 n0 Z0 FB FS VA (by decide)) hZ (own_w hw 51 rfl) (own_w hw 2 rfl) (by decide) (by decide)) (g := (mkF m 12 #[.val (.ref a1), .val (.int (8 : Int32)), .val (.int (6 : Int32))] [(.int (6 : Int32)), (.ref a1)])) rfl (by rw [hml]; rfl) (Steps.refl _) (a := a1) (by rw [e348]; exact q349) q349' (argsL := [(.int (6 : Int32))]) (rest := []) (lenOf pd_0 rfl) rfl (by show 2 * 0 + _ ≤ _; exact Nat.le_of_eq rfl) (hb hby d12_12) (fun _ _ => ⟨rfl, e348, (by decide : 0 + 0 ≤ _), (by decide : 0 + 0 ≤ _)⟩)
  dsimp only [Pt.U, Pt.locs, Pt.cells, Pt.slots] at X349 l349 y349 z349 st349 hQ349
  subst l349 y349 z349
  obtain ⟨rfl, N349q, e349⟩ := hQ349
  have N349 := Fr.app N0 N349q
  refine Go.tr (U' := T349.setTop (mkF m 15 #[.val (.ref a1), .val (.int (8 : Int32)), .val (.int (6 : Int32))] [])) st349 ?_
  refine Go.st (U' := T349.setTop (mkF m 16 #[.val (.ref a1), .val (.int (8 : Int32)), .val (.int (6 : Int32))] [(.ref a1)])) (fun t k => ?_) ?_
  · refine XS.aloadN X349.here hx rfl (hb hby d12_15) rfl rfl ?_
    exact k
  obtain ⟨T350, X350, e350, st350⟩ := getF X349 hx hZ hown (host := "") (Or.inl (own_w hw 10 rfl)) Via.refl e349 FB (g := (mkF m 16 #[.val (.ref a1), .val (.int (8 : Int32)), .val (.int (6 : Int32))] [(.ref a1)])) rfl rfl (hb hby d12_16)
  refine Go.st (U' := T350.setTop (mkF m 19 #[.val (.ref a1), .val (.int (8 : Int32)), .val (.int (6 : Int32))] [(.ref b1)])) (fun t k => st350 _ k) ?_
  refine Go.st (U' := T350.setTop (mkF m 20 #[.val (.ref a1), .val (.int (8 : Int32)), .val (.int (6 : Int32))] [(.ref a1), (.ref b1)])) (fun t k => ?_) ?_
  · refine XS.aloadN X350.here hx rfl (hb hby d12_19) rfl rfl ?_
    exact k
  obtain ⟨T351, X351, e351, st351⟩ := getF X350 hx hZ hown (host := "") (Or.inl (own_w hw 17 rfl)) Via.refl e350 FS (g := (mkF m 20 #[.val (.ref a1), .val (.int (8 : Int32)), .val (.int (6 : Int32))] [(.ref a1), (.ref b1)])) rfl rfl (hb hby d12_20)
  refine Go.st (U' := T351.setTop (mkF m 23 #[.val (.ref a1), .val (.int (8 : Int32)), .val (.int (6 : Int32))] [(.int (2 : Int32)), (.ref b1)])) (fun t k => st351 _ k) ?_
  refine Go.st (U' := T351.setTop (mkF m 24 #[.val (.ref a1), .val (.int (8 : Int32)), .val (.int (6 : Int32))] [(.ref a1), (.int (2 : Int32)), (.ref b1)])) (fun t k => ?_) ?_
  · refine XS.aloadN X351.here hx rfl (hb hby d12_23) rfl rfl ?_
    exact k
  obtain ⟨T352, X352, e352, st352⟩ := getF X351 hx hZ hown (host := "") (Or.inl (own_w hw 17 rfl)) Via.refl e351 FS (g := (mkF m 24 #[.val (.ref a1), .val (.int (8 : Int32)), .val (.int (6 : Int32))] [(.ref a1), (.int (2 : Int32)), (.ref b1)])) rfl rfl (hb hby d12_24)
  refine Go.st (U' := T352.setTop (mkF m 27 #[.val (.ref a1), .val (.int (8 : Int32)), .val (.int (6 : Int32))] [(.int (2 : Int32)), (.int (2 : Int32)), (.ref b1)])) (fun t k => st352 _ k) ?_
  refine Go.st (U' := T352.setTop (mkF m 30 #[.val (.ref a1), .val (.int (8 : Int32)), .val (.int (6 : Int32))] [(.int (0 : Int32)), (.int (8 : Int32)), (.int (2 : Int32)), (.ref b1)])) (fun t k => ?_) ?_
  · refine XS.iloadN X352.here hx rfl (hb hby d12_27) rfl ?_
    refine XS.iadd X352.here hx rfl (hb hby d12_28) rfl ?_
    refine XS.iconst X352.here hx rfl (hb hby d12_29) ?_
    exact k
  obtain ⟨_, _, ⟨T353, L353, k353, n353⟩, -, X353, ⟨Lc353, hQ353, l353, y353, z353⟩, st353⟩ := Jvm.LawKit.callS X352 hx (y := own_y4) hown (mvT hZ (own_w hw 62 rfl)) (mvT hZ (own_w hw 63 rfl)) (mvT hZ (own_w hw 21 rfl)) (mvT hZ (own_w hw 64 rfl)) (by decide) (backOf (W := 0) (rmf2_8 l Z a0 hw [] b1 k1 c0 c1 c2 c3 c4 c5 c6 c7 c8 c9 c10 c11 c12 c13 c14 c15 h0 n0 Z0 VA gB) hZ (own_w hw 64 rfl) (own_w hw 21 rfl) (by decide) (by decide)) (g := (mkF m 30 #[.val (.ref a1), .val (.int (8 : Int32)), .val (.int (6 : Int32))] [(.int (0 : Int32)), (.int (8 : Int32)), (.int (2 : Int32)), (.ref b1)])) rfl (by rw [hml]; rfl) (argsL := [(.ref b1), (.int (2 : Int32)), (.int (8 : Int32)), (.int (0 : Int32))]) (rest := []) (lenOf pd_2 rfl) rfl (by show 2 * 0 + _ ≤ _; exact Nat.le_of_eq rfl) (hb hby d12_30) (fun _ _ => ⟨rfl, e352, (by decide : 0 + 0 ≤ _), (by decide : 0 + 0 ≤ _)⟩)
  dsimp only [Pt.U, Pt.locs, Pt.cells, Pt.slots] at X353 l353 y353 z353 st353 hQ353
  subst l353 y353 z353
  obtain ⟨rfl, N353q, K353, P353_0⟩ := hQ353
  have KK353 : Keep h0 T353.heap [a1, b1] := (Keep.refl h0 [a1, b1]).trans K353 (allS (Or.inl (List.mem_of_getElem? (i := 1) rfl)) all0)
  have EX_353 := EX.keep K353
  have FB_353 := FB.keep K353 (ninS nab nin0)
  have FS_353 := FS.keep K353 (ninS nab nin0)
  have sz353 : n0 ≤ T353.heap.size := Nat.le_trans Z0 K353.1
  have N353 := Fr.app N349 N353q
  refine Go.st (U' := T353.setTop (mkF m 33 #[.val (.ref a1), .val (.int (8 : Int32)), .val (.int (6 : Int32))] [])) (fun t k => st353 _ k) ?_
  refine Go.st (U' := T353.setTop (mkF m 35 #[.val (.ref a1), .val (.int (8 : Int32)), .val (.int (6 : Int32))] [(.ref a1), (.ref a1)])) (fun t k => ?_) ?_
  · refine XS.aloadN X353.here hx rfl (hb hby d12_33) rfl rfl ?_
    refine XS.dup X353.here hx rfl (hb hby d12_34) rfl rfl ?_
    exact k
  obtain ⟨T354, X354, e354, st354⟩ := getF X353 hx hZ hown (host := "") (Or.inl (own_w hw 17 rfl)) Via.refl rfl FS_353 (g := (mkF m 35 #[.val (.ref a1), .val (.int (8 : Int32)), .val (.int (6 : Int32))] [(.ref a1), (.ref a1)])) rfl rfl (hb hby d12_35)
  refine Go.st (U' := T354.setTop (mkF m 38 #[.val (.ref a1), .val (.int (8 : Int32)), .val (.int (6 : Int32))] [(.int (2 : Int32)), (.ref a1)])) (fun t k => st354 _ k) ?_
  refine Go.st (U' := T354.setTop (mkF m 40 #[.val (.ref a1), .val (.int (8 : Int32)), .val (.int (6 : Int32))] [(.int (8 : Int32)), (.ref a1)])) (fun t k => ?_) ?_
  · refine XS.iloadN X354.here hx rfl (hb hby d12_38) rfl ?_
    refine XS.iadd X354.here hx rfl (hb hby d12_39) rfl ?_
    exact k
  obtain ⟨T355, h355, X355, e355, W355, st355⟩ := putF X354 hx hZ hown (host := "") (Or.inl (own_w hw 17 rfl)) Via.refl e354 FS_353 EX_353 (Or.inl (own_w hw 18 rfl)) (own_w hw 1 rfl) (ty := .int) (by decide) rfl rfl (g := (mkF m 40 #[.val (.ref a1), .val (.int (8 : Int32)), .val (.int (6 : Int32))] [(.int (8 : Int32)), (.ref a1)])) rfl rfl (hb hby d12_40)
  have F355 := FS_353.same W355
  have EX_355 := EX_353.wr W355
  have FB_355 := FB_353.other W355 (Or.inr (slot_ne (Or.inl (own_w hw 11 rfl)) (Or.inl (own_w hw 18 rfl)) (by decide) (t := (.array .byte)) (t' := .int) (by decide) (by decide)))
  have P353_0_355 := P353_0.other W355 (Ne.symm nab)
  have N355 := Fr.snoc X355 N353 gA
  have KK355 : Keep h0 h355 [a1, b1] := KK353.wr W355 (Or.inl (List.mem_of_getElem? (i := 0) rfl))
  have sz355 : n0 ≤ h355.size := Nat.le_trans sz353 (Nat.le_of_eq W355.size.symm)
  refine Go.st (U' := T355.setTop (mkF m 43 #[.val (.ref a1), .val (.int (8 : Int32)), .val (.int (6 : Int32))] [])) (fun t k => st355 _ k) ?_
  refine own_ret (Q := Qa2_8 Z a1 b1 k1 c0 c1 c2 c3 c4 c5 c6 c7 c8 c9 c10 c11 c12 c13 c14 c15 h0 n0) (v := none) X355 hlk (fun _ => rfl) (by decide) (by decide) ?_ (fun fs hr => X355.returnOut hx hrt (hb hby d12_43) hr)
  rw [e355]
  exact ⟨rfl, N355, KK355, EX_355, FB_355, F355, P353_0_355⟩
theorem efl2 (m : MethodId) (a1 : Addr) (q2 : Int64) : entryFrame m #[(.ref a1), (.long q2)] 3 = mkF m 0 #[.val (.ref a1), .val (.long q2), .second] [] := by first | (simp [entryFrame, mkF, argsToLocals, Value.category]; done) | rfl
def Ql2 (Z : State) (a1 : Addr) (b1 : Addr) (k1 : ClassId) (c0 : Int32) (c1 : Int32) (c2 : Int32) (c3 : Int32) (c4 : Int32) (c5 : Int32) (c6 : Int32) (c7 : Int32) (c8 : Int32) (c9 : Int32) (c10 : Int32) (c11 : Int32) (c12 : Int32) (c13 : Int32) (c14 : Int32) (c15 : Int32) (q2 : Int64) (h0 : Heap) (n0 : Nat) (v : Option Value) (h : Heap) (L : List Loc) : Prop := v = none ∧ Fr n0 L ∧ Keep h0 h [a1, b1] ∧ Exa Z h a1 "com/example/portcullis/portcullis/io/CdrOutput" ∧ Fld Z h a1 "com/example/portcullis/portcullis/io/CdrOutput" "buffer" "[B" (.ref b1) ∧ Fld Z h a1 "com/example/portcullis/portcullis/io/CdrOutput" "size" "I" (.int (16 : Int32)) ∧ Arv Z h b1 k1 .byte (256 : Int32) [(.int c0), (.int c1), (.int (0 : Int32)), (.int (0 : Int32)), (.int (0 : Int32)), (.int (0 : Int32)), (.int (0 : Int32)), (.int (0 : Int32)), (.int (own_b3 (own_hi q2))), (.int (own_b2 (own_hi q2))), (.int (own_b1 (own_hi q2))), (.int (own_b0 (own_hi q2))), (.int (own_b3 (q2.toInt32))), (.int (own_b2 (q2.toInt32))), (.int (own_b1 (q2.toInt32))), (.int (own_b0 (q2.toInt32)))] (.int (0 : Int32))
set_option maxRecDepth 65536 in
set_option maxHeartbeats 40000000 in
theorem rml2 (l : Launch) (Z : State) (a0 : Array Value) (hw : ∀ d ∈ tables_1, d.before a0 Z = true) (ws : List Jvm.Cond) (a1 : Addr) (b1 : Addr) (k1 : ClassId) (c0 : Int32) (c1 : Int32) (c2 : Int32) (c3 : Int32) (c4 : Int32) (c5 : Int32) (c6 : Int32) (c7 : Int32) (c8 : Int32) (c9 : Int32) (c10 : Int32) (c11 : Int32) (c12 : Int32) (c13 : Int32) (c14 : Int32) (c15 : Int32) (q2 : Int64) (h0 : Heap) (n0 : Nat) (Z0 : n0 ≤ h0.size) (EX : Exa Z h0 a1 "com/example/portcullis/portcullis/io/CdrOutput") (FB : Fld Z h0 a1 "com/example/portcullis/portcullis/io/CdrOutput" "buffer" "[B" (.ref b1)) (FS : Fld Z h0 a1 "com/example/portcullis/portcullis/io/CdrOutput" "size" "I" (.int (2 : Int32))) (VA : Arv Z h0 b1 k1 .byte (256 : Int32) [(.int c0), (.int c1), (.int c2), (.int c3), (.int c4), (.int c5), (.int c6), (.int c7), (.int c8), (.int c9), (.int c10), (.int c11), (.int c12), (.int c13), (.int c14), (.int c15)] (.int (0 : Int32))) (gA : n0 ≤ a1) (gB : n0 ≤ b1) (nab : a1 ≠ b1) :
    MetFree l own_y9 (head1 (Jvm.Cond.code own_y9 prog_14_method_6_code 3 none :: ws) own_R3_0_0_80) (fun a U => a = #[(.ref a1), (.long q2)] ∧ Z.Warmed39 U.vm ∧ U.heap = h0) (fun _ _ _ _ _ => True) (fun _ U o U' => ∃ v L, o = .returned v ∧ Ql2 Z a1 b1 k1 c0 c1 c2 c3 c4 c5 c6 c7 c8 c9 c10 c11 c12 c13 c14 c15 q2 h0 n0 v U'.heap L ∧ FrameEnd U o U' L (own_R3_0_0_80).cells (own_R3_0_0_80).slots) := by
  refine MetFree.of_bodySF (plainFor_of_name pn_0) hisR ?_
  intro p e s m args below meth c s₁ Bd hml0 hP hK
  obtain ⟨rfl, hZ, hh⟩ := hP
  have hx := Bd.exec
  have hby := Bd.bytes
  have hml : c.maxLocals = 3 := hml0
  have hown : s.vm.findClass "com/example/portcullis/portcullis/io/CdrOutput" = some m.cls := findClass_of_methodNamed Bd.named
  have hnm := (name_of_methodNamed Bd.named Bd.method).1
  have hlk : meth.locks = false := BodyLoose.notSynchronized Bd
  have hrt := Bd.returns
  have X0 : Stand p l e own_R3_0_0_80 s m #[(.ref a1), (.long q2)] below meth c s₁ [] 0 0 := Stand.of_body Bd
  have e0 : s₁.heap = h0 := by rw [← hh, Bd.state]; rfl
  have N0 := Fr.nil n0
  refine (show Go p e below (fun s₂ o => ∃ v L, o = .returned v ∧ Ql2 Z a1 b1 k1 c0 c1 c2 c3 c4 c5 c6 c7 c8 c9 c10 c11 c12 c13 c14 c15 q2 h0 n0 v s₂.heap L ∧ FrameEnd s o s₂ L 0 0) (s₁.setTop (entryFrame m #[(.ref a1), (.long q2)] 3)) from ?_)
  rw [efl2]
  refine Go.st (U' := s₁.setTop (mkF m 3 #[.val (.ref a1), .val (.long q2), .second] [(.int (8 : Int32)), (.ref a1)])) (fun t k => ?_) ?_
  · refine XS.aloadN X0.here hx rfl (hb hby d15_0) rfl rfl ?_
    refine XS.bipush X0.here hx rfl (hb hby d15_1) ?_
    exact k
  obtain ⟨cq356, kq356, q356a, q356b, q356c⟩ := isOf hZ e0 EX
  obtain ⟨_, _, ⟨T356, L356, k356, n356⟩, -, X356, ⟨Lc356, hQ356, l356, y356, z356⟩, st356⟩ := X0.virtualBack hx (y := own_y5) (z := own_y5) hown (mvT hZ (own_w hw 57 rfl)) (mvT hZ (own_w hw 58 rfl)) (notFace_of_selects (args := #[]) (mvT hZ (own_w hw 60 rfl))) (mvT hZ (own_w hw 60 rfl)) (mvT hZ (own_w hw 59 rfl)) (by decide) (backOf (W := 0) (rma2_8 l Z a0 hw [] a1 b1 k1 c0 c1 c2 c3 c4 c5 c6 c7 c8 c9 c10 c11 c12 c13 c14 c15 h0 n0 Z0 EX FB FS VA gA gB nab) hZ (own_w hw 61 rfl) (own_w hw 2 rfl) (by decide) (by decide)) q356a q356c (g := (mkF m 3 #[.val (.ref a1), .val (.long q2), .second] [(.int (8 : Int32)), (.ref a1)])) rfl (by rw [hml]; rfl) (Steps.refl _) (argsL := [(.int (8 : Int32))]) (rest := []) (lenOf pd_0 rfl) rfl (by show 2 * 0 + _ ≤ _; exact Nat.le_of_eq rfl) (hb hby d15_3) (fun _ _ => ⟨rfl, e0, (by decide : 0 + 0 ≤ _), (by decide : 0 + 0 ≤ _)⟩)
  dsimp only [Pt.U, Pt.locs, Pt.cells, Pt.slots] at X356 l356 y356 z356 st356 hQ356
  subst l356 y356 z356
  obtain ⟨rfl, N356q, K356, PE356, PV356, PZ356, PA356⟩ := hQ356
  have KK356 : Keep h0 T356.heap [a1, b1] := (Keep.refl h0 [a1, b1]).trans K356 (allS (Or.inl (List.mem_of_getElem? (i := 0) rfl)) (allS (Or.inl (List.mem_of_getElem? (i := 1) rfl)) all0))
  have EX_356 := EX.keep K356
  have sz356 : n0 ≤ T356.heap.size := Nat.le_trans Z0 K356.1
  have N356 := Fr.app N0 N356q
  refine Go.tr (U' := T356.setTop (mkF m 6 #[.val (.ref a1), .val (.long q2), .second] [])) st356 ?_
  refine Go.st (U' := T356.setTop (mkF m 9 #[.val (.ref a1), .val (.long q2), .second] [(.int (8 : Int32)), (.ref a1)])) (fun t k => ?_) ?_
  · refine XS.aloadN X356.here hx rfl (hb hby d15_6) rfl rfl ?_
    refine XS.bipush X356.here hx rfl (hb hby d15_7) ?_
    exact k
  obtain ⟨cq357, q357, q357'⟩ := PE356.cell
  obtain ⟨_, _, ⟨T357, L357, k357, n357⟩, -, X357, ⟨Lc357, hQ357, l357, y357, z357⟩, st357⟩ := X356.privateBack hx (y := own_y1) hown (mvT hZ (own_w hw 48 rfl)) (mvT hZ (own_w hw 49 rfl)) (own_selp (y := own_y1) (mvT hZ (own_w hw 1 rfl)) (Cond.privateMethod_at (mvP hZ (own_w hw 50 rfl) (args := #[]))) (mvT hZ (own_w hw 49 rfl)) (by decide)) (Cond.privateMethod_at (mvP hZ (own_w hw 50 rfl) (args := #[]))) (mvT hZ (own_w hw 51 rfl)) (by decide) (backOf (W := 0) (rmr l Z a0 hw [] a1 (8 : Int32) b1 k1 (8 : Int32) [(.int c0), (.int c1), (.int (0 : Int32)), (.int (0 : Int32)), (.int (0 : Int32)), (.int (0 : Int32)), (.int (0 : Int32)), (.int (0 : Int32)), (.int c8), (.int c9), (.int c10), (.int c11), (.int c12), (.int c13), (.int c14), (.int c15)] T356.heap n0 sz356 PV356 PZ356 PA356 (by decide)) hZ (own_w hw 51 rfl) (own_w hw 2 rfl) (by decide) (by decide)) (g := (mkF m 9 #[.val (.ref a1), .val (.long q2), .second] [(.int (8 : Int32)), (.ref a1)])) rfl (by rw [hml]; rfl) (Steps.refl _) (a := a1) q357 q357' (argsL := [(.int (8 : Int32))]) (rest := []) (lenOf pd_0 rfl) rfl (by show 2 * 0 + _ ≤ _; exact Nat.le_of_eq rfl) (hb hby d15_9) (fun _ _ => ⟨rfl, rfl, (by decide : 0 + 0 ≤ _), (by decide : 0 + 0 ≤ _)⟩)
  dsimp only [Pt.U, Pt.locs, Pt.cells, Pt.slots] at X357 l357 y357 z357 st357 hQ357
  subst l357 y357 z357
  obtain ⟨rfl, N357q, e357⟩ := hQ357
  have N357 := Fr.app N356 N357q
  refine Go.tr (U' := T357.setTop (mkF m 12 #[.val (.ref a1), .val (.long q2), .second] [])) st357 ?_
  refine Go.st (U' := T357.setTop (mkF m 14 #[.val (.ref a1), .val (.long q2), .second] [(.ref a1), (.ref a1)])) (fun t k => ?_) ?_
  · refine XS.aloadN X357.here hx rfl (hb hby d15_12) rfl rfl ?_
    refine XS.aloadN X357.here hx rfl (hb hby d15_13) rfl rfl ?_
    exact k
  obtain ⟨T358, X358, e358, st358⟩ := getF X357 hx hZ hown (host := "") (Or.inl (own_w hw 17 rfl)) Via.refl e357 PZ356 (g := (mkF m 14 #[.val (.ref a1), .val (.long q2), .second] [(.ref a1), (.ref a1)])) rfl rfl (hb hby d15_14)
  refine Go.st (U' := T358.setTop (mkF m 17 #[.val (.ref a1), .val (.long q2), .second] [(.int (8 : Int32)), (.ref a1)])) (fun t k => st358 _ k) ?_
  refine Go.st (U' := T358.setTop (mkF m 22 #[.val (.ref a1), .val (.long q2), .second] [(.int (((q2.toUInt64 >>> ((32 : Int32) &&& 0x3f).toInt64.toUInt64).toInt64).toInt32)), (.int (8 : Int32)), (.ref a1)])) (fun t k => ?_) ?_
  · refine XS.lloadN X358.here hx rfl (hb hby d15_17) rfl ?_
    refine XS.bipush X358.here hx rfl (hb hby d15_18) ?_
    refine XS.lushr X358.here hx rfl (hb hby d15_20) rfl ?_
    refine XS.l2i X358.here hx rfl (hb hby d15_21) rfl ?_
    exact k
  obtain ⟨cq359, q359, q359'⟩ := PE356.cell
  obtain ⟨_, _, ⟨T359, L359, k359, n359⟩, -, X359, ⟨Lc359, hQ359, l359, y359, z359⟩, st359⟩ := X358.privateBack hx (y := own_y7) hown (mvT hZ (own_w hw 73 rfl)) (mvT hZ (own_w hw 74 rfl)) (own_selp (y := own_y7) (mvT hZ (own_w hw 1 rfl)) (Cond.privateMethod_at (mvP hZ (own_w hw 75 rfl) (args := #[]))) (mvT hZ (own_w hw 74 rfl)) (by decide)) (Cond.privateMethod_at (mvP hZ (own_w hw 75 rfl) (args := #[]))) (mvT hZ (own_w hw 76 rfl)) (by decide) (backOf (W := 0) (rmp8_8 l Z a0 hw [] a1 b1 k1 c0 c1 (0 : Int32) (0 : Int32) (0 : Int32) (0 : Int32) (0 : Int32) (0 : Int32) c8 c9 c10 c11 c12 c13 c14 c15 (((q2.toUInt64 >>> ((32 : Int32) &&& 0x3f).toInt64.toUInt64).toInt64).toInt32) T356.heap n0 sz356 PE356 PV356 PZ356 PA356 gA gB nab) hZ (own_w hw 76 rfl) (own_w hw 2 rfl) (by decide) (by decide)) (g := (mkF m 22 #[.val (.ref a1), .val (.long q2), .second] [(.int (((q2.toUInt64 >>> ((32 : Int32) &&& 0x3f).toInt64.toUInt64).toInt64).toInt32)), (.int (8 : Int32)), (.ref a1)])) rfl (by rw [hml]; rfl) (Steps.refl _) (a := a1) (by rw [e358]; exact q359) q359' (argsL := [(.int (8 : Int32)), (.int (((q2.toUInt64 >>> ((32 : Int32) &&& 0x3f).toInt64.toUInt64).toInt64).toInt32))]) (rest := []) (lenOf pd_3 rfl) rfl (by show 2 * 0 + _ ≤ _; exact Nat.le_of_eq rfl) (hb hby d15_22) (fun _ _ => ⟨rfl, e358, (by decide : 0 + 0 ≤ _), (by decide : 0 + 0 ≤ _)⟩)
  dsimp only [Pt.U, Pt.locs, Pt.cells, Pt.slots] at X359 l359 y359 z359 st359 hQ359
  subst l359 y359 z359
  obtain ⟨rfl, N359q, K359, PE359, PV359, PZ359, PA359⟩ := hQ359
  have KK359 : Keep h0 T359.heap [a1, b1] := KK356.trans K359 (allS (Or.inl (List.mem_of_getElem? (i := 0) rfl)) (allS (Or.inl (List.mem_of_getElem? (i := 1) rfl)) all0))
  have PE356_359 := PE356.keep K359
  have sz359 : n0 ≤ T359.heap.size := Nat.le_trans sz356 K359.1
  have N359 := Fr.app N357 N359q
  refine Go.tr (U' := T359.setTop (mkF m 25 #[.val (.ref a1), .val (.long q2), .second] [])) st359 ?_
  refine Go.st (U' := T359.setTop (mkF m 27 #[.val (.ref a1), .val (.long q2), .second] [(.ref a1), (.ref a1)])) (fun t k => ?_) ?_
  · refine XS.aloadN X359.here hx rfl (hb hby d15_25) rfl rfl ?_
    refine XS.aloadN X359.here hx rfl (hb hby d15_26) rfl rfl ?_
    exact k
  obtain ⟨T360, X360, e360, st360⟩ := getF X359 hx hZ hown (host := "") (Or.inl (own_w hw 17 rfl)) Via.refl rfl PZ359 (g := (mkF m 27 #[.val (.ref a1), .val (.long q2), .second] [(.ref a1), (.ref a1)])) rfl rfl (hb hby d15_27)
  refine Go.st (U' := T360.setTop (mkF m 30 #[.val (.ref a1), .val (.long q2), .second] [(.int (8 : Int32)), (.ref a1)])) (fun t k => st360 _ k) ?_
  refine Go.st (U' := T360.setTop (mkF m 34 #[.val (.ref a1), .val (.long q2), .second] [(.int (q2.toInt32)), (.int (12 : Int32)), (.ref a1)])) (fun t k => ?_) ?_
  · refine XS.iconst X360.here hx rfl (hb hby d15_30) ?_
    refine XS.iadd X360.here hx rfl (hb hby d15_31) rfl ?_
    refine XS.lloadN X360.here hx rfl (hb hby d15_32) rfl ?_
    refine XS.l2i X360.here hx rfl (hb hby d15_33) rfl ?_
    exact k
  obtain ⟨cq361, q361, q361'⟩ := PE359.cell
  obtain ⟨_, _, ⟨T361, L361, k361, n361⟩, -, X361, ⟨Lc361, hQ361, l361, y361, z361⟩, st361⟩ := X360.privateBack hx (y := own_y7) hown (mvT hZ (own_w hw 73 rfl)) (mvT hZ (own_w hw 74 rfl)) (own_selp (y := own_y7) (mvT hZ (own_w hw 1 rfl)) (Cond.privateMethod_at (mvP hZ (own_w hw 75 rfl) (args := #[]))) (mvT hZ (own_w hw 74 rfl)) (by decide)) (Cond.privateMethod_at (mvP hZ (own_w hw 75 rfl) (args := #[]))) (mvT hZ (own_w hw 76 rfl)) (by decide) (backOf (W := 0) (rmp8_12 l Z a0 hw [] a1 b1 k1 c0 c1 (0 : Int32) (0 : Int32) (0 : Int32) (0 : Int32) (0 : Int32) (0 : Int32) (own_b3 (((q2.toUInt64 >>> ((32 : Int32) &&& 0x3f).toInt64.toUInt64).toInt64).toInt32)) (own_b2 (((q2.toUInt64 >>> ((32 : Int32) &&& 0x3f).toInt64.toUInt64).toInt64).toInt32)) (own_b1 (((q2.toUInt64 >>> ((32 : Int32) &&& 0x3f).toInt64.toUInt64).toInt64).toInt32)) (own_b0 (((q2.toUInt64 >>> ((32 : Int32) &&& 0x3f).toInt64.toUInt64).toInt64).toInt32)) c12 c13 c14 c15 (q2.toInt32) T359.heap n0 sz359 PE359 PV359 PZ359 PA359 gA gB nab) hZ (own_w hw 76 rfl) (own_w hw 2 rfl) (by decide) (by decide)) (g := (mkF m 34 #[.val (.ref a1), .val (.long q2), .second] [(.int (q2.toInt32)), (.int (12 : Int32)), (.ref a1)])) rfl (by rw [hml]; rfl) (Steps.refl _) (a := a1) (by rw [e360]; exact q361) q361' (argsL := [(.int (12 : Int32)), (.int (q2.toInt32))]) (rest := []) (lenOf pd_3 rfl) rfl (by show 2 * 0 + _ ≤ _; exact Nat.le_of_eq rfl) (hb hby d15_34) (fun _ _ => ⟨rfl, e360, (by decide : 0 + 0 ≤ _), (by decide : 0 + 0 ≤ _)⟩)
  dsimp only [Pt.U, Pt.locs, Pt.cells, Pt.slots] at X361 l361 y361 z361 st361 hQ361
  subst l361 y361 z361
  obtain ⟨rfl, N361q, K361, PE361, PV361, PZ361, PA361⟩ := hQ361
  have KK361 : Keep h0 T361.heap [a1, b1] := KK359.trans K361 (allS (Or.inl (List.mem_of_getElem? (i := 0) rfl)) (allS (Or.inl (List.mem_of_getElem? (i := 1) rfl)) all0))
  have PE359_361 := PE359.keep K361
  have sz361 : n0 ≤ T361.heap.size := Nat.le_trans sz359 K361.1
  have N361 := Fr.app N359 N361q
  refine Go.tr (U' := T361.setTop (mkF m 37 #[.val (.ref a1), .val (.long q2), .second] [])) st361 ?_
  refine Go.st (U' := T361.setTop (mkF m 39 #[.val (.ref a1), .val (.long q2), .second] [(.ref a1), (.ref a1)])) (fun t k => ?_) ?_
  · refine XS.aloadN X361.here hx rfl (hb hby d15_37) rfl rfl ?_
    refine XS.dup X361.here hx rfl (hb hby d15_38) rfl rfl ?_
    exact k
  obtain ⟨T362, X362, e362, st362⟩ := getF X361 hx hZ hown (host := "") (Or.inl (own_w hw 17 rfl)) Via.refl rfl PZ361 (g := (mkF m 39 #[.val (.ref a1), .val (.long q2), .second] [(.ref a1), (.ref a1)])) rfl rfl (hb hby d15_39)
  refine Go.st (U' := T362.setTop (mkF m 42 #[.val (.ref a1), .val (.long q2), .second] [(.int (8 : Int32)), (.ref a1)])) (fun t k => st362 _ k) ?_
  refine Go.st (U' := T362.setTop (mkF m 45 #[.val (.ref a1), .val (.long q2), .second] [(.int (16 : Int32)), (.ref a1)])) (fun t k => ?_) ?_
  · refine XS.bipush X362.here hx rfl (hb hby d15_42) ?_
    refine XS.iadd X362.here hx rfl (hb hby d15_44) rfl ?_
    exact k
  obtain ⟨T363, h363, X363, e363, W363, st363⟩ := putF X362 hx hZ hown (host := "") (Or.inl (own_w hw 17 rfl)) Via.refl e362 PZ361 PE361 (Or.inl (own_w hw 18 rfl)) (own_w hw 1 rfl) (ty := .int) (by decide) rfl rfl (g := (mkF m 45 #[.val (.ref a1), .val (.long q2), .second] [(.int (16 : Int32)), (.ref a1)])) rfl rfl (hb hby d15_45)
  have F363 := PZ361.same W363
  have PE361_363 := PE361.wr W363
  have PV361_363 := PV361.other W363 (Or.inr (slot_ne (Or.inl (own_w hw 11 rfl)) (Or.inl (own_w hw 18 rfl)) (by decide) (t := (.array .byte)) (t' := .int) (by decide) (by decide)))
  have PA361_363 := PA361.other W363 (Ne.symm nab)
  have N363 := Fr.snoc X363 N361 gA
  have KK363 : Keep h0 h363 [a1, b1] := KK361.wr W363 (Or.inl (List.mem_of_getElem? (i := 0) rfl))
  have sz363 : n0 ≤ h363.size := Nat.le_trans sz361 (Nat.le_of_eq W363.size.symm)
  refine Go.st (U' := T363.setTop (mkF m 48 #[.val (.ref a1), .val (.long q2), .second] [])) (fun t k => st363 _ k) ?_
  refine own_ret (Q := Ql2 Z a1 b1 k1 c0 c1 c2 c3 c4 c5 c6 c7 c8 c9 c10 c11 c12 c13 c14 c15 q2 h0 n0) (v := none) X363 hlk (fun _ => rfl) (by decide) (by decide) ?_ (fun fs hr => X363.returnOut hx hrt (hb hby d15_48) hr)
  rw [e363]
  exact ⟨rfl, N363, KK363, PE361_363, PV361_363, F363, PA361_363⟩
theorem eff4_8 (m : MethodId) (a1 : Addr) : entryFrame m #[(.ref a1), (.int (4 : Int32)), (.int (8 : Int32)), (.int (0 : Int32))] 5 = mkF m 0 #[.val (.ref a1), .val (.int (4 : Int32)), .val (.int (8 : Int32)), .val (.int (0 : Int32)), .unset] [] := by first | (simp [entryFrame, mkF, argsToLocals, Value.category]; done) | rfl
def Qf4_8 (Z : State) (a1 : Addr) (k1 : ClassId) (c0 : Int32) (c1 : Int32) (c2 : Int32) (c3 : Int32) (c4 : Int32) (c5 : Int32) (c6 : Int32) (c7 : Int32) (c8 : Int32) (c9 : Int32) (c10 : Int32) (c11 : Int32) (c12 : Int32) (c13 : Int32) (c14 : Int32) (c15 : Int32) (h0 : Heap) (n0 : Nat) (v : Option Value) (h : Heap) (L : List Loc) : Prop := v = none ∧ Fr n0 L ∧ Keep h0 h [a1] ∧ Arv Z h a1 k1 .byte (256 : Int32) [(.int c0), (.int c1), (.int c2), (.int c3), (.int (0 : Int32)), (.int (0 : Int32)), (.int (0 : Int32)), (.int (0 : Int32)), (.int c8), (.int c9), (.int c10), (.int c11), (.int c12), (.int c13), (.int c14), (.int c15)] (.int (0 : Int32))
set_option maxRecDepth 65536 in
set_option maxHeartbeats 40000000 in
theorem rmf4_8 (l : Launch) (Z : State) (a0 : Array Value) (hw : ∀ d ∈ tables_1, d.before a0 Z = true) (ws : List Jvm.Cond) (a1 : Addr) (k1 : ClassId) (c0 : Int32) (c1 : Int32) (c2 : Int32) (c3 : Int32) (c4 : Int32) (c5 : Int32) (c6 : Int32) (c7 : Int32) (c8 : Int32) (c9 : Int32) (c10 : Int32) (c11 : Int32) (c12 : Int32) (c13 : Int32) (c14 : Int32) (c15 : Int32) (h0 : Heap) (n0 : Nat) (Z0 : n0 ≤ h0.size) (VA : Arv Z h0 a1 k1 .byte (256 : Int32) [(.int c0), (.int c1), (.int c2), (.int c3), (.int c4), (.int c5), (.int c6), (.int c7), (.int c8), (.int c9), (.int c10), (.int c11), (.int c12), (.int c13), (.int c14), (.int c15)] (.int (0 : Int32))) (gA : n0 ≤ a1) :
    MetFree l own_y4 (head1 (Jvm.Cond.code own_y4 jdk_65_method_110_code 5 none :: ws) own_R1_0_0_16) (fun a U => a = #[(.ref a1), (.int (4 : Int32)), (.int (8 : Int32)), (.int (0 : Int32))] ∧ Z.Warmed39 U.vm ∧ U.heap = h0) (fun _ _ _ _ _ => True) (fun _ U o U' => ∃ v L, o = .returned v ∧ Qf4_8 Z a1 k1 c0 c1 c2 c3 c4 c5 c6 c7 c8 c9 c10 c11 c12 c13 c14 c15 h0 n0 v U'.heap L ∧ FrameEnd U o U' L (own_R1_0_0_16).cells (own_R1_0_0_16).slots) := by
  refine MetFree.of_bodySF (plainFor_of_name pn_4) hisR ?_
  intro p e s m args below meth c s₁ Bd hml0 hP hK
  obtain ⟨rfl, hZ, hh⟩ := hP
  have hx := Bd.exec
  have hby := Bd.bytes
  have hml : c.maxLocals = 5 := hml0
  have hown : s.vm.findClass "java/util/Arrays" = some m.cls := findClass_of_methodNamed Bd.named
  have hnm := (name_of_methodNamed Bd.named Bd.method).1
  have hlk : meth.locks = false := BodyLoose.notSynchronized Bd
  have hrt := Bd.returns
  have X0 : Stand p l e own_R1_0_0_16 s m #[(.ref a1), (.int (4 : Int32)), (.int (8 : Int32)), (.int (0 : Int32))] below meth c s₁ [] 0 0 := Stand.of_body Bd
  have e0 : s₁.heap = h0 := by rw [← hh, Bd.state]; rfl
  have N0 := Fr.nil n0
  refine (show Go p e below (fun s₂ o => ∃ v L, o = .returned v ∧ Qf4_8 Z a1 k1 c0 c1 c2 c3 c4 c5 c6 c7 c8 c9 c10 c11 c12 c13 c14 c15 h0 n0 v s₂.heap L ∧ FrameEnd s o s₂ L 0 0) (s₁.setTop (entryFrame m #[(.ref a1), (.int (4 : Int32)), (.int (8 : Int32)), (.int (0 : Int32))] 5)) from ?_)
  rw [eff4_8]
  obtain ⟨cl364, Ar364, q364, S364, N364, H364, G364⟩ := id VA
  refine Go.st (U' := s₁.setTop (mkF m 4 #[.val (.ref a1), .val (.int (4 : Int32)), .val (.int (8 : Int32)), .val (.int (0 : Int32)), .unset] [(.int (8 : Int32)), (.int (4 : Int32)), (.int (256 : Int32))])) (fun t k => ?_) ?_
  · refine XS.aloadN X0.here hx rfl (hb hby d13_0) rfl rfl ?_
    refine X0.arraylength hx (by rw [e0]; exact Ar364.1) (State.isArrayOf_alike hZ.alike Ar364.2.1) (g := (mkF m 1 #[.val (.ref a1), .val (.int (4 : Int32)), .val (.int (8 : Int32)), .val (.int (0 : Int32)), .unset] [(.ref a1)])) rfl rfl (hb hby d13_1) _ ?_
    rw [len_of S364 N364]
    refine XS.iloadN X0.here hx rfl (hb hby d13_2) rfl ?_
    refine XS.iloadN X0.here hx rfl (hb hby d13_3) rfl ?_
    exact k
  obtain ⟨_, _, ⟨T365, L365, k365, n365⟩, -, X365, ⟨Lc365, hQ365, l365, y365, z365⟩, st365⟩ := Jvm.LawKit.callS X0 hx (y := own_y2) hown (mvT hZ (own_w hw 65 rfl)) (mvT hZ (own_w hw 66 rfl)) (mvT hZ (own_w hw 21 rfl)) (mvT hZ (own_w hw 67 rfl)) (by decide) (backOf (W := 0) (rmk l Z a0 hw [] (256 : Int32) (4 : Int32) (8 : Int32) h0 n0 Z0 (by decide) (by decide) (by decide)) hZ (own_w hw 67 rfl) (own_w hw 21 rfl) (by decide) (by decide)) (g := (mkF m 4 #[.val (.ref a1), .val (.int (4 : Int32)), .val (.int (8 : Int32)), .val (.int (0 : Int32)), .unset] [(.int (8 : Int32)), (.int (4 : Int32)), (.int (256 : Int32))])) rfl (by rw [hml]; rfl) (argsL := [(.int (256 : Int32)), (.int (4 : Int32)), (.int (8 : Int32))]) (rest := []) (lenOf pd_1 rfl) rfl (by show 2 * 0 + _ ≤ _; exact Nat.le_of_eq rfl) (hb hby d13_4) (fun _ _ => ⟨rfl, e0, (by decide : 0 + 0 ≤ _), (by decide : 0 + 0 ≤ _)⟩)
  dsimp only [Pt.U, Pt.locs, Pt.cells, Pt.slots] at X365 l365 y365 z365 st365 hQ365
  subst l365 y365 z365
  obtain ⟨rfl, N365q, e365⟩ := hQ365
  have N365 := Fr.app N0 N365q
  refine Go.st (U' := T365.setTop (mkF m 7 #[.val (.ref a1), .val (.int (4 : Int32)), .val (.int (8 : Int32)), .val (.int (0 : Int32)), .unset] [])) (fun t k => st365 _ k) ?_
  refine Go.st (U' := T365.setTop (mkF m 20 #[.val (.ref a1), .val (.int (4 : Int32)), .val (.int (8 : Int32)), .val (.int (0 : Int32)), .val (.int (4 : Int32))] [(.int (0 : Int32)), (.int (4 : Int32)), (.ref a1)])) (fun t k => ?_) ?_
  · refine XS.iloadN X365.here hx rfl (hb hby d13_7) rfl ?_
    refine XS.istore X365.here hx rfl (hb hby d13_8) rfl (l' := #[.val (.ref a1), .val (.int (4 : Int32)), .val (.int (8 : Int32)), .val (.int (0 : Int32)), .val (.int (4 : Int32))]) rfl ?_
    refine XS.iload X365.here hx rfl (hb hby d13_10) rfl ?_
    refine XS.iloadN X365.here hx rfl (hb hby d13_12) rfl ?_
    refine XS.icmpNo X365.here hx rfl (hb hby d13_13) rfl (tlt (by decide : (4 : Int32) < (8 : Int32))).2.1 ?_
    refine XS.aloadN X365.here hx rfl (hb hby d13_16) rfl rfl ?_
    refine XS.iload X365.here hx rfl (hb hby d13_17) rfl ?_
    refine XS.iloadN X365.here hx rfl (hb hby d13_19) rfl ?_
    exact k
  obtain ⟨T366, h366, X366, e366, W366, st366⟩ := stB X365 hx hZ e365 Ar364 (j := (4 : Int32)) (inb_of (j := (4 : Int32)) S364 ⟨by decide, by decide⟩) (g := (mkF m 20 #[.val (.ref a1), .val (.int (4 : Int32)), .val (.int (8 : Int32)), .val (.int (0 : Int32)), .val (.int (4 : Int32))] [(.int (0 : Int32)), (.int (4 : Int32)), (.ref a1)])) rfl rfl (hb hby d13_20)
  have VA_366 := Arv.set Ar364 q364 S364 N364 H364 G364 (fits_nar_byte _) W366 4 rfl (Nat.le_of_ble_eq_true rfl)
  have N366 := Fr.snoc X366 N365 gA
  have KK366 : Keep h0 h366 [a1] := (Keep.refl h0 [a1]).wr W366 (Or.inl (List.mem_of_getElem? (i := 0) rfl))
  have sz366 : n0 ≤ h366.size := Nat.le_trans Z0 (Nat.le_of_eq W366.size.symm)
  refine Go.st (U' := T366.setTop (mkF m 21 #[.val (.ref a1), .val (.int (4 : Int32)), .val (.int (8 : Int32)), .val (.int (0 : Int32)), .val (.int (4 : Int32))] [])) (fun t k => st366 _ k) ?_
  refine Go.st (U' := T366.setTop (mkF m 20 #[.val (.ref a1), .val (.int (4 : Int32)), .val (.int (8 : Int32)), .val (.int (0 : Int32)), .val (.int (5 : Int32))] [(.int (0 : Int32)), (.int (5 : Int32)), (.ref a1)])) (fun t k => ?_) ?_
  · refine XS.iinc X366.here hx rfl (hb hby d13_21) rfl (l' := #[.val (.ref a1), .val (.int (4 : Int32)), .val (.int (8 : Int32)), .val (.int (0 : Int32)), .val (.int (5 : Int32))]) rfl ?_
    refine XS.goto X366.here hx rfl (pc0 := 24) (pc' := 10) rfl (hb hby d13_24) (by decide) (by decide) ?_
    refine XS.iload X366.here hx rfl (hb hby d13_10) rfl ?_
    refine XS.iloadN X366.here hx rfl (hb hby d13_12) rfl ?_
    refine XS.icmpNo X366.here hx rfl (hb hby d13_13) rfl (tlt (by decide : (5 : Int32) < (8 : Int32))).2.1 ?_
    refine XS.aloadN X366.here hx rfl (hb hby d13_16) rfl rfl ?_
    refine XS.iload X366.here hx rfl (hb hby d13_17) rfl ?_
    refine XS.iloadN X366.here hx rfl (hb hby d13_19) rfl ?_
    exact k
  obtain ⟨cl368, Ar368, q368, S368, N368, H368, G368⟩ := id VA_366
  obtain ⟨T367, h367, X367, e367, W367, st367⟩ := stB X366 hx hZ e366 Ar368 (j := (5 : Int32)) (inb_of (j := (5 : Int32)) S368 ⟨by decide, by decide⟩) (g := (mkF m 20 #[.val (.ref a1), .val (.int (4 : Int32)), .val (.int (8 : Int32)), .val (.int (0 : Int32)), .val (.int (5 : Int32))] [(.int (0 : Int32)), (.int (5 : Int32)), (.ref a1)])) rfl rfl (hb hby d13_20)
  have VA_367 := Arv.set Ar368 q368 S368 N368 H368 G368 (fits_nar_byte _) W367 5 rfl (Nat.le_of_ble_eq_true rfl)
  have N367 := Fr.snoc X367 N366 gA
  have KK367 : Keep h0 h367 [a1] := KK366.wr W367 (Or.inl (List.mem_of_getElem? (i := 0) rfl))
  have sz367 : n0 ≤ h367.size := Nat.le_trans sz366 (Nat.le_of_eq W367.size.symm)
  refine Go.st (U' := T367.setTop (mkF m 21 #[.val (.ref a1), .val (.int (4 : Int32)), .val (.int (8 : Int32)), .val (.int (0 : Int32)), .val (.int (5 : Int32))] [])) (fun t k => st367 _ k) ?_
  refine Go.st (U' := T367.setTop (mkF m 20 #[.val (.ref a1), .val (.int (4 : Int32)), .val (.int (8 : Int32)), .val (.int (0 : Int32)), .val (.int (6 : Int32))] [(.int (0 : Int32)), (.int (6 : Int32)), (.ref a1)])) (fun t k => ?_) ?_
  · refine XS.iinc X367.here hx rfl (hb hby d13_21) rfl (l' := #[.val (.ref a1), .val (.int (4 : Int32)), .val (.int (8 : Int32)), .val (.int (0 : Int32)), .val (.int (6 : Int32))]) rfl ?_
    refine XS.goto X367.here hx rfl (pc0 := 24) (pc' := 10) rfl (hb hby d13_24) (by decide) (by decide) ?_
    refine XS.iload X367.here hx rfl (hb hby d13_10) rfl ?_
    refine XS.iloadN X367.here hx rfl (hb hby d13_12) rfl ?_
    refine XS.icmpNo X367.here hx rfl (hb hby d13_13) rfl (tlt (by decide : (6 : Int32) < (8 : Int32))).2.1 ?_
    refine XS.aloadN X367.here hx rfl (hb hby d13_16) rfl rfl ?_
    refine XS.iload X367.here hx rfl (hb hby d13_17) rfl ?_
    refine XS.iloadN X367.here hx rfl (hb hby d13_19) rfl ?_
    exact k
  obtain ⟨cl370, Ar370, q370, S370, N370, H370, G370⟩ := id VA_367
  obtain ⟨T369, h369, X369, e369, W369, st369⟩ := stB X367 hx hZ e367 Ar370 (j := (6 : Int32)) (inb_of (j := (6 : Int32)) S370 ⟨by decide, by decide⟩) (g := (mkF m 20 #[.val (.ref a1), .val (.int (4 : Int32)), .val (.int (8 : Int32)), .val (.int (0 : Int32)), .val (.int (6 : Int32))] [(.int (0 : Int32)), (.int (6 : Int32)), (.ref a1)])) rfl rfl (hb hby d13_20)
  have VA_369 := Arv.set Ar370 q370 S370 N370 H370 G370 (fits_nar_byte _) W369 6 rfl (Nat.le_of_ble_eq_true rfl)
  have N369 := Fr.snoc X369 N367 gA
  have KK369 : Keep h0 h369 [a1] := KK367.wr W369 (Or.inl (List.mem_of_getElem? (i := 0) rfl))
  have sz369 : n0 ≤ h369.size := Nat.le_trans sz367 (Nat.le_of_eq W369.size.symm)
  refine Go.st (U' := T369.setTop (mkF m 21 #[.val (.ref a1), .val (.int (4 : Int32)), .val (.int (8 : Int32)), .val (.int (0 : Int32)), .val (.int (6 : Int32))] [])) (fun t k => st369 _ k) ?_
  refine Go.st (U' := T369.setTop (mkF m 20 #[.val (.ref a1), .val (.int (4 : Int32)), .val (.int (8 : Int32)), .val (.int (0 : Int32)), .val (.int (7 : Int32))] [(.int (0 : Int32)), (.int (7 : Int32)), (.ref a1)])) (fun t k => ?_) ?_
  · refine XS.iinc X369.here hx rfl (hb hby d13_21) rfl (l' := #[.val (.ref a1), .val (.int (4 : Int32)), .val (.int (8 : Int32)), .val (.int (0 : Int32)), .val (.int (7 : Int32))]) rfl ?_
    refine XS.goto X369.here hx rfl (pc0 := 24) (pc' := 10) rfl (hb hby d13_24) (by decide) (by decide) ?_
    refine XS.iload X369.here hx rfl (hb hby d13_10) rfl ?_
    refine XS.iloadN X369.here hx rfl (hb hby d13_12) rfl ?_
    refine XS.icmpNo X369.here hx rfl (hb hby d13_13) rfl (tlt (by decide : (7 : Int32) < (8 : Int32))).2.1 ?_
    refine XS.aloadN X369.here hx rfl (hb hby d13_16) rfl rfl ?_
    refine XS.iload X369.here hx rfl (hb hby d13_17) rfl ?_
    refine XS.iloadN X369.here hx rfl (hb hby d13_19) rfl ?_
    exact k
  obtain ⟨cl372, Ar372, q372, S372, N372, H372, G372⟩ := id VA_369
  obtain ⟨T371, h371, X371, e371, W371, st371⟩ := stB X369 hx hZ e369 Ar372 (j := (7 : Int32)) (inb_of (j := (7 : Int32)) S372 ⟨by decide, by decide⟩) (g := (mkF m 20 #[.val (.ref a1), .val (.int (4 : Int32)), .val (.int (8 : Int32)), .val (.int (0 : Int32)), .val (.int (7 : Int32))] [(.int (0 : Int32)), (.int (7 : Int32)), (.ref a1)])) rfl rfl (hb hby d13_20)
  have VA_371 := Arv.set Ar372 q372 S372 N372 H372 G372 (fits_nar_byte _) W371 7 rfl (Nat.le_of_ble_eq_true rfl)
  have N371 := Fr.snoc X371 N369 gA
  have KK371 : Keep h0 h371 [a1] := KK369.wr W371 (Or.inl (List.mem_of_getElem? (i := 0) rfl))
  have sz371 : n0 ≤ h371.size := Nat.le_trans sz369 (Nat.le_of_eq W371.size.symm)
  refine Go.st (U' := T371.setTop (mkF m 21 #[.val (.ref a1), .val (.int (4 : Int32)), .val (.int (8 : Int32)), .val (.int (0 : Int32)), .val (.int (7 : Int32))] [])) (fun t k => st371 _ k) ?_
  refine Go.st (U' := T371.setTop (mkF m 27 #[.val (.ref a1), .val (.int (4 : Int32)), .val (.int (8 : Int32)), .val (.int (0 : Int32)), .val (.int (8 : Int32))] [])) (fun t k => ?_) ?_
  · refine XS.iinc X371.here hx rfl (hb hby d13_21) rfl (l' := #[.val (.ref a1), .val (.int (4 : Int32)), .val (.int (8 : Int32)), .val (.int (0 : Int32)), .val (.int (8 : Int32))]) rfl ?_
    refine XS.goto X371.here hx rfl (pc0 := 24) (pc' := 10) rfl (hb hby d13_24) (by decide) (by decide) ?_
    refine XS.iload X371.here hx rfl (hb hby d13_10) rfl ?_
    refine XS.iloadN X371.here hx rfl (hb hby d13_12) rfl ?_
    refine XS.icmpYes X371.here hx rfl (pc0 := 13) (pc' := 27) rfl (hb hby d13_13) rfl (flt (by decide : ¬ ((8 : Int32) < (8 : Int32)))).2.1 (by decide) (by decide) ?_
    exact k
  refine own_ret (Q := Qf4_8 Z a1 k1 c0 c1 c2 c3 c4 c5 c6 c7 c8 c9 c10 c11 c12 c13 c14 c15 h0 n0) (v := none) X371 hlk (fun _ => rfl) (by decide) (by decide) ?_ (fun fs hr => X371.returnOut hx hrt (hb hby d13_27) hr)
  rw [e371]
  exact ⟨rfl, N371, KK371, VA_371⟩
theorem efa4_8 (m : MethodId) (a1 : Addr) : entryFrame m #[(.ref a1), (.int (8 : Int32))] 3 = mkF m 0 #[.val (.ref a1), .val (.int (8 : Int32)), .unset] [] := by first | (simp [entryFrame, mkF, argsToLocals, Value.category]; done) | rfl
def Qa4_8 (Z : State) (a1 : Addr) (b1 : Addr) (k1 : ClassId) (c0 : Int32) (c1 : Int32) (c2 : Int32) (c3 : Int32) (c4 : Int32) (c5 : Int32) (c6 : Int32) (c7 : Int32) (c8 : Int32) (c9 : Int32) (c10 : Int32) (c11 : Int32) (c12 : Int32) (c13 : Int32) (c14 : Int32) (c15 : Int32) (h0 : Heap) (n0 : Nat) (v : Option Value) (h : Heap) (L : List Loc) : Prop := v = none ∧ Fr n0 L ∧ Keep h0 h [a1, b1] ∧ Exa Z h a1 "com/example/portcullis/portcullis/io/CdrOutput" ∧ Fld Z h a1 "com/example/portcullis/portcullis/io/CdrOutput" "buffer" "[B" (.ref b1) ∧ Fld Z h a1 "com/example/portcullis/portcullis/io/CdrOutput" "size" "I" (.int (8 : Int32)) ∧ Arv Z h b1 k1 .byte (256 : Int32) [(.int c0), (.int c1), (.int c2), (.int c3), (.int (0 : Int32)), (.int (0 : Int32)), (.int (0 : Int32)), (.int (0 : Int32)), (.int c8), (.int c9), (.int c10), (.int c11), (.int c12), (.int c13), (.int c14), (.int c15)] (.int (0 : Int32))
set_option maxRecDepth 65536 in
set_option maxHeartbeats 40000000 in
theorem rma4_8 (l : Launch) (Z : State) (a0 : Array Value) (hw : ∀ d ∈ tables_1, d.before a0 Z = true) (ws : List Jvm.Cond) (a1 : Addr) (b1 : Addr) (k1 : ClassId) (c0 : Int32) (c1 : Int32) (c2 : Int32) (c3 : Int32) (c4 : Int32) (c5 : Int32) (c6 : Int32) (c7 : Int32) (c8 : Int32) (c9 : Int32) (c10 : Int32) (c11 : Int32) (c12 : Int32) (c13 : Int32) (c14 : Int32) (c15 : Int32) (h0 : Heap) (n0 : Nat) (Z0 : n0 ≤ h0.size) (EX : Exa Z h0 a1 "com/example/portcullis/portcullis/io/CdrOutput") (FB : Fld Z h0 a1 "com/example/portcullis/portcullis/io/CdrOutput" "buffer" "[B" (.ref b1)) (FS : Fld Z h0 a1 "com/example/portcullis/portcullis/io/CdrOutput" "size" "I" (.int (4 : Int32))) (VA : Arv Z h0 b1 k1 .byte (256 : Int32) [(.int c0), (.int c1), (.int c2), (.int c3), (.int c4), (.int c5), (.int c6), (.int c7), (.int c8), (.int c9), (.int c10), (.int c11), (.int c12), (.int c13), (.int c14), (.int c15)] (.int (0 : Int32))) (gA : n0 ≤ a1) (gB : n0 ≤ b1) (nab : a1 ≠ b1) :
    MetFree l own_y5 (head1 (Jvm.Cond.code own_y5 prog_14_method_14_code 3 none :: ws) own_R2_0_0_48) (fun a U => a = #[(.ref a1), (.int (8 : Int32))] ∧ Z.Warmed39 U.vm ∧ U.heap = h0) (fun _ _ _ _ _ => True) (fun _ U o U' => ∃ v L, o = .returned v ∧ Qa4_8 Z a1 b1 k1 c0 c1 c2 c3 c4 c5 c6 c7 c8 c9 c10 c11 c12 c13 c14 c15 h0 n0 v U'.heap L ∧ FrameEnd U o U' L (own_R2_0_0_48).cells (own_R2_0_0_48).slots) := by
  refine MetFree.of_bodySF (plainFor_of_name pn_0) hisR ?_
  intro p e s m args below meth c s₁ Bd hml0 hP hK
  obtain ⟨rfl, hZ, hh⟩ := hP
  have hx := Bd.exec
  have hby := Bd.bytes
  have hml : c.maxLocals = 3 := hml0
  have hown : s.vm.findClass "com/example/portcullis/portcullis/io/CdrOutput" = some m.cls := findClass_of_methodNamed Bd.named
  have hnm := (name_of_methodNamed Bd.named Bd.method).1
  have hlk : meth.locks = false := BodyLoose.notSynchronized Bd
  have hrt := Bd.returns
  have X0 : Stand p l e own_R2_0_0_48 s m #[(.ref a1), (.int (8 : Int32))] below meth c s₁ [] 0 0 := Stand.of_body Bd
  have e0 : s₁.heap = h0 := by rw [← hh, Bd.state]; rfl
  have N0 := Fr.nil n0
  refine (show Go p e below (fun s₂ o => ∃ v L, o = .returned v ∧ Qa4_8 Z a1 b1 k1 c0 c1 c2 c3 c4 c5 c6 c7 c8 c9 c10 c11 c12 c13 c14 c15 h0 n0 v s₂.heap L ∧ FrameEnd s o s₂ L 0 0) (s₁.setTop (entryFrame m #[(.ref a1), (.int (8 : Int32))] 3)) from ?_)
  rw [efa4_8]
  refine Go.st (U' := s₁.setTop (mkF m 1 #[.val (.ref a1), .val (.int (8 : Int32)), .unset] [(.ref a1)])) (fun t k => ?_) ?_
  · refine XS.aloadN X0.here hx rfl (hb hby d12_0) rfl rfl ?_
    exact k
  obtain ⟨T373, X373, e373, st373⟩ := getF X0 hx hZ hown (host := "") (Or.inl (own_w hw 17 rfl)) Via.refl e0 FS (g := (mkF m 1 #[.val (.ref a1), .val (.int (8 : Int32)), .unset] [(.ref a1)])) rfl rfl (hb hby d12_1)
  refine Go.st (U' := T373.setTop (mkF m 4 #[.val (.ref a1), .val (.int (8 : Int32)), .unset] [(.int (4 : Int32))])) (fun t k => st373 _ k) ?_
  refine Go.st (U' := T373.setTop (mkF m 12 #[.val (.ref a1), .val (.int (8 : Int32)), .val (.int (4 : Int32))] [(.int (4 : Int32)), (.ref a1)])) (fun t k => ?_) ?_
  · refine XS.ineg X373.here hx rfl (hb hby d12_4) rfl ?_
    refine XS.iloadN X373.here hx rfl (hb hby d12_5) rfl ?_
    refine XS.iconst X373.here hx rfl (hb hby d12_6) ?_
    refine XS.isub X373.here hx rfl (hb hby d12_7) rfl ?_
    refine XS.iand X373.here hx rfl (hb hby d12_8) rfl ?_
    refine XS.istoreN X373.here hx rfl (hb hby d12_9) rfl (l' := #[.val (.ref a1), .val (.int (8 : Int32)), .val (.int (4 : Int32))]) rfl ?_
    refine XS.aloadN X373.here hx rfl (hb hby d12_10) rfl rfl ?_
    refine XS.iloadN X373.here hx rfl (hb hby d12_11) rfl ?_
    exact k
  obtain ⟨cq374, q374, q374'⟩ := EX.cell
  obtain ⟨_, _, ⟨T374, L374, k374, n374⟩, -, X374, ⟨Lc374, hQ374, l374, y374, z374⟩, st374⟩ := X373.privateBack hx (y := own_y1) hown (mvT hZ (own_w hw 48 rfl)) (mvT hZ (own_w hw 49 rfl)) (own_selp (y := own_y1) (mvT hZ (own_w hw 1 rfl)) (Cond.privateMethod_at (mvP hZ (own_w hw 50 rfl) (args := #[]))) (mvT hZ (own_w hw 49 rfl)) (by decide)) (Cond.privateMethod_at (mvP hZ (own_w hw 50 rfl) (args := #[]))) (mvT hZ (own_w hw 51 rfl)) (by decide) (backOf (W := 0) (rmr l Z a0 hw [] a1 (4 : Int32) b1 k1 (4 : Int32) [(.int c0), (.int c1), (.int c2), (.int c3), (.int c4), (.int c5), (.int c6), (.int c7), (.int c8), (.int c9), (.int c10), (.int c11), (.int c12), (.int c13), (.int c14), (.int c15)] h0 n0 Z0 FB FS VA (by decide)) hZ (own_w hw 51 rfl) (own_w hw 2 rfl) (by decide) (by decide)) (g := (mkF m 12 #[.val (.ref a1), .val (.int (8 : Int32)), .val (.int (4 : Int32))] [(.int (4 : Int32)), (.ref a1)])) rfl (by rw [hml]; rfl) (Steps.refl _) (a := a1) (by rw [e373]; exact q374) q374' (argsL := [(.int (4 : Int32))]) (rest := []) (lenOf pd_0 rfl) rfl (by show 2 * 0 + _ ≤ _; exact Nat.le_of_eq rfl) (hb hby d12_12) (fun _ _ => ⟨rfl, e373, (by decide : 0 + 0 ≤ _), (by decide : 0 + 0 ≤ _)⟩)
  dsimp only [Pt.U, Pt.locs, Pt.cells, Pt.slots] at X374 l374 y374 z374 st374 hQ374
  subst l374 y374 z374
  obtain ⟨rfl, N374q, e374⟩ := hQ374
  have N374 := Fr.app N0 N374q
  refine Go.tr (U' := T374.setTop (mkF m 15 #[.val (.ref a1), .val (.int (8 : Int32)), .val (.int (4 : Int32))] [])) st374 ?_
  refine Go.st (U' := T374.setTop (mkF m 16 #[.val (.ref a1), .val (.int (8 : Int32)), .val (.int (4 : Int32))] [(.ref a1)])) (fun t k => ?_) ?_
  · refine XS.aloadN X374.here hx rfl (hb hby d12_15) rfl rfl ?_
    exact k
  obtain ⟨T375, X375, e375, st375⟩ := getF X374 hx hZ hown (host := "") (Or.inl (own_w hw 10 rfl)) Via.refl e374 FB (g := (mkF m 16 #[.val (.ref a1), .val (.int (8 : Int32)), .val (.int (4 : Int32))] [(.ref a1)])) rfl rfl (hb hby d12_16)
  refine Go.st (U' := T375.setTop (mkF m 19 #[.val (.ref a1), .val (.int (8 : Int32)), .val (.int (4 : Int32))] [(.ref b1)])) (fun t k => st375 _ k) ?_
  refine Go.st (U' := T375.setTop (mkF m 20 #[.val (.ref a1), .val (.int (8 : Int32)), .val (.int (4 : Int32))] [(.ref a1), (.ref b1)])) (fun t k => ?_) ?_
  · refine XS.aloadN X375.here hx rfl (hb hby d12_19) rfl rfl ?_
    exact k
  obtain ⟨T376, X376, e376, st376⟩ := getF X375 hx hZ hown (host := "") (Or.inl (own_w hw 17 rfl)) Via.refl e375 FS (g := (mkF m 20 #[.val (.ref a1), .val (.int (8 : Int32)), .val (.int (4 : Int32))] [(.ref a1), (.ref b1)])) rfl rfl (hb hby d12_20)
  refine Go.st (U' := T376.setTop (mkF m 23 #[.val (.ref a1), .val (.int (8 : Int32)), .val (.int (4 : Int32))] [(.int (4 : Int32)), (.ref b1)])) (fun t k => st376 _ k) ?_
  refine Go.st (U' := T376.setTop (mkF m 24 #[.val (.ref a1), .val (.int (8 : Int32)), .val (.int (4 : Int32))] [(.ref a1), (.int (4 : Int32)), (.ref b1)])) (fun t k => ?_) ?_
  · refine XS.aloadN X376.here hx rfl (hb hby d12_23) rfl rfl ?_
    exact k
  obtain ⟨T377, X377, e377, st377⟩ := getF X376 hx hZ hown (host := "") (Or.inl (own_w hw 17 rfl)) Via.refl e376 FS (g := (mkF m 24 #[.val (.ref a1), .val (.int (8 : Int32)), .val (.int (4 : Int32))] [(.ref a1), (.int (4 : Int32)), (.ref b1)])) rfl rfl (hb hby d12_24)
  refine Go.st (U' := T377.setTop (mkF m 27 #[.val (.ref a1), .val (.int (8 : Int32)), .val (.int (4 : Int32))] [(.int (4 : Int32)), (.int (4 : Int32)), (.ref b1)])) (fun t k => st377 _ k) ?_
  refine Go.st (U' := T377.setTop (mkF m 30 #[.val (.ref a1), .val (.int (8 : Int32)), .val (.int (4 : Int32))] [(.int (0 : Int32)), (.int (8 : Int32)), (.int (4 : Int32)), (.ref b1)])) (fun t k => ?_) ?_
  · refine XS.iloadN X377.here hx rfl (hb hby d12_27) rfl ?_
    refine XS.iadd X377.here hx rfl (hb hby d12_28) rfl ?_
    refine XS.iconst X377.here hx rfl (hb hby d12_29) ?_
    exact k
  obtain ⟨_, _, ⟨T378, L378, k378, n378⟩, -, X378, ⟨Lc378, hQ378, l378, y378, z378⟩, st378⟩ := Jvm.LawKit.callS X377 hx (y := own_y4) hown (mvT hZ (own_w hw 62 rfl)) (mvT hZ (own_w hw 63 rfl)) (mvT hZ (own_w hw 21 rfl)) (mvT hZ (own_w hw 64 rfl)) (by decide) (backOf (W := 0) (rmf4_8 l Z a0 hw [] b1 k1 c0 c1 c2 c3 c4 c5 c6 c7 c8 c9 c10 c11 c12 c13 c14 c15 h0 n0 Z0 VA gB) hZ (own_w hw 64 rfl) (own_w hw 21 rfl) (by decide) (by decide)) (g := (mkF m 30 #[.val (.ref a1), .val (.int (8 : Int32)), .val (.int (4 : Int32))] [(.int (0 : Int32)), (.int (8 : Int32)), (.int (4 : Int32)), (.ref b1)])) rfl (by rw [hml]; rfl) (argsL := [(.ref b1), (.int (4 : Int32)), (.int (8 : Int32)), (.int (0 : Int32))]) (rest := []) (lenOf pd_2 rfl) rfl (by show 2 * 0 + _ ≤ _; exact Nat.le_of_eq rfl) (hb hby d12_30) (fun _ _ => ⟨rfl, e377, (by decide : 0 + 0 ≤ _), (by decide : 0 + 0 ≤ _)⟩)
  dsimp only [Pt.U, Pt.locs, Pt.cells, Pt.slots] at X378 l378 y378 z378 st378 hQ378
  subst l378 y378 z378
  obtain ⟨rfl, N378q, K378, P378_0⟩ := hQ378
  have KK378 : Keep h0 T378.heap [a1, b1] := (Keep.refl h0 [a1, b1]).trans K378 (allS (Or.inl (List.mem_of_getElem? (i := 1) rfl)) all0)
  have EX_378 := EX.keep K378
  have FB_378 := FB.keep K378 (ninS nab nin0)
  have FS_378 := FS.keep K378 (ninS nab nin0)
  have sz378 : n0 ≤ T378.heap.size := Nat.le_trans Z0 K378.1
  have N378 := Fr.app N374 N378q
  refine Go.st (U' := T378.setTop (mkF m 33 #[.val (.ref a1), .val (.int (8 : Int32)), .val (.int (4 : Int32))] [])) (fun t k => st378 _ k) ?_
  refine Go.st (U' := T378.setTop (mkF m 35 #[.val (.ref a1), .val (.int (8 : Int32)), .val (.int (4 : Int32))] [(.ref a1), (.ref a1)])) (fun t k => ?_) ?_
  · refine XS.aloadN X378.here hx rfl (hb hby d12_33) rfl rfl ?_
    refine XS.dup X378.here hx rfl (hb hby d12_34) rfl rfl ?_
    exact k
  obtain ⟨T379, X379, e379, st379⟩ := getF X378 hx hZ hown (host := "") (Or.inl (own_w hw 17 rfl)) Via.refl rfl FS_378 (g := (mkF m 35 #[.val (.ref a1), .val (.int (8 : Int32)), .val (.int (4 : Int32))] [(.ref a1), (.ref a1)])) rfl rfl (hb hby d12_35)
  refine Go.st (U' := T379.setTop (mkF m 38 #[.val (.ref a1), .val (.int (8 : Int32)), .val (.int (4 : Int32))] [(.int (4 : Int32)), (.ref a1)])) (fun t k => st379 _ k) ?_
  refine Go.st (U' := T379.setTop (mkF m 40 #[.val (.ref a1), .val (.int (8 : Int32)), .val (.int (4 : Int32))] [(.int (8 : Int32)), (.ref a1)])) (fun t k => ?_) ?_
  · refine XS.iloadN X379.here hx rfl (hb hby d12_38) rfl ?_
    refine XS.iadd X379.here hx rfl (hb hby d12_39) rfl ?_
    exact k
  obtain ⟨T380, h380, X380, e380, W380, st380⟩ := putF X379 hx hZ hown (host := "") (Or.inl (own_w hw 17 rfl)) Via.refl e379 FS_378 EX_378 (Or.inl (own_w hw 18 rfl)) (own_w hw 1 rfl) (ty := .int) (by decide) rfl rfl (g := (mkF m 40 #[.val (.ref a1), .val (.int (8 : Int32)), .val (.int (4 : Int32))] [(.int (8 : Int32)), (.ref a1)])) rfl rfl (hb hby d12_40)
  have F380 := FS_378.same W380
  have EX_380 := EX_378.wr W380
  have FB_380 := FB_378.other W380 (Or.inr (slot_ne (Or.inl (own_w hw 11 rfl)) (Or.inl (own_w hw 18 rfl)) (by decide) (t := (.array .byte)) (t' := .int) (by decide) (by decide)))
  have P378_0_380 := P378_0.other W380 (Ne.symm nab)
  have N380 := Fr.snoc X380 N378 gA
  have KK380 : Keep h0 h380 [a1, b1] := KK378.wr W380 (Or.inl (List.mem_of_getElem? (i := 0) rfl))
  have sz380 : n0 ≤ h380.size := Nat.le_trans sz378 (Nat.le_of_eq W380.size.symm)
  refine Go.st (U' := T380.setTop (mkF m 43 #[.val (.ref a1), .val (.int (8 : Int32)), .val (.int (4 : Int32))] [])) (fun t k => st380 _ k) ?_
  refine own_ret (Q := Qa4_8 Z a1 b1 k1 c0 c1 c2 c3 c4 c5 c6 c7 c8 c9 c10 c11 c12 c13 c14 c15 h0 n0) (v := none) X380 hlk (fun _ => rfl) (by decide) (by decide) ?_ (fun fs hr => X380.returnOut hx hrt (hb hby d12_43) hr)
  rw [e380]
  exact ⟨rfl, N380, KK380, EX_380, FB_380, F380, P378_0_380⟩
theorem efl4 (m : MethodId) (a1 : Addr) (q2 : Int64) : entryFrame m #[(.ref a1), (.long q2)] 3 = mkF m 0 #[.val (.ref a1), .val (.long q2), .second] [] := by first | (simp [entryFrame, mkF, argsToLocals, Value.category]; done) | rfl
def Ql4 (Z : State) (a1 : Addr) (b1 : Addr) (k1 : ClassId) (c0 : Int32) (c1 : Int32) (c2 : Int32) (c3 : Int32) (c4 : Int32) (c5 : Int32) (c6 : Int32) (c7 : Int32) (c8 : Int32) (c9 : Int32) (c10 : Int32) (c11 : Int32) (c12 : Int32) (c13 : Int32) (c14 : Int32) (c15 : Int32) (q2 : Int64) (h0 : Heap) (n0 : Nat) (v : Option Value) (h : Heap) (L : List Loc) : Prop := v = none ∧ Fr n0 L ∧ Keep h0 h [a1, b1] ∧ Exa Z h a1 "com/example/portcullis/portcullis/io/CdrOutput" ∧ Fld Z h a1 "com/example/portcullis/portcullis/io/CdrOutput" "buffer" "[B" (.ref b1) ∧ Fld Z h a1 "com/example/portcullis/portcullis/io/CdrOutput" "size" "I" (.int (16 : Int32)) ∧ Arv Z h b1 k1 .byte (256 : Int32) [(.int c0), (.int c1), (.int c2), (.int c3), (.int (0 : Int32)), (.int (0 : Int32)), (.int (0 : Int32)), (.int (0 : Int32)), (.int (own_b3 (own_hi q2))), (.int (own_b2 (own_hi q2))), (.int (own_b1 (own_hi q2))), (.int (own_b0 (own_hi q2))), (.int (own_b3 (q2.toInt32))), (.int (own_b2 (q2.toInt32))), (.int (own_b1 (q2.toInt32))), (.int (own_b0 (q2.toInt32)))] (.int (0 : Int32))
set_option maxRecDepth 65536 in
set_option maxHeartbeats 40000000 in
theorem rml4 (l : Launch) (Z : State) (a0 : Array Value) (hw : ∀ d ∈ tables_1, d.before a0 Z = true) (ws : List Jvm.Cond) (a1 : Addr) (b1 : Addr) (k1 : ClassId) (c0 : Int32) (c1 : Int32) (c2 : Int32) (c3 : Int32) (c4 : Int32) (c5 : Int32) (c6 : Int32) (c7 : Int32) (c8 : Int32) (c9 : Int32) (c10 : Int32) (c11 : Int32) (c12 : Int32) (c13 : Int32) (c14 : Int32) (c15 : Int32) (q2 : Int64) (h0 : Heap) (n0 : Nat) (Z0 : n0 ≤ h0.size) (EX : Exa Z h0 a1 "com/example/portcullis/portcullis/io/CdrOutput") (FB : Fld Z h0 a1 "com/example/portcullis/portcullis/io/CdrOutput" "buffer" "[B" (.ref b1)) (FS : Fld Z h0 a1 "com/example/portcullis/portcullis/io/CdrOutput" "size" "I" (.int (4 : Int32))) (VA : Arv Z h0 b1 k1 .byte (256 : Int32) [(.int c0), (.int c1), (.int c2), (.int c3), (.int c4), (.int c5), (.int c6), (.int c7), (.int c8), (.int c9), (.int c10), (.int c11), (.int c12), (.int c13), (.int c14), (.int c15)] (.int (0 : Int32))) (gA : n0 ≤ a1) (gB : n0 ≤ b1) (nab : a1 ≠ b1) :
    MetFree l own_y9 (head1 (Jvm.Cond.code own_y9 prog_14_method_6_code 3 none :: ws) own_R3_0_0_80) (fun a U => a = #[(.ref a1), (.long q2)] ∧ Z.Warmed39 U.vm ∧ U.heap = h0) (fun _ _ _ _ _ => True) (fun _ U o U' => ∃ v L, o = .returned v ∧ Ql4 Z a1 b1 k1 c0 c1 c2 c3 c4 c5 c6 c7 c8 c9 c10 c11 c12 c13 c14 c15 q2 h0 n0 v U'.heap L ∧ FrameEnd U o U' L (own_R3_0_0_80).cells (own_R3_0_0_80).slots) := by
  refine MetFree.of_bodySF (plainFor_of_name pn_0) hisR ?_
  intro p e s m args below meth c s₁ Bd hml0 hP hK
  obtain ⟨rfl, hZ, hh⟩ := hP
  have hx := Bd.exec
  have hby := Bd.bytes
  have hml : c.maxLocals = 3 := hml0
  have hown : s.vm.findClass "com/example/portcullis/portcullis/io/CdrOutput" = some m.cls := findClass_of_methodNamed Bd.named
  have hnm := (name_of_methodNamed Bd.named Bd.method).1
  have hlk : meth.locks = false := BodyLoose.notSynchronized Bd
  have hrt := Bd.returns
  have X0 : Stand p l e own_R3_0_0_80 s m #[(.ref a1), (.long q2)] below meth c s₁ [] 0 0 := Stand.of_body Bd
  have e0 : s₁.heap = h0 := by rw [← hh, Bd.state]; rfl
  have N0 := Fr.nil n0
  refine (show Go p e below (fun s₂ o => ∃ v L, o = .returned v ∧ Ql4 Z a1 b1 k1 c0 c1 c2 c3 c4 c5 c6 c7 c8 c9 c10 c11 c12 c13 c14 c15 q2 h0 n0 v s₂.heap L ∧ FrameEnd s o s₂ L 0 0) (s₁.setTop (entryFrame m #[(.ref a1), (.long q2)] 3)) from ?_)
  rw [efl4]
  refine Go.st (U' := s₁.setTop (mkF m 3 #[.val (.ref a1), .val (.long q2), .second] [(.int (8 : Int32)), (.ref a1)])) (fun t k => ?_) ?_
  · refine XS.aloadN X0.here hx rfl (hb hby d15_0) rfl rfl ?_
    refine XS.bipush X0.here hx rfl (hb hby d15_1) ?_
    exact k
  obtain ⟨cq381, kq381, q381a, q381b, q381c⟩ := isOf hZ e0 EX
  obtain ⟨_, _, ⟨T381, L381, k381, n381⟩, -, X381, ⟨Lc381, hQ381, l381, y381, z381⟩, st381⟩ := X0.virtualBack hx (y := own_y5) (z := own_y5) hown (mvT hZ (own_w hw 57 rfl)) (mvT hZ (own_w hw 58 rfl)) (notFace_of_selects (args := #[]) (mvT hZ (own_w hw 60 rfl))) (mvT hZ (own_w hw 60 rfl)) (mvT hZ (own_w hw 59 rfl)) (by decide) (backOf (W := 0) (rma4_8 l Z a0 hw [] a1 b1 k1 c0 c1 c2 c3 c4 c5 c6 c7 c8 c9 c10 c11 c12 c13 c14 c15 h0 n0 Z0 EX FB FS VA gA gB nab) hZ (own_w hw 61 rfl) (own_w hw 2 rfl) (by decide) (by decide)) q381a q381c (g := (mkF m 3 #[.val (.ref a1), .val (.long q2), .second] [(.int (8 : Int32)), (.ref a1)])) rfl (by rw [hml]; rfl) (Steps.refl _) (argsL := [(.int (8 : Int32))]) (rest := []) (lenOf pd_0 rfl) rfl (by show 2 * 0 + _ ≤ _; exact Nat.le_of_eq rfl) (hb hby d15_3) (fun _ _ => ⟨rfl, e0, (by decide : 0 + 0 ≤ _), (by decide : 0 + 0 ≤ _)⟩)
  dsimp only [Pt.U, Pt.locs, Pt.cells, Pt.slots] at X381 l381 y381 z381 st381 hQ381
  subst l381 y381 z381
  obtain ⟨rfl, N381q, K381, PE381, PV381, PZ381, PA381⟩ := hQ381
  have KK381 : Keep h0 T381.heap [a1, b1] := (Keep.refl h0 [a1, b1]).trans K381 (allS (Or.inl (List.mem_of_getElem? (i := 0) rfl)) (allS (Or.inl (List.mem_of_getElem? (i := 1) rfl)) all0))
  have EX_381 := EX.keep K381
  have sz381 : n0 ≤ T381.heap.size := Nat.le_trans Z0 K381.1
  have N381 := Fr.app N0 N381q
  refine Go.tr (U' := T381.setTop (mkF m 6 #[.val (.ref a1), .val (.long q2), .second] [])) st381 ?_
  refine Go.st (U' := T381.setTop (mkF m 9 #[.val (.ref a1), .val (.long q2), .second] [(.int (8 : Int32)), (.ref a1)])) (fun t k => ?_) ?_
  · refine XS.aloadN X381.here hx rfl (hb hby d15_6) rfl rfl ?_
    refine XS.bipush X381.here hx rfl (hb hby d15_7) ?_
    exact k
  obtain ⟨cq382, q382, q382'⟩ := PE381.cell
  obtain ⟨_, _, ⟨T382, L382, k382, n382⟩, -, X382, ⟨Lc382, hQ382, l382, y382, z382⟩, st382⟩ := X381.privateBack hx (y := own_y1) hown (mvT hZ (own_w hw 48 rfl)) (mvT hZ (own_w hw 49 rfl)) (own_selp (y := own_y1) (mvT hZ (own_w hw 1 rfl)) (Cond.privateMethod_at (mvP hZ (own_w hw 50 rfl) (args := #[]))) (mvT hZ (own_w hw 49 rfl)) (by decide)) (Cond.privateMethod_at (mvP hZ (own_w hw 50 rfl) (args := #[]))) (mvT hZ (own_w hw 51 rfl)) (by decide) (backOf (W := 0) (rmr l Z a0 hw [] a1 (8 : Int32) b1 k1 (8 : Int32) [(.int c0), (.int c1), (.int c2), (.int c3), (.int (0 : Int32)), (.int (0 : Int32)), (.int (0 : Int32)), (.int (0 : Int32)), (.int c8), (.int c9), (.int c10), (.int c11), (.int c12), (.int c13), (.int c14), (.int c15)] T381.heap n0 sz381 PV381 PZ381 PA381 (by decide)) hZ (own_w hw 51 rfl) (own_w hw 2 rfl) (by decide) (by decide)) (g := (mkF m 9 #[.val (.ref a1), .val (.long q2), .second] [(.int (8 : Int32)), (.ref a1)])) rfl (by rw [hml]; rfl) (Steps.refl _) (a := a1) q382 q382' (argsL := [(.int (8 : Int32))]) (rest := []) (lenOf pd_0 rfl) rfl (by show 2 * 0 + _ ≤ _; exact Nat.le_of_eq rfl) (hb hby d15_9) (fun _ _ => ⟨rfl, rfl, (by decide : 0 + 0 ≤ _), (by decide : 0 + 0 ≤ _)⟩)
  dsimp only [Pt.U, Pt.locs, Pt.cells, Pt.slots] at X382 l382 y382 z382 st382 hQ382
  subst l382 y382 z382
  obtain ⟨rfl, N382q, e382⟩ := hQ382
  have N382 := Fr.app N381 N382q
  refine Go.tr (U' := T382.setTop (mkF m 12 #[.val (.ref a1), .val (.long q2), .second] [])) st382 ?_
  refine Go.st (U' := T382.setTop (mkF m 14 #[.val (.ref a1), .val (.long q2), .second] [(.ref a1), (.ref a1)])) (fun t k => ?_) ?_
  · refine XS.aloadN X382.here hx rfl (hb hby d15_12) rfl rfl ?_
    refine XS.aloadN X382.here hx rfl (hb hby d15_13) rfl rfl ?_
    exact k
  obtain ⟨T383, X383, e383, st383⟩ := getF X382 hx hZ hown (host := "") (Or.inl (own_w hw 17 rfl)) Via.refl e382 PZ381 (g := (mkF m 14 #[.val (.ref a1), .val (.long q2), .second] [(.ref a1), (.ref a1)])) rfl rfl (hb hby d15_14)
  refine Go.st (U' := T383.setTop (mkF m 17 #[.val (.ref a1), .val (.long q2), .second] [(.int (8 : Int32)), (.ref a1)])) (fun t k => st383 _ k) ?_
  refine Go.st (U' := T383.setTop (mkF m 22 #[.val (.ref a1), .val (.long q2), .second] [(.int (((q2.toUInt64 >>> ((32 : Int32) &&& 0x3f).toInt64.toUInt64).toInt64).toInt32)), (.int (8 : Int32)), (.ref a1)])) (fun t k => ?_) ?_
  · refine XS.lloadN X383.here hx rfl (hb hby d15_17) rfl ?_
    refine XS.bipush X383.here hx rfl (hb hby d15_18) ?_
    refine XS.lushr X383.here hx rfl (hb hby d15_20) rfl ?_
    refine XS.l2i X383.here hx rfl (hb hby d15_21) rfl ?_
    exact k
  obtain ⟨cq384, q384, q384'⟩ := PE381.cell
  obtain ⟨_, _, ⟨T384, L384, k384, n384⟩, -, X384, ⟨Lc384, hQ384, l384, y384, z384⟩, st384⟩ := X383.privateBack hx (y := own_y7) hown (mvT hZ (own_w hw 73 rfl)) (mvT hZ (own_w hw 74 rfl)) (own_selp (y := own_y7) (mvT hZ (own_w hw 1 rfl)) (Cond.privateMethod_at (mvP hZ (own_w hw 75 rfl) (args := #[]))) (mvT hZ (own_w hw 74 rfl)) (by decide)) (Cond.privateMethod_at (mvP hZ (own_w hw 75 rfl) (args := #[]))) (mvT hZ (own_w hw 76 rfl)) (by decide) (backOf (W := 0) (rmp8_8 l Z a0 hw [] a1 b1 k1 c0 c1 c2 c3 (0 : Int32) (0 : Int32) (0 : Int32) (0 : Int32) c8 c9 c10 c11 c12 c13 c14 c15 (((q2.toUInt64 >>> ((32 : Int32) &&& 0x3f).toInt64.toUInt64).toInt64).toInt32) T381.heap n0 sz381 PE381 PV381 PZ381 PA381 gA gB nab) hZ (own_w hw 76 rfl) (own_w hw 2 rfl) (by decide) (by decide)) (g := (mkF m 22 #[.val (.ref a1), .val (.long q2), .second] [(.int (((q2.toUInt64 >>> ((32 : Int32) &&& 0x3f).toInt64.toUInt64).toInt64).toInt32)), (.int (8 : Int32)), (.ref a1)])) rfl (by rw [hml]; rfl) (Steps.refl _) (a := a1) (by rw [e383]; exact q384) q384' (argsL := [(.int (8 : Int32)), (.int (((q2.toUInt64 >>> ((32 : Int32) &&& 0x3f).toInt64.toUInt64).toInt64).toInt32))]) (rest := []) (lenOf pd_3 rfl) rfl (by show 2 * 0 + _ ≤ _; exact Nat.le_of_eq rfl) (hb hby d15_22) (fun _ _ => ⟨rfl, e383, (by decide : 0 + 0 ≤ _), (by decide : 0 + 0 ≤ _)⟩)
  dsimp only [Pt.U, Pt.locs, Pt.cells, Pt.slots] at X384 l384 y384 z384 st384 hQ384
  subst l384 y384 z384
  obtain ⟨rfl, N384q, K384, PE384, PV384, PZ384, PA384⟩ := hQ384
  have KK384 : Keep h0 T384.heap [a1, b1] := KK381.trans K384 (allS (Or.inl (List.mem_of_getElem? (i := 0) rfl)) (allS (Or.inl (List.mem_of_getElem? (i := 1) rfl)) all0))
  have PE381_384 := PE381.keep K384
  have sz384 : n0 ≤ T384.heap.size := Nat.le_trans sz381 K384.1
  have N384 := Fr.app N382 N384q
  refine Go.tr (U' := T384.setTop (mkF m 25 #[.val (.ref a1), .val (.long q2), .second] [])) st384 ?_
  refine Go.st (U' := T384.setTop (mkF m 27 #[.val (.ref a1), .val (.long q2), .second] [(.ref a1), (.ref a1)])) (fun t k => ?_) ?_
  · refine XS.aloadN X384.here hx rfl (hb hby d15_25) rfl rfl ?_
    refine XS.aloadN X384.here hx rfl (hb hby d15_26) rfl rfl ?_
    exact k
  obtain ⟨T385, X385, e385, st385⟩ := getF X384 hx hZ hown (host := "") (Or.inl (own_w hw 17 rfl)) Via.refl rfl PZ384 (g := (mkF m 27 #[.val (.ref a1), .val (.long q2), .second] [(.ref a1), (.ref a1)])) rfl rfl (hb hby d15_27)
  refine Go.st (U' := T385.setTop (mkF m 30 #[.val (.ref a1), .val (.long q2), .second] [(.int (8 : Int32)), (.ref a1)])) (fun t k => st385 _ k) ?_
  refine Go.st (U' := T385.setTop (mkF m 34 #[.val (.ref a1), .val (.long q2), .second] [(.int (q2.toInt32)), (.int (12 : Int32)), (.ref a1)])) (fun t k => ?_) ?_
  · refine XS.iconst X385.here hx rfl (hb hby d15_30) ?_
    refine XS.iadd X385.here hx rfl (hb hby d15_31) rfl ?_
    refine XS.lloadN X385.here hx rfl (hb hby d15_32) rfl ?_
    refine XS.l2i X385.here hx rfl (hb hby d15_33) rfl ?_
    exact k
  obtain ⟨cq386, q386, q386'⟩ := PE384.cell
  obtain ⟨_, _, ⟨T386, L386, k386, n386⟩, -, X386, ⟨Lc386, hQ386, l386, y386, z386⟩, st386⟩ := X385.privateBack hx (y := own_y7) hown (mvT hZ (own_w hw 73 rfl)) (mvT hZ (own_w hw 74 rfl)) (own_selp (y := own_y7) (mvT hZ (own_w hw 1 rfl)) (Cond.privateMethod_at (mvP hZ (own_w hw 75 rfl) (args := #[]))) (mvT hZ (own_w hw 74 rfl)) (by decide)) (Cond.privateMethod_at (mvP hZ (own_w hw 75 rfl) (args := #[]))) (mvT hZ (own_w hw 76 rfl)) (by decide) (backOf (W := 0) (rmp8_12 l Z a0 hw [] a1 b1 k1 c0 c1 c2 c3 (0 : Int32) (0 : Int32) (0 : Int32) (0 : Int32) (own_b3 (((q2.toUInt64 >>> ((32 : Int32) &&& 0x3f).toInt64.toUInt64).toInt64).toInt32)) (own_b2 (((q2.toUInt64 >>> ((32 : Int32) &&& 0x3f).toInt64.toUInt64).toInt64).toInt32)) (own_b1 (((q2.toUInt64 >>> ((32 : Int32) &&& 0x3f).toInt64.toUInt64).toInt64).toInt32)) (own_b0 (((q2.toUInt64 >>> ((32 : Int32) &&& 0x3f).toInt64.toUInt64).toInt64).toInt32)) c12 c13 c14 c15 (q2.toInt32) T384.heap n0 sz384 PE384 PV384 PZ384 PA384 gA gB nab) hZ (own_w hw 76 rfl) (own_w hw 2 rfl) (by decide) (by decide)) (g := (mkF m 34 #[.val (.ref a1), .val (.long q2), .second] [(.int (q2.toInt32)), (.int (12 : Int32)), (.ref a1)])) rfl (by rw [hml]; rfl) (Steps.refl _) (a := a1) (by rw [e385]; exact q386) q386' (argsL := [(.int (12 : Int32)), (.int (q2.toInt32))]) (rest := []) (lenOf pd_3 rfl) rfl (by show 2 * 0 + _ ≤ _; exact Nat.le_of_eq rfl) (hb hby d15_34) (fun _ _ => ⟨rfl, e385, (by decide : 0 + 0 ≤ _), (by decide : 0 + 0 ≤ _)⟩)
  dsimp only [Pt.U, Pt.locs, Pt.cells, Pt.slots] at X386 l386 y386 z386 st386 hQ386
  subst l386 y386 z386
  obtain ⟨rfl, N386q, K386, PE386, PV386, PZ386, PA386⟩ := hQ386
  have KK386 : Keep h0 T386.heap [a1, b1] := KK384.trans K386 (allS (Or.inl (List.mem_of_getElem? (i := 0) rfl)) (allS (Or.inl (List.mem_of_getElem? (i := 1) rfl)) all0))
  have PE384_386 := PE384.keep K386
  have sz386 : n0 ≤ T386.heap.size := Nat.le_trans sz384 K386.1
  have N386 := Fr.app N384 N386q
  refine Go.tr (U' := T386.setTop (mkF m 37 #[.val (.ref a1), .val (.long q2), .second] [])) st386 ?_
  refine Go.st (U' := T386.setTop (mkF m 39 #[.val (.ref a1), .val (.long q2), .second] [(.ref a1), (.ref a1)])) (fun t k => ?_) ?_
  · refine XS.aloadN X386.here hx rfl (hb hby d15_37) rfl rfl ?_
    refine XS.dup X386.here hx rfl (hb hby d15_38) rfl rfl ?_
    exact k
  obtain ⟨T387, X387, e387, st387⟩ := getF X386 hx hZ hown (host := "") (Or.inl (own_w hw 17 rfl)) Via.refl rfl PZ386 (g := (mkF m 39 #[.val (.ref a1), .val (.long q2), .second] [(.ref a1), (.ref a1)])) rfl rfl (hb hby d15_39)
  refine Go.st (U' := T387.setTop (mkF m 42 #[.val (.ref a1), .val (.long q2), .second] [(.int (8 : Int32)), (.ref a1)])) (fun t k => st387 _ k) ?_
  refine Go.st (U' := T387.setTop (mkF m 45 #[.val (.ref a1), .val (.long q2), .second] [(.int (16 : Int32)), (.ref a1)])) (fun t k => ?_) ?_
  · refine XS.bipush X387.here hx rfl (hb hby d15_42) ?_
    refine XS.iadd X387.here hx rfl (hb hby d15_44) rfl ?_
    exact k
  obtain ⟨T388, h388, X388, e388, W388, st388⟩ := putF X387 hx hZ hown (host := "") (Or.inl (own_w hw 17 rfl)) Via.refl e387 PZ386 PE386 (Or.inl (own_w hw 18 rfl)) (own_w hw 1 rfl) (ty := .int) (by decide) rfl rfl (g := (mkF m 45 #[.val (.ref a1), .val (.long q2), .second] [(.int (16 : Int32)), (.ref a1)])) rfl rfl (hb hby d15_45)
  have F388 := PZ386.same W388
  have PE386_388 := PE386.wr W388
  have PV386_388 := PV386.other W388 (Or.inr (slot_ne (Or.inl (own_w hw 11 rfl)) (Or.inl (own_w hw 18 rfl)) (by decide) (t := (.array .byte)) (t' := .int) (by decide) (by decide)))
  have PA386_388 := PA386.other W388 (Ne.symm nab)
  have N388 := Fr.snoc X388 N386 gA
  have KK388 : Keep h0 h388 [a1, b1] := KK386.wr W388 (Or.inl (List.mem_of_getElem? (i := 0) rfl))
  have sz388 : n0 ≤ h388.size := Nat.le_trans sz386 (Nat.le_of_eq W388.size.symm)
  refine Go.st (U' := T388.setTop (mkF m 48 #[.val (.ref a1), .val (.long q2), .second] [])) (fun t k => st388 _ k) ?_
  refine own_ret (Q := Ql4 Z a1 b1 k1 c0 c1 c2 c3 c4 c5 c6 c7 c8 c9 c10 c11 c12 c13 c14 c15 q2 h0 n0) (v := none) X388 hlk (fun _ => rfl) (by decide) (by decide) ?_ (fun fs hr => X388.returnOut hx hrt (hb hby d15_48) hr)
  rw [e388]
  exact ⟨rfl, N388, KK388, PE386_388, PV386_388, F388, PA386_388⟩
theorem eff8_8 (m : MethodId) (a1 : Addr) : entryFrame m #[(.ref a1), (.int (8 : Int32)), (.int (8 : Int32)), (.int (0 : Int32))] 5 = mkF m 0 #[.val (.ref a1), .val (.int (8 : Int32)), .val (.int (8 : Int32)), .val (.int (0 : Int32)), .unset] [] := by first | (simp [entryFrame, mkF, argsToLocals, Value.category]; done) | rfl
def Qf8_8 (Z : State) (a1 : Addr) (k1 : ClassId) (c0 : Int32) (c1 : Int32) (c2 : Int32) (c3 : Int32) (c4 : Int32) (c5 : Int32) (c6 : Int32) (c7 : Int32) (c8 : Int32) (c9 : Int32) (c10 : Int32) (c11 : Int32) (c12 : Int32) (c13 : Int32) (c14 : Int32) (c15 : Int32) (h0 : Heap) (n0 : Nat) (v : Option Value) (h : Heap) (L : List Loc) : Prop := v = none ∧ Fr n0 L ∧ Keep h0 h [a1] ∧ Arv Z h a1 k1 .byte (256 : Int32) [(.int c0), (.int c1), (.int c2), (.int c3), (.int c4), (.int c5), (.int c6), (.int c7), (.int c8), (.int c9), (.int c10), (.int c11), (.int c12), (.int c13), (.int c14), (.int c15)] (.int (0 : Int32))
set_option maxRecDepth 65536 in
set_option maxHeartbeats 40000000 in
theorem rmf8_8 (l : Launch) (Z : State) (a0 : Array Value) (hw : ∀ d ∈ tables_1, d.before a0 Z = true) (ws : List Jvm.Cond) (a1 : Addr) (k1 : ClassId) (c0 : Int32) (c1 : Int32) (c2 : Int32) (c3 : Int32) (c4 : Int32) (c5 : Int32) (c6 : Int32) (c7 : Int32) (c8 : Int32) (c9 : Int32) (c10 : Int32) (c11 : Int32) (c12 : Int32) (c13 : Int32) (c14 : Int32) (c15 : Int32) (h0 : Heap) (n0 : Nat) (Z0 : n0 ≤ h0.size) (VA : Arv Z h0 a1 k1 .byte (256 : Int32) [(.int c0), (.int c1), (.int c2), (.int c3), (.int c4), (.int c5), (.int c6), (.int c7), (.int c8), (.int c9), (.int c10), (.int c11), (.int c12), (.int c13), (.int c14), (.int c15)] (.int (0 : Int32))) (gA : n0 ≤ a1) :
    MetFree l own_y4 (head1 (Jvm.Cond.code own_y4 jdk_65_method_110_code 5 none :: ws) own_R1_0_0_16) (fun a U => a = #[(.ref a1), (.int (8 : Int32)), (.int (8 : Int32)), (.int (0 : Int32))] ∧ Z.Warmed39 U.vm ∧ U.heap = h0) (fun _ _ _ _ _ => True) (fun _ U o U' => ∃ v L, o = .returned v ∧ Qf8_8 Z a1 k1 c0 c1 c2 c3 c4 c5 c6 c7 c8 c9 c10 c11 c12 c13 c14 c15 h0 n0 v U'.heap L ∧ FrameEnd U o U' L (own_R1_0_0_16).cells (own_R1_0_0_16).slots) := by
  refine MetFree.of_bodySF (plainFor_of_name pn_4) hisR ?_
  intro p e s m args below meth c s₁ Bd hml0 hP hK
  obtain ⟨rfl, hZ, hh⟩ := hP
  have hx := Bd.exec
  have hby := Bd.bytes
  have hml : c.maxLocals = 5 := hml0
  have hown : s.vm.findClass "java/util/Arrays" = some m.cls := findClass_of_methodNamed Bd.named
  have hnm := (name_of_methodNamed Bd.named Bd.method).1
  have hlk : meth.locks = false := BodyLoose.notSynchronized Bd
  have hrt := Bd.returns
  have X0 : Stand p l e own_R1_0_0_16 s m #[(.ref a1), (.int (8 : Int32)), (.int (8 : Int32)), (.int (0 : Int32))] below meth c s₁ [] 0 0 := Stand.of_body Bd
  have e0 : s₁.heap = h0 := by rw [← hh, Bd.state]; rfl
  have N0 := Fr.nil n0
  refine (show Go p e below (fun s₂ o => ∃ v L, o = .returned v ∧ Qf8_8 Z a1 k1 c0 c1 c2 c3 c4 c5 c6 c7 c8 c9 c10 c11 c12 c13 c14 c15 h0 n0 v s₂.heap L ∧ FrameEnd s o s₂ L 0 0) (s₁.setTop (entryFrame m #[(.ref a1), (.int (8 : Int32)), (.int (8 : Int32)), (.int (0 : Int32))] 5)) from ?_)
  rw [eff8_8]
  obtain ⟨cl389, Ar389, q389, S389, N389, H389, G389⟩ := id VA
  refine Go.st (U' := s₁.setTop (mkF m 4 #[.val (.ref a1), .val (.int (8 : Int32)), .val (.int (8 : Int32)), .val (.int (0 : Int32)), .unset] [(.int (8 : Int32)), (.int (8 : Int32)), (.int (256 : Int32))])) (fun t k => ?_) ?_
  · refine XS.aloadN X0.here hx rfl (hb hby d13_0) rfl rfl ?_
    refine X0.arraylength hx (by rw [e0]; exact Ar389.1) (State.isArrayOf_alike hZ.alike Ar389.2.1) (g := (mkF m 1 #[.val (.ref a1), .val (.int (8 : Int32)), .val (.int (8 : Int32)), .val (.int (0 : Int32)), .unset] [(.ref a1)])) rfl rfl (hb hby d13_1) _ ?_
    rw [len_of S389 N389]
    refine XS.iloadN X0.here hx rfl (hb hby d13_2) rfl ?_
    refine XS.iloadN X0.here hx rfl (hb hby d13_3) rfl ?_
    exact k
  obtain ⟨_, _, ⟨T390, L390, k390, n390⟩, -, X390, ⟨Lc390, hQ390, l390, y390, z390⟩, st390⟩ := Jvm.LawKit.callS X0 hx (y := own_y2) hown (mvT hZ (own_w hw 65 rfl)) (mvT hZ (own_w hw 66 rfl)) (mvT hZ (own_w hw 21 rfl)) (mvT hZ (own_w hw 67 rfl)) (by decide) (backOf (W := 0) (rmk l Z a0 hw [] (256 : Int32) (8 : Int32) (8 : Int32) h0 n0 Z0 (by decide) (by decide) (by decide)) hZ (own_w hw 67 rfl) (own_w hw 21 rfl) (by decide) (by decide)) (g := (mkF m 4 #[.val (.ref a1), .val (.int (8 : Int32)), .val (.int (8 : Int32)), .val (.int (0 : Int32)), .unset] [(.int (8 : Int32)), (.int (8 : Int32)), (.int (256 : Int32))])) rfl (by rw [hml]; rfl) (argsL := [(.int (256 : Int32)), (.int (8 : Int32)), (.int (8 : Int32))]) (rest := []) (lenOf pd_1 rfl) rfl (by show 2 * 0 + _ ≤ _; exact Nat.le_of_eq rfl) (hb hby d13_4) (fun _ _ => ⟨rfl, e0, (by decide : 0 + 0 ≤ _), (by decide : 0 + 0 ≤ _)⟩)
  dsimp only [Pt.U, Pt.locs, Pt.cells, Pt.slots] at X390 l390 y390 z390 st390 hQ390
  subst l390 y390 z390
  obtain ⟨rfl, N390q, e390⟩ := hQ390
  have N390 := Fr.app N0 N390q
  refine Go.st (U' := T390.setTop (mkF m 7 #[.val (.ref a1), .val (.int (8 : Int32)), .val (.int (8 : Int32)), .val (.int (0 : Int32)), .unset] [])) (fun t k => st390 _ k) ?_
  refine Go.st (U' := T390.setTop (mkF m 27 #[.val (.ref a1), .val (.int (8 : Int32)), .val (.int (8 : Int32)), .val (.int (0 : Int32)), .val (.int (8 : Int32))] [])) (fun t k => ?_) ?_
  · refine XS.iloadN X390.here hx rfl (hb hby d13_7) rfl ?_
    refine XS.istore X390.here hx rfl (hb hby d13_8) rfl (l' := #[.val (.ref a1), .val (.int (8 : Int32)), .val (.int (8 : Int32)), .val (.int (0 : Int32)), .val (.int (8 : Int32))]) rfl ?_
    refine XS.iload X390.here hx rfl (hb hby d13_10) rfl ?_
    refine XS.iloadN X390.here hx rfl (hb hby d13_12) rfl ?_
    refine XS.icmpYes X390.here hx rfl (pc0 := 13) (pc' := 27) rfl (hb hby d13_13) rfl (flt (by decide : ¬ ((8 : Int32) < (8 : Int32)))).2.1 (by decide) (by decide) ?_
    exact k
  refine own_ret (Q := Qf8_8 Z a1 k1 c0 c1 c2 c3 c4 c5 c6 c7 c8 c9 c10 c11 c12 c13 c14 c15 h0 n0) (v := none) X390 hlk (fun _ => rfl) (by decide) (by decide) ?_ (fun fs hr => X390.returnOut hx hrt (hb hby d13_27) hr)
  rw [e390]
  exact ⟨rfl, N390, (Keep.refl h0 [a1]), VA⟩
theorem efa8_8 (m : MethodId) (a1 : Addr) : entryFrame m #[(.ref a1), (.int (8 : Int32))] 3 = mkF m 0 #[.val (.ref a1), .val (.int (8 : Int32)), .unset] [] := by first | (simp [entryFrame, mkF, argsToLocals, Value.category]; done) | rfl
def Qa8_8 (Z : State) (a1 : Addr) (b1 : Addr) (k1 : ClassId) (c0 : Int32) (c1 : Int32) (c2 : Int32) (c3 : Int32) (c4 : Int32) (c5 : Int32) (c6 : Int32) (c7 : Int32) (c8 : Int32) (c9 : Int32) (c10 : Int32) (c11 : Int32) (c12 : Int32) (c13 : Int32) (c14 : Int32) (c15 : Int32) (h0 : Heap) (n0 : Nat) (v : Option Value) (h : Heap) (L : List Loc) : Prop := v = none ∧ Fr n0 L ∧ Keep h0 h [a1, b1] ∧ Exa Z h a1 "com/example/portcullis/portcullis/io/CdrOutput" ∧ Fld Z h a1 "com/example/portcullis/portcullis/io/CdrOutput" "buffer" "[B" (.ref b1) ∧ Fld Z h a1 "com/example/portcullis/portcullis/io/CdrOutput" "size" "I" (.int (8 : Int32)) ∧ Arv Z h b1 k1 .byte (256 : Int32) [(.int c0), (.int c1), (.int c2), (.int c3), (.int c4), (.int c5), (.int c6), (.int c7), (.int c8), (.int c9), (.int c10), (.int c11), (.int c12), (.int c13), (.int c14), (.int c15)] (.int (0 : Int32))
set_option maxRecDepth 65536 in
set_option maxHeartbeats 40000000 in
theorem rma8_8 (l : Launch) (Z : State) (a0 : Array Value) (hw : ∀ d ∈ tables_1, d.before a0 Z = true) (ws : List Jvm.Cond) (a1 : Addr) (b1 : Addr) (k1 : ClassId) (c0 : Int32) (c1 : Int32) (c2 : Int32) (c3 : Int32) (c4 : Int32) (c5 : Int32) (c6 : Int32) (c7 : Int32) (c8 : Int32) (c9 : Int32) (c10 : Int32) (c11 : Int32) (c12 : Int32) (c13 : Int32) (c14 : Int32) (c15 : Int32) (h0 : Heap) (n0 : Nat) (Z0 : n0 ≤ h0.size) (EX : Exa Z h0 a1 "com/example/portcullis/portcullis/io/CdrOutput") (FB : Fld Z h0 a1 "com/example/portcullis/portcullis/io/CdrOutput" "buffer" "[B" (.ref b1)) (FS : Fld Z h0 a1 "com/example/portcullis/portcullis/io/CdrOutput" "size" "I" (.int (8 : Int32))) (VA : Arv Z h0 b1 k1 .byte (256 : Int32) [(.int c0), (.int c1), (.int c2), (.int c3), (.int c4), (.int c5), (.int c6), (.int c7), (.int c8), (.int c9), (.int c10), (.int c11), (.int c12), (.int c13), (.int c14), (.int c15)] (.int (0 : Int32))) (gA : n0 ≤ a1) (gB : n0 ≤ b1) (nab : a1 ≠ b1) :
    MetFree l own_y5 (head1 (Jvm.Cond.code own_y5 prog_14_method_14_code 3 none :: ws) own_R2_0_0_48) (fun a U => a = #[(.ref a1), (.int (8 : Int32))] ∧ Z.Warmed39 U.vm ∧ U.heap = h0) (fun _ _ _ _ _ => True) (fun _ U o U' => ∃ v L, o = .returned v ∧ Qa8_8 Z a1 b1 k1 c0 c1 c2 c3 c4 c5 c6 c7 c8 c9 c10 c11 c12 c13 c14 c15 h0 n0 v U'.heap L ∧ FrameEnd U o U' L (own_R2_0_0_48).cells (own_R2_0_0_48).slots) := by
  refine MetFree.of_bodySF (plainFor_of_name pn_0) hisR ?_
  intro p e s m args below meth c s₁ Bd hml0 hP hK
  obtain ⟨rfl, hZ, hh⟩ := hP
  have hx := Bd.exec
  have hby := Bd.bytes
  have hml : c.maxLocals = 3 := hml0
  have hown : s.vm.findClass "com/example/portcullis/portcullis/io/CdrOutput" = some m.cls := findClass_of_methodNamed Bd.named
  have hnm := (name_of_methodNamed Bd.named Bd.method).1
  have hlk : meth.locks = false := BodyLoose.notSynchronized Bd
  have hrt := Bd.returns
  have X0 : Stand p l e own_R2_0_0_48 s m #[(.ref a1), (.int (8 : Int32))] below meth c s₁ [] 0 0 := Stand.of_body Bd
  have e0 : s₁.heap = h0 := by rw [← hh, Bd.state]; rfl
  have N0 := Fr.nil n0
  refine (show Go p e below (fun s₂ o => ∃ v L, o = .returned v ∧ Qa8_8 Z a1 b1 k1 c0 c1 c2 c3 c4 c5 c6 c7 c8 c9 c10 c11 c12 c13 c14 c15 h0 n0 v s₂.heap L ∧ FrameEnd s o s₂ L 0 0) (s₁.setTop (entryFrame m #[(.ref a1), (.int (8 : Int32))] 3)) from ?_)
  rw [efa8_8]
  refine Go.st (U' := s₁.setTop (mkF m 1 #[.val (.ref a1), .val (.int (8 : Int32)), .unset] [(.ref a1)])) (fun t k => ?_) ?_
  · refine XS.aloadN X0.here hx rfl (hb hby d12_0) rfl rfl ?_
    exact k
  obtain ⟨T391, X391, e391, st391⟩ := getF X0 hx hZ hown (host := "") (Or.inl (own_w hw 17 rfl)) Via.refl e0 FS (g := (mkF m 1 #[.val (.ref a1), .val (.int (8 : Int32)), .unset] [(.ref a1)])) rfl rfl (hb hby d12_1)
  refine Go.st (U' := T391.setTop (mkF m 4 #[.val (.ref a1), .val (.int (8 : Int32)), .unset] [(.int (8 : Int32))])) (fun t k => st391 _ k) ?_
  refine Go.st (U' := T391.setTop (mkF m 12 #[.val (.ref a1), .val (.int (8 : Int32)), .val (.int (0 : Int32))] [(.int (0 : Int32)), (.ref a1)])) (fun t k => ?_) ?_
  · refine XS.ineg X391.here hx rfl (hb hby d12_4) rfl ?_
    refine XS.iloadN X391.here hx rfl (hb hby d12_5) rfl ?_
    refine XS.iconst X391.here hx rfl (hb hby d12_6) ?_
    refine XS.isub X391.here hx rfl (hb hby d12_7) rfl ?_
    refine XS.iand X391.here hx rfl (hb hby d12_8) rfl ?_
    refine XS.istoreN X391.here hx rfl (hb hby d12_9) rfl (l' := #[.val (.ref a1), .val (.int (8 : Int32)), .val (.int (0 : Int32))]) rfl ?_
    refine XS.aloadN X391.here hx rfl (hb hby d12_10) rfl rfl ?_
    refine XS.iloadN X391.here hx rfl (hb hby d12_11) rfl ?_
    exact k
  obtain ⟨cq392, q392, q392'⟩ := EX.cell
  obtain ⟨_, _, ⟨T392, L392, k392, n392⟩, -, X392, ⟨Lc392, hQ392, l392, y392, z392⟩, st392⟩ := X391.privateBack hx (y := own_y1) hown (mvT hZ (own_w hw 48 rfl)) (mvT hZ (own_w hw 49 rfl)) (own_selp (y := own_y1) (mvT hZ (own_w hw 1 rfl)) (Cond.privateMethod_at (mvP hZ (own_w hw 50 rfl) (args := #[]))) (mvT hZ (own_w hw 49 rfl)) (by decide)) (Cond.privateMethod_at (mvP hZ (own_w hw 50 rfl) (args := #[]))) (mvT hZ (own_w hw 51 rfl)) (by decide) (backOf (W := 0) (rmr l Z a0 hw [] a1 (0 : Int32) b1 k1 (8 : Int32) [(.int c0), (.int c1), (.int c2), (.int c3), (.int c4), (.int c5), (.int c6), (.int c7), (.int c8), (.int c9), (.int c10), (.int c11), (.int c12), (.int c13), (.int c14), (.int c15)] h0 n0 Z0 FB FS VA (by decide)) hZ (own_w hw 51 rfl) (own_w hw 2 rfl) (by decide) (by decide)) (g := (mkF m 12 #[.val (.ref a1), .val (.int (8 : Int32)), .val (.int (0 : Int32))] [(.int (0 : Int32)), (.ref a1)])) rfl (by rw [hml]; rfl) (Steps.refl _) (a := a1) (by rw [e391]; exact q392) q392' (argsL := [(.int (0 : Int32))]) (rest := []) (lenOf pd_0 rfl) rfl (by show 2 * 0 + _ ≤ _; exact Nat.le_of_eq rfl) (hb hby d12_12) (fun _ _ => ⟨rfl, e391, (by decide : 0 + 0 ≤ _), (by decide : 0 + 0 ≤ _)⟩)
  dsimp only [Pt.U, Pt.locs, Pt.cells, Pt.slots] at X392 l392 y392 z392 st392 hQ392
  subst l392 y392 z392
  obtain ⟨rfl, N392q, e392⟩ := hQ392
  have N392 := Fr.app N0 N392q
  refine Go.tr (U' := T392.setTop (mkF m 15 #[.val (.ref a1), .val (.int (8 : Int32)), .val (.int (0 : Int32))] [])) st392 ?_
  refine Go.st (U' := T392.setTop (mkF m 16 #[.val (.ref a1), .val (.int (8 : Int32)), .val (.int (0 : Int32))] [(.ref a1)])) (fun t k => ?_) ?_
  · refine XS.aloadN X392.here hx rfl (hb hby d12_15) rfl rfl ?_
    exact k
  obtain ⟨T393, X393, e393, st393⟩ := getF X392 hx hZ hown (host := "") (Or.inl (own_w hw 10 rfl)) Via.refl e392 FB (g := (mkF m 16 #[.val (.ref a1), .val (.int (8 : Int32)), .val (.int (0 : Int32))] [(.ref a1)])) rfl rfl (hb hby d12_16)
  refine Go.st (U' := T393.setTop (mkF m 19 #[.val (.ref a1), .val (.int (8 : Int32)), .val (.int (0 : Int32))] [(.ref b1)])) (fun t k => st393 _ k) ?_
  refine Go.st (U' := T393.setTop (mkF m 20 #[.val (.ref a1), .val (.int (8 : Int32)), .val (.int (0 : Int32))] [(.ref a1), (.ref b1)])) (fun t k => ?_) ?_
  · refine XS.aloadN X393.here hx rfl (hb hby d12_19) rfl rfl ?_
    exact k
  obtain ⟨T394, X394, e394, st394⟩ := getF X393 hx hZ hown (host := "") (Or.inl (own_w hw 17 rfl)) Via.refl e393 FS (g := (mkF m 20 #[.val (.ref a1), .val (.int (8 : Int32)), .val (.int (0 : Int32))] [(.ref a1), (.ref b1)])) rfl rfl (hb hby d12_20)
  refine Go.st (U' := T394.setTop (mkF m 23 #[.val (.ref a1), .val (.int (8 : Int32)), .val (.int (0 : Int32))] [(.int (8 : Int32)), (.ref b1)])) (fun t k => st394 _ k) ?_
  refine Go.st (U' := T394.setTop (mkF m 24 #[.val (.ref a1), .val (.int (8 : Int32)), .val (.int (0 : Int32))] [(.ref a1), (.int (8 : Int32)), (.ref b1)])) (fun t k => ?_) ?_
  · refine XS.aloadN X394.here hx rfl (hb hby d12_23) rfl rfl ?_
    exact k
  obtain ⟨T395, X395, e395, st395⟩ := getF X394 hx hZ hown (host := "") (Or.inl (own_w hw 17 rfl)) Via.refl e394 FS (g := (mkF m 24 #[.val (.ref a1), .val (.int (8 : Int32)), .val (.int (0 : Int32))] [(.ref a1), (.int (8 : Int32)), (.ref b1)])) rfl rfl (hb hby d12_24)
  refine Go.st (U' := T395.setTop (mkF m 27 #[.val (.ref a1), .val (.int (8 : Int32)), .val (.int (0 : Int32))] [(.int (8 : Int32)), (.int (8 : Int32)), (.ref b1)])) (fun t k => st395 _ k) ?_
  refine Go.st (U' := T395.setTop (mkF m 30 #[.val (.ref a1), .val (.int (8 : Int32)), .val (.int (0 : Int32))] [(.int (0 : Int32)), (.int (8 : Int32)), (.int (8 : Int32)), (.ref b1)])) (fun t k => ?_) ?_
  · refine XS.iloadN X395.here hx rfl (hb hby d12_27) rfl ?_
    refine XS.iadd X395.here hx rfl (hb hby d12_28) rfl ?_
    refine XS.iconst X395.here hx rfl (hb hby d12_29) ?_
    exact k
  obtain ⟨_, _, ⟨T396, L396, k396, n396⟩, -, X396, ⟨Lc396, hQ396, l396, y396, z396⟩, st396⟩ := Jvm.LawKit.callS X395 hx (y := own_y4) hown (mvT hZ (own_w hw 62 rfl)) (mvT hZ (own_w hw 63 rfl)) (mvT hZ (own_w hw 21 rfl)) (mvT hZ (own_w hw 64 rfl)) (by decide) (backOf (W := 0) (rmf8_8 l Z a0 hw [] b1 k1 c0 c1 c2 c3 c4 c5 c6 c7 c8 c9 c10 c11 c12 c13 c14 c15 h0 n0 Z0 VA gB) hZ (own_w hw 64 rfl) (own_w hw 21 rfl) (by decide) (by decide)) (g := (mkF m 30 #[.val (.ref a1), .val (.int (8 : Int32)), .val (.int (0 : Int32))] [(.int (0 : Int32)), (.int (8 : Int32)), (.int (8 : Int32)), (.ref b1)])) rfl (by rw [hml]; rfl) (argsL := [(.ref b1), (.int (8 : Int32)), (.int (8 : Int32)), (.int (0 : Int32))]) (rest := []) (lenOf pd_2 rfl) rfl (by show 2 * 0 + _ ≤ _; exact Nat.le_of_eq rfl) (hb hby d12_30) (fun _ _ => ⟨rfl, e395, (by decide : 0 + 0 ≤ _), (by decide : 0 + 0 ≤ _)⟩)
  dsimp only [Pt.U, Pt.locs, Pt.cells, Pt.slots] at X396 l396 y396 z396 st396 hQ396
  subst l396 y396 z396
  obtain ⟨rfl, N396q, K396, P396_0⟩ := hQ396
  have KK396 : Keep h0 T396.heap [a1, b1] := (Keep.refl h0 [a1, b1]).trans K396 (allS (Or.inl (List.mem_of_getElem? (i := 1) rfl)) all0)
  have EX_396 := EX.keep K396
  have FB_396 := FB.keep K396 (ninS nab nin0)
  have FS_396 := FS.keep K396 (ninS nab nin0)
  have sz396 : n0 ≤ T396.heap.size := Nat.le_trans Z0 K396.1
  have N396 := Fr.app N392 N396q
  refine Go.st (U' := T396.setTop (mkF m 33 #[.val (.ref a1), .val (.int (8 : Int32)), .val (.int (0 : Int32))] [])) (fun t k => st396 _ k) ?_
  refine Go.st (U' := T396.setTop (mkF m 35 #[.val (.ref a1), .val (.int (8 : Int32)), .val (.int (0 : Int32))] [(.ref a1), (.ref a1)])) (fun t k => ?_) ?_
  · refine XS.aloadN X396.here hx rfl (hb hby d12_33) rfl rfl ?_
    refine XS.dup X396.here hx rfl (hb hby d12_34) rfl rfl ?_
    exact k
  obtain ⟨T397, X397, e397, st397⟩ := getF X396 hx hZ hown (host := "") (Or.inl (own_w hw 17 rfl)) Via.refl rfl FS_396 (g := (mkF m 35 #[.val (.ref a1), .val (.int (8 : Int32)), .val (.int (0 : Int32))] [(.ref a1), (.ref a1)])) rfl rfl (hb hby d12_35)
  refine Go.st (U' := T397.setTop (mkF m 38 #[.val (.ref a1), .val (.int (8 : Int32)), .val (.int (0 : Int32))] [(.int (8 : Int32)), (.ref a1)])) (fun t k => st397 _ k) ?_
  refine Go.st (U' := T397.setTop (mkF m 40 #[.val (.ref a1), .val (.int (8 : Int32)), .val (.int (0 : Int32))] [(.int (8 : Int32)), (.ref a1)])) (fun t k => ?_) ?_
  · refine XS.iloadN X397.here hx rfl (hb hby d12_38) rfl ?_
    refine XS.iadd X397.here hx rfl (hb hby d12_39) rfl ?_
    exact k
  obtain ⟨T398, h398, X398, e398, W398, st398⟩ := putF X397 hx hZ hown (host := "") (Or.inl (own_w hw 17 rfl)) Via.refl e397 FS_396 EX_396 (Or.inl (own_w hw 18 rfl)) (own_w hw 1 rfl) (ty := .int) (by decide) rfl rfl (g := (mkF m 40 #[.val (.ref a1), .val (.int (8 : Int32)), .val (.int (0 : Int32))] [(.int (8 : Int32)), (.ref a1)])) rfl rfl (hb hby d12_40)
  have F398 := FS_396.same W398
  have EX_398 := EX_396.wr W398
  have FB_398 := FB_396.other W398 (Or.inr (slot_ne (Or.inl (own_w hw 11 rfl)) (Or.inl (own_w hw 18 rfl)) (by decide) (t := (.array .byte)) (t' := .int) (by decide) (by decide)))
  have P396_0_398 := P396_0.other W398 (Ne.symm nab)
  have N398 := Fr.snoc X398 N396 gA
  have KK398 : Keep h0 h398 [a1, b1] := KK396.wr W398 (Or.inl (List.mem_of_getElem? (i := 0) rfl))
  have sz398 : n0 ≤ h398.size := Nat.le_trans sz396 (Nat.le_of_eq W398.size.symm)
  refine Go.st (U' := T398.setTop (mkF m 43 #[.val (.ref a1), .val (.int (8 : Int32)), .val (.int (0 : Int32))] [])) (fun t k => st398 _ k) ?_
  refine own_ret (Q := Qa8_8 Z a1 b1 k1 c0 c1 c2 c3 c4 c5 c6 c7 c8 c9 c10 c11 c12 c13 c14 c15 h0 n0) (v := none) X398 hlk (fun _ => rfl) (by decide) (by decide) ?_ (fun fs hr => X398.returnOut hx hrt (hb hby d12_43) hr)
  rw [e398]
  exact ⟨rfl, N398, KK398, EX_398, FB_398, F398, P396_0_398⟩
theorem efl8 (m : MethodId) (a1 : Addr) (q2 : Int64) : entryFrame m #[(.ref a1), (.long q2)] 3 = mkF m 0 #[.val (.ref a1), .val (.long q2), .second] [] := by first | (simp [entryFrame, mkF, argsToLocals, Value.category]; done) | rfl
def Ql8 (Z : State) (a1 : Addr) (b1 : Addr) (k1 : ClassId) (c0 : Int32) (c1 : Int32) (c2 : Int32) (c3 : Int32) (c4 : Int32) (c5 : Int32) (c6 : Int32) (c7 : Int32) (c8 : Int32) (c9 : Int32) (c10 : Int32) (c11 : Int32) (c12 : Int32) (c13 : Int32) (c14 : Int32) (c15 : Int32) (q2 : Int64) (h0 : Heap) (n0 : Nat) (v : Option Value) (h : Heap) (L : List Loc) : Prop := v = none ∧ Fr n0 L ∧ Keep h0 h [a1, b1] ∧ Exa Z h a1 "com/example/portcullis/portcullis/io/CdrOutput" ∧ Fld Z h a1 "com/example/portcullis/portcullis/io/CdrOutput" "buffer" "[B" (.ref b1) ∧ Fld Z h a1 "com/example/portcullis/portcullis/io/CdrOutput" "size" "I" (.int (16 : Int32)) ∧ Arv Z h b1 k1 .byte (256 : Int32) [(.int c0), (.int c1), (.int c2), (.int c3), (.int c4), (.int c5), (.int c6), (.int c7), (.int (own_b3 (own_hi q2))), (.int (own_b2 (own_hi q2))), (.int (own_b1 (own_hi q2))), (.int (own_b0 (own_hi q2))), (.int (own_b3 (q2.toInt32))), (.int (own_b2 (q2.toInt32))), (.int (own_b1 (q2.toInt32))), (.int (own_b0 (q2.toInt32)))] (.int (0 : Int32))
set_option maxRecDepth 65536 in
set_option maxHeartbeats 40000000 in
theorem rml8 (l : Launch) (Z : State) (a0 : Array Value) (hw : ∀ d ∈ tables_1, d.before a0 Z = true) (ws : List Jvm.Cond) (a1 : Addr) (b1 : Addr) (k1 : ClassId) (c0 : Int32) (c1 : Int32) (c2 : Int32) (c3 : Int32) (c4 : Int32) (c5 : Int32) (c6 : Int32) (c7 : Int32) (c8 : Int32) (c9 : Int32) (c10 : Int32) (c11 : Int32) (c12 : Int32) (c13 : Int32) (c14 : Int32) (c15 : Int32) (q2 : Int64) (h0 : Heap) (n0 : Nat) (Z0 : n0 ≤ h0.size) (EX : Exa Z h0 a1 "com/example/portcullis/portcullis/io/CdrOutput") (FB : Fld Z h0 a1 "com/example/portcullis/portcullis/io/CdrOutput" "buffer" "[B" (.ref b1)) (FS : Fld Z h0 a1 "com/example/portcullis/portcullis/io/CdrOutput" "size" "I" (.int (8 : Int32))) (VA : Arv Z h0 b1 k1 .byte (256 : Int32) [(.int c0), (.int c1), (.int c2), (.int c3), (.int c4), (.int c5), (.int c6), (.int c7), (.int c8), (.int c9), (.int c10), (.int c11), (.int c12), (.int c13), (.int c14), (.int c15)] (.int (0 : Int32))) (gA : n0 ≤ a1) (gB : n0 ≤ b1) (nab : a1 ≠ b1) :
    MetFree l own_y9 (head1 (Jvm.Cond.code own_y9 prog_14_method_6_code 3 none :: ws) own_R3_0_0_80) (fun a U => a = #[(.ref a1), (.long q2)] ∧ Z.Warmed39 U.vm ∧ U.heap = h0) (fun _ _ _ _ _ => True) (fun _ U o U' => ∃ v L, o = .returned v ∧ Ql8 Z a1 b1 k1 c0 c1 c2 c3 c4 c5 c6 c7 c8 c9 c10 c11 c12 c13 c14 c15 q2 h0 n0 v U'.heap L ∧ FrameEnd U o U' L (own_R3_0_0_80).cells (own_R3_0_0_80).slots) := by
  refine MetFree.of_bodySF (plainFor_of_name pn_0) hisR ?_
  intro p e s m args below meth c s₁ Bd hml0 hP hK
  obtain ⟨rfl, hZ, hh⟩ := hP
  have hx := Bd.exec
  have hby := Bd.bytes
  have hml : c.maxLocals = 3 := hml0
  have hown : s.vm.findClass "com/example/portcullis/portcullis/io/CdrOutput" = some m.cls := findClass_of_methodNamed Bd.named
  have hnm := (name_of_methodNamed Bd.named Bd.method).1
  have hlk : meth.locks = false := BodyLoose.notSynchronized Bd
  have hrt := Bd.returns
  have X0 : Stand p l e own_R3_0_0_80 s m #[(.ref a1), (.long q2)] below meth c s₁ [] 0 0 := Stand.of_body Bd
  have e0 : s₁.heap = h0 := by rw [← hh, Bd.state]; rfl
  have N0 := Fr.nil n0
  refine (show Go p e below (fun s₂ o => ∃ v L, o = .returned v ∧ Ql8 Z a1 b1 k1 c0 c1 c2 c3 c4 c5 c6 c7 c8 c9 c10 c11 c12 c13 c14 c15 q2 h0 n0 v s₂.heap L ∧ FrameEnd s o s₂ L 0 0) (s₁.setTop (entryFrame m #[(.ref a1), (.long q2)] 3)) from ?_)
  rw [efl8]
  refine Go.st (U' := s₁.setTop (mkF m 3 #[.val (.ref a1), .val (.long q2), .second] [(.int (8 : Int32)), (.ref a1)])) (fun t k => ?_) ?_
  · refine XS.aloadN X0.here hx rfl (hb hby d15_0) rfl rfl ?_
    refine XS.bipush X0.here hx rfl (hb hby d15_1) ?_
    exact k
  obtain ⟨cq399, kq399, q399a, q399b, q399c⟩ := isOf hZ e0 EX
  obtain ⟨_, _, ⟨T399, L399, k399, n399⟩, -, X399, ⟨Lc399, hQ399, l399, y399, z399⟩, st399⟩ := X0.virtualBack hx (y := own_y5) (z := own_y5) hown (mvT hZ (own_w hw 57 rfl)) (mvT hZ (own_w hw 58 rfl)) (notFace_of_selects (args := #[]) (mvT hZ (own_w hw 60 rfl))) (mvT hZ (own_w hw 60 rfl)) (mvT hZ (own_w hw 59 rfl)) (by decide) (backOf (W := 0) (rma8_8 l Z a0 hw [] a1 b1 k1 c0 c1 c2 c3 c4 c5 c6 c7 c8 c9 c10 c11 c12 c13 c14 c15 h0 n0 Z0 EX FB FS VA gA gB nab) hZ (own_w hw 61 rfl) (own_w hw 2 rfl) (by decide) (by decide)) q399a q399c (g := (mkF m 3 #[.val (.ref a1), .val (.long q2), .second] [(.int (8 : Int32)), (.ref a1)])) rfl (by rw [hml]; rfl) (Steps.refl _) (argsL := [(.int (8 : Int32))]) (rest := []) (lenOf pd_0 rfl) rfl (by show 2 * 0 + _ ≤ _; exact Nat.le_of_eq rfl) (hb hby d15_3) (fun _ _ => ⟨rfl, e0, (by decide : 0 + 0 ≤ _), (by decide : 0 + 0 ≤ _)⟩)
  dsimp only [Pt.U, Pt.locs, Pt.cells, Pt.slots] at X399 l399 y399 z399 st399 hQ399
  subst l399 y399 z399
  obtain ⟨rfl, N399q, K399, PE399, PV399, PZ399, PA399⟩ := hQ399
  have KK399 : Keep h0 T399.heap [a1, b1] := (Keep.refl h0 [a1, b1]).trans K399 (allS (Or.inl (List.mem_of_getElem? (i := 0) rfl)) (allS (Or.inl (List.mem_of_getElem? (i := 1) rfl)) all0))
  have EX_399 := EX.keep K399
  have sz399 : n0 ≤ T399.heap.size := Nat.le_trans Z0 K399.1
  have N399 := Fr.app N0 N399q
  refine Go.tr (U' := T399.setTop (mkF m 6 #[.val (.ref a1), .val (.long q2), .second] [])) st399 ?_
  refine Go.st (U' := T399.setTop (mkF m 9 #[.val (.ref a1), .val (.long q2), .second] [(.int (8 : Int32)), (.ref a1)])) (fun t k => ?_) ?_
  · refine XS.aloadN X399.here hx rfl (hb hby d15_6) rfl rfl ?_
    refine XS.bipush X399.here hx rfl (hb hby d15_7) ?_
    exact k
  obtain ⟨cq400, q400, q400'⟩ := PE399.cell
  obtain ⟨_, _, ⟨T400, L400, k400, n400⟩, -, X400, ⟨Lc400, hQ400, l400, y400, z400⟩, st400⟩ := X399.privateBack hx (y := own_y1) hown (mvT hZ (own_w hw 48 rfl)) (mvT hZ (own_w hw 49 rfl)) (own_selp (y := own_y1) (mvT hZ (own_w hw 1 rfl)) (Cond.privateMethod_at (mvP hZ (own_w hw 50 rfl) (args := #[]))) (mvT hZ (own_w hw 49 rfl)) (by decide)) (Cond.privateMethod_at (mvP hZ (own_w hw 50 rfl) (args := #[]))) (mvT hZ (own_w hw 51 rfl)) (by decide) (backOf (W := 0) (rmr l Z a0 hw [] a1 (8 : Int32) b1 k1 (8 : Int32) [(.int c0), (.int c1), (.int c2), (.int c3), (.int c4), (.int c5), (.int c6), (.int c7), (.int c8), (.int c9), (.int c10), (.int c11), (.int c12), (.int c13), (.int c14), (.int c15)] T399.heap n0 sz399 PV399 PZ399 PA399 (by decide)) hZ (own_w hw 51 rfl) (own_w hw 2 rfl) (by decide) (by decide)) (g := (mkF m 9 #[.val (.ref a1), .val (.long q2), .second] [(.int (8 : Int32)), (.ref a1)])) rfl (by rw [hml]; rfl) (Steps.refl _) (a := a1) q400 q400' (argsL := [(.int (8 : Int32))]) (rest := []) (lenOf pd_0 rfl) rfl (by show 2 * 0 + _ ≤ _; exact Nat.le_of_eq rfl) (hb hby d15_9) (fun _ _ => ⟨rfl, rfl, (by decide : 0 + 0 ≤ _), (by decide : 0 + 0 ≤ _)⟩)
  dsimp only [Pt.U, Pt.locs, Pt.cells, Pt.slots] at X400 l400 y400 z400 st400 hQ400
  subst l400 y400 z400
  obtain ⟨rfl, N400q, e400⟩ := hQ400
  have N400 := Fr.app N399 N400q
  refine Go.tr (U' := T400.setTop (mkF m 12 #[.val (.ref a1), .val (.long q2), .second] [])) st400 ?_
  refine Go.st (U' := T400.setTop (mkF m 14 #[.val (.ref a1), .val (.long q2), .second] [(.ref a1), (.ref a1)])) (fun t k => ?_) ?_
  · refine XS.aloadN X400.here hx rfl (hb hby d15_12) rfl rfl ?_
    refine XS.aloadN X400.here hx rfl (hb hby d15_13) rfl rfl ?_
    exact k
  obtain ⟨T401, X401, e401, st401⟩ := getF X400 hx hZ hown (host := "") (Or.inl (own_w hw 17 rfl)) Via.refl e400 PZ399 (g := (mkF m 14 #[.val (.ref a1), .val (.long q2), .second] [(.ref a1), (.ref a1)])) rfl rfl (hb hby d15_14)
  refine Go.st (U' := T401.setTop (mkF m 17 #[.val (.ref a1), .val (.long q2), .second] [(.int (8 : Int32)), (.ref a1)])) (fun t k => st401 _ k) ?_
  refine Go.st (U' := T401.setTop (mkF m 22 #[.val (.ref a1), .val (.long q2), .second] [(.int (((q2.toUInt64 >>> ((32 : Int32) &&& 0x3f).toInt64.toUInt64).toInt64).toInt32)), (.int (8 : Int32)), (.ref a1)])) (fun t k => ?_) ?_
  · refine XS.lloadN X401.here hx rfl (hb hby d15_17) rfl ?_
    refine XS.bipush X401.here hx rfl (hb hby d15_18) ?_
    refine XS.lushr X401.here hx rfl (hb hby d15_20) rfl ?_
    refine XS.l2i X401.here hx rfl (hb hby d15_21) rfl ?_
    exact k
  obtain ⟨cq402, q402, q402'⟩ := PE399.cell
  obtain ⟨_, _, ⟨T402, L402, k402, n402⟩, -, X402, ⟨Lc402, hQ402, l402, y402, z402⟩, st402⟩ := X401.privateBack hx (y := own_y7) hown (mvT hZ (own_w hw 73 rfl)) (mvT hZ (own_w hw 74 rfl)) (own_selp (y := own_y7) (mvT hZ (own_w hw 1 rfl)) (Cond.privateMethod_at (mvP hZ (own_w hw 75 rfl) (args := #[]))) (mvT hZ (own_w hw 74 rfl)) (by decide)) (Cond.privateMethod_at (mvP hZ (own_w hw 75 rfl) (args := #[]))) (mvT hZ (own_w hw 76 rfl)) (by decide) (backOf (W := 0) (rmp8_8 l Z a0 hw [] a1 b1 k1 c0 c1 c2 c3 c4 c5 c6 c7 c8 c9 c10 c11 c12 c13 c14 c15 (((q2.toUInt64 >>> ((32 : Int32) &&& 0x3f).toInt64.toUInt64).toInt64).toInt32) T399.heap n0 sz399 PE399 PV399 PZ399 PA399 gA gB nab) hZ (own_w hw 76 rfl) (own_w hw 2 rfl) (by decide) (by decide)) (g := (mkF m 22 #[.val (.ref a1), .val (.long q2), .second] [(.int (((q2.toUInt64 >>> ((32 : Int32) &&& 0x3f).toInt64.toUInt64).toInt64).toInt32)), (.int (8 : Int32)), (.ref a1)])) rfl (by rw [hml]; rfl) (Steps.refl _) (a := a1) (by rw [e401]; exact q402) q402' (argsL := [(.int (8 : Int32)), (.int (((q2.toUInt64 >>> ((32 : Int32) &&& 0x3f).toInt64.toUInt64).toInt64).toInt32))]) (rest := []) (lenOf pd_3 rfl) rfl (by show 2 * 0 + _ ≤ _; exact Nat.le_of_eq rfl) (hb hby d15_22) (fun _ _ => ⟨rfl, e401, (by decide : 0 + 0 ≤ _), (by decide : 0 + 0 ≤ _)⟩)
  dsimp only [Pt.U, Pt.locs, Pt.cells, Pt.slots] at X402 l402 y402 z402 st402 hQ402
  subst l402 y402 z402
  obtain ⟨rfl, N402q, K402, PE402, PV402, PZ402, PA402⟩ := hQ402
  have KK402 : Keep h0 T402.heap [a1, b1] := KK399.trans K402 (allS (Or.inl (List.mem_of_getElem? (i := 0) rfl)) (allS (Or.inl (List.mem_of_getElem? (i := 1) rfl)) all0))
  have PE399_402 := PE399.keep K402
  have sz402 : n0 ≤ T402.heap.size := Nat.le_trans sz399 K402.1
  have N402 := Fr.app N400 N402q
  refine Go.tr (U' := T402.setTop (mkF m 25 #[.val (.ref a1), .val (.long q2), .second] [])) st402 ?_
  refine Go.st (U' := T402.setTop (mkF m 27 #[.val (.ref a1), .val (.long q2), .second] [(.ref a1), (.ref a1)])) (fun t k => ?_) ?_
  · refine XS.aloadN X402.here hx rfl (hb hby d15_25) rfl rfl ?_
    refine XS.aloadN X402.here hx rfl (hb hby d15_26) rfl rfl ?_
    exact k
  obtain ⟨T403, X403, e403, st403⟩ := getF X402 hx hZ hown (host := "") (Or.inl (own_w hw 17 rfl)) Via.refl rfl PZ402 (g := (mkF m 27 #[.val (.ref a1), .val (.long q2), .second] [(.ref a1), (.ref a1)])) rfl rfl (hb hby d15_27)
  refine Go.st (U' := T403.setTop (mkF m 30 #[.val (.ref a1), .val (.long q2), .second] [(.int (8 : Int32)), (.ref a1)])) (fun t k => st403 _ k) ?_
  refine Go.st (U' := T403.setTop (mkF m 34 #[.val (.ref a1), .val (.long q2), .second] [(.int (q2.toInt32)), (.int (12 : Int32)), (.ref a1)])) (fun t k => ?_) ?_
  · refine XS.iconst X403.here hx rfl (hb hby d15_30) ?_
    refine XS.iadd X403.here hx rfl (hb hby d15_31) rfl ?_
    refine XS.lloadN X403.here hx rfl (hb hby d15_32) rfl ?_
    refine XS.l2i X403.here hx rfl (hb hby d15_33) rfl ?_
    exact k
  obtain ⟨cq404, q404, q404'⟩ := PE402.cell
  obtain ⟨_, _, ⟨T404, L404, k404, n404⟩, -, X404, ⟨Lc404, hQ404, l404, y404, z404⟩, st404⟩ := X403.privateBack hx (y := own_y7) hown (mvT hZ (own_w hw 73 rfl)) (mvT hZ (own_w hw 74 rfl)) (own_selp (y := own_y7) (mvT hZ (own_w hw 1 rfl)) (Cond.privateMethod_at (mvP hZ (own_w hw 75 rfl) (args := #[]))) (mvT hZ (own_w hw 74 rfl)) (by decide)) (Cond.privateMethod_at (mvP hZ (own_w hw 75 rfl) (args := #[]))) (mvT hZ (own_w hw 76 rfl)) (by decide) (backOf (W := 0) (rmp8_12 l Z a0 hw [] a1 b1 k1 c0 c1 c2 c3 c4 c5 c6 c7 (own_b3 (((q2.toUInt64 >>> ((32 : Int32) &&& 0x3f).toInt64.toUInt64).toInt64).toInt32)) (own_b2 (((q2.toUInt64 >>> ((32 : Int32) &&& 0x3f).toInt64.toUInt64).toInt64).toInt32)) (own_b1 (((q2.toUInt64 >>> ((32 : Int32) &&& 0x3f).toInt64.toUInt64).toInt64).toInt32)) (own_b0 (((q2.toUInt64 >>> ((32 : Int32) &&& 0x3f).toInt64.toUInt64).toInt64).toInt32)) c12 c13 c14 c15 (q2.toInt32) T402.heap n0 sz402 PE402 PV402 PZ402 PA402 gA gB nab) hZ (own_w hw 76 rfl) (own_w hw 2 rfl) (by decide) (by decide)) (g := (mkF m 34 #[.val (.ref a1), .val (.long q2), .second] [(.int (q2.toInt32)), (.int (12 : Int32)), (.ref a1)])) rfl (by rw [hml]; rfl) (Steps.refl _) (a := a1) (by rw [e403]; exact q404) q404' (argsL := [(.int (12 : Int32)), (.int (q2.toInt32))]) (rest := []) (lenOf pd_3 rfl) rfl (by show 2 * 0 + _ ≤ _; exact Nat.le_of_eq rfl) (hb hby d15_34) (fun _ _ => ⟨rfl, e403, (by decide : 0 + 0 ≤ _), (by decide : 0 + 0 ≤ _)⟩)
  dsimp only [Pt.U, Pt.locs, Pt.cells, Pt.slots] at X404 l404 y404 z404 st404 hQ404
  subst l404 y404 z404
  obtain ⟨rfl, N404q, K404, PE404, PV404, PZ404, PA404⟩ := hQ404
  have KK404 : Keep h0 T404.heap [a1, b1] := KK402.trans K404 (allS (Or.inl (List.mem_of_getElem? (i := 0) rfl)) (allS (Or.inl (List.mem_of_getElem? (i := 1) rfl)) all0))
  have PE402_404 := PE402.keep K404
  have sz404 : n0 ≤ T404.heap.size := Nat.le_trans sz402 K404.1
  have N404 := Fr.app N402 N404q
  refine Go.tr (U' := T404.setTop (mkF m 37 #[.val (.ref a1), .val (.long q2), .second] [])) st404 ?_
  refine Go.st (U' := T404.setTop (mkF m 39 #[.val (.ref a1), .val (.long q2), .second] [(.ref a1), (.ref a1)])) (fun t k => ?_) ?_
  · refine XS.aloadN X404.here hx rfl (hb hby d15_37) rfl rfl ?_
    refine XS.dup X404.here hx rfl (hb hby d15_38) rfl rfl ?_
    exact k
  obtain ⟨T405, X405, e405, st405⟩ := getF X404 hx hZ hown (host := "") (Or.inl (own_w hw 17 rfl)) Via.refl rfl PZ404 (g := (mkF m 39 #[.val (.ref a1), .val (.long q2), .second] [(.ref a1), (.ref a1)])) rfl rfl (hb hby d15_39)
  refine Go.st (U' := T405.setTop (mkF m 42 #[.val (.ref a1), .val (.long q2), .second] [(.int (8 : Int32)), (.ref a1)])) (fun t k => st405 _ k) ?_
  refine Go.st (U' := T405.setTop (mkF m 45 #[.val (.ref a1), .val (.long q2), .second] [(.int (16 : Int32)), (.ref a1)])) (fun t k => ?_) ?_
  · refine XS.bipush X405.here hx rfl (hb hby d15_42) ?_
    refine XS.iadd X405.here hx rfl (hb hby d15_44) rfl ?_
    exact k
  obtain ⟨T406, h406, X406, e406, W406, st406⟩ := putF X405 hx hZ hown (host := "") (Or.inl (own_w hw 17 rfl)) Via.refl e405 PZ404 PE404 (Or.inl (own_w hw 18 rfl)) (own_w hw 1 rfl) (ty := .int) (by decide) rfl rfl (g := (mkF m 45 #[.val (.ref a1), .val (.long q2), .second] [(.int (16 : Int32)), (.ref a1)])) rfl rfl (hb hby d15_45)
  have F406 := PZ404.same W406
  have PE404_406 := PE404.wr W406
  have PV404_406 := PV404.other W406 (Or.inr (slot_ne (Or.inl (own_w hw 11 rfl)) (Or.inl (own_w hw 18 rfl)) (by decide) (t := (.array .byte)) (t' := .int) (by decide) (by decide)))
  have PA404_406 := PA404.other W406 (Ne.symm nab)
  have N406 := Fr.snoc X406 N404 gA
  have KK406 : Keep h0 h406 [a1, b1] := KK404.wr W406 (Or.inl (List.mem_of_getElem? (i := 0) rfl))
  have sz406 : n0 ≤ h406.size := Nat.le_trans sz404 (Nat.le_of_eq W406.size.symm)
  refine Go.st (U' := T406.setTop (mkF m 48 #[.val (.ref a1), .val (.long q2), .second] [])) (fun t k => st406 _ k) ?_
  refine own_ret (Q := Ql8 Z a1 b1 k1 c0 c1 c2 c3 c4 c5 c6 c7 c8 c9 c10 c11 c12 c13 c14 c15 q2 h0 n0) (v := none) X406 hlk (fun _ => rfl) (by decide) (by decide) ?_ (fun fs hr => X406.returnOut hx hrt (hb hby d15_48) hr)
  rw [e406]
  exact ⟨rfl, N406, KK406, PE404_406, PV404_406, F406, PA404_406⟩
def own_pre (L : List Int32) (z : Int32) : List Int32 := (List.range z.toNatClampNeg).map fun i => L.getD i 0
theorem own_us (L : List Int32) (z : Int32) : (List.map Value.int (own_pre L z)) = (List.range z.toNatClampNeg).map fun i => (List.map Value.int L).getD ((0 : Int32).toNatClampNeg + i) (.int 0) := by
  unfold own_pre
  rw [List.map_map]
  apply List.map_congr_left
  intro i _
  show Value.int (L.getD i 0) = (List.map Value.int L).getD ((0 : Nat) + i) (.int 0)
  rw [Nat.zero_add, own_getI]
theorem own_cut (d : Value) (n : Nat) (us : List Value) : (([] ++ List.replicate n d).take (0 : Int32).toNatClampNeg ++ us ++ ([] ++ List.replicate n d).drop ((0 : Int32).toNatClampNeg + n)) = us := by
  show ([] ++ us ++ ([] ++ List.replicate n d).drop (0 + n)) = us
  rw [List.nil_append, List.nil_append, Nat.zero_add, List.drop_of_length_le (by rw [List.length_replicate]; exact Nat.le_refl _), List.append_nil]
theorem own_cap (z : Int32) (h : ¬ z < (0 : Int32)) (h2 : ¬ (16 : Int32) < z) : z.toNatClampNeg ≤ 16 := by
  rw [Int32.lt_iff_toInt_lt] at h h2
  have k : (16 : Int32).toInt = 16 := rfl
  show z.toInt.toNat ≤ 16
  omega
theorem own_256 (z : Int32) (h2 : ¬ (16 : Int32) < z) : ¬ z = (256 : Int32) ∧ z < (256 : Int32) := by
  rw [Int32.lt_iff_toInt_lt] at h2 ⊢
  have k : (16 : Int32).toInt = 16 := rfl
  have k2 : (256 : Int32).toInt = 256 := rfl
  refine ⟨fun q => ?_, by omega⟩
  rw [q] at h2
  omega
theorem d5_0 : decode jdk_29_method_69_code 0 = .ok (.iload_n 0, 1) := by decide +kernel
theorem d5_1 : decode jdk_29_method_69_code 1 = .ok (.iload_n 1, 1) := by decide +kernel
theorem d5_2 : decode jdk_29_method_69_code 2 = .ok (.if_icmp .gt 7, 3) := by decide +kernel
theorem d5_9 : decode jdk_29_method_69_code 9 = .ok (.iload_n 1, 1) := by decide +kernel
theorem d5_10 : decode jdk_29_method_69_code 10 = .ok (.ireturn, 1) := by decide +kernel
theorem efm (m : MethodId) (p1 : Int32) (p2 : Int32) : entryFrame m #[(.int p1), (.int p2)] 2 = mkF m 0 #[.val (.int p1), .val (.int p2)] [] := by first | (simp [entryFrame, mkF, argsToLocals, Value.category]; done) | rfl
def Qm (Z : State) (p1 : Int32) (p2 : Int32) (h0 : Heap) (n0 : Nat) (v : Option Value) (h : Heap) (L : List Loc) : Prop := v = some (.int p2) ∧ Fr n0 L ∧ h = h0
set_option maxRecDepth 65536 in
set_option maxHeartbeats 40000000 in
theorem rmm (l : Launch) (Z : State) (a0 : Array Value) (hw : ∀ d ∈ tables_1, d.before a0 Z = true) (ws : List Jvm.Cond) (p1 : Int32) (p2 : Int32) (h0 : Heap) (n0 : Nat) (Z0 : n0 ≤ h0.size) (hA : p2 < p1) :
    MetFree l own_y10 (head1 (Jvm.Cond.code own_y10 jdk_29_method_69_code 2 (some .int) :: ws) own_R0_0_0_0) (fun a U => a = #[(.int p1), (.int p2)] ∧ Z.Warmed39 U.vm ∧ U.heap = h0) (fun _ _ _ _ _ => True) (fun _ U o U' => ∃ v L, o = .returned v ∧ Qm Z p1 p2 h0 n0 v U'.heap L ∧ FrameEnd U o U' L (own_R0_0_0_0).cells (own_R0_0_0_0).slots) := by
  refine MetFree.of_bodySF (Jvm.Free.JP.mathPlain rfl (by decide +kernel)) hisR ?_
  intro p e s m args below meth c s₁ Bd hml0 hP hK
  obtain ⟨rfl, hZ, hh⟩ := hP
  have hx := Bd.exec
  have hby := Bd.bytes
  have hml : c.maxLocals = 2 := hml0
  have hown : s.vm.findClass "java/lang/Math" = some m.cls := findClass_of_methodNamed Bd.named
  have hnm := (name_of_methodNamed Bd.named Bd.method).1
  have hlk : meth.locks = false := BodyLoose.notSynchronized Bd
  have hrt := Bd.returns
  have X0 : Stand p l e own_R0_0_0_0 s m #[(.int p1), (.int p2)] below meth c s₁ [] 0 0 := Stand.of_body Bd
  have e0 : s₁.heap = h0 := by rw [← hh, Bd.state]; rfl
  have N0 := Fr.nil n0
  refine (show Go p e below (fun s₂ o => ∃ v L, o = .returned v ∧ Qm Z p1 p2 h0 n0 v s₂.heap L ∧ FrameEnd s o s₂ L 0 0) (s₁.setTop (entryFrame m #[(.int p1), (.int p2)] 2)) from ?_)
  rw [efm]
  refine Go.st (U' := s₁.setTop (mkF m 10 #[.val (.int p1), .val (.int p2)] [(.int p2)])) (fun t k => ?_) ?_
  · refine XS.iloadN X0.here hx rfl (hb hby d5_0) rfl ?_
    refine XS.iloadN X0.here hx rfl (hb hby d5_1) rfl ?_
    refine XS.icmpYes X0.here hx rfl (pc0 := 2) (pc' := 9) rfl (hb hby d5_2) rfl (tlt (hA : p2 < p1)).2.2.1 (by decide) (by decide) ?_
    refine XS.iloadN X0.here hx rfl (hb hby d5_9) rfl ?_
    exact k
  refine own_ret (Q := Qm Z p1 p2 h0 n0) (v := some (.int p2)) X0 hlk (fun h => by rw [hrt] at h; cases h) (by decide) (by decide) ?_ (fun fs hr => retOut X0 hx (t := .int) hrt rfl (Or.inl ⟨rfl, Or.inl rfl, _, rfl⟩) (hb hby d5_10) hr)
  rw [e0]
  exact ⟨rfl, N0, rfl⟩
theorem d4_0 : decode jdk_65_method_121_code 0 = .ok (.iload_n 1, 1) := by decide +kernel
theorem d4_1 : decode jdk_65_method_121_code 1 = .ok (.aload_n 0, 1) := by decide +kernel
theorem d4_2 : decode jdk_65_method_121_code 2 = .ok (.arraylength, 1) := by decide +kernel
theorem d4_3 : decode jdk_65_method_121_code 3 = .ok (.if_icmp .ne 11, 3) := by decide +kernel
theorem d4_14 : decode jdk_65_method_121_code 14 = .ok (.iload_n 1, 1) := by decide +kernel
theorem d4_15 : decode jdk_65_method_121_code 15 = .ok (.newarray .byte, 2) := by decide +kernel
theorem d4_17 : decode jdk_65_method_121_code 17 = .ok (.astore_n 2, 1) := by decide +kernel
theorem d4_18 : decode jdk_65_method_121_code 18 = .ok (.aload_n 0, 1) := by decide +kernel
theorem d4_19 : decode jdk_65_method_121_code 19 = .ok (.iconst 0, 1) := by decide +kernel
theorem d4_20 : decode jdk_65_method_121_code 20 = .ok (.aload_n 2, 1) := by decide +kernel
theorem d4_21 : decode jdk_65_method_121_code 21 = .ok (.iconst 0, 1) := by decide +kernel
theorem d4_22 : decode jdk_65_method_121_code 22 = .ok (.aload_n 0, 1) := by decide +kernel
theorem d4_23 : decode jdk_65_method_121_code 23 = .ok (.arraylength, 1) := by decide +kernel
theorem d4_24 : decode jdk_65_method_121_code 24 = .ok (.iload_n 1, 1) := by decide +kernel
theorem d4_25 : decode jdk_65_method_121_code 25 = .ok (.invokestatic 304, 3) := by decide +kernel
theorem d4_28 : decode jdk_65_method_121_code 28 = .ok (.invokestatic 150, 3) := by decide +kernel
theorem d4_31 : decode jdk_65_method_121_code 31 = .ok (.aload_n 2, 1) := by decide +kernel
theorem d4_32 : decode jdk_65_method_121_code 32 = .ok (.areturn, 1) := by decide +kernel
theorem pd_4 : parseMethodDescriptor "(II)I" = some ⟨[.int, .int], some .int⟩ := by decide +kernel
theorem efc (m : MethodId) (a1 : Addr) (zp : Int32) : entryFrame m #[(.ref a1), (.int zp)] 3 = mkF m 0 #[.val (.ref a1), .val (.int zp), .unset] [] := by first | (simp [entryFrame, mkF, argsToLocals, Value.category]; done) | rfl
abbrev own_R1_1_16_40 : Room := { frames := 1, cells := 1, slots := 16, locals := 40 }
def Qc (Z : State) (a1 : Addr) (zp : Int32) (k1 : ClassId) (L0 : List Int32) (h0 : Heap) (n0 : Nat) (v : Option Value) (h : Heap) (L : List Loc) : Prop := ∃ b : Addr, v = some (.ref b) ∧ Fr n0 L ∧ Keep h0 h [] ∧ n0 ≤ b ∧ h0.size ≤ b ∧ ∃ k : ClassId, Arv Z h b k .byte zp (List.map Value.int (own_pre L0 zp)) (.int (0 : Int32))
set_option maxRecDepth 65536 in
set_option maxHeartbeats 40000000 in
theorem rmc (l : Launch) (Z : State) (a0 : Array Value) (hw : ∀ d ∈ tables_1, d.before a0 Z = true) (ws : List Jvm.Cond) (a1 : Addr) (zp : Int32) (k1 : ClassId) (L0 : List Int32) (h0 : Heap) (n0 : Nat) (Z0 : n0 ≤ h0.size) (VA : Arv Z h0 a1 k1 .byte (256 : Int32) (List.map Value.int L0) (.int (0 : Int32))) (hz0 : ¬ zp < (0 : Int32)) (hz1 : ¬ (16 : Int32) < zp) :
    MetFree l own_y11 (head1 (Jvm.Cond.code own_y11 jdk_65_method_121_code 3 (some (.array .byte)) :: ws) own_R1_1_16_40) (fun a U => a = #[(.ref a1), (.int zp)] ∧ Z.Warmed39 U.vm ∧ U.heap = h0) (fun _ _ _ _ _ => True) (fun _ U o U' => ∃ v L, o = .returned v ∧ Qc Z a1 zp k1 L0 h0 n0 v U'.heap L ∧ FrameEnd U o U' L (own_R1_1_16_40).cells (own_R1_1_16_40).slots) := by
  refine MetFree.of_bodySF (plainFor_of_name pn_4) hisR ?_
  intro p e s m args below meth c s₁ Bd hml0 hP hK
  obtain ⟨rfl, hZ, hh⟩ := hP
  have hx := Bd.exec
  have hby := Bd.bytes
  have hml : c.maxLocals = 3 := hml0
  have hown : s.vm.findClass "java/util/Arrays" = some m.cls := findClass_of_methodNamed Bd.named
  have hnm := (name_of_methodNamed Bd.named Bd.method).1
  have hlk : meth.locks = false := BodyLoose.notSynchronized Bd
  have hrt := Bd.returns
  have X0 : Stand p l e own_R1_1_16_40 s m #[(.ref a1), (.int zp)] below meth c s₁ [] 0 0 := Stand.of_body Bd
  have e0 : s₁.heap = h0 := by rw [← hh, Bd.state]; rfl
  have N0 := Fr.nil n0
  refine (show Go p e below (fun s₂ o => ∃ v L, o = .returned v ∧ Qc Z a1 zp k1 L0 h0 n0 v s₂.heap L ∧ FrameEnd s o s₂ L 1 16) (s₁.setTop (entryFrame m #[(.ref a1), (.int zp)] 3)) from ?_)
  rw [efc]
  obtain ⟨cl407, Ar407, q407, S407, N407, H407, G407⟩ := id VA
  refine Go.st (U' := s₁.setTop (mkF m 15 #[.val (.ref a1), .val (.int zp), .unset] [(.int zp)])) (fun t k => ?_) ?_
  · refine XS.iloadN X0.here hx rfl (hb hby d4_0) rfl ?_
    refine XS.aloadN X0.here hx rfl (hb hby d4_1) rfl rfl ?_
    refine X0.arraylength hx (by rw [e0]; exact Ar407.1) (State.isArrayOf_alike hZ.alike Ar407.2.1) (g := (mkF m 2 #[.val (.ref a1), .val (.int zp), .unset] [(.ref a1), (.int zp)])) rfl rfl (hb hby d4_2) _ ?_
    rw [len_of S407 N407]
    refine XS.icmpYes X0.here hx rfl (pc0 := 3) (pc' := 14) rfl (hb hby d4_3) rfl (feq ((own_256 zp hz1).1 : ¬ (zp = (256 : Int32)))).2 (by decide) (by decide) ?_
    refine XS.iloadN X0.here hx rfl (hb hby d4_14) rfl ?_
    exact k
  obtain ⟨T408, h408, k408, X408, e408, E408, A408, st408⟩ := newP X0 hx hZ (own_w hw 9 rfl) e0 (g := (mkF m 15 #[.val (.ref a1), .val (.int zp), .unset] [(.int zp)])) rfl (hb hby d4_15) rfl hz0 (cap := 16) (own_cap zp hz0 hz1) (by decide) (by decide) (by decide)
  obtain ⟨b408, g408⟩ : ∃ z, z = h0.size := ⟨_, rfl⟩
  rw [← g408] at A408 st408
  have ne_a1_b408 : a1 ≠ b408 := Nat.ne_of_lt (Nat.lt_of_lt_of_le VA.lt (Nat.le_of_eq g408.symm))
  have ge_b408 : n0 ≤ b408 := Nat.le_trans Z0 (Nat.le_of_eq g408.symm)
  have sg_b408 : h0.size ≤ b408 := Nat.le_trans (Keep.refl h0 []).1 (Nat.le_of_eq g408.symm)
  have VA_408 := VA.ext E408
  have KK408 : Keep h0 h408 [] := (Keep.refl h0 []).ext E408
  have V_b408 : Arv Z h408 b408 k408 .byte zp ([] ++ List.replicate zp.toNatClampNeg (.int (0 : Int32))) (.int (0 : Int32)) := (Arv.new A408 hz0).pad (pad_rep [] (.int (0 : Int32)) zp.toNatClampNeg)
  have sz408 : n0 ≤ h408.size := Nat.le_trans Z0 E408.1
  refine Go.st (U' := T408.setTop (mkF m 17 #[.val (.ref a1), .val (.int zp), .unset] [(.ref b408)])) (fun t k => st408 _ k) ?_
  obtain ⟨cl409, Ar409, q409, S409, N409, H409, G409⟩ := id VA_408
  refine Go.st (U' := T408.setTop (mkF m 25 #[.val (.ref a1), .val (.int zp), .val (.ref b408)] [(.int zp), (.int (256 : Int32)), (.int (0 : Int32)), (.ref b408), (.int (0 : Int32)), (.ref a1)])) (fun t k => ?_) ?_
  · refine XS.astoreN X408.here hx rfl (hb hby d4_17) rfl rfl (l' := #[.val (.ref a1), .val (.int zp), .val (.ref b408)]) rfl ?_
    refine XS.aloadN X408.here hx rfl (hb hby d4_18) rfl rfl ?_
    refine XS.iconst X408.here hx rfl (hb hby d4_19) ?_
    refine XS.aloadN X408.here hx rfl (hb hby d4_20) rfl rfl ?_
    refine XS.iconst X408.here hx rfl (hb hby d4_21) ?_
    refine XS.aloadN X408.here hx rfl (hb hby d4_22) rfl rfl ?_
    refine X408.arraylength hx (by rw [e408]; exact Ar409.1) (State.isArrayOf_alike hZ.alike Ar409.2.1) (g := (mkF m 23 #[.val (.ref a1), .val (.int zp), .val (.ref b408)] [(.ref a1), (.int (0 : Int32)), (.ref b408), (.int (0 : Int32)), (.ref a1)])) rfl rfl (hb hby d4_23) _ ?_
    rw [len_of S409 N409]
    refine XS.iloadN X408.here hx rfl (hb hby d4_24) rfl ?_
    exact k
  obtain ⟨_, _, ⟨T410, L410, k410, n410⟩, -, X410, ⟨Lc410, hQ410, l410, y410, z410⟩, st410⟩ := Jvm.LawKit.callS X408 hx (y := own_y10) hown (mvT hZ (own_w hw 23 rfl)) (mvT hZ (own_w hw 24 rfl)) (mvT hZ (own_w hw 25 rfl)) (mvT hZ (own_w hw 26 rfl)) (by decide) (backOf (W := 4) (rmm l Z a0 hw [] (256 : Int32) zp h408 n0 sz408 (own_256 zp hz1).2) hZ (own_w hw 26 rfl) (own_w hw 25 rfl) (by decide) (by decide)) (g := (mkF m 25 #[.val (.ref a1), .val (.int zp), .val (.ref b408)] [(.int zp), (.int (256 : Int32)), (.int (0 : Int32)), (.ref b408), (.int (0 : Int32)), (.ref a1)])) rfl (by rw [hml]; rfl) (argsL := [(.int (256 : Int32)), (.int zp)]) (rest := [(.int (0 : Int32)), (.ref b408), (.int (0 : Int32)), (.ref a1)]) (lenOf pd_4 rfl) rfl (by show 2 * 0 + _ ≤ _; exact Nat.le_of_eq rfl) (hb hby d4_25) (fun _ _ => ⟨rfl, e408, (by decide : 1 + 0 ≤ _), (by decide : 16 + 0 ≤ _)⟩)
  dsimp only [Pt.U, Pt.locs, Pt.cells, Pt.slots] at X410 l410 y410 z410 st410 hQ410
  subst l410 y410 z410
  obtain ⟨rfl, N410q, e410⟩ := hQ410
  have N410 := Fr.app N0 N410q
  refine Go.st (U' := T410.setTop (mkF m 28 #[.val (.ref a1), .val (.int zp), .val (.ref b408)] [(.int zp), (.int (0 : Int32)), (.ref b408), (.int (0 : Int32)), (.ref a1)])) (fun t k => st410 _ k) ?_
  obtain ⟨T411, h411, L411, X411, e411, N411, K411, V411, st411⟩ := cpA X410 hx hZ hown (own_w hw 27 rfl) (own_w hw 30 rfl) (own_w hw 28 rfl) (own_w hw 29 rfl) e410 VA_408 V_b408 (us := (List.map Value.int (own_pre L0 zp))) (Or.inl ⟨rfl, rfl⟩) (by decide) (by decide) hz0 (by show 0 + zp.toNatClampNeg ≤ 256; have := own_cap zp hz0 hz1; omega) (by show 0 + zp.toNatClampNeg ≤ zp.toNatClampNeg; omega) (own_us L0 zp) (by rw [List.nil_append, List.length_replicate]; show 0 + zp.toNatClampNeg ≤ zp.toNatClampNeg; omega) N410 ge_b408 (g := (mkF m 28 #[.val (.ref a1), .val (.int zp), .val (.ref b408)] [(.int zp), (.int (0 : Int32)), (.ref b408), (.int (0 : Int32)), (.ref a1)])) rfl (by rw [hml]; rfl) rfl (hb hby d4_28) (by decide) (W := 0) (by show 2 * 0 + _ ≤ _; exact Nat.le_of_eq rfl) (by decide)
  have KK411 : Keep h0 h411 [] := KK408.trans K411 (allS (Or.inr sg_b408) all0)
  have VA_411 := VA_408.keep K411 (ninS ne_a1_b408 nin0)
  have sz411 : n0 ≤ h411.size := Nat.le_trans sz408 K411.1
  rw [own_cut] at V411
  refine Go.st (U' := T411.setTop (mkF m 31 #[.val (.ref a1), .val (.int zp), .val (.ref b408)] [])) (fun t k => st411 _ k) ?_
  refine Go.st (U' := T411.setTop (mkF m 32 #[.val (.ref a1), .val (.int zp), .val (.ref b408)] [(.ref b408)])) (fun t k => ?_) ?_
  · refine XS.aloadN X411.here hx rfl (hb hby d4_31) rfl rfl ?_
    exact k
  refine own_ret (Q := Qc Z a1 zp k1 L0 h0 n0) (v := some (.ref b408)) X411 hlk (fun h => by rw [hrt] at h; cases h) (by decide) (by decide) ?_ (fun fs hr => retOut X411 hx hrt rfl (Or.inr (Or.inr (Or.inr (Or.inr ⟨rfl, rfl, rfl⟩)))) (hb hby d4_32) hr)
  rw [e411]
  exact ⟨_, rfl, N411, KK411, ge_b408, sg_b408, _, V411⟩
theorem d3_0 : decode prog_14_method_12_code 0 = .ok (.aload_n 0, 1) := by decide +kernel
theorem d3_1 : decode prog_14_method_12_code 1 = .ok (.getfield 9, 3) := by decide +kernel
theorem d3_4 : decode prog_14_method_12_code 4 = .ok (.aload_n 0, 1) := by decide +kernel
theorem d3_5 : decode prog_14_method_12_code 5 = .ok (.getfield 17, 3) := by decide +kernel
theorem d3_8 : decode prog_14_method_12_code 8 = .ok (.invokestatic 89, 3) := by decide +kernel
theorem d3_11 : decode prog_14_method_12_code 11 = .ok (.areturn, 1) := by decide +kernel
theorem pd_5 : parseMethodDescriptor "([BI)[B" = some ⟨[(.array .byte), .int], some (.array .byte)⟩ := by decide +kernel
theorem eft (m : MethodId) (a1 : Addr) : entryFrame m #[(.ref a1)] 1 = mkF m 0 #[.val (.ref a1)] [] := by first | (simp [entryFrame, mkF, argsToLocals, Value.category]; done) | rfl
abbrev own_R2_1_16_72 : Room := { frames := 2, cells := 1, slots := 16, locals := 72 }
def Qt (Z : State) (a1 : Addr) (b1 : Addr) (k1 : ClassId) (zp : Int32) (L0 : List Int32) (h0 : Heap) (n0 : Nat) (v : Option Value) (h : Heap) (L : List Loc) : Prop := ∃ b : Addr, v = some (.ref b) ∧ Fr n0 L ∧ Keep h0 h [] ∧ n0 ≤ b ∧ h0.size ≤ b ∧ ∃ k : ClassId, Arv Z h b k .byte zp (List.map Value.int (own_pre L0 zp)) (.int (0 : Int32))
set_option maxRecDepth 65536 in
set_option maxHeartbeats 40000000 in
theorem rmt (l : Launch) (Z : State) (a0 : Array Value) (hw : ∀ d ∈ tables_1, d.before a0 Z = true) (ws : List Jvm.Cond) (a1 : Addr) (b1 : Addr) (k1 : ClassId) (zp : Int32) (L0 : List Int32) (h0 : Heap) (n0 : Nat) (Z0 : n0 ≤ h0.size) (FB : Fld Z h0 a1 "com/example/portcullis/portcullis/io/CdrOutput" "buffer" "[B" (.ref b1)) (FS : Fld Z h0 a1 "com/example/portcullis/portcullis/io/CdrOutput" "size" "I" (.int zp)) (VA : Arv Z h0 b1 k1 .byte (256 : Int32) (List.map Value.int L0) (.int (0 : Int32))) (hz0 : ¬ zp < (0 : Int32)) (hz1 : ¬ (16 : Int32) < zp) :
    MetFree l own_y12 (head1 (Jvm.Cond.code own_y12 prog_14_method_12_code 1 (some (.array .byte)) :: ws) own_R2_1_16_72) (fun a U => a = #[(.ref a1)] ∧ Z.Warmed39 U.vm ∧ U.heap = h0) (fun _ _ _ _ _ => True) (fun _ U o U' => ∃ v L, o = .returned v ∧ Qt Z a1 b1 k1 zp L0 h0 n0 v U'.heap L ∧ FrameEnd U o U' L (own_R2_1_16_72).cells (own_R2_1_16_72).slots) := by
  refine MetFree.of_bodySF (plainFor_of_name pn_0) hisR ?_
  intro p e s m args below meth c s₁ Bd hml0 hP hK
  obtain ⟨rfl, hZ, hh⟩ := hP
  have hx := Bd.exec
  have hby := Bd.bytes
  have hml : c.maxLocals = 1 := hml0
  have hown : s.vm.findClass "com/example/portcullis/portcullis/io/CdrOutput" = some m.cls := findClass_of_methodNamed Bd.named
  have hnm := (name_of_methodNamed Bd.named Bd.method).1
  have hlk : meth.locks = false := BodyLoose.notSynchronized Bd
  have hrt := Bd.returns
  have X0 : Stand p l e own_R2_1_16_72 s m #[(.ref a1)] below meth c s₁ [] 0 0 := Stand.of_body Bd
  have e0 : s₁.heap = h0 := by rw [← hh, Bd.state]; rfl
  have N0 := Fr.nil n0
  refine (show Go p e below (fun s₂ o => ∃ v L, o = .returned v ∧ Qt Z a1 b1 k1 zp L0 h0 n0 v s₂.heap L ∧ FrameEnd s o s₂ L 1 16) (s₁.setTop (entryFrame m #[(.ref a1)] 1)) from ?_)
  rw [eft]
  refine Go.st (U' := s₁.setTop (mkF m 1 #[.val (.ref a1)] [(.ref a1)])) (fun t k => ?_) ?_
  · refine XS.aloadN X0.here hx rfl (hb hby d3_0) rfl rfl ?_
    exact k
  obtain ⟨T412, X412, e412, st412⟩ := getF X0 hx hZ hown (host := "") (Or.inl (own_w hw 10 rfl)) Via.refl e0 FB (g := (mkF m 1 #[.val (.ref a1)] [(.ref a1)])) rfl rfl (hb hby d3_1)
  refine Go.st (U' := T412.setTop (mkF m 4 #[.val (.ref a1)] [(.ref b1)])) (fun t k => st412 _ k) ?_
  refine Go.st (U' := T412.setTop (mkF m 5 #[.val (.ref a1)] [(.ref a1), (.ref b1)])) (fun t k => ?_) ?_
  · refine XS.aloadN X412.here hx rfl (hb hby d3_4) rfl rfl ?_
    exact k
  obtain ⟨T413, X413, e413, st413⟩ := getF X412 hx hZ hown (host := "") (Or.inl (own_w hw 17 rfl)) Via.refl e412 FS (g := (mkF m 5 #[.val (.ref a1)] [(.ref a1), (.ref b1)])) rfl rfl (hb hby d3_5)
  refine Go.st (U' := T413.setTop (mkF m 8 #[.val (.ref a1)] [(.int zp), (.ref b1)])) (fun t k => st413 _ k) ?_
  obtain ⟨_, _, ⟨T414, L414, k414, n414⟩, -, X414, ⟨Lc414, hQ414, l414, y414, z414⟩, st414⟩ := Jvm.LawKit.callS X413 hx (y := own_y11) hown (mvT hZ (own_w hw 19 rfl)) (mvT hZ (own_w hw 20 rfl)) (mvT hZ (own_w hw 21 rfl)) (mvT hZ (own_w hw 22 rfl)) (by decide) (backOf (W := 0) (rmc l Z a0 hw [] b1 zp k1 L0 h0 n0 Z0 VA hz0 hz1) hZ (own_w hw 22 rfl) (own_w hw 21 rfl) (by decide) (by decide)) (g := (mkF m 8 #[.val (.ref a1)] [(.int zp), (.ref b1)])) rfl (by rw [hml]; rfl) (argsL := [(.ref b1), (.int zp)]) (rest := []) (lenOf pd_5 rfl) rfl (by show 2 * 0 + _ ≤ _; exact Nat.le_of_eq rfl) (hb hby d3_8) (fun _ _ => ⟨rfl, e413, (by decide : 0 + 1 ≤ _), (by decide : 0 + 16 ≤ _)⟩)
  dsimp only [Pt.U, Pt.locs, Pt.cells, Pt.slots] at X414 l414 y414 z414 st414 hQ414
  subst l414 y414 z414
  obtain ⟨b414, rfl, N414q, K414, ge_b414, sb_b414, kk414, PA414⟩ := hQ414
  have ne_a1_b414 : a1 ≠ b414 := Nat.ne_of_lt (Nat.lt_of_lt_of_le FB.lt sb_b414)
  have ne_b1_b414 : b1 ≠ b414 := Nat.ne_of_lt (Nat.lt_of_lt_of_le VA.lt sb_b414)
  have sg_b414 : h0.size ≤ b414 := Nat.le_trans (Keep.refl h0 []).1 sb_b414
  have KK414 : Keep h0 T414.heap [] := (Keep.refl h0 []).trans K414 all0
  have FB_414 := FB.keep K414 nin0
  have FS_414 := FS.keep K414 nin0
  have VA_414 := VA.keep K414 nin0
  have sz414 : n0 ≤ T414.heap.size := Nat.le_trans Z0 K414.1
  have N414 := Fr.app N0 N414q
  refine Go.st (U' := T414.setTop (mkF m 11 #[.val (.ref a1)] [(.ref b414)])) (fun t k => st414 _ k) ?_
  refine own_ret (Q := Qt Z a1 b1 k1 zp L0 h0 n0) (v := some (.ref b414)) X414 hlk (fun h => by rw [hrt] at h; cases h) (by decide) (by decide) ?_ (fun fs hr => retOut X414 hx hrt rfl (Or.inr (Or.inr (Or.inr (Or.inr ⟨rfl, rfl, rfl⟩)))) (hb hby d3_11) hr)
  exact ⟨_, rfl, N414, KK414, ge_b414, sg_b414, _, PA414⟩
theorem d6_0 : decode prog_14_method_11_code 0 = .ok (.aload_n 0, 1) := by decide +kernel
theorem d6_1 : decode prog_14_method_11_code 1 = .ok (.getfield 17, 3) := by decide +kernel
theorem d6_4 : decode prog_14_method_11_code 4 = .ok (.ireturn, 1) := by decide +kernel
theorem efz (m : MethodId) (a1 : Addr) : entryFrame m #[(.ref a1)] 1 = mkF m 0 #[.val (.ref a1)] [] := by first | (simp [entryFrame, mkF, argsToLocals, Value.category]; done) | rfl
def Qz (Z : State) (a1 : Addr) (u : Int32) (h0 : Heap) (n0 : Nat) (v : Option Value) (h : Heap) (L : List Loc) : Prop := v = some (.int u) ∧ Fr n0 L ∧ h = h0
set_option maxRecDepth 65536 in
set_option maxHeartbeats 40000000 in
theorem rmz (l : Launch) (Z : State) (a0 : Array Value) (hw : ∀ d ∈ tables_1, d.before a0 Z = true) (ws : List Jvm.Cond) (a1 : Addr) (u : Int32) (h0 : Heap) (n0 : Nat) (Z0 : n0 ≤ h0.size) (FS : Fld Z h0 a1 "com/example/portcullis/portcullis/io/CdrOutput" "size" "I" (.int u)) :
    MetFree l own_y13 (head1 (Jvm.Cond.code own_y13 prog_14_method_11_code 1 (some .int) :: ws) own_R0_0_0_0) (fun a U => a = #[(.ref a1)] ∧ Z.Warmed39 U.vm ∧ U.heap = h0) (fun _ _ _ _ _ => True) (fun _ U o U' => ∃ v L, o = .returned v ∧ Qz Z a1 u h0 n0 v U'.heap L ∧ FrameEnd U o U' L (own_R0_0_0_0).cells (own_R0_0_0_0).slots) := by
  refine MetFree.of_bodySF (plainFor_of_name pn_0) hisR ?_
  intro p e s m args below meth c s₁ Bd hml0 hP hK
  obtain ⟨rfl, hZ, hh⟩ := hP
  have hx := Bd.exec
  have hby := Bd.bytes
  have hml : c.maxLocals = 1 := hml0
  have hown : s.vm.findClass "com/example/portcullis/portcullis/io/CdrOutput" = some m.cls := findClass_of_methodNamed Bd.named
  have hnm := (name_of_methodNamed Bd.named Bd.method).1
  have hlk : meth.locks = false := BodyLoose.notSynchronized Bd
  have hrt := Bd.returns
  have X0 : Stand p l e own_R0_0_0_0 s m #[(.ref a1)] below meth c s₁ [] 0 0 := Stand.of_body Bd
  have e0 : s₁.heap = h0 := by rw [← hh, Bd.state]; rfl
  have N0 := Fr.nil n0
  refine (show Go p e below (fun s₂ o => ∃ v L, o = .returned v ∧ Qz Z a1 u h0 n0 v s₂.heap L ∧ FrameEnd s o s₂ L 0 0) (s₁.setTop (entryFrame m #[(.ref a1)] 1)) from ?_)
  rw [efz]
  refine Go.st (U' := s₁.setTop (mkF m 1 #[.val (.ref a1)] [(.ref a1)])) (fun t k => ?_) ?_
  · refine XS.aloadN X0.here hx rfl (hb hby d6_0) rfl rfl ?_
    exact k
  obtain ⟨T415, X415, e415, st415⟩ := getF X0 hx hZ hown (host := "") (Or.inl (own_w hw 17 rfl)) Via.refl e0 FS (g := (mkF m 1 #[.val (.ref a1)] [(.ref a1)])) rfl rfl (hb hby d6_1)
  refine Go.st (U' := T415.setTop (mkF m 4 #[.val (.ref a1)] [(.int u)])) (fun t k => st415 _ k) ?_
  refine own_ret (Q := Qz Z a1 u h0 n0) (v := some (.int u)) X415 hlk (fun h => by rw [hrt] at h; cases h) (by decide) (by decide) ?_ (fun fs hr => retOut X415 hx (t := .int) hrt rfl (Or.inl ⟨rfl, Or.inl rfl, _, rfl⟩) (hb hby d6_4) hr)
  rw [e415]
  exact ⟨rfl, N0, rfl⟩
theorem d8_0 : decode method_4_code 0 = .ok (.iload_n 1, 1) := by decide +kernel
theorem d8_1 : decode method_4_code 1 = .ok (.aload_n 0, 1) := by decide +kernel
theorem d8_2 : decode method_4_code 2 = .ok (.arraylength, 1) := by decide +kernel
theorem d8_3 : decode method_4_code 3 = .ok (.if_icmp .ge 13, 3) := by decide +kernel
theorem d8_6 : decode method_4_code 6 = .ok (.aload_n 0, 1) := by decide +kernel
theorem d8_7 : decode method_4_code 7 = .ok (.iload_n 1, 1) := by decide +kernel
theorem d8_8 : decode method_4_code 8 = .ok (.baload, 1) := by decide +kernel
theorem d8_9 : decode method_4_code 9 = .ok (.sipush 255, 3) := by decide +kernel
theorem d8_12 : decode method_4_code 12 = .ok (.iand, 1) := by decide +kernel
theorem d8_13 : decode method_4_code 13 = .ok (.goto 4, 3) := by decide +kernel
theorem d8_16 : decode method_4_code 16 = .ok (.iconst 0, 1) := by decide +kernel
theorem d8_17 : decode method_4_code 17 = .ok (.ireturn, 1) := by decide +kernel
theorem pn_1 : plainName "com/example/portcullis/portcullis/io/CdrOutputToByteArrayPinLaw" = true := by first | (simp [plainName, overriddenIn]; done) | decide +kernel
theorem efat (m : MethodId) (a1 : Addr) (p2 : Int32) : entryFrame m #[(.ref a1), (.int p2)] 2 = mkF m 0 #[.val (.ref a1), .val (.int p2)] [] := by first | (simp [entryFrame, mkF, argsToLocals, Value.category]; done) | rfl
def fAt (zn : Int32) (L0 : List Int32) (p2 : Int32) : Int32 := (if p2 < zn then ((L0.getD (p2).toNatClampNeg (0 : Int32)) &&& (255 : Int32)) else (0 : Int32))
def Qat (Z : State) (a1 : Addr) (p2 : Int32) (k1 : ClassId) (zn : Int32) (L0 : List Int32) (h0 : Heap) (n0 : Nat) (v : Option Value) (h : Heap) (L : List Loc) : Prop := v = some (.int (fAt zn L0 p2)) ∧ Fr n0 L ∧ h = h0
set_option maxRecDepth 65536 in
set_option maxHeartbeats 40000000 in
theorem rmat (l : Launch) (Z : State) (a0 : Array Value) (hw : ∀ d ∈ tables_1, d.before a0 Z = true) (ws : List Jvm.Cond) (a1 : Addr) (p2 : Int32) (k1 : ClassId) (zn : Int32) (L0 : List Int32) (h0 : Heap) (n0 : Nat) (Z0 : n0 ≤ h0.size) (VA : Arv Z h0 a1 k1 .byte zn (List.map Value.int L0) (.int (0 : Int32))) (hN : ¬ p2 < 0) :
    MetFree l own_y14 (head1 (Jvm.Cond.code own_y14 method_4_code 2 (some .int) :: ws) own_R0_0_0_0) (fun a U => a = #[(.ref a1), (.int p2)] ∧ Z.Warmed39 U.vm ∧ U.heap = h0) (fun _ _ _ _ _ => True) (fun _ U o U' => ∃ v L, o = .returned v ∧ Qat Z a1 p2 k1 zn L0 h0 n0 v U'.heap L ∧ FrameEnd U o U' L (own_R0_0_0_0).cells (own_R0_0_0_0).slots) := by
  refine MetFree.of_bodySF (plainFor_of_name pn_1) hisR ?_
  intro p e s m args below meth c s₁ Bd hml0 hP hK
  obtain ⟨rfl, hZ, hh⟩ := hP
  have hx := Bd.exec
  have hby := Bd.bytes
  have hml : c.maxLocals = 2 := hml0
  have hown : s.vm.findClass "com/example/portcullis/portcullis/io/CdrOutputToByteArrayPinLaw" = some m.cls := findClass_of_methodNamed Bd.named
  have hnm := (name_of_methodNamed Bd.named Bd.method).1
  have hlk : meth.locks = false := BodyLoose.notSynchronized Bd
  have hrt := Bd.returns
  have X0 : Stand p l e own_R0_0_0_0 s m #[(.ref a1), (.int p2)] below meth c s₁ [] 0 0 := Stand.of_body Bd
  have e0 : s₁.heap = h0 := by rw [← hh, Bd.state]; rfl
  have N0 := Fr.nil n0
  refine (show Go p e below (fun s₂ o => ∃ v L, o = .returned v ∧ Qat Z a1 p2 k1 zn L0 h0 n0 v s₂.heap L ∧ FrameEnd s o s₂ L 0 0) (s₁.setTop (entryFrame m #[(.ref a1), (.int p2)] 2)) from ?_)
  rw [efat]
  obtain ⟨cl416, Ar416, q416, S416, N416, H416, G416⟩ := id VA
  refine Go.st (U' := s₁.setTop (mkF m 3 #[.val (.ref a1), .val (.int p2)] [(.int zn), (.int p2)])) (fun t k => ?_) ?_
  · refine XS.iloadN X0.here hx rfl (hb hby d8_0) rfl ?_
    refine XS.aloadN X0.here hx rfl (hb hby d8_1) rfl rfl ?_
    refine X0.arraylength hx (by rw [e0]; exact Ar416.1) (State.isArrayOf_alike hZ.alike Ar416.2.1) (g := (mkF m 2 #[.val (.ref a1), .val (.int p2)] [(.ref a1), (.int p2)])) rfl rfl (hb hby d8_2) _ ?_
    rw [len_of S416 N416]
    exact k
  by_cases hc417 : p2 < zn
  · refine Go.st (U' := s₁.setTop (mkF m 17 #[.val (.ref a1), .val (.int p2)] [(.int ((L0.getD (p2).toNatClampNeg (0 : Int32)) &&& (255 : Int32)))])) (fun t k => ?_) ?_
    · refine XS.icmpNo X0.here hx rfl (hb hby d8_3) rfl (tlt hc417).2.1 ?_
      refine XS.aloadN X0.here hx rfl (hb hby d8_6) rfl rfl ?_
      refine XS.iloadN X0.here hx rfl (hb hby d8_7) rfl ?_
      refine X0.baloadBytes hx (j := p2) (v := (.int (L0.getD (p2).toNatClampNeg (0 : Int32)))) (by rw [e0]; exact Ar416.1) (State.isArrayOf_alike hZ.alike Ar416.2.1) Ar416.2.2 (inb_of (j := p2) S416 ⟨hN, hc417⟩) (Has.at H416 (inb_of (j := p2) S416 ⟨hN, hc417⟩) (own_getI L0 _)) (g := (mkF m 8 #[.val (.ref a1), .val (.int p2)] [(.int p2), (.ref a1)])) rfl rfl (hb hby d8_8) _ ?_
      refine XS.sipush X0.here hx rfl (hb hby d8_9) ?_
      refine XS.iand X0.here hx rfl (hb hby d8_12) rfl ?_
      refine XS.goto X0.here hx rfl (pc0 := 13) (pc' := 17) rfl (hb hby d8_13) (by decide) (by decide) ?_
      exact k
    refine own_ret (Q := Qat Z a1 p2 k1 zn L0 h0 n0) (v := some (.int ((L0.getD (p2).toNatClampNeg (0 : Int32)) &&& (255 : Int32)))) X0 hlk (fun h => by rw [hrt] at h; cases h) (by decide) (by decide) ?_ (fun fs hr => retOut X0 hx (t := .int) hrt rfl (Or.inl ⟨rfl, Or.inl rfl, _, rfl⟩) (hb hby d8_17) hr)
    rw [e0]
    exact ⟨(by first | rfl | simp only [fAt, if_pos hc417]), N0, rfl⟩
  · refine Go.st (U' := s₁.setTop (mkF m 17 #[.val (.ref a1), .val (.int p2)] [(.int (0 : Int32))])) (fun t k => ?_) ?_
    · refine XS.icmpYes X0.here hx rfl (pc0 := 3) (pc' := 16) rfl (hb hby d8_3) rfl (flt hc417).2.1 (by decide) (by decide) ?_
      refine XS.iconst X0.here hx rfl (hb hby d8_16) ?_
      exact k
    refine own_ret (Q := Qat Z a1 p2 k1 zn L0 h0 n0) (v := some (.int (0 : Int32))) X0 hlk (fun h => by rw [hrt] at h; cases h) (by decide) (by decide) ?_ (fun fs hr => retOut X0 hx (t := .int) hrt rfl (Or.inl ⟨rfl, Or.inl rfl, _, rfl⟩) (hb hby d8_17) hr)
    rw [e0]
    exact ⟨(by first | rfl | simp only [fAt, if_neg hc417]), N0, rfl⟩
theorem d7_0 : decode method_5_code 0 = .ok (.lconst 0, 1) := by decide +kernel
theorem d7_1 : decode method_5_code 1 = .ok (.lstore_n 2, 1) := by decide +kernel
theorem d7_2 : decode method_5_code 2 = .ok (.lload_n 2, 1) := by decide +kernel
theorem d7_3 : decode method_5_code 3 = .ok (.bipush 8, 2) := by decide +kernel
theorem d7_5 : decode method_5_code 5 = .ok (.lshl, 1) := by decide +kernel
theorem d7_6 : decode method_5_code 6 = .ok (.aload_n 0, 1) := by decide +kernel
theorem d7_7 : decode method_5_code 7 = .ok (.iload_n 1, 1) := by decide +kernel
theorem d7_8 : decode method_5_code 8 = .ok (.invokestatic 44, 3) := by decide +kernel
theorem d7_11 : decode method_5_code 11 = .ok (.i2l, 1) := by decide +kernel
theorem d7_12 : decode method_5_code 12 = .ok (.lor, 1) := by decide +kernel
theorem d7_13 : decode method_5_code 13 = .ok (.lstore_n 2, 1) := by decide +kernel
theorem d7_14 : decode method_5_code 14 = .ok (.lload_n 2, 1) := by decide +kernel
theorem d7_15 : decode method_5_code 15 = .ok (.bipush 8, 2) := by decide +kernel
theorem d7_17 : decode method_5_code 17 = .ok (.lshl, 1) := by decide +kernel
theorem d7_18 : decode method_5_code 18 = .ok (.aload_n 0, 1) := by decide +kernel
theorem d7_19 : decode method_5_code 19 = .ok (.iload_n 1, 1) := by decide +kernel
theorem d7_20 : decode method_5_code 20 = .ok (.iconst 1, 1) := by decide +kernel
theorem d7_21 : decode method_5_code 21 = .ok (.iadd, 1) := by decide +kernel
theorem d7_22 : decode method_5_code 22 = .ok (.invokestatic 44, 3) := by decide +kernel
theorem d7_25 : decode method_5_code 25 = .ok (.i2l, 1) := by decide +kernel
theorem d7_26 : decode method_5_code 26 = .ok (.lor, 1) := by decide +kernel
theorem d7_27 : decode method_5_code 27 = .ok (.lstore_n 2, 1) := by decide +kernel
theorem d7_28 : decode method_5_code 28 = .ok (.lload_n 2, 1) := by decide +kernel
theorem d7_29 : decode method_5_code 29 = .ok (.bipush 8, 2) := by decide +kernel
theorem d7_31 : decode method_5_code 31 = .ok (.lshl, 1) := by decide +kernel
theorem d7_32 : decode method_5_code 32 = .ok (.aload_n 0, 1) := by decide +kernel
theorem d7_33 : decode method_5_code 33 = .ok (.iload_n 1, 1) := by decide +kernel
theorem d7_34 : decode method_5_code 34 = .ok (.iconst 2, 1) := by decide +kernel
theorem d7_35 : decode method_5_code 35 = .ok (.iadd, 1) := by decide +kernel
theorem d7_36 : decode method_5_code 36 = .ok (.invokestatic 44, 3) := by decide +kernel
theorem d7_39 : decode method_5_code 39 = .ok (.i2l, 1) := by decide +kernel
theorem d7_40 : decode method_5_code 40 = .ok (.lor, 1) := by decide +kernel
theorem d7_41 : decode method_5_code 41 = .ok (.lstore_n 2, 1) := by decide +kernel
theorem d7_42 : decode method_5_code 42 = .ok (.lload_n 2, 1) := by decide +kernel
theorem d7_43 : decode method_5_code 43 = .ok (.bipush 8, 2) := by decide +kernel
theorem d7_45 : decode method_5_code 45 = .ok (.lshl, 1) := by decide +kernel
theorem d7_46 : decode method_5_code 46 = .ok (.aload_n 0, 1) := by decide +kernel
theorem d7_47 : decode method_5_code 47 = .ok (.iload_n 1, 1) := by decide +kernel
theorem d7_48 : decode method_5_code 48 = .ok (.iconst 3, 1) := by decide +kernel
theorem d7_49 : decode method_5_code 49 = .ok (.iadd, 1) := by decide +kernel
theorem d7_50 : decode method_5_code 50 = .ok (.invokestatic 44, 3) := by decide +kernel
theorem d7_53 : decode method_5_code 53 = .ok (.i2l, 1) := by decide +kernel
theorem d7_54 : decode method_5_code 54 = .ok (.lor, 1) := by decide +kernel
theorem d7_55 : decode method_5_code 55 = .ok (.lstore_n 2, 1) := by decide +kernel
theorem d7_56 : decode method_5_code 56 = .ok (.lload_n 2, 1) := by decide +kernel
theorem d7_57 : decode method_5_code 57 = .ok (.bipush 8, 2) := by decide +kernel
theorem d7_59 : decode method_5_code 59 = .ok (.lshl, 1) := by decide +kernel
theorem d7_60 : decode method_5_code 60 = .ok (.aload_n 0, 1) := by decide +kernel
theorem d7_61 : decode method_5_code 61 = .ok (.iload_n 1, 1) := by decide +kernel
theorem d7_62 : decode method_5_code 62 = .ok (.iconst 4, 1) := by decide +kernel
theorem d7_63 : decode method_5_code 63 = .ok (.iadd, 1) := by decide +kernel
theorem d7_64 : decode method_5_code 64 = .ok (.invokestatic 44, 3) := by decide +kernel
theorem d7_67 : decode method_5_code 67 = .ok (.i2l, 1) := by decide +kernel
theorem d7_68 : decode method_5_code 68 = .ok (.lor, 1) := by decide +kernel
theorem d7_69 : decode method_5_code 69 = .ok (.lstore_n 2, 1) := by decide +kernel
theorem d7_70 : decode method_5_code 70 = .ok (.lload_n 2, 1) := by decide +kernel
theorem d7_71 : decode method_5_code 71 = .ok (.bipush 8, 2) := by decide +kernel
theorem d7_73 : decode method_5_code 73 = .ok (.lshl, 1) := by decide +kernel
theorem d7_74 : decode method_5_code 74 = .ok (.aload_n 0, 1) := by decide +kernel
theorem d7_75 : decode method_5_code 75 = .ok (.iload_n 1, 1) := by decide +kernel
theorem d7_76 : decode method_5_code 76 = .ok (.iconst 5, 1) := by decide +kernel
theorem d7_77 : decode method_5_code 77 = .ok (.iadd, 1) := by decide +kernel
theorem d7_78 : decode method_5_code 78 = .ok (.invokestatic 44, 3) := by decide +kernel
theorem d7_81 : decode method_5_code 81 = .ok (.i2l, 1) := by decide +kernel
theorem d7_82 : decode method_5_code 82 = .ok (.lor, 1) := by decide +kernel
theorem d7_83 : decode method_5_code 83 = .ok (.lstore_n 2, 1) := by decide +kernel
theorem d7_84 : decode method_5_code 84 = .ok (.lload_n 2, 1) := by decide +kernel
theorem d7_85 : decode method_5_code 85 = .ok (.bipush 8, 2) := by decide +kernel
theorem d7_87 : decode method_5_code 87 = .ok (.lshl, 1) := by decide +kernel
theorem d7_88 : decode method_5_code 88 = .ok (.aload_n 0, 1) := by decide +kernel
theorem d7_89 : decode method_5_code 89 = .ok (.iload_n 1, 1) := by decide +kernel
theorem d7_90 : decode method_5_code 90 = .ok (.bipush 6, 2) := by decide +kernel
theorem d7_92 : decode method_5_code 92 = .ok (.iadd, 1) := by decide +kernel
theorem d7_93 : decode method_5_code 93 = .ok (.invokestatic 44, 3) := by decide +kernel
theorem d7_96 : decode method_5_code 96 = .ok (.i2l, 1) := by decide +kernel
theorem d7_97 : decode method_5_code 97 = .ok (.lor, 1) := by decide +kernel
theorem d7_98 : decode method_5_code 98 = .ok (.lstore_n 2, 1) := by decide +kernel
theorem d7_99 : decode method_5_code 99 = .ok (.lload_n 2, 1) := by decide +kernel
theorem d7_100 : decode method_5_code 100 = .ok (.bipush 8, 2) := by decide +kernel
theorem d7_102 : decode method_5_code 102 = .ok (.lshl, 1) := by decide +kernel
theorem d7_103 : decode method_5_code 103 = .ok (.aload_n 0, 1) := by decide +kernel
theorem d7_104 : decode method_5_code 104 = .ok (.iload_n 1, 1) := by decide +kernel
theorem d7_105 : decode method_5_code 105 = .ok (.bipush 7, 2) := by decide +kernel
theorem d7_107 : decode method_5_code 107 = .ok (.iadd, 1) := by decide +kernel
theorem d7_108 : decode method_5_code 108 = .ok (.invokestatic 44, 3) := by decide +kernel
theorem d7_111 : decode method_5_code 111 = .ok (.i2l, 1) := by decide +kernel
theorem d7_112 : decode method_5_code 112 = .ok (.lor, 1) := by decide +kernel
theorem d7_113 : decode method_5_code 113 = .ok (.lstore_n 2, 1) := by decide +kernel
theorem d7_114 : decode method_5_code 114 = .ok (.lload_n 2, 1) := by decide +kernel
theorem d7_115 : decode method_5_code 115 = .ok (.lreturn, 1) := by decide +kernel
theorem pd_6 : parseMethodDescriptor "([BI)I" = some ⟨[(.array .byte), .int], some .int⟩ := by decide +kernel
theorem efk0 (m : MethodId) (a1 : Addr) : entryFrame m #[(.ref a1), (.int (0 : Int32))] 4 = mkF m 0 #[.val (.ref a1), .val (.int (0 : Int32)), .unset, .unset] [] := by first | (simp [entryFrame, mkF, argsToLocals, Value.category]; done) | rfl
abbrev own_R1_0_0_24 : Room := { frames := 1, cells := 0, slots := 0, locals := 24 }
def fPk0 (zn : Int32) (L0 : List Int32) : Int64 := ((((((((((((((((0 : Int64) ||| ((fAt zn L0 (0 : Int32)).toInt64)) <<< ((8 : Int32) &&& 0x3f).toInt64) ||| ((fAt zn L0 (1 : Int32)).toInt64)) <<< ((8 : Int32) &&& 0x3f).toInt64) ||| ((fAt zn L0 (2 : Int32)).toInt64)) <<< ((8 : Int32) &&& 0x3f).toInt64) ||| ((fAt zn L0 (3 : Int32)).toInt64)) <<< ((8 : Int32) &&& 0x3f).toInt64) ||| ((fAt zn L0 (4 : Int32)).toInt64)) <<< ((8 : Int32) &&& 0x3f).toInt64) ||| ((fAt zn L0 (5 : Int32)).toInt64)) <<< ((8 : Int32) &&& 0x3f).toInt64) ||| ((fAt zn L0 (6 : Int32)).toInt64)) <<< ((8 : Int32) &&& 0x3f).toInt64) ||| ((fAt zn L0 (7 : Int32)).toInt64))
def Qk0 (Z : State) (a1 : Addr) (k1 : ClassId) (zn : Int32) (L0 : List Int32) (h0 : Heap) (n0 : Nat) (v : Option Value) (h : Heap) (L : List Loc) : Prop := v = some (.long (fPk0 zn L0)) ∧ Fr n0 L ∧ h = h0
set_option maxRecDepth 65536 in
set_option maxHeartbeats 40000000 in
theorem rmk0 (l : Launch) (Z : State) (a0 : Array Value) (hw : ∀ d ∈ tables_1, d.before a0 Z = true) (ws : List Jvm.Cond) (a1 : Addr) (k1 : ClassId) (zn : Int32) (L0 : List Int32) (h0 : Heap) (n0 : Nat) (Z0 : n0 ≤ h0.size) (VA : Arv Z h0 a1 k1 .byte zn (List.map Value.int L0) (.int (0 : Int32))) :
    MetFree l own_y15 (head1 (Jvm.Cond.code own_y15 method_5_code 4 (some .long) :: ws) own_R1_0_0_24) (fun a U => a = #[(.ref a1), (.int (0 : Int32))] ∧ Z.Warmed39 U.vm ∧ U.heap = h0) (fun _ _ _ _ _ => True) (fun _ U o U' => ∃ v L, o = .returned v ∧ Qk0 Z a1 k1 zn L0 h0 n0 v U'.heap L ∧ FrameEnd U o U' L (own_R1_0_0_24).cells (own_R1_0_0_24).slots) := by
  refine MetFree.of_bodySF (plainFor_of_name pn_1) hisR ?_
  intro p e s m args below meth c s₁ Bd hml0 hP hK
  obtain ⟨rfl, hZ, hh⟩ := hP
  have hx := Bd.exec
  have hby := Bd.bytes
  have hml : c.maxLocals = 4 := hml0
  have hown : s.vm.findClass "com/example/portcullis/portcullis/io/CdrOutputToByteArrayPinLaw" = some m.cls := findClass_of_methodNamed Bd.named
  have hnm := (name_of_methodNamed Bd.named Bd.method).1
  have hlk : meth.locks = false := BodyLoose.notSynchronized Bd
  have hrt := Bd.returns
  have X0 : Stand p l e own_R1_0_0_24 s m #[(.ref a1), (.int (0 : Int32))] below meth c s₁ [] 0 0 := Stand.of_body Bd
  have e0 : s₁.heap = h0 := by rw [← hh, Bd.state]; rfl
  have N0 := Fr.nil n0
  refine (show Go p e below (fun s₂ o => ∃ v L, o = .returned v ∧ Qk0 Z a1 k1 zn L0 h0 n0 v s₂.heap L ∧ FrameEnd s o s₂ L 0 0) (s₁.setTop (entryFrame m #[(.ref a1), (.int (0 : Int32))] 4)) from ?_)
  rw [efk0]
  refine Go.st (U' := s₁.setTop (mkF m 8 #[.val (.ref a1), .val (.int (0 : Int32)), .val (.long (0 : Int64)), .second] [(.int (0 : Int32)), (.ref a1), (.long (0 : Int64))])) (fun t k => ?_) ?_
  · refine XS.lconst X0.here hx rfl (hb hby d7_0) ?_
    refine XS.lstoreN X0.here hx rfl (hb hby d7_1) rfl (l' := #[.val (.ref a1), .val (.int (0 : Int32)), .val (.long (0 : Int64)), .second]) rfl ?_
    refine XS.lloadN X0.here hx rfl (hb hby d7_2) rfl ?_
    refine XS.bipush X0.here hx rfl (hb hby d7_3) ?_
    refine XS.lshl X0.here hx rfl (hb hby d7_5) rfl ?_
    refine XS.aloadN X0.here hx rfl (hb hby d7_6) rfl rfl ?_
    refine XS.iloadN X0.here hx rfl (hb hby d7_7) rfl ?_
    exact k
  obtain ⟨_, _, ⟨T418, L418, k418, n418⟩, -, X418, ⟨Lc418, hQ418, l418, y418, z418⟩, st418⟩ := Jvm.LawKit.callS X0 hx (y := own_y14) hown (mvT hZ (own_w hw 40 rfl)) (mvT hZ (own_w hw 41 rfl)) (mvT hZ (own_w hw 38 rfl)) (mvT hZ (own_w hw 42 rfl)) (by decide) (backOf (W := 2) (rmat l Z a0 hw [] a1 (0 : Int32) k1 zn L0 h0 n0 Z0 VA (by decide)) hZ (own_w hw 42 rfl) (own_w hw 38 rfl) (by decide) (by decide)) (g := (mkF m 8 #[.val (.ref a1), .val (.int (0 : Int32)), .val (.long (0 : Int64)), .second] [(.int (0 : Int32)), (.ref a1), (.long (0 : Int64))])) rfl (by rw [hml]; rfl) (argsL := [(.ref a1), (.int (0 : Int32))]) (rest := [(.long (0 : Int64))]) (lenOf pd_6 rfl) rfl (by show 2 * 0 + _ ≤ _; exact Nat.le_of_eq rfl) (hb hby d7_8) (fun _ _ => ⟨rfl, e0, (by decide : 0 + 0 ≤ _), (by decide : 0 + 0 ≤ _)⟩)
  dsimp only [Pt.U, Pt.locs, Pt.cells, Pt.slots] at X418 l418 y418 z418 st418 hQ418
  subst l418 y418 z418
  obtain ⟨rfl, N418q, e418⟩ := hQ418
  have N418 := Fr.app N0 N418q
  refine Go.st (U' := T418.setTop (mkF m 11 #[.val (.ref a1), .val (.int (0 : Int32)), .val (.long (0 : Int64)), .second] [(.int (fAt zn L0 (0 : Int32))), (.long (0 : Int64))])) (fun t k => st418 _ k) ?_
  refine Go.st (U' := T418.setTop (mkF m 14 #[.val (.ref a1), .val (.int (0 : Int32)), .val (.long ((0 : Int64) ||| ((fAt zn L0 (0 : Int32)).toInt64))), .second] [])) (fun t k => ?_) ?_
  · refine XS.i2l X418.here hx rfl (hb hby d7_11) rfl ?_
    refine XS.lor X418.here hx rfl (hb hby d7_12) rfl ?_
    refine XS.lstoreN X418.here hx rfl (hb hby d7_13) rfl (l' := #[.val (.ref a1), .val (.int (0 : Int32)), .val (.long ((0 : Int64) ||| ((fAt zn L0 (0 : Int32)).toInt64))), .second]) rfl ?_
    exact k
  generalize hv_v419 : ((0 : Int64) ||| ((fAt zn L0 (0 : Int32)).toInt64)) = v419
  refine Go.st (U' := T418.setTop (mkF m 22 #[.val (.ref a1), .val (.int (0 : Int32)), .val (.long v419), .second] [(.int (1 : Int32)), (.ref a1), (.long (v419 <<< ((8 : Int32) &&& 0x3f).toInt64))])) (fun t k => ?_) ?_
  · refine XS.lloadN X418.here hx rfl (hb hby d7_14) rfl ?_
    refine XS.bipush X418.here hx rfl (hb hby d7_15) ?_
    refine XS.lshl X418.here hx rfl (hb hby d7_17) rfl ?_
    refine XS.aloadN X418.here hx rfl (hb hby d7_18) rfl rfl ?_
    refine XS.iloadN X418.here hx rfl (hb hby d7_19) rfl ?_
    refine XS.iconst X418.here hx rfl (hb hby d7_20) ?_
    refine XS.iadd X418.here hx rfl (hb hby d7_21) rfl ?_
    exact k
  obtain ⟨_, _, ⟨T420, L420, k420, n420⟩, -, X420, ⟨Lc420, hQ420, l420, y420, z420⟩, st420⟩ := Jvm.LawKit.callS X418 hx (y := own_y14) hown (mvT hZ (own_w hw 40 rfl)) (mvT hZ (own_w hw 41 rfl)) (mvT hZ (own_w hw 38 rfl)) (mvT hZ (own_w hw 42 rfl)) (by decide) (backOf (W := 2) (rmat l Z a0 hw [] a1 (1 : Int32) k1 zn L0 h0 n0 Z0 VA (by decide)) hZ (own_w hw 42 rfl) (own_w hw 38 rfl) (by decide) (by decide)) (g := (mkF m 22 #[.val (.ref a1), .val (.int (0 : Int32)), .val (.long v419), .second] [(.int (1 : Int32)), (.ref a1), (.long (v419 <<< ((8 : Int32) &&& 0x3f).toInt64))])) rfl (by rw [hml]; rfl) (argsL := [(.ref a1), (.int (1 : Int32))]) (rest := [(.long (v419 <<< ((8 : Int32) &&& 0x3f).toInt64))]) (lenOf pd_6 rfl) rfl (by show 2 * 0 + _ ≤ _; exact Nat.le_of_eq rfl) (hb hby d7_22) (fun _ _ => ⟨rfl, e418, (by decide : 0 + 0 ≤ _), (by decide : 0 + 0 ≤ _)⟩)
  dsimp only [Pt.U, Pt.locs, Pt.cells, Pt.slots] at X420 l420 y420 z420 st420 hQ420
  subst l420 y420 z420
  obtain ⟨rfl, N420q, e420⟩ := hQ420
  have N420 := Fr.app N418 N420q
  refine Go.st (U' := T420.setTop (mkF m 25 #[.val (.ref a1), .val (.int (0 : Int32)), .val (.long v419), .second] [(.int (fAt zn L0 (1 : Int32))), (.long (v419 <<< ((8 : Int32) &&& 0x3f).toInt64))])) (fun t k => st420 _ k) ?_
  refine Go.st (U' := T420.setTop (mkF m 28 #[.val (.ref a1), .val (.int (0 : Int32)), .val (.long ((v419 <<< ((8 : Int32) &&& 0x3f).toInt64) ||| ((fAt zn L0 (1 : Int32)).toInt64))), .second] [])) (fun t k => ?_) ?_
  · refine XS.i2l X420.here hx rfl (hb hby d7_25) rfl ?_
    refine XS.lor X420.here hx rfl (hb hby d7_26) rfl ?_
    refine XS.lstoreN X420.here hx rfl (hb hby d7_27) rfl (l' := #[.val (.ref a1), .val (.int (0 : Int32)), .val (.long ((v419 <<< ((8 : Int32) &&& 0x3f).toInt64) ||| ((fAt zn L0 (1 : Int32)).toInt64))), .second]) rfl ?_
    exact k
  generalize hv_v421 : ((v419 <<< ((8 : Int32) &&& 0x3f).toInt64) ||| ((fAt zn L0 (1 : Int32)).toInt64)) = v421
  refine Go.st (U' := T420.setTop (mkF m 36 #[.val (.ref a1), .val (.int (0 : Int32)), .val (.long v421), .second] [(.int (2 : Int32)), (.ref a1), (.long (v421 <<< ((8 : Int32) &&& 0x3f).toInt64))])) (fun t k => ?_) ?_
  · refine XS.lloadN X420.here hx rfl (hb hby d7_28) rfl ?_
    refine XS.bipush X420.here hx rfl (hb hby d7_29) ?_
    refine XS.lshl X420.here hx rfl (hb hby d7_31) rfl ?_
    refine XS.aloadN X420.here hx rfl (hb hby d7_32) rfl rfl ?_
    refine XS.iloadN X420.here hx rfl (hb hby d7_33) rfl ?_
    refine XS.iconst X420.here hx rfl (hb hby d7_34) ?_
    refine XS.iadd X420.here hx rfl (hb hby d7_35) rfl ?_
    exact k
  obtain ⟨_, _, ⟨T422, L422, k422, n422⟩, -, X422, ⟨Lc422, hQ422, l422, y422, z422⟩, st422⟩ := Jvm.LawKit.callS X420 hx (y := own_y14) hown (mvT hZ (own_w hw 40 rfl)) (mvT hZ (own_w hw 41 rfl)) (mvT hZ (own_w hw 38 rfl)) (mvT hZ (own_w hw 42 rfl)) (by decide) (backOf (W := 2) (rmat l Z a0 hw [] a1 (2 : Int32) k1 zn L0 h0 n0 Z0 VA (by decide)) hZ (own_w hw 42 rfl) (own_w hw 38 rfl) (by decide) (by decide)) (g := (mkF m 36 #[.val (.ref a1), .val (.int (0 : Int32)), .val (.long v421), .second] [(.int (2 : Int32)), (.ref a1), (.long (v421 <<< ((8 : Int32) &&& 0x3f).toInt64))])) rfl (by rw [hml]; rfl) (argsL := [(.ref a1), (.int (2 : Int32))]) (rest := [(.long (v421 <<< ((8 : Int32) &&& 0x3f).toInt64))]) (lenOf pd_6 rfl) rfl (by show 2 * 0 + _ ≤ _; exact Nat.le_of_eq rfl) (hb hby d7_36) (fun _ _ => ⟨rfl, e420, (by decide : 0 + 0 ≤ _), (by decide : 0 + 0 ≤ _)⟩)
  dsimp only [Pt.U, Pt.locs, Pt.cells, Pt.slots] at X422 l422 y422 z422 st422 hQ422
  subst l422 y422 z422
  obtain ⟨rfl, N422q, e422⟩ := hQ422
  have N422 := Fr.app N420 N422q
  refine Go.st (U' := T422.setTop (mkF m 39 #[.val (.ref a1), .val (.int (0 : Int32)), .val (.long v421), .second] [(.int (fAt zn L0 (2 : Int32))), (.long (v421 <<< ((8 : Int32) &&& 0x3f).toInt64))])) (fun t k => st422 _ k) ?_
  refine Go.st (U' := T422.setTop (mkF m 42 #[.val (.ref a1), .val (.int (0 : Int32)), .val (.long ((v421 <<< ((8 : Int32) &&& 0x3f).toInt64) ||| ((fAt zn L0 (2 : Int32)).toInt64))), .second] [])) (fun t k => ?_) ?_
  · refine XS.i2l X422.here hx rfl (hb hby d7_39) rfl ?_
    refine XS.lor X422.here hx rfl (hb hby d7_40) rfl ?_
    refine XS.lstoreN X422.here hx rfl (hb hby d7_41) rfl (l' := #[.val (.ref a1), .val (.int (0 : Int32)), .val (.long ((v421 <<< ((8 : Int32) &&& 0x3f).toInt64) ||| ((fAt zn L0 (2 : Int32)).toInt64))), .second]) rfl ?_
    exact k
  generalize hv_v423 : ((v421 <<< ((8 : Int32) &&& 0x3f).toInt64) ||| ((fAt zn L0 (2 : Int32)).toInt64)) = v423
  refine Go.st (U' := T422.setTop (mkF m 50 #[.val (.ref a1), .val (.int (0 : Int32)), .val (.long v423), .second] [(.int (3 : Int32)), (.ref a1), (.long (v423 <<< ((8 : Int32) &&& 0x3f).toInt64))])) (fun t k => ?_) ?_
  · refine XS.lloadN X422.here hx rfl (hb hby d7_42) rfl ?_
    refine XS.bipush X422.here hx rfl (hb hby d7_43) ?_
    refine XS.lshl X422.here hx rfl (hb hby d7_45) rfl ?_
    refine XS.aloadN X422.here hx rfl (hb hby d7_46) rfl rfl ?_
    refine XS.iloadN X422.here hx rfl (hb hby d7_47) rfl ?_
    refine XS.iconst X422.here hx rfl (hb hby d7_48) ?_
    refine XS.iadd X422.here hx rfl (hb hby d7_49) rfl ?_
    exact k
  obtain ⟨_, _, ⟨T424, L424, k424, n424⟩, -, X424, ⟨Lc424, hQ424, l424, y424, z424⟩, st424⟩ := Jvm.LawKit.callS X422 hx (y := own_y14) hown (mvT hZ (own_w hw 40 rfl)) (mvT hZ (own_w hw 41 rfl)) (mvT hZ (own_w hw 38 rfl)) (mvT hZ (own_w hw 42 rfl)) (by decide) (backOf (W := 2) (rmat l Z a0 hw [] a1 (3 : Int32) k1 zn L0 h0 n0 Z0 VA (by decide)) hZ (own_w hw 42 rfl) (own_w hw 38 rfl) (by decide) (by decide)) (g := (mkF m 50 #[.val (.ref a1), .val (.int (0 : Int32)), .val (.long v423), .second] [(.int (3 : Int32)), (.ref a1), (.long (v423 <<< ((8 : Int32) &&& 0x3f).toInt64))])) rfl (by rw [hml]; rfl) (argsL := [(.ref a1), (.int (3 : Int32))]) (rest := [(.long (v423 <<< ((8 : Int32) &&& 0x3f).toInt64))]) (lenOf pd_6 rfl) rfl (by show 2 * 0 + _ ≤ _; exact Nat.le_of_eq rfl) (hb hby d7_50) (fun _ _ => ⟨rfl, e422, (by decide : 0 + 0 ≤ _), (by decide : 0 + 0 ≤ _)⟩)
  dsimp only [Pt.U, Pt.locs, Pt.cells, Pt.slots] at X424 l424 y424 z424 st424 hQ424
  subst l424 y424 z424
  obtain ⟨rfl, N424q, e424⟩ := hQ424
  have N424 := Fr.app N422 N424q
  refine Go.st (U' := T424.setTop (mkF m 53 #[.val (.ref a1), .val (.int (0 : Int32)), .val (.long v423), .second] [(.int (fAt zn L0 (3 : Int32))), (.long (v423 <<< ((8 : Int32) &&& 0x3f).toInt64))])) (fun t k => st424 _ k) ?_
  refine Go.st (U' := T424.setTop (mkF m 56 #[.val (.ref a1), .val (.int (0 : Int32)), .val (.long ((v423 <<< ((8 : Int32) &&& 0x3f).toInt64) ||| ((fAt zn L0 (3 : Int32)).toInt64))), .second] [])) (fun t k => ?_) ?_
  · refine XS.i2l X424.here hx rfl (hb hby d7_53) rfl ?_
    refine XS.lor X424.here hx rfl (hb hby d7_54) rfl ?_
    refine XS.lstoreN X424.here hx rfl (hb hby d7_55) rfl (l' := #[.val (.ref a1), .val (.int (0 : Int32)), .val (.long ((v423 <<< ((8 : Int32) &&& 0x3f).toInt64) ||| ((fAt zn L0 (3 : Int32)).toInt64))), .second]) rfl ?_
    exact k
  generalize hv_v425 : ((v423 <<< ((8 : Int32) &&& 0x3f).toInt64) ||| ((fAt zn L0 (3 : Int32)).toInt64)) = v425
  refine Go.st (U' := T424.setTop (mkF m 64 #[.val (.ref a1), .val (.int (0 : Int32)), .val (.long v425), .second] [(.int (4 : Int32)), (.ref a1), (.long (v425 <<< ((8 : Int32) &&& 0x3f).toInt64))])) (fun t k => ?_) ?_
  · refine XS.lloadN X424.here hx rfl (hb hby d7_56) rfl ?_
    refine XS.bipush X424.here hx rfl (hb hby d7_57) ?_
    refine XS.lshl X424.here hx rfl (hb hby d7_59) rfl ?_
    refine XS.aloadN X424.here hx rfl (hb hby d7_60) rfl rfl ?_
    refine XS.iloadN X424.here hx rfl (hb hby d7_61) rfl ?_
    refine XS.iconst X424.here hx rfl (hb hby d7_62) ?_
    refine XS.iadd X424.here hx rfl (hb hby d7_63) rfl ?_
    exact k
  obtain ⟨_, _, ⟨T426, L426, k426, n426⟩, -, X426, ⟨Lc426, hQ426, l426, y426, z426⟩, st426⟩ := Jvm.LawKit.callS X424 hx (y := own_y14) hown (mvT hZ (own_w hw 40 rfl)) (mvT hZ (own_w hw 41 rfl)) (mvT hZ (own_w hw 38 rfl)) (mvT hZ (own_w hw 42 rfl)) (by decide) (backOf (W := 2) (rmat l Z a0 hw [] a1 (4 : Int32) k1 zn L0 h0 n0 Z0 VA (by decide)) hZ (own_w hw 42 rfl) (own_w hw 38 rfl) (by decide) (by decide)) (g := (mkF m 64 #[.val (.ref a1), .val (.int (0 : Int32)), .val (.long v425), .second] [(.int (4 : Int32)), (.ref a1), (.long (v425 <<< ((8 : Int32) &&& 0x3f).toInt64))])) rfl (by rw [hml]; rfl) (argsL := [(.ref a1), (.int (4 : Int32))]) (rest := [(.long (v425 <<< ((8 : Int32) &&& 0x3f).toInt64))]) (lenOf pd_6 rfl) rfl (by show 2 * 0 + _ ≤ _; exact Nat.le_of_eq rfl) (hb hby d7_64) (fun _ _ => ⟨rfl, e424, (by decide : 0 + 0 ≤ _), (by decide : 0 + 0 ≤ _)⟩)
  dsimp only [Pt.U, Pt.locs, Pt.cells, Pt.slots] at X426 l426 y426 z426 st426 hQ426
  subst l426 y426 z426
  obtain ⟨rfl, N426q, e426⟩ := hQ426
  have N426 := Fr.app N424 N426q
  refine Go.st (U' := T426.setTop (mkF m 67 #[.val (.ref a1), .val (.int (0 : Int32)), .val (.long v425), .second] [(.int (fAt zn L0 (4 : Int32))), (.long (v425 <<< ((8 : Int32) &&& 0x3f).toInt64))])) (fun t k => st426 _ k) ?_
  refine Go.st (U' := T426.setTop (mkF m 70 #[.val (.ref a1), .val (.int (0 : Int32)), .val (.long ((v425 <<< ((8 : Int32) &&& 0x3f).toInt64) ||| ((fAt zn L0 (4 : Int32)).toInt64))), .second] [])) (fun t k => ?_) ?_
  · refine XS.i2l X426.here hx rfl (hb hby d7_67) rfl ?_
    refine XS.lor X426.here hx rfl (hb hby d7_68) rfl ?_
    refine XS.lstoreN X426.here hx rfl (hb hby d7_69) rfl (l' := #[.val (.ref a1), .val (.int (0 : Int32)), .val (.long ((v425 <<< ((8 : Int32) &&& 0x3f).toInt64) ||| ((fAt zn L0 (4 : Int32)).toInt64))), .second]) rfl ?_
    exact k
  generalize hv_v427 : ((v425 <<< ((8 : Int32) &&& 0x3f).toInt64) ||| ((fAt zn L0 (4 : Int32)).toInt64)) = v427
  refine Go.st (U' := T426.setTop (mkF m 78 #[.val (.ref a1), .val (.int (0 : Int32)), .val (.long v427), .second] [(.int (5 : Int32)), (.ref a1), (.long (v427 <<< ((8 : Int32) &&& 0x3f).toInt64))])) (fun t k => ?_) ?_
  · refine XS.lloadN X426.here hx rfl (hb hby d7_70) rfl ?_
    refine XS.bipush X426.here hx rfl (hb hby d7_71) ?_
    refine XS.lshl X426.here hx rfl (hb hby d7_73) rfl ?_
    refine XS.aloadN X426.here hx rfl (hb hby d7_74) rfl rfl ?_
    refine XS.iloadN X426.here hx rfl (hb hby d7_75) rfl ?_
    refine XS.iconst X426.here hx rfl (hb hby d7_76) ?_
    refine XS.iadd X426.here hx rfl (hb hby d7_77) rfl ?_
    exact k
  obtain ⟨_, _, ⟨T428, L428, k428, n428⟩, -, X428, ⟨Lc428, hQ428, l428, y428, z428⟩, st428⟩ := Jvm.LawKit.callS X426 hx (y := own_y14) hown (mvT hZ (own_w hw 40 rfl)) (mvT hZ (own_w hw 41 rfl)) (mvT hZ (own_w hw 38 rfl)) (mvT hZ (own_w hw 42 rfl)) (by decide) (backOf (W := 2) (rmat l Z a0 hw [] a1 (5 : Int32) k1 zn L0 h0 n0 Z0 VA (by decide)) hZ (own_w hw 42 rfl) (own_w hw 38 rfl) (by decide) (by decide)) (g := (mkF m 78 #[.val (.ref a1), .val (.int (0 : Int32)), .val (.long v427), .second] [(.int (5 : Int32)), (.ref a1), (.long (v427 <<< ((8 : Int32) &&& 0x3f).toInt64))])) rfl (by rw [hml]; rfl) (argsL := [(.ref a1), (.int (5 : Int32))]) (rest := [(.long (v427 <<< ((8 : Int32) &&& 0x3f).toInt64))]) (lenOf pd_6 rfl) rfl (by show 2 * 0 + _ ≤ _; exact Nat.le_of_eq rfl) (hb hby d7_78) (fun _ _ => ⟨rfl, e426, (by decide : 0 + 0 ≤ _), (by decide : 0 + 0 ≤ _)⟩)
  dsimp only [Pt.U, Pt.locs, Pt.cells, Pt.slots] at X428 l428 y428 z428 st428 hQ428
  subst l428 y428 z428
  obtain ⟨rfl, N428q, e428⟩ := hQ428
  have N428 := Fr.app N426 N428q
  refine Go.st (U' := T428.setTop (mkF m 81 #[.val (.ref a1), .val (.int (0 : Int32)), .val (.long v427), .second] [(.int (fAt zn L0 (5 : Int32))), (.long (v427 <<< ((8 : Int32) &&& 0x3f).toInt64))])) (fun t k => st428 _ k) ?_
  refine Go.st (U' := T428.setTop (mkF m 84 #[.val (.ref a1), .val (.int (0 : Int32)), .val (.long ((v427 <<< ((8 : Int32) &&& 0x3f).toInt64) ||| ((fAt zn L0 (5 : Int32)).toInt64))), .second] [])) (fun t k => ?_) ?_
  · refine XS.i2l X428.here hx rfl (hb hby d7_81) rfl ?_
    refine XS.lor X428.here hx rfl (hb hby d7_82) rfl ?_
    refine XS.lstoreN X428.here hx rfl (hb hby d7_83) rfl (l' := #[.val (.ref a1), .val (.int (0 : Int32)), .val (.long ((v427 <<< ((8 : Int32) &&& 0x3f).toInt64) ||| ((fAt zn L0 (5 : Int32)).toInt64))), .second]) rfl ?_
    exact k
  generalize hv_v429 : ((v427 <<< ((8 : Int32) &&& 0x3f).toInt64) ||| ((fAt zn L0 (5 : Int32)).toInt64)) = v429
  refine Go.st (U' := T428.setTop (mkF m 93 #[.val (.ref a1), .val (.int (0 : Int32)), .val (.long v429), .second] [(.int (6 : Int32)), (.ref a1), (.long (v429 <<< ((8 : Int32) &&& 0x3f).toInt64))])) (fun t k => ?_) ?_
  · refine XS.lloadN X428.here hx rfl (hb hby d7_84) rfl ?_
    refine XS.bipush X428.here hx rfl (hb hby d7_85) ?_
    refine XS.lshl X428.here hx rfl (hb hby d7_87) rfl ?_
    refine XS.aloadN X428.here hx rfl (hb hby d7_88) rfl rfl ?_
    refine XS.iloadN X428.here hx rfl (hb hby d7_89) rfl ?_
    refine XS.bipush X428.here hx rfl (hb hby d7_90) ?_
    refine XS.iadd X428.here hx rfl (hb hby d7_92) rfl ?_
    exact k
  obtain ⟨_, _, ⟨T430, L430, k430, n430⟩, -, X430, ⟨Lc430, hQ430, l430, y430, z430⟩, st430⟩ := Jvm.LawKit.callS X428 hx (y := own_y14) hown (mvT hZ (own_w hw 40 rfl)) (mvT hZ (own_w hw 41 rfl)) (mvT hZ (own_w hw 38 rfl)) (mvT hZ (own_w hw 42 rfl)) (by decide) (backOf (W := 2) (rmat l Z a0 hw [] a1 (6 : Int32) k1 zn L0 h0 n0 Z0 VA (by decide)) hZ (own_w hw 42 rfl) (own_w hw 38 rfl) (by decide) (by decide)) (g := (mkF m 93 #[.val (.ref a1), .val (.int (0 : Int32)), .val (.long v429), .second] [(.int (6 : Int32)), (.ref a1), (.long (v429 <<< ((8 : Int32) &&& 0x3f).toInt64))])) rfl (by rw [hml]; rfl) (argsL := [(.ref a1), (.int (6 : Int32))]) (rest := [(.long (v429 <<< ((8 : Int32) &&& 0x3f).toInt64))]) (lenOf pd_6 rfl) rfl (by show 2 * 0 + _ ≤ _; exact Nat.le_of_eq rfl) (hb hby d7_93) (fun _ _ => ⟨rfl, e428, (by decide : 0 + 0 ≤ _), (by decide : 0 + 0 ≤ _)⟩)
  dsimp only [Pt.U, Pt.locs, Pt.cells, Pt.slots] at X430 l430 y430 z430 st430 hQ430
  subst l430 y430 z430
  obtain ⟨rfl, N430q, e430⟩ := hQ430
  have N430 := Fr.app N428 N430q
  refine Go.st (U' := T430.setTop (mkF m 96 #[.val (.ref a1), .val (.int (0 : Int32)), .val (.long v429), .second] [(.int (fAt zn L0 (6 : Int32))), (.long (v429 <<< ((8 : Int32) &&& 0x3f).toInt64))])) (fun t k => st430 _ k) ?_
  refine Go.st (U' := T430.setTop (mkF m 99 #[.val (.ref a1), .val (.int (0 : Int32)), .val (.long ((v429 <<< ((8 : Int32) &&& 0x3f).toInt64) ||| ((fAt zn L0 (6 : Int32)).toInt64))), .second] [])) (fun t k => ?_) ?_
  · refine XS.i2l X430.here hx rfl (hb hby d7_96) rfl ?_
    refine XS.lor X430.here hx rfl (hb hby d7_97) rfl ?_
    refine XS.lstoreN X430.here hx rfl (hb hby d7_98) rfl (l' := #[.val (.ref a1), .val (.int (0 : Int32)), .val (.long ((v429 <<< ((8 : Int32) &&& 0x3f).toInt64) ||| ((fAt zn L0 (6 : Int32)).toInt64))), .second]) rfl ?_
    exact k
  generalize hv_v431 : ((v429 <<< ((8 : Int32) &&& 0x3f).toInt64) ||| ((fAt zn L0 (6 : Int32)).toInt64)) = v431
  refine Go.st (U' := T430.setTop (mkF m 108 #[.val (.ref a1), .val (.int (0 : Int32)), .val (.long v431), .second] [(.int (7 : Int32)), (.ref a1), (.long (v431 <<< ((8 : Int32) &&& 0x3f).toInt64))])) (fun t k => ?_) ?_
  · refine XS.lloadN X430.here hx rfl (hb hby d7_99) rfl ?_
    refine XS.bipush X430.here hx rfl (hb hby d7_100) ?_
    refine XS.lshl X430.here hx rfl (hb hby d7_102) rfl ?_
    refine XS.aloadN X430.here hx rfl (hb hby d7_103) rfl rfl ?_
    refine XS.iloadN X430.here hx rfl (hb hby d7_104) rfl ?_
    refine XS.bipush X430.here hx rfl (hb hby d7_105) ?_
    refine XS.iadd X430.here hx rfl (hb hby d7_107) rfl ?_
    exact k
  obtain ⟨_, _, ⟨T432, L432, k432, n432⟩, -, X432, ⟨Lc432, hQ432, l432, y432, z432⟩, st432⟩ := Jvm.LawKit.callS X430 hx (y := own_y14) hown (mvT hZ (own_w hw 40 rfl)) (mvT hZ (own_w hw 41 rfl)) (mvT hZ (own_w hw 38 rfl)) (mvT hZ (own_w hw 42 rfl)) (by decide) (backOf (W := 2) (rmat l Z a0 hw [] a1 (7 : Int32) k1 zn L0 h0 n0 Z0 VA (by decide)) hZ (own_w hw 42 rfl) (own_w hw 38 rfl) (by decide) (by decide)) (g := (mkF m 108 #[.val (.ref a1), .val (.int (0 : Int32)), .val (.long v431), .second] [(.int (7 : Int32)), (.ref a1), (.long (v431 <<< ((8 : Int32) &&& 0x3f).toInt64))])) rfl (by rw [hml]; rfl) (argsL := [(.ref a1), (.int (7 : Int32))]) (rest := [(.long (v431 <<< ((8 : Int32) &&& 0x3f).toInt64))]) (lenOf pd_6 rfl) rfl (by show 2 * 0 + _ ≤ _; exact Nat.le_of_eq rfl) (hb hby d7_108) (fun _ _ => ⟨rfl, e430, (by decide : 0 + 0 ≤ _), (by decide : 0 + 0 ≤ _)⟩)
  dsimp only [Pt.U, Pt.locs, Pt.cells, Pt.slots] at X432 l432 y432 z432 st432 hQ432
  subst l432 y432 z432
  obtain ⟨rfl, N432q, e432⟩ := hQ432
  have N432 := Fr.app N430 N432q
  refine Go.st (U' := T432.setTop (mkF m 111 #[.val (.ref a1), .val (.int (0 : Int32)), .val (.long v431), .second] [(.int (fAt zn L0 (7 : Int32))), (.long (v431 <<< ((8 : Int32) &&& 0x3f).toInt64))])) (fun t k => st432 _ k) ?_
  refine Go.st (U' := T432.setTop (mkF m 114 #[.val (.ref a1), .val (.int (0 : Int32)), .val (.long ((v431 <<< ((8 : Int32) &&& 0x3f).toInt64) ||| ((fAt zn L0 (7 : Int32)).toInt64))), .second] [])) (fun t k => ?_) ?_
  · refine XS.i2l X432.here hx rfl (hb hby d7_111) rfl ?_
    refine XS.lor X432.here hx rfl (hb hby d7_112) rfl ?_
    refine XS.lstoreN X432.here hx rfl (hb hby d7_113) rfl (l' := #[.val (.ref a1), .val (.int (0 : Int32)), .val (.long ((v431 <<< ((8 : Int32) &&& 0x3f).toInt64) ||| ((fAt zn L0 (7 : Int32)).toInt64))), .second]) rfl ?_
    exact k
  generalize hv_v433 : ((v431 <<< ((8 : Int32) &&& 0x3f).toInt64) ||| ((fAt zn L0 (7 : Int32)).toInt64)) = v433
  refine Go.st (U' := T432.setTop (mkF m 115 #[.val (.ref a1), .val (.int (0 : Int32)), .val (.long v433), .second] [(.long v433)])) (fun t k => ?_) ?_
  · refine XS.lloadN X432.here hx rfl (hb hby d7_114) rfl ?_
    exact k
  refine own_ret (Q := Qk0 Z a1 k1 zn L0 h0 n0) (v := some (.long v433)) X432 hlk (fun h => by rw [hrt] at h; cases h) (by decide) (by decide) ?_ (fun fs hr => retOut X432 hx (t := .long) hrt rfl (Or.inr (Or.inl ⟨rfl, rfl, _, rfl⟩)) (hb hby d7_115) hr)
  rw [e432]
  subst hv_v419; subst hv_v421; subst hv_v423; subst hv_v425; subst hv_v427; subst hv_v429; subst hv_v431; subst hv_v433; exact ⟨rfl, N432, rfl⟩
theorem efk8 (m : MethodId) (a1 : Addr) : entryFrame m #[(.ref a1), (.int (8 : Int32))] 4 = mkF m 0 #[.val (.ref a1), .val (.int (8 : Int32)), .unset, .unset] [] := by first | (simp [entryFrame, mkF, argsToLocals, Value.category]; done) | rfl
def fPk8 (zn : Int32) (L0 : List Int32) : Int64 := ((((((((((((((((0 : Int64) ||| ((fAt zn L0 (8 : Int32)).toInt64)) <<< ((8 : Int32) &&& 0x3f).toInt64) ||| ((fAt zn L0 (9 : Int32)).toInt64)) <<< ((8 : Int32) &&& 0x3f).toInt64) ||| ((fAt zn L0 (10 : Int32)).toInt64)) <<< ((8 : Int32) &&& 0x3f).toInt64) ||| ((fAt zn L0 (11 : Int32)).toInt64)) <<< ((8 : Int32) &&& 0x3f).toInt64) ||| ((fAt zn L0 (12 : Int32)).toInt64)) <<< ((8 : Int32) &&& 0x3f).toInt64) ||| ((fAt zn L0 (13 : Int32)).toInt64)) <<< ((8 : Int32) &&& 0x3f).toInt64) ||| ((fAt zn L0 (14 : Int32)).toInt64)) <<< ((8 : Int32) &&& 0x3f).toInt64) ||| ((fAt zn L0 (15 : Int32)).toInt64))
def Qk8 (Z : State) (a1 : Addr) (k1 : ClassId) (zn : Int32) (L0 : List Int32) (h0 : Heap) (n0 : Nat) (v : Option Value) (h : Heap) (L : List Loc) : Prop := v = some (.long (fPk8 zn L0)) ∧ Fr n0 L ∧ h = h0
set_option maxRecDepth 65536 in
set_option maxHeartbeats 40000000 in
theorem rmk8 (l : Launch) (Z : State) (a0 : Array Value) (hw : ∀ d ∈ tables_1, d.before a0 Z = true) (ws : List Jvm.Cond) (a1 : Addr) (k1 : ClassId) (zn : Int32) (L0 : List Int32) (h0 : Heap) (n0 : Nat) (Z0 : n0 ≤ h0.size) (VA : Arv Z h0 a1 k1 .byte zn (List.map Value.int L0) (.int (0 : Int32))) :
    MetFree l own_y15 (head1 (Jvm.Cond.code own_y15 method_5_code 4 (some .long) :: ws) own_R1_0_0_24) (fun a U => a = #[(.ref a1), (.int (8 : Int32))] ∧ Z.Warmed39 U.vm ∧ U.heap = h0) (fun _ _ _ _ _ => True) (fun _ U o U' => ∃ v L, o = .returned v ∧ Qk8 Z a1 k1 zn L0 h0 n0 v U'.heap L ∧ FrameEnd U o U' L (own_R1_0_0_24).cells (own_R1_0_0_24).slots) := by
  refine MetFree.of_bodySF (plainFor_of_name pn_1) hisR ?_
  intro p e s m args below meth c s₁ Bd hml0 hP hK
  obtain ⟨rfl, hZ, hh⟩ := hP
  have hx := Bd.exec
  have hby := Bd.bytes
  have hml : c.maxLocals = 4 := hml0
  have hown : s.vm.findClass "com/example/portcullis/portcullis/io/CdrOutputToByteArrayPinLaw" = some m.cls := findClass_of_methodNamed Bd.named
  have hnm := (name_of_methodNamed Bd.named Bd.method).1
  have hlk : meth.locks = false := BodyLoose.notSynchronized Bd
  have hrt := Bd.returns
  have X0 : Stand p l e own_R1_0_0_24 s m #[(.ref a1), (.int (8 : Int32))] below meth c s₁ [] 0 0 := Stand.of_body Bd
  have e0 : s₁.heap = h0 := by rw [← hh, Bd.state]; rfl
  have N0 := Fr.nil n0
  refine (show Go p e below (fun s₂ o => ∃ v L, o = .returned v ∧ Qk8 Z a1 k1 zn L0 h0 n0 v s₂.heap L ∧ FrameEnd s o s₂ L 0 0) (s₁.setTop (entryFrame m #[(.ref a1), (.int (8 : Int32))] 4)) from ?_)
  rw [efk8]
  refine Go.st (U' := s₁.setTop (mkF m 8 #[.val (.ref a1), .val (.int (8 : Int32)), .val (.long (0 : Int64)), .second] [(.int (8 : Int32)), (.ref a1), (.long (0 : Int64))])) (fun t k => ?_) ?_
  · refine XS.lconst X0.here hx rfl (hb hby d7_0) ?_
    refine XS.lstoreN X0.here hx rfl (hb hby d7_1) rfl (l' := #[.val (.ref a1), .val (.int (8 : Int32)), .val (.long (0 : Int64)), .second]) rfl ?_
    refine XS.lloadN X0.here hx rfl (hb hby d7_2) rfl ?_
    refine XS.bipush X0.here hx rfl (hb hby d7_3) ?_
    refine XS.lshl X0.here hx rfl (hb hby d7_5) rfl ?_
    refine XS.aloadN X0.here hx rfl (hb hby d7_6) rfl rfl ?_
    refine XS.iloadN X0.here hx rfl (hb hby d7_7) rfl ?_
    exact k
  obtain ⟨_, _, ⟨T434, L434, k434, n434⟩, -, X434, ⟨Lc434, hQ434, l434, y434, z434⟩, st434⟩ := Jvm.LawKit.callS X0 hx (y := own_y14) hown (mvT hZ (own_w hw 40 rfl)) (mvT hZ (own_w hw 41 rfl)) (mvT hZ (own_w hw 38 rfl)) (mvT hZ (own_w hw 42 rfl)) (by decide) (backOf (W := 2) (rmat l Z a0 hw [] a1 (8 : Int32) k1 zn L0 h0 n0 Z0 VA (by decide)) hZ (own_w hw 42 rfl) (own_w hw 38 rfl) (by decide) (by decide)) (g := (mkF m 8 #[.val (.ref a1), .val (.int (8 : Int32)), .val (.long (0 : Int64)), .second] [(.int (8 : Int32)), (.ref a1), (.long (0 : Int64))])) rfl (by rw [hml]; rfl) (argsL := [(.ref a1), (.int (8 : Int32))]) (rest := [(.long (0 : Int64))]) (lenOf pd_6 rfl) rfl (by show 2 * 0 + _ ≤ _; exact Nat.le_of_eq rfl) (hb hby d7_8) (fun _ _ => ⟨rfl, e0, (by decide : 0 + 0 ≤ _), (by decide : 0 + 0 ≤ _)⟩)
  dsimp only [Pt.U, Pt.locs, Pt.cells, Pt.slots] at X434 l434 y434 z434 st434 hQ434
  subst l434 y434 z434
  obtain ⟨rfl, N434q, e434⟩ := hQ434
  have N434 := Fr.app N0 N434q
  refine Go.st (U' := T434.setTop (mkF m 11 #[.val (.ref a1), .val (.int (8 : Int32)), .val (.long (0 : Int64)), .second] [(.int (fAt zn L0 (8 : Int32))), (.long (0 : Int64))])) (fun t k => st434 _ k) ?_
  refine Go.st (U' := T434.setTop (mkF m 14 #[.val (.ref a1), .val (.int (8 : Int32)), .val (.long ((0 : Int64) ||| ((fAt zn L0 (8 : Int32)).toInt64))), .second] [])) (fun t k => ?_) ?_
  · refine XS.i2l X434.here hx rfl (hb hby d7_11) rfl ?_
    refine XS.lor X434.here hx rfl (hb hby d7_12) rfl ?_
    refine XS.lstoreN X434.here hx rfl (hb hby d7_13) rfl (l' := #[.val (.ref a1), .val (.int (8 : Int32)), .val (.long ((0 : Int64) ||| ((fAt zn L0 (8 : Int32)).toInt64))), .second]) rfl ?_
    exact k
  generalize hv_v435 : ((0 : Int64) ||| ((fAt zn L0 (8 : Int32)).toInt64)) = v435
  refine Go.st (U' := T434.setTop (mkF m 22 #[.val (.ref a1), .val (.int (8 : Int32)), .val (.long v435), .second] [(.int (9 : Int32)), (.ref a1), (.long (v435 <<< ((8 : Int32) &&& 0x3f).toInt64))])) (fun t k => ?_) ?_
  · refine XS.lloadN X434.here hx rfl (hb hby d7_14) rfl ?_
    refine XS.bipush X434.here hx rfl (hb hby d7_15) ?_
    refine XS.lshl X434.here hx rfl (hb hby d7_17) rfl ?_
    refine XS.aloadN X434.here hx rfl (hb hby d7_18) rfl rfl ?_
    refine XS.iloadN X434.here hx rfl (hb hby d7_19) rfl ?_
    refine XS.iconst X434.here hx rfl (hb hby d7_20) ?_
    refine XS.iadd X434.here hx rfl (hb hby d7_21) rfl ?_
    exact k
  obtain ⟨_, _, ⟨T436, L436, k436, n436⟩, -, X436, ⟨Lc436, hQ436, l436, y436, z436⟩, st436⟩ := Jvm.LawKit.callS X434 hx (y := own_y14) hown (mvT hZ (own_w hw 40 rfl)) (mvT hZ (own_w hw 41 rfl)) (mvT hZ (own_w hw 38 rfl)) (mvT hZ (own_w hw 42 rfl)) (by decide) (backOf (W := 2) (rmat l Z a0 hw [] a1 (9 : Int32) k1 zn L0 h0 n0 Z0 VA (by decide)) hZ (own_w hw 42 rfl) (own_w hw 38 rfl) (by decide) (by decide)) (g := (mkF m 22 #[.val (.ref a1), .val (.int (8 : Int32)), .val (.long v435), .second] [(.int (9 : Int32)), (.ref a1), (.long (v435 <<< ((8 : Int32) &&& 0x3f).toInt64))])) rfl (by rw [hml]; rfl) (argsL := [(.ref a1), (.int (9 : Int32))]) (rest := [(.long (v435 <<< ((8 : Int32) &&& 0x3f).toInt64))]) (lenOf pd_6 rfl) rfl (by show 2 * 0 + _ ≤ _; exact Nat.le_of_eq rfl) (hb hby d7_22) (fun _ _ => ⟨rfl, e434, (by decide : 0 + 0 ≤ _), (by decide : 0 + 0 ≤ _)⟩)
  dsimp only [Pt.U, Pt.locs, Pt.cells, Pt.slots] at X436 l436 y436 z436 st436 hQ436
  subst l436 y436 z436
  obtain ⟨rfl, N436q, e436⟩ := hQ436
  have N436 := Fr.app N434 N436q
  refine Go.st (U' := T436.setTop (mkF m 25 #[.val (.ref a1), .val (.int (8 : Int32)), .val (.long v435), .second] [(.int (fAt zn L0 (9 : Int32))), (.long (v435 <<< ((8 : Int32) &&& 0x3f).toInt64))])) (fun t k => st436 _ k) ?_
  refine Go.st (U' := T436.setTop (mkF m 28 #[.val (.ref a1), .val (.int (8 : Int32)), .val (.long ((v435 <<< ((8 : Int32) &&& 0x3f).toInt64) ||| ((fAt zn L0 (9 : Int32)).toInt64))), .second] [])) (fun t k => ?_) ?_
  · refine XS.i2l X436.here hx rfl (hb hby d7_25) rfl ?_
    refine XS.lor X436.here hx rfl (hb hby d7_26) rfl ?_
    refine XS.lstoreN X436.here hx rfl (hb hby d7_27) rfl (l' := #[.val (.ref a1), .val (.int (8 : Int32)), .val (.long ((v435 <<< ((8 : Int32) &&& 0x3f).toInt64) ||| ((fAt zn L0 (9 : Int32)).toInt64))), .second]) rfl ?_
    exact k
  generalize hv_v437 : ((v435 <<< ((8 : Int32) &&& 0x3f).toInt64) ||| ((fAt zn L0 (9 : Int32)).toInt64)) = v437
  refine Go.st (U' := T436.setTop (mkF m 36 #[.val (.ref a1), .val (.int (8 : Int32)), .val (.long v437), .second] [(.int (10 : Int32)), (.ref a1), (.long (v437 <<< ((8 : Int32) &&& 0x3f).toInt64))])) (fun t k => ?_) ?_
  · refine XS.lloadN X436.here hx rfl (hb hby d7_28) rfl ?_
    refine XS.bipush X436.here hx rfl (hb hby d7_29) ?_
    refine XS.lshl X436.here hx rfl (hb hby d7_31) rfl ?_
    refine XS.aloadN X436.here hx rfl (hb hby d7_32) rfl rfl ?_
    refine XS.iloadN X436.here hx rfl (hb hby d7_33) rfl ?_
    refine XS.iconst X436.here hx rfl (hb hby d7_34) ?_
    refine XS.iadd X436.here hx rfl (hb hby d7_35) rfl ?_
    exact k
  obtain ⟨_, _, ⟨T438, L438, k438, n438⟩, -, X438, ⟨Lc438, hQ438, l438, y438, z438⟩, st438⟩ := Jvm.LawKit.callS X436 hx (y := own_y14) hown (mvT hZ (own_w hw 40 rfl)) (mvT hZ (own_w hw 41 rfl)) (mvT hZ (own_w hw 38 rfl)) (mvT hZ (own_w hw 42 rfl)) (by decide) (backOf (W := 2) (rmat l Z a0 hw [] a1 (10 : Int32) k1 zn L0 h0 n0 Z0 VA (by decide)) hZ (own_w hw 42 rfl) (own_w hw 38 rfl) (by decide) (by decide)) (g := (mkF m 36 #[.val (.ref a1), .val (.int (8 : Int32)), .val (.long v437), .second] [(.int (10 : Int32)), (.ref a1), (.long (v437 <<< ((8 : Int32) &&& 0x3f).toInt64))])) rfl (by rw [hml]; rfl) (argsL := [(.ref a1), (.int (10 : Int32))]) (rest := [(.long (v437 <<< ((8 : Int32) &&& 0x3f).toInt64))]) (lenOf pd_6 rfl) rfl (by show 2 * 0 + _ ≤ _; exact Nat.le_of_eq rfl) (hb hby d7_36) (fun _ _ => ⟨rfl, e436, (by decide : 0 + 0 ≤ _), (by decide : 0 + 0 ≤ _)⟩)
  dsimp only [Pt.U, Pt.locs, Pt.cells, Pt.slots] at X438 l438 y438 z438 st438 hQ438
  subst l438 y438 z438
  obtain ⟨rfl, N438q, e438⟩ := hQ438
  have N438 := Fr.app N436 N438q
  refine Go.st (U' := T438.setTop (mkF m 39 #[.val (.ref a1), .val (.int (8 : Int32)), .val (.long v437), .second] [(.int (fAt zn L0 (10 : Int32))), (.long (v437 <<< ((8 : Int32) &&& 0x3f).toInt64))])) (fun t k => st438 _ k) ?_
  refine Go.st (U' := T438.setTop (mkF m 42 #[.val (.ref a1), .val (.int (8 : Int32)), .val (.long ((v437 <<< ((8 : Int32) &&& 0x3f).toInt64) ||| ((fAt zn L0 (10 : Int32)).toInt64))), .second] [])) (fun t k => ?_) ?_
  · refine XS.i2l X438.here hx rfl (hb hby d7_39) rfl ?_
    refine XS.lor X438.here hx rfl (hb hby d7_40) rfl ?_
    refine XS.lstoreN X438.here hx rfl (hb hby d7_41) rfl (l' := #[.val (.ref a1), .val (.int (8 : Int32)), .val (.long ((v437 <<< ((8 : Int32) &&& 0x3f).toInt64) ||| ((fAt zn L0 (10 : Int32)).toInt64))), .second]) rfl ?_
    exact k
  generalize hv_v439 : ((v437 <<< ((8 : Int32) &&& 0x3f).toInt64) ||| ((fAt zn L0 (10 : Int32)).toInt64)) = v439
  refine Go.st (U' := T438.setTop (mkF m 50 #[.val (.ref a1), .val (.int (8 : Int32)), .val (.long v439), .second] [(.int (11 : Int32)), (.ref a1), (.long (v439 <<< ((8 : Int32) &&& 0x3f).toInt64))])) (fun t k => ?_) ?_
  · refine XS.lloadN X438.here hx rfl (hb hby d7_42) rfl ?_
    refine XS.bipush X438.here hx rfl (hb hby d7_43) ?_
    refine XS.lshl X438.here hx rfl (hb hby d7_45) rfl ?_
    refine XS.aloadN X438.here hx rfl (hb hby d7_46) rfl rfl ?_
    refine XS.iloadN X438.here hx rfl (hb hby d7_47) rfl ?_
    refine XS.iconst X438.here hx rfl (hb hby d7_48) ?_
    refine XS.iadd X438.here hx rfl (hb hby d7_49) rfl ?_
    exact k
  obtain ⟨_, _, ⟨T440, L440, k440, n440⟩, -, X440, ⟨Lc440, hQ440, l440, y440, z440⟩, st440⟩ := Jvm.LawKit.callS X438 hx (y := own_y14) hown (mvT hZ (own_w hw 40 rfl)) (mvT hZ (own_w hw 41 rfl)) (mvT hZ (own_w hw 38 rfl)) (mvT hZ (own_w hw 42 rfl)) (by decide) (backOf (W := 2) (rmat l Z a0 hw [] a1 (11 : Int32) k1 zn L0 h0 n0 Z0 VA (by decide)) hZ (own_w hw 42 rfl) (own_w hw 38 rfl) (by decide) (by decide)) (g := (mkF m 50 #[.val (.ref a1), .val (.int (8 : Int32)), .val (.long v439), .second] [(.int (11 : Int32)), (.ref a1), (.long (v439 <<< ((8 : Int32) &&& 0x3f).toInt64))])) rfl (by rw [hml]; rfl) (argsL := [(.ref a1), (.int (11 : Int32))]) (rest := [(.long (v439 <<< ((8 : Int32) &&& 0x3f).toInt64))]) (lenOf pd_6 rfl) rfl (by show 2 * 0 + _ ≤ _; exact Nat.le_of_eq rfl) (hb hby d7_50) (fun _ _ => ⟨rfl, e438, (by decide : 0 + 0 ≤ _), (by decide : 0 + 0 ≤ _)⟩)
  dsimp only [Pt.U, Pt.locs, Pt.cells, Pt.slots] at X440 l440 y440 z440 st440 hQ440
  subst l440 y440 z440
  obtain ⟨rfl, N440q, e440⟩ := hQ440
  have N440 := Fr.app N438 N440q
  refine Go.st (U' := T440.setTop (mkF m 53 #[.val (.ref a1), .val (.int (8 : Int32)), .val (.long v439), .second] [(.int (fAt zn L0 (11 : Int32))), (.long (v439 <<< ((8 : Int32) &&& 0x3f).toInt64))])) (fun t k => st440 _ k) ?_
  refine Go.st (U' := T440.setTop (mkF m 56 #[.val (.ref a1), .val (.int (8 : Int32)), .val (.long ((v439 <<< ((8 : Int32) &&& 0x3f).toInt64) ||| ((fAt zn L0 (11 : Int32)).toInt64))), .second] [])) (fun t k => ?_) ?_
  · refine XS.i2l X440.here hx rfl (hb hby d7_53) rfl ?_
    refine XS.lor X440.here hx rfl (hb hby d7_54) rfl ?_
    refine XS.lstoreN X440.here hx rfl (hb hby d7_55) rfl (l' := #[.val (.ref a1), .val (.int (8 : Int32)), .val (.long ((v439 <<< ((8 : Int32) &&& 0x3f).toInt64) ||| ((fAt zn L0 (11 : Int32)).toInt64))), .second]) rfl ?_
    exact k
  generalize hv_v441 : ((v439 <<< ((8 : Int32) &&& 0x3f).toInt64) ||| ((fAt zn L0 (11 : Int32)).toInt64)) = v441
  refine Go.st (U' := T440.setTop (mkF m 64 #[.val (.ref a1), .val (.int (8 : Int32)), .val (.long v441), .second] [(.int (12 : Int32)), (.ref a1), (.long (v441 <<< ((8 : Int32) &&& 0x3f).toInt64))])) (fun t k => ?_) ?_
  · refine XS.lloadN X440.here hx rfl (hb hby d7_56) rfl ?_
    refine XS.bipush X440.here hx rfl (hb hby d7_57) ?_
    refine XS.lshl X440.here hx rfl (hb hby d7_59) rfl ?_
    refine XS.aloadN X440.here hx rfl (hb hby d7_60) rfl rfl ?_
    refine XS.iloadN X440.here hx rfl (hb hby d7_61) rfl ?_
    refine XS.iconst X440.here hx rfl (hb hby d7_62) ?_
    refine XS.iadd X440.here hx rfl (hb hby d7_63) rfl ?_
    exact k
  obtain ⟨_, _, ⟨T442, L442, k442, n442⟩, -, X442, ⟨Lc442, hQ442, l442, y442, z442⟩, st442⟩ := Jvm.LawKit.callS X440 hx (y := own_y14) hown (mvT hZ (own_w hw 40 rfl)) (mvT hZ (own_w hw 41 rfl)) (mvT hZ (own_w hw 38 rfl)) (mvT hZ (own_w hw 42 rfl)) (by decide) (backOf (W := 2) (rmat l Z a0 hw [] a1 (12 : Int32) k1 zn L0 h0 n0 Z0 VA (by decide)) hZ (own_w hw 42 rfl) (own_w hw 38 rfl) (by decide) (by decide)) (g := (mkF m 64 #[.val (.ref a1), .val (.int (8 : Int32)), .val (.long v441), .second] [(.int (12 : Int32)), (.ref a1), (.long (v441 <<< ((8 : Int32) &&& 0x3f).toInt64))])) rfl (by rw [hml]; rfl) (argsL := [(.ref a1), (.int (12 : Int32))]) (rest := [(.long (v441 <<< ((8 : Int32) &&& 0x3f).toInt64))]) (lenOf pd_6 rfl) rfl (by show 2 * 0 + _ ≤ _; exact Nat.le_of_eq rfl) (hb hby d7_64) (fun _ _ => ⟨rfl, e440, (by decide : 0 + 0 ≤ _), (by decide : 0 + 0 ≤ _)⟩)
  dsimp only [Pt.U, Pt.locs, Pt.cells, Pt.slots] at X442 l442 y442 z442 st442 hQ442
  subst l442 y442 z442
  obtain ⟨rfl, N442q, e442⟩ := hQ442
  have N442 := Fr.app N440 N442q
  refine Go.st (U' := T442.setTop (mkF m 67 #[.val (.ref a1), .val (.int (8 : Int32)), .val (.long v441), .second] [(.int (fAt zn L0 (12 : Int32))), (.long (v441 <<< ((8 : Int32) &&& 0x3f).toInt64))])) (fun t k => st442 _ k) ?_
  refine Go.st (U' := T442.setTop (mkF m 70 #[.val (.ref a1), .val (.int (8 : Int32)), .val (.long ((v441 <<< ((8 : Int32) &&& 0x3f).toInt64) ||| ((fAt zn L0 (12 : Int32)).toInt64))), .second] [])) (fun t k => ?_) ?_
  · refine XS.i2l X442.here hx rfl (hb hby d7_67) rfl ?_
    refine XS.lor X442.here hx rfl (hb hby d7_68) rfl ?_
    refine XS.lstoreN X442.here hx rfl (hb hby d7_69) rfl (l' := #[.val (.ref a1), .val (.int (8 : Int32)), .val (.long ((v441 <<< ((8 : Int32) &&& 0x3f).toInt64) ||| ((fAt zn L0 (12 : Int32)).toInt64))), .second]) rfl ?_
    exact k
  generalize hv_v443 : ((v441 <<< ((8 : Int32) &&& 0x3f).toInt64) ||| ((fAt zn L0 (12 : Int32)).toInt64)) = v443
  refine Go.st (U' := T442.setTop (mkF m 78 #[.val (.ref a1), .val (.int (8 : Int32)), .val (.long v443), .second] [(.int (13 : Int32)), (.ref a1), (.long (v443 <<< ((8 : Int32) &&& 0x3f).toInt64))])) (fun t k => ?_) ?_
  · refine XS.lloadN X442.here hx rfl (hb hby d7_70) rfl ?_
    refine XS.bipush X442.here hx rfl (hb hby d7_71) ?_
    refine XS.lshl X442.here hx rfl (hb hby d7_73) rfl ?_
    refine XS.aloadN X442.here hx rfl (hb hby d7_74) rfl rfl ?_
    refine XS.iloadN X442.here hx rfl (hb hby d7_75) rfl ?_
    refine XS.iconst X442.here hx rfl (hb hby d7_76) ?_
    refine XS.iadd X442.here hx rfl (hb hby d7_77) rfl ?_
    exact k
  obtain ⟨_, _, ⟨T444, L444, k444, n444⟩, -, X444, ⟨Lc444, hQ444, l444, y444, z444⟩, st444⟩ := Jvm.LawKit.callS X442 hx (y := own_y14) hown (mvT hZ (own_w hw 40 rfl)) (mvT hZ (own_w hw 41 rfl)) (mvT hZ (own_w hw 38 rfl)) (mvT hZ (own_w hw 42 rfl)) (by decide) (backOf (W := 2) (rmat l Z a0 hw [] a1 (13 : Int32) k1 zn L0 h0 n0 Z0 VA (by decide)) hZ (own_w hw 42 rfl) (own_w hw 38 rfl) (by decide) (by decide)) (g := (mkF m 78 #[.val (.ref a1), .val (.int (8 : Int32)), .val (.long v443), .second] [(.int (13 : Int32)), (.ref a1), (.long (v443 <<< ((8 : Int32) &&& 0x3f).toInt64))])) rfl (by rw [hml]; rfl) (argsL := [(.ref a1), (.int (13 : Int32))]) (rest := [(.long (v443 <<< ((8 : Int32) &&& 0x3f).toInt64))]) (lenOf pd_6 rfl) rfl (by show 2 * 0 + _ ≤ _; exact Nat.le_of_eq rfl) (hb hby d7_78) (fun _ _ => ⟨rfl, e442, (by decide : 0 + 0 ≤ _), (by decide : 0 + 0 ≤ _)⟩)
  dsimp only [Pt.U, Pt.locs, Pt.cells, Pt.slots] at X444 l444 y444 z444 st444 hQ444
  subst l444 y444 z444
  obtain ⟨rfl, N444q, e444⟩ := hQ444
  have N444 := Fr.app N442 N444q
  refine Go.st (U' := T444.setTop (mkF m 81 #[.val (.ref a1), .val (.int (8 : Int32)), .val (.long v443), .second] [(.int (fAt zn L0 (13 : Int32))), (.long (v443 <<< ((8 : Int32) &&& 0x3f).toInt64))])) (fun t k => st444 _ k) ?_
  refine Go.st (U' := T444.setTop (mkF m 84 #[.val (.ref a1), .val (.int (8 : Int32)), .val (.long ((v443 <<< ((8 : Int32) &&& 0x3f).toInt64) ||| ((fAt zn L0 (13 : Int32)).toInt64))), .second] [])) (fun t k => ?_) ?_
  · refine XS.i2l X444.here hx rfl (hb hby d7_81) rfl ?_
    refine XS.lor X444.here hx rfl (hb hby d7_82) rfl ?_
    refine XS.lstoreN X444.here hx rfl (hb hby d7_83) rfl (l' := #[.val (.ref a1), .val (.int (8 : Int32)), .val (.long ((v443 <<< ((8 : Int32) &&& 0x3f).toInt64) ||| ((fAt zn L0 (13 : Int32)).toInt64))), .second]) rfl ?_
    exact k
  generalize hv_v445 : ((v443 <<< ((8 : Int32) &&& 0x3f).toInt64) ||| ((fAt zn L0 (13 : Int32)).toInt64)) = v445
  refine Go.st (U' := T444.setTop (mkF m 93 #[.val (.ref a1), .val (.int (8 : Int32)), .val (.long v445), .second] [(.int (14 : Int32)), (.ref a1), (.long (v445 <<< ((8 : Int32) &&& 0x3f).toInt64))])) (fun t k => ?_) ?_
  · refine XS.lloadN X444.here hx rfl (hb hby d7_84) rfl ?_
    refine XS.bipush X444.here hx rfl (hb hby d7_85) ?_
    refine XS.lshl X444.here hx rfl (hb hby d7_87) rfl ?_
    refine XS.aloadN X444.here hx rfl (hb hby d7_88) rfl rfl ?_
    refine XS.iloadN X444.here hx rfl (hb hby d7_89) rfl ?_
    refine XS.bipush X444.here hx rfl (hb hby d7_90) ?_
    refine XS.iadd X444.here hx rfl (hb hby d7_92) rfl ?_
    exact k
  obtain ⟨_, _, ⟨T446, L446, k446, n446⟩, -, X446, ⟨Lc446, hQ446, l446, y446, z446⟩, st446⟩ := Jvm.LawKit.callS X444 hx (y := own_y14) hown (mvT hZ (own_w hw 40 rfl)) (mvT hZ (own_w hw 41 rfl)) (mvT hZ (own_w hw 38 rfl)) (mvT hZ (own_w hw 42 rfl)) (by decide) (backOf (W := 2) (rmat l Z a0 hw [] a1 (14 : Int32) k1 zn L0 h0 n0 Z0 VA (by decide)) hZ (own_w hw 42 rfl) (own_w hw 38 rfl) (by decide) (by decide)) (g := (mkF m 93 #[.val (.ref a1), .val (.int (8 : Int32)), .val (.long v445), .second] [(.int (14 : Int32)), (.ref a1), (.long (v445 <<< ((8 : Int32) &&& 0x3f).toInt64))])) rfl (by rw [hml]; rfl) (argsL := [(.ref a1), (.int (14 : Int32))]) (rest := [(.long (v445 <<< ((8 : Int32) &&& 0x3f).toInt64))]) (lenOf pd_6 rfl) rfl (by show 2 * 0 + _ ≤ _; exact Nat.le_of_eq rfl) (hb hby d7_93) (fun _ _ => ⟨rfl, e444, (by decide : 0 + 0 ≤ _), (by decide : 0 + 0 ≤ _)⟩)
  dsimp only [Pt.U, Pt.locs, Pt.cells, Pt.slots] at X446 l446 y446 z446 st446 hQ446
  subst l446 y446 z446
  obtain ⟨rfl, N446q, e446⟩ := hQ446
  have N446 := Fr.app N444 N446q
  refine Go.st (U' := T446.setTop (mkF m 96 #[.val (.ref a1), .val (.int (8 : Int32)), .val (.long v445), .second] [(.int (fAt zn L0 (14 : Int32))), (.long (v445 <<< ((8 : Int32) &&& 0x3f).toInt64))])) (fun t k => st446 _ k) ?_
  refine Go.st (U' := T446.setTop (mkF m 99 #[.val (.ref a1), .val (.int (8 : Int32)), .val (.long ((v445 <<< ((8 : Int32) &&& 0x3f).toInt64) ||| ((fAt zn L0 (14 : Int32)).toInt64))), .second] [])) (fun t k => ?_) ?_
  · refine XS.i2l X446.here hx rfl (hb hby d7_96) rfl ?_
    refine XS.lor X446.here hx rfl (hb hby d7_97) rfl ?_
    refine XS.lstoreN X446.here hx rfl (hb hby d7_98) rfl (l' := #[.val (.ref a1), .val (.int (8 : Int32)), .val (.long ((v445 <<< ((8 : Int32) &&& 0x3f).toInt64) ||| ((fAt zn L0 (14 : Int32)).toInt64))), .second]) rfl ?_
    exact k
  generalize hv_v447 : ((v445 <<< ((8 : Int32) &&& 0x3f).toInt64) ||| ((fAt zn L0 (14 : Int32)).toInt64)) = v447
  refine Go.st (U' := T446.setTop (mkF m 108 #[.val (.ref a1), .val (.int (8 : Int32)), .val (.long v447), .second] [(.int (15 : Int32)), (.ref a1), (.long (v447 <<< ((8 : Int32) &&& 0x3f).toInt64))])) (fun t k => ?_) ?_
  · refine XS.lloadN X446.here hx rfl (hb hby d7_99) rfl ?_
    refine XS.bipush X446.here hx rfl (hb hby d7_100) ?_
    refine XS.lshl X446.here hx rfl (hb hby d7_102) rfl ?_
    refine XS.aloadN X446.here hx rfl (hb hby d7_103) rfl rfl ?_
    refine XS.iloadN X446.here hx rfl (hb hby d7_104) rfl ?_
    refine XS.bipush X446.here hx rfl (hb hby d7_105) ?_
    refine XS.iadd X446.here hx rfl (hb hby d7_107) rfl ?_
    exact k
  obtain ⟨_, _, ⟨T448, L448, k448, n448⟩, -, X448, ⟨Lc448, hQ448, l448, y448, z448⟩, st448⟩ := Jvm.LawKit.callS X446 hx (y := own_y14) hown (mvT hZ (own_w hw 40 rfl)) (mvT hZ (own_w hw 41 rfl)) (mvT hZ (own_w hw 38 rfl)) (mvT hZ (own_w hw 42 rfl)) (by decide) (backOf (W := 2) (rmat l Z a0 hw [] a1 (15 : Int32) k1 zn L0 h0 n0 Z0 VA (by decide)) hZ (own_w hw 42 rfl) (own_w hw 38 rfl) (by decide) (by decide)) (g := (mkF m 108 #[.val (.ref a1), .val (.int (8 : Int32)), .val (.long v447), .second] [(.int (15 : Int32)), (.ref a1), (.long (v447 <<< ((8 : Int32) &&& 0x3f).toInt64))])) rfl (by rw [hml]; rfl) (argsL := [(.ref a1), (.int (15 : Int32))]) (rest := [(.long (v447 <<< ((8 : Int32) &&& 0x3f).toInt64))]) (lenOf pd_6 rfl) rfl (by show 2 * 0 + _ ≤ _; exact Nat.le_of_eq rfl) (hb hby d7_108) (fun _ _ => ⟨rfl, e446, (by decide : 0 + 0 ≤ _), (by decide : 0 + 0 ≤ _)⟩)
  dsimp only [Pt.U, Pt.locs, Pt.cells, Pt.slots] at X448 l448 y448 z448 st448 hQ448
  subst l448 y448 z448
  obtain ⟨rfl, N448q, e448⟩ := hQ448
  have N448 := Fr.app N446 N448q
  refine Go.st (U' := T448.setTop (mkF m 111 #[.val (.ref a1), .val (.int (8 : Int32)), .val (.long v447), .second] [(.int (fAt zn L0 (15 : Int32))), (.long (v447 <<< ((8 : Int32) &&& 0x3f).toInt64))])) (fun t k => st448 _ k) ?_
  refine Go.st (U' := T448.setTop (mkF m 114 #[.val (.ref a1), .val (.int (8 : Int32)), .val (.long ((v447 <<< ((8 : Int32) &&& 0x3f).toInt64) ||| ((fAt zn L0 (15 : Int32)).toInt64))), .second] [])) (fun t k => ?_) ?_
  · refine XS.i2l X448.here hx rfl (hb hby d7_111) rfl ?_
    refine XS.lor X448.here hx rfl (hb hby d7_112) rfl ?_
    refine XS.lstoreN X448.here hx rfl (hb hby d7_113) rfl (l' := #[.val (.ref a1), .val (.int (8 : Int32)), .val (.long ((v447 <<< ((8 : Int32) &&& 0x3f).toInt64) ||| ((fAt zn L0 (15 : Int32)).toInt64))), .second]) rfl ?_
    exact k
  generalize hv_v449 : ((v447 <<< ((8 : Int32) &&& 0x3f).toInt64) ||| ((fAt zn L0 (15 : Int32)).toInt64)) = v449
  refine Go.st (U' := T448.setTop (mkF m 115 #[.val (.ref a1), .val (.int (8 : Int32)), .val (.long v449), .second] [(.long v449)])) (fun t k => ?_) ?_
  · refine XS.lloadN X448.here hx rfl (hb hby d7_114) rfl ?_
    exact k
  refine own_ret (Q := Qk8 Z a1 k1 zn L0 h0 n0) (v := some (.long v449)) X448 hlk (fun h => by rw [hrt] at h; cases h) (by decide) (by decide) ?_ (fun fs hr => retOut X448 hx (t := .long) hrt rfl (Or.inr (Or.inl ⟨rfl, rfl, _, rfl⟩)) (hb hby d7_115) hr)
  rw [e448]
  subst hv_v435; subst hv_v437; subst hv_v439; subst hv_v441; subst hv_v443; subst hv_v445; subst hv_v447; subst hv_v449; exact ⟨rfl, N448, rfl⟩
theorem d17_0 : decode method_3_code 0 = .ok (.aload_n 0, 1) := by decide +kernel
theorem d17_1 : decode method_3_code 1 = .ok (.iload_n 1, 1) := by decide +kernel
theorem d17_2 : decode method_3_code 2 = .ok (.iload_n 2, 1) := by decide +kernel
theorem d17_3 : decode method_3_code 3 = .ok (.bipush 24, 2) := by decide +kernel
theorem d17_5 : decode method_3_code 5 = .ok (.iushr, 1) := by decide +kernel
theorem d17_6 : decode method_3_code 6 = .ok (.i2b, 1) := by decide +kernel
theorem d17_7 : decode method_3_code 7 = .ok (.bastore, 1) := by decide +kernel
theorem d17_8 : decode method_3_code 8 = .ok (.aload_n 0, 1) := by decide +kernel
theorem d17_9 : decode method_3_code 9 = .ok (.iload_n 1, 1) := by decide +kernel
theorem d17_10 : decode method_3_code 10 = .ok (.iconst 1, 1) := by decide +kernel
theorem d17_11 : decode method_3_code 11 = .ok (.iadd, 1) := by decide +kernel
theorem d17_12 : decode method_3_code 12 = .ok (.iload_n 2, 1) := by decide +kernel
theorem d17_13 : decode method_3_code 13 = .ok (.bipush 16, 2) := by decide +kernel
theorem d17_15 : decode method_3_code 15 = .ok (.iushr, 1) := by decide +kernel
theorem d17_16 : decode method_3_code 16 = .ok (.i2b, 1) := by decide +kernel
theorem d17_17 : decode method_3_code 17 = .ok (.bastore, 1) := by decide +kernel
theorem d17_18 : decode method_3_code 18 = .ok (.aload_n 0, 1) := by decide +kernel
theorem d17_19 : decode method_3_code 19 = .ok (.iload_n 1, 1) := by decide +kernel
theorem d17_20 : decode method_3_code 20 = .ok (.iconst 2, 1) := by decide +kernel
theorem d17_21 : decode method_3_code 21 = .ok (.iadd, 1) := by decide +kernel
theorem d17_22 : decode method_3_code 22 = .ok (.iload_n 2, 1) := by decide +kernel
theorem d17_23 : decode method_3_code 23 = .ok (.bipush 8, 2) := by decide +kernel
theorem d17_25 : decode method_3_code 25 = .ok (.iushr, 1) := by decide +kernel
theorem d17_26 : decode method_3_code 26 = .ok (.i2b, 1) := by decide +kernel
theorem d17_27 : decode method_3_code 27 = .ok (.bastore, 1) := by decide +kernel
theorem d17_28 : decode method_3_code 28 = .ok (.aload_n 0, 1) := by decide +kernel
theorem d17_29 : decode method_3_code 29 = .ok (.iload_n 1, 1) := by decide +kernel
theorem d17_30 : decode method_3_code 30 = .ok (.iconst 3, 1) := by decide +kernel
theorem d17_31 : decode method_3_code 31 = .ok (.iadd, 1) := by decide +kernel
theorem d17_32 : decode method_3_code 32 = .ok (.iload_n 2, 1) := by decide +kernel
theorem d17_33 : decode method_3_code 33 = .ok (.i2b, 1) := by decide +kernel
theorem d17_34 : decode method_3_code 34 = .ok (.bastore, 1) := by decide +kernel
theorem d17_35 : decode method_3_code 35 = .ok (.return_, 1) := by decide +kernel
theorem efq0 (m : MethodId) (a1 : Addr) (p3 : Int32) : entryFrame m #[(.ref a1), (.int (0 : Int32)), (.int p3)] 3 = mkF m 0 #[.val (.ref a1), .val (.int (0 : Int32)), .val (.int p3)] [] := by first | (simp [entryFrame, mkF, argsToLocals, Value.category]; done) | rfl
def Qq0 (Z : State) (a1 : Addr) (k1 : ClassId) (c0 : Int32) (c1 : Int32) (c2 : Int32) (c3 : Int32) (c4 : Int32) (c5 : Int32) (c6 : Int32) (c7 : Int32) (c8 : Int32) (c9 : Int32) (c10 : Int32) (c11 : Int32) (c12 : Int32) (c13 : Int32) (c14 : Int32) (c15 : Int32) (p3 : Int32) (h0 : Heap) (n0 : Nat) (v : Option Value) (h : Heap) (L : List Loc) : Prop := v = none ∧ Fr n0 L ∧ Keep h0 h [a1] ∧ Arv Z h a1 k1 .byte (16 : Int32) [(.int (own_b3 p3)), (.int (own_b2 p3)), (.int (own_b1 p3)), (.int (own_b0 p3)), (.int c4), (.int c5), (.int c6), (.int c7), (.int c8), (.int c9), (.int c10), (.int c11), (.int c12), (.int c13), (.int c14), (.int c15)] (.int (0 : Int32))
set_option maxRecDepth 65536 in
set_option maxHeartbeats 40000000 in
theorem rmq0 (l : Launch) (Z : State) (a0 : Array Value) (hw : ∀ d ∈ tables_1, d.before a0 Z = true) (ws : List Jvm.Cond) (a1 : Addr) (k1 : ClassId) (c0 : Int32) (c1 : Int32) (c2 : Int32) (c3 : Int32) (c4 : Int32) (c5 : Int32) (c6 : Int32) (c7 : Int32) (c8 : Int32) (c9 : Int32) (c10 : Int32) (c11 : Int32) (c12 : Int32) (c13 : Int32) (c14 : Int32) (c15 : Int32) (p3 : Int32) (h0 : Heap) (n0 : Nat) (Z0 : n0 ≤ h0.size) (VA : Arv Z h0 a1 k1 .byte (16 : Int32) [(.int c0), (.int c1), (.int c2), (.int c3), (.int c4), (.int c5), (.int c6), (.int c7), (.int c8), (.int c9), (.int c10), (.int c11), (.int c12), (.int c13), (.int c14), (.int c15)] (.int (0 : Int32))) (gA : n0 ≤ a1) :
    MetFree l own_y16 (head1 (Jvm.Cond.code own_y16 method_3_code 3 none :: ws) own_R0_0_0_0) (fun a U => a = #[(.ref a1), (.int (0 : Int32)), (.int p3)] ∧ Z.Warmed39 U.vm ∧ U.heap = h0) (fun _ _ _ _ _ => True) (fun _ U o U' => ∃ v L, o = .returned v ∧ Qq0 Z a1 k1 c0 c1 c2 c3 c4 c5 c6 c7 c8 c9 c10 c11 c12 c13 c14 c15 p3 h0 n0 v U'.heap L ∧ FrameEnd U o U' L (own_R0_0_0_0).cells (own_R0_0_0_0).slots) := by
  refine MetFree.of_bodySF (plainFor_of_name pn_1) hisR ?_
  intro p e s m args below meth c s₁ Bd hml0 hP hK
  obtain ⟨rfl, hZ, hh⟩ := hP
  have hx := Bd.exec
  have hby := Bd.bytes
  have hml : c.maxLocals = 3 := hml0
  have hown : s.vm.findClass "com/example/portcullis/portcullis/io/CdrOutputToByteArrayPinLaw" = some m.cls := findClass_of_methodNamed Bd.named
  have hnm := (name_of_methodNamed Bd.named Bd.method).1
  have hlk : meth.locks = false := BodyLoose.notSynchronized Bd
  have hrt := Bd.returns
  have X0 : Stand p l e own_R0_0_0_0 s m #[(.ref a1), (.int (0 : Int32)), (.int p3)] below meth c s₁ [] 0 0 := Stand.of_body Bd
  have e0 : s₁.heap = h0 := by rw [← hh, Bd.state]; rfl
  have N0 := Fr.nil n0
  refine (show Go p e below (fun s₂ o => ∃ v L, o = .returned v ∧ Qq0 Z a1 k1 c0 c1 c2 c3 c4 c5 c6 c7 c8 c9 c10 c11 c12 c13 c14 c15 p3 h0 n0 v s₂.heap L ∧ FrameEnd s o s₂ L 0 0) (s₁.setTop (entryFrame m #[(.ref a1), (.int (0 : Int32)), (.int p3)] 3)) from ?_)
  rw [efq0]
  refine Go.st (U' := s₁.setTop (mkF m 7 #[.val (.ref a1), .val (.int (0 : Int32)), .val (.int p3)] [(.int (((p3.toUInt32 >>> ((24 : Int32) &&& 31).toUInt32).toInt32).toInt8.toInt32)), (.int (0 : Int32)), (.ref a1)])) (fun t k => ?_) ?_
  · refine XS.aloadN X0.here hx rfl (hb hby d17_0) rfl rfl ?_
    refine XS.iloadN X0.here hx rfl (hb hby d17_1) rfl ?_
    refine XS.iloadN X0.here hx rfl (hb hby d17_2) rfl ?_
    refine XS.bipush X0.here hx rfl (hb hby d17_3) ?_
    refine XS.iushr X0.here hx rfl (hb hby d17_5) rfl ?_
    refine XS.i2b X0.here hx rfl (hb hby d17_6) rfl ?_
    exact k
  obtain ⟨cl451, Ar451, q451, S451, N451, H451, G451⟩ := id VA
  obtain ⟨T450, h450, X450, e450, W450, st450⟩ := stB X0 hx hZ e0 Ar451 (j := (0 : Int32)) (inb_of (j := (0 : Int32)) S451 ⟨by decide, by decide⟩) (g := (mkF m 7 #[.val (.ref a1), .val (.int (0 : Int32)), .val (.int p3)] [(.int (((p3.toUInt32 >>> ((24 : Int32) &&& 31).toUInt32).toInt32).toInt8.toInt32)), (.int (0 : Int32)), (.ref a1)])) rfl rfl (hb hby d17_7)
  have VA_450 := Arv.set Ar451 q451 S451 N451 H451 G451 (fits_nar_byte _) W450 0 rfl (Nat.le_of_ble_eq_true rfl)
  have N450 := Fr.snoc X450 N0 gA
  have KK450 : Keep h0 h450 [a1] := (Keep.refl h0 [a1]).wr W450 (Or.inl (List.mem_of_getElem? (i := 0) rfl))
  have sz450 : n0 ≤ h450.size := Nat.le_trans Z0 (Nat.le_of_eq W450.size.symm)
  refine Go.st (U' := T450.setTop (mkF m 8 #[.val (.ref a1), .val (.int (0 : Int32)), .val (.int p3)] [])) (fun t k => st450 _ k) ?_
  refine Go.st (U' := T450.setTop (mkF m 17 #[.val (.ref a1), .val (.int (0 : Int32)), .val (.int p3)] [(.int (((p3.toUInt32 >>> ((16 : Int32) &&& 31).toUInt32).toInt32).toInt8.toInt32)), (.int (1 : Int32)), (.ref a1)])) (fun t k => ?_) ?_
  · refine XS.aloadN X450.here hx rfl (hb hby d17_8) rfl rfl ?_
    refine XS.iloadN X450.here hx rfl (hb hby d17_9) rfl ?_
    refine XS.iconst X450.here hx rfl (hb hby d17_10) ?_
    refine XS.iadd X450.here hx rfl (hb hby d17_11) rfl ?_
    refine XS.iloadN X450.here hx rfl (hb hby d17_12) rfl ?_
    refine XS.bipush X450.here hx rfl (hb hby d17_13) ?_
    refine XS.iushr X450.here hx rfl (hb hby d17_15) rfl ?_
    refine XS.i2b X450.here hx rfl (hb hby d17_16) rfl ?_
    exact k
  obtain ⟨cl453, Ar453, q453, S453, N453, H453, G453⟩ := id VA_450
  obtain ⟨T452, h452, X452, e452, W452, st452⟩ := stB X450 hx hZ e450 Ar453 (j := (1 : Int32)) (inb_of (j := (1 : Int32)) S453 ⟨by decide, by decide⟩) (g := (mkF m 17 #[.val (.ref a1), .val (.int (0 : Int32)), .val (.int p3)] [(.int (((p3.toUInt32 >>> ((16 : Int32) &&& 31).toUInt32).toInt32).toInt8.toInt32)), (.int (1 : Int32)), (.ref a1)])) rfl rfl (hb hby d17_17)
  have VA_452 := Arv.set Ar453 q453 S453 N453 H453 G453 (fits_nar_byte _) W452 1 rfl (Nat.le_of_ble_eq_true rfl)
  have N452 := Fr.snoc X452 N450 gA
  have KK452 : Keep h0 h452 [a1] := KK450.wr W452 (Or.inl (List.mem_of_getElem? (i := 0) rfl))
  have sz452 : n0 ≤ h452.size := Nat.le_trans sz450 (Nat.le_of_eq W452.size.symm)
  refine Go.st (U' := T452.setTop (mkF m 18 #[.val (.ref a1), .val (.int (0 : Int32)), .val (.int p3)] [])) (fun t k => st452 _ k) ?_
  refine Go.st (U' := T452.setTop (mkF m 27 #[.val (.ref a1), .val (.int (0 : Int32)), .val (.int p3)] [(.int (((p3.toUInt32 >>> ((8 : Int32) &&& 31).toUInt32).toInt32).toInt8.toInt32)), (.int (2 : Int32)), (.ref a1)])) (fun t k => ?_) ?_
  · refine XS.aloadN X452.here hx rfl (hb hby d17_18) rfl rfl ?_
    refine XS.iloadN X452.here hx rfl (hb hby d17_19) rfl ?_
    refine XS.iconst X452.here hx rfl (hb hby d17_20) ?_
    refine XS.iadd X452.here hx rfl (hb hby d17_21) rfl ?_
    refine XS.iloadN X452.here hx rfl (hb hby d17_22) rfl ?_
    refine XS.bipush X452.here hx rfl (hb hby d17_23) ?_
    refine XS.iushr X452.here hx rfl (hb hby d17_25) rfl ?_
    refine XS.i2b X452.here hx rfl (hb hby d17_26) rfl ?_
    exact k
  obtain ⟨cl455, Ar455, q455, S455, N455, H455, G455⟩ := id VA_452
  obtain ⟨T454, h454, X454, e454, W454, st454⟩ := stB X452 hx hZ e452 Ar455 (j := (2 : Int32)) (inb_of (j := (2 : Int32)) S455 ⟨by decide, by decide⟩) (g := (mkF m 27 #[.val (.ref a1), .val (.int (0 : Int32)), .val (.int p3)] [(.int (((p3.toUInt32 >>> ((8 : Int32) &&& 31).toUInt32).toInt32).toInt8.toInt32)), (.int (2 : Int32)), (.ref a1)])) rfl rfl (hb hby d17_27)
  have VA_454 := Arv.set Ar455 q455 S455 N455 H455 G455 (fits_nar_byte _) W454 2 rfl (Nat.le_of_ble_eq_true rfl)
  have N454 := Fr.snoc X454 N452 gA
  have KK454 : Keep h0 h454 [a1] := KK452.wr W454 (Or.inl (List.mem_of_getElem? (i := 0) rfl))
  have sz454 : n0 ≤ h454.size := Nat.le_trans sz452 (Nat.le_of_eq W454.size.symm)
  refine Go.st (U' := T454.setTop (mkF m 28 #[.val (.ref a1), .val (.int (0 : Int32)), .val (.int p3)] [])) (fun t k => st454 _ k) ?_
  refine Go.st (U' := T454.setTop (mkF m 34 #[.val (.ref a1), .val (.int (0 : Int32)), .val (.int p3)] [(.int (p3.toInt8.toInt32)), (.int (3 : Int32)), (.ref a1)])) (fun t k => ?_) ?_
  · refine XS.aloadN X454.here hx rfl (hb hby d17_28) rfl rfl ?_
    refine XS.iloadN X454.here hx rfl (hb hby d17_29) rfl ?_
    refine XS.iconst X454.here hx rfl (hb hby d17_30) ?_
    refine XS.iadd X454.here hx rfl (hb hby d17_31) rfl ?_
    refine XS.iloadN X454.here hx rfl (hb hby d17_32) rfl ?_
    refine XS.i2b X454.here hx rfl (hb hby d17_33) rfl ?_
    exact k
  obtain ⟨cl457, Ar457, q457, S457, N457, H457, G457⟩ := id VA_454
  obtain ⟨T456, h456, X456, e456, W456, st456⟩ := stB X454 hx hZ e454 Ar457 (j := (3 : Int32)) (inb_of (j := (3 : Int32)) S457 ⟨by decide, by decide⟩) (g := (mkF m 34 #[.val (.ref a1), .val (.int (0 : Int32)), .val (.int p3)] [(.int (p3.toInt8.toInt32)), (.int (3 : Int32)), (.ref a1)])) rfl rfl (hb hby d17_34)
  have VA_456 := Arv.set Ar457 q457 S457 N457 H457 G457 (fits_nar_byte _) W456 3 rfl (Nat.le_of_ble_eq_true rfl)
  have N456 := Fr.snoc X456 N454 gA
  have KK456 : Keep h0 h456 [a1] := KK454.wr W456 (Or.inl (List.mem_of_getElem? (i := 0) rfl))
  have sz456 : n0 ≤ h456.size := Nat.le_trans sz454 (Nat.le_of_eq W456.size.symm)
  refine Go.st (U' := T456.setTop (mkF m 35 #[.val (.ref a1), .val (.int (0 : Int32)), .val (.int p3)] [])) (fun t k => st456 _ k) ?_
  refine own_ret (Q := Qq0 Z a1 k1 c0 c1 c2 c3 c4 c5 c6 c7 c8 c9 c10 c11 c12 c13 c14 c15 p3 h0 n0) (v := none) X456 hlk (fun _ => rfl) (by decide) (by decide) ?_ (fun fs hr => X456.returnOut hx hrt (hb hby d17_35) hr)
  rw [e456]
  exact ⟨rfl, N456, KK456, VA_456⟩
theorem efq4 (m : MethodId) (a1 : Addr) (p3 : Int32) : entryFrame m #[(.ref a1), (.int (4 : Int32)), (.int p3)] 3 = mkF m 0 #[.val (.ref a1), .val (.int (4 : Int32)), .val (.int p3)] [] := by first | (simp [entryFrame, mkF, argsToLocals, Value.category]; done) | rfl
def Qq4 (Z : State) (a1 : Addr) (k1 : ClassId) (c0 : Int32) (c1 : Int32) (c2 : Int32) (c3 : Int32) (c4 : Int32) (c5 : Int32) (c6 : Int32) (c7 : Int32) (c8 : Int32) (c9 : Int32) (c10 : Int32) (c11 : Int32) (c12 : Int32) (c13 : Int32) (c14 : Int32) (c15 : Int32) (p3 : Int32) (h0 : Heap) (n0 : Nat) (v : Option Value) (h : Heap) (L : List Loc) : Prop := v = none ∧ Fr n0 L ∧ Keep h0 h [a1] ∧ Arv Z h a1 k1 .byte (16 : Int32) [(.int c0), (.int c1), (.int c2), (.int c3), (.int (own_b3 p3)), (.int (own_b2 p3)), (.int (own_b1 p3)), (.int (own_b0 p3)), (.int c8), (.int c9), (.int c10), (.int c11), (.int c12), (.int c13), (.int c14), (.int c15)] (.int (0 : Int32))
set_option maxRecDepth 65536 in
set_option maxHeartbeats 40000000 in
theorem rmq4 (l : Launch) (Z : State) (a0 : Array Value) (hw : ∀ d ∈ tables_1, d.before a0 Z = true) (ws : List Jvm.Cond) (a1 : Addr) (k1 : ClassId) (c0 : Int32) (c1 : Int32) (c2 : Int32) (c3 : Int32) (c4 : Int32) (c5 : Int32) (c6 : Int32) (c7 : Int32) (c8 : Int32) (c9 : Int32) (c10 : Int32) (c11 : Int32) (c12 : Int32) (c13 : Int32) (c14 : Int32) (c15 : Int32) (p3 : Int32) (h0 : Heap) (n0 : Nat) (Z0 : n0 ≤ h0.size) (VA : Arv Z h0 a1 k1 .byte (16 : Int32) [(.int c0), (.int c1), (.int c2), (.int c3), (.int c4), (.int c5), (.int c6), (.int c7), (.int c8), (.int c9), (.int c10), (.int c11), (.int c12), (.int c13), (.int c14), (.int c15)] (.int (0 : Int32))) (gA : n0 ≤ a1) :
    MetFree l own_y16 (head1 (Jvm.Cond.code own_y16 method_3_code 3 none :: ws) own_R0_0_0_0) (fun a U => a = #[(.ref a1), (.int (4 : Int32)), (.int p3)] ∧ Z.Warmed39 U.vm ∧ U.heap = h0) (fun _ _ _ _ _ => True) (fun _ U o U' => ∃ v L, o = .returned v ∧ Qq4 Z a1 k1 c0 c1 c2 c3 c4 c5 c6 c7 c8 c9 c10 c11 c12 c13 c14 c15 p3 h0 n0 v U'.heap L ∧ FrameEnd U o U' L (own_R0_0_0_0).cells (own_R0_0_0_0).slots) := by
  refine MetFree.of_bodySF (plainFor_of_name pn_1) hisR ?_
  intro p e s m args below meth c s₁ Bd hml0 hP hK
  obtain ⟨rfl, hZ, hh⟩ := hP
  have hx := Bd.exec
  have hby := Bd.bytes
  have hml : c.maxLocals = 3 := hml0
  have hown : s.vm.findClass "com/example/portcullis/portcullis/io/CdrOutputToByteArrayPinLaw" = some m.cls := findClass_of_methodNamed Bd.named
  have hnm := (name_of_methodNamed Bd.named Bd.method).1
  have hlk : meth.locks = false := BodyLoose.notSynchronized Bd
  have hrt := Bd.returns
  have X0 : Stand p l e own_R0_0_0_0 s m #[(.ref a1), (.int (4 : Int32)), (.int p3)] below meth c s₁ [] 0 0 := Stand.of_body Bd
  have e0 : s₁.heap = h0 := by rw [← hh, Bd.state]; rfl
  have N0 := Fr.nil n0
  refine (show Go p e below (fun s₂ o => ∃ v L, o = .returned v ∧ Qq4 Z a1 k1 c0 c1 c2 c3 c4 c5 c6 c7 c8 c9 c10 c11 c12 c13 c14 c15 p3 h0 n0 v s₂.heap L ∧ FrameEnd s o s₂ L 0 0) (s₁.setTop (entryFrame m #[(.ref a1), (.int (4 : Int32)), (.int p3)] 3)) from ?_)
  rw [efq4]
  refine Go.st (U' := s₁.setTop (mkF m 7 #[.val (.ref a1), .val (.int (4 : Int32)), .val (.int p3)] [(.int (((p3.toUInt32 >>> ((24 : Int32) &&& 31).toUInt32).toInt32).toInt8.toInt32)), (.int (4 : Int32)), (.ref a1)])) (fun t k => ?_) ?_
  · refine XS.aloadN X0.here hx rfl (hb hby d17_0) rfl rfl ?_
    refine XS.iloadN X0.here hx rfl (hb hby d17_1) rfl ?_
    refine XS.iloadN X0.here hx rfl (hb hby d17_2) rfl ?_
    refine XS.bipush X0.here hx rfl (hb hby d17_3) ?_
    refine XS.iushr X0.here hx rfl (hb hby d17_5) rfl ?_
    refine XS.i2b X0.here hx rfl (hb hby d17_6) rfl ?_
    exact k
  obtain ⟨cl459, Ar459, q459, S459, N459, H459, G459⟩ := id VA
  obtain ⟨T458, h458, X458, e458, W458, st458⟩ := stB X0 hx hZ e0 Ar459 (j := (4 : Int32)) (inb_of (j := (4 : Int32)) S459 ⟨by decide, by decide⟩) (g := (mkF m 7 #[.val (.ref a1), .val (.int (4 : Int32)), .val (.int p3)] [(.int (((p3.toUInt32 >>> ((24 : Int32) &&& 31).toUInt32).toInt32).toInt8.toInt32)), (.int (4 : Int32)), (.ref a1)])) rfl rfl (hb hby d17_7)
  have VA_458 := Arv.set Ar459 q459 S459 N459 H459 G459 (fits_nar_byte _) W458 4 rfl (Nat.le_of_ble_eq_true rfl)
  have N458 := Fr.snoc X458 N0 gA
  have KK458 : Keep h0 h458 [a1] := (Keep.refl h0 [a1]).wr W458 (Or.inl (List.mem_of_getElem? (i := 0) rfl))
  have sz458 : n0 ≤ h458.size := Nat.le_trans Z0 (Nat.le_of_eq W458.size.symm)
  refine Go.st (U' := T458.setTop (mkF m 8 #[.val (.ref a1), .val (.int (4 : Int32)), .val (.int p3)] [])) (fun t k => st458 _ k) ?_
  refine Go.st (U' := T458.setTop (mkF m 17 #[.val (.ref a1), .val (.int (4 : Int32)), .val (.int p3)] [(.int (((p3.toUInt32 >>> ((16 : Int32) &&& 31).toUInt32).toInt32).toInt8.toInt32)), (.int (5 : Int32)), (.ref a1)])) (fun t k => ?_) ?_
  · refine XS.aloadN X458.here hx rfl (hb hby d17_8) rfl rfl ?_
    refine XS.iloadN X458.here hx rfl (hb hby d17_9) rfl ?_
    refine XS.iconst X458.here hx rfl (hb hby d17_10) ?_
    refine XS.iadd X458.here hx rfl (hb hby d17_11) rfl ?_
    refine XS.iloadN X458.here hx rfl (hb hby d17_12) rfl ?_
    refine XS.bipush X458.here hx rfl (hb hby d17_13) ?_
    refine XS.iushr X458.here hx rfl (hb hby d17_15) rfl ?_
    refine XS.i2b X458.here hx rfl (hb hby d17_16) rfl ?_
    exact k
  obtain ⟨cl461, Ar461, q461, S461, N461, H461, G461⟩ := id VA_458
  obtain ⟨T460, h460, X460, e460, W460, st460⟩ := stB X458 hx hZ e458 Ar461 (j := (5 : Int32)) (inb_of (j := (5 : Int32)) S461 ⟨by decide, by decide⟩) (g := (mkF m 17 #[.val (.ref a1), .val (.int (4 : Int32)), .val (.int p3)] [(.int (((p3.toUInt32 >>> ((16 : Int32) &&& 31).toUInt32).toInt32).toInt8.toInt32)), (.int (5 : Int32)), (.ref a1)])) rfl rfl (hb hby d17_17)
  have VA_460 := Arv.set Ar461 q461 S461 N461 H461 G461 (fits_nar_byte _) W460 5 rfl (Nat.le_of_ble_eq_true rfl)
  have N460 := Fr.snoc X460 N458 gA
  have KK460 : Keep h0 h460 [a1] := KK458.wr W460 (Or.inl (List.mem_of_getElem? (i := 0) rfl))
  have sz460 : n0 ≤ h460.size := Nat.le_trans sz458 (Nat.le_of_eq W460.size.symm)
  refine Go.st (U' := T460.setTop (mkF m 18 #[.val (.ref a1), .val (.int (4 : Int32)), .val (.int p3)] [])) (fun t k => st460 _ k) ?_
  refine Go.st (U' := T460.setTop (mkF m 27 #[.val (.ref a1), .val (.int (4 : Int32)), .val (.int p3)] [(.int (((p3.toUInt32 >>> ((8 : Int32) &&& 31).toUInt32).toInt32).toInt8.toInt32)), (.int (6 : Int32)), (.ref a1)])) (fun t k => ?_) ?_
  · refine XS.aloadN X460.here hx rfl (hb hby d17_18) rfl rfl ?_
    refine XS.iloadN X460.here hx rfl (hb hby d17_19) rfl ?_
    refine XS.iconst X460.here hx rfl (hb hby d17_20) ?_
    refine XS.iadd X460.here hx rfl (hb hby d17_21) rfl ?_
    refine XS.iloadN X460.here hx rfl (hb hby d17_22) rfl ?_
    refine XS.bipush X460.here hx rfl (hb hby d17_23) ?_
    refine XS.iushr X460.here hx rfl (hb hby d17_25) rfl ?_
    refine XS.i2b X460.here hx rfl (hb hby d17_26) rfl ?_
    exact k
  obtain ⟨cl463, Ar463, q463, S463, N463, H463, G463⟩ := id VA_460
  obtain ⟨T462, h462, X462, e462, W462, st462⟩ := stB X460 hx hZ e460 Ar463 (j := (6 : Int32)) (inb_of (j := (6 : Int32)) S463 ⟨by decide, by decide⟩) (g := (mkF m 27 #[.val (.ref a1), .val (.int (4 : Int32)), .val (.int p3)] [(.int (((p3.toUInt32 >>> ((8 : Int32) &&& 31).toUInt32).toInt32).toInt8.toInt32)), (.int (6 : Int32)), (.ref a1)])) rfl rfl (hb hby d17_27)
  have VA_462 := Arv.set Ar463 q463 S463 N463 H463 G463 (fits_nar_byte _) W462 6 rfl (Nat.le_of_ble_eq_true rfl)
  have N462 := Fr.snoc X462 N460 gA
  have KK462 : Keep h0 h462 [a1] := KK460.wr W462 (Or.inl (List.mem_of_getElem? (i := 0) rfl))
  have sz462 : n0 ≤ h462.size := Nat.le_trans sz460 (Nat.le_of_eq W462.size.symm)
  refine Go.st (U' := T462.setTop (mkF m 28 #[.val (.ref a1), .val (.int (4 : Int32)), .val (.int p3)] [])) (fun t k => st462 _ k) ?_
  refine Go.st (U' := T462.setTop (mkF m 34 #[.val (.ref a1), .val (.int (4 : Int32)), .val (.int p3)] [(.int (p3.toInt8.toInt32)), (.int (7 : Int32)), (.ref a1)])) (fun t k => ?_) ?_
  · refine XS.aloadN X462.here hx rfl (hb hby d17_28) rfl rfl ?_
    refine XS.iloadN X462.here hx rfl (hb hby d17_29) rfl ?_
    refine XS.iconst X462.here hx rfl (hb hby d17_30) ?_
    refine XS.iadd X462.here hx rfl (hb hby d17_31) rfl ?_
    refine XS.iloadN X462.here hx rfl (hb hby d17_32) rfl ?_
    refine XS.i2b X462.here hx rfl (hb hby d17_33) rfl ?_
    exact k
  obtain ⟨cl465, Ar465, q465, S465, N465, H465, G465⟩ := id VA_462
  obtain ⟨T464, h464, X464, e464, W464, st464⟩ := stB X462 hx hZ e462 Ar465 (j := (7 : Int32)) (inb_of (j := (7 : Int32)) S465 ⟨by decide, by decide⟩) (g := (mkF m 34 #[.val (.ref a1), .val (.int (4 : Int32)), .val (.int p3)] [(.int (p3.toInt8.toInt32)), (.int (7 : Int32)), (.ref a1)])) rfl rfl (hb hby d17_34)
  have VA_464 := Arv.set Ar465 q465 S465 N465 H465 G465 (fits_nar_byte _) W464 7 rfl (Nat.le_of_ble_eq_true rfl)
  have N464 := Fr.snoc X464 N462 gA
  have KK464 : Keep h0 h464 [a1] := KK462.wr W464 (Or.inl (List.mem_of_getElem? (i := 0) rfl))
  have sz464 : n0 ≤ h464.size := Nat.le_trans sz462 (Nat.le_of_eq W464.size.symm)
  refine Go.st (U' := T464.setTop (mkF m 35 #[.val (.ref a1), .val (.int (4 : Int32)), .val (.int p3)] [])) (fun t k => st464 _ k) ?_
  refine own_ret (Q := Qq4 Z a1 k1 c0 c1 c2 c3 c4 c5 c6 c7 c8 c9 c10 c11 c12 c13 c14 c15 p3 h0 n0) (v := none) X464 hlk (fun _ => rfl) (by decide) (by decide) ?_ (fun fs hr => X464.returnOut hx hrt (hb hby d17_35) hr)
  rw [e464]
  exact ⟨rfl, N464, KK464, VA_464⟩
theorem efq8 (m : MethodId) (a1 : Addr) (p3 : Int32) : entryFrame m #[(.ref a1), (.int (8 : Int32)), (.int p3)] 3 = mkF m 0 #[.val (.ref a1), .val (.int (8 : Int32)), .val (.int p3)] [] := by first | (simp [entryFrame, mkF, argsToLocals, Value.category]; done) | rfl
def Qq8 (Z : State) (a1 : Addr) (k1 : ClassId) (c0 : Int32) (c1 : Int32) (c2 : Int32) (c3 : Int32) (c4 : Int32) (c5 : Int32) (c6 : Int32) (c7 : Int32) (c8 : Int32) (c9 : Int32) (c10 : Int32) (c11 : Int32) (c12 : Int32) (c13 : Int32) (c14 : Int32) (c15 : Int32) (p3 : Int32) (h0 : Heap) (n0 : Nat) (v : Option Value) (h : Heap) (L : List Loc) : Prop := v = none ∧ Fr n0 L ∧ Keep h0 h [a1] ∧ Arv Z h a1 k1 .byte (16 : Int32) [(.int c0), (.int c1), (.int c2), (.int c3), (.int c4), (.int c5), (.int c6), (.int c7), (.int (own_b3 p3)), (.int (own_b2 p3)), (.int (own_b1 p3)), (.int (own_b0 p3)), (.int c12), (.int c13), (.int c14), (.int c15)] (.int (0 : Int32))
set_option maxRecDepth 65536 in
set_option maxHeartbeats 40000000 in
theorem rmq8 (l : Launch) (Z : State) (a0 : Array Value) (hw : ∀ d ∈ tables_1, d.before a0 Z = true) (ws : List Jvm.Cond) (a1 : Addr) (k1 : ClassId) (c0 : Int32) (c1 : Int32) (c2 : Int32) (c3 : Int32) (c4 : Int32) (c5 : Int32) (c6 : Int32) (c7 : Int32) (c8 : Int32) (c9 : Int32) (c10 : Int32) (c11 : Int32) (c12 : Int32) (c13 : Int32) (c14 : Int32) (c15 : Int32) (p3 : Int32) (h0 : Heap) (n0 : Nat) (Z0 : n0 ≤ h0.size) (VA : Arv Z h0 a1 k1 .byte (16 : Int32) [(.int c0), (.int c1), (.int c2), (.int c3), (.int c4), (.int c5), (.int c6), (.int c7), (.int c8), (.int c9), (.int c10), (.int c11), (.int c12), (.int c13), (.int c14), (.int c15)] (.int (0 : Int32))) (gA : n0 ≤ a1) :
    MetFree l own_y16 (head1 (Jvm.Cond.code own_y16 method_3_code 3 none :: ws) own_R0_0_0_0) (fun a U => a = #[(.ref a1), (.int (8 : Int32)), (.int p3)] ∧ Z.Warmed39 U.vm ∧ U.heap = h0) (fun _ _ _ _ _ => True) (fun _ U o U' => ∃ v L, o = .returned v ∧ Qq8 Z a1 k1 c0 c1 c2 c3 c4 c5 c6 c7 c8 c9 c10 c11 c12 c13 c14 c15 p3 h0 n0 v U'.heap L ∧ FrameEnd U o U' L (own_R0_0_0_0).cells (own_R0_0_0_0).slots) := by
  refine MetFree.of_bodySF (plainFor_of_name pn_1) hisR ?_
  intro p e s m args below meth c s₁ Bd hml0 hP hK
  obtain ⟨rfl, hZ, hh⟩ := hP
  have hx := Bd.exec
  have hby := Bd.bytes
  have hml : c.maxLocals = 3 := hml0
  have hown : s.vm.findClass "com/example/portcullis/portcullis/io/CdrOutputToByteArrayPinLaw" = some m.cls := findClass_of_methodNamed Bd.named
  have hnm := (name_of_methodNamed Bd.named Bd.method).1
  have hlk : meth.locks = false := BodyLoose.notSynchronized Bd
  have hrt := Bd.returns
  have X0 : Stand p l e own_R0_0_0_0 s m #[(.ref a1), (.int (8 : Int32)), (.int p3)] below meth c s₁ [] 0 0 := Stand.of_body Bd
  have e0 : s₁.heap = h0 := by rw [← hh, Bd.state]; rfl
  have N0 := Fr.nil n0
  refine (show Go p e below (fun s₂ o => ∃ v L, o = .returned v ∧ Qq8 Z a1 k1 c0 c1 c2 c3 c4 c5 c6 c7 c8 c9 c10 c11 c12 c13 c14 c15 p3 h0 n0 v s₂.heap L ∧ FrameEnd s o s₂ L 0 0) (s₁.setTop (entryFrame m #[(.ref a1), (.int (8 : Int32)), (.int p3)] 3)) from ?_)
  rw [efq8]
  refine Go.st (U' := s₁.setTop (mkF m 7 #[.val (.ref a1), .val (.int (8 : Int32)), .val (.int p3)] [(.int (((p3.toUInt32 >>> ((24 : Int32) &&& 31).toUInt32).toInt32).toInt8.toInt32)), (.int (8 : Int32)), (.ref a1)])) (fun t k => ?_) ?_
  · refine XS.aloadN X0.here hx rfl (hb hby d17_0) rfl rfl ?_
    refine XS.iloadN X0.here hx rfl (hb hby d17_1) rfl ?_
    refine XS.iloadN X0.here hx rfl (hb hby d17_2) rfl ?_
    refine XS.bipush X0.here hx rfl (hb hby d17_3) ?_
    refine XS.iushr X0.here hx rfl (hb hby d17_5) rfl ?_
    refine XS.i2b X0.here hx rfl (hb hby d17_6) rfl ?_
    exact k
  obtain ⟨cl467, Ar467, q467, S467, N467, H467, G467⟩ := id VA
  obtain ⟨T466, h466, X466, e466, W466, st466⟩ := stB X0 hx hZ e0 Ar467 (j := (8 : Int32)) (inb_of (j := (8 : Int32)) S467 ⟨by decide, by decide⟩) (g := (mkF m 7 #[.val (.ref a1), .val (.int (8 : Int32)), .val (.int p3)] [(.int (((p3.toUInt32 >>> ((24 : Int32) &&& 31).toUInt32).toInt32).toInt8.toInt32)), (.int (8 : Int32)), (.ref a1)])) rfl rfl (hb hby d17_7)
  have VA_466 := Arv.set Ar467 q467 S467 N467 H467 G467 (fits_nar_byte _) W466 8 rfl (Nat.le_of_ble_eq_true rfl)
  have N466 := Fr.snoc X466 N0 gA
  have KK466 : Keep h0 h466 [a1] := (Keep.refl h0 [a1]).wr W466 (Or.inl (List.mem_of_getElem? (i := 0) rfl))
  have sz466 : n0 ≤ h466.size := Nat.le_trans Z0 (Nat.le_of_eq W466.size.symm)
  refine Go.st (U' := T466.setTop (mkF m 8 #[.val (.ref a1), .val (.int (8 : Int32)), .val (.int p3)] [])) (fun t k => st466 _ k) ?_
  refine Go.st (U' := T466.setTop (mkF m 17 #[.val (.ref a1), .val (.int (8 : Int32)), .val (.int p3)] [(.int (((p3.toUInt32 >>> ((16 : Int32) &&& 31).toUInt32).toInt32).toInt8.toInt32)), (.int (9 : Int32)), (.ref a1)])) (fun t k => ?_) ?_
  · refine XS.aloadN X466.here hx rfl (hb hby d17_8) rfl rfl ?_
    refine XS.iloadN X466.here hx rfl (hb hby d17_9) rfl ?_
    refine XS.iconst X466.here hx rfl (hb hby d17_10) ?_
    refine XS.iadd X466.here hx rfl (hb hby d17_11) rfl ?_
    refine XS.iloadN X466.here hx rfl (hb hby d17_12) rfl ?_
    refine XS.bipush X466.here hx rfl (hb hby d17_13) ?_
    refine XS.iushr X466.here hx rfl (hb hby d17_15) rfl ?_
    refine XS.i2b X466.here hx rfl (hb hby d17_16) rfl ?_
    exact k
  obtain ⟨cl469, Ar469, q469, S469, N469, H469, G469⟩ := id VA_466
  obtain ⟨T468, h468, X468, e468, W468, st468⟩ := stB X466 hx hZ e466 Ar469 (j := (9 : Int32)) (inb_of (j := (9 : Int32)) S469 ⟨by decide, by decide⟩) (g := (mkF m 17 #[.val (.ref a1), .val (.int (8 : Int32)), .val (.int p3)] [(.int (((p3.toUInt32 >>> ((16 : Int32) &&& 31).toUInt32).toInt32).toInt8.toInt32)), (.int (9 : Int32)), (.ref a1)])) rfl rfl (hb hby d17_17)
  have VA_468 := Arv.set Ar469 q469 S469 N469 H469 G469 (fits_nar_byte _) W468 9 rfl (Nat.le_of_ble_eq_true rfl)
  have N468 := Fr.snoc X468 N466 gA
  have KK468 : Keep h0 h468 [a1] := KK466.wr W468 (Or.inl (List.mem_of_getElem? (i := 0) rfl))
  have sz468 : n0 ≤ h468.size := Nat.le_trans sz466 (Nat.le_of_eq W468.size.symm)
  refine Go.st (U' := T468.setTop (mkF m 18 #[.val (.ref a1), .val (.int (8 : Int32)), .val (.int p3)] [])) (fun t k => st468 _ k) ?_
  refine Go.st (U' := T468.setTop (mkF m 27 #[.val (.ref a1), .val (.int (8 : Int32)), .val (.int p3)] [(.int (((p3.toUInt32 >>> ((8 : Int32) &&& 31).toUInt32).toInt32).toInt8.toInt32)), (.int (10 : Int32)), (.ref a1)])) (fun t k => ?_) ?_
  · refine XS.aloadN X468.here hx rfl (hb hby d17_18) rfl rfl ?_
    refine XS.iloadN X468.here hx rfl (hb hby d17_19) rfl ?_
    refine XS.iconst X468.here hx rfl (hb hby d17_20) ?_
    refine XS.iadd X468.here hx rfl (hb hby d17_21) rfl ?_
    refine XS.iloadN X468.here hx rfl (hb hby d17_22) rfl ?_
    refine XS.bipush X468.here hx rfl (hb hby d17_23) ?_
    refine XS.iushr X468.here hx rfl (hb hby d17_25) rfl ?_
    refine XS.i2b X468.here hx rfl (hb hby d17_26) rfl ?_
    exact k
  obtain ⟨cl471, Ar471, q471, S471, N471, H471, G471⟩ := id VA_468
  obtain ⟨T470, h470, X470, e470, W470, st470⟩ := stB X468 hx hZ e468 Ar471 (j := (10 : Int32)) (inb_of (j := (10 : Int32)) S471 ⟨by decide, by decide⟩) (g := (mkF m 27 #[.val (.ref a1), .val (.int (8 : Int32)), .val (.int p3)] [(.int (((p3.toUInt32 >>> ((8 : Int32) &&& 31).toUInt32).toInt32).toInt8.toInt32)), (.int (10 : Int32)), (.ref a1)])) rfl rfl (hb hby d17_27)
  have VA_470 := Arv.set Ar471 q471 S471 N471 H471 G471 (fits_nar_byte _) W470 10 rfl (Nat.le_of_ble_eq_true rfl)
  have N470 := Fr.snoc X470 N468 gA
  have KK470 : Keep h0 h470 [a1] := KK468.wr W470 (Or.inl (List.mem_of_getElem? (i := 0) rfl))
  have sz470 : n0 ≤ h470.size := Nat.le_trans sz468 (Nat.le_of_eq W470.size.symm)
  refine Go.st (U' := T470.setTop (mkF m 28 #[.val (.ref a1), .val (.int (8 : Int32)), .val (.int p3)] [])) (fun t k => st470 _ k) ?_
  refine Go.st (U' := T470.setTop (mkF m 34 #[.val (.ref a1), .val (.int (8 : Int32)), .val (.int p3)] [(.int (p3.toInt8.toInt32)), (.int (11 : Int32)), (.ref a1)])) (fun t k => ?_) ?_
  · refine XS.aloadN X470.here hx rfl (hb hby d17_28) rfl rfl ?_
    refine XS.iloadN X470.here hx rfl (hb hby d17_29) rfl ?_
    refine XS.iconst X470.here hx rfl (hb hby d17_30) ?_
    refine XS.iadd X470.here hx rfl (hb hby d17_31) rfl ?_
    refine XS.iloadN X470.here hx rfl (hb hby d17_32) rfl ?_
    refine XS.i2b X470.here hx rfl (hb hby d17_33) rfl ?_
    exact k
  obtain ⟨cl473, Ar473, q473, S473, N473, H473, G473⟩ := id VA_470
  obtain ⟨T472, h472, X472, e472, W472, st472⟩ := stB X470 hx hZ e470 Ar473 (j := (11 : Int32)) (inb_of (j := (11 : Int32)) S473 ⟨by decide, by decide⟩) (g := (mkF m 34 #[.val (.ref a1), .val (.int (8 : Int32)), .val (.int p3)] [(.int (p3.toInt8.toInt32)), (.int (11 : Int32)), (.ref a1)])) rfl rfl (hb hby d17_34)
  have VA_472 := Arv.set Ar473 q473 S473 N473 H473 G473 (fits_nar_byte _) W472 11 rfl (Nat.le_of_ble_eq_true rfl)
  have N472 := Fr.snoc X472 N470 gA
  have KK472 : Keep h0 h472 [a1] := KK470.wr W472 (Or.inl (List.mem_of_getElem? (i := 0) rfl))
  have sz472 : n0 ≤ h472.size := Nat.le_trans sz470 (Nat.le_of_eq W472.size.symm)
  refine Go.st (U' := T472.setTop (mkF m 35 #[.val (.ref a1), .val (.int (8 : Int32)), .val (.int p3)] [])) (fun t k => st472 _ k) ?_
  refine own_ret (Q := Qq8 Z a1 k1 c0 c1 c2 c3 c4 c5 c6 c7 c8 c9 c10 c11 c12 c13 c14 c15 p3 h0 n0) (v := none) X472 hlk (fun _ => rfl) (by decide) (by decide) ?_ (fun fs hr => X472.returnOut hx hrt (hb hby d17_35) hr)
  rw [e472]
  exact ⟨rfl, N472, KK472, VA_472⟩
theorem efq12 (m : MethodId) (a1 : Addr) (p3 : Int32) : entryFrame m #[(.ref a1), (.int (12 : Int32)), (.int p3)] 3 = mkF m 0 #[.val (.ref a1), .val (.int (12 : Int32)), .val (.int p3)] [] := by first | (simp [entryFrame, mkF, argsToLocals, Value.category]; done) | rfl
def Qq12 (Z : State) (a1 : Addr) (k1 : ClassId) (c0 : Int32) (c1 : Int32) (c2 : Int32) (c3 : Int32) (c4 : Int32) (c5 : Int32) (c6 : Int32) (c7 : Int32) (c8 : Int32) (c9 : Int32) (c10 : Int32) (c11 : Int32) (c12 : Int32) (c13 : Int32) (c14 : Int32) (c15 : Int32) (p3 : Int32) (h0 : Heap) (n0 : Nat) (v : Option Value) (h : Heap) (L : List Loc) : Prop := v = none ∧ Fr n0 L ∧ Keep h0 h [a1] ∧ Arv Z h a1 k1 .byte (16 : Int32) [(.int c0), (.int c1), (.int c2), (.int c3), (.int c4), (.int c5), (.int c6), (.int c7), (.int c8), (.int c9), (.int c10), (.int c11), (.int (own_b3 p3)), (.int (own_b2 p3)), (.int (own_b1 p3)), (.int (own_b0 p3))] (.int (0 : Int32))
set_option maxRecDepth 65536 in
set_option maxHeartbeats 40000000 in
theorem rmq12 (l : Launch) (Z : State) (a0 : Array Value) (hw : ∀ d ∈ tables_1, d.before a0 Z = true) (ws : List Jvm.Cond) (a1 : Addr) (k1 : ClassId) (c0 : Int32) (c1 : Int32) (c2 : Int32) (c3 : Int32) (c4 : Int32) (c5 : Int32) (c6 : Int32) (c7 : Int32) (c8 : Int32) (c9 : Int32) (c10 : Int32) (c11 : Int32) (c12 : Int32) (c13 : Int32) (c14 : Int32) (c15 : Int32) (p3 : Int32) (h0 : Heap) (n0 : Nat) (Z0 : n0 ≤ h0.size) (VA : Arv Z h0 a1 k1 .byte (16 : Int32) [(.int c0), (.int c1), (.int c2), (.int c3), (.int c4), (.int c5), (.int c6), (.int c7), (.int c8), (.int c9), (.int c10), (.int c11), (.int c12), (.int c13), (.int c14), (.int c15)] (.int (0 : Int32))) (gA : n0 ≤ a1) :
    MetFree l own_y16 (head1 (Jvm.Cond.code own_y16 method_3_code 3 none :: ws) own_R0_0_0_0) (fun a U => a = #[(.ref a1), (.int (12 : Int32)), (.int p3)] ∧ Z.Warmed39 U.vm ∧ U.heap = h0) (fun _ _ _ _ _ => True) (fun _ U o U' => ∃ v L, o = .returned v ∧ Qq12 Z a1 k1 c0 c1 c2 c3 c4 c5 c6 c7 c8 c9 c10 c11 c12 c13 c14 c15 p3 h0 n0 v U'.heap L ∧ FrameEnd U o U' L (own_R0_0_0_0).cells (own_R0_0_0_0).slots) := by
  refine MetFree.of_bodySF (plainFor_of_name pn_1) hisR ?_
  intro p e s m args below meth c s₁ Bd hml0 hP hK
  obtain ⟨rfl, hZ, hh⟩ := hP
  have hx := Bd.exec
  have hby := Bd.bytes
  have hml : c.maxLocals = 3 := hml0
  have hown : s.vm.findClass "com/example/portcullis/portcullis/io/CdrOutputToByteArrayPinLaw" = some m.cls := findClass_of_methodNamed Bd.named
  have hnm := (name_of_methodNamed Bd.named Bd.method).1
  have hlk : meth.locks = false := BodyLoose.notSynchronized Bd
  have hrt := Bd.returns
  have X0 : Stand p l e own_R0_0_0_0 s m #[(.ref a1), (.int (12 : Int32)), (.int p3)] below meth c s₁ [] 0 0 := Stand.of_body Bd
  have e0 : s₁.heap = h0 := by rw [← hh, Bd.state]; rfl
  have N0 := Fr.nil n0
  refine (show Go p e below (fun s₂ o => ∃ v L, o = .returned v ∧ Qq12 Z a1 k1 c0 c1 c2 c3 c4 c5 c6 c7 c8 c9 c10 c11 c12 c13 c14 c15 p3 h0 n0 v s₂.heap L ∧ FrameEnd s o s₂ L 0 0) (s₁.setTop (entryFrame m #[(.ref a1), (.int (12 : Int32)), (.int p3)] 3)) from ?_)
  rw [efq12]
  refine Go.st (U' := s₁.setTop (mkF m 7 #[.val (.ref a1), .val (.int (12 : Int32)), .val (.int p3)] [(.int (((p3.toUInt32 >>> ((24 : Int32) &&& 31).toUInt32).toInt32).toInt8.toInt32)), (.int (12 : Int32)), (.ref a1)])) (fun t k => ?_) ?_
  · refine XS.aloadN X0.here hx rfl (hb hby d17_0) rfl rfl ?_
    refine XS.iloadN X0.here hx rfl (hb hby d17_1) rfl ?_
    refine XS.iloadN X0.here hx rfl (hb hby d17_2) rfl ?_
    refine XS.bipush X0.here hx rfl (hb hby d17_3) ?_
    refine XS.iushr X0.here hx rfl (hb hby d17_5) rfl ?_
    refine XS.i2b X0.here hx rfl (hb hby d17_6) rfl ?_
    exact k
  obtain ⟨cl475, Ar475, q475, S475, N475, H475, G475⟩ := id VA
  obtain ⟨T474, h474, X474, e474, W474, st474⟩ := stB X0 hx hZ e0 Ar475 (j := (12 : Int32)) (inb_of (j := (12 : Int32)) S475 ⟨by decide, by decide⟩) (g := (mkF m 7 #[.val (.ref a1), .val (.int (12 : Int32)), .val (.int p3)] [(.int (((p3.toUInt32 >>> ((24 : Int32) &&& 31).toUInt32).toInt32).toInt8.toInt32)), (.int (12 : Int32)), (.ref a1)])) rfl rfl (hb hby d17_7)
  have VA_474 := Arv.set Ar475 q475 S475 N475 H475 G475 (fits_nar_byte _) W474 12 rfl (Nat.le_of_ble_eq_true rfl)
  have N474 := Fr.snoc X474 N0 gA
  have KK474 : Keep h0 h474 [a1] := (Keep.refl h0 [a1]).wr W474 (Or.inl (List.mem_of_getElem? (i := 0) rfl))
  have sz474 : n0 ≤ h474.size := Nat.le_trans Z0 (Nat.le_of_eq W474.size.symm)
  refine Go.st (U' := T474.setTop (mkF m 8 #[.val (.ref a1), .val (.int (12 : Int32)), .val (.int p3)] [])) (fun t k => st474 _ k) ?_
  refine Go.st (U' := T474.setTop (mkF m 17 #[.val (.ref a1), .val (.int (12 : Int32)), .val (.int p3)] [(.int (((p3.toUInt32 >>> ((16 : Int32) &&& 31).toUInt32).toInt32).toInt8.toInt32)), (.int (13 : Int32)), (.ref a1)])) (fun t k => ?_) ?_
  · refine XS.aloadN X474.here hx rfl (hb hby d17_8) rfl rfl ?_
    refine XS.iloadN X474.here hx rfl (hb hby d17_9) rfl ?_
    refine XS.iconst X474.here hx rfl (hb hby d17_10) ?_
    refine XS.iadd X474.here hx rfl (hb hby d17_11) rfl ?_
    refine XS.iloadN X474.here hx rfl (hb hby d17_12) rfl ?_
    refine XS.bipush X474.here hx rfl (hb hby d17_13) ?_
    refine XS.iushr X474.here hx rfl (hb hby d17_15) rfl ?_
    refine XS.i2b X474.here hx rfl (hb hby d17_16) rfl ?_
    exact k
  obtain ⟨cl477, Ar477, q477, S477, N477, H477, G477⟩ := id VA_474
  obtain ⟨T476, h476, X476, e476, W476, st476⟩ := stB X474 hx hZ e474 Ar477 (j := (13 : Int32)) (inb_of (j := (13 : Int32)) S477 ⟨by decide, by decide⟩) (g := (mkF m 17 #[.val (.ref a1), .val (.int (12 : Int32)), .val (.int p3)] [(.int (((p3.toUInt32 >>> ((16 : Int32) &&& 31).toUInt32).toInt32).toInt8.toInt32)), (.int (13 : Int32)), (.ref a1)])) rfl rfl (hb hby d17_17)
  have VA_476 := Arv.set Ar477 q477 S477 N477 H477 G477 (fits_nar_byte _) W476 13 rfl (Nat.le_of_ble_eq_true rfl)
  have N476 := Fr.snoc X476 N474 gA
  have KK476 : Keep h0 h476 [a1] := KK474.wr W476 (Or.inl (List.mem_of_getElem? (i := 0) rfl))
  have sz476 : n0 ≤ h476.size := Nat.le_trans sz474 (Nat.le_of_eq W476.size.symm)
  refine Go.st (U' := T476.setTop (mkF m 18 #[.val (.ref a1), .val (.int (12 : Int32)), .val (.int p3)] [])) (fun t k => st476 _ k) ?_
  refine Go.st (U' := T476.setTop (mkF m 27 #[.val (.ref a1), .val (.int (12 : Int32)), .val (.int p3)] [(.int (((p3.toUInt32 >>> ((8 : Int32) &&& 31).toUInt32).toInt32).toInt8.toInt32)), (.int (14 : Int32)), (.ref a1)])) (fun t k => ?_) ?_
  · refine XS.aloadN X476.here hx rfl (hb hby d17_18) rfl rfl ?_
    refine XS.iloadN X476.here hx rfl (hb hby d17_19) rfl ?_
    refine XS.iconst X476.here hx rfl (hb hby d17_20) ?_
    refine XS.iadd X476.here hx rfl (hb hby d17_21) rfl ?_
    refine XS.iloadN X476.here hx rfl (hb hby d17_22) rfl ?_
    refine XS.bipush X476.here hx rfl (hb hby d17_23) ?_
    refine XS.iushr X476.here hx rfl (hb hby d17_25) rfl ?_
    refine XS.i2b X476.here hx rfl (hb hby d17_26) rfl ?_
    exact k
  obtain ⟨cl479, Ar479, q479, S479, N479, H479, G479⟩ := id VA_476
  obtain ⟨T478, h478, X478, e478, W478, st478⟩ := stB X476 hx hZ e476 Ar479 (j := (14 : Int32)) (inb_of (j := (14 : Int32)) S479 ⟨by decide, by decide⟩) (g := (mkF m 27 #[.val (.ref a1), .val (.int (12 : Int32)), .val (.int p3)] [(.int (((p3.toUInt32 >>> ((8 : Int32) &&& 31).toUInt32).toInt32).toInt8.toInt32)), (.int (14 : Int32)), (.ref a1)])) rfl rfl (hb hby d17_27)
  have VA_478 := Arv.set Ar479 q479 S479 N479 H479 G479 (fits_nar_byte _) W478 14 rfl (Nat.le_of_ble_eq_true rfl)
  have N478 := Fr.snoc X478 N476 gA
  have KK478 : Keep h0 h478 [a1] := KK476.wr W478 (Or.inl (List.mem_of_getElem? (i := 0) rfl))
  have sz478 : n0 ≤ h478.size := Nat.le_trans sz476 (Nat.le_of_eq W478.size.symm)
  refine Go.st (U' := T478.setTop (mkF m 28 #[.val (.ref a1), .val (.int (12 : Int32)), .val (.int p3)] [])) (fun t k => st478 _ k) ?_
  refine Go.st (U' := T478.setTop (mkF m 34 #[.val (.ref a1), .val (.int (12 : Int32)), .val (.int p3)] [(.int (p3.toInt8.toInt32)), (.int (15 : Int32)), (.ref a1)])) (fun t k => ?_) ?_
  · refine XS.aloadN X478.here hx rfl (hb hby d17_28) rfl rfl ?_
    refine XS.iloadN X478.here hx rfl (hb hby d17_29) rfl ?_
    refine XS.iconst X478.here hx rfl (hb hby d17_30) ?_
    refine XS.iadd X478.here hx rfl (hb hby d17_31) rfl ?_
    refine XS.iloadN X478.here hx rfl (hb hby d17_32) rfl ?_
    refine XS.i2b X478.here hx rfl (hb hby d17_33) rfl ?_
    exact k
  obtain ⟨cl481, Ar481, q481, S481, N481, H481, G481⟩ := id VA_478
  obtain ⟨T480, h480, X480, e480, W480, st480⟩ := stB X478 hx hZ e478 Ar481 (j := (15 : Int32)) (inb_of (j := (15 : Int32)) S481 ⟨by decide, by decide⟩) (g := (mkF m 34 #[.val (.ref a1), .val (.int (12 : Int32)), .val (.int p3)] [(.int (p3.toInt8.toInt32)), (.int (15 : Int32)), (.ref a1)])) rfl rfl (hb hby d17_34)
  have VA_480 := Arv.set Ar481 q481 S481 N481 H481 G481 (fits_nar_byte _) W480 15 rfl (Nat.le_of_ble_eq_true rfl)
  have N480 := Fr.snoc X480 N478 gA
  have KK480 : Keep h0 h480 [a1] := KK478.wr W480 (Or.inl (List.mem_of_getElem? (i := 0) rfl))
  have sz480 : n0 ≤ h480.size := Nat.le_trans sz478 (Nat.le_of_eq W480.size.symm)
  refine Go.st (U' := T480.setTop (mkF m 35 #[.val (.ref a1), .val (.int (12 : Int32)), .val (.int p3)] [])) (fun t k => st480 _ k) ?_
  refine own_ret (Q := Qq12 Z a1 k1 c0 c1 c2 c3 c4 c5 c6 c7 c8 c9 c10 c11 c12 c13 c14 c15 p3 h0 n0) (v := none) X480 hlk (fun _ => rfl) (by decide) (by decide) ?_ (fun fs hr => X480.returnOut hx hrt (hb hby d17_35) hr)
  rw [e480]
  exact ⟨rfl, N480, KK480, VA_480⟩
def Qx (n0 : Nat) (v : Option Value) (h : Heap) (L : List Loc) : Prop := v = some (.int 1) ∧ Fr n0 L
theorem own_s2 (b : Int32) : own_b0 (b.toInt16.toInt32) = own_b0 b := by
  unfold own_b0
  have h : (b.toInt16.toInt32).toInt8 = b.toInt8 := by
    apply Int8.toBitVec_inj.mp
    show (b.toBitVec.signExtend 16 |>.signExtend 32 |>.signExtend 8) = b.toBitVec.signExtend 8
    apply BitVec.eq_of_getLsbD_eq
    intro i hi
    simp only [BitVec.getLsbD_signExtend]
    have : i < 16 := by omega
    have : i < 32 := by omega
    simp [*]
  rw [h]
theorem own_s1 (b : Int32) : own_b1 (b.toInt16.toInt32) = own_b1 b := by
  unfold own_b1
  have h : (((b.toInt16.toInt32).toUInt32 >>> ((8 : Int32) &&& 31).toUInt32).toInt32).toInt8 = ((b.toUInt32 >>> ((8 : Int32) &&& 31).toUInt32).toInt32).toInt8 := by
    apply Int8.toBitVec_inj.mp
    show (((b.toBitVec.signExtend 16 |>.signExtend 32) >>> (8 : Nat)).signExtend 8) = ((b.toBitVec >>> (8 : Nat)).signExtend 8)
    apply BitVec.eq_of_getLsbD_eq
    intro i hi
    simp only [BitVec.getLsbD_signExtend, BitVec.getLsbD_ushiftRight]
    have h1 : i < 32 := by omega
    have h2 : 8 + i < 32 := by omega
    have h3 : 8 + i < 16 := by omega
    simp [h1, h2, h3]
  rw [h]
theorem own_atp {p : Int32} {L L' : List Int32} {i : Int32} (h : (i < p ∧ L.getD i.toNatClampNeg 0 = L'.getD i.toNatClampNeg 0) ∨ (¬ i < p ∧ L'.getD i.toNatClampNeg 0 = 0)) (h16 : i < (16 : Int32)) : fAt p L i = fAt (16 : Int32) L' i := by
  unfold fAt
  rw [if_pos h16]
  rcases h with ⟨h1, h2⟩ | ⟨h1, h2⟩
  · rw [if_pos h1, h2]
  · rw [if_neg h1, h2]; rfl
theorem own_pk0_0  : (fPk0 (0 : Int32) (own_pre [(0 : Int32), (0 : Int32), (0 : Int32), (0 : Int32), (0 : Int32), (0 : Int32), (0 : Int32), (0 : Int32), (0 : Int32), (0 : Int32), (0 : Int32), (0 : Int32), (0 : Int32), (0 : Int32), (0 : Int32), (0 : Int32)] (0 : Int32))) = (fPk0 (16 : Int32) [(0 : Int32), (0 : Int32), (0 : Int32), (0 : Int32), (0 : Int32), (0 : Int32), (0 : Int32), (0 : Int32), (0 : Int32), (0 : Int32), (0 : Int32), (0 : Int32), (0 : Int32), (0 : Int32), (0 : Int32), (0 : Int32)]) := by
  unfold fPk0; rw [own_atp (p := (0 : Int32)) (L := own_pre [(0 : Int32), (0 : Int32), (0 : Int32), (0 : Int32), (0 : Int32), (0 : Int32), (0 : Int32), (0 : Int32), (0 : Int32), (0 : Int32), (0 : Int32), (0 : Int32), (0 : Int32), (0 : Int32), (0 : Int32), (0 : Int32)] (0 : Int32)) (L' := [(0 : Int32), (0 : Int32), (0 : Int32), (0 : Int32), (0 : Int32), (0 : Int32), (0 : Int32), (0 : Int32), (0 : Int32), (0 : Int32), (0 : Int32), (0 : Int32), (0 : Int32), (0 : Int32), (0 : Int32), (0 : Int32)]) (i := (0 : Int32)) (Or.inr ⟨by decide, rfl⟩) (by decide), own_atp (p := (0 : Int32)) (L := own_pre [(0 : Int32), (0 : Int32), (0 : Int32), (0 : Int32), (0 : Int32), (0 : Int32), (0 : Int32), (0 : Int32), (0 : Int32), (0 : Int32), (0 : Int32), (0 : Int32), (0 : Int32), (0 : Int32), (0 : Int32), (0 : Int32)] (0 : Int32)) (L' := [(0 : Int32), (0 : Int32), (0 : Int32), (0 : Int32), (0 : Int32), (0 : Int32), (0 : Int32), (0 : Int32), (0 : Int32), (0 : Int32), (0 : Int32), (0 : Int32), (0 : Int32), (0 : Int32), (0 : Int32), (0 : Int32)]) (i := (1 : Int32)) (Or.inr ⟨by decide, rfl⟩) (by decide), own_atp (p := (0 : Int32)) (L := own_pre [(0 : Int32), (0 : Int32), (0 : Int32), (0 : Int32), (0 : Int32), (0 : Int32), (0 : Int32), (0 : Int32), (0 : Int32), (0 : Int32), (0 : Int32), (0 : Int32), (0 : Int32), (0 : Int32), (0 : Int32), (0 : Int32)] (0 : Int32)) (L' := [(0 : Int32), (0 : Int32), (0 : Int32), (0 : Int32), (0 : Int32), (0 : Int32), (0 : Int32), (0 : Int32), (0 : Int32), (0 : Int32), (0 : Int32), (0 : Int32), (0 : Int32), (0 : Int32), (0 : Int32), (0 : Int32)]) (i := (2 : Int32)) (Or.inr ⟨by decide, rfl⟩) (by decide), own_atp (p := (0 : Int32)) (L := own_pre [(0 : Int32), (0 : Int32), (0 : Int32), (0 : Int32), (0 : Int32), (0 : Int32), (0 : Int32), (0 : Int32), (0 : Int32), (0 : Int32), (0 : Int32), (0 : Int32), (0 : Int32), (0 : Int32), (0 : Int32), (0 : Int32)] (0 : Int32)) (L' := [(0 : Int32), (0 : Int32), (0 : Int32), (0 : Int32), (0 : Int32), (0 : Int32), (0 : Int32), (0 : Int32), (0 : Int32), (0 : Int32), (0 : Int32), (0 : Int32), (0 : Int32), (0 : Int32), (0 : Int32), (0 : Int32)]) (i := (3 : Int32)) (Or.inr ⟨by decide, rfl⟩) (by decide), own_atp (p := (0 : Int32)) (L := own_pre [(0 : Int32), (0 : Int32), (0 : Int32), (0 : Int32), (0 : Int32), (0 : Int32), (0 : Int32), (0 : Int32), (0 : Int32), (0 : Int32), (0 : Int32), (0 : Int32), (0 : Int32), (0 : Int32), (0 : Int32), (0 : Int32)] (0 : Int32)) (L' := [(0 : Int32), (0 : Int32), (0 : Int32), (0 : Int32), (0 : Int32), (0 : Int32), (0 : Int32), (0 : Int32), (0 : Int32), (0 : Int32), (0 : Int32), (0 : Int32), (0 : Int32), (0 : Int32), (0 : Int32), (0 : Int32)]) (i := (4 : Int32)) (Or.inr ⟨by decide, rfl⟩) (by decide), own_atp (p := (0 : Int32)) (L := own_pre [(0 : Int32), (0 : Int32), (0 : Int32), (0 : Int32), (0 : Int32), (0 : Int32), (0 : Int32), (0 : Int32), (0 : Int32), (0 : Int32), (0 : Int32), (0 : Int32), (0 : Int32), (0 : Int32), (0 : Int32), (0 : Int32)] (0 : Int32)) (L' := [(0 : Int32), (0 : Int32), (0 : Int32), (0 : Int32), (0 : Int32), (0 : Int32), (0 : Int32), (0 : Int32), (0 : Int32), (0 : Int32), (0 : Int32), (0 : Int32), (0 : Int32), (0 : Int32), (0 : Int32), (0 : Int32)]) (i := (5 : Int32)) (Or.inr ⟨by decide, rfl⟩) (by decide), own_atp (p := (0 : Int32)) (L := own_pre [(0 : Int32), (0 : Int32), (0 : Int32), (0 : Int32), (0 : Int32), (0 : Int32), (0 : Int32), (0 : Int32), (0 : Int32), (0 : Int32), (0 : Int32), (0 : Int32), (0 : Int32), (0 : Int32), (0 : Int32), (0 : Int32)] (0 : Int32)) (L' := [(0 : Int32), (0 : Int32), (0 : Int32), (0 : Int32), (0 : Int32), (0 : Int32), (0 : Int32), (0 : Int32), (0 : Int32), (0 : Int32), (0 : Int32), (0 : Int32), (0 : Int32), (0 : Int32), (0 : Int32), (0 : Int32)]) (i := (6 : Int32)) (Or.inr ⟨by decide, rfl⟩) (by decide), own_atp (p := (0 : Int32)) (L := own_pre [(0 : Int32), (0 : Int32), (0 : Int32), (0 : Int32), (0 : Int32), (0 : Int32), (0 : Int32), (0 : Int32), (0 : Int32), (0 : Int32), (0 : Int32), (0 : Int32), (0 : Int32), (0 : Int32), (0 : Int32), (0 : Int32)] (0 : Int32)) (L' := [(0 : Int32), (0 : Int32), (0 : Int32), (0 : Int32), (0 : Int32), (0 : Int32), (0 : Int32), (0 : Int32), (0 : Int32), (0 : Int32), (0 : Int32), (0 : Int32), (0 : Int32), (0 : Int32), (0 : Int32), (0 : Int32)]) (i := (7 : Int32)) (Or.inr ⟨by decide, rfl⟩) (by decide)]
theorem own_pk0_1 (c0 : Int32) : (fPk0 (1 : Int32) (own_pre [c0, (0 : Int32), (0 : Int32), (0 : Int32), (0 : Int32), (0 : Int32), (0 : Int32), (0 : Int32), (0 : Int32), (0 : Int32), (0 : Int32), (0 : Int32), (0 : Int32), (0 : Int32), (0 : Int32), (0 : Int32)] (1 : Int32))) = (fPk0 (16 : Int32) [c0, (0 : Int32), (0 : Int32), (0 : Int32), (0 : Int32), (0 : Int32), (0 : Int32), (0 : Int32), (0 : Int32), (0 : Int32), (0 : Int32), (0 : Int32), (0 : Int32), (0 : Int32), (0 : Int32), (0 : Int32)]) := by
  unfold fPk0; rw [own_atp (p := (1 : Int32)) (L := own_pre [c0, (0 : Int32), (0 : Int32), (0 : Int32), (0 : Int32), (0 : Int32), (0 : Int32), (0 : Int32), (0 : Int32), (0 : Int32), (0 : Int32), (0 : Int32), (0 : Int32), (0 : Int32), (0 : Int32), (0 : Int32)] (1 : Int32)) (L' := [c0, (0 : Int32), (0 : Int32), (0 : Int32), (0 : Int32), (0 : Int32), (0 : Int32), (0 : Int32), (0 : Int32), (0 : Int32), (0 : Int32), (0 : Int32), (0 : Int32), (0 : Int32), (0 : Int32), (0 : Int32)]) (i := (0 : Int32)) (Or.inl ⟨by decide, rfl⟩) (by decide), own_atp (p := (1 : Int32)) (L := own_pre [c0, (0 : Int32), (0 : Int32), (0 : Int32), (0 : Int32), (0 : Int32), (0 : Int32), (0 : Int32), (0 : Int32), (0 : Int32), (0 : Int32), (0 : Int32), (0 : Int32), (0 : Int32), (0 : Int32), (0 : Int32)] (1 : Int32)) (L' := [c0, (0 : Int32), (0 : Int32), (0 : Int32), (0 : Int32), (0 : Int32), (0 : Int32), (0 : Int32), (0 : Int32), (0 : Int32), (0 : Int32), (0 : Int32), (0 : Int32), (0 : Int32), (0 : Int32), (0 : Int32)]) (i := (1 : Int32)) (Or.inr ⟨by decide, rfl⟩) (by decide), own_atp (p := (1 : Int32)) (L := own_pre [c0, (0 : Int32), (0 : Int32), (0 : Int32), (0 : Int32), (0 : Int32), (0 : Int32), (0 : Int32), (0 : Int32), (0 : Int32), (0 : Int32), (0 : Int32), (0 : Int32), (0 : Int32), (0 : Int32), (0 : Int32)] (1 : Int32)) (L' := [c0, (0 : Int32), (0 : Int32), (0 : Int32), (0 : Int32), (0 : Int32), (0 : Int32), (0 : Int32), (0 : Int32), (0 : Int32), (0 : Int32), (0 : Int32), (0 : Int32), (0 : Int32), (0 : Int32), (0 : Int32)]) (i := (2 : Int32)) (Or.inr ⟨by decide, rfl⟩) (by decide), own_atp (p := (1 : Int32)) (L := own_pre [c0, (0 : Int32), (0 : Int32), (0 : Int32), (0 : Int32), (0 : Int32), (0 : Int32), (0 : Int32), (0 : Int32), (0 : Int32), (0 : Int32), (0 : Int32), (0 : Int32), (0 : Int32), (0 : Int32), (0 : Int32)] (1 : Int32)) (L' := [c0, (0 : Int32), (0 : Int32), (0 : Int32), (0 : Int32), (0 : Int32), (0 : Int32), (0 : Int32), (0 : Int32), (0 : Int32), (0 : Int32), (0 : Int32), (0 : Int32), (0 : Int32), (0 : Int32), (0 : Int32)]) (i := (3 : Int32)) (Or.inr ⟨by decide, rfl⟩) (by decide), own_atp (p := (1 : Int32)) (L := own_pre [c0, (0 : Int32), (0 : Int32), (0 : Int32), (0 : Int32), (0 : Int32), (0 : Int32), (0 : Int32), (0 : Int32), (0 : Int32), (0 : Int32), (0 : Int32), (0 : Int32), (0 : Int32), (0 : Int32), (0 : Int32)] (1 : Int32)) (L' := [c0, (0 : Int32), (0 : Int32), (0 : Int32), (0 : Int32), (0 : Int32), (0 : Int32), (0 : Int32), (0 : Int32), (0 : Int32), (0 : Int32), (0 : Int32), (0 : Int32), (0 : Int32), (0 : Int32), (0 : Int32)]) (i := (4 : Int32)) (Or.inr ⟨by decide, rfl⟩) (by decide), own_atp (p := (1 : Int32)) (L := own_pre [c0, (0 : Int32), (0 : Int32), (0 : Int32), (0 : Int32), (0 : Int32), (0 : Int32), (0 : Int32), (0 : Int32), (0 : Int32), (0 : Int32), (0 : Int32), (0 : Int32), (0 : Int32), (0 : Int32), (0 : Int32)] (1 : Int32)) (L' := [c0, (0 : Int32), (0 : Int32), (0 : Int32), (0 : Int32), (0 : Int32), (0 : Int32), (0 : Int32), (0 : Int32), (0 : Int32), (0 : Int32), (0 : Int32), (0 : Int32), (0 : Int32), (0 : Int32), (0 : Int32)]) (i := (5 : Int32)) (Or.inr ⟨by decide, rfl⟩) (by decide), own_atp (p := (1 : Int32)) (L := own_pre [c0, (0 : Int32), (0 : Int32), (0 : Int32), (0 : Int32), (0 : Int32), (0 : Int32), (0 : Int32), (0 : Int32), (0 : Int32), (0 : Int32), (0 : Int32), (0 : Int32), (0 : Int32), (0 : Int32), (0 : Int32)] (1 : Int32)) (L' := [c0, (0 : Int32), (0 : Int32), (0 : Int32), (0 : Int32), (0 : Int32), (0 : Int32), (0 : Int32), (0 : Int32), (0 : Int32), (0 : Int32), (0 : Int32), (0 : Int32), (0 : Int32), (0 : Int32), (0 : Int32)]) (i := (6 : Int32)) (Or.inr ⟨by decide, rfl⟩) (by decide), own_atp (p := (1 : Int32)) (L := own_pre [c0, (0 : Int32), (0 : Int32), (0 : Int32), (0 : Int32), (0 : Int32), (0 : Int32), (0 : Int32), (0 : Int32), (0 : Int32), (0 : Int32), (0 : Int32), (0 : Int32), (0 : Int32), (0 : Int32), (0 : Int32)] (1 : Int32)) (L' := [c0, (0 : Int32), (0 : Int32), (0 : Int32), (0 : Int32), (0 : Int32), (0 : Int32), (0 : Int32), (0 : Int32), (0 : Int32), (0 : Int32), (0 : Int32), (0 : Int32), (0 : Int32), (0 : Int32), (0 : Int32)]) (i := (7 : Int32)) (Or.inr ⟨by decide, rfl⟩) (by decide)]
theorem own_pk0_2 (c0 c1 : Int32) : (fPk0 (2 : Int32) (own_pre [c0, c1, (0 : Int32), (0 : Int32), (0 : Int32), (0 : Int32), (0 : Int32), (0 : Int32), (0 : Int32), (0 : Int32), (0 : Int32), (0 : Int32), (0 : Int32), (0 : Int32), (0 : Int32), (0 : Int32)] (2 : Int32))) = (fPk0 (16 : Int32) [c0, c1, (0 : Int32), (0 : Int32), (0 : Int32), (0 : Int32), (0 : Int32), (0 : Int32), (0 : Int32), (0 : Int32), (0 : Int32), (0 : Int32), (0 : Int32), (0 : Int32), (0 : Int32), (0 : Int32)]) := by
  unfold fPk0; rw [own_atp (p := (2 : Int32)) (L := own_pre [c0, c1, (0 : Int32), (0 : Int32), (0 : Int32), (0 : Int32), (0 : Int32), (0 : Int32), (0 : Int32), (0 : Int32), (0 : Int32), (0 : Int32), (0 : Int32), (0 : Int32), (0 : Int32), (0 : Int32)] (2 : Int32)) (L' := [c0, c1, (0 : Int32), (0 : Int32), (0 : Int32), (0 : Int32), (0 : Int32), (0 : Int32), (0 : Int32), (0 : Int32), (0 : Int32), (0 : Int32), (0 : Int32), (0 : Int32), (0 : Int32), (0 : Int32)]) (i := (0 : Int32)) (Or.inl ⟨by decide, rfl⟩) (by decide), own_atp (p := (2 : Int32)) (L := own_pre [c0, c1, (0 : Int32), (0 : Int32), (0 : Int32), (0 : Int32), (0 : Int32), (0 : Int32), (0 : Int32), (0 : Int32), (0 : Int32), (0 : Int32), (0 : Int32), (0 : Int32), (0 : Int32), (0 : Int32)] (2 : Int32)) (L' := [c0, c1, (0 : Int32), (0 : Int32), (0 : Int32), (0 : Int32), (0 : Int32), (0 : Int32), (0 : Int32), (0 : Int32), (0 : Int32), (0 : Int32), (0 : Int32), (0 : Int32), (0 : Int32), (0 : Int32)]) (i := (1 : Int32)) (Or.inl ⟨by decide, rfl⟩) (by decide), own_atp (p := (2 : Int32)) (L := own_pre [c0, c1, (0 : Int32), (0 : Int32), (0 : Int32), (0 : Int32), (0 : Int32), (0 : Int32), (0 : Int32), (0 : Int32), (0 : Int32), (0 : Int32), (0 : Int32), (0 : Int32), (0 : Int32), (0 : Int32)] (2 : Int32)) (L' := [c0, c1, (0 : Int32), (0 : Int32), (0 : Int32), (0 : Int32), (0 : Int32), (0 : Int32), (0 : Int32), (0 : Int32), (0 : Int32), (0 : Int32), (0 : Int32), (0 : Int32), (0 : Int32), (0 : Int32)]) (i := (2 : Int32)) (Or.inr ⟨by decide, rfl⟩) (by decide), own_atp (p := (2 : Int32)) (L := own_pre [c0, c1, (0 : Int32), (0 : Int32), (0 : Int32), (0 : Int32), (0 : Int32), (0 : Int32), (0 : Int32), (0 : Int32), (0 : Int32), (0 : Int32), (0 : Int32), (0 : Int32), (0 : Int32), (0 : Int32)] (2 : Int32)) (L' := [c0, c1, (0 : Int32), (0 : Int32), (0 : Int32), (0 : Int32), (0 : Int32), (0 : Int32), (0 : Int32), (0 : Int32), (0 : Int32), (0 : Int32), (0 : Int32), (0 : Int32), (0 : Int32), (0 : Int32)]) (i := (3 : Int32)) (Or.inr ⟨by decide, rfl⟩) (by decide), own_atp (p := (2 : Int32)) (L := own_pre [c0, c1, (0 : Int32), (0 : Int32), (0 : Int32), (0 : Int32), (0 : Int32), (0 : Int32), (0 : Int32), (0 : Int32), (0 : Int32), (0 : Int32), (0 : Int32), (0 : Int32), (0 : Int32), (0 : Int32)] (2 : Int32)) (L' := [c0, c1, (0 : Int32), (0 : Int32), (0 : Int32), (0 : Int32), (0 : Int32), (0 : Int32), (0 : Int32), (0 : Int32), (0 : Int32), (0 : Int32), (0 : Int32), (0 : Int32), (0 : Int32), (0 : Int32)]) (i := (4 : Int32)) (Or.inr ⟨by decide, rfl⟩) (by decide), own_atp (p := (2 : Int32)) (L := own_pre [c0, c1, (0 : Int32), (0 : Int32), (0 : Int32), (0 : Int32), (0 : Int32), (0 : Int32), (0 : Int32), (0 : Int32), (0 : Int32), (0 : Int32), (0 : Int32), (0 : Int32), (0 : Int32), (0 : Int32)] (2 : Int32)) (L' := [c0, c1, (0 : Int32), (0 : Int32), (0 : Int32), (0 : Int32), (0 : Int32), (0 : Int32), (0 : Int32), (0 : Int32), (0 : Int32), (0 : Int32), (0 : Int32), (0 : Int32), (0 : Int32), (0 : Int32)]) (i := (5 : Int32)) (Or.inr ⟨by decide, rfl⟩) (by decide), own_atp (p := (2 : Int32)) (L := own_pre [c0, c1, (0 : Int32), (0 : Int32), (0 : Int32), (0 : Int32), (0 : Int32), (0 : Int32), (0 : Int32), (0 : Int32), (0 : Int32), (0 : Int32), (0 : Int32), (0 : Int32), (0 : Int32), (0 : Int32)] (2 : Int32)) (L' := [c0, c1, (0 : Int32), (0 : Int32), (0 : Int32), (0 : Int32), (0 : Int32), (0 : Int32), (0 : Int32), (0 : Int32), (0 : Int32), (0 : Int32), (0 : Int32), (0 : Int32), (0 : Int32), (0 : Int32)]) (i := (6 : Int32)) (Or.inr ⟨by decide, rfl⟩) (by decide), own_atp (p := (2 : Int32)) (L := own_pre [c0, c1, (0 : Int32), (0 : Int32), (0 : Int32), (0 : Int32), (0 : Int32), (0 : Int32), (0 : Int32), (0 : Int32), (0 : Int32), (0 : Int32), (0 : Int32), (0 : Int32), (0 : Int32), (0 : Int32)] (2 : Int32)) (L' := [c0, c1, (0 : Int32), (0 : Int32), (0 : Int32), (0 : Int32), (0 : Int32), (0 : Int32), (0 : Int32), (0 : Int32), (0 : Int32), (0 : Int32), (0 : Int32), (0 : Int32), (0 : Int32), (0 : Int32)]) (i := (7 : Int32)) (Or.inr ⟨by decide, rfl⟩) (by decide)]
theorem own_pk0_4 (c0 c1 c2 c3 : Int32) : (fPk0 (4 : Int32) (own_pre [c0, c1, c2, c3, (0 : Int32), (0 : Int32), (0 : Int32), (0 : Int32), (0 : Int32), (0 : Int32), (0 : Int32), (0 : Int32), (0 : Int32), (0 : Int32), (0 : Int32), (0 : Int32)] (4 : Int32))) = (fPk0 (16 : Int32) [c0, c1, c2, c3, (0 : Int32), (0 : Int32), (0 : Int32), (0 : Int32), (0 : Int32), (0 : Int32), (0 : Int32), (0 : Int32), (0 : Int32), (0 : Int32), (0 : Int32), (0 : Int32)]) := by
  unfold fPk0; rw [own_atp (p := (4 : Int32)) (L := own_pre [c0, c1, c2, c3, (0 : Int32), (0 : Int32), (0 : Int32), (0 : Int32), (0 : Int32), (0 : Int32), (0 : Int32), (0 : Int32), (0 : Int32), (0 : Int32), (0 : Int32), (0 : Int32)] (4 : Int32)) (L' := [c0, c1, c2, c3, (0 : Int32), (0 : Int32), (0 : Int32), (0 : Int32), (0 : Int32), (0 : Int32), (0 : Int32), (0 : Int32), (0 : Int32), (0 : Int32), (0 : Int32), (0 : Int32)]) (i := (0 : Int32)) (Or.inl ⟨by decide, rfl⟩) (by decide), own_atp (p := (4 : Int32)) (L := own_pre [c0, c1, c2, c3, (0 : Int32), (0 : Int32), (0 : Int32), (0 : Int32), (0 : Int32), (0 : Int32), (0 : Int32), (0 : Int32), (0 : Int32), (0 : Int32), (0 : Int32), (0 : Int32)] (4 : Int32)) (L' := [c0, c1, c2, c3, (0 : Int32), (0 : Int32), (0 : Int32), (0 : Int32), (0 : Int32), (0 : Int32), (0 : Int32), (0 : Int32), (0 : Int32), (0 : Int32), (0 : Int32), (0 : Int32)]) (i := (1 : Int32)) (Or.inl ⟨by decide, rfl⟩) (by decide), own_atp (p := (4 : Int32)) (L := own_pre [c0, c1, c2, c3, (0 : Int32), (0 : Int32), (0 : Int32), (0 : Int32), (0 : Int32), (0 : Int32), (0 : Int32), (0 : Int32), (0 : Int32), (0 : Int32), (0 : Int32), (0 : Int32)] (4 : Int32)) (L' := [c0, c1, c2, c3, (0 : Int32), (0 : Int32), (0 : Int32), (0 : Int32), (0 : Int32), (0 : Int32), (0 : Int32), (0 : Int32), (0 : Int32), (0 : Int32), (0 : Int32), (0 : Int32)]) (i := (2 : Int32)) (Or.inl ⟨by decide, rfl⟩) (by decide), own_atp (p := (4 : Int32)) (L := own_pre [c0, c1, c2, c3, (0 : Int32), (0 : Int32), (0 : Int32), (0 : Int32), (0 : Int32), (0 : Int32), (0 : Int32), (0 : Int32), (0 : Int32), (0 : Int32), (0 : Int32), (0 : Int32)] (4 : Int32)) (L' := [c0, c1, c2, c3, (0 : Int32), (0 : Int32), (0 : Int32), (0 : Int32), (0 : Int32), (0 : Int32), (0 : Int32), (0 : Int32), (0 : Int32), (0 : Int32), (0 : Int32), (0 : Int32)]) (i := (3 : Int32)) (Or.inl ⟨by decide, rfl⟩) (by decide), own_atp (p := (4 : Int32)) (L := own_pre [c0, c1, c2, c3, (0 : Int32), (0 : Int32), (0 : Int32), (0 : Int32), (0 : Int32), (0 : Int32), (0 : Int32), (0 : Int32), (0 : Int32), (0 : Int32), (0 : Int32), (0 : Int32)] (4 : Int32)) (L' := [c0, c1, c2, c3, (0 : Int32), (0 : Int32), (0 : Int32), (0 : Int32), (0 : Int32), (0 : Int32), (0 : Int32), (0 : Int32), (0 : Int32), (0 : Int32), (0 : Int32), (0 : Int32)]) (i := (4 : Int32)) (Or.inr ⟨by decide, rfl⟩) (by decide), own_atp (p := (4 : Int32)) (L := own_pre [c0, c1, c2, c3, (0 : Int32), (0 : Int32), (0 : Int32), (0 : Int32), (0 : Int32), (0 : Int32), (0 : Int32), (0 : Int32), (0 : Int32), (0 : Int32), (0 : Int32), (0 : Int32)] (4 : Int32)) (L' := [c0, c1, c2, c3, (0 : Int32), (0 : Int32), (0 : Int32), (0 : Int32), (0 : Int32), (0 : Int32), (0 : Int32), (0 : Int32), (0 : Int32), (0 : Int32), (0 : Int32), (0 : Int32)]) (i := (5 : Int32)) (Or.inr ⟨by decide, rfl⟩) (by decide), own_atp (p := (4 : Int32)) (L := own_pre [c0, c1, c2, c3, (0 : Int32), (0 : Int32), (0 : Int32), (0 : Int32), (0 : Int32), (0 : Int32), (0 : Int32), (0 : Int32), (0 : Int32), (0 : Int32), (0 : Int32), (0 : Int32)] (4 : Int32)) (L' := [c0, c1, c2, c3, (0 : Int32), (0 : Int32), (0 : Int32), (0 : Int32), (0 : Int32), (0 : Int32), (0 : Int32), (0 : Int32), (0 : Int32), (0 : Int32), (0 : Int32), (0 : Int32)]) (i := (6 : Int32)) (Or.inr ⟨by decide, rfl⟩) (by decide), own_atp (p := (4 : Int32)) (L := own_pre [c0, c1, c2, c3, (0 : Int32), (0 : Int32), (0 : Int32), (0 : Int32), (0 : Int32), (0 : Int32), (0 : Int32), (0 : Int32), (0 : Int32), (0 : Int32), (0 : Int32), (0 : Int32)] (4 : Int32)) (L' := [c0, c1, c2, c3, (0 : Int32), (0 : Int32), (0 : Int32), (0 : Int32), (0 : Int32), (0 : Int32), (0 : Int32), (0 : Int32), (0 : Int32), (0 : Int32), (0 : Int32), (0 : Int32)]) (i := (7 : Int32)) (Or.inr ⟨by decide, rfl⟩) (by decide)]
theorem own_pk0_8 (c0 c1 c2 c3 c4 c5 c6 c7 : Int32) : (fPk0 (8 : Int32) (own_pre [c0, c1, c2, c3, c4, c5, c6, c7, (0 : Int32), (0 : Int32), (0 : Int32), (0 : Int32), (0 : Int32), (0 : Int32), (0 : Int32), (0 : Int32)] (8 : Int32))) = (fPk0 (16 : Int32) [c0, c1, c2, c3, c4, c5, c6, c7, (0 : Int32), (0 : Int32), (0 : Int32), (0 : Int32), (0 : Int32), (0 : Int32), (0 : Int32), (0 : Int32)]) := by
  unfold fPk0; rw [own_atp (p := (8 : Int32)) (L := own_pre [c0, c1, c2, c3, c4, c5, c6, c7, (0 : Int32), (0 : Int32), (0 : Int32), (0 : Int32), (0 : Int32), (0 : Int32), (0 : Int32), (0 : Int32)] (8 : Int32)) (L' := [c0, c1, c2, c3, c4, c5, c6, c7, (0 : Int32), (0 : Int32), (0 : Int32), (0 : Int32), (0 : Int32), (0 : Int32), (0 : Int32), (0 : Int32)]) (i := (0 : Int32)) (Or.inl ⟨by decide, rfl⟩) (by decide), own_atp (p := (8 : Int32)) (L := own_pre [c0, c1, c2, c3, c4, c5, c6, c7, (0 : Int32), (0 : Int32), (0 : Int32), (0 : Int32), (0 : Int32), (0 : Int32), (0 : Int32), (0 : Int32)] (8 : Int32)) (L' := [c0, c1, c2, c3, c4, c5, c6, c7, (0 : Int32), (0 : Int32), (0 : Int32), (0 : Int32), (0 : Int32), (0 : Int32), (0 : Int32), (0 : Int32)]) (i := (1 : Int32)) (Or.inl ⟨by decide, rfl⟩) (by decide), own_atp (p := (8 : Int32)) (L := own_pre [c0, c1, c2, c3, c4, c5, c6, c7, (0 : Int32), (0 : Int32), (0 : Int32), (0 : Int32), (0 : Int32), (0 : Int32), (0 : Int32), (0 : Int32)] (8 : Int32)) (L' := [c0, c1, c2, c3, c4, c5, c6, c7, (0 : Int32), (0 : Int32), (0 : Int32), (0 : Int32), (0 : Int32), (0 : Int32), (0 : Int32), (0 : Int32)]) (i := (2 : Int32)) (Or.inl ⟨by decide, rfl⟩) (by decide), own_atp (p := (8 : Int32)) (L := own_pre [c0, c1, c2, c3, c4, c5, c6, c7, (0 : Int32), (0 : Int32), (0 : Int32), (0 : Int32), (0 : Int32), (0 : Int32), (0 : Int32), (0 : Int32)] (8 : Int32)) (L' := [c0, c1, c2, c3, c4, c5, c6, c7, (0 : Int32), (0 : Int32), (0 : Int32), (0 : Int32), (0 : Int32), (0 : Int32), (0 : Int32), (0 : Int32)]) (i := (3 : Int32)) (Or.inl ⟨by decide, rfl⟩) (by decide), own_atp (p := (8 : Int32)) (L := own_pre [c0, c1, c2, c3, c4, c5, c6, c7, (0 : Int32), (0 : Int32), (0 : Int32), (0 : Int32), (0 : Int32), (0 : Int32), (0 : Int32), (0 : Int32)] (8 : Int32)) (L' := [c0, c1, c2, c3, c4, c5, c6, c7, (0 : Int32), (0 : Int32), (0 : Int32), (0 : Int32), (0 : Int32), (0 : Int32), (0 : Int32), (0 : Int32)]) (i := (4 : Int32)) (Or.inl ⟨by decide, rfl⟩) (by decide), own_atp (p := (8 : Int32)) (L := own_pre [c0, c1, c2, c3, c4, c5, c6, c7, (0 : Int32), (0 : Int32), (0 : Int32), (0 : Int32), (0 : Int32), (0 : Int32), (0 : Int32), (0 : Int32)] (8 : Int32)) (L' := [c0, c1, c2, c3, c4, c5, c6, c7, (0 : Int32), (0 : Int32), (0 : Int32), (0 : Int32), (0 : Int32), (0 : Int32), (0 : Int32), (0 : Int32)]) (i := (5 : Int32)) (Or.inl ⟨by decide, rfl⟩) (by decide), own_atp (p := (8 : Int32)) (L := own_pre [c0, c1, c2, c3, c4, c5, c6, c7, (0 : Int32), (0 : Int32), (0 : Int32), (0 : Int32), (0 : Int32), (0 : Int32), (0 : Int32), (0 : Int32)] (8 : Int32)) (L' := [c0, c1, c2, c3, c4, c5, c6, c7, (0 : Int32), (0 : Int32), (0 : Int32), (0 : Int32), (0 : Int32), (0 : Int32), (0 : Int32), (0 : Int32)]) (i := (6 : Int32)) (Or.inl ⟨by decide, rfl⟩) (by decide), own_atp (p := (8 : Int32)) (L := own_pre [c0, c1, c2, c3, c4, c5, c6, c7, (0 : Int32), (0 : Int32), (0 : Int32), (0 : Int32), (0 : Int32), (0 : Int32), (0 : Int32), (0 : Int32)] (8 : Int32)) (L' := [c0, c1, c2, c3, c4, c5, c6, c7, (0 : Int32), (0 : Int32), (0 : Int32), (0 : Int32), (0 : Int32), (0 : Int32), (0 : Int32), (0 : Int32)]) (i := (7 : Int32)) (Or.inl ⟨by decide, rfl⟩) (by decide)]
theorem own_pk0_16 (c0 c1 c2 c3 c4 c5 c6 c7 c8 c9 c10 c11 c12 c13 c14 c15 : Int32) : (fPk0 (16 : Int32) (own_pre [c0, c1, c2, c3, c4, c5, c6, c7, c8, c9, c10, c11, c12, c13, c14, c15] (16 : Int32))) = (fPk0 (16 : Int32) [c0, c1, c2, c3, c4, c5, c6, c7, c8, c9, c10, c11, c12, c13, c14, c15]) := by
  rfl
theorem own_pk8_0  : (fPk8 (0 : Int32) (own_pre [(0 : Int32), (0 : Int32), (0 : Int32), (0 : Int32), (0 : Int32), (0 : Int32), (0 : Int32), (0 : Int32), (0 : Int32), (0 : Int32), (0 : Int32), (0 : Int32), (0 : Int32), (0 : Int32), (0 : Int32), (0 : Int32)] (0 : Int32))) = (fPk8 (16 : Int32) [(0 : Int32), (0 : Int32), (0 : Int32), (0 : Int32), (0 : Int32), (0 : Int32), (0 : Int32), (0 : Int32), (0 : Int32), (0 : Int32), (0 : Int32), (0 : Int32), (0 : Int32), (0 : Int32), (0 : Int32), (0 : Int32)]) := by
  unfold fPk8; rw [own_atp (p := (0 : Int32)) (L := own_pre [(0 : Int32), (0 : Int32), (0 : Int32), (0 : Int32), (0 : Int32), (0 : Int32), (0 : Int32), (0 : Int32), (0 : Int32), (0 : Int32), (0 : Int32), (0 : Int32), (0 : Int32), (0 : Int32), (0 : Int32), (0 : Int32)] (0 : Int32)) (L' := [(0 : Int32), (0 : Int32), (0 : Int32), (0 : Int32), (0 : Int32), (0 : Int32), (0 : Int32), (0 : Int32), (0 : Int32), (0 : Int32), (0 : Int32), (0 : Int32), (0 : Int32), (0 : Int32), (0 : Int32), (0 : Int32)]) (i := (8 : Int32)) (Or.inr ⟨by decide, rfl⟩) (by decide), own_atp (p := (0 : Int32)) (L := own_pre [(0 : Int32), (0 : Int32), (0 : Int32), (0 : Int32), (0 : Int32), (0 : Int32), (0 : Int32), (0 : Int32), (0 : Int32), (0 : Int32), (0 : Int32), (0 : Int32), (0 : Int32), (0 : Int32), (0 : Int32), (0 : Int32)] (0 : Int32)) (L' := [(0 : Int32), (0 : Int32), (0 : Int32), (0 : Int32), (0 : Int32), (0 : Int32), (0 : Int32), (0 : Int32), (0 : Int32), (0 : Int32), (0 : Int32), (0 : Int32), (0 : Int32), (0 : Int32), (0 : Int32), (0 : Int32)]) (i := (9 : Int32)) (Or.inr ⟨by decide, rfl⟩) (by decide), own_atp (p := (0 : Int32)) (L := own_pre [(0 : Int32), (0 : Int32), (0 : Int32), (0 : Int32), (0 : Int32), (0 : Int32), (0 : Int32), (0 : Int32), (0 : Int32), (0 : Int32), (0 : Int32), (0 : Int32), (0 : Int32), (0 : Int32), (0 : Int32), (0 : Int32)] (0 : Int32)) (L' := [(0 : Int32), (0 : Int32), (0 : Int32), (0 : Int32), (0 : Int32), (0 : Int32), (0 : Int32), (0 : Int32), (0 : Int32), (0 : Int32), (0 : Int32), (0 : Int32), (0 : Int32), (0 : Int32), (0 : Int32), (0 : Int32)]) (i := (10 : Int32)) (Or.inr ⟨by decide, rfl⟩) (by decide), own_atp (p := (0 : Int32)) (L := own_pre [(0 : Int32), (0 : Int32), (0 : Int32), (0 : Int32), (0 : Int32), (0 : Int32), (0 : Int32), (0 : Int32), (0 : Int32), (0 : Int32), (0 : Int32), (0 : Int32), (0 : Int32), (0 : Int32), (0 : Int32), (0 : Int32)] (0 : Int32)) (L' := [(0 : Int32), (0 : Int32), (0 : Int32), (0 : Int32), (0 : Int32), (0 : Int32), (0 : Int32), (0 : Int32), (0 : Int32), (0 : Int32), (0 : Int32), (0 : Int32), (0 : Int32), (0 : Int32), (0 : Int32), (0 : Int32)]) (i := (11 : Int32)) (Or.inr ⟨by decide, rfl⟩) (by decide), own_atp (p := (0 : Int32)) (L := own_pre [(0 : Int32), (0 : Int32), (0 : Int32), (0 : Int32), (0 : Int32), (0 : Int32), (0 : Int32), (0 : Int32), (0 : Int32), (0 : Int32), (0 : Int32), (0 : Int32), (0 : Int32), (0 : Int32), (0 : Int32), (0 : Int32)] (0 : Int32)) (L' := [(0 : Int32), (0 : Int32), (0 : Int32), (0 : Int32), (0 : Int32), (0 : Int32), (0 : Int32), (0 : Int32), (0 : Int32), (0 : Int32), (0 : Int32), (0 : Int32), (0 : Int32), (0 : Int32), (0 : Int32), (0 : Int32)]) (i := (12 : Int32)) (Or.inr ⟨by decide, rfl⟩) (by decide), own_atp (p := (0 : Int32)) (L := own_pre [(0 : Int32), (0 : Int32), (0 : Int32), (0 : Int32), (0 : Int32), (0 : Int32), (0 : Int32), (0 : Int32), (0 : Int32), (0 : Int32), (0 : Int32), (0 : Int32), (0 : Int32), (0 : Int32), (0 : Int32), (0 : Int32)] (0 : Int32)) (L' := [(0 : Int32), (0 : Int32), (0 : Int32), (0 : Int32), (0 : Int32), (0 : Int32), (0 : Int32), (0 : Int32), (0 : Int32), (0 : Int32), (0 : Int32), (0 : Int32), (0 : Int32), (0 : Int32), (0 : Int32), (0 : Int32)]) (i := (13 : Int32)) (Or.inr ⟨by decide, rfl⟩) (by decide), own_atp (p := (0 : Int32)) (L := own_pre [(0 : Int32), (0 : Int32), (0 : Int32), (0 : Int32), (0 : Int32), (0 : Int32), (0 : Int32), (0 : Int32), (0 : Int32), (0 : Int32), (0 : Int32), (0 : Int32), (0 : Int32), (0 : Int32), (0 : Int32), (0 : Int32)] (0 : Int32)) (L' := [(0 : Int32), (0 : Int32), (0 : Int32), (0 : Int32), (0 : Int32), (0 : Int32), (0 : Int32), (0 : Int32), (0 : Int32), (0 : Int32), (0 : Int32), (0 : Int32), (0 : Int32), (0 : Int32), (0 : Int32), (0 : Int32)]) (i := (14 : Int32)) (Or.inr ⟨by decide, rfl⟩) (by decide), own_atp (p := (0 : Int32)) (L := own_pre [(0 : Int32), (0 : Int32), (0 : Int32), (0 : Int32), (0 : Int32), (0 : Int32), (0 : Int32), (0 : Int32), (0 : Int32), (0 : Int32), (0 : Int32), (0 : Int32), (0 : Int32), (0 : Int32), (0 : Int32), (0 : Int32)] (0 : Int32)) (L' := [(0 : Int32), (0 : Int32), (0 : Int32), (0 : Int32), (0 : Int32), (0 : Int32), (0 : Int32), (0 : Int32), (0 : Int32), (0 : Int32), (0 : Int32), (0 : Int32), (0 : Int32), (0 : Int32), (0 : Int32), (0 : Int32)]) (i := (15 : Int32)) (Or.inr ⟨by decide, rfl⟩) (by decide)]
theorem own_pk8_1 (c0 : Int32) : (fPk8 (1 : Int32) (own_pre [c0, (0 : Int32), (0 : Int32), (0 : Int32), (0 : Int32), (0 : Int32), (0 : Int32), (0 : Int32), (0 : Int32), (0 : Int32), (0 : Int32), (0 : Int32), (0 : Int32), (0 : Int32), (0 : Int32), (0 : Int32)] (1 : Int32))) = (fPk8 (16 : Int32) [c0, (0 : Int32), (0 : Int32), (0 : Int32), (0 : Int32), (0 : Int32), (0 : Int32), (0 : Int32), (0 : Int32), (0 : Int32), (0 : Int32), (0 : Int32), (0 : Int32), (0 : Int32), (0 : Int32), (0 : Int32)]) := by
  unfold fPk8; rw [own_atp (p := (1 : Int32)) (L := own_pre [c0, (0 : Int32), (0 : Int32), (0 : Int32), (0 : Int32), (0 : Int32), (0 : Int32), (0 : Int32), (0 : Int32), (0 : Int32), (0 : Int32), (0 : Int32), (0 : Int32), (0 : Int32), (0 : Int32), (0 : Int32)] (1 : Int32)) (L' := [c0, (0 : Int32), (0 : Int32), (0 : Int32), (0 : Int32), (0 : Int32), (0 : Int32), (0 : Int32), (0 : Int32), (0 : Int32), (0 : Int32), (0 : Int32), (0 : Int32), (0 : Int32), (0 : Int32), (0 : Int32)]) (i := (8 : Int32)) (Or.inr ⟨by decide, rfl⟩) (by decide), own_atp (p := (1 : Int32)) (L := own_pre [c0, (0 : Int32), (0 : Int32), (0 : Int32), (0 : Int32), (0 : Int32), (0 : Int32), (0 : Int32), (0 : Int32), (0 : Int32), (0 : Int32), (0 : Int32), (0 : Int32), (0 : Int32), (0 : Int32), (0 : Int32)] (1 : Int32)) (L' := [c0, (0 : Int32), (0 : Int32), (0 : Int32), (0 : Int32), (0 : Int32), (0 : Int32), (0 : Int32), (0 : Int32), (0 : Int32), (0 : Int32), (0 : Int32), (0 : Int32), (0 : Int32), (0 : Int32), (0 : Int32)]) (i := (9 : Int32)) (Or.inr ⟨by decide, rfl⟩) (by decide), own_atp (p := (1 : Int32)) (L := own_pre [c0, (0 : Int32), (0 : Int32), (0 : Int32), (0 : Int32), (0 : Int32), (0 : Int32), (0 : Int32), (0 : Int32), (0 : Int32), (0 : Int32), (0 : Int32), (0 : Int32), (0 : Int32), (0 : Int32), (0 : Int32)] (1 : Int32)) (L' := [c0, (0 : Int32), (0 : Int32), (0 : Int32), (0 : Int32), (0 : Int32), (0 : Int32), (0 : Int32), (0 : Int32), (0 : Int32), (0 : Int32), (0 : Int32), (0 : Int32), (0 : Int32), (0 : Int32), (0 : Int32)]) (i := (10 : Int32)) (Or.inr ⟨by decide, rfl⟩) (by decide), own_atp (p := (1 : Int32)) (L := own_pre [c0, (0 : Int32), (0 : Int32), (0 : Int32), (0 : Int32), (0 : Int32), (0 : Int32), (0 : Int32), (0 : Int32), (0 : Int32), (0 : Int32), (0 : Int32), (0 : Int32), (0 : Int32), (0 : Int32), (0 : Int32)] (1 : Int32)) (L' := [c0, (0 : Int32), (0 : Int32), (0 : Int32), (0 : Int32), (0 : Int32), (0 : Int32), (0 : Int32), (0 : Int32), (0 : Int32), (0 : Int32), (0 : Int32), (0 : Int32), (0 : Int32), (0 : Int32), (0 : Int32)]) (i := (11 : Int32)) (Or.inr ⟨by decide, rfl⟩) (by decide), own_atp (p := (1 : Int32)) (L := own_pre [c0, (0 : Int32), (0 : Int32), (0 : Int32), (0 : Int32), (0 : Int32), (0 : Int32), (0 : Int32), (0 : Int32), (0 : Int32), (0 : Int32), (0 : Int32), (0 : Int32), (0 : Int32), (0 : Int32), (0 : Int32)] (1 : Int32)) (L' := [c0, (0 : Int32), (0 : Int32), (0 : Int32), (0 : Int32), (0 : Int32), (0 : Int32), (0 : Int32), (0 : Int32), (0 : Int32), (0 : Int32), (0 : Int32), (0 : Int32), (0 : Int32), (0 : Int32), (0 : Int32)]) (i := (12 : Int32)) (Or.inr ⟨by decide, rfl⟩) (by decide), own_atp (p := (1 : Int32)) (L := own_pre [c0, (0 : Int32), (0 : Int32), (0 : Int32), (0 : Int32), (0 : Int32), (0 : Int32), (0 : Int32), (0 : Int32), (0 : Int32), (0 : Int32), (0 : Int32), (0 : Int32), (0 : Int32), (0 : Int32), (0 : Int32)] (1 : Int32)) (L' := [c0, (0 : Int32), (0 : Int32), (0 : Int32), (0 : Int32), (0 : Int32), (0 : Int32), (0 : Int32), (0 : Int32), (0 : Int32), (0 : Int32), (0 : Int32), (0 : Int32), (0 : Int32), (0 : Int32), (0 : Int32)]) (i := (13 : Int32)) (Or.inr ⟨by decide, rfl⟩) (by decide), own_atp (p := (1 : Int32)) (L := own_pre [c0, (0 : Int32), (0 : Int32), (0 : Int32), (0 : Int32), (0 : Int32), (0 : Int32), (0 : Int32), (0 : Int32), (0 : Int32), (0 : Int32), (0 : Int32), (0 : Int32), (0 : Int32), (0 : Int32), (0 : Int32)] (1 : Int32)) (L' := [c0, (0 : Int32), (0 : Int32), (0 : Int32), (0 : Int32), (0 : Int32), (0 : Int32), (0 : Int32), (0 : Int32), (0 : Int32), (0 : Int32), (0 : Int32), (0 : Int32), (0 : Int32), (0 : Int32), (0 : Int32)]) (i := (14 : Int32)) (Or.inr ⟨by decide, rfl⟩) (by decide), own_atp (p := (1 : Int32)) (L := own_pre [c0, (0 : Int32), (0 : Int32), (0 : Int32), (0 : Int32), (0 : Int32), (0 : Int32), (0 : Int32), (0 : Int32), (0 : Int32), (0 : Int32), (0 : Int32), (0 : Int32), (0 : Int32), (0 : Int32), (0 : Int32)] (1 : Int32)) (L' := [c0, (0 : Int32), (0 : Int32), (0 : Int32), (0 : Int32), (0 : Int32), (0 : Int32), (0 : Int32), (0 : Int32), (0 : Int32), (0 : Int32), (0 : Int32), (0 : Int32), (0 : Int32), (0 : Int32), (0 : Int32)]) (i := (15 : Int32)) (Or.inr ⟨by decide, rfl⟩) (by decide)]
theorem own_pk8_2 (c0 c1 : Int32) : (fPk8 (2 : Int32) (own_pre [c0, c1, (0 : Int32), (0 : Int32), (0 : Int32), (0 : Int32), (0 : Int32), (0 : Int32), (0 : Int32), (0 : Int32), (0 : Int32), (0 : Int32), (0 : Int32), (0 : Int32), (0 : Int32), (0 : Int32)] (2 : Int32))) = (fPk8 (16 : Int32) [c0, c1, (0 : Int32), (0 : Int32), (0 : Int32), (0 : Int32), (0 : Int32), (0 : Int32), (0 : Int32), (0 : Int32), (0 : Int32), (0 : Int32), (0 : Int32), (0 : Int32), (0 : Int32), (0 : Int32)]) := by
  unfold fPk8; rw [own_atp (p := (2 : Int32)) (L := own_pre [c0, c1, (0 : Int32), (0 : Int32), (0 : Int32), (0 : Int32), (0 : Int32), (0 : Int32), (0 : Int32), (0 : Int32), (0 : Int32), (0 : Int32), (0 : Int32), (0 : Int32), (0 : Int32), (0 : Int32)] (2 : Int32)) (L' := [c0, c1, (0 : Int32), (0 : Int32), (0 : Int32), (0 : Int32), (0 : Int32), (0 : Int32), (0 : Int32), (0 : Int32), (0 : Int32), (0 : Int32), (0 : Int32), (0 : Int32), (0 : Int32), (0 : Int32)]) (i := (8 : Int32)) (Or.inr ⟨by decide, rfl⟩) (by decide), own_atp (p := (2 : Int32)) (L := own_pre [c0, c1, (0 : Int32), (0 : Int32), (0 : Int32), (0 : Int32), (0 : Int32), (0 : Int32), (0 : Int32), (0 : Int32), (0 : Int32), (0 : Int32), (0 : Int32), (0 : Int32), (0 : Int32), (0 : Int32)] (2 : Int32)) (L' := [c0, c1, (0 : Int32), (0 : Int32), (0 : Int32), (0 : Int32), (0 : Int32), (0 : Int32), (0 : Int32), (0 : Int32), (0 : Int32), (0 : Int32), (0 : Int32), (0 : Int32), (0 : Int32), (0 : Int32)]) (i := (9 : Int32)) (Or.inr ⟨by decide, rfl⟩) (by decide), own_atp (p := (2 : Int32)) (L := own_pre [c0, c1, (0 : Int32), (0 : Int32), (0 : Int32), (0 : Int32), (0 : Int32), (0 : Int32), (0 : Int32), (0 : Int32), (0 : Int32), (0 : Int32), (0 : Int32), (0 : Int32), (0 : Int32), (0 : Int32)] (2 : Int32)) (L' := [c0, c1, (0 : Int32), (0 : Int32), (0 : Int32), (0 : Int32), (0 : Int32), (0 : Int32), (0 : Int32), (0 : Int32), (0 : Int32), (0 : Int32), (0 : Int32), (0 : Int32), (0 : Int32), (0 : Int32)]) (i := (10 : Int32)) (Or.inr ⟨by decide, rfl⟩) (by decide), own_atp (p := (2 : Int32)) (L := own_pre [c0, c1, (0 : Int32), (0 : Int32), (0 : Int32), (0 : Int32), (0 : Int32), (0 : Int32), (0 : Int32), (0 : Int32), (0 : Int32), (0 : Int32), (0 : Int32), (0 : Int32), (0 : Int32), (0 : Int32)] (2 : Int32)) (L' := [c0, c1, (0 : Int32), (0 : Int32), (0 : Int32), (0 : Int32), (0 : Int32), (0 : Int32), (0 : Int32), (0 : Int32), (0 : Int32), (0 : Int32), (0 : Int32), (0 : Int32), (0 : Int32), (0 : Int32)]) (i := (11 : Int32)) (Or.inr ⟨by decide, rfl⟩) (by decide), own_atp (p := (2 : Int32)) (L := own_pre [c0, c1, (0 : Int32), (0 : Int32), (0 : Int32), (0 : Int32), (0 : Int32), (0 : Int32), (0 : Int32), (0 : Int32), (0 : Int32), (0 : Int32), (0 : Int32), (0 : Int32), (0 : Int32), (0 : Int32)] (2 : Int32)) (L' := [c0, c1, (0 : Int32), (0 : Int32), (0 : Int32), (0 : Int32), (0 : Int32), (0 : Int32), (0 : Int32), (0 : Int32), (0 : Int32), (0 : Int32), (0 : Int32), (0 : Int32), (0 : Int32), (0 : Int32)]) (i := (12 : Int32)) (Or.inr ⟨by decide, rfl⟩) (by decide), own_atp (p := (2 : Int32)) (L := own_pre [c0, c1, (0 : Int32), (0 : Int32), (0 : Int32), (0 : Int32), (0 : Int32), (0 : Int32), (0 : Int32), (0 : Int32), (0 : Int32), (0 : Int32), (0 : Int32), (0 : Int32), (0 : Int32), (0 : Int32)] (2 : Int32)) (L' := [c0, c1, (0 : Int32), (0 : Int32), (0 : Int32), (0 : Int32), (0 : Int32), (0 : Int32), (0 : Int32), (0 : Int32), (0 : Int32), (0 : Int32), (0 : Int32), (0 : Int32), (0 : Int32), (0 : Int32)]) (i := (13 : Int32)) (Or.inr ⟨by decide, rfl⟩) (by decide), own_atp (p := (2 : Int32)) (L := own_pre [c0, c1, (0 : Int32), (0 : Int32), (0 : Int32), (0 : Int32), (0 : Int32), (0 : Int32), (0 : Int32), (0 : Int32), (0 : Int32), (0 : Int32), (0 : Int32), (0 : Int32), (0 : Int32), (0 : Int32)] (2 : Int32)) (L' := [c0, c1, (0 : Int32), (0 : Int32), (0 : Int32), (0 : Int32), (0 : Int32), (0 : Int32), (0 : Int32), (0 : Int32), (0 : Int32), (0 : Int32), (0 : Int32), (0 : Int32), (0 : Int32), (0 : Int32)]) (i := (14 : Int32)) (Or.inr ⟨by decide, rfl⟩) (by decide), own_atp (p := (2 : Int32)) (L := own_pre [c0, c1, (0 : Int32), (0 : Int32), (0 : Int32), (0 : Int32), (0 : Int32), (0 : Int32), (0 : Int32), (0 : Int32), (0 : Int32), (0 : Int32), (0 : Int32), (0 : Int32), (0 : Int32), (0 : Int32)] (2 : Int32)) (L' := [c0, c1, (0 : Int32), (0 : Int32), (0 : Int32), (0 : Int32), (0 : Int32), (0 : Int32), (0 : Int32), (0 : Int32), (0 : Int32), (0 : Int32), (0 : Int32), (0 : Int32), (0 : Int32), (0 : Int32)]) (i := (15 : Int32)) (Or.inr ⟨by decide, rfl⟩) (by decide)]
theorem own_pk8_4 (c0 c1 c2 c3 : Int32) : (fPk8 (4 : Int32) (own_pre [c0, c1, c2, c3, (0 : Int32), (0 : Int32), (0 : Int32), (0 : Int32), (0 : Int32), (0 : Int32), (0 : Int32), (0 : Int32), (0 : Int32), (0 : Int32), (0 : Int32), (0 : Int32)] (4 : Int32))) = (fPk8 (16 : Int32) [c0, c1, c2, c3, (0 : Int32), (0 : Int32), (0 : Int32), (0 : Int32), (0 : Int32), (0 : Int32), (0 : Int32), (0 : Int32), (0 : Int32), (0 : Int32), (0 : Int32), (0 : Int32)]) := by
  unfold fPk8; rw [own_atp (p := (4 : Int32)) (L := own_pre [c0, c1, c2, c3, (0 : Int32), (0 : Int32), (0 : Int32), (0 : Int32), (0 : Int32), (0 : Int32), (0 : Int32), (0 : Int32), (0 : Int32), (0 : Int32), (0 : Int32), (0 : Int32)] (4 : Int32)) (L' := [c0, c1, c2, c3, (0 : Int32), (0 : Int32), (0 : Int32), (0 : Int32), (0 : Int32), (0 : Int32), (0 : Int32), (0 : Int32), (0 : Int32), (0 : Int32), (0 : Int32), (0 : Int32)]) (i := (8 : Int32)) (Or.inr ⟨by decide, rfl⟩) (by decide), own_atp (p := (4 : Int32)) (L := own_pre [c0, c1, c2, c3, (0 : Int32), (0 : Int32), (0 : Int32), (0 : Int32), (0 : Int32), (0 : Int32), (0 : Int32), (0 : Int32), (0 : Int32), (0 : Int32), (0 : Int32), (0 : Int32)] (4 : Int32)) (L' := [c0, c1, c2, c3, (0 : Int32), (0 : Int32), (0 : Int32), (0 : Int32), (0 : Int32), (0 : Int32), (0 : Int32), (0 : Int32), (0 : Int32), (0 : Int32), (0 : Int32), (0 : Int32)]) (i := (9 : Int32)) (Or.inr ⟨by decide, rfl⟩) (by decide), own_atp (p := (4 : Int32)) (L := own_pre [c0, c1, c2, c3, (0 : Int32), (0 : Int32), (0 : Int32), (0 : Int32), (0 : Int32), (0 : Int32), (0 : Int32), (0 : Int32), (0 : Int32), (0 : Int32), (0 : Int32), (0 : Int32)] (4 : Int32)) (L' := [c0, c1, c2, c3, (0 : Int32), (0 : Int32), (0 : Int32), (0 : Int32), (0 : Int32), (0 : Int32), (0 : Int32), (0 : Int32), (0 : Int32), (0 : Int32), (0 : Int32), (0 : Int32)]) (i := (10 : Int32)) (Or.inr ⟨by decide, rfl⟩) (by decide), own_atp (p := (4 : Int32)) (L := own_pre [c0, c1, c2, c3, (0 : Int32), (0 : Int32), (0 : Int32), (0 : Int32), (0 : Int32), (0 : Int32), (0 : Int32), (0 : Int32), (0 : Int32), (0 : Int32), (0 : Int32), (0 : Int32)] (4 : Int32)) (L' := [c0, c1, c2, c3, (0 : Int32), (0 : Int32), (0 : Int32), (0 : Int32), (0 : Int32), (0 : Int32), (0 : Int32), (0 : Int32), (0 : Int32), (0 : Int32), (0 : Int32), (0 : Int32)]) (i := (11 : Int32)) (Or.inr ⟨by decide, rfl⟩) (by decide), own_atp (p := (4 : Int32)) (L := own_pre [c0, c1, c2, c3, (0 : Int32), (0 : Int32), (0 : Int32), (0 : Int32), (0 : Int32), (0 : Int32), (0 : Int32), (0 : Int32), (0 : Int32), (0 : Int32), (0 : Int32), (0 : Int32)] (4 : Int32)) (L' := [c0, c1, c2, c3, (0 : Int32), (0 : Int32), (0 : Int32), (0 : Int32), (0 : Int32), (0 : Int32), (0 : Int32), (0 : Int32), (0 : Int32), (0 : Int32), (0 : Int32), (0 : Int32)]) (i := (12 : Int32)) (Or.inr ⟨by decide, rfl⟩) (by decide), own_atp (p := (4 : Int32)) (L := own_pre [c0, c1, c2, c3, (0 : Int32), (0 : Int32), (0 : Int32), (0 : Int32), (0 : Int32), (0 : Int32), (0 : Int32), (0 : Int32), (0 : Int32), (0 : Int32), (0 : Int32), (0 : Int32)] (4 : Int32)) (L' := [c0, c1, c2, c3, (0 : Int32), (0 : Int32), (0 : Int32), (0 : Int32), (0 : Int32), (0 : Int32), (0 : Int32), (0 : Int32), (0 : Int32), (0 : Int32), (0 : Int32), (0 : Int32)]) (i := (13 : Int32)) (Or.inr ⟨by decide, rfl⟩) (by decide), own_atp (p := (4 : Int32)) (L := own_pre [c0, c1, c2, c3, (0 : Int32), (0 : Int32), (0 : Int32), (0 : Int32), (0 : Int32), (0 : Int32), (0 : Int32), (0 : Int32), (0 : Int32), (0 : Int32), (0 : Int32), (0 : Int32)] (4 : Int32)) (L' := [c0, c1, c2, c3, (0 : Int32), (0 : Int32), (0 : Int32), (0 : Int32), (0 : Int32), (0 : Int32), (0 : Int32), (0 : Int32), (0 : Int32), (0 : Int32), (0 : Int32), (0 : Int32)]) (i := (14 : Int32)) (Or.inr ⟨by decide, rfl⟩) (by decide), own_atp (p := (4 : Int32)) (L := own_pre [c0, c1, c2, c3, (0 : Int32), (0 : Int32), (0 : Int32), (0 : Int32), (0 : Int32), (0 : Int32), (0 : Int32), (0 : Int32), (0 : Int32), (0 : Int32), (0 : Int32), (0 : Int32)] (4 : Int32)) (L' := [c0, c1, c2, c3, (0 : Int32), (0 : Int32), (0 : Int32), (0 : Int32), (0 : Int32), (0 : Int32), (0 : Int32), (0 : Int32), (0 : Int32), (0 : Int32), (0 : Int32), (0 : Int32)]) (i := (15 : Int32)) (Or.inr ⟨by decide, rfl⟩) (by decide)]
theorem own_pk8_8 (c0 c1 c2 c3 c4 c5 c6 c7 : Int32) : (fPk8 (8 : Int32) (own_pre [c0, c1, c2, c3, c4, c5, c6, c7, (0 : Int32), (0 : Int32), (0 : Int32), (0 : Int32), (0 : Int32), (0 : Int32), (0 : Int32), (0 : Int32)] (8 : Int32))) = (fPk8 (16 : Int32) [c0, c1, c2, c3, c4, c5, c6, c7, (0 : Int32), (0 : Int32), (0 : Int32), (0 : Int32), (0 : Int32), (0 : Int32), (0 : Int32), (0 : Int32)]) := by
  unfold fPk8; rw [own_atp (p := (8 : Int32)) (L := own_pre [c0, c1, c2, c3, c4, c5, c6, c7, (0 : Int32), (0 : Int32), (0 : Int32), (0 : Int32), (0 : Int32), (0 : Int32), (0 : Int32), (0 : Int32)] (8 : Int32)) (L' := [c0, c1, c2, c3, c4, c5, c6, c7, (0 : Int32), (0 : Int32), (0 : Int32), (0 : Int32), (0 : Int32), (0 : Int32), (0 : Int32), (0 : Int32)]) (i := (8 : Int32)) (Or.inr ⟨by decide, rfl⟩) (by decide), own_atp (p := (8 : Int32)) (L := own_pre [c0, c1, c2, c3, c4, c5, c6, c7, (0 : Int32), (0 : Int32), (0 : Int32), (0 : Int32), (0 : Int32), (0 : Int32), (0 : Int32), (0 : Int32)] (8 : Int32)) (L' := [c0, c1, c2, c3, c4, c5, c6, c7, (0 : Int32), (0 : Int32), (0 : Int32), (0 : Int32), (0 : Int32), (0 : Int32), (0 : Int32), (0 : Int32)]) (i := (9 : Int32)) (Or.inr ⟨by decide, rfl⟩) (by decide), own_atp (p := (8 : Int32)) (L := own_pre [c0, c1, c2, c3, c4, c5, c6, c7, (0 : Int32), (0 : Int32), (0 : Int32), (0 : Int32), (0 : Int32), (0 : Int32), (0 : Int32), (0 : Int32)] (8 : Int32)) (L' := [c0, c1, c2, c3, c4, c5, c6, c7, (0 : Int32), (0 : Int32), (0 : Int32), (0 : Int32), (0 : Int32), (0 : Int32), (0 : Int32), (0 : Int32)]) (i := (10 : Int32)) (Or.inr ⟨by decide, rfl⟩) (by decide), own_atp (p := (8 : Int32)) (L := own_pre [c0, c1, c2, c3, c4, c5, c6, c7, (0 : Int32), (0 : Int32), (0 : Int32), (0 : Int32), (0 : Int32), (0 : Int32), (0 : Int32), (0 : Int32)] (8 : Int32)) (L' := [c0, c1, c2, c3, c4, c5, c6, c7, (0 : Int32), (0 : Int32), (0 : Int32), (0 : Int32), (0 : Int32), (0 : Int32), (0 : Int32), (0 : Int32)]) (i := (11 : Int32)) (Or.inr ⟨by decide, rfl⟩) (by decide), own_atp (p := (8 : Int32)) (L := own_pre [c0, c1, c2, c3, c4, c5, c6, c7, (0 : Int32), (0 : Int32), (0 : Int32), (0 : Int32), (0 : Int32), (0 : Int32), (0 : Int32), (0 : Int32)] (8 : Int32)) (L' := [c0, c1, c2, c3, c4, c5, c6, c7, (0 : Int32), (0 : Int32), (0 : Int32), (0 : Int32), (0 : Int32), (0 : Int32), (0 : Int32), (0 : Int32)]) (i := (12 : Int32)) (Or.inr ⟨by decide, rfl⟩) (by decide), own_atp (p := (8 : Int32)) (L := own_pre [c0, c1, c2, c3, c4, c5, c6, c7, (0 : Int32), (0 : Int32), (0 : Int32), (0 : Int32), (0 : Int32), (0 : Int32), (0 : Int32), (0 : Int32)] (8 : Int32)) (L' := [c0, c1, c2, c3, c4, c5, c6, c7, (0 : Int32), (0 : Int32), (0 : Int32), (0 : Int32), (0 : Int32), (0 : Int32), (0 : Int32), (0 : Int32)]) (i := (13 : Int32)) (Or.inr ⟨by decide, rfl⟩) (by decide), own_atp (p := (8 : Int32)) (L := own_pre [c0, c1, c2, c3, c4, c5, c6, c7, (0 : Int32), (0 : Int32), (0 : Int32), (0 : Int32), (0 : Int32), (0 : Int32), (0 : Int32), (0 : Int32)] (8 : Int32)) (L' := [c0, c1, c2, c3, c4, c5, c6, c7, (0 : Int32), (0 : Int32), (0 : Int32), (0 : Int32), (0 : Int32), (0 : Int32), (0 : Int32), (0 : Int32)]) (i := (14 : Int32)) (Or.inr ⟨by decide, rfl⟩) (by decide), own_atp (p := (8 : Int32)) (L := own_pre [c0, c1, c2, c3, c4, c5, c6, c7, (0 : Int32), (0 : Int32), (0 : Int32), (0 : Int32), (0 : Int32), (0 : Int32), (0 : Int32), (0 : Int32)] (8 : Int32)) (L' := [c0, c1, c2, c3, c4, c5, c6, c7, (0 : Int32), (0 : Int32), (0 : Int32), (0 : Int32), (0 : Int32), (0 : Int32), (0 : Int32), (0 : Int32)]) (i := (15 : Int32)) (Or.inr ⟨by decide, rfl⟩) (by decide)]
theorem own_pk8_16 (c0 c1 c2 c3 c4 c5 c6 c7 c8 c9 c10 c11 c12 c13 c14 c15 : Int32) : (fPk8 (16 : Int32) (own_pre [c0, c1, c2, c3, c4, c5, c6, c7, c8, c9, c10, c11, c12, c13, c14, c15] (16 : Int32))) = (fPk8 (16 : Int32) [c0, c1, c2, c3, c4, c5, c6, c7, c8, c9, c10, c11, c12, c13, c14, c15]) := by
  rfl
theorem own_setB {Z : State} {h h' : Heap} {a : Addr} {k : ClassId} {z j x : Int32} {cl : Cell} {L : List Int32} (A : Arr Z h a cl .byte) (q1 : cl.cls = k) (S : cl.slots.size = z.toNatClampNeg) (q3 : ¬ z < 0) (H : Has cl (List.map Value.int L) (.int 0)) (G : ∀ i, i < cl.slots.size → fits .byte ((List.map Value.int L).getD i (.int 0)) = true) (W : Wr h h' a j.toNatClampNeg (.int (nar .byte x))) (hl : j.toNatClampNeg < L.length) :
    Arv Z h' a k .byte z (List.map Value.int (L.set j.toNatClampNeg (x.toInt8.toInt32))) (.int 0) := by
  have q := Arv.set A q1 S q3 H G (fits_nar_byte _) W j.toNatClampNeg rfl (by rw [List.length_map]; exact hl)
  rw [List.map_set]
  exact q
theorem own_prelen (L : List Int32) (z : Int32) : (own_pre L z).length = z.toNatClampNeg := by unfold own_pre; rw [List.length_map, List.length_range]
theorem own_jl {j z : Int32} (h : ¬ j < 0 ∧ j < z) : j.toNatClampNeg < z.toNatClampNeg := by
  obtain ⟨h1, h2⟩ := h
  rw [Int32.lt_iff_toInt_lt] at h1 h2
  have k : (0 : Int32).toInt = 0 := rfl
  show j.toInt.toNat < z.toInt.toNat
  omega
theorem own_m1 {z : Int32} (h : (0 : Int32) < z) : ¬ (z - (1 : Int32)) < 0 ∧ (z - (1 : Int32)) < z := by
  rw [Int32.lt_iff_toInt_lt] at h
  rw [Int32.lt_iff_toInt_lt, Int32.lt_iff_toInt_lt]
  have q := c_isub z 1
  have r := rng32 (z - 1)
  have r2 := rng32 z
  have k : (0 : Int32).toInt = 0 := rfl
  have k1 : (1 : Int32).toInt = 1 := rfl
  omega
theorem pd_7 : parseMethodDescriptor "()[B" = some ⟨[], some (.array .byte)⟩ := by decide +kernel
theorem pd_8 : parseMethodDescriptor "()I" = some ⟨[], some .int⟩ := by decide +kernel
theorem pd_9 : parseMethodDescriptor "([BI)J" = some ⟨[(.array .byte), .int], some .long⟩ := by decide +kernel
set_option maxRecDepth 65536 in
set_option maxHeartbeats 40000000 in
theorem node217 {p : Program} {l : Launch} {e : Env} {s : State} {m : MethodId} {args : Array Value} {below : List Frame} {meth : Method} {c : Code} {T0 : State} {locs : List Loc} {Z : State} {a0 : Array Value} {h0 : Heap} {n0 : Nat} (p0 : Int32) (p1 : Int32) (p2 : Int32) (q3 : Int64) (p4 : Int32) (v6 : Int32) (v7 : Int32) (v8 : Int32) (v9 : Int32) (oo : Addr) (b1 : Addr) (e1 : Addr) (kb : ClassId) (ke : ClassId) (zp : Int32) (L0 : List Int32) (L1 : List Int32)
    (X0 : Stand p l e room_1 s m args below meth c T0 locs 3 274) (hx : p.tables.exec = Jvm.exec) (hZ : Z.Warmed39 s.vm) (hw : ∀ d ∈ tables_1, d.before a0 Z = true) (hby : c.code = code) (hml : c.maxLocals = 15) (hown : s.vm.findClass "com/example/portcullis/portcullis/io/CdrOutputToByteArrayPinLaw" = some m.cls) (e0 : T0.heap = h0) (Z0 : n0 ≤ h0.size) (N0 : Fr n0 locs) (hlk : meth.locks = false) (hrt : meth.sig.returnType = some .boolean) (EX : Exa Z h0 oo "com/example/portcullis/portcullis/io/CdrOutput") (FB : Fld Z h0 oo "com/example/portcullis/portcullis/io/CdrOutput" "buffer" "[B" (.ref b1)) (FS : Fld Z h0 oo "com/example/portcullis/portcullis/io/CdrOutput" "size" "I" (.int zp)) (VB : Arv Z h0 b1 kb .byte (256 : Int32) (List.map Value.int L0) (.int (0 : Int32))) (VE : Arv Z h0 e1 ke .byte (16 : Int32) (List.map Value.int L1) (.int (0 : Int32))) (gO : n0 ≤ oo) (gB : n0 ≤ b1) (gE : n0 ≤ e1) (nob : oo ≠ b1) (noe : oo ≠ e1) (nbe : b1 ≠ e1) (hz0 : ¬ zp < (0 : Int32)) (hz1 : ¬ (16 : Int32) < zp) (hp0 : (fPk0 zp (own_pre L0 zp)) = (fPk0 (16 : Int32) L1)) (hp8 : (fPk8 zp (own_pre L0 zp)) = (fPk8 (16 : Int32) L1))
     : Go p e below (fun s₂ o => ∃ v L, o = .returned v ∧ Qx n0 v s₂.heap L ∧ FrameEnd s o s₂ L 24 704) (T0.setTop (mkF m 217 #[.val (.int p0), .val (.int p1), .val (.int p2), .val (.long q3), .second, .val (.int p4), .val (.int v6), .val (.int v7), .val (.int v8), .val (.int v9), .val (.ref oo), .val (.ref e1), .val (.int zp), .unset, .unset] [])) := by
  refine Go.st (U' := T0.setTop (mkF m 219 #[.val (.int p0), .val (.int p1), .val (.int p2), .val (.long q3), .second, .val (.int p4), .val (.int v6), .val (.int v7), .val (.int v8), .val (.int v9), .val (.ref oo), .val (.ref e1), .val (.int zp), .unset, .unset] [(.ref oo)])) (fun t k => ?_) ?_
  · refine XS.aload X0.here hx rfl (hb hby at_217) rfl rfl ?_
    exact k
  obtain ⟨cq482, kq482, q482a, q482b, q482c⟩ := isOf hZ e0 EX
  obtain ⟨_, _, ⟨T482, L482, k482, n482⟩, -, X482, ⟨Lc482, hQ482, l482, y482, z482⟩, st482⟩ := X0.virtualBack hx (y := own_y12) (z := own_y12) hown (mvT hZ (own_w hw 12 rfl)) (mvT hZ (own_w hw 13 rfl)) (notFace_of_selects (args := #[]) (mvT hZ (own_w hw 15 rfl))) (mvT hZ (own_w hw 15 rfl)) (mvT hZ (own_w hw 14 rfl)) (by decide) (backOf (W := 0) (rmt l Z a0 hw [] oo b1 kb zp L0 h0 n0 Z0 FB FS VB hz0 hz1) hZ (own_w hw 16 rfl) (own_w hw 2 rfl) (by decide) (by decide)) q482a q482c (g := (mkF m 219 #[.val (.int p0), .val (.int p1), .val (.int p2), .val (.long q3), .second, .val (.int p4), .val (.int v6), .val (.int v7), .val (.int v8), .val (.int v9), .val (.ref oo), .val (.ref e1), .val (.int zp), .unset, .unset] [(.ref oo)])) rfl (by rw [hml]; rfl) (Steps.refl _) (argsL := []) (rest := []) (lenOf pd_7 rfl) rfl (by show 2 * 0 + _ ≤ _; exact Nat.le_of_eq rfl) (hb hby at_219) (fun _ _ => ⟨rfl, e0, (by decide : 3 + 1 ≤ _), (by decide : 274 + 16 ≤ _)⟩)
  dsimp only [Pt.U, Pt.locs, Pt.cells, Pt.slots] at X482 l482 y482 z482 st482 hQ482
  subst l482 y482 z482
  obtain ⟨b482, rfl, N482q, K482, ge_b482, sb_b482, kk482, PA482⟩ := hQ482
  have ne_oo_b482 : oo ≠ b482 := Nat.ne_of_lt (Nat.lt_of_lt_of_le EX.lt sb_b482)
  have ne_b1_b482 : b1 ≠ b482 := Nat.ne_of_lt (Nat.lt_of_lt_of_le VB.lt sb_b482)
  have ne_e1_b482 : e1 ≠ b482 := Nat.ne_of_lt (Nat.lt_of_lt_of_le VE.lt sb_b482)
  have EX_482 := EX.keep K482
  have FB_482 := FB.keep K482 nin0
  have FS_482 := FS.keep K482 nin0
  have VB_482 := VB.keep K482 nin0
  have VE_482 := VE.keep K482 nin0
  have sz482 : n0 ≤ T482.heap.size := Nat.le_trans Z0 K482.1
  have N482 := Fr.app N0 N482q
  refine Go.tr (U' := T482.setTop (mkF m 222 #[.val (.int p0), .val (.int p1), .val (.int p2), .val (.long q3), .second, .val (.int p4), .val (.int v6), .val (.int v7), .val (.int v8), .val (.int v9), .val (.ref oo), .val (.ref e1), .val (.int zp), .unset, .unset] [(.ref b482)])) st482 ?_
  obtain ⟨cl483, Ar483, q483, S483, N483, H483, G483⟩ := id PA482
  refine Go.st (U' := T482.setTop (mkF m 234 #[.val (.int p0), .val (.int p1), .val (.int p2), .val (.long q3), .second, .val (.int p4), .val (.int v6), .val (.int v7), .val (.int v8), .val (.int v9), .val (.ref oo), .val (.ref e1), .val (.int zp), .val (.ref b482), .unset] [(.ref oo)])) (fun t k => ?_) ?_
  · refine XS.astore X482.here hx rfl (hb hby at_222) rfl rfl (l' := #[.val (.int p0), .val (.int p1), .val (.int p2), .val (.long q3), .second, .val (.int p4), .val (.int v6), .val (.int v7), .val (.int v8), .val (.int v9), .val (.ref oo), .val (.ref e1), .val (.int zp), .val (.ref b482), .unset]) rfl ?_
    refine XS.aload X482.here hx rfl (hb hby at_224) rfl rfl ?_
    refine X482.arraylength hx (Ar483.1) (State.isArrayOf_alike hZ.alike Ar483.2.1) (g := (mkF m 226 #[.val (.int p0), .val (.int p1), .val (.int p2), .val (.long q3), .second, .val (.int p4), .val (.int v6), .val (.int v7), .val (.int v8), .val (.int v9), .val (.ref oo), .val (.ref e1), .val (.int zp), .val (.ref b482), .unset] [(.ref b482)])) rfl rfl (hb hby at_226) _ ?_
    rw [len_of S483 N483]
    refine XS.iload X482.here hx rfl (hb hby at_227) rfl ?_
    refine XS.icmpNo X482.here hx rfl (hb hby at_229) rfl (teq (rfl : zp = zp)).2 ?_
    refine XS.aload X482.here hx rfl (hb hby at_232) rfl rfl ?_
    exact k
  obtain ⟨cq484, kq484, q484a, q484b, q484c⟩ := isOf hZ rfl EX_482
  obtain ⟨_, _, ⟨T484, L484, k484, n484⟩, -, X484, ⟨Lc484, hQ484, l484, y484, z484⟩, st484⟩ := X482.virtualBack hx (y := own_y13) (z := own_y13) hown (mvT hZ (own_w hw 31 rfl)) (mvT hZ (own_w hw 32 rfl)) (notFace_of_selects (args := #[]) (mvT hZ (own_w hw 34 rfl))) (mvT hZ (own_w hw 34 rfl)) (mvT hZ (own_w hw 33 rfl)) (by decide) (backOf (W := 0) (rmz l Z a0 hw [] oo zp T482.heap n0 sz482 FS_482) hZ (own_w hw 35 rfl) (own_w hw 2 rfl) (by decide) (by decide)) q484a q484c (g := (mkF m 234 #[.val (.int p0), .val (.int p1), .val (.int p2), .val (.long q3), .second, .val (.int p4), .val (.int v6), .val (.int v7), .val (.int v8), .val (.int v9), .val (.ref oo), .val (.ref e1), .val (.int zp), .val (.ref b482), .unset] [(.ref oo)])) rfl (by rw [hml]; rfl) (Steps.refl _) (argsL := []) (rest := []) (lenOf pd_8 rfl) rfl (by show 2 * 0 + _ ≤ _; exact Nat.le_of_eq rfl) (hb hby at_234) (fun _ _ => ⟨rfl, rfl, (by decide : 4 + 0 ≤ _), (by decide : 290 + 0 ≤ _)⟩)
  dsimp only [Pt.U, Pt.locs, Pt.cells, Pt.slots] at X484 l484 y484 z484 st484 hQ484
  subst l484 y484 z484
  obtain ⟨rfl, N484q, e484⟩ := hQ484
  have N484 := Fr.app N482 N484q
  refine Go.tr (U' := T484.setTop (mkF m 237 #[.val (.int p0), .val (.int p1), .val (.int p2), .val (.long q3), .second, .val (.int p4), .val (.int v6), .val (.int v7), .val (.int v8), .val (.int v9), .val (.ref oo), .val (.ref e1), .val (.int zp), .val (.ref b482), .unset] [(.int zp)])) st484 ?_
  refine Go.st (U' := T484.setTop (mkF m 247 #[.val (.int p0), .val (.int p1), .val (.int p2), .val (.long q3), .second, .val (.int p4), .val (.int v6), .val (.int v7), .val (.int v8), .val (.int v9), .val (.ref oo), .val (.ref e1), .val (.int zp), .val (.ref b482), .unset] [(.int (0 : Int32)), (.ref b482)])) (fun t k => ?_) ?_
  · refine XS.iload X484.here hx rfl (hb hby at_237) rfl ?_
    refine XS.icmpYes X484.here hx rfl (pc0 := 239) (pc' := 244) rfl (hb hby at_239) rfl (teq (rfl : zp = zp)).1 (by decide) (by decide) ?_
    refine XS.aload X484.here hx rfl (hb hby at_244) rfl rfl ?_
    refine XS.iconst X484.here hx rfl (hb hby at_246) ?_
    exact k
  obtain ⟨_, _, ⟨T485, L485, k485, n485⟩, -, X485, ⟨Lc485, hQ485, l485, y485, z485⟩, st485⟩ := Jvm.LawKit.callS X484 hx (y := own_y15) hown (mvT hZ (own_w hw 36 rfl)) (mvT hZ (own_w hw 37 rfl)) (mvT hZ (own_w hw 38 rfl)) (mvT hZ (own_w hw 39 rfl)) (by decide) (backOf (W := 0) (rmk0 l Z a0 hw [] b482 kk482 zp (own_pre L0 zp) T482.heap n0 sz482 PA482) hZ (own_w hw 39 rfl) (own_w hw 38 rfl) (by decide) (by decide)) (g := (mkF m 247 #[.val (.int p0), .val (.int p1), .val (.int p2), .val (.long q3), .second, .val (.int p4), .val (.int v6), .val (.int v7), .val (.int v8), .val (.int v9), .val (.ref oo), .val (.ref e1), .val (.int zp), .val (.ref b482), .unset] [(.int (0 : Int32)), (.ref b482)])) rfl (by rw [hml]; rfl) (argsL := [(.ref b482), (.int (0 : Int32))]) (rest := []) (lenOf pd_9 rfl) rfl (by show 2 * 0 + _ ≤ _; exact Nat.le_of_eq rfl) (hb hby at_247) (fun _ _ => ⟨rfl, e484, (by decide : 4 + 0 ≤ _), (by decide : 290 + 0 ≤ _)⟩)
  dsimp only [Pt.U, Pt.locs, Pt.cells, Pt.slots] at X485 l485 y485 z485 st485 hQ485
  subst l485 y485 z485
  obtain ⟨rfl, N485q, e485⟩ := hQ485
  have N485 := Fr.app N484 N485q
  refine Go.st (U' := T485.setTop (mkF m 250 #[.val (.int p0), .val (.int p1), .val (.int p2), .val (.long q3), .second, .val (.int p4), .val (.int v6), .val (.int v7), .val (.int v8), .val (.int v9), .val (.ref oo), .val (.ref e1), .val (.int zp), .val (.ref b482), .unset] [(.long (fPk0 zp (own_pre L0 zp)))])) (fun t k => st485 _ k) ?_
  refine Go.st (U' := T485.setTop (mkF m 253 #[.val (.int p0), .val (.int p1), .val (.int p2), .val (.long q3), .second, .val (.int p4), .val (.int v6), .val (.int v7), .val (.int v8), .val (.int v9), .val (.ref oo), .val (.ref e1), .val (.int zp), .val (.ref b482), .unset] [(.int (0 : Int32)), (.ref e1), (.long (fPk0 zp (own_pre L0 zp)))])) (fun t k => ?_) ?_
  · refine XS.aload X485.here hx rfl (hb hby at_250) rfl rfl ?_
    refine XS.iconst X485.here hx rfl (hb hby at_252) ?_
    exact k
  obtain ⟨_, _, ⟨T486, L486, k486, n486⟩, -, X486, ⟨Lc486, hQ486, l486, y486, z486⟩, st486⟩ := Jvm.LawKit.callS X485 hx (y := own_y15) hown (mvT hZ (own_w hw 36 rfl)) (mvT hZ (own_w hw 37 rfl)) (mvT hZ (own_w hw 38 rfl)) (mvT hZ (own_w hw 39 rfl)) (by decide) (backOf (W := 2) (rmk0 l Z a0 hw [] e1 ke (16 : Int32) L1 T482.heap n0 sz482 VE_482) hZ (own_w hw 39 rfl) (own_w hw 38 rfl) (by decide) (by decide)) (g := (mkF m 253 #[.val (.int p0), .val (.int p1), .val (.int p2), .val (.long q3), .second, .val (.int p4), .val (.int v6), .val (.int v7), .val (.int v8), .val (.int v9), .val (.ref oo), .val (.ref e1), .val (.int zp), .val (.ref b482), .unset] [(.int (0 : Int32)), (.ref e1), (.long (fPk0 zp (own_pre L0 zp)))])) rfl (by rw [hml]; rfl) (argsL := [(.ref e1), (.int (0 : Int32))]) (rest := [(.long (fPk0 zp (own_pre L0 zp)))]) (lenOf pd_9 rfl) rfl (by show 2 * 0 + _ ≤ _; exact Nat.le_of_eq rfl) (hb hby at_253) (fun _ _ => ⟨rfl, e485, (by decide : 4 + 0 ≤ _), (by decide : 290 + 0 ≤ _)⟩)
  dsimp only [Pt.U, Pt.locs, Pt.cells, Pt.slots] at X486 l486 y486 z486 st486 hQ486
  subst l486 y486 z486
  obtain ⟨rfl, N486q, e486⟩ := hQ486
  have N486 := Fr.app N485 N486q
  refine Go.st (U' := T486.setTop (mkF m 256 #[.val (.int p0), .val (.int p1), .val (.int p2), .val (.long q3), .second, .val (.int p4), .val (.int v6), .val (.int v7), .val (.int v8), .val (.int v9), .val (.ref oo), .val (.ref e1), .val (.int zp), .val (.ref b482), .unset] [(.long (fPk0 (16 : Int32) L1)), (.long (fPk0 zp (own_pre L0 zp)))])) (fun t k => st486 _ k) ?_
  refine Go.st (U' := T486.setTop (mkF m 264 #[.val (.int p0), .val (.int p1), .val (.int p2), .val (.long q3), .second, .val (.int p4), .val (.int v6), .val (.int v7), .val (.int v8), .val (.int v9), .val (.ref oo), .val (.ref e1), .val (.int zp), .val (.ref b482), .unset] [(.int (8 : Int32)), (.ref b482)])) (fun t k => ?_) ?_
  · refine XS.lcmp X486.here hx rfl (hb hby at_256) rfl ?_
    refine XS.ifNo X486.here hx rfl (hb hby at_257) rfl ((if0 _ _).trans (teq ((lw_eq _ _).mpr (hp0 : (fPk0 zp (own_pre L0 zp)) = (fPk0 (16 : Int32) L1)))).2) ?_
    refine XS.aload X486.here hx rfl (hb hby at_260) rfl rfl ?_
    refine XS.bipush X486.here hx rfl (hb hby at_262) ?_
    exact k
  obtain ⟨_, _, ⟨T487, L487, k487, n487⟩, -, X487, ⟨Lc487, hQ487, l487, y487, z487⟩, st487⟩ := Jvm.LawKit.callS X486 hx (y := own_y15) hown (mvT hZ (own_w hw 36 rfl)) (mvT hZ (own_w hw 37 rfl)) (mvT hZ (own_w hw 38 rfl)) (mvT hZ (own_w hw 39 rfl)) (by decide) (backOf (W := 0) (rmk8 l Z a0 hw [] b482 kk482 zp (own_pre L0 zp) T482.heap n0 sz482 PA482) hZ (own_w hw 39 rfl) (own_w hw 38 rfl) (by decide) (by decide)) (g := (mkF m 264 #[.val (.int p0), .val (.int p1), .val (.int p2), .val (.long q3), .second, .val (.int p4), .val (.int v6), .val (.int v7), .val (.int v8), .val (.int v9), .val (.ref oo), .val (.ref e1), .val (.int zp), .val (.ref b482), .unset] [(.int (8 : Int32)), (.ref b482)])) rfl (by rw [hml]; rfl) (argsL := [(.ref b482), (.int (8 : Int32))]) (rest := []) (lenOf pd_9 rfl) rfl (by show 2 * 0 + _ ≤ _; exact Nat.le_of_eq rfl) (hb hby at_264) (fun _ _ => ⟨rfl, e486, (by decide : 4 + 0 ≤ _), (by decide : 290 + 0 ≤ _)⟩)
  dsimp only [Pt.U, Pt.locs, Pt.cells, Pt.slots] at X487 l487 y487 z487 st487 hQ487
  subst l487 y487 z487
  obtain ⟨rfl, N487q, e487⟩ := hQ487
  have N487 := Fr.app N486 N487q
  refine Go.st (U' := T487.setTop (mkF m 267 #[.val (.int p0), .val (.int p1), .val (.int p2), .val (.long q3), .second, .val (.int p4), .val (.int v6), .val (.int v7), .val (.int v8), .val (.int v9), .val (.ref oo), .val (.ref e1), .val (.int zp), .val (.ref b482), .unset] [(.long (fPk8 zp (own_pre L0 zp)))])) (fun t k => st487 _ k) ?_
  refine Go.st (U' := T487.setTop (mkF m 271 #[.val (.int p0), .val (.int p1), .val (.int p2), .val (.long q3), .second, .val (.int p4), .val (.int v6), .val (.int v7), .val (.int v8), .val (.int v9), .val (.ref oo), .val (.ref e1), .val (.int zp), .val (.ref b482), .unset] [(.int (8 : Int32)), (.ref e1), (.long (fPk8 zp (own_pre L0 zp)))])) (fun t k => ?_) ?_
  · refine XS.aload X487.here hx rfl (hb hby at_267) rfl rfl ?_
    refine XS.bipush X487.here hx rfl (hb hby at_269) ?_
    exact k
  obtain ⟨_, _, ⟨T488, L488, k488, n488⟩, -, X488, ⟨Lc488, hQ488, l488, y488, z488⟩, st488⟩ := Jvm.LawKit.callS X487 hx (y := own_y15) hown (mvT hZ (own_w hw 36 rfl)) (mvT hZ (own_w hw 37 rfl)) (mvT hZ (own_w hw 38 rfl)) (mvT hZ (own_w hw 39 rfl)) (by decide) (backOf (W := 2) (rmk8 l Z a0 hw [] e1 ke (16 : Int32) L1 T482.heap n0 sz482 VE_482) hZ (own_w hw 39 rfl) (own_w hw 38 rfl) (by decide) (by decide)) (g := (mkF m 271 #[.val (.int p0), .val (.int p1), .val (.int p2), .val (.long q3), .second, .val (.int p4), .val (.int v6), .val (.int v7), .val (.int v8), .val (.int v9), .val (.ref oo), .val (.ref e1), .val (.int zp), .val (.ref b482), .unset] [(.int (8 : Int32)), (.ref e1), (.long (fPk8 zp (own_pre L0 zp)))])) rfl (by rw [hml]; rfl) (argsL := [(.ref e1), (.int (8 : Int32))]) (rest := [(.long (fPk8 zp (own_pre L0 zp)))]) (lenOf pd_9 rfl) rfl (by show 2 * 0 + _ ≤ _; exact Nat.le_of_eq rfl) (hb hby at_271) (fun _ _ => ⟨rfl, e487, (by decide : 4 + 0 ≤ _), (by decide : 290 + 0 ≤ _)⟩)
  dsimp only [Pt.U, Pt.locs, Pt.cells, Pt.slots] at X488 l488 y488 z488 st488 hQ488
  subst l488 y488 z488
  obtain ⟨rfl, N488q, e488⟩ := hQ488
  have N488 := Fr.app N487 N488q
  refine Go.st (U' := T488.setTop (mkF m 274 #[.val (.int p0), .val (.int p1), .val (.int p2), .val (.long q3), .second, .val (.int p4), .val (.int v6), .val (.int v7), .val (.int v8), .val (.int v9), .val (.ref oo), .val (.ref e1), .val (.int zp), .val (.ref b482), .unset] [(.long (fPk8 (16 : Int32) L1)), (.long (fPk8 zp (own_pre L0 zp)))])) (fun t k => st488 _ k) ?_
  refine Go.st (U' := T488.setTop (mkF m 282 #[.val (.int p0), .val (.int p1), .val (.int p2), .val (.long q3), .second, .val (.int p4), .val (.int v6), .val (.int v7), .val (.int v8), .val (.int v9), .val (.ref oo), .val (.ref e1), .val (.int zp), .val (.ref b482), .unset] [(.int zp)])) (fun t k => ?_) ?_
  · refine XS.lcmp X488.here hx rfl (hb hby at_274) rfl ?_
    refine XS.ifYes X488.here hx rfl (pc0 := 275) (pc' := 280) rfl (hb hby at_275) rfl ((if0 _ _).trans (teq ((lw_eq _ _).mpr (hp8 : (fPk8 zp (own_pre L0 zp)) = (fPk8 (16 : Int32) L1)))).1) (by decide) (by decide) ?_
    refine XS.iload X488.here hx rfl (hb hby at_280) rfl ?_
    exact k
  by_cases hc489 : (0 : Int32) < zp
  · refine Go.st (U' := T488.setTop (mkF m 295 #[.val (.int p0), .val (.int p1), .val (.int p2), .val (.long q3), .second, .val (.int p4), .val (.int v6), .val (.int v7), .val (.int v8), .val (.int v9), .val (.ref oo), .val (.ref e1), .val (.int zp), .val (.ref b482), .unset] [(.int ((((own_pre L0 zp).getD ((0 : Int32)).toNatClampNeg (0 : Int32)) ^^^ (1 : Int32)).toInt8.toInt32)), (.int (0 : Int32)), (.ref b482)])) (fun t k => ?_) ?_
    · refine XS.ifNo X488.here hx rfl (hb hby at_282) rfl ((if0 _ _).trans (tlt hc489).2.2.2) ?_
      refine XS.aload X488.here hx rfl (hb hby at_285) rfl rfl ?_
      refine XS.iconst X488.here hx rfl (hb hby at_287) ?_
      refine XS.aload X488.here hx rfl (hb hby at_288) rfl rfl ?_
      refine XS.iconst X488.here hx rfl (hb hby at_290) ?_
      refine X488.baloadBytes hx (j := (0 : Int32)) (v := (.int ((own_pre L0 zp).getD ((0 : Int32)).toNatClampNeg (0 : Int32)))) (by rw [e488]; exact Ar483.1) (State.isArrayOf_alike hZ.alike Ar483.2.1) Ar483.2.2 (inb_of (j := (0 : Int32)) S483 ⟨by decide, hc489⟩) (Has.at H483 (inb_of (j := (0 : Int32)) S483 ⟨by decide, hc489⟩) (own_getI (own_pre L0 zp) _)) (g := (mkF m 291 #[.val (.int p0), .val (.int p1), .val (.int p2), .val (.long q3), .second, .val (.int p4), .val (.int v6), .val (.int v7), .val (.int v8), .val (.int v9), .val (.ref oo), .val (.ref e1), .val (.int zp), .val (.ref b482), .unset] [(.int (0 : Int32)), (.ref b482), (.int (0 : Int32)), (.ref b482)])) rfl rfl (hb hby at_291) _ ?_
      refine XS.iconst X488.here hx rfl (hb hby at_292) ?_
      refine XS.ixor X488.here hx rfl (hb hby at_293) rfl ?_
      refine XS.i2b X488.here hx rfl (hb hby at_294) rfl ?_
      exact k
    obtain ⟨T490, h490, X490, e490, W490, st490⟩ := stB X488 hx hZ e488 Ar483 (j := (0 : Int32)) (inb_of (j := (0 : Int32)) S483 ⟨by decide, hc489⟩) (g := (mkF m 295 #[.val (.int p0), .val (.int p1), .val (.int p2), .val (.long q3), .second, .val (.int p4), .val (.int v6), .val (.int v7), .val (.int v8), .val (.int v9), .val (.ref oo), .val (.ref e1), .val (.int zp), .val (.ref b482), .unset] [(.int ((((own_pre L0 zp).getD ((0 : Int32)).toNatClampNeg (0 : Int32)) ^^^ (1 : Int32)).toInt8.toInt32)), (.int (0 : Int32)), (.ref b482)])) rfl rfl (hb hby at_295)
    have VR_490 := own_setB Ar483 q483 S483 N483 H483 G483 W490 (by rw [own_prelen]; exact own_jl ⟨by decide, hc489⟩)
    have EX_490 := EX_482.wr W490
    have FB_490 := FB_482.other W490 (Or.inl ne_oo_b482)
    have FS_490 := FS_482.other W490 (Or.inl ne_oo_b482)
    have VB_490 := VB_482.other W490 ne_b1_b482
    have VE_490 := VE_482.other W490 ne_e1_b482
    have N490 := Fr.snoc X490 N488 ge_b482
    have sz490 : n0 ≤ h490.size := Nat.le_trans sz482 (Nat.le_of_eq W490.size.symm)
    refine Go.st (U' := T490.setTop (mkF m 296 #[.val (.int p0), .val (.int p1), .val (.int p2), .val (.long q3), .second, .val (.int p4), .val (.int v6), .val (.int v7), .val (.int v8), .val (.int v9), .val (.ref oo), .val (.ref e1), .val (.int zp), .val (.ref b482), .unset] [])) (fun t k => st490 _ k) ?_
    obtain ⟨cl491, Ar491, q491, S491, N491, H491, G491⟩ := id VR_490
    refine Go.st (U' := T490.setTop (mkF m 314 #[.val (.int p0), .val (.int p1), .val (.int p2), .val (.long q3), .second, .val (.int p4), .val (.int v6), .val (.int v7), .val (.int v8), .val (.int v9), .val (.ref oo), .val (.ref e1), .val (.int zp), .val (.ref b482), .unset] [(.int (((((own_pre L0 zp).set ((0 : Int32)).toNatClampNeg (((((own_pre L0 zp).getD ((0 : Int32)).toNatClampNeg (0 : Int32)) ^^^ (1 : Int32)).toInt8.toInt32).toInt8.toInt32)).getD ((zp - (1 : Int32))).toNatClampNeg (0 : Int32)) ^^^ (128 : Int32)).toInt8.toInt32)), (.int (zp - (1 : Int32))), (.ref b482)])) (fun t k => ?_) ?_
    · refine XS.aload X490.here hx rfl (hb hby at_296) rfl rfl ?_
      refine XS.iload X490.here hx rfl (hb hby at_298) rfl ?_
      refine XS.iconst X490.here hx rfl (hb hby at_300) ?_
      refine XS.isub X490.here hx rfl (hb hby at_301) rfl ?_
      refine XS.aload X490.here hx rfl (hb hby at_302) rfl rfl ?_
      refine XS.iload X490.here hx rfl (hb hby at_304) rfl ?_
      refine XS.iconst X490.here hx rfl (hb hby at_306) ?_
      refine XS.isub X490.here hx rfl (hb hby at_307) rfl ?_
      refine X490.baloadBytes hx (j := (zp - (1 : Int32))) (v := (.int (((own_pre L0 zp).set ((0 : Int32)).toNatClampNeg (((((own_pre L0 zp).getD ((0 : Int32)).toNatClampNeg (0 : Int32)) ^^^ (1 : Int32)).toInt8.toInt32).toInt8.toInt32)).getD ((zp - (1 : Int32))).toNatClampNeg (0 : Int32)))) (by rw [e490]; exact Ar491.1) (State.isArrayOf_alike hZ.alike Ar491.2.1) Ar491.2.2 (inb_of (j := (zp - (1 : Int32))) S491 (own_m1 hc489)) (Has.at H491 (inb_of (j := (zp - (1 : Int32))) S491 (own_m1 hc489)) (own_getI ((own_pre L0 zp).set ((0 : Int32)).toNatClampNeg (((((own_pre L0 zp).getD ((0 : Int32)).toNatClampNeg (0 : Int32)) ^^^ (1 : Int32)).toInt8.toInt32).toInt8.toInt32)) _)) (g := (mkF m 308 #[.val (.int p0), .val (.int p1), .val (.int p2), .val (.long q3), .second, .val (.int p4), .val (.int v6), .val (.int v7), .val (.int v8), .val (.int v9), .val (.ref oo), .val (.ref e1), .val (.int zp), .val (.ref b482), .unset] [(.int (zp - (1 : Int32))), (.ref b482), (.int (zp - (1 : Int32))), (.ref b482)])) rfl rfl (hb hby at_308) _ ?_
      refine XS.sipush X490.here hx rfl (hb hby at_309) ?_
      refine XS.ixor X490.here hx rfl (hb hby at_312) rfl ?_
      refine XS.i2b X490.here hx rfl (hb hby at_313) rfl ?_
      exact k
    obtain ⟨T492, h492, X492, e492, W492, st492⟩ := stB X490 hx hZ e490 Ar491 (j := (zp - (1 : Int32))) (inb_of (j := (zp - (1 : Int32))) S491 (own_m1 hc489)) (g := (mkF m 314 #[.val (.int p0), .val (.int p1), .val (.int p2), .val (.long q3), .second, .val (.int p4), .val (.int v6), .val (.int v7), .val (.int v8), .val (.int v9), .val (.ref oo), .val (.ref e1), .val (.int zp), .val (.ref b482), .unset] [(.int (((((own_pre L0 zp).set ((0 : Int32)).toNatClampNeg (((((own_pre L0 zp).getD ((0 : Int32)).toNatClampNeg (0 : Int32)) ^^^ (1 : Int32)).toInt8.toInt32).toInt8.toInt32)).getD ((zp - (1 : Int32))).toNatClampNeg (0 : Int32)) ^^^ (128 : Int32)).toInt8.toInt32)), (.int (zp - (1 : Int32))), (.ref b482)])) rfl rfl (hb hby at_314)
    have VR_492 := own_setB Ar491 q491 S491 N491 H491 G491 W492 (by rw [List.length_set, own_prelen]; exact own_jl (own_m1 hc489))
    have EX_492 := EX_490.wr W492
    have FB_492 := FB_490.other W492 (Or.inl ne_oo_b482)
    have FS_492 := FS_490.other W492 (Or.inl ne_oo_b482)
    have VB_492 := VB_490.other W492 ne_b1_b482
    have VE_492 := VE_490.other W492 ne_e1_b482
    have N492 := Fr.snoc X492 N490 ge_b482
    have sz492 : n0 ≤ h492.size := Nat.le_trans sz490 (Nat.le_of_eq W492.size.symm)
    refine Go.st (U' := T492.setTop (mkF m 315 #[.val (.int p0), .val (.int p1), .val (.int p2), .val (.long q3), .second, .val (.int p4), .val (.int v6), .val (.int v7), .val (.int v8), .val (.int v9), .val (.ref oo), .val (.ref e1), .val (.int zp), .val (.ref b482), .unset] [])) (fun t k => st492 _ k) ?_
    refine Go.st (U' := T492.setTop (mkF m 317 #[.val (.int p0), .val (.int p1), .val (.int p2), .val (.long q3), .second, .val (.int p4), .val (.int v6), .val (.int v7), .val (.int v8), .val (.int v9), .val (.ref oo), .val (.ref e1), .val (.int zp), .val (.ref b482), .unset] [(.ref oo)])) (fun t k => ?_) ?_
    · refine XS.aload X492.here hx rfl (hb hby at_315) rfl rfl ?_
      exact k
    obtain ⟨cq493, kq493, q493a, q493b, q493c⟩ := isOf hZ e492 EX_492
    obtain ⟨_, _, ⟨T493, L493, k493, n493⟩, -, X493, ⟨Lc493, hQ493, l493, y493, z493⟩, st493⟩ := X492.virtualBack hx (y := own_y12) (z := own_y12) hown (mvT hZ (own_w hw 12 rfl)) (mvT hZ (own_w hw 13 rfl)) (notFace_of_selects (args := #[]) (mvT hZ (own_w hw 15 rfl))) (mvT hZ (own_w hw 15 rfl)) (mvT hZ (own_w hw 14 rfl)) (by decide) (backOf (W := 0) (rmt l Z a0 hw [] oo b1 kb zp L0 h492 n0 sz492 FB_492 FS_492 VB_492 hz0 hz1) hZ (own_w hw 16 rfl) (own_w hw 2 rfl) (by decide) (by decide)) q493a q493c (g := (mkF m 317 #[.val (.int p0), .val (.int p1), .val (.int p2), .val (.long q3), .second, .val (.int p4), .val (.int v6), .val (.int v7), .val (.int v8), .val (.int v9), .val (.ref oo), .val (.ref e1), .val (.int zp), .val (.ref b482), .unset] [(.ref oo)])) rfl (by rw [hml]; rfl) (Steps.refl _) (argsL := []) (rest := []) (lenOf pd_7 rfl) rfl (by show 2 * 0 + _ ≤ _; exact Nat.le_of_eq rfl) (hb hby at_317) (fun _ _ => ⟨rfl, e492, (by decide : 4 + 1 ≤ _), (by decide : 290 + 16 ≤ _)⟩)
    dsimp only [Pt.U, Pt.locs, Pt.cells, Pt.slots] at X493 l493 y493 z493 st493 hQ493
    subst l493 y493 z493
    obtain ⟨b493, rfl, N493q, K493, ge_b493, sb_b493, kk493, PA493⟩ := hQ493
    have ne_oo_b493 : oo ≠ b493 := Nat.ne_of_lt (Nat.lt_of_lt_of_le EX_492.lt sb_b493)
    have ne_b1_b493 : b1 ≠ b493 := Nat.ne_of_lt (Nat.lt_of_lt_of_le VB_492.lt sb_b493)
    have ne_e1_b493 : e1 ≠ b493 := Nat.ne_of_lt (Nat.lt_of_lt_of_le VE_492.lt sb_b493)
    have ne_b482_b493 : b482 ≠ b493 := Nat.ne_of_lt (Nat.lt_of_lt_of_le VR_492.lt sb_b493)
    have EX_493 := EX_492.keep K493
    have FB_493 := FB_492.keep K493 nin0
    have FS_493 := FS_492.keep K493 nin0
    have VB_493 := VB_492.keep K493 nin0
    have VE_493 := VE_492.keep K493 nin0
    have VR_493 := VR_492.keep K493 nin0
    have sz493 : n0 ≤ T493.heap.size := Nat.le_trans sz492 K493.1
    have N493 := Fr.app N492 N493q
    refine Go.tr (U' := T493.setTop (mkF m 320 #[.val (.int p0), .val (.int p1), .val (.int p2), .val (.long q3), .second, .val (.int p4), .val (.int v6), .val (.int v7), .val (.int v8), .val (.int v9), .val (.ref oo), .val (.ref e1), .val (.int zp), .val (.ref b482), .unset] [(.ref b493)])) st493 ?_
    obtain ⟨cl494, Ar494, q494, S494, N494, H494, G494⟩ := id PA493
    refine Go.st (U' := T493.setTop (mkF m 333 #[.val (.int p0), .val (.int p1), .val (.int p2), .val (.long q3), .second, .val (.int p4), .val (.int v6), .val (.int v7), .val (.int v8), .val (.int v9), .val (.ref oo), .val (.ref e1), .val (.int zp), .val (.ref b482), .val (.ref b493)] [(.int (0 : Int32)), (.ref b493)])) (fun t k => ?_) ?_
    · refine XS.astore X493.here hx rfl (hb hby at_320) rfl rfl (l' := #[.val (.int p0), .val (.int p1), .val (.int p2), .val (.long q3), .second, .val (.int p4), .val (.int v6), .val (.int v7), .val (.int v8), .val (.int v9), .val (.ref oo), .val (.ref e1), .val (.int zp), .val (.ref b482), .val (.ref b493)]) rfl ?_
      refine XS.aload X493.here hx rfl (hb hby at_322) rfl rfl ?_
      refine X493.arraylength hx (Ar494.1) (State.isArrayOf_alike hZ.alike Ar494.2.1) (g := (mkF m 324 #[.val (.int p0), .val (.int p1), .val (.int p2), .val (.long q3), .second, .val (.int p4), .val (.int v6), .val (.int v7), .val (.int v8), .val (.int v9), .val (.ref oo), .val (.ref e1), .val (.int zp), .val (.ref b482), .val (.ref b493)] [(.ref b493)])) rfl rfl (hb hby at_324) _ ?_
      rw [len_of S494 N494]
      refine XS.iload X493.here hx rfl (hb hby at_325) rfl ?_
      refine XS.icmpNo X493.here hx rfl (hb hby at_327) rfl (teq (rfl : zp = zp)).2 ?_
      refine XS.aload X493.here hx rfl (hb hby at_330) rfl rfl ?_
      refine XS.iconst X493.here hx rfl (hb hby at_332) ?_
      exact k
    obtain ⟨_, _, ⟨T495, L495, k495, n495⟩, -, X495, ⟨Lc495, hQ495, l495, y495, z495⟩, st495⟩ := Jvm.LawKit.callS X493 hx (y := own_y15) hown (mvT hZ (own_w hw 36 rfl)) (mvT hZ (own_w hw 37 rfl)) (mvT hZ (own_w hw 38 rfl)) (mvT hZ (own_w hw 39 rfl)) (by decide) (backOf (W := 0) (rmk0 l Z a0 hw [] b493 kk493 zp (own_pre L0 zp) T493.heap n0 sz493 PA493) hZ (own_w hw 39 rfl) (own_w hw 38 rfl) (by decide) (by decide)) (g := (mkF m 333 #[.val (.int p0), .val (.int p1), .val (.int p2), .val (.long q3), .second, .val (.int p4), .val (.int v6), .val (.int v7), .val (.int v8), .val (.int v9), .val (.ref oo), .val (.ref e1), .val (.int zp), .val (.ref b482), .val (.ref b493)] [(.int (0 : Int32)), (.ref b493)])) rfl (by rw [hml]; rfl) (argsL := [(.ref b493), (.int (0 : Int32))]) (rest := []) (lenOf pd_9 rfl) rfl (by show 2 * 0 + _ ≤ _; exact Nat.le_of_eq rfl) (hb hby at_333) (fun _ _ => ⟨rfl, rfl, (by decide : 5 + 0 ≤ _), (by decide : 306 + 0 ≤ _)⟩)
    dsimp only [Pt.U, Pt.locs, Pt.cells, Pt.slots] at X495 l495 y495 z495 st495 hQ495
    subst l495 y495 z495
    obtain ⟨rfl, N495q, e495⟩ := hQ495
    have N495 := Fr.app N493 N495q
    refine Go.st (U' := T495.setTop (mkF m 336 #[.val (.int p0), .val (.int p1), .val (.int p2), .val (.long q3), .second, .val (.int p4), .val (.int v6), .val (.int v7), .val (.int v8), .val (.int v9), .val (.ref oo), .val (.ref e1), .val (.int zp), .val (.ref b482), .val (.ref b493)] [(.long (fPk0 zp (own_pre L0 zp)))])) (fun t k => st495 _ k) ?_
    refine Go.st (U' := T495.setTop (mkF m 339 #[.val (.int p0), .val (.int p1), .val (.int p2), .val (.long q3), .second, .val (.int p4), .val (.int v6), .val (.int v7), .val (.int v8), .val (.int v9), .val (.ref oo), .val (.ref e1), .val (.int zp), .val (.ref b482), .val (.ref b493)] [(.int (0 : Int32)), (.ref e1), (.long (fPk0 zp (own_pre L0 zp)))])) (fun t k => ?_) ?_
    · refine XS.aload X495.here hx rfl (hb hby at_336) rfl rfl ?_
      refine XS.iconst X495.here hx rfl (hb hby at_338) ?_
      exact k
    obtain ⟨_, _, ⟨T496, L496, k496, n496⟩, -, X496, ⟨Lc496, hQ496, l496, y496, z496⟩, st496⟩ := Jvm.LawKit.callS X495 hx (y := own_y15) hown (mvT hZ (own_w hw 36 rfl)) (mvT hZ (own_w hw 37 rfl)) (mvT hZ (own_w hw 38 rfl)) (mvT hZ (own_w hw 39 rfl)) (by decide) (backOf (W := 2) (rmk0 l Z a0 hw [] e1 ke (16 : Int32) L1 T493.heap n0 sz493 VE_493) hZ (own_w hw 39 rfl) (own_w hw 38 rfl) (by decide) (by decide)) (g := (mkF m 339 #[.val (.int p0), .val (.int p1), .val (.int p2), .val (.long q3), .second, .val (.int p4), .val (.int v6), .val (.int v7), .val (.int v8), .val (.int v9), .val (.ref oo), .val (.ref e1), .val (.int zp), .val (.ref b482), .val (.ref b493)] [(.int (0 : Int32)), (.ref e1), (.long (fPk0 zp (own_pre L0 zp)))])) rfl (by rw [hml]; rfl) (argsL := [(.ref e1), (.int (0 : Int32))]) (rest := [(.long (fPk0 zp (own_pre L0 zp)))]) (lenOf pd_9 rfl) rfl (by show 2 * 0 + _ ≤ _; exact Nat.le_of_eq rfl) (hb hby at_339) (fun _ _ => ⟨rfl, e495, (by decide : 5 + 0 ≤ _), (by decide : 306 + 0 ≤ _)⟩)
    dsimp only [Pt.U, Pt.locs, Pt.cells, Pt.slots] at X496 l496 y496 z496 st496 hQ496
    subst l496 y496 z496
    obtain ⟨rfl, N496q, e496⟩ := hQ496
    have N496 := Fr.app N495 N496q
    refine Go.st (U' := T496.setTop (mkF m 342 #[.val (.int p0), .val (.int p1), .val (.int p2), .val (.long q3), .second, .val (.int p4), .val (.int v6), .val (.int v7), .val (.int v8), .val (.int v9), .val (.ref oo), .val (.ref e1), .val (.int zp), .val (.ref b482), .val (.ref b493)] [(.long (fPk0 (16 : Int32) L1)), (.long (fPk0 zp (own_pre L0 zp)))])) (fun t k => st496 _ k) ?_
    refine Go.st (U' := T496.setTop (mkF m 350 #[.val (.int p0), .val (.int p1), .val (.int p2), .val (.long q3), .second, .val (.int p4), .val (.int v6), .val (.int v7), .val (.int v8), .val (.int v9), .val (.ref oo), .val (.ref e1), .val (.int zp), .val (.ref b482), .val (.ref b493)] [(.int (8 : Int32)), (.ref b493)])) (fun t k => ?_) ?_
    · refine XS.lcmp X496.here hx rfl (hb hby at_342) rfl ?_
      refine XS.ifNo X496.here hx rfl (hb hby at_343) rfl ((if0 _ _).trans (teq ((lw_eq _ _).mpr (hp0 : (fPk0 zp (own_pre L0 zp)) = (fPk0 (16 : Int32) L1)))).2) ?_
      refine XS.aload X496.here hx rfl (hb hby at_346) rfl rfl ?_
      refine XS.bipush X496.here hx rfl (hb hby at_348) ?_
      exact k
    obtain ⟨_, _, ⟨T497, L497, k497, n497⟩, -, X497, ⟨Lc497, hQ497, l497, y497, z497⟩, st497⟩ := Jvm.LawKit.callS X496 hx (y := own_y15) hown (mvT hZ (own_w hw 36 rfl)) (mvT hZ (own_w hw 37 rfl)) (mvT hZ (own_w hw 38 rfl)) (mvT hZ (own_w hw 39 rfl)) (by decide) (backOf (W := 0) (rmk8 l Z a0 hw [] b493 kk493 zp (own_pre L0 zp) T493.heap n0 sz493 PA493) hZ (own_w hw 39 rfl) (own_w hw 38 rfl) (by decide) (by decide)) (g := (mkF m 350 #[.val (.int p0), .val (.int p1), .val (.int p2), .val (.long q3), .second, .val (.int p4), .val (.int v6), .val (.int v7), .val (.int v8), .val (.int v9), .val (.ref oo), .val (.ref e1), .val (.int zp), .val (.ref b482), .val (.ref b493)] [(.int (8 : Int32)), (.ref b493)])) rfl (by rw [hml]; rfl) (argsL := [(.ref b493), (.int (8 : Int32))]) (rest := []) (lenOf pd_9 rfl) rfl (by show 2 * 0 + _ ≤ _; exact Nat.le_of_eq rfl) (hb hby at_350) (fun _ _ => ⟨rfl, e496, (by decide : 5 + 0 ≤ _), (by decide : 306 + 0 ≤ _)⟩)
    dsimp only [Pt.U, Pt.locs, Pt.cells, Pt.slots] at X497 l497 y497 z497 st497 hQ497
    subst l497 y497 z497
    obtain ⟨rfl, N497q, e497⟩ := hQ497
    have N497 := Fr.app N496 N497q
    refine Go.st (U' := T497.setTop (mkF m 353 #[.val (.int p0), .val (.int p1), .val (.int p2), .val (.long q3), .second, .val (.int p4), .val (.int v6), .val (.int v7), .val (.int v8), .val (.int v9), .val (.ref oo), .val (.ref e1), .val (.int zp), .val (.ref b482), .val (.ref b493)] [(.long (fPk8 zp (own_pre L0 zp)))])) (fun t k => st497 _ k) ?_
    refine Go.st (U' := T497.setTop (mkF m 357 #[.val (.int p0), .val (.int p1), .val (.int p2), .val (.long q3), .second, .val (.int p4), .val (.int v6), .val (.int v7), .val (.int v8), .val (.int v9), .val (.ref oo), .val (.ref e1), .val (.int zp), .val (.ref b482), .val (.ref b493)] [(.int (8 : Int32)), (.ref e1), (.long (fPk8 zp (own_pre L0 zp)))])) (fun t k => ?_) ?_
    · refine XS.aload X497.here hx rfl (hb hby at_353) rfl rfl ?_
      refine XS.bipush X497.here hx rfl (hb hby at_355) ?_
      exact k
    obtain ⟨_, _, ⟨T498, L498, k498, n498⟩, -, X498, ⟨Lc498, hQ498, l498, y498, z498⟩, st498⟩ := Jvm.LawKit.callS X497 hx (y := own_y15) hown (mvT hZ (own_w hw 36 rfl)) (mvT hZ (own_w hw 37 rfl)) (mvT hZ (own_w hw 38 rfl)) (mvT hZ (own_w hw 39 rfl)) (by decide) (backOf (W := 2) (rmk8 l Z a0 hw [] e1 ke (16 : Int32) L1 T493.heap n0 sz493 VE_493) hZ (own_w hw 39 rfl) (own_w hw 38 rfl) (by decide) (by decide)) (g := (mkF m 357 #[.val (.int p0), .val (.int p1), .val (.int p2), .val (.long q3), .second, .val (.int p4), .val (.int v6), .val (.int v7), .val (.int v8), .val (.int v9), .val (.ref oo), .val (.ref e1), .val (.int zp), .val (.ref b482), .val (.ref b493)] [(.int (8 : Int32)), (.ref e1), (.long (fPk8 zp (own_pre L0 zp)))])) rfl (by rw [hml]; rfl) (argsL := [(.ref e1), (.int (8 : Int32))]) (rest := [(.long (fPk8 zp (own_pre L0 zp)))]) (lenOf pd_9 rfl) rfl (by show 2 * 0 + _ ≤ _; exact Nat.le_of_eq rfl) (hb hby at_357) (fun _ _ => ⟨rfl, e497, (by decide : 5 + 0 ≤ _), (by decide : 306 + 0 ≤ _)⟩)
    dsimp only [Pt.U, Pt.locs, Pt.cells, Pt.slots] at X498 l498 y498 z498 st498 hQ498
    subst l498 y498 z498
    obtain ⟨rfl, N498q, e498⟩ := hQ498
    have N498 := Fr.app N497 N498q
    refine Go.st (U' := T498.setTop (mkF m 360 #[.val (.int p0), .val (.int p1), .val (.int p2), .val (.long q3), .second, .val (.int p4), .val (.int v6), .val (.int v7), .val (.int v8), .val (.int v9), .val (.ref oo), .val (.ref e1), .val (.int zp), .val (.ref b482), .val (.ref b493)] [(.long (fPk8 (16 : Int32) L1)), (.long (fPk8 zp (own_pre L0 zp)))])) (fun t k => st498 _ k) ?_
    refine Go.st (U' := T498.setTop (mkF m 369 #[.val (.int p0), .val (.int p1), .val (.int p2), .val (.long q3), .second, .val (.int p4), .val (.int v6), .val (.int v7), .val (.int v8), .val (.int v9), .val (.ref oo), .val (.ref e1), .val (.int zp), .val (.ref b482), .val (.ref b493)] [(.int (1 : Int32))])) (fun t k => ?_) ?_
    · refine XS.lcmp X498.here hx rfl (hb hby at_360) rfl ?_
      refine XS.ifNo X498.here hx rfl (hb hby at_361) rfl ((if0 _ _).trans (teq ((lw_eq _ _).mpr (hp8 : (fPk8 zp (own_pre L0 zp)) = (fPk8 (16 : Int32) L1)))).2) ?_
      refine XS.iconst X498.here hx rfl (hb hby at_364) ?_
      refine XS.goto X498.here hx rfl (pc0 := 365) (pc' := 369) rfl (hb hby at_365) (by decide) (by decide) ?_
      exact k
    refine own_ret (Q := Qx n0) (v := some (.int (1 : Int32))) X498 hlk (fun h => by rw [hrt] at h; cases h) (by decide) (by decide) ?_ (fun fs hr => retN X498 hx (t := .boolean) hrt (by simp) (hb hby at_369) hr)
    rw [e498]
    exact ⟨rfl, N498⟩
  · refine Go.st (U' := T488.setTop (mkF m 317 #[.val (.int p0), .val (.int p1), .val (.int p2), .val (.long q3), .second, .val (.int p4), .val (.int v6), .val (.int v7), .val (.int v8), .val (.int v9), .val (.ref oo), .val (.ref e1), .val (.int zp), .val (.ref b482), .unset] [(.ref oo)])) (fun t k => ?_) ?_
    · refine XS.ifYes X488.here hx rfl (pc0 := 282) (pc' := 315) rfl (hb hby at_282) rfl ((if0 _ _).trans (flt hc489).2.2.2) (by decide) (by decide) ?_
      refine XS.aload X488.here hx rfl (hb hby at_315) rfl rfl ?_
      exact k
    obtain ⟨cq499, kq499, q499a, q499b, q499c⟩ := isOf hZ e488 EX_482
    obtain ⟨_, _, ⟨T499, L499, k499, n499⟩, -, X499, ⟨Lc499, hQ499, l499, y499, z499⟩, st499⟩ := X488.virtualBack hx (y := own_y12) (z := own_y12) hown (mvT hZ (own_w hw 12 rfl)) (mvT hZ (own_w hw 13 rfl)) (notFace_of_selects (args := #[]) (mvT hZ (own_w hw 15 rfl))) (mvT hZ (own_w hw 15 rfl)) (mvT hZ (own_w hw 14 rfl)) (by decide) (backOf (W := 0) (rmt l Z a0 hw [] oo b1 kb zp L0 T482.heap n0 sz482 FB_482 FS_482 VB_482 hz0 hz1) hZ (own_w hw 16 rfl) (own_w hw 2 rfl) (by decide) (by decide)) q499a q499c (g := (mkF m 317 #[.val (.int p0), .val (.int p1), .val (.int p2), .val (.long q3), .second, .val (.int p4), .val (.int v6), .val (.int v7), .val (.int v8), .val (.int v9), .val (.ref oo), .val (.ref e1), .val (.int zp), .val (.ref b482), .unset] [(.ref oo)])) rfl (by rw [hml]; rfl) (Steps.refl _) (argsL := []) (rest := []) (lenOf pd_7 rfl) rfl (by show 2 * 0 + _ ≤ _; exact Nat.le_of_eq rfl) (hb hby at_317) (fun _ _ => ⟨rfl, e488, (by decide : 4 + 1 ≤ _), (by decide : 290 + 16 ≤ _)⟩)
    dsimp only [Pt.U, Pt.locs, Pt.cells, Pt.slots] at X499 l499 y499 z499 st499 hQ499
    subst l499 y499 z499
    obtain ⟨b499, rfl, N499q, K499, ge_b499, sb_b499, kk499, PA499⟩ := hQ499
    have ne_oo_b499 : oo ≠ b499 := Nat.ne_of_lt (Nat.lt_of_lt_of_le EX_482.lt sb_b499)
    have ne_b1_b499 : b1 ≠ b499 := Nat.ne_of_lt (Nat.lt_of_lt_of_le VB_482.lt sb_b499)
    have ne_e1_b499 : e1 ≠ b499 := Nat.ne_of_lt (Nat.lt_of_lt_of_le VE_482.lt sb_b499)
    have ne_b482_b499 : b482 ≠ b499 := Nat.ne_of_lt (Nat.lt_of_lt_of_le PA482.lt sb_b499)
    have EX_499 := EX_482.keep K499
    have FB_499 := FB_482.keep K499 nin0
    have FS_499 := FS_482.keep K499 nin0
    have VB_499 := VB_482.keep K499 nin0
    have VE_499 := VE_482.keep K499 nin0
    have PA482_499 := PA482.keep K499 nin0
    have sz499 : n0 ≤ T499.heap.size := Nat.le_trans sz482 K499.1
    have N499 := Fr.app N488 N499q
    refine Go.tr (U' := T499.setTop (mkF m 320 #[.val (.int p0), .val (.int p1), .val (.int p2), .val (.long q3), .second, .val (.int p4), .val (.int v6), .val (.int v7), .val (.int v8), .val (.int v9), .val (.ref oo), .val (.ref e1), .val (.int zp), .val (.ref b482), .unset] [(.ref b499)])) st499 ?_
    obtain ⟨cl500, Ar500, q500, S500, N500, H500, G500⟩ := id PA499
    refine Go.st (U' := T499.setTop (mkF m 333 #[.val (.int p0), .val (.int p1), .val (.int p2), .val (.long q3), .second, .val (.int p4), .val (.int v6), .val (.int v7), .val (.int v8), .val (.int v9), .val (.ref oo), .val (.ref e1), .val (.int zp), .val (.ref b482), .val (.ref b499)] [(.int (0 : Int32)), (.ref b499)])) (fun t k => ?_) ?_
    · refine XS.astore X499.here hx rfl (hb hby at_320) rfl rfl (l' := #[.val (.int p0), .val (.int p1), .val (.int p2), .val (.long q3), .second, .val (.int p4), .val (.int v6), .val (.int v7), .val (.int v8), .val (.int v9), .val (.ref oo), .val (.ref e1), .val (.int zp), .val (.ref b482), .val (.ref b499)]) rfl ?_
      refine XS.aload X499.here hx rfl (hb hby at_322) rfl rfl ?_
      refine X499.arraylength hx (Ar500.1) (State.isArrayOf_alike hZ.alike Ar500.2.1) (g := (mkF m 324 #[.val (.int p0), .val (.int p1), .val (.int p2), .val (.long q3), .second, .val (.int p4), .val (.int v6), .val (.int v7), .val (.int v8), .val (.int v9), .val (.ref oo), .val (.ref e1), .val (.int zp), .val (.ref b482), .val (.ref b499)] [(.ref b499)])) rfl rfl (hb hby at_324) _ ?_
      rw [len_of S500 N500]
      refine XS.iload X499.here hx rfl (hb hby at_325) rfl ?_
      refine XS.icmpNo X499.here hx rfl (hb hby at_327) rfl (teq (rfl : zp = zp)).2 ?_
      refine XS.aload X499.here hx rfl (hb hby at_330) rfl rfl ?_
      refine XS.iconst X499.here hx rfl (hb hby at_332) ?_
      exact k
    obtain ⟨_, _, ⟨T501, L501, k501, n501⟩, -, X501, ⟨Lc501, hQ501, l501, y501, z501⟩, st501⟩ := Jvm.LawKit.callS X499 hx (y := own_y15) hown (mvT hZ (own_w hw 36 rfl)) (mvT hZ (own_w hw 37 rfl)) (mvT hZ (own_w hw 38 rfl)) (mvT hZ (own_w hw 39 rfl)) (by decide) (backOf (W := 0) (rmk0 l Z a0 hw [] b499 kk499 zp (own_pre L0 zp) T499.heap n0 sz499 PA499) hZ (own_w hw 39 rfl) (own_w hw 38 rfl) (by decide) (by decide)) (g := (mkF m 333 #[.val (.int p0), .val (.int p1), .val (.int p2), .val (.long q3), .second, .val (.int p4), .val (.int v6), .val (.int v7), .val (.int v8), .val (.int v9), .val (.ref oo), .val (.ref e1), .val (.int zp), .val (.ref b482), .val (.ref b499)] [(.int (0 : Int32)), (.ref b499)])) rfl (by rw [hml]; rfl) (argsL := [(.ref b499), (.int (0 : Int32))]) (rest := []) (lenOf pd_9 rfl) rfl (by show 2 * 0 + _ ≤ _; exact Nat.le_of_eq rfl) (hb hby at_333) (fun _ _ => ⟨rfl, rfl, (by decide : 5 + 0 ≤ _), (by decide : 306 + 0 ≤ _)⟩)
    dsimp only [Pt.U, Pt.locs, Pt.cells, Pt.slots] at X501 l501 y501 z501 st501 hQ501
    subst l501 y501 z501
    obtain ⟨rfl, N501q, e501⟩ := hQ501
    have N501 := Fr.app N499 N501q
    refine Go.st (U' := T501.setTop (mkF m 336 #[.val (.int p0), .val (.int p1), .val (.int p2), .val (.long q3), .second, .val (.int p4), .val (.int v6), .val (.int v7), .val (.int v8), .val (.int v9), .val (.ref oo), .val (.ref e1), .val (.int zp), .val (.ref b482), .val (.ref b499)] [(.long (fPk0 zp (own_pre L0 zp)))])) (fun t k => st501 _ k) ?_
    refine Go.st (U' := T501.setTop (mkF m 339 #[.val (.int p0), .val (.int p1), .val (.int p2), .val (.long q3), .second, .val (.int p4), .val (.int v6), .val (.int v7), .val (.int v8), .val (.int v9), .val (.ref oo), .val (.ref e1), .val (.int zp), .val (.ref b482), .val (.ref b499)] [(.int (0 : Int32)), (.ref e1), (.long (fPk0 zp (own_pre L0 zp)))])) (fun t k => ?_) ?_
    · refine XS.aload X501.here hx rfl (hb hby at_336) rfl rfl ?_
      refine XS.iconst X501.here hx rfl (hb hby at_338) ?_
      exact k
    obtain ⟨_, _, ⟨T502, L502, k502, n502⟩, -, X502, ⟨Lc502, hQ502, l502, y502, z502⟩, st502⟩ := Jvm.LawKit.callS X501 hx (y := own_y15) hown (mvT hZ (own_w hw 36 rfl)) (mvT hZ (own_w hw 37 rfl)) (mvT hZ (own_w hw 38 rfl)) (mvT hZ (own_w hw 39 rfl)) (by decide) (backOf (W := 2) (rmk0 l Z a0 hw [] e1 ke (16 : Int32) L1 T499.heap n0 sz499 VE_499) hZ (own_w hw 39 rfl) (own_w hw 38 rfl) (by decide) (by decide)) (g := (mkF m 339 #[.val (.int p0), .val (.int p1), .val (.int p2), .val (.long q3), .second, .val (.int p4), .val (.int v6), .val (.int v7), .val (.int v8), .val (.int v9), .val (.ref oo), .val (.ref e1), .val (.int zp), .val (.ref b482), .val (.ref b499)] [(.int (0 : Int32)), (.ref e1), (.long (fPk0 zp (own_pre L0 zp)))])) rfl (by rw [hml]; rfl) (argsL := [(.ref e1), (.int (0 : Int32))]) (rest := [(.long (fPk0 zp (own_pre L0 zp)))]) (lenOf pd_9 rfl) rfl (by show 2 * 0 + _ ≤ _; exact Nat.le_of_eq rfl) (hb hby at_339) (fun _ _ => ⟨rfl, e501, (by decide : 5 + 0 ≤ _), (by decide : 306 + 0 ≤ _)⟩)
    dsimp only [Pt.U, Pt.locs, Pt.cells, Pt.slots] at X502 l502 y502 z502 st502 hQ502
    subst l502 y502 z502
    obtain ⟨rfl, N502q, e502⟩ := hQ502
    have N502 := Fr.app N501 N502q
    refine Go.st (U' := T502.setTop (mkF m 342 #[.val (.int p0), .val (.int p1), .val (.int p2), .val (.long q3), .second, .val (.int p4), .val (.int v6), .val (.int v7), .val (.int v8), .val (.int v9), .val (.ref oo), .val (.ref e1), .val (.int zp), .val (.ref b482), .val (.ref b499)] [(.long (fPk0 (16 : Int32) L1)), (.long (fPk0 zp (own_pre L0 zp)))])) (fun t k => st502 _ k) ?_
    refine Go.st (U' := T502.setTop (mkF m 350 #[.val (.int p0), .val (.int p1), .val (.int p2), .val (.long q3), .second, .val (.int p4), .val (.int v6), .val (.int v7), .val (.int v8), .val (.int v9), .val (.ref oo), .val (.ref e1), .val (.int zp), .val (.ref b482), .val (.ref b499)] [(.int (8 : Int32)), (.ref b499)])) (fun t k => ?_) ?_
    · refine XS.lcmp X502.here hx rfl (hb hby at_342) rfl ?_
      refine XS.ifNo X502.here hx rfl (hb hby at_343) rfl ((if0 _ _).trans (teq ((lw_eq _ _).mpr (hp0 : (fPk0 zp (own_pre L0 zp)) = (fPk0 (16 : Int32) L1)))).2) ?_
      refine XS.aload X502.here hx rfl (hb hby at_346) rfl rfl ?_
      refine XS.bipush X502.here hx rfl (hb hby at_348) ?_
      exact k
    obtain ⟨_, _, ⟨T503, L503, k503, n503⟩, -, X503, ⟨Lc503, hQ503, l503, y503, z503⟩, st503⟩ := Jvm.LawKit.callS X502 hx (y := own_y15) hown (mvT hZ (own_w hw 36 rfl)) (mvT hZ (own_w hw 37 rfl)) (mvT hZ (own_w hw 38 rfl)) (mvT hZ (own_w hw 39 rfl)) (by decide) (backOf (W := 0) (rmk8 l Z a0 hw [] b499 kk499 zp (own_pre L0 zp) T499.heap n0 sz499 PA499) hZ (own_w hw 39 rfl) (own_w hw 38 rfl) (by decide) (by decide)) (g := (mkF m 350 #[.val (.int p0), .val (.int p1), .val (.int p2), .val (.long q3), .second, .val (.int p4), .val (.int v6), .val (.int v7), .val (.int v8), .val (.int v9), .val (.ref oo), .val (.ref e1), .val (.int zp), .val (.ref b482), .val (.ref b499)] [(.int (8 : Int32)), (.ref b499)])) rfl (by rw [hml]; rfl) (argsL := [(.ref b499), (.int (8 : Int32))]) (rest := []) (lenOf pd_9 rfl) rfl (by show 2 * 0 + _ ≤ _; exact Nat.le_of_eq rfl) (hb hby at_350) (fun _ _ => ⟨rfl, e502, (by decide : 5 + 0 ≤ _), (by decide : 306 + 0 ≤ _)⟩)
    dsimp only [Pt.U, Pt.locs, Pt.cells, Pt.slots] at X503 l503 y503 z503 st503 hQ503
    subst l503 y503 z503
    obtain ⟨rfl, N503q, e503⟩ := hQ503
    have N503 := Fr.app N502 N503q
    refine Go.st (U' := T503.setTop (mkF m 353 #[.val (.int p0), .val (.int p1), .val (.int p2), .val (.long q3), .second, .val (.int p4), .val (.int v6), .val (.int v7), .val (.int v8), .val (.int v9), .val (.ref oo), .val (.ref e1), .val (.int zp), .val (.ref b482), .val (.ref b499)] [(.long (fPk8 zp (own_pre L0 zp)))])) (fun t k => st503 _ k) ?_
    refine Go.st (U' := T503.setTop (mkF m 357 #[.val (.int p0), .val (.int p1), .val (.int p2), .val (.long q3), .second, .val (.int p4), .val (.int v6), .val (.int v7), .val (.int v8), .val (.int v9), .val (.ref oo), .val (.ref e1), .val (.int zp), .val (.ref b482), .val (.ref b499)] [(.int (8 : Int32)), (.ref e1), (.long (fPk8 zp (own_pre L0 zp)))])) (fun t k => ?_) ?_
    · refine XS.aload X503.here hx rfl (hb hby at_353) rfl rfl ?_
      refine XS.bipush X503.here hx rfl (hb hby at_355) ?_
      exact k
    obtain ⟨_, _, ⟨T504, L504, k504, n504⟩, -, X504, ⟨Lc504, hQ504, l504, y504, z504⟩, st504⟩ := Jvm.LawKit.callS X503 hx (y := own_y15) hown (mvT hZ (own_w hw 36 rfl)) (mvT hZ (own_w hw 37 rfl)) (mvT hZ (own_w hw 38 rfl)) (mvT hZ (own_w hw 39 rfl)) (by decide) (backOf (W := 2) (rmk8 l Z a0 hw [] e1 ke (16 : Int32) L1 T499.heap n0 sz499 VE_499) hZ (own_w hw 39 rfl) (own_w hw 38 rfl) (by decide) (by decide)) (g := (mkF m 357 #[.val (.int p0), .val (.int p1), .val (.int p2), .val (.long q3), .second, .val (.int p4), .val (.int v6), .val (.int v7), .val (.int v8), .val (.int v9), .val (.ref oo), .val (.ref e1), .val (.int zp), .val (.ref b482), .val (.ref b499)] [(.int (8 : Int32)), (.ref e1), (.long (fPk8 zp (own_pre L0 zp)))])) rfl (by rw [hml]; rfl) (argsL := [(.ref e1), (.int (8 : Int32))]) (rest := [(.long (fPk8 zp (own_pre L0 zp)))]) (lenOf pd_9 rfl) rfl (by show 2 * 0 + _ ≤ _; exact Nat.le_of_eq rfl) (hb hby at_357) (fun _ _ => ⟨rfl, e503, (by decide : 5 + 0 ≤ _), (by decide : 306 + 0 ≤ _)⟩)
    dsimp only [Pt.U, Pt.locs, Pt.cells, Pt.slots] at X504 l504 y504 z504 st504 hQ504
    subst l504 y504 z504
    obtain ⟨rfl, N504q, e504⟩ := hQ504
    have N504 := Fr.app N503 N504q
    refine Go.st (U' := T504.setTop (mkF m 360 #[.val (.int p0), .val (.int p1), .val (.int p2), .val (.long q3), .second, .val (.int p4), .val (.int v6), .val (.int v7), .val (.int v8), .val (.int v9), .val (.ref oo), .val (.ref e1), .val (.int zp), .val (.ref b482), .val (.ref b499)] [(.long (fPk8 (16 : Int32) L1)), (.long (fPk8 zp (own_pre L0 zp)))])) (fun t k => st504 _ k) ?_
    refine Go.st (U' := T504.setTop (mkF m 369 #[.val (.int p0), .val (.int p1), .val (.int p2), .val (.long q3), .second, .val (.int p4), .val (.int v6), .val (.int v7), .val (.int v8), .val (.int v9), .val (.ref oo), .val (.ref e1), .val (.int zp), .val (.ref b482), .val (.ref b499)] [(.int (1 : Int32))])) (fun t k => ?_) ?_
    · refine XS.lcmp X504.here hx rfl (hb hby at_360) rfl ?_
      refine XS.ifNo X504.here hx rfl (hb hby at_361) rfl ((if0 _ _).trans (teq ((lw_eq _ _).mpr (hp8 : (fPk8 zp (own_pre L0 zp)) = (fPk8 (16 : Int32) L1)))).2) ?_
      refine XS.iconst X504.here hx rfl (hb hby at_364) ?_
      refine XS.goto X504.here hx rfl (pc0 := 365) (pc' := 369) rfl (hb hby at_365) (by decide) (by decide) ?_
      exact k
    refine own_ret (Q := Qx n0) (v := some (.int (1 : Int32))) X504 hlk (fun h => by rw [hrt] at h; cases h) (by decide) (by decide) ?_ (fun fs hr => retN X504 hx (t := .boolean) hrt (by simp) (hb hby at_369) hr)
    rw [e504]
    exact ⟨rfl, N504⟩
theorem pd_10 : parseMethodDescriptor "(J)V" = some ⟨[.long], none⟩ := by decide +kernel
theorem pd_11 : parseMethodDescriptor "([BII)V" = some ⟨[(.array .byte), .int, .int], none⟩ := by decide +kernel
set_option maxRecDepth 65536 in
set_option maxHeartbeats 40000000 in
theorem node170_0 {p : Program} {l : Launch} {e : Env} {s : State} {m : MethodId} {args : Array Value} {below : List Frame} {meth : Method} {c : Code} {T0 : State} {locs : List Loc} {Z : State} {a0 : Array Value} {h0 : Heap} {n0 : Nat} (p0 : Int32) (p1 : Int32) (p2 : Int32) (q3 : Int64) (p4 : Int32) (v6 : Int32) (v7 : Int32) (v8 : Int32) (v9 : Int32) (oo : Addr) (b1 : Addr) (e1 : Addr) (kb : ClassId) (ke : ClassId)
    (X0 : Stand p l e room_1 s m args below meth c T0 locs 3 274) (hx : p.tables.exec = Jvm.exec) (hZ : Z.Warmed39 s.vm) (hw : ∀ d ∈ tables_1, d.before a0 Z = true) (hby : c.code = code) (hml : c.maxLocals = 15) (hown : s.vm.findClass "com/example/portcullis/portcullis/io/CdrOutputToByteArrayPinLaw" = some m.cls) (e0 : T0.heap = h0) (Z0 : n0 ≤ h0.size) (N0 : Fr n0 locs) (hlk : meth.locks = false) (hrt : meth.sig.returnType = some .boolean) (EX : Exa Z h0 oo "com/example/portcullis/portcullis/io/CdrOutput") (FB : Fld Z h0 oo "com/example/portcullis/portcullis/io/CdrOutput" "buffer" "[B" (.ref b1)) (FS : Fld Z h0 oo "com/example/portcullis/portcullis/io/CdrOutput" "size" "I" (.int (0 : Int32))) (VB : Arv Z h0 b1 kb .byte (256 : Int32) [(.int (0 : Int32)), (.int (0 : Int32)), (.int (0 : Int32)), (.int (0 : Int32)), (.int (0 : Int32)), (.int (0 : Int32)), (.int (0 : Int32)), (.int (0 : Int32)), (.int (0 : Int32)), (.int (0 : Int32)), (.int (0 : Int32)), (.int (0 : Int32)), (.int (0 : Int32)), (.int (0 : Int32)), (.int (0 : Int32)), (.int (0 : Int32))] (.int (0 : Int32))) (VE : Arv Z h0 e1 ke .byte (16 : Int32) [(.int (0 : Int32)), (.int (0 : Int32)), (.int (0 : Int32)), (.int (0 : Int32)), (.int (0 : Int32)), (.int (0 : Int32)), (.int (0 : Int32)), (.int (0 : Int32)), (.int (0 : Int32)), (.int (0 : Int32)), (.int (0 : Int32)), (.int (0 : Int32)), (.int (0 : Int32)), (.int (0 : Int32)), (.int (0 : Int32)), (.int (0 : Int32))] (.int (0 : Int32))) (gO : n0 ≤ oo) (gB : n0 ≤ b1) (gE : n0 ≤ e1) (nob : oo ≠ b1) (noe : oo ≠ e1) (nbe : b1 ≠ e1)
     : Go p e below (fun s₂ o => ∃ v L, o = .returned v ∧ Qx n0 v s₂.heap L ∧ FrameEnd s o s₂ L 24 704) (T0.setTop (mkF m 170 #[.val (.int p0), .val (.int p1), .val (.int p2), .val (.long q3), .second, .val (.int p4), .val (.int v6), .val (.int v7), .val (.int v8), .val (.int v9), .val (.ref oo), .val (.ref e1), .val (.int (0 : Int32)), .unset, .unset] [])) := by
  refine Go.st (U' := T0.setTop (mkF m 172 #[.val (.int p0), .val (.int p1), .val (.int p2), .val (.long q3), .second, .val (.int p4), .val (.int v6), .val (.int v7), .val (.int v8), .val (.int v9), .val (.ref oo), .val (.ref e1), .val (.int (0 : Int32)), .unset, .unset] [(.int v9)])) (fun t k => ?_) ?_
  · refine XS.iload X0.here hx rfl (hb hby at_170) rfl ?_
    exact k
  by_cases hc505 : v9 = (0 : Int32)
  · refine Go.st (U' := T0.setTop (mkF m 217 #[.val (.int p0), .val (.int p1), .val (.int p2), .val (.long q3), .second, .val (.int p4), .val (.int v6), .val (.int v7), .val (.int v8), .val (.int v9), .val (.ref oo), .val (.ref e1), .val (.int (0 : Int32)), .unset, .unset] [])) (fun t k => ?_) ?_
    · refine XS.ifYes X0.here hx rfl (pc0 := 172) (pc' := 217) rfl (hb hby at_172) rfl ((if0 _ _).trans (teq hc505).1) (by decide) (by decide) ?_
      exact k
    exact node217 p0 p1 p2 q3 p4 v6 v7 v8 v9 oo b1 e1 kb ke (0 : Int32) [(0 : Int32), (0 : Int32), (0 : Int32), (0 : Int32), (0 : Int32), (0 : Int32), (0 : Int32), (0 : Int32), (0 : Int32), (0 : Int32), (0 : Int32), (0 : Int32), (0 : Int32), (0 : Int32), (0 : Int32), (0 : Int32)] [(0 : Int32), (0 : Int32), (0 : Int32), (0 : Int32), (0 : Int32), (0 : Int32), (0 : Int32), (0 : Int32), (0 : Int32), (0 : Int32), (0 : Int32), (0 : Int32), (0 : Int32), (0 : Int32), (0 : Int32), (0 : Int32)] X0 hx hZ hw hby hml hown e0 Z0 N0 hlk hrt EX FB FS VB VE gO gB gE nob noe nbe (by decide) (by decide) (own_pk0_0 ) (own_pk8_0 )
  · refine Go.st (U' := T0.setTop (mkF m 178 #[.val (.int p0), .val (.int p1), .val (.int p2), .val (.long q3), .second, .val (.int p4), .val (.int v6), .val (.int v7), .val (.int v8), .val (.int v9), .val (.ref oo), .val (.ref e1), .val (.int (0 : Int32)), .unset, .unset] [(.long q3), (.ref oo)])) (fun t k => ?_) ?_
    · refine XS.ifNo X0.here hx rfl (hb hby at_172) rfl ((if0 _ _).trans (feq hc505).1) ?_
      refine XS.aload X0.here hx rfl (hb hby at_175) rfl rfl ?_
      refine XS.lloadN X0.here hx rfl (hb hby at_177) rfl ?_
      exact k
    obtain ⟨cq506, kq506, q506a, q506b, q506c⟩ := isOf hZ e0 EX
    obtain ⟨_, _, ⟨T506, L506, k506, n506⟩, -, X506, ⟨Lc506, hQ506, l506, y506, z506⟩, st506⟩ := X0.virtualBack hx (y := own_y9) (z := own_y9) hown (mvT hZ (own_w hw 68 rfl)) (mvT hZ (own_w hw 69 rfl)) (notFace_of_selects (args := #[]) (mvT hZ (own_w hw 71 rfl))) (mvT hZ (own_w hw 71 rfl)) (mvT hZ (own_w hw 70 rfl)) (by decide) (backOf (W := 0) (rml0 l Z a0 hw [] oo b1 kb (0 : Int32) (0 : Int32) (0 : Int32) (0 : Int32) (0 : Int32) (0 : Int32) (0 : Int32) (0 : Int32) (0 : Int32) (0 : Int32) (0 : Int32) (0 : Int32) (0 : Int32) (0 : Int32) (0 : Int32) (0 : Int32) q3 h0 n0 Z0 EX FB FS VB gO gB nob) hZ (own_w hw 72 rfl) (own_w hw 2 rfl) (by decide) (by decide)) q506a q506c (g := (mkF m 178 #[.val (.int p0), .val (.int p1), .val (.int p2), .val (.long q3), .second, .val (.int p4), .val (.int v6), .val (.int v7), .val (.int v8), .val (.int v9), .val (.ref oo), .val (.ref e1), .val (.int (0 : Int32)), .unset, .unset] [(.long q3), (.ref oo)])) rfl (by rw [hml]; rfl) (Steps.refl _) (argsL := [(.long q3)]) (rest := []) (lenOf pd_10 rfl) rfl (by show 2 * 0 + _ ≤ _; exact Nat.le_of_eq rfl) (hb hby at_178) (fun _ _ => ⟨rfl, e0, (by decide : 3 + 0 ≤ _), (by decide : 274 + 0 ≤ _)⟩)
    dsimp only [Pt.U, Pt.locs, Pt.cells, Pt.slots] at X506 l506 y506 z506 st506 hQ506
    subst l506 y506 z506
    obtain ⟨rfl, N506q, K506, PE506, PV506, PZ506, PA506⟩ := hQ506
    have EX_506 := EX.keep K506
    have VE_506 := VE.keep K506 (ninS (Ne.symm noe) (ninS (Ne.symm nbe) nin0))
    have sz506 : n0 ≤ T506.heap.size := Nat.le_trans Z0 K506.1
    have N506 := Fr.app N0 N506q
    refine Go.tr (U' := T506.setTop (mkF m 181 #[.val (.int p0), .val (.int p1), .val (.int p2), .val (.long q3), .second, .val (.int p4), .val (.int v6), .val (.int v7), .val (.int v8), .val (.int v9), .val (.ref oo), .val (.ref e1), .val (.int (0 : Int32)), .unset, .unset] [])) st506 ?_
    refine Go.st (U' := T506.setTop (mkF m 200 #[.val (.int p0), .val (.int p1), .val (.int p2), .val (.long q3), .second, .val (.int p4), .val (.int v6), .val (.int v7), .val (.int v8), .val (.int v9), .val (.ref oo), .val (.ref e1), .val (.int (0 : Int32)), .unset, .unset] [(.int (((q3.toUInt64 >>> ((32 : Int32) &&& 0x3f).toInt64.toUInt64).toInt64).toInt32)), (.int (0 : Int32)), (.ref e1)])) (fun t k => ?_) ?_
    · refine XS.iload X506.here hx rfl (hb hby at_181) rfl ?_
      refine XS.bipush X506.here hx rfl (hb hby at_183) ?_
      refine XS.iadd X506.here hx rfl (hb hby at_185) rfl ?_
      refine XS.bipush X506.here hx rfl (hb hby at_186) ?_
      refine XS.iand X506.here hx rfl (hb hby at_188) rfl ?_
      refine XS.istore X506.here hx rfl (hb hby at_189) rfl (l' := #[.val (.int p0), .val (.int p1), .val (.int p2), .val (.long q3), .second, .val (.int p4), .val (.int v6), .val (.int v7), .val (.int v8), .val (.int v9), .val (.ref oo), .val (.ref e1), .val (.int (0 : Int32)), .unset, .unset]) rfl ?_
      refine XS.aload X506.here hx rfl (hb hby at_191) rfl rfl ?_
      refine XS.iload X506.here hx rfl (hb hby at_193) rfl ?_
      refine XS.lloadN X506.here hx rfl (hb hby at_195) rfl ?_
      refine XS.bipush X506.here hx rfl (hb hby at_196) ?_
      refine XS.lushr X506.here hx rfl (hb hby at_198) rfl ?_
      refine XS.l2i X506.here hx rfl (hb hby at_199) rfl ?_
      exact k
    obtain ⟨_, _, ⟨T507, L507, k507, n507⟩, -, X507, ⟨Lc507, hQ507, l507, y507, z507⟩, st507⟩ := Jvm.LawKit.callS X506 hx (y := own_y16) hown (mvT hZ (own_w hw 77 rfl)) (mvT hZ (own_w hw 78 rfl)) (mvT hZ (own_w hw 38 rfl)) (mvT hZ (own_w hw 79 rfl)) (by decide) (backOf (W := 0) (rmq0 l Z a0 hw [] e1 ke (0 : Int32) (0 : Int32) (0 : Int32) (0 : Int32) (0 : Int32) (0 : Int32) (0 : Int32) (0 : Int32) (0 : Int32) (0 : Int32) (0 : Int32) (0 : Int32) (0 : Int32) (0 : Int32) (0 : Int32) (0 : Int32) (((q3.toUInt64 >>> ((32 : Int32) &&& 0x3f).toInt64.toUInt64).toInt64).toInt32) T506.heap n0 sz506 VE_506 gE) hZ (own_w hw 79 rfl) (own_w hw 38 rfl) (by decide) (by decide)) (g := (mkF m 200 #[.val (.int p0), .val (.int p1), .val (.int p2), .val (.long q3), .second, .val (.int p4), .val (.int v6), .val (.int v7), .val (.int v8), .val (.int v9), .val (.ref oo), .val (.ref e1), .val (.int (0 : Int32)), .unset, .unset] [(.int (((q3.toUInt64 >>> ((32 : Int32) &&& 0x3f).toInt64.toUInt64).toInt64).toInt32)), (.int (0 : Int32)), (.ref e1)])) rfl (by rw [hml]; rfl) (argsL := [(.ref e1), (.int (0 : Int32)), (.int (((q3.toUInt64 >>> ((32 : Int32) &&& 0x3f).toInt64.toUInt64).toInt64).toInt32))]) (rest := []) (lenOf pd_11 rfl) rfl (by show 2 * 0 + _ ≤ _; exact Nat.le_of_eq rfl) (hb hby at_200) (fun _ _ => ⟨rfl, rfl, (by decide : 3 + 0 ≤ _), (by decide : 274 + 0 ≤ _)⟩)
    dsimp only [Pt.U, Pt.locs, Pt.cells, Pt.slots] at X507 l507 y507 z507 st507 hQ507
    subst l507 y507 z507
    obtain ⟨rfl, N507q, K507, P507_0⟩ := hQ507
    have PE506_507 := PE506.keep K507
    have PV506_507 := PV506.keep K507 (ninS noe nin0)
    have PZ506_507 := PZ506.keep K507 (ninS noe nin0)
    have PA506_507 := PA506.keep K507 (ninS nbe nin0)
    have sz507 : n0 ≤ T507.heap.size := Nat.le_trans sz506 K507.1
    have N507 := Fr.app N506 N507q
    refine Go.st (U' := T507.setTop (mkF m 203 #[.val (.int p0), .val (.int p1), .val (.int p2), .val (.long q3), .second, .val (.int p4), .val (.int v6), .val (.int v7), .val (.int v8), .val (.int v9), .val (.ref oo), .val (.ref e1), .val (.int (0 : Int32)), .unset, .unset] [])) (fun t k => st507 _ k) ?_
    refine Go.st (U' := T507.setTop (mkF m 211 #[.val (.int p0), .val (.int p1), .val (.int p2), .val (.long q3), .second, .val (.int p4), .val (.int v6), .val (.int v7), .val (.int v8), .val (.int v9), .val (.ref oo), .val (.ref e1), .val (.int (0 : Int32)), .unset, .unset] [(.int (q3.toInt32)), (.int (4 : Int32)), (.ref e1)])) (fun t k => ?_) ?_
    · refine XS.aload X507.here hx rfl (hb hby at_203) rfl rfl ?_
      refine XS.iload X507.here hx rfl (hb hby at_205) rfl ?_
      refine XS.iconst X507.here hx rfl (hb hby at_207) ?_
      refine XS.iadd X507.here hx rfl (hb hby at_208) rfl ?_
      refine XS.lloadN X507.here hx rfl (hb hby at_209) rfl ?_
      refine XS.l2i X507.here hx rfl (hb hby at_210) rfl ?_
      exact k
    obtain ⟨_, _, ⟨T508, L508, k508, n508⟩, -, X508, ⟨Lc508, hQ508, l508, y508, z508⟩, st508⟩ := Jvm.LawKit.callS X507 hx (y := own_y16) hown (mvT hZ (own_w hw 77 rfl)) (mvT hZ (own_w hw 78 rfl)) (mvT hZ (own_w hw 38 rfl)) (mvT hZ (own_w hw 79 rfl)) (by decide) (backOf (W := 0) (rmq4 l Z a0 hw [] e1 ke (own_b3 (((q3.toUInt64 >>> ((32 : Int32) &&& 0x3f).toInt64.toUInt64).toInt64).toInt32)) (own_b2 (((q3.toUInt64 >>> ((32 : Int32) &&& 0x3f).toInt64.toUInt64).toInt64).toInt32)) (own_b1 (((q3.toUInt64 >>> ((32 : Int32) &&& 0x3f).toInt64.toUInt64).toInt64).toInt32)) (own_b0 (((q3.toUInt64 >>> ((32 : Int32) &&& 0x3f).toInt64.toUInt64).toInt64).toInt32)) (0 : Int32) (0 : Int32) (0 : Int32) (0 : Int32) (0 : Int32) (0 : Int32) (0 : Int32) (0 : Int32) (0 : Int32) (0 : Int32) (0 : Int32) (0 : Int32) (q3.toInt32) T507.heap n0 sz507 P507_0 gE) hZ (own_w hw 79 rfl) (own_w hw 38 rfl) (by decide) (by decide)) (g := (mkF m 211 #[.val (.int p0), .val (.int p1), .val (.int p2), .val (.long q3), .second, .val (.int p4), .val (.int v6), .val (.int v7), .val (.int v8), .val (.int v9), .val (.ref oo), .val (.ref e1), .val (.int (0 : Int32)), .unset, .unset] [(.int (q3.toInt32)), (.int (4 : Int32)), (.ref e1)])) rfl (by rw [hml]; rfl) (argsL := [(.ref e1), (.int (4 : Int32)), (.int (q3.toInt32))]) (rest := []) (lenOf pd_11 rfl) rfl (by show 2 * 0 + _ ≤ _; exact Nat.le_of_eq rfl) (hb hby at_211) (fun _ _ => ⟨rfl, rfl, (by decide : 3 + 0 ≤ _), (by decide : 274 + 0 ≤ _)⟩)
    dsimp only [Pt.U, Pt.locs, Pt.cells, Pt.slots] at X508 l508 y508 z508 st508 hQ508
    subst l508 y508 z508
    obtain ⟨rfl, N508q, K508, P508_0⟩ := hQ508
    have PE506_508 := PE506_507.keep K508
    have PV506_508 := PV506_507.keep K508 (ninS noe nin0)
    have PZ506_508 := PZ506_507.keep K508 (ninS noe nin0)
    have PA506_508 := PA506_507.keep K508 (ninS nbe nin0)
    have sz508 : n0 ≤ T508.heap.size := Nat.le_trans sz507 K508.1
    have N508 := Fr.app N507 N508q
    refine Go.st (U' := T508.setTop (mkF m 214 #[.val (.int p0), .val (.int p1), .val (.int p2), .val (.long q3), .second, .val (.int p4), .val (.int v6), .val (.int v7), .val (.int v8), .val (.int v9), .val (.ref oo), .val (.ref e1), .val (.int (0 : Int32)), .unset, .unset] [])) (fun t k => st508 _ k) ?_
    refine Go.st (U' := T508.setTop (mkF m 217 #[.val (.int p0), .val (.int p1), .val (.int p2), .val (.long q3), .second, .val (.int p4), .val (.int v6), .val (.int v7), .val (.int v8), .val (.int v9), .val (.ref oo), .val (.ref e1), .val (.int (8 : Int32)), .unset, .unset] [])) (fun t k => ?_) ?_
    · refine XS.iinc X508.here hx rfl (hb hby at_214) rfl (l' := #[.val (.int p0), .val (.int p1), .val (.int p2), .val (.long q3), .second, .val (.int p4), .val (.int v6), .val (.int v7), .val (.int v8), .val (.int v9), .val (.ref oo), .val (.ref e1), .val (.int (8 : Int32)), .unset, .unset]) rfl ?_
      exact k
    exact node217 p0 p1 p2 q3 p4 v6 v7 v8 v9 oo b1 e1 kb ke (8 : Int32) [(own_b3 (((q3.toUInt64 >>> ((32 : Int32) &&& 0x3f).toInt64.toUInt64).toInt64).toInt32)), (own_b2 (((q3.toUInt64 >>> ((32 : Int32) &&& 0x3f).toInt64.toUInt64).toInt64).toInt32)), (own_b1 (((q3.toUInt64 >>> ((32 : Int32) &&& 0x3f).toInt64.toUInt64).toInt64).toInt32)), (own_b0 (((q3.toUInt64 >>> ((32 : Int32) &&& 0x3f).toInt64.toUInt64).toInt64).toInt32)), (own_b3 (q3.toInt32)), (own_b2 (q3.toInt32)), (own_b1 (q3.toInt32)), (own_b0 (q3.toInt32)), (0 : Int32), (0 : Int32), (0 : Int32), (0 : Int32), (0 : Int32), (0 : Int32), (0 : Int32), (0 : Int32)] [(own_b3 (((q3.toUInt64 >>> ((32 : Int32) &&& 0x3f).toInt64.toUInt64).toInt64).toInt32)), (own_b2 (((q3.toUInt64 >>> ((32 : Int32) &&& 0x3f).toInt64.toUInt64).toInt64).toInt32)), (own_b1 (((q3.toUInt64 >>> ((32 : Int32) &&& 0x3f).toInt64.toUInt64).toInt64).toInt32)), (own_b0 (((q3.toUInt64 >>> ((32 : Int32) &&& 0x3f).toInt64.toUInt64).toInt64).toInt32)), (own_b3 (q3.toInt32)), (own_b2 (q3.toInt32)), (own_b1 (q3.toInt32)), (own_b0 (q3.toInt32)), (0 : Int32), (0 : Int32), (0 : Int32), (0 : Int32), (0 : Int32), (0 : Int32), (0 : Int32), (0 : Int32)] X508 hx hZ hw hby hml hown rfl sz508 N508 hlk hrt PE506_508 PV506_508 PZ506_508 PA506_508 P508_0 gO gB gE nob noe nbe (by decide) (by decide) (own_pk0_8 (own_b3 (((q3.toUInt64 >>> ((32 : Int32) &&& 0x3f).toInt64.toUInt64).toInt64).toInt32)) (own_b2 (((q3.toUInt64 >>> ((32 : Int32) &&& 0x3f).toInt64.toUInt64).toInt64).toInt32)) (own_b1 (((q3.toUInt64 >>> ((32 : Int32) &&& 0x3f).toInt64.toUInt64).toInt64).toInt32)) (own_b0 (((q3.toUInt64 >>> ((32 : Int32) &&& 0x3f).toInt64.toUInt64).toInt64).toInt32)) (own_b3 (q3.toInt32)) (own_b2 (q3.toInt32)) (own_b1 (q3.toInt32)) (own_b0 (q3.toInt32))) (own_pk8_8 (own_b3 (((q3.toUInt64 >>> ((32 : Int32) &&& 0x3f).toInt64.toUInt64).toInt64).toInt32)) (own_b2 (((q3.toUInt64 >>> ((32 : Int32) &&& 0x3f).toInt64.toUInt64).toInt64).toInt32)) (own_b1 (((q3.toUInt64 >>> ((32 : Int32) &&& 0x3f).toInt64.toUInt64).toInt64).toInt32)) (own_b0 (((q3.toUInt64 >>> ((32 : Int32) &&& 0x3f).toInt64.toUInt64).toInt64).toInt32)) (own_b3 (q3.toInt32)) (own_b2 (q3.toInt32)) (own_b1 (q3.toInt32)) (own_b0 (q3.toInt32)))
set_option maxRecDepth 65536 in
set_option maxHeartbeats 40000000 in
theorem node170_1 {p : Program} {l : Launch} {e : Env} {s : State} {m : MethodId} {args : Array Value} {below : List Frame} {meth : Method} {c : Code} {T0 : State} {locs : List Loc} {Z : State} {a0 : Array Value} {h0 : Heap} {n0 : Nat} (p0 : Int32) (p1 : Int32) (p2 : Int32) (q3 : Int64) (p4 : Int32) (v6 : Int32) (v7 : Int32) (v8 : Int32) (v9 : Int32) (oo : Addr) (b1 : Addr) (e1 : Addr) (kb : ClassId) (ke : ClassId) (c0 : Int32)
    (X0 : Stand p l e room_1 s m args below meth c T0 locs 3 274) (hx : p.tables.exec = Jvm.exec) (hZ : Z.Warmed39 s.vm) (hw : ∀ d ∈ tables_1, d.before a0 Z = true) (hby : c.code = code) (hml : c.maxLocals = 15) (hown : s.vm.findClass "com/example/portcullis/portcullis/io/CdrOutputToByteArrayPinLaw" = some m.cls) (e0 : T0.heap = h0) (Z0 : n0 ≤ h0.size) (N0 : Fr n0 locs) (hlk : meth.locks = false) (hrt : meth.sig.returnType = some .boolean) (EX : Exa Z h0 oo "com/example/portcullis/portcullis/io/CdrOutput") (FB : Fld Z h0 oo "com/example/portcullis/portcullis/io/CdrOutput" "buffer" "[B" (.ref b1)) (FS : Fld Z h0 oo "com/example/portcullis/portcullis/io/CdrOutput" "size" "I" (.int (1 : Int32))) (VB : Arv Z h0 b1 kb .byte (256 : Int32) [(.int c0), (.int (0 : Int32)), (.int (0 : Int32)), (.int (0 : Int32)), (.int (0 : Int32)), (.int (0 : Int32)), (.int (0 : Int32)), (.int (0 : Int32)), (.int (0 : Int32)), (.int (0 : Int32)), (.int (0 : Int32)), (.int (0 : Int32)), (.int (0 : Int32)), (.int (0 : Int32)), (.int (0 : Int32)), (.int (0 : Int32))] (.int (0 : Int32))) (VE : Arv Z h0 e1 ke .byte (16 : Int32) [(.int c0), (.int (0 : Int32)), (.int (0 : Int32)), (.int (0 : Int32)), (.int (0 : Int32)), (.int (0 : Int32)), (.int (0 : Int32)), (.int (0 : Int32)), (.int (0 : Int32)), (.int (0 : Int32)), (.int (0 : Int32)), (.int (0 : Int32)), (.int (0 : Int32)), (.int (0 : Int32)), (.int (0 : Int32)), (.int (0 : Int32))] (.int (0 : Int32))) (gO : n0 ≤ oo) (gB : n0 ≤ b1) (gE : n0 ≤ e1) (nob : oo ≠ b1) (noe : oo ≠ e1) (nbe : b1 ≠ e1)
     : Go p e below (fun s₂ o => ∃ v L, o = .returned v ∧ Qx n0 v s₂.heap L ∧ FrameEnd s o s₂ L 24 704) (T0.setTop (mkF m 170 #[.val (.int p0), .val (.int p1), .val (.int p2), .val (.long q3), .second, .val (.int p4), .val (.int v6), .val (.int v7), .val (.int v8), .val (.int v9), .val (.ref oo), .val (.ref e1), .val (.int (1 : Int32)), .unset, .unset] [])) := by
  refine Go.st (U' := T0.setTop (mkF m 172 #[.val (.int p0), .val (.int p1), .val (.int p2), .val (.long q3), .second, .val (.int p4), .val (.int v6), .val (.int v7), .val (.int v8), .val (.int v9), .val (.ref oo), .val (.ref e1), .val (.int (1 : Int32)), .unset, .unset] [(.int v9)])) (fun t k => ?_) ?_
  · refine XS.iload X0.here hx rfl (hb hby at_170) rfl ?_
    exact k
  by_cases hc509 : v9 = (0 : Int32)
  · refine Go.st (U' := T0.setTop (mkF m 217 #[.val (.int p0), .val (.int p1), .val (.int p2), .val (.long q3), .second, .val (.int p4), .val (.int v6), .val (.int v7), .val (.int v8), .val (.int v9), .val (.ref oo), .val (.ref e1), .val (.int (1 : Int32)), .unset, .unset] [])) (fun t k => ?_) ?_
    · refine XS.ifYes X0.here hx rfl (pc0 := 172) (pc' := 217) rfl (hb hby at_172) rfl ((if0 _ _).trans (teq hc509).1) (by decide) (by decide) ?_
      exact k
    exact node217 p0 p1 p2 q3 p4 v6 v7 v8 v9 oo b1 e1 kb ke (1 : Int32) [c0, (0 : Int32), (0 : Int32), (0 : Int32), (0 : Int32), (0 : Int32), (0 : Int32), (0 : Int32), (0 : Int32), (0 : Int32), (0 : Int32), (0 : Int32), (0 : Int32), (0 : Int32), (0 : Int32), (0 : Int32)] [c0, (0 : Int32), (0 : Int32), (0 : Int32), (0 : Int32), (0 : Int32), (0 : Int32), (0 : Int32), (0 : Int32), (0 : Int32), (0 : Int32), (0 : Int32), (0 : Int32), (0 : Int32), (0 : Int32), (0 : Int32)] X0 hx hZ hw hby hml hown e0 Z0 N0 hlk hrt EX FB FS VB VE gO gB gE nob noe nbe (by decide) (by decide) (own_pk0_1 c0) (own_pk8_1 c0)
  · refine Go.st (U' := T0.setTop (mkF m 178 #[.val (.int p0), .val (.int p1), .val (.int p2), .val (.long q3), .second, .val (.int p4), .val (.int v6), .val (.int v7), .val (.int v8), .val (.int v9), .val (.ref oo), .val (.ref e1), .val (.int (1 : Int32)), .unset, .unset] [(.long q3), (.ref oo)])) (fun t k => ?_) ?_
    · refine XS.ifNo X0.here hx rfl (hb hby at_172) rfl ((if0 _ _).trans (feq hc509).1) ?_
      refine XS.aload X0.here hx rfl (hb hby at_175) rfl rfl ?_
      refine XS.lloadN X0.here hx rfl (hb hby at_177) rfl ?_
      exact k
    obtain ⟨cq510, kq510, q510a, q510b, q510c⟩ := isOf hZ e0 EX
    obtain ⟨_, _, ⟨T510, L510, k510, n510⟩, -, X510, ⟨Lc510, hQ510, l510, y510, z510⟩, st510⟩ := X0.virtualBack hx (y := own_y9) (z := own_y9) hown (mvT hZ (own_w hw 68 rfl)) (mvT hZ (own_w hw 69 rfl)) (notFace_of_selects (args := #[]) (mvT hZ (own_w hw 71 rfl))) (mvT hZ (own_w hw 71 rfl)) (mvT hZ (own_w hw 70 rfl)) (by decide) (backOf (W := 0) (rml1 l Z a0 hw [] oo b1 kb c0 (0 : Int32) (0 : Int32) (0 : Int32) (0 : Int32) (0 : Int32) (0 : Int32) (0 : Int32) (0 : Int32) (0 : Int32) (0 : Int32) (0 : Int32) (0 : Int32) (0 : Int32) (0 : Int32) (0 : Int32) q3 h0 n0 Z0 EX FB FS VB gO gB nob) hZ (own_w hw 72 rfl) (own_w hw 2 rfl) (by decide) (by decide)) q510a q510c (g := (mkF m 178 #[.val (.int p0), .val (.int p1), .val (.int p2), .val (.long q3), .second, .val (.int p4), .val (.int v6), .val (.int v7), .val (.int v8), .val (.int v9), .val (.ref oo), .val (.ref e1), .val (.int (1 : Int32)), .unset, .unset] [(.long q3), (.ref oo)])) rfl (by rw [hml]; rfl) (Steps.refl _) (argsL := [(.long q3)]) (rest := []) (lenOf pd_10 rfl) rfl (by show 2 * 0 + _ ≤ _; exact Nat.le_of_eq rfl) (hb hby at_178) (fun _ _ => ⟨rfl, e0, (by decide : 3 + 0 ≤ _), (by decide : 274 + 0 ≤ _)⟩)
    dsimp only [Pt.U, Pt.locs, Pt.cells, Pt.slots] at X510 l510 y510 z510 st510 hQ510
    subst l510 y510 z510
    obtain ⟨rfl, N510q, K510, PE510, PV510, PZ510, PA510⟩ := hQ510
    have EX_510 := EX.keep K510
    have VE_510 := VE.keep K510 (ninS (Ne.symm noe) (ninS (Ne.symm nbe) nin0))
    have sz510 : n0 ≤ T510.heap.size := Nat.le_trans Z0 K510.1
    have N510 := Fr.app N0 N510q
    refine Go.tr (U' := T510.setTop (mkF m 181 #[.val (.int p0), .val (.int p1), .val (.int p2), .val (.long q3), .second, .val (.int p4), .val (.int v6), .val (.int v7), .val (.int v8), .val (.int v9), .val (.ref oo), .val (.ref e1), .val (.int (1 : Int32)), .unset, .unset] [])) st510 ?_
    refine Go.st (U' := T510.setTop (mkF m 200 #[.val (.int p0), .val (.int p1), .val (.int p2), .val (.long q3), .second, .val (.int p4), .val (.int v6), .val (.int v7), .val (.int v8), .val (.int v9), .val (.ref oo), .val (.ref e1), .val (.int (8 : Int32)), .unset, .unset] [(.int (((q3.toUInt64 >>> ((32 : Int32) &&& 0x3f).toInt64.toUInt64).toInt64).toInt32)), (.int (8 : Int32)), (.ref e1)])) (fun t k => ?_) ?_
    · refine XS.iload X510.here hx rfl (hb hby at_181) rfl ?_
      refine XS.bipush X510.here hx rfl (hb hby at_183) ?_
      refine XS.iadd X510.here hx rfl (hb hby at_185) rfl ?_
      refine XS.bipush X510.here hx rfl (hb hby at_186) ?_
      refine XS.iand X510.here hx rfl (hb hby at_188) rfl ?_
      refine XS.istore X510.here hx rfl (hb hby at_189) rfl (l' := #[.val (.int p0), .val (.int p1), .val (.int p2), .val (.long q3), .second, .val (.int p4), .val (.int v6), .val (.int v7), .val (.int v8), .val (.int v9), .val (.ref oo), .val (.ref e1), .val (.int (8 : Int32)), .unset, .unset]) rfl ?_
      refine XS.aload X510.here hx rfl (hb hby at_191) rfl rfl ?_
      refine XS.iload X510.here hx rfl (hb hby at_193) rfl ?_
      refine XS.lloadN X510.here hx rfl (hb hby at_195) rfl ?_
      refine XS.bipush X510.here hx rfl (hb hby at_196) ?_
      refine XS.lushr X510.here hx rfl (hb hby at_198) rfl ?_
      refine XS.l2i X510.here hx rfl (hb hby at_199) rfl ?_
      exact k
    obtain ⟨_, _, ⟨T511, L511, k511, n511⟩, -, X511, ⟨Lc511, hQ511, l511, y511, z511⟩, st511⟩ := Jvm.LawKit.callS X510 hx (y := own_y16) hown (mvT hZ (own_w hw 77 rfl)) (mvT hZ (own_w hw 78 rfl)) (mvT hZ (own_w hw 38 rfl)) (mvT hZ (own_w hw 79 rfl)) (by decide) (backOf (W := 0) (rmq8 l Z a0 hw [] e1 ke c0 (0 : Int32) (0 : Int32) (0 : Int32) (0 : Int32) (0 : Int32) (0 : Int32) (0 : Int32) (0 : Int32) (0 : Int32) (0 : Int32) (0 : Int32) (0 : Int32) (0 : Int32) (0 : Int32) (0 : Int32) (((q3.toUInt64 >>> ((32 : Int32) &&& 0x3f).toInt64.toUInt64).toInt64).toInt32) T510.heap n0 sz510 VE_510 gE) hZ (own_w hw 79 rfl) (own_w hw 38 rfl) (by decide) (by decide)) (g := (mkF m 200 #[.val (.int p0), .val (.int p1), .val (.int p2), .val (.long q3), .second, .val (.int p4), .val (.int v6), .val (.int v7), .val (.int v8), .val (.int v9), .val (.ref oo), .val (.ref e1), .val (.int (8 : Int32)), .unset, .unset] [(.int (((q3.toUInt64 >>> ((32 : Int32) &&& 0x3f).toInt64.toUInt64).toInt64).toInt32)), (.int (8 : Int32)), (.ref e1)])) rfl (by rw [hml]; rfl) (argsL := [(.ref e1), (.int (8 : Int32)), (.int (((q3.toUInt64 >>> ((32 : Int32) &&& 0x3f).toInt64.toUInt64).toInt64).toInt32))]) (rest := []) (lenOf pd_11 rfl) rfl (by show 2 * 0 + _ ≤ _; exact Nat.le_of_eq rfl) (hb hby at_200) (fun _ _ => ⟨rfl, rfl, (by decide : 3 + 0 ≤ _), (by decide : 274 + 0 ≤ _)⟩)
    dsimp only [Pt.U, Pt.locs, Pt.cells, Pt.slots] at X511 l511 y511 z511 st511 hQ511
    subst l511 y511 z511
    obtain ⟨rfl, N511q, K511, P511_0⟩ := hQ511
    have PE510_511 := PE510.keep K511
    have PV510_511 := PV510.keep K511 (ninS noe nin0)
    have PZ510_511 := PZ510.keep K511 (ninS noe nin0)
    have PA510_511 := PA510.keep K511 (ninS nbe nin0)
    have sz511 : n0 ≤ T511.heap.size := Nat.le_trans sz510 K511.1
    have N511 := Fr.app N510 N511q
    refine Go.st (U' := T511.setTop (mkF m 203 #[.val (.int p0), .val (.int p1), .val (.int p2), .val (.long q3), .second, .val (.int p4), .val (.int v6), .val (.int v7), .val (.int v8), .val (.int v9), .val (.ref oo), .val (.ref e1), .val (.int (8 : Int32)), .unset, .unset] [])) (fun t k => st511 _ k) ?_
    refine Go.st (U' := T511.setTop (mkF m 211 #[.val (.int p0), .val (.int p1), .val (.int p2), .val (.long q3), .second, .val (.int p4), .val (.int v6), .val (.int v7), .val (.int v8), .val (.int v9), .val (.ref oo), .val (.ref e1), .val (.int (8 : Int32)), .unset, .unset] [(.int (q3.toInt32)), (.int (12 : Int32)), (.ref e1)])) (fun t k => ?_) ?_
    · refine XS.aload X511.here hx rfl (hb hby at_203) rfl rfl ?_
      refine XS.iload X511.here hx rfl (hb hby at_205) rfl ?_
      refine XS.iconst X511.here hx rfl (hb hby at_207) ?_
      refine XS.iadd X511.here hx rfl (hb hby at_208) rfl ?_
      refine XS.lloadN X511.here hx rfl (hb hby at_209) rfl ?_
      refine XS.l2i X511.here hx rfl (hb hby at_210) rfl ?_
      exact k
    obtain ⟨_, _, ⟨T512, L512, k512, n512⟩, -, X512, ⟨Lc512, hQ512, l512, y512, z512⟩, st512⟩ := Jvm.LawKit.callS X511 hx (y := own_y16) hown (mvT hZ (own_w hw 77 rfl)) (mvT hZ (own_w hw 78 rfl)) (mvT hZ (own_w hw 38 rfl)) (mvT hZ (own_w hw 79 rfl)) (by decide) (backOf (W := 0) (rmq12 l Z a0 hw [] e1 ke c0 (0 : Int32) (0 : Int32) (0 : Int32) (0 : Int32) (0 : Int32) (0 : Int32) (0 : Int32) (own_b3 (((q3.toUInt64 >>> ((32 : Int32) &&& 0x3f).toInt64.toUInt64).toInt64).toInt32)) (own_b2 (((q3.toUInt64 >>> ((32 : Int32) &&& 0x3f).toInt64.toUInt64).toInt64).toInt32)) (own_b1 (((q3.toUInt64 >>> ((32 : Int32) &&& 0x3f).toInt64.toUInt64).toInt64).toInt32)) (own_b0 (((q3.toUInt64 >>> ((32 : Int32) &&& 0x3f).toInt64.toUInt64).toInt64).toInt32)) (0 : Int32) (0 : Int32) (0 : Int32) (0 : Int32) (q3.toInt32) T511.heap n0 sz511 P511_0 gE) hZ (own_w hw 79 rfl) (own_w hw 38 rfl) (by decide) (by decide)) (g := (mkF m 211 #[.val (.int p0), .val (.int p1), .val (.int p2), .val (.long q3), .second, .val (.int p4), .val (.int v6), .val (.int v7), .val (.int v8), .val (.int v9), .val (.ref oo), .val (.ref e1), .val (.int (8 : Int32)), .unset, .unset] [(.int (q3.toInt32)), (.int (12 : Int32)), (.ref e1)])) rfl (by rw [hml]; rfl) (argsL := [(.ref e1), (.int (12 : Int32)), (.int (q3.toInt32))]) (rest := []) (lenOf pd_11 rfl) rfl (by show 2 * 0 + _ ≤ _; exact Nat.le_of_eq rfl) (hb hby at_211) (fun _ _ => ⟨rfl, rfl, (by decide : 3 + 0 ≤ _), (by decide : 274 + 0 ≤ _)⟩)
    dsimp only [Pt.U, Pt.locs, Pt.cells, Pt.slots] at X512 l512 y512 z512 st512 hQ512
    subst l512 y512 z512
    obtain ⟨rfl, N512q, K512, P512_0⟩ := hQ512
    have PE510_512 := PE510_511.keep K512
    have PV510_512 := PV510_511.keep K512 (ninS noe nin0)
    have PZ510_512 := PZ510_511.keep K512 (ninS noe nin0)
    have PA510_512 := PA510_511.keep K512 (ninS nbe nin0)
    have sz512 : n0 ≤ T512.heap.size := Nat.le_trans sz511 K512.1
    have N512 := Fr.app N511 N512q
    refine Go.st (U' := T512.setTop (mkF m 214 #[.val (.int p0), .val (.int p1), .val (.int p2), .val (.long q3), .second, .val (.int p4), .val (.int v6), .val (.int v7), .val (.int v8), .val (.int v9), .val (.ref oo), .val (.ref e1), .val (.int (8 : Int32)), .unset, .unset] [])) (fun t k => st512 _ k) ?_
    refine Go.st (U' := T512.setTop (mkF m 217 #[.val (.int p0), .val (.int p1), .val (.int p2), .val (.long q3), .second, .val (.int p4), .val (.int v6), .val (.int v7), .val (.int v8), .val (.int v9), .val (.ref oo), .val (.ref e1), .val (.int (16 : Int32)), .unset, .unset] [])) (fun t k => ?_) ?_
    · refine XS.iinc X512.here hx rfl (hb hby at_214) rfl (l' := #[.val (.int p0), .val (.int p1), .val (.int p2), .val (.long q3), .second, .val (.int p4), .val (.int v6), .val (.int v7), .val (.int v8), .val (.int v9), .val (.ref oo), .val (.ref e1), .val (.int (16 : Int32)), .unset, .unset]) rfl ?_
      exact k
    exact node217 p0 p1 p2 q3 p4 v6 v7 v8 v9 oo b1 e1 kb ke (16 : Int32) [c0, (0 : Int32), (0 : Int32), (0 : Int32), (0 : Int32), (0 : Int32), (0 : Int32), (0 : Int32), (own_b3 (((q3.toUInt64 >>> ((32 : Int32) &&& 0x3f).toInt64.toUInt64).toInt64).toInt32)), (own_b2 (((q3.toUInt64 >>> ((32 : Int32) &&& 0x3f).toInt64.toUInt64).toInt64).toInt32)), (own_b1 (((q3.toUInt64 >>> ((32 : Int32) &&& 0x3f).toInt64.toUInt64).toInt64).toInt32)), (own_b0 (((q3.toUInt64 >>> ((32 : Int32) &&& 0x3f).toInt64.toUInt64).toInt64).toInt32)), (own_b3 (q3.toInt32)), (own_b2 (q3.toInt32)), (own_b1 (q3.toInt32)), (own_b0 (q3.toInt32))] [c0, (0 : Int32), (0 : Int32), (0 : Int32), (0 : Int32), (0 : Int32), (0 : Int32), (0 : Int32), (own_b3 (((q3.toUInt64 >>> ((32 : Int32) &&& 0x3f).toInt64.toUInt64).toInt64).toInt32)), (own_b2 (((q3.toUInt64 >>> ((32 : Int32) &&& 0x3f).toInt64.toUInt64).toInt64).toInt32)), (own_b1 (((q3.toUInt64 >>> ((32 : Int32) &&& 0x3f).toInt64.toUInt64).toInt64).toInt32)), (own_b0 (((q3.toUInt64 >>> ((32 : Int32) &&& 0x3f).toInt64.toUInt64).toInt64).toInt32)), (own_b3 (q3.toInt32)), (own_b2 (q3.toInt32)), (own_b1 (q3.toInt32)), (own_b0 (q3.toInt32))] X512 hx hZ hw hby hml hown rfl sz512 N512 hlk hrt PE510_512 PV510_512 PZ510_512 PA510_512 P512_0 gO gB gE nob noe nbe (by decide) (by decide) (own_pk0_16 c0 (0 : Int32) (0 : Int32) (0 : Int32) (0 : Int32) (0 : Int32) (0 : Int32) (0 : Int32) (own_b3 (((q3.toUInt64 >>> ((32 : Int32) &&& 0x3f).toInt64.toUInt64).toInt64).toInt32)) (own_b2 (((q3.toUInt64 >>> ((32 : Int32) &&& 0x3f).toInt64.toUInt64).toInt64).toInt32)) (own_b1 (((q3.toUInt64 >>> ((32 : Int32) &&& 0x3f).toInt64.toUInt64).toInt64).toInt32)) (own_b0 (((q3.toUInt64 >>> ((32 : Int32) &&& 0x3f).toInt64.toUInt64).toInt64).toInt32)) (own_b3 (q3.toInt32)) (own_b2 (q3.toInt32)) (own_b1 (q3.toInt32)) (own_b0 (q3.toInt32))) (own_pk8_16 c0 (0 : Int32) (0 : Int32) (0 : Int32) (0 : Int32) (0 : Int32) (0 : Int32) (0 : Int32) (own_b3 (((q3.toUInt64 >>> ((32 : Int32) &&& 0x3f).toInt64.toUInt64).toInt64).toInt32)) (own_b2 (((q3.toUInt64 >>> ((32 : Int32) &&& 0x3f).toInt64.toUInt64).toInt64).toInt32)) (own_b1 (((q3.toUInt64 >>> ((32 : Int32) &&& 0x3f).toInt64.toUInt64).toInt64).toInt32)) (own_b0 (((q3.toUInt64 >>> ((32 : Int32) &&& 0x3f).toInt64.toUInt64).toInt64).toInt32)) (own_b3 (q3.toInt32)) (own_b2 (q3.toInt32)) (own_b1 (q3.toInt32)) (own_b0 (q3.toInt32)))
set_option maxRecDepth 65536 in
set_option maxHeartbeats 40000000 in
theorem node170_2 {p : Program} {l : Launch} {e : Env} {s : State} {m : MethodId} {args : Array Value} {below : List Frame} {meth : Method} {c : Code} {T0 : State} {locs : List Loc} {Z : State} {a0 : Array Value} {h0 : Heap} {n0 : Nat} (p0 : Int32) (p1 : Int32) (p2 : Int32) (q3 : Int64) (p4 : Int32) (v6 : Int32) (v7 : Int32) (v8 : Int32) (v9 : Int32) (oo : Addr) (b1 : Addr) (e1 : Addr) (kb : ClassId) (ke : ClassId) (c0 : Int32) (c1 : Int32)
    (X0 : Stand p l e room_1 s m args below meth c T0 locs 3 274) (hx : p.tables.exec = Jvm.exec) (hZ : Z.Warmed39 s.vm) (hw : ∀ d ∈ tables_1, d.before a0 Z = true) (hby : c.code = code) (hml : c.maxLocals = 15) (hown : s.vm.findClass "com/example/portcullis/portcullis/io/CdrOutputToByteArrayPinLaw" = some m.cls) (e0 : T0.heap = h0) (Z0 : n0 ≤ h0.size) (N0 : Fr n0 locs) (hlk : meth.locks = false) (hrt : meth.sig.returnType = some .boolean) (EX : Exa Z h0 oo "com/example/portcullis/portcullis/io/CdrOutput") (FB : Fld Z h0 oo "com/example/portcullis/portcullis/io/CdrOutput" "buffer" "[B" (.ref b1)) (FS : Fld Z h0 oo "com/example/portcullis/portcullis/io/CdrOutput" "size" "I" (.int (2 : Int32))) (VB : Arv Z h0 b1 kb .byte (256 : Int32) [(.int c0), (.int c1), (.int (0 : Int32)), (.int (0 : Int32)), (.int (0 : Int32)), (.int (0 : Int32)), (.int (0 : Int32)), (.int (0 : Int32)), (.int (0 : Int32)), (.int (0 : Int32)), (.int (0 : Int32)), (.int (0 : Int32)), (.int (0 : Int32)), (.int (0 : Int32)), (.int (0 : Int32)), (.int (0 : Int32))] (.int (0 : Int32))) (VE : Arv Z h0 e1 ke .byte (16 : Int32) [(.int c0), (.int c1), (.int (0 : Int32)), (.int (0 : Int32)), (.int (0 : Int32)), (.int (0 : Int32)), (.int (0 : Int32)), (.int (0 : Int32)), (.int (0 : Int32)), (.int (0 : Int32)), (.int (0 : Int32)), (.int (0 : Int32)), (.int (0 : Int32)), (.int (0 : Int32)), (.int (0 : Int32)), (.int (0 : Int32))] (.int (0 : Int32))) (gO : n0 ≤ oo) (gB : n0 ≤ b1) (gE : n0 ≤ e1) (nob : oo ≠ b1) (noe : oo ≠ e1) (nbe : b1 ≠ e1)
     : Go p e below (fun s₂ o => ∃ v L, o = .returned v ∧ Qx n0 v s₂.heap L ∧ FrameEnd s o s₂ L 24 704) (T0.setTop (mkF m 170 #[.val (.int p0), .val (.int p1), .val (.int p2), .val (.long q3), .second, .val (.int p4), .val (.int v6), .val (.int v7), .val (.int v8), .val (.int v9), .val (.ref oo), .val (.ref e1), .val (.int (2 : Int32)), .unset, .unset] [])) := by
  refine Go.st (U' := T0.setTop (mkF m 172 #[.val (.int p0), .val (.int p1), .val (.int p2), .val (.long q3), .second, .val (.int p4), .val (.int v6), .val (.int v7), .val (.int v8), .val (.int v9), .val (.ref oo), .val (.ref e1), .val (.int (2 : Int32)), .unset, .unset] [(.int v9)])) (fun t k => ?_) ?_
  · refine XS.iload X0.here hx rfl (hb hby at_170) rfl ?_
    exact k
  by_cases hc513 : v9 = (0 : Int32)
  · refine Go.st (U' := T0.setTop (mkF m 217 #[.val (.int p0), .val (.int p1), .val (.int p2), .val (.long q3), .second, .val (.int p4), .val (.int v6), .val (.int v7), .val (.int v8), .val (.int v9), .val (.ref oo), .val (.ref e1), .val (.int (2 : Int32)), .unset, .unset] [])) (fun t k => ?_) ?_
    · refine XS.ifYes X0.here hx rfl (pc0 := 172) (pc' := 217) rfl (hb hby at_172) rfl ((if0 _ _).trans (teq hc513).1) (by decide) (by decide) ?_
      exact k
    exact node217 p0 p1 p2 q3 p4 v6 v7 v8 v9 oo b1 e1 kb ke (2 : Int32) [c0, c1, (0 : Int32), (0 : Int32), (0 : Int32), (0 : Int32), (0 : Int32), (0 : Int32), (0 : Int32), (0 : Int32), (0 : Int32), (0 : Int32), (0 : Int32), (0 : Int32), (0 : Int32), (0 : Int32)] [c0, c1, (0 : Int32), (0 : Int32), (0 : Int32), (0 : Int32), (0 : Int32), (0 : Int32), (0 : Int32), (0 : Int32), (0 : Int32), (0 : Int32), (0 : Int32), (0 : Int32), (0 : Int32), (0 : Int32)] X0 hx hZ hw hby hml hown e0 Z0 N0 hlk hrt EX FB FS VB VE gO gB gE nob noe nbe (by decide) (by decide) (own_pk0_2 c0 c1) (own_pk8_2 c0 c1)
  · refine Go.st (U' := T0.setTop (mkF m 178 #[.val (.int p0), .val (.int p1), .val (.int p2), .val (.long q3), .second, .val (.int p4), .val (.int v6), .val (.int v7), .val (.int v8), .val (.int v9), .val (.ref oo), .val (.ref e1), .val (.int (2 : Int32)), .unset, .unset] [(.long q3), (.ref oo)])) (fun t k => ?_) ?_
    · refine XS.ifNo X0.here hx rfl (hb hby at_172) rfl ((if0 _ _).trans (feq hc513).1) ?_
      refine XS.aload X0.here hx rfl (hb hby at_175) rfl rfl ?_
      refine XS.lloadN X0.here hx rfl (hb hby at_177) rfl ?_
      exact k
    obtain ⟨cq514, kq514, q514a, q514b, q514c⟩ := isOf hZ e0 EX
    obtain ⟨_, _, ⟨T514, L514, k514, n514⟩, -, X514, ⟨Lc514, hQ514, l514, y514, z514⟩, st514⟩ := X0.virtualBack hx (y := own_y9) (z := own_y9) hown (mvT hZ (own_w hw 68 rfl)) (mvT hZ (own_w hw 69 rfl)) (notFace_of_selects (args := #[]) (mvT hZ (own_w hw 71 rfl))) (mvT hZ (own_w hw 71 rfl)) (mvT hZ (own_w hw 70 rfl)) (by decide) (backOf (W := 0) (rml2 l Z a0 hw [] oo b1 kb c0 c1 (0 : Int32) (0 : Int32) (0 : Int32) (0 : Int32) (0 : Int32) (0 : Int32) (0 : Int32) (0 : Int32) (0 : Int32) (0 : Int32) (0 : Int32) (0 : Int32) (0 : Int32) (0 : Int32) q3 h0 n0 Z0 EX FB FS VB gO gB nob) hZ (own_w hw 72 rfl) (own_w hw 2 rfl) (by decide) (by decide)) q514a q514c (g := (mkF m 178 #[.val (.int p0), .val (.int p1), .val (.int p2), .val (.long q3), .second, .val (.int p4), .val (.int v6), .val (.int v7), .val (.int v8), .val (.int v9), .val (.ref oo), .val (.ref e1), .val (.int (2 : Int32)), .unset, .unset] [(.long q3), (.ref oo)])) rfl (by rw [hml]; rfl) (Steps.refl _) (argsL := [(.long q3)]) (rest := []) (lenOf pd_10 rfl) rfl (by show 2 * 0 + _ ≤ _; exact Nat.le_of_eq rfl) (hb hby at_178) (fun _ _ => ⟨rfl, e0, (by decide : 3 + 0 ≤ _), (by decide : 274 + 0 ≤ _)⟩)
    dsimp only [Pt.U, Pt.locs, Pt.cells, Pt.slots] at X514 l514 y514 z514 st514 hQ514
    subst l514 y514 z514
    obtain ⟨rfl, N514q, K514, PE514, PV514, PZ514, PA514⟩ := hQ514
    have EX_514 := EX.keep K514
    have VE_514 := VE.keep K514 (ninS (Ne.symm noe) (ninS (Ne.symm nbe) nin0))
    have sz514 : n0 ≤ T514.heap.size := Nat.le_trans Z0 K514.1
    have N514 := Fr.app N0 N514q
    refine Go.tr (U' := T514.setTop (mkF m 181 #[.val (.int p0), .val (.int p1), .val (.int p2), .val (.long q3), .second, .val (.int p4), .val (.int v6), .val (.int v7), .val (.int v8), .val (.int v9), .val (.ref oo), .val (.ref e1), .val (.int (2 : Int32)), .unset, .unset] [])) st514 ?_
    refine Go.st (U' := T514.setTop (mkF m 200 #[.val (.int p0), .val (.int p1), .val (.int p2), .val (.long q3), .second, .val (.int p4), .val (.int v6), .val (.int v7), .val (.int v8), .val (.int v9), .val (.ref oo), .val (.ref e1), .val (.int (8 : Int32)), .unset, .unset] [(.int (((q3.toUInt64 >>> ((32 : Int32) &&& 0x3f).toInt64.toUInt64).toInt64).toInt32)), (.int (8 : Int32)), (.ref e1)])) (fun t k => ?_) ?_
    · refine XS.iload X514.here hx rfl (hb hby at_181) rfl ?_
      refine XS.bipush X514.here hx rfl (hb hby at_183) ?_
      refine XS.iadd X514.here hx rfl (hb hby at_185) rfl ?_
      refine XS.bipush X514.here hx rfl (hb hby at_186) ?_
      refine XS.iand X514.here hx rfl (hb hby at_188) rfl ?_
      refine XS.istore X514.here hx rfl (hb hby at_189) rfl (l' := #[.val (.int p0), .val (.int p1), .val (.int p2), .val (.long q3), .second, .val (.int p4), .val (.int v6), .val (.int v7), .val (.int v8), .val (.int v9), .val (.ref oo), .val (.ref e1), .val (.int (8 : Int32)), .unset, .unset]) rfl ?_
      refine XS.aload X514.here hx rfl (hb hby at_191) rfl rfl ?_
      refine XS.iload X514.here hx rfl (hb hby at_193) rfl ?_
      refine XS.lloadN X514.here hx rfl (hb hby at_195) rfl ?_
      refine XS.bipush X514.here hx rfl (hb hby at_196) ?_
      refine XS.lushr X514.here hx rfl (hb hby at_198) rfl ?_
      refine XS.l2i X514.here hx rfl (hb hby at_199) rfl ?_
      exact k
    obtain ⟨_, _, ⟨T515, L515, k515, n515⟩, -, X515, ⟨Lc515, hQ515, l515, y515, z515⟩, st515⟩ := Jvm.LawKit.callS X514 hx (y := own_y16) hown (mvT hZ (own_w hw 77 rfl)) (mvT hZ (own_w hw 78 rfl)) (mvT hZ (own_w hw 38 rfl)) (mvT hZ (own_w hw 79 rfl)) (by decide) (backOf (W := 0) (rmq8 l Z a0 hw [] e1 ke c0 c1 (0 : Int32) (0 : Int32) (0 : Int32) (0 : Int32) (0 : Int32) (0 : Int32) (0 : Int32) (0 : Int32) (0 : Int32) (0 : Int32) (0 : Int32) (0 : Int32) (0 : Int32) (0 : Int32) (((q3.toUInt64 >>> ((32 : Int32) &&& 0x3f).toInt64.toUInt64).toInt64).toInt32) T514.heap n0 sz514 VE_514 gE) hZ (own_w hw 79 rfl) (own_w hw 38 rfl) (by decide) (by decide)) (g := (mkF m 200 #[.val (.int p0), .val (.int p1), .val (.int p2), .val (.long q3), .second, .val (.int p4), .val (.int v6), .val (.int v7), .val (.int v8), .val (.int v9), .val (.ref oo), .val (.ref e1), .val (.int (8 : Int32)), .unset, .unset] [(.int (((q3.toUInt64 >>> ((32 : Int32) &&& 0x3f).toInt64.toUInt64).toInt64).toInt32)), (.int (8 : Int32)), (.ref e1)])) rfl (by rw [hml]; rfl) (argsL := [(.ref e1), (.int (8 : Int32)), (.int (((q3.toUInt64 >>> ((32 : Int32) &&& 0x3f).toInt64.toUInt64).toInt64).toInt32))]) (rest := []) (lenOf pd_11 rfl) rfl (by show 2 * 0 + _ ≤ _; exact Nat.le_of_eq rfl) (hb hby at_200) (fun _ _ => ⟨rfl, rfl, (by decide : 3 + 0 ≤ _), (by decide : 274 + 0 ≤ _)⟩)
    dsimp only [Pt.U, Pt.locs, Pt.cells, Pt.slots] at X515 l515 y515 z515 st515 hQ515
    subst l515 y515 z515
    obtain ⟨rfl, N515q, K515, P515_0⟩ := hQ515
    have PE514_515 := PE514.keep K515
    have PV514_515 := PV514.keep K515 (ninS noe nin0)
    have PZ514_515 := PZ514.keep K515 (ninS noe nin0)
    have PA514_515 := PA514.keep K515 (ninS nbe nin0)
    have sz515 : n0 ≤ T515.heap.size := Nat.le_trans sz514 K515.1
    have N515 := Fr.app N514 N515q
    refine Go.st (U' := T515.setTop (mkF m 203 #[.val (.int p0), .val (.int p1), .val (.int p2), .val (.long q3), .second, .val (.int p4), .val (.int v6), .val (.int v7), .val (.int v8), .val (.int v9), .val (.ref oo), .val (.ref e1), .val (.int (8 : Int32)), .unset, .unset] [])) (fun t k => st515 _ k) ?_
    refine Go.st (U' := T515.setTop (mkF m 211 #[.val (.int p0), .val (.int p1), .val (.int p2), .val (.long q3), .second, .val (.int p4), .val (.int v6), .val (.int v7), .val (.int v8), .val (.int v9), .val (.ref oo), .val (.ref e1), .val (.int (8 : Int32)), .unset, .unset] [(.int (q3.toInt32)), (.int (12 : Int32)), (.ref e1)])) (fun t k => ?_) ?_
    · refine XS.aload X515.here hx rfl (hb hby at_203) rfl rfl ?_
      refine XS.iload X515.here hx rfl (hb hby at_205) rfl ?_
      refine XS.iconst X515.here hx rfl (hb hby at_207) ?_
      refine XS.iadd X515.here hx rfl (hb hby at_208) rfl ?_
      refine XS.lloadN X515.here hx rfl (hb hby at_209) rfl ?_
      refine XS.l2i X515.here hx rfl (hb hby at_210) rfl ?_
      exact k
    obtain ⟨_, _, ⟨T516, L516, k516, n516⟩, -, X516, ⟨Lc516, hQ516, l516, y516, z516⟩, st516⟩ := Jvm.LawKit.callS X515 hx (y := own_y16) hown (mvT hZ (own_w hw 77 rfl)) (mvT hZ (own_w hw 78 rfl)) (mvT hZ (own_w hw 38 rfl)) (mvT hZ (own_w hw 79 rfl)) (by decide) (backOf (W := 0) (rmq12 l Z a0 hw [] e1 ke c0 c1 (0 : Int32) (0 : Int32) (0 : Int32) (0 : Int32) (0 : Int32) (0 : Int32) (own_b3 (((q3.toUInt64 >>> ((32 : Int32) &&& 0x3f).toInt64.toUInt64).toInt64).toInt32)) (own_b2 (((q3.toUInt64 >>> ((32 : Int32) &&& 0x3f).toInt64.toUInt64).toInt64).toInt32)) (own_b1 (((q3.toUInt64 >>> ((32 : Int32) &&& 0x3f).toInt64.toUInt64).toInt64).toInt32)) (own_b0 (((q3.toUInt64 >>> ((32 : Int32) &&& 0x3f).toInt64.toUInt64).toInt64).toInt32)) (0 : Int32) (0 : Int32) (0 : Int32) (0 : Int32) (q3.toInt32) T515.heap n0 sz515 P515_0 gE) hZ (own_w hw 79 rfl) (own_w hw 38 rfl) (by decide) (by decide)) (g := (mkF m 211 #[.val (.int p0), .val (.int p1), .val (.int p2), .val (.long q3), .second, .val (.int p4), .val (.int v6), .val (.int v7), .val (.int v8), .val (.int v9), .val (.ref oo), .val (.ref e1), .val (.int (8 : Int32)), .unset, .unset] [(.int (q3.toInt32)), (.int (12 : Int32)), (.ref e1)])) rfl (by rw [hml]; rfl) (argsL := [(.ref e1), (.int (12 : Int32)), (.int (q3.toInt32))]) (rest := []) (lenOf pd_11 rfl) rfl (by show 2 * 0 + _ ≤ _; exact Nat.le_of_eq rfl) (hb hby at_211) (fun _ _ => ⟨rfl, rfl, (by decide : 3 + 0 ≤ _), (by decide : 274 + 0 ≤ _)⟩)
    dsimp only [Pt.U, Pt.locs, Pt.cells, Pt.slots] at X516 l516 y516 z516 st516 hQ516
    subst l516 y516 z516
    obtain ⟨rfl, N516q, K516, P516_0⟩ := hQ516
    have PE514_516 := PE514_515.keep K516
    have PV514_516 := PV514_515.keep K516 (ninS noe nin0)
    have PZ514_516 := PZ514_515.keep K516 (ninS noe nin0)
    have PA514_516 := PA514_515.keep K516 (ninS nbe nin0)
    have sz516 : n0 ≤ T516.heap.size := Nat.le_trans sz515 K516.1
    have N516 := Fr.app N515 N516q
    refine Go.st (U' := T516.setTop (mkF m 214 #[.val (.int p0), .val (.int p1), .val (.int p2), .val (.long q3), .second, .val (.int p4), .val (.int v6), .val (.int v7), .val (.int v8), .val (.int v9), .val (.ref oo), .val (.ref e1), .val (.int (8 : Int32)), .unset, .unset] [])) (fun t k => st516 _ k) ?_
    refine Go.st (U' := T516.setTop (mkF m 217 #[.val (.int p0), .val (.int p1), .val (.int p2), .val (.long q3), .second, .val (.int p4), .val (.int v6), .val (.int v7), .val (.int v8), .val (.int v9), .val (.ref oo), .val (.ref e1), .val (.int (16 : Int32)), .unset, .unset] [])) (fun t k => ?_) ?_
    · refine XS.iinc X516.here hx rfl (hb hby at_214) rfl (l' := #[.val (.int p0), .val (.int p1), .val (.int p2), .val (.long q3), .second, .val (.int p4), .val (.int v6), .val (.int v7), .val (.int v8), .val (.int v9), .val (.ref oo), .val (.ref e1), .val (.int (16 : Int32)), .unset, .unset]) rfl ?_
      exact k
    exact node217 p0 p1 p2 q3 p4 v6 v7 v8 v9 oo b1 e1 kb ke (16 : Int32) [c0, c1, (0 : Int32), (0 : Int32), (0 : Int32), (0 : Int32), (0 : Int32), (0 : Int32), (own_b3 (((q3.toUInt64 >>> ((32 : Int32) &&& 0x3f).toInt64.toUInt64).toInt64).toInt32)), (own_b2 (((q3.toUInt64 >>> ((32 : Int32) &&& 0x3f).toInt64.toUInt64).toInt64).toInt32)), (own_b1 (((q3.toUInt64 >>> ((32 : Int32) &&& 0x3f).toInt64.toUInt64).toInt64).toInt32)), (own_b0 (((q3.toUInt64 >>> ((32 : Int32) &&& 0x3f).toInt64.toUInt64).toInt64).toInt32)), (own_b3 (q3.toInt32)), (own_b2 (q3.toInt32)), (own_b1 (q3.toInt32)), (own_b0 (q3.toInt32))] [c0, c1, (0 : Int32), (0 : Int32), (0 : Int32), (0 : Int32), (0 : Int32), (0 : Int32), (own_b3 (((q3.toUInt64 >>> ((32 : Int32) &&& 0x3f).toInt64.toUInt64).toInt64).toInt32)), (own_b2 (((q3.toUInt64 >>> ((32 : Int32) &&& 0x3f).toInt64.toUInt64).toInt64).toInt32)), (own_b1 (((q3.toUInt64 >>> ((32 : Int32) &&& 0x3f).toInt64.toUInt64).toInt64).toInt32)), (own_b0 (((q3.toUInt64 >>> ((32 : Int32) &&& 0x3f).toInt64.toUInt64).toInt64).toInt32)), (own_b3 (q3.toInt32)), (own_b2 (q3.toInt32)), (own_b1 (q3.toInt32)), (own_b0 (q3.toInt32))] X516 hx hZ hw hby hml hown rfl sz516 N516 hlk hrt PE514_516 PV514_516 PZ514_516 PA514_516 P516_0 gO gB gE nob noe nbe (by decide) (by decide) (own_pk0_16 c0 c1 (0 : Int32) (0 : Int32) (0 : Int32) (0 : Int32) (0 : Int32) (0 : Int32) (own_b3 (((q3.toUInt64 >>> ((32 : Int32) &&& 0x3f).toInt64.toUInt64).toInt64).toInt32)) (own_b2 (((q3.toUInt64 >>> ((32 : Int32) &&& 0x3f).toInt64.toUInt64).toInt64).toInt32)) (own_b1 (((q3.toUInt64 >>> ((32 : Int32) &&& 0x3f).toInt64.toUInt64).toInt64).toInt32)) (own_b0 (((q3.toUInt64 >>> ((32 : Int32) &&& 0x3f).toInt64.toUInt64).toInt64).toInt32)) (own_b3 (q3.toInt32)) (own_b2 (q3.toInt32)) (own_b1 (q3.toInt32)) (own_b0 (q3.toInt32))) (own_pk8_16 c0 c1 (0 : Int32) (0 : Int32) (0 : Int32) (0 : Int32) (0 : Int32) (0 : Int32) (own_b3 (((q3.toUInt64 >>> ((32 : Int32) &&& 0x3f).toInt64.toUInt64).toInt64).toInt32)) (own_b2 (((q3.toUInt64 >>> ((32 : Int32) &&& 0x3f).toInt64.toUInt64).toInt64).toInt32)) (own_b1 (((q3.toUInt64 >>> ((32 : Int32) &&& 0x3f).toInt64.toUInt64).toInt64).toInt32)) (own_b0 (((q3.toUInt64 >>> ((32 : Int32) &&& 0x3f).toInt64.toUInt64).toInt64).toInt32)) (own_b3 (q3.toInt32)) (own_b2 (q3.toInt32)) (own_b1 (q3.toInt32)) (own_b0 (q3.toInt32)))
set_option maxRecDepth 65536 in
set_option maxHeartbeats 40000000 in
theorem node170_4 {p : Program} {l : Launch} {e : Env} {s : State} {m : MethodId} {args : Array Value} {below : List Frame} {meth : Method} {c : Code} {T0 : State} {locs : List Loc} {Z : State} {a0 : Array Value} {h0 : Heap} {n0 : Nat} (p0 : Int32) (p1 : Int32) (p2 : Int32) (q3 : Int64) (p4 : Int32) (v6 : Int32) (v7 : Int32) (v8 : Int32) (v9 : Int32) (oo : Addr) (b1 : Addr) (e1 : Addr) (kb : ClassId) (ke : ClassId) (c0 : Int32) (c1 : Int32) (c2 : Int32) (c3 : Int32)
    (X0 : Stand p l e room_1 s m args below meth c T0 locs 3 274) (hx : p.tables.exec = Jvm.exec) (hZ : Z.Warmed39 s.vm) (hw : ∀ d ∈ tables_1, d.before a0 Z = true) (hby : c.code = code) (hml : c.maxLocals = 15) (hown : s.vm.findClass "com/example/portcullis/portcullis/io/CdrOutputToByteArrayPinLaw" = some m.cls) (e0 : T0.heap = h0) (Z0 : n0 ≤ h0.size) (N0 : Fr n0 locs) (hlk : meth.locks = false) (hrt : meth.sig.returnType = some .boolean) (EX : Exa Z h0 oo "com/example/portcullis/portcullis/io/CdrOutput") (FB : Fld Z h0 oo "com/example/portcullis/portcullis/io/CdrOutput" "buffer" "[B" (.ref b1)) (FS : Fld Z h0 oo "com/example/portcullis/portcullis/io/CdrOutput" "size" "I" (.int (4 : Int32))) (VB : Arv Z h0 b1 kb .byte (256 : Int32) [(.int c0), (.int c1), (.int c2), (.int c3), (.int (0 : Int32)), (.int (0 : Int32)), (.int (0 : Int32)), (.int (0 : Int32)), (.int (0 : Int32)), (.int (0 : Int32)), (.int (0 : Int32)), (.int (0 : Int32)), (.int (0 : Int32)), (.int (0 : Int32)), (.int (0 : Int32)), (.int (0 : Int32))] (.int (0 : Int32))) (VE : Arv Z h0 e1 ke .byte (16 : Int32) [(.int c0), (.int c1), (.int c2), (.int c3), (.int (0 : Int32)), (.int (0 : Int32)), (.int (0 : Int32)), (.int (0 : Int32)), (.int (0 : Int32)), (.int (0 : Int32)), (.int (0 : Int32)), (.int (0 : Int32)), (.int (0 : Int32)), (.int (0 : Int32)), (.int (0 : Int32)), (.int (0 : Int32))] (.int (0 : Int32))) (gO : n0 ≤ oo) (gB : n0 ≤ b1) (gE : n0 ≤ e1) (nob : oo ≠ b1) (noe : oo ≠ e1) (nbe : b1 ≠ e1)
     : Go p e below (fun s₂ o => ∃ v L, o = .returned v ∧ Qx n0 v s₂.heap L ∧ FrameEnd s o s₂ L 24 704) (T0.setTop (mkF m 170 #[.val (.int p0), .val (.int p1), .val (.int p2), .val (.long q3), .second, .val (.int p4), .val (.int v6), .val (.int v7), .val (.int v8), .val (.int v9), .val (.ref oo), .val (.ref e1), .val (.int (4 : Int32)), .unset, .unset] [])) := by
  refine Go.st (U' := T0.setTop (mkF m 172 #[.val (.int p0), .val (.int p1), .val (.int p2), .val (.long q3), .second, .val (.int p4), .val (.int v6), .val (.int v7), .val (.int v8), .val (.int v9), .val (.ref oo), .val (.ref e1), .val (.int (4 : Int32)), .unset, .unset] [(.int v9)])) (fun t k => ?_) ?_
  · refine XS.iload X0.here hx rfl (hb hby at_170) rfl ?_
    exact k
  by_cases hc517 : v9 = (0 : Int32)
  · refine Go.st (U' := T0.setTop (mkF m 217 #[.val (.int p0), .val (.int p1), .val (.int p2), .val (.long q3), .second, .val (.int p4), .val (.int v6), .val (.int v7), .val (.int v8), .val (.int v9), .val (.ref oo), .val (.ref e1), .val (.int (4 : Int32)), .unset, .unset] [])) (fun t k => ?_) ?_
    · refine XS.ifYes X0.here hx rfl (pc0 := 172) (pc' := 217) rfl (hb hby at_172) rfl ((if0 _ _).trans (teq hc517).1) (by decide) (by decide) ?_
      exact k
    exact node217 p0 p1 p2 q3 p4 v6 v7 v8 v9 oo b1 e1 kb ke (4 : Int32) [c0, c1, c2, c3, (0 : Int32), (0 : Int32), (0 : Int32), (0 : Int32), (0 : Int32), (0 : Int32), (0 : Int32), (0 : Int32), (0 : Int32), (0 : Int32), (0 : Int32), (0 : Int32)] [c0, c1, c2, c3, (0 : Int32), (0 : Int32), (0 : Int32), (0 : Int32), (0 : Int32), (0 : Int32), (0 : Int32), (0 : Int32), (0 : Int32), (0 : Int32), (0 : Int32), (0 : Int32)] X0 hx hZ hw hby hml hown e0 Z0 N0 hlk hrt EX FB FS VB VE gO gB gE nob noe nbe (by decide) (by decide) (own_pk0_4 c0 c1 c2 c3) (own_pk8_4 c0 c1 c2 c3)
  · refine Go.st (U' := T0.setTop (mkF m 178 #[.val (.int p0), .val (.int p1), .val (.int p2), .val (.long q3), .second, .val (.int p4), .val (.int v6), .val (.int v7), .val (.int v8), .val (.int v9), .val (.ref oo), .val (.ref e1), .val (.int (4 : Int32)), .unset, .unset] [(.long q3), (.ref oo)])) (fun t k => ?_) ?_
    · refine XS.ifNo X0.here hx rfl (hb hby at_172) rfl ((if0 _ _).trans (feq hc517).1) ?_
      refine XS.aload X0.here hx rfl (hb hby at_175) rfl rfl ?_
      refine XS.lloadN X0.here hx rfl (hb hby at_177) rfl ?_
      exact k
    obtain ⟨cq518, kq518, q518a, q518b, q518c⟩ := isOf hZ e0 EX
    obtain ⟨_, _, ⟨T518, L518, k518, n518⟩, -, X518, ⟨Lc518, hQ518, l518, y518, z518⟩, st518⟩ := X0.virtualBack hx (y := own_y9) (z := own_y9) hown (mvT hZ (own_w hw 68 rfl)) (mvT hZ (own_w hw 69 rfl)) (notFace_of_selects (args := #[]) (mvT hZ (own_w hw 71 rfl))) (mvT hZ (own_w hw 71 rfl)) (mvT hZ (own_w hw 70 rfl)) (by decide) (backOf (W := 0) (rml4 l Z a0 hw [] oo b1 kb c0 c1 c2 c3 (0 : Int32) (0 : Int32) (0 : Int32) (0 : Int32) (0 : Int32) (0 : Int32) (0 : Int32) (0 : Int32) (0 : Int32) (0 : Int32) (0 : Int32) (0 : Int32) q3 h0 n0 Z0 EX FB FS VB gO gB nob) hZ (own_w hw 72 rfl) (own_w hw 2 rfl) (by decide) (by decide)) q518a q518c (g := (mkF m 178 #[.val (.int p0), .val (.int p1), .val (.int p2), .val (.long q3), .second, .val (.int p4), .val (.int v6), .val (.int v7), .val (.int v8), .val (.int v9), .val (.ref oo), .val (.ref e1), .val (.int (4 : Int32)), .unset, .unset] [(.long q3), (.ref oo)])) rfl (by rw [hml]; rfl) (Steps.refl _) (argsL := [(.long q3)]) (rest := []) (lenOf pd_10 rfl) rfl (by show 2 * 0 + _ ≤ _; exact Nat.le_of_eq rfl) (hb hby at_178) (fun _ _ => ⟨rfl, e0, (by decide : 3 + 0 ≤ _), (by decide : 274 + 0 ≤ _)⟩)
    dsimp only [Pt.U, Pt.locs, Pt.cells, Pt.slots] at X518 l518 y518 z518 st518 hQ518
    subst l518 y518 z518
    obtain ⟨rfl, N518q, K518, PE518, PV518, PZ518, PA518⟩ := hQ518
    have EX_518 := EX.keep K518
    have VE_518 := VE.keep K518 (ninS (Ne.symm noe) (ninS (Ne.symm nbe) nin0))
    have sz518 : n0 ≤ T518.heap.size := Nat.le_trans Z0 K518.1
    have N518 := Fr.app N0 N518q
    refine Go.tr (U' := T518.setTop (mkF m 181 #[.val (.int p0), .val (.int p1), .val (.int p2), .val (.long q3), .second, .val (.int p4), .val (.int v6), .val (.int v7), .val (.int v8), .val (.int v9), .val (.ref oo), .val (.ref e1), .val (.int (4 : Int32)), .unset, .unset] [])) st518 ?_
    refine Go.st (U' := T518.setTop (mkF m 200 #[.val (.int p0), .val (.int p1), .val (.int p2), .val (.long q3), .second, .val (.int p4), .val (.int v6), .val (.int v7), .val (.int v8), .val (.int v9), .val (.ref oo), .val (.ref e1), .val (.int (8 : Int32)), .unset, .unset] [(.int (((q3.toUInt64 >>> ((32 : Int32) &&& 0x3f).toInt64.toUInt64).toInt64).toInt32)), (.int (8 : Int32)), (.ref e1)])) (fun t k => ?_) ?_
    · refine XS.iload X518.here hx rfl (hb hby at_181) rfl ?_
      refine XS.bipush X518.here hx rfl (hb hby at_183) ?_
      refine XS.iadd X518.here hx rfl (hb hby at_185) rfl ?_
      refine XS.bipush X518.here hx rfl (hb hby at_186) ?_
      refine XS.iand X518.here hx rfl (hb hby at_188) rfl ?_
      refine XS.istore X518.here hx rfl (hb hby at_189) rfl (l' := #[.val (.int p0), .val (.int p1), .val (.int p2), .val (.long q3), .second, .val (.int p4), .val (.int v6), .val (.int v7), .val (.int v8), .val (.int v9), .val (.ref oo), .val (.ref e1), .val (.int (8 : Int32)), .unset, .unset]) rfl ?_
      refine XS.aload X518.here hx rfl (hb hby at_191) rfl rfl ?_
      refine XS.iload X518.here hx rfl (hb hby at_193) rfl ?_
      refine XS.lloadN X518.here hx rfl (hb hby at_195) rfl ?_
      refine XS.bipush X518.here hx rfl (hb hby at_196) ?_
      refine XS.lushr X518.here hx rfl (hb hby at_198) rfl ?_
      refine XS.l2i X518.here hx rfl (hb hby at_199) rfl ?_
      exact k
    obtain ⟨_, _, ⟨T519, L519, k519, n519⟩, -, X519, ⟨Lc519, hQ519, l519, y519, z519⟩, st519⟩ := Jvm.LawKit.callS X518 hx (y := own_y16) hown (mvT hZ (own_w hw 77 rfl)) (mvT hZ (own_w hw 78 rfl)) (mvT hZ (own_w hw 38 rfl)) (mvT hZ (own_w hw 79 rfl)) (by decide) (backOf (W := 0) (rmq8 l Z a0 hw [] e1 ke c0 c1 c2 c3 (0 : Int32) (0 : Int32) (0 : Int32) (0 : Int32) (0 : Int32) (0 : Int32) (0 : Int32) (0 : Int32) (0 : Int32) (0 : Int32) (0 : Int32) (0 : Int32) (((q3.toUInt64 >>> ((32 : Int32) &&& 0x3f).toInt64.toUInt64).toInt64).toInt32) T518.heap n0 sz518 VE_518 gE) hZ (own_w hw 79 rfl) (own_w hw 38 rfl) (by decide) (by decide)) (g := (mkF m 200 #[.val (.int p0), .val (.int p1), .val (.int p2), .val (.long q3), .second, .val (.int p4), .val (.int v6), .val (.int v7), .val (.int v8), .val (.int v9), .val (.ref oo), .val (.ref e1), .val (.int (8 : Int32)), .unset, .unset] [(.int (((q3.toUInt64 >>> ((32 : Int32) &&& 0x3f).toInt64.toUInt64).toInt64).toInt32)), (.int (8 : Int32)), (.ref e1)])) rfl (by rw [hml]; rfl) (argsL := [(.ref e1), (.int (8 : Int32)), (.int (((q3.toUInt64 >>> ((32 : Int32) &&& 0x3f).toInt64.toUInt64).toInt64).toInt32))]) (rest := []) (lenOf pd_11 rfl) rfl (by show 2 * 0 + _ ≤ _; exact Nat.le_of_eq rfl) (hb hby at_200) (fun _ _ => ⟨rfl, rfl, (by decide : 3 + 0 ≤ _), (by decide : 274 + 0 ≤ _)⟩)
    dsimp only [Pt.U, Pt.locs, Pt.cells, Pt.slots] at X519 l519 y519 z519 st519 hQ519
    subst l519 y519 z519
    obtain ⟨rfl, N519q, K519, P519_0⟩ := hQ519
    have PE518_519 := PE518.keep K519
    have PV518_519 := PV518.keep K519 (ninS noe nin0)
    have PZ518_519 := PZ518.keep K519 (ninS noe nin0)
    have PA518_519 := PA518.keep K519 (ninS nbe nin0)
    have sz519 : n0 ≤ T519.heap.size := Nat.le_trans sz518 K519.1
    have N519 := Fr.app N518 N519q
    refine Go.st (U' := T519.setTop (mkF m 203 #[.val (.int p0), .val (.int p1), .val (.int p2), .val (.long q3), .second, .val (.int p4), .val (.int v6), .val (.int v7), .val (.int v8), .val (.int v9), .val (.ref oo), .val (.ref e1), .val (.int (8 : Int32)), .unset, .unset] [])) (fun t k => st519 _ k) ?_
    refine Go.st (U' := T519.setTop (mkF m 211 #[.val (.int p0), .val (.int p1), .val (.int p2), .val (.long q3), .second, .val (.int p4), .val (.int v6), .val (.int v7), .val (.int v8), .val (.int v9), .val (.ref oo), .val (.ref e1), .val (.int (8 : Int32)), .unset, .unset] [(.int (q3.toInt32)), (.int (12 : Int32)), (.ref e1)])) (fun t k => ?_) ?_
    · refine XS.aload X519.here hx rfl (hb hby at_203) rfl rfl ?_
      refine XS.iload X519.here hx rfl (hb hby at_205) rfl ?_
      refine XS.iconst X519.here hx rfl (hb hby at_207) ?_
      refine XS.iadd X519.here hx rfl (hb hby at_208) rfl ?_
      refine XS.lloadN X519.here hx rfl (hb hby at_209) rfl ?_
      refine XS.l2i X519.here hx rfl (hb hby at_210) rfl ?_
      exact k
    obtain ⟨_, _, ⟨T520, L520, k520, n520⟩, -, X520, ⟨Lc520, hQ520, l520, y520, z520⟩, st520⟩ := Jvm.LawKit.callS X519 hx (y := own_y16) hown (mvT hZ (own_w hw 77 rfl)) (mvT hZ (own_w hw 78 rfl)) (mvT hZ (own_w hw 38 rfl)) (mvT hZ (own_w hw 79 rfl)) (by decide) (backOf (W := 0) (rmq12 l Z a0 hw [] e1 ke c0 c1 c2 c3 (0 : Int32) (0 : Int32) (0 : Int32) (0 : Int32) (own_b3 (((q3.toUInt64 >>> ((32 : Int32) &&& 0x3f).toInt64.toUInt64).toInt64).toInt32)) (own_b2 (((q3.toUInt64 >>> ((32 : Int32) &&& 0x3f).toInt64.toUInt64).toInt64).toInt32)) (own_b1 (((q3.toUInt64 >>> ((32 : Int32) &&& 0x3f).toInt64.toUInt64).toInt64).toInt32)) (own_b0 (((q3.toUInt64 >>> ((32 : Int32) &&& 0x3f).toInt64.toUInt64).toInt64).toInt32)) (0 : Int32) (0 : Int32) (0 : Int32) (0 : Int32) (q3.toInt32) T519.heap n0 sz519 P519_0 gE) hZ (own_w hw 79 rfl) (own_w hw 38 rfl) (by decide) (by decide)) (g := (mkF m 211 #[.val (.int p0), .val (.int p1), .val (.int p2), .val (.long q3), .second, .val (.int p4), .val (.int v6), .val (.int v7), .val (.int v8), .val (.int v9), .val (.ref oo), .val (.ref e1), .val (.int (8 : Int32)), .unset, .unset] [(.int (q3.toInt32)), (.int (12 : Int32)), (.ref e1)])) rfl (by rw [hml]; rfl) (argsL := [(.ref e1), (.int (12 : Int32)), (.int (q3.toInt32))]) (rest := []) (lenOf pd_11 rfl) rfl (by show 2 * 0 + _ ≤ _; exact Nat.le_of_eq rfl) (hb hby at_211) (fun _ _ => ⟨rfl, rfl, (by decide : 3 + 0 ≤ _), (by decide : 274 + 0 ≤ _)⟩)
    dsimp only [Pt.U, Pt.locs, Pt.cells, Pt.slots] at X520 l520 y520 z520 st520 hQ520
    subst l520 y520 z520
    obtain ⟨rfl, N520q, K520, P520_0⟩ := hQ520
    have PE518_520 := PE518_519.keep K520
    have PV518_520 := PV518_519.keep K520 (ninS noe nin0)
    have PZ518_520 := PZ518_519.keep K520 (ninS noe nin0)
    have PA518_520 := PA518_519.keep K520 (ninS nbe nin0)
    have sz520 : n0 ≤ T520.heap.size := Nat.le_trans sz519 K520.1
    have N520 := Fr.app N519 N520q
    refine Go.st (U' := T520.setTop (mkF m 214 #[.val (.int p0), .val (.int p1), .val (.int p2), .val (.long q3), .second, .val (.int p4), .val (.int v6), .val (.int v7), .val (.int v8), .val (.int v9), .val (.ref oo), .val (.ref e1), .val (.int (8 : Int32)), .unset, .unset] [])) (fun t k => st520 _ k) ?_
    refine Go.st (U' := T520.setTop (mkF m 217 #[.val (.int p0), .val (.int p1), .val (.int p2), .val (.long q3), .second, .val (.int p4), .val (.int v6), .val (.int v7), .val (.int v8), .val (.int v9), .val (.ref oo), .val (.ref e1), .val (.int (16 : Int32)), .unset, .unset] [])) (fun t k => ?_) ?_
    · refine XS.iinc X520.here hx rfl (hb hby at_214) rfl (l' := #[.val (.int p0), .val (.int p1), .val (.int p2), .val (.long q3), .second, .val (.int p4), .val (.int v6), .val (.int v7), .val (.int v8), .val (.int v9), .val (.ref oo), .val (.ref e1), .val (.int (16 : Int32)), .unset, .unset]) rfl ?_
      exact k
    exact node217 p0 p1 p2 q3 p4 v6 v7 v8 v9 oo b1 e1 kb ke (16 : Int32) [c0, c1, c2, c3, (0 : Int32), (0 : Int32), (0 : Int32), (0 : Int32), (own_b3 (((q3.toUInt64 >>> ((32 : Int32) &&& 0x3f).toInt64.toUInt64).toInt64).toInt32)), (own_b2 (((q3.toUInt64 >>> ((32 : Int32) &&& 0x3f).toInt64.toUInt64).toInt64).toInt32)), (own_b1 (((q3.toUInt64 >>> ((32 : Int32) &&& 0x3f).toInt64.toUInt64).toInt64).toInt32)), (own_b0 (((q3.toUInt64 >>> ((32 : Int32) &&& 0x3f).toInt64.toUInt64).toInt64).toInt32)), (own_b3 (q3.toInt32)), (own_b2 (q3.toInt32)), (own_b1 (q3.toInt32)), (own_b0 (q3.toInt32))] [c0, c1, c2, c3, (0 : Int32), (0 : Int32), (0 : Int32), (0 : Int32), (own_b3 (((q3.toUInt64 >>> ((32 : Int32) &&& 0x3f).toInt64.toUInt64).toInt64).toInt32)), (own_b2 (((q3.toUInt64 >>> ((32 : Int32) &&& 0x3f).toInt64.toUInt64).toInt64).toInt32)), (own_b1 (((q3.toUInt64 >>> ((32 : Int32) &&& 0x3f).toInt64.toUInt64).toInt64).toInt32)), (own_b0 (((q3.toUInt64 >>> ((32 : Int32) &&& 0x3f).toInt64.toUInt64).toInt64).toInt32)), (own_b3 (q3.toInt32)), (own_b2 (q3.toInt32)), (own_b1 (q3.toInt32)), (own_b0 (q3.toInt32))] X520 hx hZ hw hby hml hown rfl sz520 N520 hlk hrt PE518_520 PV518_520 PZ518_520 PA518_520 P520_0 gO gB gE nob noe nbe (by decide) (by decide) (own_pk0_16 c0 c1 c2 c3 (0 : Int32) (0 : Int32) (0 : Int32) (0 : Int32) (own_b3 (((q3.toUInt64 >>> ((32 : Int32) &&& 0x3f).toInt64.toUInt64).toInt64).toInt32)) (own_b2 (((q3.toUInt64 >>> ((32 : Int32) &&& 0x3f).toInt64.toUInt64).toInt64).toInt32)) (own_b1 (((q3.toUInt64 >>> ((32 : Int32) &&& 0x3f).toInt64.toUInt64).toInt64).toInt32)) (own_b0 (((q3.toUInt64 >>> ((32 : Int32) &&& 0x3f).toInt64.toUInt64).toInt64).toInt32)) (own_b3 (q3.toInt32)) (own_b2 (q3.toInt32)) (own_b1 (q3.toInt32)) (own_b0 (q3.toInt32))) (own_pk8_16 c0 c1 c2 c3 (0 : Int32) (0 : Int32) (0 : Int32) (0 : Int32) (own_b3 (((q3.toUInt64 >>> ((32 : Int32) &&& 0x3f).toInt64.toUInt64).toInt64).toInt32)) (own_b2 (((q3.toUInt64 >>> ((32 : Int32) &&& 0x3f).toInt64.toUInt64).toInt64).toInt32)) (own_b1 (((q3.toUInt64 >>> ((32 : Int32) &&& 0x3f).toInt64.toUInt64).toInt64).toInt32)) (own_b0 (((q3.toUInt64 >>> ((32 : Int32) &&& 0x3f).toInt64.toUInt64).toInt64).toInt32)) (own_b3 (q3.toInt32)) (own_b2 (q3.toInt32)) (own_b1 (q3.toInt32)) (own_b0 (q3.toInt32)))
set_option maxRecDepth 65536 in
set_option maxHeartbeats 40000000 in
theorem node170_8 {p : Program} {l : Launch} {e : Env} {s : State} {m : MethodId} {args : Array Value} {below : List Frame} {meth : Method} {c : Code} {T0 : State} {locs : List Loc} {Z : State} {a0 : Array Value} {h0 : Heap} {n0 : Nat} (p0 : Int32) (p1 : Int32) (p2 : Int32) (q3 : Int64) (p4 : Int32) (v6 : Int32) (v7 : Int32) (v8 : Int32) (v9 : Int32) (oo : Addr) (b1 : Addr) (e1 : Addr) (kb : ClassId) (ke : ClassId) (c0 : Int32) (c1 : Int32) (c2 : Int32) (c3 : Int32) (c4 : Int32) (c5 : Int32) (c6 : Int32) (c7 : Int32)
    (X0 : Stand p l e room_1 s m args below meth c T0 locs 3 274) (hx : p.tables.exec = Jvm.exec) (hZ : Z.Warmed39 s.vm) (hw : ∀ d ∈ tables_1, d.before a0 Z = true) (hby : c.code = code) (hml : c.maxLocals = 15) (hown : s.vm.findClass "com/example/portcullis/portcullis/io/CdrOutputToByteArrayPinLaw" = some m.cls) (e0 : T0.heap = h0) (Z0 : n0 ≤ h0.size) (N0 : Fr n0 locs) (hlk : meth.locks = false) (hrt : meth.sig.returnType = some .boolean) (EX : Exa Z h0 oo "com/example/portcullis/portcullis/io/CdrOutput") (FB : Fld Z h0 oo "com/example/portcullis/portcullis/io/CdrOutput" "buffer" "[B" (.ref b1)) (FS : Fld Z h0 oo "com/example/portcullis/portcullis/io/CdrOutput" "size" "I" (.int (8 : Int32))) (VB : Arv Z h0 b1 kb .byte (256 : Int32) [(.int c0), (.int c1), (.int c2), (.int c3), (.int c4), (.int c5), (.int c6), (.int c7), (.int (0 : Int32)), (.int (0 : Int32)), (.int (0 : Int32)), (.int (0 : Int32)), (.int (0 : Int32)), (.int (0 : Int32)), (.int (0 : Int32)), (.int (0 : Int32))] (.int (0 : Int32))) (VE : Arv Z h0 e1 ke .byte (16 : Int32) [(.int c0), (.int c1), (.int c2), (.int c3), (.int c4), (.int c5), (.int c6), (.int c7), (.int (0 : Int32)), (.int (0 : Int32)), (.int (0 : Int32)), (.int (0 : Int32)), (.int (0 : Int32)), (.int (0 : Int32)), (.int (0 : Int32)), (.int (0 : Int32))] (.int (0 : Int32))) (gO : n0 ≤ oo) (gB : n0 ≤ b1) (gE : n0 ≤ e1) (nob : oo ≠ b1) (noe : oo ≠ e1) (nbe : b1 ≠ e1)
     : Go p e below (fun s₂ o => ∃ v L, o = .returned v ∧ Qx n0 v s₂.heap L ∧ FrameEnd s o s₂ L 24 704) (T0.setTop (mkF m 170 #[.val (.int p0), .val (.int p1), .val (.int p2), .val (.long q3), .second, .val (.int p4), .val (.int v6), .val (.int v7), .val (.int v8), .val (.int v9), .val (.ref oo), .val (.ref e1), .val (.int (8 : Int32)), .unset, .unset] [])) := by
  refine Go.st (U' := T0.setTop (mkF m 172 #[.val (.int p0), .val (.int p1), .val (.int p2), .val (.long q3), .second, .val (.int p4), .val (.int v6), .val (.int v7), .val (.int v8), .val (.int v9), .val (.ref oo), .val (.ref e1), .val (.int (8 : Int32)), .unset, .unset] [(.int v9)])) (fun t k => ?_) ?_
  · refine XS.iload X0.here hx rfl (hb hby at_170) rfl ?_
    exact k
  by_cases hc521 : v9 = (0 : Int32)
  · refine Go.st (U' := T0.setTop (mkF m 217 #[.val (.int p0), .val (.int p1), .val (.int p2), .val (.long q3), .second, .val (.int p4), .val (.int v6), .val (.int v7), .val (.int v8), .val (.int v9), .val (.ref oo), .val (.ref e1), .val (.int (8 : Int32)), .unset, .unset] [])) (fun t k => ?_) ?_
    · refine XS.ifYes X0.here hx rfl (pc0 := 172) (pc' := 217) rfl (hb hby at_172) rfl ((if0 _ _).trans (teq hc521).1) (by decide) (by decide) ?_
      exact k
    exact node217 p0 p1 p2 q3 p4 v6 v7 v8 v9 oo b1 e1 kb ke (8 : Int32) [c0, c1, c2, c3, c4, c5, c6, c7, (0 : Int32), (0 : Int32), (0 : Int32), (0 : Int32), (0 : Int32), (0 : Int32), (0 : Int32), (0 : Int32)] [c0, c1, c2, c3, c4, c5, c6, c7, (0 : Int32), (0 : Int32), (0 : Int32), (0 : Int32), (0 : Int32), (0 : Int32), (0 : Int32), (0 : Int32)] X0 hx hZ hw hby hml hown e0 Z0 N0 hlk hrt EX FB FS VB VE gO gB gE nob noe nbe (by decide) (by decide) (own_pk0_8 c0 c1 c2 c3 c4 c5 c6 c7) (own_pk8_8 c0 c1 c2 c3 c4 c5 c6 c7)
  · refine Go.st (U' := T0.setTop (mkF m 178 #[.val (.int p0), .val (.int p1), .val (.int p2), .val (.long q3), .second, .val (.int p4), .val (.int v6), .val (.int v7), .val (.int v8), .val (.int v9), .val (.ref oo), .val (.ref e1), .val (.int (8 : Int32)), .unset, .unset] [(.long q3), (.ref oo)])) (fun t k => ?_) ?_
    · refine XS.ifNo X0.here hx rfl (hb hby at_172) rfl ((if0 _ _).trans (feq hc521).1) ?_
      refine XS.aload X0.here hx rfl (hb hby at_175) rfl rfl ?_
      refine XS.lloadN X0.here hx rfl (hb hby at_177) rfl ?_
      exact k
    obtain ⟨cq522, kq522, q522a, q522b, q522c⟩ := isOf hZ e0 EX
    obtain ⟨_, _, ⟨T522, L522, k522, n522⟩, -, X522, ⟨Lc522, hQ522, l522, y522, z522⟩, st522⟩ := X0.virtualBack hx (y := own_y9) (z := own_y9) hown (mvT hZ (own_w hw 68 rfl)) (mvT hZ (own_w hw 69 rfl)) (notFace_of_selects (args := #[]) (mvT hZ (own_w hw 71 rfl))) (mvT hZ (own_w hw 71 rfl)) (mvT hZ (own_w hw 70 rfl)) (by decide) (backOf (W := 0) (rml8 l Z a0 hw [] oo b1 kb c0 c1 c2 c3 c4 c5 c6 c7 (0 : Int32) (0 : Int32) (0 : Int32) (0 : Int32) (0 : Int32) (0 : Int32) (0 : Int32) (0 : Int32) q3 h0 n0 Z0 EX FB FS VB gO gB nob) hZ (own_w hw 72 rfl) (own_w hw 2 rfl) (by decide) (by decide)) q522a q522c (g := (mkF m 178 #[.val (.int p0), .val (.int p1), .val (.int p2), .val (.long q3), .second, .val (.int p4), .val (.int v6), .val (.int v7), .val (.int v8), .val (.int v9), .val (.ref oo), .val (.ref e1), .val (.int (8 : Int32)), .unset, .unset] [(.long q3), (.ref oo)])) rfl (by rw [hml]; rfl) (Steps.refl _) (argsL := [(.long q3)]) (rest := []) (lenOf pd_10 rfl) rfl (by show 2 * 0 + _ ≤ _; exact Nat.le_of_eq rfl) (hb hby at_178) (fun _ _ => ⟨rfl, e0, (by decide : 3 + 0 ≤ _), (by decide : 274 + 0 ≤ _)⟩)
    dsimp only [Pt.U, Pt.locs, Pt.cells, Pt.slots] at X522 l522 y522 z522 st522 hQ522
    subst l522 y522 z522
    obtain ⟨rfl, N522q, K522, PE522, PV522, PZ522, PA522⟩ := hQ522
    have EX_522 := EX.keep K522
    have VE_522 := VE.keep K522 (ninS (Ne.symm noe) (ninS (Ne.symm nbe) nin0))
    have sz522 : n0 ≤ T522.heap.size := Nat.le_trans Z0 K522.1
    have N522 := Fr.app N0 N522q
    refine Go.tr (U' := T522.setTop (mkF m 181 #[.val (.int p0), .val (.int p1), .val (.int p2), .val (.long q3), .second, .val (.int p4), .val (.int v6), .val (.int v7), .val (.int v8), .val (.int v9), .val (.ref oo), .val (.ref e1), .val (.int (8 : Int32)), .unset, .unset] [])) st522 ?_
    refine Go.st (U' := T522.setTop (mkF m 200 #[.val (.int p0), .val (.int p1), .val (.int p2), .val (.long q3), .second, .val (.int p4), .val (.int v6), .val (.int v7), .val (.int v8), .val (.int v9), .val (.ref oo), .val (.ref e1), .val (.int (8 : Int32)), .unset, .unset] [(.int (((q3.toUInt64 >>> ((32 : Int32) &&& 0x3f).toInt64.toUInt64).toInt64).toInt32)), (.int (8 : Int32)), (.ref e1)])) (fun t k => ?_) ?_
    · refine XS.iload X522.here hx rfl (hb hby at_181) rfl ?_
      refine XS.bipush X522.here hx rfl (hb hby at_183) ?_
      refine XS.iadd X522.here hx rfl (hb hby at_185) rfl ?_
      refine XS.bipush X522.here hx rfl (hb hby at_186) ?_
      refine XS.iand X522.here hx rfl (hb hby at_188) rfl ?_
      refine XS.istore X522.here hx rfl (hb hby at_189) rfl (l' := #[.val (.int p0), .val (.int p1), .val (.int p2), .val (.long q3), .second, .val (.int p4), .val (.int v6), .val (.int v7), .val (.int v8), .val (.int v9), .val (.ref oo), .val (.ref e1), .val (.int (8 : Int32)), .unset, .unset]) rfl ?_
      refine XS.aload X522.here hx rfl (hb hby at_191) rfl rfl ?_
      refine XS.iload X522.here hx rfl (hb hby at_193) rfl ?_
      refine XS.lloadN X522.here hx rfl (hb hby at_195) rfl ?_
      refine XS.bipush X522.here hx rfl (hb hby at_196) ?_
      refine XS.lushr X522.here hx rfl (hb hby at_198) rfl ?_
      refine XS.l2i X522.here hx rfl (hb hby at_199) rfl ?_
      exact k
    obtain ⟨_, _, ⟨T523, L523, k523, n523⟩, -, X523, ⟨Lc523, hQ523, l523, y523, z523⟩, st523⟩ := Jvm.LawKit.callS X522 hx (y := own_y16) hown (mvT hZ (own_w hw 77 rfl)) (mvT hZ (own_w hw 78 rfl)) (mvT hZ (own_w hw 38 rfl)) (mvT hZ (own_w hw 79 rfl)) (by decide) (backOf (W := 0) (rmq8 l Z a0 hw [] e1 ke c0 c1 c2 c3 c4 c5 c6 c7 (0 : Int32) (0 : Int32) (0 : Int32) (0 : Int32) (0 : Int32) (0 : Int32) (0 : Int32) (0 : Int32) (((q3.toUInt64 >>> ((32 : Int32) &&& 0x3f).toInt64.toUInt64).toInt64).toInt32) T522.heap n0 sz522 VE_522 gE) hZ (own_w hw 79 rfl) (own_w hw 38 rfl) (by decide) (by decide)) (g := (mkF m 200 #[.val (.int p0), .val (.int p1), .val (.int p2), .val (.long q3), .second, .val (.int p4), .val (.int v6), .val (.int v7), .val (.int v8), .val (.int v9), .val (.ref oo), .val (.ref e1), .val (.int (8 : Int32)), .unset, .unset] [(.int (((q3.toUInt64 >>> ((32 : Int32) &&& 0x3f).toInt64.toUInt64).toInt64).toInt32)), (.int (8 : Int32)), (.ref e1)])) rfl (by rw [hml]; rfl) (argsL := [(.ref e1), (.int (8 : Int32)), (.int (((q3.toUInt64 >>> ((32 : Int32) &&& 0x3f).toInt64.toUInt64).toInt64).toInt32))]) (rest := []) (lenOf pd_11 rfl) rfl (by show 2 * 0 + _ ≤ _; exact Nat.le_of_eq rfl) (hb hby at_200) (fun _ _ => ⟨rfl, rfl, (by decide : 3 + 0 ≤ _), (by decide : 274 + 0 ≤ _)⟩)
    dsimp only [Pt.U, Pt.locs, Pt.cells, Pt.slots] at X523 l523 y523 z523 st523 hQ523
    subst l523 y523 z523
    obtain ⟨rfl, N523q, K523, P523_0⟩ := hQ523
    have PE522_523 := PE522.keep K523
    have PV522_523 := PV522.keep K523 (ninS noe nin0)
    have PZ522_523 := PZ522.keep K523 (ninS noe nin0)
    have PA522_523 := PA522.keep K523 (ninS nbe nin0)
    have sz523 : n0 ≤ T523.heap.size := Nat.le_trans sz522 K523.1
    have N523 := Fr.app N522 N523q
    refine Go.st (U' := T523.setTop (mkF m 203 #[.val (.int p0), .val (.int p1), .val (.int p2), .val (.long q3), .second, .val (.int p4), .val (.int v6), .val (.int v7), .val (.int v8), .val (.int v9), .val (.ref oo), .val (.ref e1), .val (.int (8 : Int32)), .unset, .unset] [])) (fun t k => st523 _ k) ?_
    refine Go.st (U' := T523.setTop (mkF m 211 #[.val (.int p0), .val (.int p1), .val (.int p2), .val (.long q3), .second, .val (.int p4), .val (.int v6), .val (.int v7), .val (.int v8), .val (.int v9), .val (.ref oo), .val (.ref e1), .val (.int (8 : Int32)), .unset, .unset] [(.int (q3.toInt32)), (.int (12 : Int32)), (.ref e1)])) (fun t k => ?_) ?_
    · refine XS.aload X523.here hx rfl (hb hby at_203) rfl rfl ?_
      refine XS.iload X523.here hx rfl (hb hby at_205) rfl ?_
      refine XS.iconst X523.here hx rfl (hb hby at_207) ?_
      refine XS.iadd X523.here hx rfl (hb hby at_208) rfl ?_
      refine XS.lloadN X523.here hx rfl (hb hby at_209) rfl ?_
      refine XS.l2i X523.here hx rfl (hb hby at_210) rfl ?_
      exact k
    obtain ⟨_, _, ⟨T524, L524, k524, n524⟩, -, X524, ⟨Lc524, hQ524, l524, y524, z524⟩, st524⟩ := Jvm.LawKit.callS X523 hx (y := own_y16) hown (mvT hZ (own_w hw 77 rfl)) (mvT hZ (own_w hw 78 rfl)) (mvT hZ (own_w hw 38 rfl)) (mvT hZ (own_w hw 79 rfl)) (by decide) (backOf (W := 0) (rmq12 l Z a0 hw [] e1 ke c0 c1 c2 c3 c4 c5 c6 c7 (own_b3 (((q3.toUInt64 >>> ((32 : Int32) &&& 0x3f).toInt64.toUInt64).toInt64).toInt32)) (own_b2 (((q3.toUInt64 >>> ((32 : Int32) &&& 0x3f).toInt64.toUInt64).toInt64).toInt32)) (own_b1 (((q3.toUInt64 >>> ((32 : Int32) &&& 0x3f).toInt64.toUInt64).toInt64).toInt32)) (own_b0 (((q3.toUInt64 >>> ((32 : Int32) &&& 0x3f).toInt64.toUInt64).toInt64).toInt32)) (0 : Int32) (0 : Int32) (0 : Int32) (0 : Int32) (q3.toInt32) T523.heap n0 sz523 P523_0 gE) hZ (own_w hw 79 rfl) (own_w hw 38 rfl) (by decide) (by decide)) (g := (mkF m 211 #[.val (.int p0), .val (.int p1), .val (.int p2), .val (.long q3), .second, .val (.int p4), .val (.int v6), .val (.int v7), .val (.int v8), .val (.int v9), .val (.ref oo), .val (.ref e1), .val (.int (8 : Int32)), .unset, .unset] [(.int (q3.toInt32)), (.int (12 : Int32)), (.ref e1)])) rfl (by rw [hml]; rfl) (argsL := [(.ref e1), (.int (12 : Int32)), (.int (q3.toInt32))]) (rest := []) (lenOf pd_11 rfl) rfl (by show 2 * 0 + _ ≤ _; exact Nat.le_of_eq rfl) (hb hby at_211) (fun _ _ => ⟨rfl, rfl, (by decide : 3 + 0 ≤ _), (by decide : 274 + 0 ≤ _)⟩)
    dsimp only [Pt.U, Pt.locs, Pt.cells, Pt.slots] at X524 l524 y524 z524 st524 hQ524
    subst l524 y524 z524
    obtain ⟨rfl, N524q, K524, P524_0⟩ := hQ524
    have PE522_524 := PE522_523.keep K524
    have PV522_524 := PV522_523.keep K524 (ninS noe nin0)
    have PZ522_524 := PZ522_523.keep K524 (ninS noe nin0)
    have PA522_524 := PA522_523.keep K524 (ninS nbe nin0)
    have sz524 : n0 ≤ T524.heap.size := Nat.le_trans sz523 K524.1
    have N524 := Fr.app N523 N524q
    refine Go.st (U' := T524.setTop (mkF m 214 #[.val (.int p0), .val (.int p1), .val (.int p2), .val (.long q3), .second, .val (.int p4), .val (.int v6), .val (.int v7), .val (.int v8), .val (.int v9), .val (.ref oo), .val (.ref e1), .val (.int (8 : Int32)), .unset, .unset] [])) (fun t k => st524 _ k) ?_
    refine Go.st (U' := T524.setTop (mkF m 217 #[.val (.int p0), .val (.int p1), .val (.int p2), .val (.long q3), .second, .val (.int p4), .val (.int v6), .val (.int v7), .val (.int v8), .val (.int v9), .val (.ref oo), .val (.ref e1), .val (.int (16 : Int32)), .unset, .unset] [])) (fun t k => ?_) ?_
    · refine XS.iinc X524.here hx rfl (hb hby at_214) rfl (l' := #[.val (.int p0), .val (.int p1), .val (.int p2), .val (.long q3), .second, .val (.int p4), .val (.int v6), .val (.int v7), .val (.int v8), .val (.int v9), .val (.ref oo), .val (.ref e1), .val (.int (16 : Int32)), .unset, .unset]) rfl ?_
      exact k
    exact node217 p0 p1 p2 q3 p4 v6 v7 v8 v9 oo b1 e1 kb ke (16 : Int32) [c0, c1, c2, c3, c4, c5, c6, c7, (own_b3 (((q3.toUInt64 >>> ((32 : Int32) &&& 0x3f).toInt64.toUInt64).toInt64).toInt32)), (own_b2 (((q3.toUInt64 >>> ((32 : Int32) &&& 0x3f).toInt64.toUInt64).toInt64).toInt32)), (own_b1 (((q3.toUInt64 >>> ((32 : Int32) &&& 0x3f).toInt64.toUInt64).toInt64).toInt32)), (own_b0 (((q3.toUInt64 >>> ((32 : Int32) &&& 0x3f).toInt64.toUInt64).toInt64).toInt32)), (own_b3 (q3.toInt32)), (own_b2 (q3.toInt32)), (own_b1 (q3.toInt32)), (own_b0 (q3.toInt32))] [c0, c1, c2, c3, c4, c5, c6, c7, (own_b3 (((q3.toUInt64 >>> ((32 : Int32) &&& 0x3f).toInt64.toUInt64).toInt64).toInt32)), (own_b2 (((q3.toUInt64 >>> ((32 : Int32) &&& 0x3f).toInt64.toUInt64).toInt64).toInt32)), (own_b1 (((q3.toUInt64 >>> ((32 : Int32) &&& 0x3f).toInt64.toUInt64).toInt64).toInt32)), (own_b0 (((q3.toUInt64 >>> ((32 : Int32) &&& 0x3f).toInt64.toUInt64).toInt64).toInt32)), (own_b3 (q3.toInt32)), (own_b2 (q3.toInt32)), (own_b1 (q3.toInt32)), (own_b0 (q3.toInt32))] X524 hx hZ hw hby hml hown rfl sz524 N524 hlk hrt PE522_524 PV522_524 PZ522_524 PA522_524 P524_0 gO gB gE nob noe nbe (by decide) (by decide) (own_pk0_16 c0 c1 c2 c3 c4 c5 c6 c7 (own_b3 (((q3.toUInt64 >>> ((32 : Int32) &&& 0x3f).toInt64.toUInt64).toInt64).toInt32)) (own_b2 (((q3.toUInt64 >>> ((32 : Int32) &&& 0x3f).toInt64.toUInt64).toInt64).toInt32)) (own_b1 (((q3.toUInt64 >>> ((32 : Int32) &&& 0x3f).toInt64.toUInt64).toInt64).toInt32)) (own_b0 (((q3.toUInt64 >>> ((32 : Int32) &&& 0x3f).toInt64.toUInt64).toInt64).toInt32)) (own_b3 (q3.toInt32)) (own_b2 (q3.toInt32)) (own_b1 (q3.toInt32)) (own_b0 (q3.toInt32))) (own_pk8_16 c0 c1 c2 c3 c4 c5 c6 c7 (own_b3 (((q3.toUInt64 >>> ((32 : Int32) &&& 0x3f).toInt64.toUInt64).toInt64).toInt32)) (own_b2 (((q3.toUInt64 >>> ((32 : Int32) &&& 0x3f).toInt64.toUInt64).toInt64).toInt32)) (own_b1 (((q3.toUInt64 >>> ((32 : Int32) &&& 0x3f).toInt64.toUInt64).toInt64).toInt32)) (own_b0 (((q3.toUInt64 >>> ((32 : Int32) &&& 0x3f).toInt64.toUInt64).toInt64).toInt32)) (own_b3 (q3.toInt32)) (own_b2 (q3.toInt32)) (own_b1 (q3.toInt32)) (own_b0 (q3.toInt32)))
set_option maxRecDepth 65536 in
set_option maxHeartbeats 40000000 in
theorem node139_0 {p : Program} {l : Launch} {e : Env} {s : State} {m : MethodId} {args : Array Value} {below : List Frame} {meth : Method} {c : Code} {T0 : State} {locs : List Loc} {Z : State} {a0 : Array Value} {h0 : Heap} {n0 : Nat} (p0 : Int32) (p1 : Int32) (p2 : Int32) (q3 : Int64) (p4 : Int32) (v6 : Int32) (v7 : Int32) (v8 : Int32) (v9 : Int32) (oo : Addr) (b1 : Addr) (e1 : Addr) (kb : ClassId) (ke : ClassId)
    (X0 : Stand p l e room_1 s m args below meth c T0 locs 3 274) (hx : p.tables.exec = Jvm.exec) (hZ : Z.Warmed39 s.vm) (hw : ∀ d ∈ tables_1, d.before a0 Z = true) (hby : c.code = code) (hml : c.maxLocals = 15) (hown : s.vm.findClass "com/example/portcullis/portcullis/io/CdrOutputToByteArrayPinLaw" = some m.cls) (e0 : T0.heap = h0) (Z0 : n0 ≤ h0.size) (N0 : Fr n0 locs) (hlk : meth.locks = false) (hrt : meth.sig.returnType = some .boolean) (EX : Exa Z h0 oo "com/example/portcullis/portcullis/io/CdrOutput") (FB : Fld Z h0 oo "com/example/portcullis/portcullis/io/CdrOutput" "buffer" "[B" (.ref b1)) (FS : Fld Z h0 oo "com/example/portcullis/portcullis/io/CdrOutput" "size" "I" (.int (0 : Int32))) (VB : Arv Z h0 b1 kb .byte (256 : Int32) [(.int (0 : Int32)), (.int (0 : Int32)), (.int (0 : Int32)), (.int (0 : Int32)), (.int (0 : Int32)), (.int (0 : Int32)), (.int (0 : Int32)), (.int (0 : Int32)), (.int (0 : Int32)), (.int (0 : Int32)), (.int (0 : Int32)), (.int (0 : Int32)), (.int (0 : Int32)), (.int (0 : Int32)), (.int (0 : Int32)), (.int (0 : Int32))] (.int (0 : Int32))) (VE : Arv Z h0 e1 ke .byte (16 : Int32) [(.int (0 : Int32)), (.int (0 : Int32)), (.int (0 : Int32)), (.int (0 : Int32)), (.int (0 : Int32)), (.int (0 : Int32)), (.int (0 : Int32)), (.int (0 : Int32)), (.int (0 : Int32)), (.int (0 : Int32)), (.int (0 : Int32)), (.int (0 : Int32)), (.int (0 : Int32)), (.int (0 : Int32)), (.int (0 : Int32)), (.int (0 : Int32))] (.int (0 : Int32))) (gO : n0 ≤ oo) (gB : n0 ≤ b1) (gE : n0 ≤ e1) (nob : oo ≠ b1) (noe : oo ≠ e1) (nbe : b1 ≠ e1)
     : Go p e below (fun s₂ o => ∃ v L, o = .returned v ∧ Qx n0 v s₂.heap L ∧ FrameEnd s o s₂ L 24 704) (T0.setTop (mkF m 139 #[.val (.int p0), .val (.int p1), .val (.int p2), .val (.long q3), .second, .val (.int p4), .val (.int v6), .val (.int v7), .val (.int v8), .val (.int v9), .val (.ref oo), .val (.ref e1), .val (.int (0 : Int32)), .unset, .unset] [])) := by
  refine Go.st (U' := T0.setTop (mkF m 141 #[.val (.int p0), .val (.int p1), .val (.int p2), .val (.long q3), .second, .val (.int p4), .val (.int v6), .val (.int v7), .val (.int v8), .val (.int v9), .val (.ref oo), .val (.ref e1), .val (.int (0 : Int32)), .unset, .unset] [(.int v8)])) (fun t k => ?_) ?_
  · refine XS.iload X0.here hx rfl (hb hby at_139) rfl ?_
    exact k
  by_cases hc525 : v8 = (0 : Int32)
  · refine Go.st (U' := T0.setTop (mkF m 170 #[.val (.int p0), .val (.int p1), .val (.int p2), .val (.long q3), .second, .val (.int p4), .val (.int v6), .val (.int v7), .val (.int v8), .val (.int v9), .val (.ref oo), .val (.ref e1), .val (.int (0 : Int32)), .unset, .unset] [])) (fun t k => ?_) ?_
    · refine XS.ifYes X0.here hx rfl (pc0 := 141) (pc' := 170) rfl (hb hby at_141) rfl ((if0 _ _).trans (teq hc525).1) (by decide) (by decide) ?_
      exact k
    exact node170_0 p0 p1 p2 q3 p4 v6 v7 v8 v9 oo b1 e1 kb ke  X0 hx hZ hw hby hml hown e0 Z0 N0 hlk hrt EX FB FS VB VE gO gB gE nob noe nbe
  · refine Go.st (U' := T0.setTop (mkF m 147 #[.val (.int p0), .val (.int p1), .val (.int p2), .val (.long q3), .second, .val (.int p4), .val (.int v6), .val (.int v7), .val (.int v8), .val (.int v9), .val (.ref oo), .val (.ref e1), .val (.int (0 : Int32)), .unset, .unset] [(.int p2), (.ref oo)])) (fun t k => ?_) ?_
    · refine XS.ifNo X0.here hx rfl (hb hby at_141) rfl ((if0 _ _).trans (feq hc525).1) ?_
      refine XS.aload X0.here hx rfl (hb hby at_144) rfl rfl ?_
      refine XS.iloadN X0.here hx rfl (hb hby at_146) rfl ?_
      exact k
    obtain ⟨cq526, kq526, q526a, q526b, q526c⟩ := isOf hZ e0 EX
    obtain ⟨_, _, ⟨T526, L526, k526, n526⟩, -, X526, ⟨Lc526, hQ526, l526, y526, z526⟩, st526⟩ := X0.virtualBack hx (y := own_y8) (z := own_y8) hown (mvT hZ (own_w hw 80 rfl)) (mvT hZ (own_w hw 81 rfl)) (notFace_of_selects (args := #[]) (mvT hZ (own_w hw 83 rfl))) (mvT hZ (own_w hw 83 rfl)) (mvT hZ (own_w hw 82 rfl)) (by decide) (backOf (W := 0) (rmn0 l Z a0 hw [] oo b1 kb (0 : Int32) (0 : Int32) (0 : Int32) (0 : Int32) (0 : Int32) (0 : Int32) (0 : Int32) (0 : Int32) (0 : Int32) (0 : Int32) (0 : Int32) (0 : Int32) (0 : Int32) (0 : Int32) (0 : Int32) (0 : Int32) p2 h0 n0 Z0 EX FB FS VB gO gB nob) hZ (own_w hw 84 rfl) (own_w hw 2 rfl) (by decide) (by decide)) q526a q526c (g := (mkF m 147 #[.val (.int p0), .val (.int p1), .val (.int p2), .val (.long q3), .second, .val (.int p4), .val (.int v6), .val (.int v7), .val (.int v8), .val (.int v9), .val (.ref oo), .val (.ref e1), .val (.int (0 : Int32)), .unset, .unset] [(.int p2), (.ref oo)])) rfl (by rw [hml]; rfl) (Steps.refl _) (argsL := [(.int p2)]) (rest := []) (lenOf pd_0 rfl) rfl (by show 2 * 0 + _ ≤ _; exact Nat.le_of_eq rfl) (hb hby at_147) (fun _ _ => ⟨rfl, e0, (by decide : 3 + 0 ≤ _), (by decide : 274 + 0 ≤ _)⟩)
    dsimp only [Pt.U, Pt.locs, Pt.cells, Pt.slots] at X526 l526 y526 z526 st526 hQ526
    subst l526 y526 z526
    obtain ⟨rfl, N526q, K526, PE526, PV526, PZ526, PA526⟩ := hQ526
    have EX_526 := EX.keep K526
    have VE_526 := VE.keep K526 (ninS (Ne.symm noe) (ninS (Ne.symm nbe) nin0))
    have sz526 : n0 ≤ T526.heap.size := Nat.le_trans Z0 K526.1
    have N526 := Fr.app N0 N526q
    refine Go.tr (U' := T526.setTop (mkF m 150 #[.val (.int p0), .val (.int p1), .val (.int p2), .val (.long q3), .second, .val (.int p4), .val (.int v6), .val (.int v7), .val (.int v8), .val (.int v9), .val (.ref oo), .val (.ref e1), .val (.int (0 : Int32)), .unset, .unset] [])) st526 ?_
    refine Go.st (U' := T526.setTop (mkF m 164 #[.val (.int p0), .val (.int p1), .val (.int p2), .val (.long q3), .second, .val (.int p4), .val (.int v6), .val (.int v7), .val (.int v8), .val (.int v9), .val (.ref oo), .val (.ref e1), .val (.int (0 : Int32)), .unset, .unset] [(.int p2), (.int (0 : Int32)), (.ref e1)])) (fun t k => ?_) ?_
    · refine XS.iload X526.here hx rfl (hb hby at_150) rfl ?_
      refine XS.iconst X526.here hx rfl (hb hby at_152) ?_
      refine XS.iadd X526.here hx rfl (hb hby at_153) rfl ?_
      refine XS.bipush X526.here hx rfl (hb hby at_154) ?_
      refine XS.iand X526.here hx rfl (hb hby at_156) rfl ?_
      refine XS.istore X526.here hx rfl (hb hby at_157) rfl (l' := #[.val (.int p0), .val (.int p1), .val (.int p2), .val (.long q3), .second, .val (.int p4), .val (.int v6), .val (.int v7), .val (.int v8), .val (.int v9), .val (.ref oo), .val (.ref e1), .val (.int (0 : Int32)), .unset, .unset]) rfl ?_
      refine XS.aload X526.here hx rfl (hb hby at_159) rfl rfl ?_
      refine XS.iload X526.here hx rfl (hb hby at_161) rfl ?_
      refine XS.iloadN X526.here hx rfl (hb hby at_163) rfl ?_
      exact k
    obtain ⟨_, _, ⟨T527, L527, k527, n527⟩, -, X527, ⟨Lc527, hQ527, l527, y527, z527⟩, st527⟩ := Jvm.LawKit.callS X526 hx (y := own_y16) hown (mvT hZ (own_w hw 77 rfl)) (mvT hZ (own_w hw 78 rfl)) (mvT hZ (own_w hw 38 rfl)) (mvT hZ (own_w hw 79 rfl)) (by decide) (backOf (W := 0) (rmq0 l Z a0 hw [] e1 ke (0 : Int32) (0 : Int32) (0 : Int32) (0 : Int32) (0 : Int32) (0 : Int32) (0 : Int32) (0 : Int32) (0 : Int32) (0 : Int32) (0 : Int32) (0 : Int32) (0 : Int32) (0 : Int32) (0 : Int32) (0 : Int32) p2 T526.heap n0 sz526 VE_526 gE) hZ (own_w hw 79 rfl) (own_w hw 38 rfl) (by decide) (by decide)) (g := (mkF m 164 #[.val (.int p0), .val (.int p1), .val (.int p2), .val (.long q3), .second, .val (.int p4), .val (.int v6), .val (.int v7), .val (.int v8), .val (.int v9), .val (.ref oo), .val (.ref e1), .val (.int (0 : Int32)), .unset, .unset] [(.int p2), (.int (0 : Int32)), (.ref e1)])) rfl (by rw [hml]; rfl) (argsL := [(.ref e1), (.int (0 : Int32)), (.int p2)]) (rest := []) (lenOf pd_11 rfl) rfl (by show 2 * 0 + _ ≤ _; exact Nat.le_of_eq rfl) (hb hby at_164) (fun _ _ => ⟨rfl, rfl, (by decide : 3 + 0 ≤ _), (by decide : 274 + 0 ≤ _)⟩)
    dsimp only [Pt.U, Pt.locs, Pt.cells, Pt.slots] at X527 l527 y527 z527 st527 hQ527
    subst l527 y527 z527
    obtain ⟨rfl, N527q, K527, P527_0⟩ := hQ527
    have PE526_527 := PE526.keep K527
    have PV526_527 := PV526.keep K527 (ninS noe nin0)
    have PZ526_527 := PZ526.keep K527 (ninS noe nin0)
    have PA526_527 := PA526.keep K527 (ninS nbe nin0)
    have sz527 : n0 ≤ T527.heap.size := Nat.le_trans sz526 K527.1
    have N527 := Fr.app N526 N527q
    refine Go.st (U' := T527.setTop (mkF m 167 #[.val (.int p0), .val (.int p1), .val (.int p2), .val (.long q3), .second, .val (.int p4), .val (.int v6), .val (.int v7), .val (.int v8), .val (.int v9), .val (.ref oo), .val (.ref e1), .val (.int (0 : Int32)), .unset, .unset] [])) (fun t k => st527 _ k) ?_
    refine Go.st (U' := T527.setTop (mkF m 170 #[.val (.int p0), .val (.int p1), .val (.int p2), .val (.long q3), .second, .val (.int p4), .val (.int v6), .val (.int v7), .val (.int v8), .val (.int v9), .val (.ref oo), .val (.ref e1), .val (.int (4 : Int32)), .unset, .unset] [])) (fun t k => ?_) ?_
    · refine XS.iinc X527.here hx rfl (hb hby at_167) rfl (l' := #[.val (.int p0), .val (.int p1), .val (.int p2), .val (.long q3), .second, .val (.int p4), .val (.int v6), .val (.int v7), .val (.int v8), .val (.int v9), .val (.ref oo), .val (.ref e1), .val (.int (4 : Int32)), .unset, .unset]) rfl ?_
      exact k
    exact node170_4 p0 p1 p2 q3 p4 v6 v7 v8 v9 oo b1 e1 kb ke (own_b3 p2) (own_b2 p2) (own_b1 p2) (own_b0 p2) X527 hx hZ hw hby hml hown rfl sz527 N527 hlk hrt PE526_527 PV526_527 PZ526_527 PA526_527 P527_0 gO gB gE nob noe nbe
set_option maxRecDepth 65536 in
set_option maxHeartbeats 40000000 in
theorem node139_1 {p : Program} {l : Launch} {e : Env} {s : State} {m : MethodId} {args : Array Value} {below : List Frame} {meth : Method} {c : Code} {T0 : State} {locs : List Loc} {Z : State} {a0 : Array Value} {h0 : Heap} {n0 : Nat} (p0 : Int32) (p1 : Int32) (p2 : Int32) (q3 : Int64) (p4 : Int32) (v6 : Int32) (v7 : Int32) (v8 : Int32) (v9 : Int32) (oo : Addr) (b1 : Addr) (e1 : Addr) (kb : ClassId) (ke : ClassId) (c0 : Int32)
    (X0 : Stand p l e room_1 s m args below meth c T0 locs 3 274) (hx : p.tables.exec = Jvm.exec) (hZ : Z.Warmed39 s.vm) (hw : ∀ d ∈ tables_1, d.before a0 Z = true) (hby : c.code = code) (hml : c.maxLocals = 15) (hown : s.vm.findClass "com/example/portcullis/portcullis/io/CdrOutputToByteArrayPinLaw" = some m.cls) (e0 : T0.heap = h0) (Z0 : n0 ≤ h0.size) (N0 : Fr n0 locs) (hlk : meth.locks = false) (hrt : meth.sig.returnType = some .boolean) (EX : Exa Z h0 oo "com/example/portcullis/portcullis/io/CdrOutput") (FB : Fld Z h0 oo "com/example/portcullis/portcullis/io/CdrOutput" "buffer" "[B" (.ref b1)) (FS : Fld Z h0 oo "com/example/portcullis/portcullis/io/CdrOutput" "size" "I" (.int (1 : Int32))) (VB : Arv Z h0 b1 kb .byte (256 : Int32) [(.int c0), (.int (0 : Int32)), (.int (0 : Int32)), (.int (0 : Int32)), (.int (0 : Int32)), (.int (0 : Int32)), (.int (0 : Int32)), (.int (0 : Int32)), (.int (0 : Int32)), (.int (0 : Int32)), (.int (0 : Int32)), (.int (0 : Int32)), (.int (0 : Int32)), (.int (0 : Int32)), (.int (0 : Int32)), (.int (0 : Int32))] (.int (0 : Int32))) (VE : Arv Z h0 e1 ke .byte (16 : Int32) [(.int c0), (.int (0 : Int32)), (.int (0 : Int32)), (.int (0 : Int32)), (.int (0 : Int32)), (.int (0 : Int32)), (.int (0 : Int32)), (.int (0 : Int32)), (.int (0 : Int32)), (.int (0 : Int32)), (.int (0 : Int32)), (.int (0 : Int32)), (.int (0 : Int32)), (.int (0 : Int32)), (.int (0 : Int32)), (.int (0 : Int32))] (.int (0 : Int32))) (gO : n0 ≤ oo) (gB : n0 ≤ b1) (gE : n0 ≤ e1) (nob : oo ≠ b1) (noe : oo ≠ e1) (nbe : b1 ≠ e1)
     : Go p e below (fun s₂ o => ∃ v L, o = .returned v ∧ Qx n0 v s₂.heap L ∧ FrameEnd s o s₂ L 24 704) (T0.setTop (mkF m 139 #[.val (.int p0), .val (.int p1), .val (.int p2), .val (.long q3), .second, .val (.int p4), .val (.int v6), .val (.int v7), .val (.int v8), .val (.int v9), .val (.ref oo), .val (.ref e1), .val (.int (1 : Int32)), .unset, .unset] [])) := by
  refine Go.st (U' := T0.setTop (mkF m 141 #[.val (.int p0), .val (.int p1), .val (.int p2), .val (.long q3), .second, .val (.int p4), .val (.int v6), .val (.int v7), .val (.int v8), .val (.int v9), .val (.ref oo), .val (.ref e1), .val (.int (1 : Int32)), .unset, .unset] [(.int v8)])) (fun t k => ?_) ?_
  · refine XS.iload X0.here hx rfl (hb hby at_139) rfl ?_
    exact k
  by_cases hc528 : v8 = (0 : Int32)
  · refine Go.st (U' := T0.setTop (mkF m 170 #[.val (.int p0), .val (.int p1), .val (.int p2), .val (.long q3), .second, .val (.int p4), .val (.int v6), .val (.int v7), .val (.int v8), .val (.int v9), .val (.ref oo), .val (.ref e1), .val (.int (1 : Int32)), .unset, .unset] [])) (fun t k => ?_) ?_
    · refine XS.ifYes X0.here hx rfl (pc0 := 141) (pc' := 170) rfl (hb hby at_141) rfl ((if0 _ _).trans (teq hc528).1) (by decide) (by decide) ?_
      exact k
    exact node170_1 p0 p1 p2 q3 p4 v6 v7 v8 v9 oo b1 e1 kb ke c0 X0 hx hZ hw hby hml hown e0 Z0 N0 hlk hrt EX FB FS VB VE gO gB gE nob noe nbe
  · refine Go.st (U' := T0.setTop (mkF m 147 #[.val (.int p0), .val (.int p1), .val (.int p2), .val (.long q3), .second, .val (.int p4), .val (.int v6), .val (.int v7), .val (.int v8), .val (.int v9), .val (.ref oo), .val (.ref e1), .val (.int (1 : Int32)), .unset, .unset] [(.int p2), (.ref oo)])) (fun t k => ?_) ?_
    · refine XS.ifNo X0.here hx rfl (hb hby at_141) rfl ((if0 _ _).trans (feq hc528).1) ?_
      refine XS.aload X0.here hx rfl (hb hby at_144) rfl rfl ?_
      refine XS.iloadN X0.here hx rfl (hb hby at_146) rfl ?_
      exact k
    obtain ⟨cq529, kq529, q529a, q529b, q529c⟩ := isOf hZ e0 EX
    obtain ⟨_, _, ⟨T529, L529, k529, n529⟩, -, X529, ⟨Lc529, hQ529, l529, y529, z529⟩, st529⟩ := X0.virtualBack hx (y := own_y8) (z := own_y8) hown (mvT hZ (own_w hw 80 rfl)) (mvT hZ (own_w hw 81 rfl)) (notFace_of_selects (args := #[]) (mvT hZ (own_w hw 83 rfl))) (mvT hZ (own_w hw 83 rfl)) (mvT hZ (own_w hw 82 rfl)) (by decide) (backOf (W := 0) (rmn1 l Z a0 hw [] oo b1 kb c0 (0 : Int32) (0 : Int32) (0 : Int32) (0 : Int32) (0 : Int32) (0 : Int32) (0 : Int32) (0 : Int32) (0 : Int32) (0 : Int32) (0 : Int32) (0 : Int32) (0 : Int32) (0 : Int32) (0 : Int32) p2 h0 n0 Z0 EX FB FS VB gO gB nob) hZ (own_w hw 84 rfl) (own_w hw 2 rfl) (by decide) (by decide)) q529a q529c (g := (mkF m 147 #[.val (.int p0), .val (.int p1), .val (.int p2), .val (.long q3), .second, .val (.int p4), .val (.int v6), .val (.int v7), .val (.int v8), .val (.int v9), .val (.ref oo), .val (.ref e1), .val (.int (1 : Int32)), .unset, .unset] [(.int p2), (.ref oo)])) rfl (by rw [hml]; rfl) (Steps.refl _) (argsL := [(.int p2)]) (rest := []) (lenOf pd_0 rfl) rfl (by show 2 * 0 + _ ≤ _; exact Nat.le_of_eq rfl) (hb hby at_147) (fun _ _ => ⟨rfl, e0, (by decide : 3 + 0 ≤ _), (by decide : 274 + 0 ≤ _)⟩)
    dsimp only [Pt.U, Pt.locs, Pt.cells, Pt.slots] at X529 l529 y529 z529 st529 hQ529
    subst l529 y529 z529
    obtain ⟨rfl, N529q, K529, PE529, PV529, PZ529, PA529⟩ := hQ529
    have EX_529 := EX.keep K529
    have VE_529 := VE.keep K529 (ninS (Ne.symm noe) (ninS (Ne.symm nbe) nin0))
    have sz529 : n0 ≤ T529.heap.size := Nat.le_trans Z0 K529.1
    have N529 := Fr.app N0 N529q
    refine Go.tr (U' := T529.setTop (mkF m 150 #[.val (.int p0), .val (.int p1), .val (.int p2), .val (.long q3), .second, .val (.int p4), .val (.int v6), .val (.int v7), .val (.int v8), .val (.int v9), .val (.ref oo), .val (.ref e1), .val (.int (1 : Int32)), .unset, .unset] [])) st529 ?_
    refine Go.st (U' := T529.setTop (mkF m 164 #[.val (.int p0), .val (.int p1), .val (.int p2), .val (.long q3), .second, .val (.int p4), .val (.int v6), .val (.int v7), .val (.int v8), .val (.int v9), .val (.ref oo), .val (.ref e1), .val (.int (4 : Int32)), .unset, .unset] [(.int p2), (.int (4 : Int32)), (.ref e1)])) (fun t k => ?_) ?_
    · refine XS.iload X529.here hx rfl (hb hby at_150) rfl ?_
      refine XS.iconst X529.here hx rfl (hb hby at_152) ?_
      refine XS.iadd X529.here hx rfl (hb hby at_153) rfl ?_
      refine XS.bipush X529.here hx rfl (hb hby at_154) ?_
      refine XS.iand X529.here hx rfl (hb hby at_156) rfl ?_
      refine XS.istore X529.here hx rfl (hb hby at_157) rfl (l' := #[.val (.int p0), .val (.int p1), .val (.int p2), .val (.long q3), .second, .val (.int p4), .val (.int v6), .val (.int v7), .val (.int v8), .val (.int v9), .val (.ref oo), .val (.ref e1), .val (.int (4 : Int32)), .unset, .unset]) rfl ?_
      refine XS.aload X529.here hx rfl (hb hby at_159) rfl rfl ?_
      refine XS.iload X529.here hx rfl (hb hby at_161) rfl ?_
      refine XS.iloadN X529.here hx rfl (hb hby at_163) rfl ?_
      exact k
    obtain ⟨_, _, ⟨T530, L530, k530, n530⟩, -, X530, ⟨Lc530, hQ530, l530, y530, z530⟩, st530⟩ := Jvm.LawKit.callS X529 hx (y := own_y16) hown (mvT hZ (own_w hw 77 rfl)) (mvT hZ (own_w hw 78 rfl)) (mvT hZ (own_w hw 38 rfl)) (mvT hZ (own_w hw 79 rfl)) (by decide) (backOf (W := 0) (rmq4 l Z a0 hw [] e1 ke c0 (0 : Int32) (0 : Int32) (0 : Int32) (0 : Int32) (0 : Int32) (0 : Int32) (0 : Int32) (0 : Int32) (0 : Int32) (0 : Int32) (0 : Int32) (0 : Int32) (0 : Int32) (0 : Int32) (0 : Int32) p2 T529.heap n0 sz529 VE_529 gE) hZ (own_w hw 79 rfl) (own_w hw 38 rfl) (by decide) (by decide)) (g := (mkF m 164 #[.val (.int p0), .val (.int p1), .val (.int p2), .val (.long q3), .second, .val (.int p4), .val (.int v6), .val (.int v7), .val (.int v8), .val (.int v9), .val (.ref oo), .val (.ref e1), .val (.int (4 : Int32)), .unset, .unset] [(.int p2), (.int (4 : Int32)), (.ref e1)])) rfl (by rw [hml]; rfl) (argsL := [(.ref e1), (.int (4 : Int32)), (.int p2)]) (rest := []) (lenOf pd_11 rfl) rfl (by show 2 * 0 + _ ≤ _; exact Nat.le_of_eq rfl) (hb hby at_164) (fun _ _ => ⟨rfl, rfl, (by decide : 3 + 0 ≤ _), (by decide : 274 + 0 ≤ _)⟩)
    dsimp only [Pt.U, Pt.locs, Pt.cells, Pt.slots] at X530 l530 y530 z530 st530 hQ530
    subst l530 y530 z530
    obtain ⟨rfl, N530q, K530, P530_0⟩ := hQ530
    have PE529_530 := PE529.keep K530
    have PV529_530 := PV529.keep K530 (ninS noe nin0)
    have PZ529_530 := PZ529.keep K530 (ninS noe nin0)
    have PA529_530 := PA529.keep K530 (ninS nbe nin0)
    have sz530 : n0 ≤ T530.heap.size := Nat.le_trans sz529 K530.1
    have N530 := Fr.app N529 N530q
    refine Go.st (U' := T530.setTop (mkF m 167 #[.val (.int p0), .val (.int p1), .val (.int p2), .val (.long q3), .second, .val (.int p4), .val (.int v6), .val (.int v7), .val (.int v8), .val (.int v9), .val (.ref oo), .val (.ref e1), .val (.int (4 : Int32)), .unset, .unset] [])) (fun t k => st530 _ k) ?_
    refine Go.st (U' := T530.setTop (mkF m 170 #[.val (.int p0), .val (.int p1), .val (.int p2), .val (.long q3), .second, .val (.int p4), .val (.int v6), .val (.int v7), .val (.int v8), .val (.int v9), .val (.ref oo), .val (.ref e1), .val (.int (8 : Int32)), .unset, .unset] [])) (fun t k => ?_) ?_
    · refine XS.iinc X530.here hx rfl (hb hby at_167) rfl (l' := #[.val (.int p0), .val (.int p1), .val (.int p2), .val (.long q3), .second, .val (.int p4), .val (.int v6), .val (.int v7), .val (.int v8), .val (.int v9), .val (.ref oo), .val (.ref e1), .val (.int (8 : Int32)), .unset, .unset]) rfl ?_
      exact k
    exact node170_8 p0 p1 p2 q3 p4 v6 v7 v8 v9 oo b1 e1 kb ke c0 (0 : Int32) (0 : Int32) (0 : Int32) (own_b3 p2) (own_b2 p2) (own_b1 p2) (own_b0 p2) X530 hx hZ hw hby hml hown rfl sz530 N530 hlk hrt PE529_530 PV529_530 PZ529_530 PA529_530 P530_0 gO gB gE nob noe nbe
set_option maxRecDepth 65536 in
set_option maxHeartbeats 40000000 in
theorem node139_2 {p : Program} {l : Launch} {e : Env} {s : State} {m : MethodId} {args : Array Value} {below : List Frame} {meth : Method} {c : Code} {T0 : State} {locs : List Loc} {Z : State} {a0 : Array Value} {h0 : Heap} {n0 : Nat} (p0 : Int32) (p1 : Int32) (p2 : Int32) (q3 : Int64) (p4 : Int32) (v6 : Int32) (v7 : Int32) (v8 : Int32) (v9 : Int32) (oo : Addr) (b1 : Addr) (e1 : Addr) (kb : ClassId) (ke : ClassId) (c0 : Int32) (c1 : Int32)
    (X0 : Stand p l e room_1 s m args below meth c T0 locs 3 274) (hx : p.tables.exec = Jvm.exec) (hZ : Z.Warmed39 s.vm) (hw : ∀ d ∈ tables_1, d.before a0 Z = true) (hby : c.code = code) (hml : c.maxLocals = 15) (hown : s.vm.findClass "com/example/portcullis/portcullis/io/CdrOutputToByteArrayPinLaw" = some m.cls) (e0 : T0.heap = h0) (Z0 : n0 ≤ h0.size) (N0 : Fr n0 locs) (hlk : meth.locks = false) (hrt : meth.sig.returnType = some .boolean) (EX : Exa Z h0 oo "com/example/portcullis/portcullis/io/CdrOutput") (FB : Fld Z h0 oo "com/example/portcullis/portcullis/io/CdrOutput" "buffer" "[B" (.ref b1)) (FS : Fld Z h0 oo "com/example/portcullis/portcullis/io/CdrOutput" "size" "I" (.int (2 : Int32))) (VB : Arv Z h0 b1 kb .byte (256 : Int32) [(.int c0), (.int c1), (.int (0 : Int32)), (.int (0 : Int32)), (.int (0 : Int32)), (.int (0 : Int32)), (.int (0 : Int32)), (.int (0 : Int32)), (.int (0 : Int32)), (.int (0 : Int32)), (.int (0 : Int32)), (.int (0 : Int32)), (.int (0 : Int32)), (.int (0 : Int32)), (.int (0 : Int32)), (.int (0 : Int32))] (.int (0 : Int32))) (VE : Arv Z h0 e1 ke .byte (16 : Int32) [(.int c0), (.int c1), (.int (0 : Int32)), (.int (0 : Int32)), (.int (0 : Int32)), (.int (0 : Int32)), (.int (0 : Int32)), (.int (0 : Int32)), (.int (0 : Int32)), (.int (0 : Int32)), (.int (0 : Int32)), (.int (0 : Int32)), (.int (0 : Int32)), (.int (0 : Int32)), (.int (0 : Int32)), (.int (0 : Int32))] (.int (0 : Int32))) (gO : n0 ≤ oo) (gB : n0 ≤ b1) (gE : n0 ≤ e1) (nob : oo ≠ b1) (noe : oo ≠ e1) (nbe : b1 ≠ e1)
     : Go p e below (fun s₂ o => ∃ v L, o = .returned v ∧ Qx n0 v s₂.heap L ∧ FrameEnd s o s₂ L 24 704) (T0.setTop (mkF m 139 #[.val (.int p0), .val (.int p1), .val (.int p2), .val (.long q3), .second, .val (.int p4), .val (.int v6), .val (.int v7), .val (.int v8), .val (.int v9), .val (.ref oo), .val (.ref e1), .val (.int (2 : Int32)), .unset, .unset] [])) := by
  refine Go.st (U' := T0.setTop (mkF m 141 #[.val (.int p0), .val (.int p1), .val (.int p2), .val (.long q3), .second, .val (.int p4), .val (.int v6), .val (.int v7), .val (.int v8), .val (.int v9), .val (.ref oo), .val (.ref e1), .val (.int (2 : Int32)), .unset, .unset] [(.int v8)])) (fun t k => ?_) ?_
  · refine XS.iload X0.here hx rfl (hb hby at_139) rfl ?_
    exact k
  by_cases hc531 : v8 = (0 : Int32)
  · refine Go.st (U' := T0.setTop (mkF m 170 #[.val (.int p0), .val (.int p1), .val (.int p2), .val (.long q3), .second, .val (.int p4), .val (.int v6), .val (.int v7), .val (.int v8), .val (.int v9), .val (.ref oo), .val (.ref e1), .val (.int (2 : Int32)), .unset, .unset] [])) (fun t k => ?_) ?_
    · refine XS.ifYes X0.here hx rfl (pc0 := 141) (pc' := 170) rfl (hb hby at_141) rfl ((if0 _ _).trans (teq hc531).1) (by decide) (by decide) ?_
      exact k
    exact node170_2 p0 p1 p2 q3 p4 v6 v7 v8 v9 oo b1 e1 kb ke c0 c1 X0 hx hZ hw hby hml hown e0 Z0 N0 hlk hrt EX FB FS VB VE gO gB gE nob noe nbe
  · refine Go.st (U' := T0.setTop (mkF m 147 #[.val (.int p0), .val (.int p1), .val (.int p2), .val (.long q3), .second, .val (.int p4), .val (.int v6), .val (.int v7), .val (.int v8), .val (.int v9), .val (.ref oo), .val (.ref e1), .val (.int (2 : Int32)), .unset, .unset] [(.int p2), (.ref oo)])) (fun t k => ?_) ?_
    · refine XS.ifNo X0.here hx rfl (hb hby at_141) rfl ((if0 _ _).trans (feq hc531).1) ?_
      refine XS.aload X0.here hx rfl (hb hby at_144) rfl rfl ?_
      refine XS.iloadN X0.here hx rfl (hb hby at_146) rfl ?_
      exact k
    obtain ⟨cq532, kq532, q532a, q532b, q532c⟩ := isOf hZ e0 EX
    obtain ⟨_, _, ⟨T532, L532, k532, n532⟩, -, X532, ⟨Lc532, hQ532, l532, y532, z532⟩, st532⟩ := X0.virtualBack hx (y := own_y8) (z := own_y8) hown (mvT hZ (own_w hw 80 rfl)) (mvT hZ (own_w hw 81 rfl)) (notFace_of_selects (args := #[]) (mvT hZ (own_w hw 83 rfl))) (mvT hZ (own_w hw 83 rfl)) (mvT hZ (own_w hw 82 rfl)) (by decide) (backOf (W := 0) (rmn2 l Z a0 hw [] oo b1 kb c0 c1 (0 : Int32) (0 : Int32) (0 : Int32) (0 : Int32) (0 : Int32) (0 : Int32) (0 : Int32) (0 : Int32) (0 : Int32) (0 : Int32) (0 : Int32) (0 : Int32) (0 : Int32) (0 : Int32) p2 h0 n0 Z0 EX FB FS VB gO gB nob) hZ (own_w hw 84 rfl) (own_w hw 2 rfl) (by decide) (by decide)) q532a q532c (g := (mkF m 147 #[.val (.int p0), .val (.int p1), .val (.int p2), .val (.long q3), .second, .val (.int p4), .val (.int v6), .val (.int v7), .val (.int v8), .val (.int v9), .val (.ref oo), .val (.ref e1), .val (.int (2 : Int32)), .unset, .unset] [(.int p2), (.ref oo)])) rfl (by rw [hml]; rfl) (Steps.refl _) (argsL := [(.int p2)]) (rest := []) (lenOf pd_0 rfl) rfl (by show 2 * 0 + _ ≤ _; exact Nat.le_of_eq rfl) (hb hby at_147) (fun _ _ => ⟨rfl, e0, (by decide : 3 + 0 ≤ _), (by decide : 274 + 0 ≤ _)⟩)
    dsimp only [Pt.U, Pt.locs, Pt.cells, Pt.slots] at X532 l532 y532 z532 st532 hQ532
    subst l532 y532 z532
    obtain ⟨rfl, N532q, K532, PE532, PV532, PZ532, PA532⟩ := hQ532
    have EX_532 := EX.keep K532
    have VE_532 := VE.keep K532 (ninS (Ne.symm noe) (ninS (Ne.symm nbe) nin0))
    have sz532 : n0 ≤ T532.heap.size := Nat.le_trans Z0 K532.1
    have N532 := Fr.app N0 N532q
    refine Go.tr (U' := T532.setTop (mkF m 150 #[.val (.int p0), .val (.int p1), .val (.int p2), .val (.long q3), .second, .val (.int p4), .val (.int v6), .val (.int v7), .val (.int v8), .val (.int v9), .val (.ref oo), .val (.ref e1), .val (.int (2 : Int32)), .unset, .unset] [])) st532 ?_
    refine Go.st (U' := T532.setTop (mkF m 164 #[.val (.int p0), .val (.int p1), .val (.int p2), .val (.long q3), .second, .val (.int p4), .val (.int v6), .val (.int v7), .val (.int v8), .val (.int v9), .val (.ref oo), .val (.ref e1), .val (.int (4 : Int32)), .unset, .unset] [(.int p2), (.int (4 : Int32)), (.ref e1)])) (fun t k => ?_) ?_
    · refine XS.iload X532.here hx rfl (hb hby at_150) rfl ?_
      refine XS.iconst X532.here hx rfl (hb hby at_152) ?_
      refine XS.iadd X532.here hx rfl (hb hby at_153) rfl ?_
      refine XS.bipush X532.here hx rfl (hb hby at_154) ?_
      refine XS.iand X532.here hx rfl (hb hby at_156) rfl ?_
      refine XS.istore X532.here hx rfl (hb hby at_157) rfl (l' := #[.val (.int p0), .val (.int p1), .val (.int p2), .val (.long q3), .second, .val (.int p4), .val (.int v6), .val (.int v7), .val (.int v8), .val (.int v9), .val (.ref oo), .val (.ref e1), .val (.int (4 : Int32)), .unset, .unset]) rfl ?_
      refine XS.aload X532.here hx rfl (hb hby at_159) rfl rfl ?_
      refine XS.iload X532.here hx rfl (hb hby at_161) rfl ?_
      refine XS.iloadN X532.here hx rfl (hb hby at_163) rfl ?_
      exact k
    obtain ⟨_, _, ⟨T533, L533, k533, n533⟩, -, X533, ⟨Lc533, hQ533, l533, y533, z533⟩, st533⟩ := Jvm.LawKit.callS X532 hx (y := own_y16) hown (mvT hZ (own_w hw 77 rfl)) (mvT hZ (own_w hw 78 rfl)) (mvT hZ (own_w hw 38 rfl)) (mvT hZ (own_w hw 79 rfl)) (by decide) (backOf (W := 0) (rmq4 l Z a0 hw [] e1 ke c0 c1 (0 : Int32) (0 : Int32) (0 : Int32) (0 : Int32) (0 : Int32) (0 : Int32) (0 : Int32) (0 : Int32) (0 : Int32) (0 : Int32) (0 : Int32) (0 : Int32) (0 : Int32) (0 : Int32) p2 T532.heap n0 sz532 VE_532 gE) hZ (own_w hw 79 rfl) (own_w hw 38 rfl) (by decide) (by decide)) (g := (mkF m 164 #[.val (.int p0), .val (.int p1), .val (.int p2), .val (.long q3), .second, .val (.int p4), .val (.int v6), .val (.int v7), .val (.int v8), .val (.int v9), .val (.ref oo), .val (.ref e1), .val (.int (4 : Int32)), .unset, .unset] [(.int p2), (.int (4 : Int32)), (.ref e1)])) rfl (by rw [hml]; rfl) (argsL := [(.ref e1), (.int (4 : Int32)), (.int p2)]) (rest := []) (lenOf pd_11 rfl) rfl (by show 2 * 0 + _ ≤ _; exact Nat.le_of_eq rfl) (hb hby at_164) (fun _ _ => ⟨rfl, rfl, (by decide : 3 + 0 ≤ _), (by decide : 274 + 0 ≤ _)⟩)
    dsimp only [Pt.U, Pt.locs, Pt.cells, Pt.slots] at X533 l533 y533 z533 st533 hQ533
    subst l533 y533 z533
    obtain ⟨rfl, N533q, K533, P533_0⟩ := hQ533
    have PE532_533 := PE532.keep K533
    have PV532_533 := PV532.keep K533 (ninS noe nin0)
    have PZ532_533 := PZ532.keep K533 (ninS noe nin0)
    have PA532_533 := PA532.keep K533 (ninS nbe nin0)
    have sz533 : n0 ≤ T533.heap.size := Nat.le_trans sz532 K533.1
    have N533 := Fr.app N532 N533q
    refine Go.st (U' := T533.setTop (mkF m 167 #[.val (.int p0), .val (.int p1), .val (.int p2), .val (.long q3), .second, .val (.int p4), .val (.int v6), .val (.int v7), .val (.int v8), .val (.int v9), .val (.ref oo), .val (.ref e1), .val (.int (4 : Int32)), .unset, .unset] [])) (fun t k => st533 _ k) ?_
    refine Go.st (U' := T533.setTop (mkF m 170 #[.val (.int p0), .val (.int p1), .val (.int p2), .val (.long q3), .second, .val (.int p4), .val (.int v6), .val (.int v7), .val (.int v8), .val (.int v9), .val (.ref oo), .val (.ref e1), .val (.int (8 : Int32)), .unset, .unset] [])) (fun t k => ?_) ?_
    · refine XS.iinc X533.here hx rfl (hb hby at_167) rfl (l' := #[.val (.int p0), .val (.int p1), .val (.int p2), .val (.long q3), .second, .val (.int p4), .val (.int v6), .val (.int v7), .val (.int v8), .val (.int v9), .val (.ref oo), .val (.ref e1), .val (.int (8 : Int32)), .unset, .unset]) rfl ?_
      exact k
    exact node170_8 p0 p1 p2 q3 p4 v6 v7 v8 v9 oo b1 e1 kb ke c0 c1 (0 : Int32) (0 : Int32) (own_b3 p2) (own_b2 p2) (own_b1 p2) (own_b0 p2) X533 hx hZ hw hby hml hown rfl sz533 N533 hlk hrt PE532_533 PV532_533 PZ532_533 PA532_533 P533_0 gO gB gE nob noe nbe
set_option maxRecDepth 65536 in
set_option maxHeartbeats 40000000 in
theorem node139_4 {p : Program} {l : Launch} {e : Env} {s : State} {m : MethodId} {args : Array Value} {below : List Frame} {meth : Method} {c : Code} {T0 : State} {locs : List Loc} {Z : State} {a0 : Array Value} {h0 : Heap} {n0 : Nat} (p0 : Int32) (p1 : Int32) (p2 : Int32) (q3 : Int64) (p4 : Int32) (v6 : Int32) (v7 : Int32) (v8 : Int32) (v9 : Int32) (oo : Addr) (b1 : Addr) (e1 : Addr) (kb : ClassId) (ke : ClassId) (c0 : Int32) (c1 : Int32) (c2 : Int32) (c3 : Int32)
    (X0 : Stand p l e room_1 s m args below meth c T0 locs 3 274) (hx : p.tables.exec = Jvm.exec) (hZ : Z.Warmed39 s.vm) (hw : ∀ d ∈ tables_1, d.before a0 Z = true) (hby : c.code = code) (hml : c.maxLocals = 15) (hown : s.vm.findClass "com/example/portcullis/portcullis/io/CdrOutputToByteArrayPinLaw" = some m.cls) (e0 : T0.heap = h0) (Z0 : n0 ≤ h0.size) (N0 : Fr n0 locs) (hlk : meth.locks = false) (hrt : meth.sig.returnType = some .boolean) (EX : Exa Z h0 oo "com/example/portcullis/portcullis/io/CdrOutput") (FB : Fld Z h0 oo "com/example/portcullis/portcullis/io/CdrOutput" "buffer" "[B" (.ref b1)) (FS : Fld Z h0 oo "com/example/portcullis/portcullis/io/CdrOutput" "size" "I" (.int (4 : Int32))) (VB : Arv Z h0 b1 kb .byte (256 : Int32) [(.int c0), (.int c1), (.int c2), (.int c3), (.int (0 : Int32)), (.int (0 : Int32)), (.int (0 : Int32)), (.int (0 : Int32)), (.int (0 : Int32)), (.int (0 : Int32)), (.int (0 : Int32)), (.int (0 : Int32)), (.int (0 : Int32)), (.int (0 : Int32)), (.int (0 : Int32)), (.int (0 : Int32))] (.int (0 : Int32))) (VE : Arv Z h0 e1 ke .byte (16 : Int32) [(.int c0), (.int c1), (.int c2), (.int c3), (.int (0 : Int32)), (.int (0 : Int32)), (.int (0 : Int32)), (.int (0 : Int32)), (.int (0 : Int32)), (.int (0 : Int32)), (.int (0 : Int32)), (.int (0 : Int32)), (.int (0 : Int32)), (.int (0 : Int32)), (.int (0 : Int32)), (.int (0 : Int32))] (.int (0 : Int32))) (gO : n0 ≤ oo) (gB : n0 ≤ b1) (gE : n0 ≤ e1) (nob : oo ≠ b1) (noe : oo ≠ e1) (nbe : b1 ≠ e1)
     : Go p e below (fun s₂ o => ∃ v L, o = .returned v ∧ Qx n0 v s₂.heap L ∧ FrameEnd s o s₂ L 24 704) (T0.setTop (mkF m 139 #[.val (.int p0), .val (.int p1), .val (.int p2), .val (.long q3), .second, .val (.int p4), .val (.int v6), .val (.int v7), .val (.int v8), .val (.int v9), .val (.ref oo), .val (.ref e1), .val (.int (4 : Int32)), .unset, .unset] [])) := by
  refine Go.st (U' := T0.setTop (mkF m 141 #[.val (.int p0), .val (.int p1), .val (.int p2), .val (.long q3), .second, .val (.int p4), .val (.int v6), .val (.int v7), .val (.int v8), .val (.int v9), .val (.ref oo), .val (.ref e1), .val (.int (4 : Int32)), .unset, .unset] [(.int v8)])) (fun t k => ?_) ?_
  · refine XS.iload X0.here hx rfl (hb hby at_139) rfl ?_
    exact k
  by_cases hc534 : v8 = (0 : Int32)
  · refine Go.st (U' := T0.setTop (mkF m 170 #[.val (.int p0), .val (.int p1), .val (.int p2), .val (.long q3), .second, .val (.int p4), .val (.int v6), .val (.int v7), .val (.int v8), .val (.int v9), .val (.ref oo), .val (.ref e1), .val (.int (4 : Int32)), .unset, .unset] [])) (fun t k => ?_) ?_
    · refine XS.ifYes X0.here hx rfl (pc0 := 141) (pc' := 170) rfl (hb hby at_141) rfl ((if0 _ _).trans (teq hc534).1) (by decide) (by decide) ?_
      exact k
    exact node170_4 p0 p1 p2 q3 p4 v6 v7 v8 v9 oo b1 e1 kb ke c0 c1 c2 c3 X0 hx hZ hw hby hml hown e0 Z0 N0 hlk hrt EX FB FS VB VE gO gB gE nob noe nbe
  · refine Go.st (U' := T0.setTop (mkF m 147 #[.val (.int p0), .val (.int p1), .val (.int p2), .val (.long q3), .second, .val (.int p4), .val (.int v6), .val (.int v7), .val (.int v8), .val (.int v9), .val (.ref oo), .val (.ref e1), .val (.int (4 : Int32)), .unset, .unset] [(.int p2), (.ref oo)])) (fun t k => ?_) ?_
    · refine XS.ifNo X0.here hx rfl (hb hby at_141) rfl ((if0 _ _).trans (feq hc534).1) ?_
      refine XS.aload X0.here hx rfl (hb hby at_144) rfl rfl ?_
      refine XS.iloadN X0.here hx rfl (hb hby at_146) rfl ?_
      exact k
    obtain ⟨cq535, kq535, q535a, q535b, q535c⟩ := isOf hZ e0 EX
    obtain ⟨_, _, ⟨T535, L535, k535, n535⟩, -, X535, ⟨Lc535, hQ535, l535, y535, z535⟩, st535⟩ := X0.virtualBack hx (y := own_y8) (z := own_y8) hown (mvT hZ (own_w hw 80 rfl)) (mvT hZ (own_w hw 81 rfl)) (notFace_of_selects (args := #[]) (mvT hZ (own_w hw 83 rfl))) (mvT hZ (own_w hw 83 rfl)) (mvT hZ (own_w hw 82 rfl)) (by decide) (backOf (W := 0) (rmn4 l Z a0 hw [] oo b1 kb c0 c1 c2 c3 (0 : Int32) (0 : Int32) (0 : Int32) (0 : Int32) (0 : Int32) (0 : Int32) (0 : Int32) (0 : Int32) (0 : Int32) (0 : Int32) (0 : Int32) (0 : Int32) p2 h0 n0 Z0 EX FB FS VB gO gB nob) hZ (own_w hw 84 rfl) (own_w hw 2 rfl) (by decide) (by decide)) q535a q535c (g := (mkF m 147 #[.val (.int p0), .val (.int p1), .val (.int p2), .val (.long q3), .second, .val (.int p4), .val (.int v6), .val (.int v7), .val (.int v8), .val (.int v9), .val (.ref oo), .val (.ref e1), .val (.int (4 : Int32)), .unset, .unset] [(.int p2), (.ref oo)])) rfl (by rw [hml]; rfl) (Steps.refl _) (argsL := [(.int p2)]) (rest := []) (lenOf pd_0 rfl) rfl (by show 2 * 0 + _ ≤ _; exact Nat.le_of_eq rfl) (hb hby at_147) (fun _ _ => ⟨rfl, e0, (by decide : 3 + 0 ≤ _), (by decide : 274 + 0 ≤ _)⟩)
    dsimp only [Pt.U, Pt.locs, Pt.cells, Pt.slots] at X535 l535 y535 z535 st535 hQ535
    subst l535 y535 z535
    obtain ⟨rfl, N535q, K535, PE535, PV535, PZ535, PA535⟩ := hQ535
    have EX_535 := EX.keep K535
    have VE_535 := VE.keep K535 (ninS (Ne.symm noe) (ninS (Ne.symm nbe) nin0))
    have sz535 : n0 ≤ T535.heap.size := Nat.le_trans Z0 K535.1
    have N535 := Fr.app N0 N535q
    refine Go.tr (U' := T535.setTop (mkF m 150 #[.val (.int p0), .val (.int p1), .val (.int p2), .val (.long q3), .second, .val (.int p4), .val (.int v6), .val (.int v7), .val (.int v8), .val (.int v9), .val (.ref oo), .val (.ref e1), .val (.int (4 : Int32)), .unset, .unset] [])) st535 ?_
    refine Go.st (U' := T535.setTop (mkF m 164 #[.val (.int p0), .val (.int p1), .val (.int p2), .val (.long q3), .second, .val (.int p4), .val (.int v6), .val (.int v7), .val (.int v8), .val (.int v9), .val (.ref oo), .val (.ref e1), .val (.int (4 : Int32)), .unset, .unset] [(.int p2), (.int (4 : Int32)), (.ref e1)])) (fun t k => ?_) ?_
    · refine XS.iload X535.here hx rfl (hb hby at_150) rfl ?_
      refine XS.iconst X535.here hx rfl (hb hby at_152) ?_
      refine XS.iadd X535.here hx rfl (hb hby at_153) rfl ?_
      refine XS.bipush X535.here hx rfl (hb hby at_154) ?_
      refine XS.iand X535.here hx rfl (hb hby at_156) rfl ?_
      refine XS.istore X535.here hx rfl (hb hby at_157) rfl (l' := #[.val (.int p0), .val (.int p1), .val (.int p2), .val (.long q3), .second, .val (.int p4), .val (.int v6), .val (.int v7), .val (.int v8), .val (.int v9), .val (.ref oo), .val (.ref e1), .val (.int (4 : Int32)), .unset, .unset]) rfl ?_
      refine XS.aload X535.here hx rfl (hb hby at_159) rfl rfl ?_
      refine XS.iload X535.here hx rfl (hb hby at_161) rfl ?_
      refine XS.iloadN X535.here hx rfl (hb hby at_163) rfl ?_
      exact k
    obtain ⟨_, _, ⟨T536, L536, k536, n536⟩, -, X536, ⟨Lc536, hQ536, l536, y536, z536⟩, st536⟩ := Jvm.LawKit.callS X535 hx (y := own_y16) hown (mvT hZ (own_w hw 77 rfl)) (mvT hZ (own_w hw 78 rfl)) (mvT hZ (own_w hw 38 rfl)) (mvT hZ (own_w hw 79 rfl)) (by decide) (backOf (W := 0) (rmq4 l Z a0 hw [] e1 ke c0 c1 c2 c3 (0 : Int32) (0 : Int32) (0 : Int32) (0 : Int32) (0 : Int32) (0 : Int32) (0 : Int32) (0 : Int32) (0 : Int32) (0 : Int32) (0 : Int32) (0 : Int32) p2 T535.heap n0 sz535 VE_535 gE) hZ (own_w hw 79 rfl) (own_w hw 38 rfl) (by decide) (by decide)) (g := (mkF m 164 #[.val (.int p0), .val (.int p1), .val (.int p2), .val (.long q3), .second, .val (.int p4), .val (.int v6), .val (.int v7), .val (.int v8), .val (.int v9), .val (.ref oo), .val (.ref e1), .val (.int (4 : Int32)), .unset, .unset] [(.int p2), (.int (4 : Int32)), (.ref e1)])) rfl (by rw [hml]; rfl) (argsL := [(.ref e1), (.int (4 : Int32)), (.int p2)]) (rest := []) (lenOf pd_11 rfl) rfl (by show 2 * 0 + _ ≤ _; exact Nat.le_of_eq rfl) (hb hby at_164) (fun _ _ => ⟨rfl, rfl, (by decide : 3 + 0 ≤ _), (by decide : 274 + 0 ≤ _)⟩)
    dsimp only [Pt.U, Pt.locs, Pt.cells, Pt.slots] at X536 l536 y536 z536 st536 hQ536
    subst l536 y536 z536
    obtain ⟨rfl, N536q, K536, P536_0⟩ := hQ536
    have PE535_536 := PE535.keep K536
    have PV535_536 := PV535.keep K536 (ninS noe nin0)
    have PZ535_536 := PZ535.keep K536 (ninS noe nin0)
    have PA535_536 := PA535.keep K536 (ninS nbe nin0)
    have sz536 : n0 ≤ T536.heap.size := Nat.le_trans sz535 K536.1
    have N536 := Fr.app N535 N536q
    refine Go.st (U' := T536.setTop (mkF m 167 #[.val (.int p0), .val (.int p1), .val (.int p2), .val (.long q3), .second, .val (.int p4), .val (.int v6), .val (.int v7), .val (.int v8), .val (.int v9), .val (.ref oo), .val (.ref e1), .val (.int (4 : Int32)), .unset, .unset] [])) (fun t k => st536 _ k) ?_
    refine Go.st (U' := T536.setTop (mkF m 170 #[.val (.int p0), .val (.int p1), .val (.int p2), .val (.long q3), .second, .val (.int p4), .val (.int v6), .val (.int v7), .val (.int v8), .val (.int v9), .val (.ref oo), .val (.ref e1), .val (.int (8 : Int32)), .unset, .unset] [])) (fun t k => ?_) ?_
    · refine XS.iinc X536.here hx rfl (hb hby at_167) rfl (l' := #[.val (.int p0), .val (.int p1), .val (.int p2), .val (.long q3), .second, .val (.int p4), .val (.int v6), .val (.int v7), .val (.int v8), .val (.int v9), .val (.ref oo), .val (.ref e1), .val (.int (8 : Int32)), .unset, .unset]) rfl ?_
      exact k
    exact node170_8 p0 p1 p2 q3 p4 v6 v7 v8 v9 oo b1 e1 kb ke c0 c1 c2 c3 (own_b3 p2) (own_b2 p2) (own_b1 p2) (own_b0 p2) X536 hx hZ hw hby hml hown rfl sz536 N536 hlk hrt PE535_536 PV535_536 PZ535_536 PA535_536 P536_0 gO gB gE nob noe nbe
theorem pd_12 : parseMethodDescriptor "(S)V" = some ⟨[.short], none⟩ := by decide +kernel
set_option maxRecDepth 65536 in
set_option maxHeartbeats 40000000 in
theorem node96_0 {p : Program} {l : Launch} {e : Env} {s : State} {m : MethodId} {args : Array Value} {below : List Frame} {meth : Method} {c : Code} {T0 : State} {locs : List Loc} {Z : State} {a0 : Array Value} {h0 : Heap} {n0 : Nat} (p0 : Int32) (p1 : Int32) (p2 : Int32) (q3 : Int64) (p4 : Int32) (v6 : Int32) (v7 : Int32) (v8 : Int32) (v9 : Int32) (oo : Addr) (b1 : Addr) (e1 : Addr) (kb : ClassId) (ke : ClassId)
    (X0 : Stand p l e room_1 s m args below meth c T0 locs 3 274) (hx : p.tables.exec = Jvm.exec) (hZ : Z.Warmed39 s.vm) (hw : ∀ d ∈ tables_1, d.before a0 Z = true) (hby : c.code = code) (hml : c.maxLocals = 15) (hown : s.vm.findClass "com/example/portcullis/portcullis/io/CdrOutputToByteArrayPinLaw" = some m.cls) (e0 : T0.heap = h0) (Z0 : n0 ≤ h0.size) (N0 : Fr n0 locs) (hlk : meth.locks = false) (hrt : meth.sig.returnType = some .boolean) (EX : Exa Z h0 oo "com/example/portcullis/portcullis/io/CdrOutput") (FB : Fld Z h0 oo "com/example/portcullis/portcullis/io/CdrOutput" "buffer" "[B" (.ref b1)) (FS : Fld Z h0 oo "com/example/portcullis/portcullis/io/CdrOutput" "size" "I" (.int (0 : Int32))) (VB : Arv Z h0 b1 kb .byte (256 : Int32) [(.int (0 : Int32)), (.int (0 : Int32)), (.int (0 : Int32)), (.int (0 : Int32)), (.int (0 : Int32)), (.int (0 : Int32)), (.int (0 : Int32)), (.int (0 : Int32)), (.int (0 : Int32)), (.int (0 : Int32)), (.int (0 : Int32)), (.int (0 : Int32)), (.int (0 : Int32)), (.int (0 : Int32)), (.int (0 : Int32)), (.int (0 : Int32))] (.int (0 : Int32))) (VE : Arv Z h0 e1 ke .byte (16 : Int32) [(.int (0 : Int32)), (.int (0 : Int32)), (.int (0 : Int32)), (.int (0 : Int32)), (.int (0 : Int32)), (.int (0 : Int32)), (.int (0 : Int32)), (.int (0 : Int32)), (.int (0 : Int32)), (.int (0 : Int32)), (.int (0 : Int32)), (.int (0 : Int32)), (.int (0 : Int32)), (.int (0 : Int32)), (.int (0 : Int32)), (.int (0 : Int32))] (.int (0 : Int32))) (gO : n0 ≤ oo) (gB : n0 ≤ b1) (gE : n0 ≤ e1) (nob : oo ≠ b1) (noe : oo ≠ e1) (nbe : b1 ≠ e1)
     : Go p e below (fun s₂ o => ∃ v L, o = .returned v ∧ Qx n0 v s₂.heap L ∧ FrameEnd s o s₂ L 24 704) (T0.setTop (mkF m 96 #[.val (.int p0), .val (.int p1), .val (.int p2), .val (.long q3), .second, .val (.int p4), .val (.int v6), .val (.int v7), .val (.int v8), .val (.int v9), .val (.ref oo), .val (.ref e1), .val (.int (0 : Int32)), .unset, .unset] [])) := by
  refine Go.st (U' := T0.setTop (mkF m 98 #[.val (.int p0), .val (.int p1), .val (.int p2), .val (.long q3), .second, .val (.int p4), .val (.int v6), .val (.int v7), .val (.int v8), .val (.int v9), .val (.ref oo), .val (.ref e1), .val (.int (0 : Int32)), .unset, .unset] [(.int v7)])) (fun t k => ?_) ?_
  · refine XS.iload X0.here hx rfl (hb hby at_96) rfl ?_
    exact k
  by_cases hc537 : v7 = (0 : Int32)
  · refine Go.st (U' := T0.setTop (mkF m 139 #[.val (.int p0), .val (.int p1), .val (.int p2), .val (.long q3), .second, .val (.int p4), .val (.int v6), .val (.int v7), .val (.int v8), .val (.int v9), .val (.ref oo), .val (.ref e1), .val (.int (0 : Int32)), .unset, .unset] [])) (fun t k => ?_) ?_
    · refine XS.ifYes X0.here hx rfl (pc0 := 98) (pc' := 139) rfl (hb hby at_98) rfl ((if0 _ _).trans (teq hc537).1) (by decide) (by decide) ?_
      exact k
    exact node139_0 p0 p1 p2 q3 p4 v6 v7 v8 v9 oo b1 e1 kb ke  X0 hx hZ hw hby hml hown e0 Z0 N0 hlk hrt EX FB FS VB VE gO gB gE nob noe nbe
  · refine Go.st (U' := T0.setTop (mkF m 105 #[.val (.int p0), .val (.int p1), .val (.int p2), .val (.long q3), .second, .val (.int p4), .val (.int v6), .val (.int v7), .val (.int v8), .val (.int v9), .val (.ref oo), .val (.ref e1), .val (.int (0 : Int32)), .unset, .unset] [(.int (p1.toInt16.toInt32)), (.ref oo)])) (fun t k => ?_) ?_
    · refine XS.ifNo X0.here hx rfl (hb hby at_98) rfl ((if0 _ _).trans (feq hc537).1) ?_
      refine XS.aload X0.here hx rfl (hb hby at_101) rfl rfl ?_
      refine XS.iloadN X0.here hx rfl (hb hby at_103) rfl ?_
      refine XS.i2s X0.here hx rfl (hb hby at_104) rfl ?_
      exact k
    obtain ⟨cq538, kq538, q538a, q538b, q538c⟩ := isOf hZ e0 EX
    obtain ⟨_, _, ⟨T538, L538, k538, n538⟩, -, X538, ⟨Lc538, hQ538, l538, y538, z538⟩, st538⟩ := X0.virtualBack hx (y := own_y6) (z := own_y6) hown (mvT hZ (own_w hw 52 rfl)) (mvT hZ (own_w hw 53 rfl)) (notFace_of_selects (args := #[]) (mvT hZ (own_w hw 55 rfl))) (mvT hZ (own_w hw 55 rfl)) (mvT hZ (own_w hw 54 rfl)) (by decide) (backOf (W := 0) (rms0 l Z a0 hw [] oo b1 kb (0 : Int32) (0 : Int32) (0 : Int32) (0 : Int32) (0 : Int32) (0 : Int32) (0 : Int32) (0 : Int32) (0 : Int32) (0 : Int32) (0 : Int32) (0 : Int32) (0 : Int32) (0 : Int32) (0 : Int32) (0 : Int32) (p1.toInt16.toInt32) h0 n0 Z0 EX FB FS VB gO gB nob) hZ (own_w hw 56 rfl) (own_w hw 2 rfl) (by decide) (by decide)) q538a q538c (g := (mkF m 105 #[.val (.int p0), .val (.int p1), .val (.int p2), .val (.long q3), .second, .val (.int p4), .val (.int v6), .val (.int v7), .val (.int v8), .val (.int v9), .val (.ref oo), .val (.ref e1), .val (.int (0 : Int32)), .unset, .unset] [(.int (p1.toInt16.toInt32)), (.ref oo)])) rfl (by rw [hml]; rfl) (Steps.refl _) (argsL := [(.int (p1.toInt16.toInt32))]) (rest := []) (lenOf pd_12 rfl) rfl (by show 2 * 0 + _ ≤ _; exact Nat.le_of_eq rfl) (hb hby at_105) (fun _ _ => ⟨rfl, e0, (by decide : 3 + 0 ≤ _), (by decide : 274 + 0 ≤ _)⟩)
    dsimp only [Pt.U, Pt.locs, Pt.cells, Pt.slots] at X538 l538 y538 z538 st538 hQ538
    subst l538 y538 z538
    obtain ⟨rfl, N538q, K538, PE538, PV538, PZ538, PA538⟩ := hQ538
    have EX_538 := EX.keep K538
    have VE_538 := VE.keep K538 (ninS (Ne.symm noe) (ninS (Ne.symm nbe) nin0))
    have sz538 : n0 ≤ T538.heap.size := Nat.le_trans Z0 K538.1
    have N538 := Fr.app N0 N538q
    refine Go.tr (U' := T538.setTop (mkF m 108 #[.val (.int p0), .val (.int p1), .val (.int p2), .val (.long q3), .second, .val (.int p4), .val (.int v6), .val (.int v7), .val (.int v8), .val (.int v9), .val (.ref oo), .val (.ref e1), .val (.int (0 : Int32)), .unset, .unset] [])) st538 ?_
    refine Go.st (U' := T538.setTop (mkF m 126 #[.val (.int p0), .val (.int p1), .val (.int p2), .val (.long q3), .second, .val (.int p4), .val (.int v6), .val (.int v7), .val (.int v8), .val (.int v9), .val (.ref oo), .val (.ref e1), .val (.int (0 : Int32)), .unset, .unset] [(.int (((p1.toUInt32 >>> ((8 : Int32) &&& 31).toUInt32).toInt32).toInt8.toInt32)), (.int (0 : Int32)), (.ref e1)])) (fun t k => ?_) ?_
    · refine XS.iload X538.here hx rfl (hb hby at_108) rfl ?_
      refine XS.iconst X538.here hx rfl (hb hby at_110) ?_
      refine XS.iadd X538.here hx rfl (hb hby at_111) rfl ?_
      refine XS.bipush X538.here hx rfl (hb hby at_112) ?_
      refine XS.iand X538.here hx rfl (hb hby at_114) rfl ?_
      refine XS.istore X538.here hx rfl (hb hby at_115) rfl (l' := #[.val (.int p0), .val (.int p1), .val (.int p2), .val (.long q3), .second, .val (.int p4), .val (.int v6), .val (.int v7), .val (.int v8), .val (.int v9), .val (.ref oo), .val (.ref e1), .val (.int (0 : Int32)), .unset, .unset]) rfl ?_
      refine XS.aload X538.here hx rfl (hb hby at_117) rfl rfl ?_
      refine XS.iload X538.here hx rfl (hb hby at_119) rfl ?_
      refine XS.iloadN X538.here hx rfl (hb hby at_121) rfl ?_
      refine XS.bipush X538.here hx rfl (hb hby at_122) ?_
      refine XS.iushr X538.here hx rfl (hb hby at_124) rfl ?_
      refine XS.i2b X538.here hx rfl (hb hby at_125) rfl ?_
      exact k
    obtain ⟨cl540, Ar540, q540, S540, N540, H540, G540⟩ := id VE_538
    obtain ⟨T539, h539, X539, e539, W539, st539⟩ := stB X538 hx hZ rfl Ar540 (j := (0 : Int32)) (inb_of (j := (0 : Int32)) S540 ⟨by decide, by decide⟩) (g := (mkF m 126 #[.val (.int p0), .val (.int p1), .val (.int p2), .val (.long q3), .second, .val (.int p4), .val (.int v6), .val (.int v7), .val (.int v8), .val (.int v9), .val (.ref oo), .val (.ref e1), .val (.int (0 : Int32)), .unset, .unset] [(.int (((p1.toUInt32 >>> ((8 : Int32) &&& 31).toUInt32).toInt32).toInt8.toInt32)), (.int (0 : Int32)), (.ref e1)])) rfl rfl (hb hby at_126)
    have VE_539 := Arv.set Ar540 q540 S540 N540 H540 G540 (fits_nar_byte _) W539 0 rfl (Nat.le_of_ble_eq_true rfl)
    have PE538_539 := PE538.wr W539
    have PV538_539 := PV538.other W539 (Or.inl noe)
    have PZ538_539 := PZ538.other W539 (Or.inl noe)
    have PA538_539 := PA538.other W539 nbe
    have N539 := Fr.snoc X539 N538 gE
    have sz539 : n0 ≤ h539.size := Nat.le_trans sz538 (Nat.le_of_eq W539.size.symm)
    refine Go.st (U' := T539.setTop (mkF m 127 #[.val (.int p0), .val (.int p1), .val (.int p2), .val (.long q3), .second, .val (.int p4), .val (.int v6), .val (.int v7), .val (.int v8), .val (.int v9), .val (.ref oo), .val (.ref e1), .val (.int (0 : Int32)), .unset, .unset] [])) (fun t k => st539 _ k) ?_
    refine Go.st (U' := T539.setTop (mkF m 135 #[.val (.int p0), .val (.int p1), .val (.int p2), .val (.long q3), .second, .val (.int p4), .val (.int v6), .val (.int v7), .val (.int v8), .val (.int v9), .val (.ref oo), .val (.ref e1), .val (.int (0 : Int32)), .unset, .unset] [(.int (p1.toInt8.toInt32)), (.int (1 : Int32)), (.ref e1)])) (fun t k => ?_) ?_
    · refine XS.aload X539.here hx rfl (hb hby at_127) rfl rfl ?_
      refine XS.iload X539.here hx rfl (hb hby at_129) rfl ?_
      refine XS.iconst X539.here hx rfl (hb hby at_131) ?_
      refine XS.iadd X539.here hx rfl (hb hby at_132) rfl ?_
      refine XS.iloadN X539.here hx rfl (hb hby at_133) rfl ?_
      refine XS.i2b X539.here hx rfl (hb hby at_134) rfl ?_
      exact k
    obtain ⟨cl542, Ar542, q542, S542, N542, H542, G542⟩ := id VE_539
    obtain ⟨T541, h541, X541, e541, W541, st541⟩ := stB X539 hx hZ e539 Ar542 (j := (1 : Int32)) (inb_of (j := (1 : Int32)) S542 ⟨by decide, by decide⟩) (g := (mkF m 135 #[.val (.int p0), .val (.int p1), .val (.int p2), .val (.long q3), .second, .val (.int p4), .val (.int v6), .val (.int v7), .val (.int v8), .val (.int v9), .val (.ref oo), .val (.ref e1), .val (.int (0 : Int32)), .unset, .unset] [(.int (p1.toInt8.toInt32)), (.int (1 : Int32)), (.ref e1)])) rfl rfl (hb hby at_135)
    have VE_541 := Arv.set Ar542 q542 S542 N542 H542 G542 (fits_nar_byte _) W541 1 rfl (Nat.le_of_ble_eq_true rfl)
    have PE538_541 := PE538_539.wr W541
    have PV538_541 := PV538_539.other W541 (Or.inl noe)
    have PZ538_541 := PZ538_539.other W541 (Or.inl noe)
    have PA538_541 := PA538_539.other W541 nbe
    have N541 := Fr.snoc X541 N539 gE
    have sz541 : n0 ≤ h541.size := Nat.le_trans sz539 (Nat.le_of_eq W541.size.symm)
    refine Go.st (U' := T541.setTop (mkF m 136 #[.val (.int p0), .val (.int p1), .val (.int p2), .val (.long q3), .second, .val (.int p4), .val (.int v6), .val (.int v7), .val (.int v8), .val (.int v9), .val (.ref oo), .val (.ref e1), .val (.int (0 : Int32)), .unset, .unset] [])) (fun t k => st541 _ k) ?_
    refine Go.st (U' := T541.setTop (mkF m 139 #[.val (.int p0), .val (.int p1), .val (.int p2), .val (.long q3), .second, .val (.int p4), .val (.int v6), .val (.int v7), .val (.int v8), .val (.int v9), .val (.ref oo), .val (.ref e1), .val (.int (2 : Int32)), .unset, .unset] [])) (fun t k => ?_) ?_
    · refine XS.iinc X541.here hx rfl (hb hby at_136) rfl (l' := #[.val (.int p0), .val (.int p1), .val (.int p2), .val (.long q3), .second, .val (.int p4), .val (.int v6), .val (.int v7), .val (.int v8), .val (.int v9), .val (.ref oo), .val (.ref e1), .val (.int (2 : Int32)), .unset, .unset]) rfl ?_
      exact k
    have VB_ := PA538_541; rw [own_s1 p1, own_s2 p1] at VB_; exact node139_2 p0 p1 p2 q3 p4 v6 v7 v8 v9 oo b1 e1 kb ke ((((p1.toUInt32 >>> ((8 : Int32) &&& 31).toUInt32).toInt32).toInt8.toInt32).toInt8.toInt32) ((p1.toInt8.toInt32).toInt8.toInt32) X541 hx hZ hw hby hml hown e541 sz541 N541 hlk hrt PE538_541 PV538_541 PZ538_541 VB_ VE_541 gO gB gE nob noe nbe
set_option maxRecDepth 65536 in
set_option maxHeartbeats 40000000 in
theorem node96_1 {p : Program} {l : Launch} {e : Env} {s : State} {m : MethodId} {args : Array Value} {below : List Frame} {meth : Method} {c : Code} {T0 : State} {locs : List Loc} {Z : State} {a0 : Array Value} {h0 : Heap} {n0 : Nat} (p0 : Int32) (p1 : Int32) (p2 : Int32) (q3 : Int64) (p4 : Int32) (v6 : Int32) (v7 : Int32) (v8 : Int32) (v9 : Int32) (oo : Addr) (b1 : Addr) (e1 : Addr) (kb : ClassId) (ke : ClassId) (c0 : Int32)
    (X0 : Stand p l e room_1 s m args below meth c T0 locs 3 274) (hx : p.tables.exec = Jvm.exec) (hZ : Z.Warmed39 s.vm) (hw : ∀ d ∈ tables_1, d.before a0 Z = true) (hby : c.code = code) (hml : c.maxLocals = 15) (hown : s.vm.findClass "com/example/portcullis/portcullis/io/CdrOutputToByteArrayPinLaw" = some m.cls) (e0 : T0.heap = h0) (Z0 : n0 ≤ h0.size) (N0 : Fr n0 locs) (hlk : meth.locks = false) (hrt : meth.sig.returnType = some .boolean) (EX : Exa Z h0 oo "com/example/portcullis/portcullis/io/CdrOutput") (FB : Fld Z h0 oo "com/example/portcullis/portcullis/io/CdrOutput" "buffer" "[B" (.ref b1)) (FS : Fld Z h0 oo "com/example/portcullis/portcullis/io/CdrOutput" "size" "I" (.int (1 : Int32))) (VB : Arv Z h0 b1 kb .byte (256 : Int32) [(.int c0), (.int (0 : Int32)), (.int (0 : Int32)), (.int (0 : Int32)), (.int (0 : Int32)), (.int (0 : Int32)), (.int (0 : Int32)), (.int (0 : Int32)), (.int (0 : Int32)), (.int (0 : Int32)), (.int (0 : Int32)), (.int (0 : Int32)), (.int (0 : Int32)), (.int (0 : Int32)), (.int (0 : Int32)), (.int (0 : Int32))] (.int (0 : Int32))) (VE : Arv Z h0 e1 ke .byte (16 : Int32) [(.int c0), (.int (0 : Int32)), (.int (0 : Int32)), (.int (0 : Int32)), (.int (0 : Int32)), (.int (0 : Int32)), (.int (0 : Int32)), (.int (0 : Int32)), (.int (0 : Int32)), (.int (0 : Int32)), (.int (0 : Int32)), (.int (0 : Int32)), (.int (0 : Int32)), (.int (0 : Int32)), (.int (0 : Int32)), (.int (0 : Int32))] (.int (0 : Int32))) (gO : n0 ≤ oo) (gB : n0 ≤ b1) (gE : n0 ≤ e1) (nob : oo ≠ b1) (noe : oo ≠ e1) (nbe : b1 ≠ e1)
     : Go p e below (fun s₂ o => ∃ v L, o = .returned v ∧ Qx n0 v s₂.heap L ∧ FrameEnd s o s₂ L 24 704) (T0.setTop (mkF m 96 #[.val (.int p0), .val (.int p1), .val (.int p2), .val (.long q3), .second, .val (.int p4), .val (.int v6), .val (.int v7), .val (.int v8), .val (.int v9), .val (.ref oo), .val (.ref e1), .val (.int (1 : Int32)), .unset, .unset] [])) := by
  refine Go.st (U' := T0.setTop (mkF m 98 #[.val (.int p0), .val (.int p1), .val (.int p2), .val (.long q3), .second, .val (.int p4), .val (.int v6), .val (.int v7), .val (.int v8), .val (.int v9), .val (.ref oo), .val (.ref e1), .val (.int (1 : Int32)), .unset, .unset] [(.int v7)])) (fun t k => ?_) ?_
  · refine XS.iload X0.here hx rfl (hb hby at_96) rfl ?_
    exact k
  by_cases hc543 : v7 = (0 : Int32)
  · refine Go.st (U' := T0.setTop (mkF m 139 #[.val (.int p0), .val (.int p1), .val (.int p2), .val (.long q3), .second, .val (.int p4), .val (.int v6), .val (.int v7), .val (.int v8), .val (.int v9), .val (.ref oo), .val (.ref e1), .val (.int (1 : Int32)), .unset, .unset] [])) (fun t k => ?_) ?_
    · refine XS.ifYes X0.here hx rfl (pc0 := 98) (pc' := 139) rfl (hb hby at_98) rfl ((if0 _ _).trans (teq hc543).1) (by decide) (by decide) ?_
      exact k
    exact node139_1 p0 p1 p2 q3 p4 v6 v7 v8 v9 oo b1 e1 kb ke c0 X0 hx hZ hw hby hml hown e0 Z0 N0 hlk hrt EX FB FS VB VE gO gB gE nob noe nbe
  · refine Go.st (U' := T0.setTop (mkF m 105 #[.val (.int p0), .val (.int p1), .val (.int p2), .val (.long q3), .second, .val (.int p4), .val (.int v6), .val (.int v7), .val (.int v8), .val (.int v9), .val (.ref oo), .val (.ref e1), .val (.int (1 : Int32)), .unset, .unset] [(.int (p1.toInt16.toInt32)), (.ref oo)])) (fun t k => ?_) ?_
    · refine XS.ifNo X0.here hx rfl (hb hby at_98) rfl ((if0 _ _).trans (feq hc543).1) ?_
      refine XS.aload X0.here hx rfl (hb hby at_101) rfl rfl ?_
      refine XS.iloadN X0.here hx rfl (hb hby at_103) rfl ?_
      refine XS.i2s X0.here hx rfl (hb hby at_104) rfl ?_
      exact k
    obtain ⟨cq544, kq544, q544a, q544b, q544c⟩ := isOf hZ e0 EX
    obtain ⟨_, _, ⟨T544, L544, k544, n544⟩, -, X544, ⟨Lc544, hQ544, l544, y544, z544⟩, st544⟩ := X0.virtualBack hx (y := own_y6) (z := own_y6) hown (mvT hZ (own_w hw 52 rfl)) (mvT hZ (own_w hw 53 rfl)) (notFace_of_selects (args := #[]) (mvT hZ (own_w hw 55 rfl))) (mvT hZ (own_w hw 55 rfl)) (mvT hZ (own_w hw 54 rfl)) (by decide) (backOf (W := 0) (rms1 l Z a0 hw [] oo b1 kb c0 (0 : Int32) (0 : Int32) (0 : Int32) (0 : Int32) (0 : Int32) (0 : Int32) (0 : Int32) (0 : Int32) (0 : Int32) (0 : Int32) (0 : Int32) (0 : Int32) (0 : Int32) (0 : Int32) (0 : Int32) (p1.toInt16.toInt32) h0 n0 Z0 EX FB FS VB gO gB nob) hZ (own_w hw 56 rfl) (own_w hw 2 rfl) (by decide) (by decide)) q544a q544c (g := (mkF m 105 #[.val (.int p0), .val (.int p1), .val (.int p2), .val (.long q3), .second, .val (.int p4), .val (.int v6), .val (.int v7), .val (.int v8), .val (.int v9), .val (.ref oo), .val (.ref e1), .val (.int (1 : Int32)), .unset, .unset] [(.int (p1.toInt16.toInt32)), (.ref oo)])) rfl (by rw [hml]; rfl) (Steps.refl _) (argsL := [(.int (p1.toInt16.toInt32))]) (rest := []) (lenOf pd_12 rfl) rfl (by show 2 * 0 + _ ≤ _; exact Nat.le_of_eq rfl) (hb hby at_105) (fun _ _ => ⟨rfl, e0, (by decide : 3 + 0 ≤ _), (by decide : 274 + 0 ≤ _)⟩)
    dsimp only [Pt.U, Pt.locs, Pt.cells, Pt.slots] at X544 l544 y544 z544 st544 hQ544
    subst l544 y544 z544
    obtain ⟨rfl, N544q, K544, PE544, PV544, PZ544, PA544⟩ := hQ544
    have EX_544 := EX.keep K544
    have VE_544 := VE.keep K544 (ninS (Ne.symm noe) (ninS (Ne.symm nbe) nin0))
    have sz544 : n0 ≤ T544.heap.size := Nat.le_trans Z0 K544.1
    have N544 := Fr.app N0 N544q
    refine Go.tr (U' := T544.setTop (mkF m 108 #[.val (.int p0), .val (.int p1), .val (.int p2), .val (.long q3), .second, .val (.int p4), .val (.int v6), .val (.int v7), .val (.int v8), .val (.int v9), .val (.ref oo), .val (.ref e1), .val (.int (1 : Int32)), .unset, .unset] [])) st544 ?_
    refine Go.st (U' := T544.setTop (mkF m 126 #[.val (.int p0), .val (.int p1), .val (.int p2), .val (.long q3), .second, .val (.int p4), .val (.int v6), .val (.int v7), .val (.int v8), .val (.int v9), .val (.ref oo), .val (.ref e1), .val (.int (2 : Int32)), .unset, .unset] [(.int (((p1.toUInt32 >>> ((8 : Int32) &&& 31).toUInt32).toInt32).toInt8.toInt32)), (.int (2 : Int32)), (.ref e1)])) (fun t k => ?_) ?_
    · refine XS.iload X544.here hx rfl (hb hby at_108) rfl ?_
      refine XS.iconst X544.here hx rfl (hb hby at_110) ?_
      refine XS.iadd X544.here hx rfl (hb hby at_111) rfl ?_
      refine XS.bipush X544.here hx rfl (hb hby at_112) ?_
      refine XS.iand X544.here hx rfl (hb hby at_114) rfl ?_
      refine XS.istore X544.here hx rfl (hb hby at_115) rfl (l' := #[.val (.int p0), .val (.int p1), .val (.int p2), .val (.long q3), .second, .val (.int p4), .val (.int v6), .val (.int v7), .val (.int v8), .val (.int v9), .val (.ref oo), .val (.ref e1), .val (.int (2 : Int32)), .unset, .unset]) rfl ?_
      refine XS.aload X544.here hx rfl (hb hby at_117) rfl rfl ?_
      refine XS.iload X544.here hx rfl (hb hby at_119) rfl ?_
      refine XS.iloadN X544.here hx rfl (hb hby at_121) rfl ?_
      refine XS.bipush X544.here hx rfl (hb hby at_122) ?_
      refine XS.iushr X544.here hx rfl (hb hby at_124) rfl ?_
      refine XS.i2b X544.here hx rfl (hb hby at_125) rfl ?_
      exact k
    obtain ⟨cl546, Ar546, q546, S546, N546, H546, G546⟩ := id VE_544
    obtain ⟨T545, h545, X545, e545, W545, st545⟩ := stB X544 hx hZ rfl Ar546 (j := (2 : Int32)) (inb_of (j := (2 : Int32)) S546 ⟨by decide, by decide⟩) (g := (mkF m 126 #[.val (.int p0), .val (.int p1), .val (.int p2), .val (.long q3), .second, .val (.int p4), .val (.int v6), .val (.int v7), .val (.int v8), .val (.int v9), .val (.ref oo), .val (.ref e1), .val (.int (2 : Int32)), .unset, .unset] [(.int (((p1.toUInt32 >>> ((8 : Int32) &&& 31).toUInt32).toInt32).toInt8.toInt32)), (.int (2 : Int32)), (.ref e1)])) rfl rfl (hb hby at_126)
    have VE_545 := Arv.set Ar546 q546 S546 N546 H546 G546 (fits_nar_byte _) W545 2 rfl (Nat.le_of_ble_eq_true rfl)
    have PE544_545 := PE544.wr W545
    have PV544_545 := PV544.other W545 (Or.inl noe)
    have PZ544_545 := PZ544.other W545 (Or.inl noe)
    have PA544_545 := PA544.other W545 nbe
    have N545 := Fr.snoc X545 N544 gE
    have sz545 : n0 ≤ h545.size := Nat.le_trans sz544 (Nat.le_of_eq W545.size.symm)
    refine Go.st (U' := T545.setTop (mkF m 127 #[.val (.int p0), .val (.int p1), .val (.int p2), .val (.long q3), .second, .val (.int p4), .val (.int v6), .val (.int v7), .val (.int v8), .val (.int v9), .val (.ref oo), .val (.ref e1), .val (.int (2 : Int32)), .unset, .unset] [])) (fun t k => st545 _ k) ?_
    refine Go.st (U' := T545.setTop (mkF m 135 #[.val (.int p0), .val (.int p1), .val (.int p2), .val (.long q3), .second, .val (.int p4), .val (.int v6), .val (.int v7), .val (.int v8), .val (.int v9), .val (.ref oo), .val (.ref e1), .val (.int (2 : Int32)), .unset, .unset] [(.int (p1.toInt8.toInt32)), (.int (3 : Int32)), (.ref e1)])) (fun t k => ?_) ?_
    · refine XS.aload X545.here hx rfl (hb hby at_127) rfl rfl ?_
      refine XS.iload X545.here hx rfl (hb hby at_129) rfl ?_
      refine XS.iconst X545.here hx rfl (hb hby at_131) ?_
      refine XS.iadd X545.here hx rfl (hb hby at_132) rfl ?_
      refine XS.iloadN X545.here hx rfl (hb hby at_133) rfl ?_
      refine XS.i2b X545.here hx rfl (hb hby at_134) rfl ?_
      exact k
    obtain ⟨cl548, Ar548, q548, S548, N548, H548, G548⟩ := id VE_545
    obtain ⟨T547, h547, X547, e547, W547, st547⟩ := stB X545 hx hZ e545 Ar548 (j := (3 : Int32)) (inb_of (j := (3 : Int32)) S548 ⟨by decide, by decide⟩) (g := (mkF m 135 #[.val (.int p0), .val (.int p1), .val (.int p2), .val (.long q3), .second, .val (.int p4), .val (.int v6), .val (.int v7), .val (.int v8), .val (.int v9), .val (.ref oo), .val (.ref e1), .val (.int (2 : Int32)), .unset, .unset] [(.int (p1.toInt8.toInt32)), (.int (3 : Int32)), (.ref e1)])) rfl rfl (hb hby at_135)
    have VE_547 := Arv.set Ar548 q548 S548 N548 H548 G548 (fits_nar_byte _) W547 3 rfl (Nat.le_of_ble_eq_true rfl)
    have PE544_547 := PE544_545.wr W547
    have PV544_547 := PV544_545.other W547 (Or.inl noe)
    have PZ544_547 := PZ544_545.other W547 (Or.inl noe)
    have PA544_547 := PA544_545.other W547 nbe
    have N547 := Fr.snoc X547 N545 gE
    have sz547 : n0 ≤ h547.size := Nat.le_trans sz545 (Nat.le_of_eq W547.size.symm)
    refine Go.st (U' := T547.setTop (mkF m 136 #[.val (.int p0), .val (.int p1), .val (.int p2), .val (.long q3), .second, .val (.int p4), .val (.int v6), .val (.int v7), .val (.int v8), .val (.int v9), .val (.ref oo), .val (.ref e1), .val (.int (2 : Int32)), .unset, .unset] [])) (fun t k => st547 _ k) ?_
    refine Go.st (U' := T547.setTop (mkF m 139 #[.val (.int p0), .val (.int p1), .val (.int p2), .val (.long q3), .second, .val (.int p4), .val (.int v6), .val (.int v7), .val (.int v8), .val (.int v9), .val (.ref oo), .val (.ref e1), .val (.int (4 : Int32)), .unset, .unset] [])) (fun t k => ?_) ?_
    · refine XS.iinc X547.here hx rfl (hb hby at_136) rfl (l' := #[.val (.int p0), .val (.int p1), .val (.int p2), .val (.long q3), .second, .val (.int p4), .val (.int v6), .val (.int v7), .val (.int v8), .val (.int v9), .val (.ref oo), .val (.ref e1), .val (.int (4 : Int32)), .unset, .unset]) rfl ?_
      exact k
    have VB_ := PA544_547; rw [own_s1 p1, own_s2 p1] at VB_; exact node139_4 p0 p1 p2 q3 p4 v6 v7 v8 v9 oo b1 e1 kb ke c0 (0 : Int32) ((((p1.toUInt32 >>> ((8 : Int32) &&& 31).toUInt32).toInt32).toInt8.toInt32).toInt8.toInt32) ((p1.toInt8.toInt32).toInt8.toInt32) X547 hx hZ hw hby hml hown e547 sz547 N547 hlk hrt PE544_547 PV544_547 PZ544_547 VB_ VE_547 gO gB gE nob noe nbe
theorem pd_13 : parseMethodDescriptor "()V" = some ⟨[], none⟩ := by decide +kernel
theorem pd_14 : parseMethodDescriptor "(B)V" = some ⟨[.byte], none⟩ := by decide +kernel
theorem ef0 (m : MethodId) (p0 : Int32) (p1 : Int32) (p2 : Int32) (q3 : Int64) (p4 : Int32) : entryFrame m #[(.int p0), (.int p1), (.int p2), (.long q3), (.int p4)] maxLocals = mkF m 0 #[.val (.int p0), .val (.int p1), .val (.int p2), .val (.long q3), .second, .val (.int p4), .unset, .unset, .unset, .unset, .unset, .unset, .unset, .unset, .unset] [] := by first | (simp [entryFrame, mkF, argsToLocals, Value.category, maxLocals]; done) | rfl
def Q0 (Z : State) (p0 : Int32) (p1 : Int32) (p2 : Int32) (q3 : Int64) (p4 : Int32) (h0 : Heap) (n0 : Nat) (v : Option Value) (h : Heap) (L : List Loc) : Prop := v = some (.int 1) ∧ Fr n0 L
set_option maxRecDepth 65536 in
set_option maxHeartbeats 40000000 in
theorem rm0 (l : Launch) (Z : State) (a0 : Array Value) (hw : ∀ d ∈ tables_1, d.before a0 Z = true) (ws : List Jvm.Cond) (p0 : Int32) (p1 : Int32) (p2 : Int32) (q3 : Int64) (p4 : Int32) (h0 : Heap) (n0 : Nat) (Z0 : n0 ≤ h0.size) :
    MetFree l x (head1 (Jvm.Cond.code x code maxLocals ret :: ws) room_1) (fun a U => a = #[(.int p0), (.int p1), (.int p2), (.long q3), (.int p4)] ∧ Z.Warmed39 U.vm ∧ U.heap = h0) (fun _ _ _ _ _ => True) (fun _ U o U' => ∃ v L, o = .returned v ∧ Q0 Z p0 p1 p2 q3 p4 h0 n0 v U'.heap L ∧ FrameEnd U o U' L 24 704) := by
  refine MetFree.of_bodySF (plainFor_of_name pn_1) hisR ?_
  intro p e s m args below meth c s₁ Bd hml0 hP hK
  obtain ⟨rfl, hZ, hh⟩ := hP
  have hx := Bd.exec
  have hby := Bd.bytes
  have hml : c.maxLocals = 15 := hml0
  have hown : s.vm.findClass "com/example/portcullis/portcullis/io/CdrOutputToByteArrayPinLaw" = some m.cls := findClass_of_methodNamed Bd.named
  have hnm := (name_of_methodNamed Bd.named Bd.method).1
  have hlk : meth.locks = false := BodyLoose.notSynchronized Bd
  have hrt := Bd.returns
  have X0 : Stand p l e room_1 s m #[(.int p0), (.int p1), (.int p2), (.long q3), (.int p4)] below meth c s₁ [] 0 0 := Stand.of_body Bd
  have e0 : s₁.heap = h0 := by rw [← hh, Bd.state]; rfl
  have N0 := Fr.nil n0
  refine (show Go p e below (fun s₂ o => ∃ v L, o = .returned v ∧ Q0 Z p0 p1 p2 q3 p4 h0 n0 v s₂.heap L ∧ FrameEnd s o s₂ L 24 704) (s₁.setTop (entryFrame m #[(.int p0), (.int p1), (.int p2), (.long q3), (.int p4)] maxLocals)) from ?_)
  rw [ef0]
  refine Go.st (U' := s₁.setTop (mkF m 4 #[.val (.int p0), .val (.int p1), .val (.int p2), .val (.long q3), .second, .val (.int p4), .unset, .unset, .unset, .unset, .unset, .unset, .unset, .unset, .unset] [(.int (p4 &&& (1 : Int32)))])) (fun t k => ?_) ?_
  · refine XS.iload X0.here hx rfl (hb hby at_0) rfl ?_
    refine XS.iconst X0.here hx rfl (hb hby at_2) ?_
    refine XS.iand X0.here hx rfl (hb hby at_3) rfl ?_
    exact k
  refine Go.join (P := fun (v550 : Int32) => v550 = (if (p4 &&& (1 : Int32)) = (0 : Int32) then (0 : Int32) else (1 : Int32))) (F := fun (v550 : Int32) => s₁.setTop (mkF m 12 #[.val (.int p0), .val (.int p1), .val (.int p2), .val (.long q3), .second, .val (.int p4), .unset, .unset, .unset, .unset, .unset, .unset, .unset, .unset, .unset] [(.int v550)])) (fun J551 => ?_) (fun v550 hv_v550 => ?_)
  · by_cases hc549 : (p4 &&& (1 : Int32)) = (0 : Int32)
    · refine Go.st (U' := s₁.setTop (mkF m 12 #[.val (.int p0), .val (.int p1), .val (.int p2), .val (.long q3), .second, .val (.int p4), .unset, .unset, .unset, .unset, .unset, .unset, .unset, .unset, .unset] [(.int (0 : Int32))])) (fun t k => ?_) ?_
      · refine XS.ifYes X0.here hx rfl (pc0 := 4) (pc' := 11) rfl (hb hby at_4) rfl ((if0 _ _).trans (teq hc549).1) (by decide) (by decide) ?_
        refine XS.iconst X0.here hx rfl (hb hby at_11) ?_
        exact k
      exact J551 _ (by first | rfl | simp only [if_pos hc549])
    · refine Go.st (U' := s₁.setTop (mkF m 12 #[.val (.int p0), .val (.int p1), .val (.int p2), .val (.long q3), .second, .val (.int p4), .unset, .unset, .unset, .unset, .unset, .unset, .unset, .unset, .unset] [(.int (1 : Int32))])) (fun t k => ?_) ?_
      · refine XS.ifNo X0.here hx rfl (hb hby at_4) rfl ((if0 _ _).trans (feq hc549).1) ?_
        refine XS.iconst X0.here hx rfl (hb hby at_7) ?_
        refine XS.goto X0.here hx rfl (pc0 := 8) (pc' := 12) rfl (hb hby at_8) (by decide) (by decide) ?_
        exact k
      exact J551 _ (by first | rfl | simp only [if_neg hc549])
  refine Go.st (U' := s₁.setTop (mkF m 18 #[.val (.int p0), .val (.int p1), .val (.int p2), .val (.long q3), .second, .val (.int p4), .val (.int v550), .unset, .unset, .unset, .unset, .unset, .unset, .unset, .unset] [(.int (p4 &&& (2 : Int32)))])) (fun t k => ?_) ?_
  · refine XS.istore X0.here hx rfl (hb hby at_12) rfl (l' := #[.val (.int p0), .val (.int p1), .val (.int p2), .val (.long q3), .second, .val (.int p4), .val (.int v550), .unset, .unset, .unset, .unset, .unset, .unset, .unset, .unset]) rfl ?_
    refine XS.iload X0.here hx rfl (hb hby at_14) rfl ?_
    refine XS.iconst X0.here hx rfl (hb hby at_16) ?_
    refine XS.iand X0.here hx rfl (hb hby at_17) rfl ?_
    exact k
  refine Go.join (P := fun (v553 : Int32) => v553 = (if (p4 &&& (2 : Int32)) = (0 : Int32) then (0 : Int32) else (1 : Int32))) (F := fun (v553 : Int32) => s₁.setTop (mkF m 26 #[.val (.int p0), .val (.int p1), .val (.int p2), .val (.long q3), .second, .val (.int p4), .val (.int v550), .unset, .unset, .unset, .unset, .unset, .unset, .unset, .unset] [(.int v553)])) (fun J554 => ?_) (fun v553 hv_v553 => ?_)
  · by_cases hc552 : (p4 &&& (2 : Int32)) = (0 : Int32)
    · refine Go.st (U' := s₁.setTop (mkF m 26 #[.val (.int p0), .val (.int p1), .val (.int p2), .val (.long q3), .second, .val (.int p4), .val (.int v550), .unset, .unset, .unset, .unset, .unset, .unset, .unset, .unset] [(.int (0 : Int32))])) (fun t k => ?_) ?_
      · refine XS.ifYes X0.here hx rfl (pc0 := 18) (pc' := 25) rfl (hb hby at_18) rfl ((if0 _ _).trans (teq hc552).1) (by decide) (by decide) ?_
        refine XS.iconst X0.here hx rfl (hb hby at_25) ?_
        exact k
      exact J554 _ (by first | rfl | simp only [if_pos hc552])
    · refine Go.st (U' := s₁.setTop (mkF m 26 #[.val (.int p0), .val (.int p1), .val (.int p2), .val (.long q3), .second, .val (.int p4), .val (.int v550), .unset, .unset, .unset, .unset, .unset, .unset, .unset, .unset] [(.int (1 : Int32))])) (fun t k => ?_) ?_
      · refine XS.ifNo X0.here hx rfl (hb hby at_18) rfl ((if0 _ _).trans (feq hc552).1) ?_
        refine XS.iconst X0.here hx rfl (hb hby at_21) ?_
        refine XS.goto X0.here hx rfl (pc0 := 22) (pc' := 26) rfl (hb hby at_22) (by decide) (by decide) ?_
        exact k
      exact J554 _ (by first | rfl | simp only [if_neg hc552])
  refine Go.st (U' := s₁.setTop (mkF m 32 #[.val (.int p0), .val (.int p1), .val (.int p2), .val (.long q3), .second, .val (.int p4), .val (.int v550), .val (.int v553), .unset, .unset, .unset, .unset, .unset, .unset, .unset] [(.int (p4 &&& (4 : Int32)))])) (fun t k => ?_) ?_
  · refine XS.istore X0.here hx rfl (hb hby at_26) rfl (l' := #[.val (.int p0), .val (.int p1), .val (.int p2), .val (.long q3), .second, .val (.int p4), .val (.int v550), .val (.int v553), .unset, .unset, .unset, .unset, .unset, .unset, .unset]) rfl ?_
    refine XS.iload X0.here hx rfl (hb hby at_28) rfl ?_
    refine XS.iconst X0.here hx rfl (hb hby at_30) ?_
    refine XS.iand X0.here hx rfl (hb hby at_31) rfl ?_
    exact k
  refine Go.join (P := fun (v556 : Int32) => v556 = (if (p4 &&& (4 : Int32)) = (0 : Int32) then (0 : Int32) else (1 : Int32))) (F := fun (v556 : Int32) => s₁.setTop (mkF m 40 #[.val (.int p0), .val (.int p1), .val (.int p2), .val (.long q3), .second, .val (.int p4), .val (.int v550), .val (.int v553), .unset, .unset, .unset, .unset, .unset, .unset, .unset] [(.int v556)])) (fun J557 => ?_) (fun v556 hv_v556 => ?_)
  · by_cases hc555 : (p4 &&& (4 : Int32)) = (0 : Int32)
    · refine Go.st (U' := s₁.setTop (mkF m 40 #[.val (.int p0), .val (.int p1), .val (.int p2), .val (.long q3), .second, .val (.int p4), .val (.int v550), .val (.int v553), .unset, .unset, .unset, .unset, .unset, .unset, .unset] [(.int (0 : Int32))])) (fun t k => ?_) ?_
      · refine XS.ifYes X0.here hx rfl (pc0 := 32) (pc' := 39) rfl (hb hby at_32) rfl ((if0 _ _).trans (teq hc555).1) (by decide) (by decide) ?_
        refine XS.iconst X0.here hx rfl (hb hby at_39) ?_
        exact k
      exact J557 _ (by first | rfl | simp only [if_pos hc555])
    · refine Go.st (U' := s₁.setTop (mkF m 40 #[.val (.int p0), .val (.int p1), .val (.int p2), .val (.long q3), .second, .val (.int p4), .val (.int v550), .val (.int v553), .unset, .unset, .unset, .unset, .unset, .unset, .unset] [(.int (1 : Int32))])) (fun t k => ?_) ?_
      · refine XS.ifNo X0.here hx rfl (hb hby at_32) rfl ((if0 _ _).trans (feq hc555).1) ?_
        refine XS.iconst X0.here hx rfl (hb hby at_35) ?_
        refine XS.goto X0.here hx rfl (pc0 := 36) (pc' := 40) rfl (hb hby at_36) (by decide) (by decide) ?_
        exact k
      exact J557 _ (by first | rfl | simp only [if_neg hc555])
  refine Go.st (U' := s₁.setTop (mkF m 47 #[.val (.int p0), .val (.int p1), .val (.int p2), .val (.long q3), .second, .val (.int p4), .val (.int v550), .val (.int v553), .val (.int v556), .unset, .unset, .unset, .unset, .unset, .unset] [(.int (p4 &&& (8 : Int32)))])) (fun t k => ?_) ?_
  · refine XS.istore X0.here hx rfl (hb hby at_40) rfl (l' := #[.val (.int p0), .val (.int p1), .val (.int p2), .val (.long q3), .second, .val (.int p4), .val (.int v550), .val (.int v553), .val (.int v556), .unset, .unset, .unset, .unset, .unset, .unset]) rfl ?_
    refine XS.iload X0.here hx rfl (hb hby at_42) rfl ?_
    refine XS.bipush X0.here hx rfl (hb hby at_44) ?_
    refine XS.iand X0.here hx rfl (hb hby at_46) rfl ?_
    exact k
  refine Go.join (P := fun (v559 : Int32) => v559 = (if (p4 &&& (8 : Int32)) = (0 : Int32) then (0 : Int32) else (1 : Int32))) (F := fun (v559 : Int32) => s₁.setTop (mkF m 55 #[.val (.int p0), .val (.int p1), .val (.int p2), .val (.long q3), .second, .val (.int p4), .val (.int v550), .val (.int v553), .val (.int v556), .unset, .unset, .unset, .unset, .unset, .unset] [(.int v559)])) (fun J560 => ?_) (fun v559 hv_v559 => ?_)
  · by_cases hc558 : (p4 &&& (8 : Int32)) = (0 : Int32)
    · refine Go.st (U' := s₁.setTop (mkF m 55 #[.val (.int p0), .val (.int p1), .val (.int p2), .val (.long q3), .second, .val (.int p4), .val (.int v550), .val (.int v553), .val (.int v556), .unset, .unset, .unset, .unset, .unset, .unset] [(.int (0 : Int32))])) (fun t k => ?_) ?_
      · refine XS.ifYes X0.here hx rfl (pc0 := 47) (pc' := 54) rfl (hb hby at_47) rfl ((if0 _ _).trans (teq hc558).1) (by decide) (by decide) ?_
        refine XS.iconst X0.here hx rfl (hb hby at_54) ?_
        exact k
      exact J560 _ (by first | rfl | simp only [if_pos hc558])
    · refine Go.st (U' := s₁.setTop (mkF m 55 #[.val (.int p0), .val (.int p1), .val (.int p2), .val (.long q3), .second, .val (.int p4), .val (.int v550), .val (.int v553), .val (.int v556), .unset, .unset, .unset, .unset, .unset, .unset] [(.int (1 : Int32))])) (fun t k => ?_) ?_
      · refine XS.ifNo X0.here hx rfl (hb hby at_47) rfl ((if0 _ _).trans (feq hc558).1) ?_
        refine XS.iconst X0.here hx rfl (hb hby at_50) ?_
        refine XS.goto X0.here hx rfl (pc0 := 51) (pc' := 55) rfl (hb hby at_51) (by decide) (by decide) ?_
        exact k
      exact J560 _ (by first | rfl | simp only [if_neg hc558])
  refine Go.st (U' := s₁.setTop (mkF m 57 #[.val (.int p0), .val (.int p1), .val (.int p2), .val (.long q3), .second, .val (.int p4), .val (.int v550), .val (.int v553), .val (.int v556), .val (.int v559), .unset, .unset, .unset, .unset, .unset] [])) (fun t k => ?_) ?_
  · refine XS.istore X0.here hx rfl (hb hby at_55) rfl (l' := #[.val (.int p0), .val (.int p1), .val (.int p2), .val (.long q3), .second, .val (.int p4), .val (.int v550), .val (.int v553), .val (.int v556), .val (.int v559), .unset, .unset, .unset, .unset, .unset]) rfl ?_
    exact k
  obtain ⟨T561, h561, X561, e561, E561, A561, D561, -, st561⟩ := newO X0 hx hZ hown (own_w hw 0 rfl) (own_w hw 1 rfl) (own_w hw 2 rfl) e0 (g := (mkF m 57 #[.val (.int p0), .val (.int p1), .val (.int p2), .val (.long q3), .second, .val (.int p4), .val (.int v550), .val (.int v553), .val (.int v556), .val (.int v559), .unset, .unset, .unset, .unset, .unset] [])) rfl (hb hby at_57) (by decide) (by decide)
  obtain ⟨b561, g561⟩ : ∃ z, z = h0.size := ⟨_, rfl⟩
  rw [← g561] at A561 D561 st561
  have ge_b561 : n0 ≤ b561 := Nat.le_trans Z0 (Nat.le_of_eq g561.symm)
  have F_buffer_b561 : Fld Z h561 b561 "com/example/portcullis/portcullis/io/CdrOutput" "buffer" "[B" .null := D561 (Or.inl (own_w hw 11 rfl)) (ty := (.array .byte)) (by decide)
  have F_size_b561 : Fld Z h561 b561 "com/example/portcullis/portcullis/io/CdrOutput" "size" "I" (.int (0 : Int32)) := D561 (Or.inl (own_w hw 18 rfl)) (ty := .int) (by decide)
  have sz561 : n0 ≤ h561.size := Nat.le_trans Z0 E561.1
  refine Go.st (U' := T561.setTop (mkF m 60 #[.val (.int p0), .val (.int p1), .val (.int p2), .val (.long q3), .second, .val (.int p4), .val (.int v550), .val (.int v553), .val (.int v556), .val (.int v559), .unset, .unset, .unset, .unset, .unset] [(.ref b561)])) (fun t k => st561 _ k) ?_
  refine Go.st (U' := T561.setTop (mkF m 61 #[.val (.int p0), .val (.int p1), .val (.int p2), .val (.long q3), .second, .val (.int p4), .val (.int v550), .val (.int v553), .val (.int v556), .val (.int v559), .unset, .unset, .unset, .unset, .unset] [(.ref b561), (.ref b561)])) (fun t k => ?_) ?_
  · refine XS.dup X561.here hx rfl (hb hby at_60) rfl rfl ?_
    exact k
  obtain ⟨_, _, ⟨T562, L562, k562, n562⟩, -, X562, ⟨Lc562, hQ562, l562, y562, z562⟩, st562⟩ := X561.specialBack hx (y := own_y0) rfl hown (mvT hZ (own_w hw 3 rfl)) (mvT hZ (own_w hw 4 rfl)) (mvT hZ (own_w hw 5 rfl)) (by decide) (backOf (W := 1) (rmi l Z a0 hw [] b561 h561 n0 sz561 A561 F_buffer_b561 F_size_b561 ge_b561) hZ (own_w hw 5 rfl) (own_w hw 2 rfl) (by decide) (by decide)) (g := (mkF m 61 #[.val (.int p0), .val (.int p1), .val (.int p2), .val (.long q3), .second, .val (.int p4), .val (.int v550), .val (.int v553), .val (.int v556), .val (.int v559), .unset, .unset, .unset, .unset, .unset] [(.ref b561), (.ref b561)])) rfl (by rw [hml]; rfl) (Steps.refl _) (a := b561) (argsL := []) (rest := [(.ref b561)]) (lenOf pd_13 rfl) rfl (by show 2 * 0 + _ ≤ _; exact Nat.le_of_eq rfl) (hb hby at_61) (fun _ _ => ⟨rfl, e561, (by decide : 1 + 1 ≤ _), (by decide : 2 + 256 ≤ _)⟩)
  dsimp only [Pt.U, Pt.locs, Pt.cells, Pt.slots] at X562 l562 y562 z562 st562 hQ562
  subst l562 y562 z562
  obtain ⟨rfl, N562q, K562, PE562, b562, kk562, ge_b562, sb_b562, PV562, PZ562, PA562⟩ := hQ562
  have ne_b561_b562 : b561 ≠ b562 := Nat.ne_of_lt (Nat.lt_of_lt_of_le A561.lt sb_b562)
  have Ex_b561_562 := A561.keep K562
  have sz562 : n0 ≤ T562.heap.size := Nat.le_trans sz561 K562.1
  have N562 := Fr.app N0 N562q
  refine Go.tr (U' := T562.setTop (mkF m 64 #[.val (.int p0), .val (.int p1), .val (.int p2), .val (.long q3), .second, .val (.int p4), .val (.int v550), .val (.int v553), .val (.int v556), .val (.int v559), .unset, .unset, .unset, .unset, .unset] [(.ref b561)])) st562 ?_
  refine Go.st (U' := T562.setTop (mkF m 68 #[.val (.int p0), .val (.int p1), .val (.int p2), .val (.long q3), .second, .val (.int p4), .val (.int v550), .val (.int v553), .val (.int v556), .val (.int v559), .val (.ref b561), .unset, .unset, .unset, .unset] [(.int (16 : Int32))])) (fun t k => ?_) ?_
  · refine XS.astore X562.here hx rfl (hb hby at_64) rfl rfl (l' := #[.val (.int p0), .val (.int p1), .val (.int p2), .val (.long q3), .second, .val (.int p4), .val (.int v550), .val (.int v553), .val (.int v556), .val (.int v559), .val (.ref b561), .unset, .unset, .unset, .unset]) rfl ?_
    refine XS.bipush X562.here hx rfl (hb hby at_66) ?_
    exact k
  obtain ⟨T563, h563, k563, X563, e563, E563, A563, st563⟩ := newP X562 hx hZ (own_w hw 9 rfl) rfl (g := (mkF m 68 #[.val (.int p0), .val (.int p1), .val (.int p2), .val (.long q3), .second, .val (.int p4), .val (.int v550), .val (.int v553), .val (.int v556), .val (.int v559), .val (.ref b561), .unset, .unset, .unset, .unset] [(.int (16 : Int32))])) rfl (hb hby at_68) rfl (by decide) (cap := 16) (by decide) (by decide) (by decide) (by decide)
  obtain ⟨b563, g563⟩ : ∃ z, z = T562.heap.size := ⟨_, rfl⟩
  rw [← g563] at A563 st563
  have ne_b561_b563 : b561 ≠ b563 := Nat.ne_of_lt (Nat.lt_of_lt_of_le PE562.lt (Nat.le_of_eq g563.symm))
  have ne_b562_b563 : b562 ≠ b563 := Nat.ne_of_lt (Nat.lt_of_lt_of_le PA562.lt (Nat.le_of_eq g563.symm))
  have ge_b563 : n0 ≤ b563 := Nat.le_trans sz562 (Nat.le_of_eq g563.symm)
  have PE562_563 := PE562.ext E563
  have PV562_563 := PV562.ext E563
  have PZ562_563 := PZ562.ext E563
  have PA562_563 := PA562.ext E563
  have V_b563 : Arv Z h563 b563 k563 .byte (16 : Int32) [(.int (0 : Int32)), (.int (0 : Int32)), (.int (0 : Int32)), (.int (0 : Int32)), (.int (0 : Int32)), (.int (0 : Int32)), (.int (0 : Int32)), (.int (0 : Int32)), (.int (0 : Int32)), (.int (0 : Int32)), (.int (0 : Int32)), (.int (0 : Int32)), (.int (0 : Int32)), (.int (0 : Int32)), (.int (0 : Int32)), (.int (0 : Int32))] (.int (0 : Int32)) := (Arv.new A563 (by decide)).pad (pad_rep [] (.int (0 : Int32)) 16)
  have sz563 : n0 ≤ h563.size := Nat.le_trans sz562 E563.1
  refine Go.st (U' := T563.setTop (mkF m 70 #[.val (.int p0), .val (.int p1), .val (.int p2), .val (.long q3), .second, .val (.int p4), .val (.int v550), .val (.int v553), .val (.int v556), .val (.int v559), .val (.ref b561), .unset, .unset, .unset, .unset] [(.ref b563)])) (fun t k => st563 _ k) ?_
  refine Go.st (U' := T563.setTop (mkF m 77 #[.val (.int p0), .val (.int p1), .val (.int p2), .val (.long q3), .second, .val (.int p4), .val (.int v550), .val (.int v553), .val (.int v556), .val (.int v559), .val (.ref b561), .val (.ref b563), .val (.int (0 : Int32)), .unset, .unset] [(.int v550)])) (fun t k => ?_) ?_
  · refine XS.astore X563.here hx rfl (hb hby at_70) rfl rfl (l' := #[.val (.int p0), .val (.int p1), .val (.int p2), .val (.long q3), .second, .val (.int p4), .val (.int v550), .val (.int v553), .val (.int v556), .val (.int v559), .val (.ref b561), .val (.ref b563), .unset, .unset, .unset]) rfl ?_
    refine XS.iconst X563.here hx rfl (hb hby at_72) ?_
    refine XS.istore X563.here hx rfl (hb hby at_73) rfl (l' := #[.val (.int p0), .val (.int p1), .val (.int p2), .val (.long q3), .second, .val (.int p4), .val (.int v550), .val (.int v553), .val (.int v556), .val (.int v559), .val (.ref b561), .val (.ref b563), .val (.int (0 : Int32)), .unset, .unset]) rfl ?_
    refine XS.iload X563.here hx rfl (hb hby at_75) rfl ?_
    exact k
  by_cases hc564 : v550 = (0 : Int32)
  · refine Go.st (U' := T563.setTop (mkF m 96 #[.val (.int p0), .val (.int p1), .val (.int p2), .val (.long q3), .second, .val (.int p4), .val (.int v550), .val (.int v553), .val (.int v556), .val (.int v559), .val (.ref b561), .val (.ref b563), .val (.int (0 : Int32)), .unset, .unset] [])) (fun t k => ?_) ?_
    · refine XS.ifYes X563.here hx rfl (pc0 := 77) (pc' := 96) rfl (hb hby at_77) rfl ((if0 _ _).trans (teq hc564).1) (by decide) (by decide) ?_
      exact k
    exact node96_0 p0 p1 p2 q3 p4 v550 v553 v556 v559 b561 b562 b563 kk562 k563  X563 hx hZ hw hby hml hown e563 sz563 N562 hlk hrt PE562_563 PV562_563 PZ562_563 PA562_563 V_b563 ge_b561 ge_b562 ge_b563 ne_b561_b562 ne_b561_b563 ne_b562_b563
  · refine Go.st (U' := T563.setTop (mkF m 84 #[.val (.int p0), .val (.int p1), .val (.int p2), .val (.long q3), .second, .val (.int p4), .val (.int v550), .val (.int v553), .val (.int v556), .val (.int v559), .val (.ref b561), .val (.ref b563), .val (.int (0 : Int32)), .unset, .unset] [(.int (p0.toInt8.toInt32)), (.ref b561)])) (fun t k => ?_) ?_
    · refine XS.ifNo X563.here hx rfl (hb hby at_77) rfl ((if0 _ _).trans (feq hc564).1) ?_
      refine XS.aload X563.here hx rfl (hb hby at_80) rfl rfl ?_
      refine XS.iloadN X563.here hx rfl (hb hby at_82) rfl ?_
      refine XS.i2b X563.here hx rfl (hb hby at_83) rfl ?_
      exact k
    obtain ⟨cq565, kq565, q565a, q565b, q565c⟩ := isOf hZ e563 PE562_563
    obtain ⟨_, _, ⟨T565, L565, k565, n565⟩, -, X565, ⟨Lc565, hQ565, l565, y565, z565⟩, st565⟩ := X563.virtualBack hx (y := own_y3) (z := own_y3) hown (mvT hZ (own_w hw 43 rfl)) (mvT hZ (own_w hw 44 rfl)) (notFace_of_selects (args := #[]) (mvT hZ (own_w hw 46 rfl))) (mvT hZ (own_w hw 46 rfl)) (mvT hZ (own_w hw 45 rfl)) (by decide) (backOf (W := 0) (rmo0 l Z a0 hw [] b561 b562 kk562 (0 : Int32) (0 : Int32) (0 : Int32) (0 : Int32) (0 : Int32) (0 : Int32) (0 : Int32) (0 : Int32) (0 : Int32) (0 : Int32) (0 : Int32) (0 : Int32) (0 : Int32) (0 : Int32) (0 : Int32) (0 : Int32) (p0.toInt8.toInt32) h563 n0 sz563 PE562_563 PV562_563 PZ562_563 PA562_563 ge_b561 ge_b562 ne_b561_b562) hZ (own_w hw 47 rfl) (own_w hw 2 rfl) (by decide) (by decide)) q565a q565c (g := (mkF m 84 #[.val (.int p0), .val (.int p1), .val (.int p2), .val (.long q3), .second, .val (.int p4), .val (.int v550), .val (.int v553), .val (.int v556), .val (.int v559), .val (.ref b561), .val (.ref b563), .val (.int (0 : Int32)), .unset, .unset] [(.int (p0.toInt8.toInt32)), (.ref b561)])) rfl (by rw [hml]; rfl) (Steps.refl _) (argsL := [(.int (p0.toInt8.toInt32))]) (rest := []) (lenOf pd_14 rfl) rfl (by show 2 * 0 + _ ≤ _; exact Nat.le_of_eq rfl) (hb hby at_84) (fun _ _ => ⟨rfl, e563, (by decide : 3 + 0 ≤ _), (by decide : 274 + 0 ≤ _)⟩)
    dsimp only [Pt.U, Pt.locs, Pt.cells, Pt.slots] at X565 l565 y565 z565 st565 hQ565
    subst l565 y565 z565
    obtain ⟨rfl, N565q, K565, PE565, PV565, PZ565, PA565⟩ := hQ565
    have PE562_565 := PE562_563.keep K565
    have V_b563_565 := V_b563.keep K565 (ninS (Ne.symm ne_b561_b563) (ninS (Ne.symm ne_b562_b563) nin0))
    have sz565 : n0 ≤ T565.heap.size := Nat.le_trans sz563 K565.1
    have N565 := Fr.app N562 N565q
    refine Go.tr (U' := T565.setTop (mkF m 87 #[.val (.int p0), .val (.int p1), .val (.int p2), .val (.long q3), .second, .val (.int p4), .val (.int v550), .val (.int v553), .val (.int v556), .val (.int v559), .val (.ref b561), .val (.ref b563), .val (.int (0 : Int32)), .unset, .unset] [])) st565 ?_
    refine Go.st (U' := T565.setTop (mkF m 92 #[.val (.int p0), .val (.int p1), .val (.int p2), .val (.long q3), .second, .val (.int p4), .val (.int v550), .val (.int v553), .val (.int v556), .val (.int v559), .val (.ref b561), .val (.ref b563), .val (.int (0 : Int32)), .unset, .unset] [(.int (p0.toInt8.toInt32)), (.int (0 : Int32)), (.ref b563)])) (fun t k => ?_) ?_
    · refine XS.aload X565.here hx rfl (hb hby at_87) rfl rfl ?_
      refine XS.iconst X565.here hx rfl (hb hby at_89) ?_
      refine XS.iloadN X565.here hx rfl (hb hby at_90) rfl ?_
      refine XS.i2b X565.here hx rfl (hb hby at_91) rfl ?_
      exact k
    obtain ⟨cl567, Ar567, q567, S567, N567, H567, G567⟩ := id V_b563_565
    obtain ⟨T566, h566, X566, e566, W566, st566⟩ := stB X565 hx hZ rfl Ar567 (j := (0 : Int32)) (inb_of (j := (0 : Int32)) S567 ⟨by decide, by decide⟩) (g := (mkF m 92 #[.val (.int p0), .val (.int p1), .val (.int p2), .val (.long q3), .second, .val (.int p4), .val (.int v550), .val (.int v553), .val (.int v556), .val (.int v559), .val (.ref b561), .val (.ref b563), .val (.int (0 : Int32)), .unset, .unset] [(.int (p0.toInt8.toInt32)), (.int (0 : Int32)), (.ref b563)])) rfl rfl (hb hby at_92)
    have V_b563_566 := Arv.set Ar567 q567 S567 N567 H567 G567 (fits_nar_byte _) W566 0 rfl (Nat.le_of_ble_eq_true rfl)
    have PE565_566 := PE565.wr W566
    have PV565_566 := PV565.other W566 (Or.inl ne_b561_b563)
    have PZ565_566 := PZ565.other W566 (Or.inl ne_b561_b563)
    have PA565_566 := PA565.other W566 ne_b562_b563
    have N566 := Fr.snoc X566 N565 ge_b563
    have sz566 : n0 ≤ h566.size := Nat.le_trans sz565 (Nat.le_of_eq W566.size.symm)
    refine Go.st (U' := T566.setTop (mkF m 93 #[.val (.int p0), .val (.int p1), .val (.int p2), .val (.long q3), .second, .val (.int p4), .val (.int v550), .val (.int v553), .val (.int v556), .val (.int v559), .val (.ref b561), .val (.ref b563), .val (.int (0 : Int32)), .unset, .unset] [])) (fun t k => st566 _ k) ?_
    refine Go.st (U' := T566.setTop (mkF m 96 #[.val (.int p0), .val (.int p1), .val (.int p2), .val (.long q3), .second, .val (.int p4), .val (.int v550), .val (.int v553), .val (.int v556), .val (.int v559), .val (.ref b561), .val (.ref b563), .val (.int (1 : Int32)), .unset, .unset] [])) (fun t k => ?_) ?_
    · refine XS.iconst X566.here hx rfl (hb hby at_93) ?_
      refine XS.istore X566.here hx rfl (hb hby at_94) rfl (l' := #[.val (.int p0), .val (.int p1), .val (.int p2), .val (.long q3), .second, .val (.int p4), .val (.int v550), .val (.int v553), .val (.int v556), .val (.int v559), .val (.ref b561), .val (.ref b563), .val (.int (1 : Int32)), .unset, .unset]) rfl ?_
      exact k
    exact node96_1 p0 p1 p2 q3 p4 v550 v553 v556 v559 b561 b562 b563 kk562 k563 ((p0.toInt8.toInt32).toInt8.toInt32) X566 hx hZ hw hby hml hown e566 sz566 N566 hlk hrt PE565_566 PV565_566 PZ565_566 PA565_566 V_b563_566 ge_b561 ge_b562 ge_b563 ne_b561_b562 ne_b561_b563 ne_b562_b563
set_option maxRecDepth 65536 in
set_option maxHeartbeats 40000000 in
theorem comes_1 {Post : Tables → Env → Array Value → State → Outcome → State → Prop} (hpost : ∀ tb e args s v u, (limb_1_1.after args s (.returned v) u = true ∧ limb_1_2.after args s (.returned v) u = true ∧ True) → FrameEnd s (.returned v) u (Jvm.fieldLocs frame_1_writes args s ++ Jvm.arrayLocs frame_1_arrays args s ++ Jvm.staticLocs frame_1_statics s) 24 704 → Post tb e args s (.returned v) u) :
    ArmFor flags0 classFile x code maxLocals ret World_1 tables_1 room_1 Calls_1 rest_1 Pre_1 Post := by
  intro l hfl _ _ p e ha hc hk s m args below hf hA hF happ hP
  obtain ⟨hcalls, hrest, hpre⟩ := hP
  obtain ⟨-, -, -, hnamed, -, -, -, hat⟩ := (Spec.applies_iff hf).mp happ
  obtain ⟨hg, hn⟩ := and_e (Cond.before_iff.mp (show (Jvm.Cond.and given_1 narrow_1).before args s = true from hpre))
  obtain ⟨gg1, gg2⟩ := and_e hg
  obtain ⟨gg3, gg4⟩ := and_e gg2
  obtain ⟨gg5, gg6⟩ := and_e gg4
  obtain ⟨gg7, gg8⟩ := and_e gg6
  obtain ⟨gg9, gg10⟩ := and_e gg8
  obtain ⟨w0, w1, w2, w3, w4, rfl⟩ : ∃ w0 w1 w2 w3 w4 : Value, args = #[w0, w1, w2, w3, w4] := by
    have hs : args.size = 5 := by simpa [Cond.value, given_1] using gg1
    obtain ⟨L⟩ := args
    match L, hs with
    | [w0, w1, w2, w3, w4], _ => exact ⟨w0, w1, w2, w3, w4, rfl⟩
  have hw := fun d (hd : d ∈ tables_1) => atoms_spec (ws := Jvm.Cond.code x code maxLocals ret :: tables_1) hat d (List.mem_cons_of_mem _ hd)
  obtain ⟨i0, ei0⟩ := is_v gg3
  obtain rfl : w0 = (.int i0) := Option.some.inj ei0
  obtain ⟨i1, ei1⟩ := is_v gg5
  obtain rfl : w1 = (.int i1) := Option.some.inj ei1
  obtain ⟨i2, ei2⟩ := is_v gg7
  obtain rfl : w2 = (.int i2) := Option.some.inj ei2
  obtain ⟨i3, ei3⟩ := isL_v gg9
  obtain rfl : w3 = (.long i3) := Option.some.inj ei3
  obtain ⟨i4, ei4⟩ := is_v gg10
  obtain rfl : w4 = (.int i4) := Option.some.inj ei4
  obtain ⟨n, o, h1, h2, h3, _, L, rfl, ⟨rfl, N⟩, hq⟩ := rm0 l s _ hw tables_1 i0 i1 i2 i3 i4 s.heap s.heap.size (Nat.le_refl _)  p e ha hc hk s m _ below hf ((Spec.applies_iff_loose hf).mp happ).1 ⟨rfl, State.Warmed39.refl s, rfl⟩ trivial
  refine ⟨n, _, h1, h2, h3, hpost _ _ _ _ _ _ ⟨Cond.after_iff.mpr rfl, Cond.after_iff.mpr (eq_i res_at (Term.int_eval (1)) rfl), trivial⟩ ⟨hq.1, hq.2.1, (hq.2.2.sift fun y hy => Or.inr (N y hy)).mono (by decide) (by decide)⟩⟩
theorem main_1_1 : Claimed_1_1 := comes_1 fun _ _ _ _ _ _ h hF => ⟨h.1, hF⟩
theorem main_1_2 : Claimed_1_2 := comes_1 fun _ _ _ _ _ _ h hF => ⟨h.2.1, hF⟩
end Jvm.Pilot.@@N@@
namespace Jvm.Pilot.@@N@@
open Jvm Jvm.ClassFile Sem Op Lib Jvm.Free Jvm.Stand Jvm.Pilot.@@N@@.Jvm.D
/-! MADE BY PROGRAM (witnessworld.py) out of the Statement's table words and the real class files: 12 classes; the members and pool entries that the words name. The judged class is class 1, her method 1. -/
namespace start1
open Jvm.ClassFile
def u (s : String) : CpInfo := .utf8 (stringToUtf16 s)
/-- a pool by its gaps: so many unusable entries, then the entry; so many at the end -/
def gap : Nat → List CpInfo → List CpInfo
  | 0, r => r
  | n + 1, r => .unusable :: gap n r
def poolList (es : List (Nat × CpInfo)) (last : Nat) : List CpInfo := es.foldr (fun e r => gap e.1 (e.2 :: r)) (gap last [])
def pool (es : List (Nat × CpInfo)) (last : Nat) : Array CpInfo := ⟨poolList es last⟩
def fileOf (pool : Array CpInfo) (this : Nat) (attrs : Array Attribute := #[]) (ms : Array MethodInfo := #[]) (fl : Nat := 33) (sup : Nat := 0) (ifs : Array Nat := #[]) (fds : Array FieldInfo := #[]) : ClassFile where
  minorVersion := 0
  majorVersion := 65
  constantPool := pool
  accessFlags := fl
  thisClass := this
  superClass := sup
  interfaces := ifs
  fields := fds
  methods := ms
  attributes := attrs
def plain (name : String) (sup : Option ClassId) : Class where
  name := name
  kind := .ordinary
  loader := none
  accessFlags := 33
  super := sup
  interfaces := #[]
  cf := none
  fields := #[]
  methods := #[]
  instanceTypes := #[]
  staticTypes := #[]
  resolved := #[]
  callSites := []
  init := .initialized
  statics := none
  mirror := none

def pool0 : Array CpInfo := pool [(5, u "<init>"), (0, u "()V"), (1, .class_ 10), (1, u "java/lang/Object")] 113

def k0c0 : Code := { maxStack := 0, maxLocals := 1, code := object_method_1_code, exceptionTable := #[], attributes := #[] }
def k0m0 : Method := { name := "<init>", desc := "()V", sig := { parameters := [], returnType := none }, accessFlags := 1, code := some k0c0 }
/-- java/lang/Object -/
def k0 : Class := { plain "java/lang/Object" none with
  accessFlags := 33
  interfaces := #[]
  cf := some (fileOf pool0 8 #[] #[{ accessFlags := 1, nameIndex := 5, descriptorIndex := 6, attributes := #[] }] 33 0 #[] #[])
  fields := #[]
  methods := #[k0m0]
  instanceTypes := #[]
  staticTypes := #[]
  resolved := Array.replicate 124 none
  statics := none }

def pool1 : Array CpInfo := pool [(2, .class_ 4), (0, .nameAndType 5 6), (0, u "java/lang/Object"), (0, u "<init>"), (0, u "()V"), (0, .class_ 8), (0, u "com/example/portcullis/portcullis/io/CdrOutput"), (0, .methodref 7 3), (0, .methodref 7 11), (0, .nameAndType 12 13), (0, u "writeOctet"), (0, u "(B)V"), (0, .methodref 7 15), (0, .nameAndType 16 17), (0, u "writeShort"), (0, u "(S)V"), (0, .methodref 7 19), (0, .nameAndType 20 21), (0, u "writeInt"), (0, u "(I)V"), (0, .methodref 23 24), (0, .class_ 25), (0, .nameAndType 26 27), (0, u "com/example/portcullis/portcullis/io/CdrOutputToByteArrayPinLaw"), (0, u "put4"), (0, u "([BII)V"), (0, .methodref 7 29), (0, .nameAndType 30 31), (0, u "writeLong"), (0, u "(J)V"), (0, .methodref 7 33), (0, .nameAndType 34 35), (0, u "toByteArray"), (0, u "()[B"), (0, .methodref 7 37), (0, .nameAndType 38 39), (0, u "size"), (0, u "()I"), (0, .methodref 23 41), (0, .nameAndType 42 43), (0, u "pack"), (0, u "([BI)J"), (0, .methodref 23 45), (0, .nameAndType 46 47), (0, u "at"), (0, u "([BI)I"), (2, u "law"), (0, u "(IIIJI)Z")] 5

def k1m0 : Method := { name := "<init>", desc := "()V", sig := { parameters := [], returnType := none }, accessFlags := 1, code := none }
def k1c1 : Code := { maxStack := 5, maxLocals := 15, code := code, exceptionTable := #[], attributes := #[] }
def k1m1 : Method := { name := "law", desc := "(IIIJI)Z", sig := { parameters := [.int, .int, .int, .long, .int], returnType := some .boolean }, accessFlags := 9, code := some k1c1 }
def k1c2 : Code := { maxStack := 4, maxLocals := 3, code := method_3_code, exceptionTable := #[], attributes := #[] }
def k1m2 : Method := { name := "put4", desc := "([BII)V", sig := { parameters := [(.array .byte), .int, .int], returnType := none }, accessFlags := 10, code := some k1c2 }
def k1c3 : Code := { maxStack := 2, maxLocals := 2, code := method_4_code, exceptionTable := #[], attributes := #[] }
def k1m3 : Method := { name := "at", desc := "([BI)I", sig := { parameters := [(.array .byte), .int], returnType := some .int }, accessFlags := 10, code := some k1c3 }
def k1c4 : Code := { maxStack := 5, maxLocals := 4, code := method_5_code, exceptionTable := #[], attributes := #[] }
def k1m4 : Method := { name := "pack", desc := "([BI)J", sig := { parameters := [(.array .byte), .int], returnType := some .long }, accessFlags := 10, code := some k1c4 }
/-- com/example/portcullis/portcullis/io/CdrOutputToByteArrayPinLaw -/
def k1 : Class := { plain "com/example/portcullis/portcullis/io/CdrOutputToByteArrayPinLaw" (some 0) with
  accessFlags := 49
  interfaces := #[]
  cf := some (fileOf pool1 23 #[] #[{ accessFlags := 1, nameIndex := 5, descriptorIndex := 6, attributes := #[] }, { accessFlags := 9, nameIndex := 50, descriptorIndex := 51, attributes := #[] }, { accessFlags := 10, nameIndex := 26, descriptorIndex := 27, attributes := #[] }, { accessFlags := 10, nameIndex := 46, descriptorIndex := 47, attributes := #[] }, { accessFlags := 10, nameIndex := 42, descriptorIndex := 43, attributes := #[] }] 49 2 #[] #[])
  fields := #[]
  methods := #[k1m0, k1m1, k1m2, k1m3, k1m4]
  instanceTypes := #[]
  staticTypes := #[]
  resolved := Array.replicate 57 none
  statics := none }

def pool2 : Array CpInfo := pool [(1, .methodref 2 3), (0, .class_ 4), (0, .nameAndType 5 6), (0, u "java/lang/Object"), (0, u "<init>"), (0, u "()V"), (0, .class_ 8), (0, u "com/example/portcullis/portcullis/io/CdrOutput"), (0, .fieldref 7 10), (0, .nameAndType 11 12), (0, u "buffer"), (0, u "[B"), (0, .methodref 7 14), (0, .nameAndType 15 16), (0, u "reserve"), (0, u "(I)V"), (0, .fieldref 7 18), (0, .nameAndType 19 20), (0, u "size"), (0, u "I"), (2, u "writeOctet"), (0, u "(B)V"), (0, .methodref 7 26), (0, .nameAndType 27 16), (0, u "align"), (0, .methodref 7 29), (0, .nameAndType 30 31), (0, u "putInt"), (0, u "(II)V"), (8, u "writeInt"), (8, u "writeLong"), (0, u "(J)V"), (13, u "()I"), (24, .methodref 90 91), (0, .class_ 92), (0, .nameAndType 93 94), (0, u "java/util/Arrays"), (0, u "copyOf"), (0, u "([BI)[B"), (1, .methodref 90 97), (0, .nameAndType 98 99), (0, u "fill"), (0, u "([BIIB)V"), (26, u "()[B"), (16, u "INITIAL_CAPACITY"), (7, u "writeShort"), (0, u "(S)V"), (6, u "toByteArray")] 11

def k2c0 : Code := { maxStack := 2, maxLocals := 1, code := prog_14_method_1_code, exceptionTable := #[], attributes := #[] }
def k2m0 : Method := { name := "<init>", desc := "()V", sig := { parameters := [], returnType := none }, accessFlags := 1, code := some k2c0 }
def k2c1 : Code := { maxStack := 5, maxLocals := 2, code := prog_14_method_2_code, exceptionTable := #[], attributes := #[] }
def k2m1 : Method := { name := "writeOctet", desc := "(B)V", sig := { parameters := [.byte], returnType := none }, accessFlags := 1, code := some k2c1 }
def k2c2 : Code := { maxStack := 5, maxLocals := 2, code := prog_14_method_4_code, exceptionTable := #[], attributes := #[] }
def k2m2 : Method := { name := "writeShort", desc := "(S)V", sig := { parameters := [.short], returnType := none }, accessFlags := 1, code := some k2c2 }
def k2c3 : Code := { maxStack := 3, maxLocals := 2, code := prog_14_method_5_code, exceptionTable := #[], attributes := #[] }
def k2m3 : Method := { name := "writeInt", desc := "(I)V", sig := { parameters := [.int], returnType := none }, accessFlags := 1, code := some k2c3 }
def k2c4 : Code := { maxStack := 5, maxLocals := 3, code := prog_14_method_6_code, exceptionTable := #[], attributes := #[] }
def k2m4 : Method := { name := "writeLong", desc := "(J)V", sig := { parameters := [.long], returnType := none }, accessFlags := 1, code := some k2c4 }
def k2c5 : Code := { maxStack := 1, maxLocals := 1, code := prog_14_method_11_code, exceptionTable := #[], attributes := #[] }
def k2m5 : Method := { name := "size", desc := "()I", sig := { parameters := [], returnType := some .int }, accessFlags := 1, code := some k2c5 }
def k2c6 : Code := { maxStack := 2, maxLocals := 1, code := prog_14_method_12_code, exceptionTable := #[], attributes := #[] }
def k2m6 : Method := { name := "toByteArray", desc := "()[B", sig := { parameters := [], returnType := some (.array .byte) }, accessFlags := 1, code := some k2c6 }
def k2c7 : Code := { maxStack := 4, maxLocals := 3, code := prog_14_method_14_code, exceptionTable := #[], attributes := #[] }
def k2m7 : Method := { name := "align", desc := "(I)V", sig := { parameters := [.int], returnType := none }, accessFlags := 0, code := some k2c7 }
def k2c8 : Code := { maxStack := 4, maxLocals := 3, code := prog_14_method_19_code, exceptionTable := #[], attributes := #[] }
def k2m8 : Method := { name := "putInt", desc := "(II)V", sig := { parameters := [.int, .int], returnType := none }, accessFlags := 2, code := some k2c8 }
def k2c9 : Code := { maxStack := 5, maxLocals := 2, code := prog_14_method_20_code, exceptionTable := #[], attributes := #[] }
def k2m9 : Method := { name := "reserve", desc := "(I)V", sig := { parameters := [.int], returnType := none }, accessFlags := 2, code := some k2c9 }
/-- com/example/portcullis/portcullis/io/CdrOutput -/
def k2 : Class := { plain "com/example/portcullis/portcullis/io/CdrOutput" (some 0) with
  accessFlags := 49
  interfaces := #[]
  cf := some (fileOf pool2 7 #[] #[{ accessFlags := 1, nameIndex := 5, descriptorIndex := 6, attributes := #[] }, { accessFlags := 1, nameIndex := 23, descriptorIndex := 24, attributes := #[] }, { accessFlags := 1, nameIndex := 151, descriptorIndex := 152, attributes := #[] }, { accessFlags := 1, nameIndex := 40, descriptorIndex := 16, attributes := #[] }, { accessFlags := 1, nameIndex := 49, descriptorIndex := 50, attributes := #[] }, { accessFlags := 1, nameIndex := 19, descriptorIndex := 64, attributes := #[] }, { accessFlags := 1, nameIndex := 159, descriptorIndex := 126, attributes := #[] }, { accessFlags := 0, nameIndex := 27, descriptorIndex := 16, attributes := #[] }, { accessFlags := 2, nameIndex := 30, descriptorIndex := 31, attributes := #[] }, { accessFlags := 2, nameIndex := 15, descriptorIndex := 16, attributes := #[] }] 49 2 #[] #[{ accessFlags := 26, nameIndex := 143, descriptorIndex := 20, attributes := #[] }, { accessFlags := 2, nameIndex := 11, descriptorIndex := 12, attributes := #[] }, { accessFlags := 2, nameIndex := 19, descriptorIndex := 20, attributes := #[] }])
  fields := #[{ name := "INITIAL_CAPACITY", type := .int, accessFlags := 26, slot := 0, constantValue := 0 }, { name := "buffer", type := (.array .byte), accessFlags := 2, slot := 0, constantValue := 0 }, { name := "size", type := .int, accessFlags := 2, slot := 1, constantValue := 0 }]
  methods := #[k2m0, k2m1, k2m2, k2m3, k2m4, k2m5, k2m6, k2m7, k2m8, k2m9]
  instanceTypes := #[(.array .byte), .int]
  staticTypes := #[.int]
  resolved := Array.replicate 171 none
  statics := none }

def pool3 : Array CpInfo := pool [(2, .class_ 4), (1, u "java/lang/Object"), (0, u "<init>"), (0, u "()V"), (6, .methodref 14 15), (0, .class_ 16), (0, .nameAndType 17 18), (0, u "java/util/Arrays"), (0, u "rangeCheck"), (0, u "(III)V"), (55, .class_ 76), (1, u "java/util/Arrays$NaturalOrder"), (36, .class_ 115), (1, u "java/util/Arrays$LegacyMergeSort"), (1, u "Z"), (32, .methodref 151 152), (0, .class_ 153), (0, .nameAndType 154 155), (0, u "java/lang/System"), (0, u "arraycopy"), (0, u "(Ljava/lang/Object;ILjava/lang/Object;II)V"), (146, u "copyOf"), (1, .methodref 305 306), (0, .class_ 307), (0, .nameAndType 308 309), (0, u "java/lang/Math"), (0, u "min"), (0, u "(II)I"), (65, .class_ 376), (0, u "java/util/Arrays$ArrayList"), (68, u "$assertionsDisabled"), (269, u "MIN_ARRAY_SORT_GRAN"), (0, u "I"), (2, u "INSERTIONSORT_THRESHOLD"), (120, u "fill"), (10, u "([BIIB)V"), (17, u "([BI)[B"), (105, .class_ 976), (0, u "java/util/Arrays$ArrayItr")] 52

def k3m0 : Method := { name := "<init>", desc := "()V", sig := { parameters := [], returnType := none }, accessFlags := 2, code := none }
def k3c1 : Code := { maxStack := 4, maxLocals := 3, code := jdk_65_method_30_code, exceptionTable := #[], attributes := #[] }
def k3m1 : Method := { name := "rangeCheck", desc := "(III)V", sig := { parameters := [.int, .int, .int], returnType := none }, accessFlags := 8, code := some k3c1 }
def k3c2 : Code := { maxStack := 3, maxLocals := 5, code := jdk_65_method_110_code, exceptionTable := #[], attributes := #[] }
def k3m2 : Method := { name := "fill", desc := "([BIIB)V", sig := { parameters := [(.array .byte), .int, .int, .byte], returnType := none }, accessFlags := 9, code := some k3c2 }
def k3c3 : Code := { maxStack := 6, maxLocals := 3, code := jdk_65_method_121_code, exceptionTable := #[], attributes := #[] }
def k3m3 : Method := { name := "copyOf", desc := "([BI)[B", sig := { parameters := [(.array .byte), .int], returnType := some (.array .byte) }, accessFlags := 9, code := some k3c3 }
/-- java/util/Arrays -/
def k3 : Class := { plain "java/util/Arrays" (some 0) with
  accessFlags := 49
  interfaces := #[]
  cf := some (fileOf pool3 14 #[.nestMembers #[975, 375, 113, 74]] #[{ accessFlags := 2, nameIndex := 5, descriptorIndex := 6, attributes := #[] }, { accessFlags := 8, nameIndex := 17, descriptorIndex := 18, attributes := #[] }, { accessFlags := 9, nameIndex := 840, descriptorIndex := 851, attributes := #[] }, { accessFlags := 9, nameIndex := 302, descriptorIndex := 869, attributes := #[] }] 49 2 #[] #[{ accessFlags := 26, nameIndex := 715, descriptorIndex := 716, attributes := #[] }, { accessFlags := 26, nameIndex := 719, descriptorIndex := 716, attributes := #[] }, { accessFlags := 4120, nameIndex := 445, descriptorIndex := 117, attributes := #[] }])
  fields := #[{ name := "MIN_ARRAY_SORT_GRAN", type := .int, accessFlags := 26, slot := 0, constantValue := 0 }, { name := "INSERTIONSORT_THRESHOLD", type := .int, accessFlags := 26, slot := 1, constantValue := 0 }, { name := "$assertionsDisabled", type := .boolean, accessFlags := 4120, slot := 2, constantValue := 0 }]
  methods := #[k3m0, k3m1, k3m2, k3m3]
  instanceTypes := #[]
  staticTypes := #[.int, .int, .boolean]
  resolved := Array.replicate 1029 none
  statics := none }

def pool4 : Array CpInfo := pool [(1, .class_ 2), (0, u "java/lang/Math"), (1, .class_ 6), (1, u "java/lang/Object"), (0, u "<init>"), (0, u "()V"), (89, .class_ 100), (1, u "java/lang/Math$RandomNumberGeneratorHolder"), (71, u "negativeZeroFloatBits"), (0, u "J"), (2, u "negativeZeroDoubleBits"), (24, u "min"), (43, u "$assertionsDisabled"), (0, u "Z"), (88, u "(II)I"), (2, u "twoToTheDoubleScaleDown"), (0, u "D"), (4, u "twoToTheDoubleScaleUp"), (9, u "E"), (3, u "PI"), (2, u "TAU"), (2, u "DEGREES_TO_RADIANS"), (0, u "RADIANS_TO_DEGREES")] 94

def k4m0 : Method := { name := "<init>", desc := "()V", sig := { parameters := [], returnType := none }, accessFlags := 2, code := none }
def k4c1 : Code := { maxStack := 2, maxLocals := 2, code := jdk_29_method_69_code, exceptionTable := #[], attributes := #[] }
def k4m1 : Method := { name := "min", desc := "(II)I", sig := { parameters := [.int, .int], returnType := some .int }, accessFlags := 9, code := some k4c1 }
/-- java/lang/Math -/
def k4 : Class := { plain "java/lang/Math" (some 0) with
  accessFlags := 49
  interfaces := #[]
  cf := some (fileOf pool4 1 #[.nestMembers #[98]] #[{ accessFlags := 2, nameIndex := 7, descriptorIndex := 8, attributes := #[] }, { accessFlags := 9, nameIndex := 201, descriptorIndex := 335, attributes := #[] }] 49 4 #[] #[{ accessFlags := 25, nameIndex := 354, descriptorIndex := 339, attributes := #[] }, { accessFlags := 25, nameIndex := 358, descriptorIndex := 339, attributes := #[] }, { accessFlags := 25, nameIndex := 361, descriptorIndex := 339, attributes := #[] }, { accessFlags := 26, nameIndex := 364, descriptorIndex := 339, attributes := #[] }, { accessFlags := 26, nameIndex := 365, descriptorIndex := 339, attributes := #[] }, { accessFlags := 26, nameIndex := 172, descriptorIndex := 173, attributes := #[] }, { accessFlags := 26, nameIndex := 176, descriptorIndex := 173, attributes := #[] }, { accessFlags := 8, nameIndex := 344, descriptorIndex := 339, attributes := #[] }, { accessFlags := 8, nameIndex := 338, descriptorIndex := 339, attributes := #[] }, { accessFlags := 4120, nameIndex := 245, descriptorIndex := 246, attributes := #[] }])
  fields := #[{ name := "E", type := .double, accessFlags := 25, slot := 0, constantValue := 0 }, { name := "PI", type := .double, accessFlags := 25, slot := 1, constantValue := 0 }, { name := "TAU", type := .double, accessFlags := 25, slot := 2, constantValue := 0 }, { name := "DEGREES_TO_RADIANS", type := .double, accessFlags := 26, slot := 3, constantValue := 0 }, { name := "RADIANS_TO_DEGREES", type := .double, accessFlags := 26, slot := 4, constantValue := 0 }, { name := "negativeZeroFloatBits", type := .long, accessFlags := 26, slot := 5, constantValue := 0 }, { name := "negativeZeroDoubleBits", type := .long, accessFlags := 26, slot := 6, constantValue := 0 }, { name := "twoToTheDoubleScaleUp", type := .double, accessFlags := 8, slot := 7, constantValue := 0 }, { name := "twoToTheDoubleScaleDown", type := .double, accessFlags := 8, slot := 8, constantValue := 0 }, { name := "$assertionsDisabled", type := .boolean, accessFlags := 4120, slot := 9, constantValue := 0 }]
  methods := #[k4m0, k4m1]
  instanceTypes := #[]
  staticTypes := #[.double, .double, .double, .double, .double, .long, .long, .double, .double, .boolean]
  resolved := Array.replicate 460 none
  statics := none }

def pool5 : Array CpInfo := pool [(2, .class_ 4), (1, u "java/lang/Object"), (0, u "<init>"), (0, u "()V"), (1, .class_ 10), (1, u "java/lang/System"), (0, u "allowSecurityManager"), (0, u "I"), (16, u "cons"), (0, u "Ljava/io/Console;"), (77, .class_ 110), (1, u "java/lang/System$CallersHolder"), (43, u "initialErrStream"), (0, u "Ljava/io/PrintStream;"), (19, u "security"), (0, u "Ljava/lang/SecurityManager;"), (31, .class_ 209), (0, u "java/lang/System$1"), (7, u "props"), (0, u "Ljava/util/Properties;"), (2, u "lineSeparator"), (0, u "Ljava/lang/String;"), (96, .class_ 321), (1, u "java/lang/System$LoggerFinder"), (5, .class_ 328), (0, u "java/lang/System$Logger"), (67, u "err"), (2, u "out"), (91, u "notSupportedJnuEncoding"), (15, u "in"), (17, u "initialIn"), (0, u "Ljava/io/InputStream;"), (35, u "bootLayer"), (0, u "Ljava/lang/ModuleLayer;"), (99, .class_ 664), (0, u "java/lang/System$2"), (9, u "NEVER"), (2, u "MAYBE"), (49, u "arraycopy"), (0, u "(Ljava/lang/Object;ILjava/lang/Object;II)V"), (72, .class_ 802), (0, u "java/lang/System$Logger$Level")] 31

def k5m0 : Method := { name := "<init>", desc := "()V", sig := { parameters := [], returnType := none }, accessFlags := 2, code := none }
def k5m1 : Method := { name := "arraycopy", desc := "(Ljava/lang/Object;ILjava/lang/Object;II)V", sig := { parameters := [(.object "java/lang/Object"), .int, (.object "java/lang/Object"), .int, .int], returnType := none }, accessFlags := 265, code := none }
/-- java/lang/System -/
def k5 : Class := { plain "java/lang/System" (some 0) with
  accessFlags := 49
  interfaces := #[]
  cf := some (fileOf pool5 8 #[.nestMembers #[319, 327, 801, 108, 663, 208]] #[{ accessFlags := 2, nameIndex := 5, descriptorIndex := 6, attributes := #[] }, { accessFlags := 265, nameIndex := 727, descriptorIndex := 728, attributes := #[] }] 49 2 #[] #[{ accessFlags := 25, nameIndex := 507, descriptorIndex := 526, attributes := #[] }, { accessFlags := 25, nameIndex := 399, descriptorIndex := 155, attributes := #[] }, { accessFlags := 25, nameIndex := 396, descriptorIndex := 155, attributes := #[] }, { accessFlags := 10, nameIndex := 525, descriptorIndex := 526, attributes := #[] }, { accessFlags := 26, nameIndex := 674, descriptorIndex := 12, attributes := #[] }, { accessFlags := 26, nameIndex := 677, descriptorIndex := 12, attributes := #[] }, { accessFlags := 10, nameIndex := 11, descriptorIndex := 12, attributes := #[] }, { accessFlags := 74, nameIndex := 175, descriptorIndex := 176, attributes := #[] }, { accessFlags := 10, nameIndex := 491, descriptorIndex := 222, attributes := #[] }, { accessFlags := 74, nameIndex := 29, descriptorIndex := 30, attributes := #[] }, { accessFlags := 74, nameIndex := 154, descriptorIndex := 155, attributes := #[] }, { accessFlags := 10, nameIndex := 217, descriptorIndex := 218, attributes := #[] }, { accessFlags := 10, nameIndex := 221, descriptorIndex := 222, attributes := #[] }, { accessFlags := 8, nameIndex := 562, descriptorIndex := 563, attributes := #[] }])
  fields := #[{ name := "in", type := (.object "java/io/InputStream"), accessFlags := 25, slot := 0, constantValue := 0 }, { name := "out", type := (.object "java/io/PrintStream"), accessFlags := 25, slot := 1, constantValue := 0 }, { name := "err", type := (.object "java/io/PrintStream"), accessFlags := 25, slot := 2, constantValue := 0 }, { name := "initialIn", type := (.object "java/io/InputStream"), accessFlags := 10, slot := 3, constantValue := 0 }, { name := "NEVER", type := .int, accessFlags := 26, slot := 4, constantValue := 0 }, { name := "MAYBE", type := .int, accessFlags := 26, slot := 5, constantValue := 0 }, { name := "allowSecurityManager", type := .int, accessFlags := 10, slot := 6, constantValue := 0 }, { name := "security", type := (.object "java/lang/SecurityManager"), accessFlags := 74, slot := 7, constantValue := 0 }, { name := "notSupportedJnuEncoding", type := (.object "java/lang/String"), accessFlags := 10, slot := 8, constantValue := 0 }, { name := "cons", type := (.object "java/io/Console"), accessFlags := 74, slot := 9, constantValue := 0 }, { name := "initialErrStream", type := (.object "java/io/PrintStream"), accessFlags := 74, slot := 10, constantValue := 0 }, { name := "props", type := (.object "java/util/Properties"), accessFlags := 10, slot := 11, constantValue := 0 }, { name := "lineSeparator", type := (.object "java/lang/String"), accessFlags := 10, slot := 12, constantValue := 0 }, { name := "bootLayer", type := (.object "java/lang/ModuleLayer"), accessFlags := 8, slot := 13, constantValue := 0 }]
  methods := #[k5m0, k5m1]
  instanceTypes := #[]
  staticTypes := #[(.object "java/io/InputStream"), (.object "java/io/PrintStream"), (.object "java/io/PrintStream"), (.object "java/io/InputStream"), .int, .int, .int, (.object "java/lang/SecurityManager"), (.object "java/lang/String"), (.object "java/io/Console"), (.object "java/io/PrintStream"), (.object "java/util/Properties"), (.object "java/lang/String"), (.object "java/lang/ModuleLayer")]
  resolved := Array.replicate 834 none
  statics := none }

def pool6 : Array CpInfo := pool [(1, u "java/lang/Cloneable"), (0, .class_ 1), (0, u "java/lang/Object"), (0, .class_ 3)] 3

/-- java/lang/Cloneable -/
def k6 : Class := { plain "java/lang/Cloneable" (some 0) with
  accessFlags := 1537
  interfaces := #[]
  cf := some (fileOf pool6 2 #[] #[] 1537 4 #[] #[])
  fields := #[]
  methods := #[]
  instanceTypes := #[]
  staticTypes := #[]
  resolved := Array.replicate 8 none
  statics := none }

def pool7 : Array CpInfo := pool [(1, u "java/io/Serializable"), (0, .class_ 1), (0, u "java/lang/Object"), (0, .class_ 3)] 3

/-- java/io/Serializable -/
def k7 : Class := { plain "java/io/Serializable" (some 0) with
  accessFlags := 1537
  interfaces := #[]
  cf := some (fileOf pool7 2 #[] #[] 1537 4 #[] #[])
  fields := #[]
  methods := #[]
  instanceTypes := #[]
  staticTypes := #[]
  resolved := Array.replicate 8 none
  statics := none }

/-- the primitive byte -/
def k8 : Class := { plain "byte" none with kind := .primitive 'B', accessFlags := 0x411 }
/-- [B -/
def k9 : Class := { plain "[B" (some 0) with kind := .array 8 .byte, interfaces := #[6, 7], accessFlags := 1041 }

/-- the primitive int -/
def k10 : Class := { plain "int" none with kind := .primitive 'I', accessFlags := 0x411 }
/-- [I -/
def k11 : Class := { plain "[I" (some 0) with kind := .array 10 .int, interfaces := #[6, 7], accessFlags := 1041 }

def heap : Heap := #[]
def classes : Array Class := #[k0, k1, k2, k3, k4, k5, k6, k7, k8, k9, k10, k11]
def interned : List (Array UInt16 × Addr) := []
def slotsUsed : Nat := 0
def theMethod : MethodId := ⟨1, 1⟩
def args0 : Array Value := #[.int 5, .int 6, .int 7, .long 8, .int 15]
def aboutOver (below : List Frame) : State where
  vm := { classes := classes, interned := interned.toArray }
  heap := heap
  slotsUsed := slotsUsed
  threads := #[{ frames := .invoking theMethod args0 :: below }]
def below0 : List Frame := [.native { method := ⟨0, 0⟩, args := #[] }]
def about1 : State := aboutOver below0
def p0 : Program := .bare "" "" ""
def e0 : Env := launch0.env 0 0 0
theorem w_frames : about1.frames = Frame.invoking theMethod args0 :: below0 := rfl
set_option maxRecDepth 65536 in
theorem w_args : argsFit about1.vm theMethod args0 = true := by decide +kernel
set_option maxRecDepth 65536 in
theorem w_heap : heapFits about1 = true := by decide +kernel
set_option maxRecDepth 65536 in
theorem w_runnable : about1.curStatus? = some .runnable := by decide +kernel
set_option maxRecDepth 65536 in
theorem w_alone : about1.alone = true := by decide +kernel
set_option maxRecDepth 65536 in
theorem w_named : about1.methodNamed? x = some theMethod := by decide +kernel
set_option maxRecDepth 65536 in
theorem w_hears : about1.hears theMethod below0 = true := by decide +kernel
set_option maxRecDepth 65536 in
theorem w_ripe : about1.ripe theMethod args0 below0 = true := by decide +kernel
theorem w_running : about1.status = .running := rfl
set_option maxRecDepth 65536 in
theorem w_room : about1.hasRoom e0.platform room_1 = true :=
  launch0.hasRoom_least _ room_1 (by decide +kernel) (by decide +kernel) (by decide +kernel) (by decide +kernel) (by decide +kernel) (by decide +kernel)
theorem allAtoms_all (ts : List Jvm.Cond) (a : Array Jvm.Value) (st : Jvm.State) : (allAtoms ts).before a st = ts.all (fun c => c.before a st) := by
  induction ts with
  | nil => rfl
  | cons c t ih =>
    show (Jvm.Cond.and c (allAtoms t)).before a st = _
    rw [Jvm.Cond.before_and, ih, List.all_cons]
def words1 : List Jvm.Cond := Jvm.Cond.code x code maxLocals ret :: tables_1
/-- a 'code' word, met by the world's own term for the bytes: nothing is compared byte by byte -/
theorem code_word {y : MethodName} {bytes : ByteArray} {mx : Nat} {rt : Option FieldType} {a : Array Value} {s : State} {m : MethodId} {meth : Method} {c : Code} (h1 : s.methodNamed? y = some m) (h2 : s.vm.method? m = some meth) (h3 : meth.code = some c) (h4 : c.code = bytes)
    (h5 : (c.maxLocals == mx && c.exceptionTable.isEmpty && decide (c.maxStack ≤ mostOperands) && decide (meth.sig.returnType = rt) && !meth.locks && decide (parseMethodDescriptor y.desc = some meth.sig)) = true) : (Jvm.Cond.code y bytes mx rt).before a s = true := by
  simp only [Bool.and_eq_true, beq_iff_eq, Bool.not_eq_true', decide_eq_true_eq] at h5
  obtain ⟨⟨⟨⟨⟨g1, g2⟩, g3⟩, g4⟩, g5⟩, g6⟩ := h5
  simp [Cond.before, Cond.holds, Cond.value, h1, h2, h3, h4, g1, g2, g3, g4, g5, g6]
def isCode : Jvm.Cond → Bool
  | .code _ _ _ _ => true
  | _ => false
theorem all_split {L : List Jvm.Cond} {P : Jvm.Cond → Bool} (h1 : L.all (fun c => isCode c || P c) = true) (h2 : ∀ c ∈ L.filter isCode, P c = true) : L.all P = true := by
  refine List.all_eq_true.mpr fun c hc => ?_
  have h := List.all_eq_true.mp h1 c hc
  rcases Bool.eq_false_or_eq_true (isCode c) with hi | hi
  · exact h2 c (List.mem_filter.mpr ⟨hc, hi⟩)
  · simpa [hi] using h
set_option maxRecDepth 65536 in
theorem w_c0 : (Jvm.Cond.code x code maxLocals ret).before args0 about1 = true := code_word (m := ⟨1, 1⟩) (meth := k1m1) (c := k1c1) (by decide +kernel) rfl rfl rfl (by decide +kernel)
set_option maxRecDepth 65536 in
theorem w_c1 : (Jvm.Cond.code ({ cls := "com/example/portcullis/portcullis/io/CdrOutput", name := "<init>", desc := "()V" } : Jvm.MethodName) prog_14_method_1_code (1 : Nat) (Option.none : Option Jvm.ClassFile.FieldType)).before args0 about1 = true := code_word (m := ⟨2, 0⟩) (meth := k2m0) (c := k2c0) (by decide +kernel) rfl rfl rfl (by decide +kernel)
set_option maxRecDepth 65536 in
theorem w_c2 : (Jvm.Cond.code ({ cls := "java/lang/Object", name := "<init>", desc := "()V" } : Jvm.MethodName) object_method_1_code (1 : Nat) (Option.none : Option Jvm.ClassFile.FieldType)).before args0 about1 = true := code_word (m := ⟨0, 0⟩) (meth := k0m0) (c := k0c0) (by decide +kernel) rfl rfl rfl (by decide +kernel)
set_option maxRecDepth 65536 in
theorem w_c3 : (Jvm.Cond.code ({ cls := "com/example/portcullis/portcullis/io/CdrOutput", name := "toByteArray", desc := "()[B" } : Jvm.MethodName) prog_14_method_12_code (1 : Nat) (Option.some (Jvm.ClassFile.FieldType.array Jvm.ClassFile.FieldType.byte))).before args0 about1 = true := code_word (m := ⟨2, 6⟩) (meth := k2m6) (c := k2c6) (by decide +kernel) rfl rfl rfl (by decide +kernel)
set_option maxRecDepth 65536 in
theorem w_c4 : (Jvm.Cond.code ({ cls := "java/util/Arrays", name := "copyOf", desc := "([BI)[B" } : Jvm.MethodName) jdk_65_method_121_code (3 : Nat) (Option.some (Jvm.ClassFile.FieldType.array Jvm.ClassFile.FieldType.byte))).before args0 about1 = true := code_word (m := ⟨3, 3⟩) (meth := k3m3) (c := k3c3) (by decide +kernel) rfl rfl rfl (by decide +kernel)
set_option maxRecDepth 65536 in
theorem w_c5 : (Jvm.Cond.code ({ cls := "java/lang/Math", name := "min", desc := "(II)I" } : Jvm.MethodName) jdk_29_method_69_code (2 : Nat) (Option.some Jvm.ClassFile.FieldType.int)).before args0 about1 = true := code_word (m := ⟨4, 1⟩) (meth := k4m1) (c := k4c1) (by decide +kernel) rfl rfl rfl (by decide +kernel)
set_option maxRecDepth 65536 in
theorem w_c6 : (Jvm.Cond.code ({ cls := "com/example/portcullis/portcullis/io/CdrOutput", name := "size", desc := "()I" } : Jvm.MethodName) prog_14_method_11_code (1 : Nat) (Option.some Jvm.ClassFile.FieldType.int)).before args0 about1 = true := code_word (m := ⟨2, 5⟩) (meth := k2m5) (c := k2c5) (by decide +kernel) rfl rfl rfl (by decide +kernel)
set_option maxRecDepth 65536 in
theorem w_c7 : (Jvm.Cond.code ({ cls := "com/example/portcullis/portcullis/io/CdrOutputToByteArrayPinLaw", name := "pack", desc := "([BI)J" } : Jvm.MethodName) method_5_code (4 : Nat) (Option.some Jvm.ClassFile.FieldType.long)).before args0 about1 = true := code_word (m := ⟨1, 4⟩) (meth := k1m4) (c := k1c4) (by decide +kernel) rfl rfl rfl (by decide +kernel)
set_option maxRecDepth 65536 in
theorem w_c8 : (Jvm.Cond.code ({ cls := "com/example/portcullis/portcullis/io/CdrOutputToByteArrayPinLaw", name := "at", desc := "([BI)I" } : Jvm.MethodName) method_4_code (2 : Nat) (Option.some Jvm.ClassFile.FieldType.int)).before args0 about1 = true := code_word (m := ⟨1, 3⟩) (meth := k1m3) (c := k1c3) (by decide +kernel) rfl rfl rfl (by decide +kernel)
set_option maxRecDepth 65536 in
theorem w_c9 : (Jvm.Cond.code ({ cls := "com/example/portcullis/portcullis/io/CdrOutput", name := "writeOctet", desc := "(B)V" } : Jvm.MethodName) prog_14_method_2_code (2 : Nat) (Option.none : Option Jvm.ClassFile.FieldType)).before args0 about1 = true := code_word (m := ⟨2, 1⟩) (meth := k2m1) (c := k2c1) (by decide +kernel) rfl rfl rfl (by decide +kernel)
set_option maxRecDepth 65536 in
theorem w_c10 : (Jvm.Cond.code ({ cls := "com/example/portcullis/portcullis/io/CdrOutput", name := "reserve", desc := "(I)V" } : Jvm.MethodName) prog_14_method_20_code (2 : Nat) (Option.none : Option Jvm.ClassFile.FieldType)).before args0 about1 = true := code_word (m := ⟨2, 9⟩) (meth := k2m9) (c := k2c9) (by decide +kernel) rfl rfl rfl (by decide +kernel)
set_option maxRecDepth 65536 in
theorem w_c11 : (Jvm.Cond.code ({ cls := "com/example/portcullis/portcullis/io/CdrOutput", name := "writeShort", desc := "(S)V" } : Jvm.MethodName) prog_14_method_4_code (2 : Nat) (Option.none : Option Jvm.ClassFile.FieldType)).before args0 about1 = true := code_word (m := ⟨2, 2⟩) (meth := k2m2) (c := k2c2) (by decide +kernel) rfl rfl rfl (by decide +kernel)
set_option maxRecDepth 65536 in
theorem w_c12 : (Jvm.Cond.code ({ cls := "com/example/portcullis/portcullis/io/CdrOutput", name := "align", desc := "(I)V" } : Jvm.MethodName) prog_14_method_14_code (3 : Nat) (Option.none : Option Jvm.ClassFile.FieldType)).before args0 about1 = true := code_word (m := ⟨2, 7⟩) (meth := k2m7) (c := k2c7) (by decide +kernel) rfl rfl rfl (by decide +kernel)
set_option maxRecDepth 65536 in
theorem w_c13 : (Jvm.Cond.code ({ cls := "java/util/Arrays", name := "fill", desc := "([BIIB)V" } : Jvm.MethodName) jdk_65_method_110_code (5 : Nat) (Option.none : Option Jvm.ClassFile.FieldType)).before args0 about1 = true := code_word (m := ⟨3, 2⟩) (meth := k3m2) (c := k3c2) (by decide +kernel) rfl rfl rfl (by decide +kernel)
set_option maxRecDepth 65536 in
theorem w_c14 : (Jvm.Cond.code ({ cls := "java/util/Arrays", name := "rangeCheck", desc := "(III)V" } : Jvm.MethodName) jdk_65_method_30_code (3 : Nat) (Option.none : Option Jvm.ClassFile.FieldType)).before args0 about1 = true := code_word (m := ⟨3, 1⟩) (meth := k3m1) (c := k3c1) (by decide +kernel) rfl rfl rfl (by decide +kernel)
set_option maxRecDepth 65536 in
theorem w_c15 : (Jvm.Cond.code ({ cls := "com/example/portcullis/portcullis/io/CdrOutput", name := "writeLong", desc := "(J)V" } : Jvm.MethodName) prog_14_method_6_code (3 : Nat) (Option.none : Option Jvm.ClassFile.FieldType)).before args0 about1 = true := code_word (m := ⟨2, 4⟩) (meth := k2m4) (c := k2c4) (by decide +kernel) rfl rfl rfl (by decide +kernel)
set_option maxRecDepth 65536 in
theorem w_c16 : (Jvm.Cond.code ({ cls := "com/example/portcullis/portcullis/io/CdrOutput", name := "putInt", desc := "(II)V" } : Jvm.MethodName) prog_14_method_19_code (3 : Nat) (Option.none : Option Jvm.ClassFile.FieldType)).before args0 about1 = true := code_word (m := ⟨2, 8⟩) (meth := k2m8) (c := k2c8) (by decide +kernel) rfl rfl rfl (by decide +kernel)
set_option maxRecDepth 65536 in
theorem w_c17 : (Jvm.Cond.code ({ cls := "com/example/portcullis/portcullis/io/CdrOutputToByteArrayPinLaw", name := "put4", desc := "([BII)V" } : Jvm.MethodName) method_3_code (3 : Nat) (Option.none : Option Jvm.ClassFile.FieldType)).before args0 about1 = true := code_word (m := ⟨1, 2⟩) (meth := k1m2) (c := k1c2) (by decide +kernel) rfl rfl rfl (by decide +kernel)
set_option maxRecDepth 65536 in
theorem w_c18 : (Jvm.Cond.code ({ cls := "com/example/portcullis/portcullis/io/CdrOutput", name := "writeInt", desc := "(I)V" } : Jvm.MethodName) prog_14_method_5_code (2 : Nat) (Option.none : Option Jvm.ClassFile.FieldType)).before args0 about1 = true := code_word (m := ⟨2, 3⟩) (meth := k2m3) (c := k2c3) (by decide +kernel) rfl rfl rfl (by decide +kernel)
def codes1 : List Jvm.Cond := [Jvm.Cond.code x code maxLocals ret, Jvm.Cond.code ({ cls := "com/example/portcullis/portcullis/io/CdrOutput", name := "<init>", desc := "()V" } : Jvm.MethodName) prog_14_method_1_code (1 : Nat) (Option.none : Option Jvm.ClassFile.FieldType), Jvm.Cond.code ({ cls := "java/lang/Object", name := "<init>", desc := "()V" } : Jvm.MethodName) object_method_1_code (1 : Nat) (Option.none : Option Jvm.ClassFile.FieldType), Jvm.Cond.code ({ cls := "com/example/portcullis/portcullis/io/CdrOutput", name := "toByteArray", desc := "()[B" } : Jvm.MethodName) prog_14_method_12_code (1 : Nat) (Option.some (Jvm.ClassFile.FieldType.array Jvm.ClassFile.FieldType.byte)), Jvm.Cond.code ({ cls := "java/util/Arrays", name := "copyOf", desc := "([BI)[B" } : Jvm.MethodName) jdk_65_method_121_code (3 : Nat) (Option.some (Jvm.ClassFile.FieldType.array Jvm.ClassFile.FieldType.byte)), Jvm.Cond.code ({ cls := "java/lang/Math", name := "min", desc := "(II)I" } : Jvm.MethodName) jdk_29_method_69_code (2 : Nat) (Option.some Jvm.ClassFile.FieldType.int), Jvm.Cond.code ({ cls := "com/example/portcullis/portcullis/io/CdrOutput", name := "size", desc := "()I" } : Jvm.MethodName) prog_14_method_11_code (1 : Nat) (Option.some Jvm.ClassFile.FieldType.int), Jvm.Cond.code ({ cls := "com/example/portcullis/portcullis/io/CdrOutputToByteArrayPinLaw", name := "pack", desc := "([BI)J" } : Jvm.MethodName) method_5_code (4 : Nat) (Option.some Jvm.ClassFile.FieldType.long), Jvm.Cond.code ({ cls := "com/example/portcullis/portcullis/io/CdrOutputToByteArrayPinLaw", name := "at", desc := "([BI)I" } : Jvm.MethodName) method_4_code (2 : Nat) (Option.some Jvm.ClassFile.FieldType.int), Jvm.Cond.code ({ cls := "com/example/portcullis/portcullis/io/CdrOutput", name := "writeOctet", desc := "(B)V" } : Jvm.MethodName) prog_14_method_2_code (2 : Nat) (Option.none : Option Jvm.ClassFile.FieldType), Jvm.Cond.code ({ cls := "com/example/portcullis/portcullis/io/CdrOutput", name := "reserve", desc := "(I)V" } : Jvm.MethodName) prog_14_method_20_code (2 : Nat) (Option.none : Option Jvm.ClassFile.FieldType), Jvm.Cond.code ({ cls := "com/example/portcullis/portcullis/io/CdrOutput", name := "writeShort", desc := "(S)V" } : Jvm.MethodName) prog_14_method_4_code (2 : Nat) (Option.none : Option Jvm.ClassFile.FieldType), Jvm.Cond.code ({ cls := "com/example/portcullis/portcullis/io/CdrOutput", name := "align", desc := "(I)V" } : Jvm.MethodName) prog_14_method_14_code (3 : Nat) (Option.none : Option Jvm.ClassFile.FieldType), Jvm.Cond.code ({ cls := "java/util/Arrays", name := "fill", desc := "([BIIB)V" } : Jvm.MethodName) jdk_65_method_110_code (5 : Nat) (Option.none : Option Jvm.ClassFile.FieldType), Jvm.Cond.code ({ cls := "java/util/Arrays", name := "rangeCheck", desc := "(III)V" } : Jvm.MethodName) jdk_65_method_30_code (3 : Nat) (Option.none : Option Jvm.ClassFile.FieldType), Jvm.Cond.code ({ cls := "com/example/portcullis/portcullis/io/CdrOutput", name := "writeLong", desc := "(J)V" } : Jvm.MethodName) prog_14_method_6_code (3 : Nat) (Option.none : Option Jvm.ClassFile.FieldType), Jvm.Cond.code ({ cls := "com/example/portcullis/portcullis/io/CdrOutput", name := "putInt", desc := "(II)V" } : Jvm.MethodName) prog_14_method_19_code (3 : Nat) (Option.none : Option Jvm.ClassFile.FieldType), Jvm.Cond.code ({ cls := "com/example/portcullis/portcullis/io/CdrOutputToByteArrayPinLaw", name := "put4", desc := "([BII)V" } : Jvm.MethodName) method_3_code (3 : Nat) (Option.none : Option Jvm.ClassFile.FieldType), Jvm.Cond.code ({ cls := "com/example/portcullis/portcullis/io/CdrOutput", name := "writeInt", desc := "(I)V" } : Jvm.MethodName) prog_14_method_5_code (2 : Nat) (Option.none : Option Jvm.ClassFile.FieldType)]
set_option maxRecDepth 65536 in
theorem codes_eq : words1.filter isCode = codes1 := rfl
theorem w_codes : ∀ c ∈ words1.filter isCode, c.before args0 about1 = true := by
  rw [codes_eq]
  intro c hc
  simp only [codes1, List.mem_cons, List.not_mem_nil, or_false] at hc
  rcases hc with rfl | rfl | rfl | rfl | rfl | rfl | rfl | rfl | rfl | rfl | rfl | rfl | rfl | rfl | rfl | rfl | rfl | rfl | rfl
  · exact w_c0
  · exact w_c1
  · exact w_c2
  · exact w_c3
  · exact w_c4
  · exact w_c5
  · exact w_c6
  · exact w_c7
  · exact w_c8
  · exact w_c9
  · exact w_c10
  · exact w_c11
  · exact w_c12
  · exact w_c13
  · exact w_c14
  · exact w_c15
  · exact w_c16
  · exact w_c17
  · exact w_c18
set_option maxRecDepth 65536 in
theorem w_t1 : (words1.take 24).all (fun c => isCode c || c.before args0 about1) = true := by decide +kernel
set_option maxRecDepth 65536 in
theorem w_t2 : ((words1.drop 24).take 24).all (fun c => isCode c || c.before args0 about1) = true := by decide +kernel
set_option maxRecDepth 65536 in
theorem w_t3 : (((words1.drop 24).drop 24).take 24).all (fun c => isCode c || c.before args0 about1) = true := by decide +kernel
set_option maxRecDepth 65536 in
theorem w_t4 : (((words1.drop 24).drop 24).drop 24).all (fun c => isCode c || c.before args0 about1) = true := by decide +kernel
theorem w_tables : (allAtoms (Jvm.Cond.code x code maxLocals ret :: tables_1)).before args0 about1 = true := by
  rw [allAtoms_all]
  show words1.all (fun c => c.before args0 about1) = true
  refine all_split ?_ w_codes
  rw [← List.take_append_drop 24 words1, List.all_append, w_t1, ← List.take_append_drop 24 (words1.drop 24), List.all_append, w_t2, ← List.take_append_drop 24 ((words1.drop 24).drop 24), List.all_append, w_t3, w_t4]
  rfl
set_option maxRecDepth 65536 in
theorem w_case : (Jvm.Cond.and given_1 narrow_1).before args0 about1 = true := by decide +kernel
theorem w_applies : (headSpec (Jvm.Cond.code x code maxLocals ret :: tables_1) room_1).applies x e0.platform about1 = true :=
  (Spec.applies_iff w_frames).mpr ⟨w_running, w_runnable, w_alone, w_named, w_hears, w_ripe, w_room, w_tables⟩
theorem atStart : AtStart classFile x code maxLocals ret World_1 tables_1 room_1 Calls_1 rest_1 Pre_1 launch0 p0 e0 about1 theMethod args0 below0 :=
  ⟨lists_1, trivial, launch0.admits_env _ _ _, launch0.least_env, fairChoices_fair.cas, fairChoices_fair.clock, w_frames, w_args, w_heap, w_applies, trivial, trivial, w_case⟩
end start1
theorem witness_1 : WitnessClaimed_1 := ⟨start1.p0, start1.e0, start1.about1, start1.theMethod, start1.args0, start1.below0, start1.atStart⟩
end Jvm.Pilot.@@N@@
