import JvmDerived
import JvmDerived.Pilot.@@N@@Statement
import JvmDerived.Pilot.@@N@@Code
set_option linter.unusedVariables false
set_option linter.unusedSimpArgs false
namespace Jvm.Pilot.@@N@@
open Jvm Jvm.ClassFile Sem Op Lib Jvm.Free Jvm.Stand Jvm.LawKit Jvm.RoadKit Bundle Jvm.Pilot.@@N@@.Jvm.D
theorem own_w {Z : State} {a0 : Array Value} {d : Jvm.Cond} (hw : ∀ d ∈ tables_1, d.before a0 Z = true) (i : Nat) (h : tables_1[i]? = some d) : d.before a0 Z = true := hw d (List.mem_of_getElem? h)
/-- from U the run comes to an end of which G says -/
def Go (p : Program) (e : Env) (below : List Frame) (G : State → Outcome → Prop) (U : State) : Prop := ∃ s₂ o, Steps p.tables e below U s₂ ∧ s₂.status = .running ∧ Ended s₂ below o ∧ G s₂ o
theorem Go.st {p : Program} {e : Env} {below : List Frame} {G : State → Outcome → Prop} {U U' : State} (h : ∀ t, Steps p.tables e below U' t → Steps p.tables e below U t) (k : Go p e below G U') : Go p e below G U := by
  obtain ⟨t, o, h1, r⟩ := k
  exact ⟨t, o, h _ h1, r⟩
theorem Go.tr {p : Program} {e : Env} {below : List Frame} {G : State → Outcome → Prop} {U U' : State} (h : Steps p.tables e below U U') (k : Go p e below G U') : Go p e below G U := by
  obtain ⟨t, o, h1, r⟩ := k
  exact ⟨t, o, h.trans h1, r⟩
theorem Go.join {p : Program} {e : Env} {below : List Frame} {G : State → Outcome → Prop} {U : State} {α : Type} {P : α → Prop} {F : α → State} (h2 : (∀ v, P v → Go p e below G (F v)) → Go p e below G U) (h1 : ∀ v, P v → Go p e below G (F v)) : Go p e below G U := h2 h1
theorem Go.join2 {p : Program} {e : Env} {below : List Frame} {G : State → Outcome → Prop} {U : State} {α β : Type} {P : α → β → Prop} {F : α → β → State} (h2 : (∀ v w, P v w → Go p e below G (F v w)) → Go p e below G U) (h1 : ∀ v w, P v w → Go p e below G (F v w)) : Go p e below G U := h2 h1
theorem Go.join3 {p : Program} {e : Env} {below : List Frame} {G : State → Outcome → Prop} {U : State} {α β γ : Type} {P : α → β → γ → Prop} {F : α → β → γ → State} (h2 : (∀ v w u, P v w u → Go p e below G (F v w u)) → Go p e below G U) (h1 : ∀ v w u, P v w u → Go p e below G (F v w u)) : Go p e below G U := h2 h1
theorem own_ret {p : Program} {l : Launch} {e : Env} {R : Room} {s : State} {m : MethodId} {args : Array Value} {below : List Frame} {meth : Method} {c : Code} {T U : State} {locs : List Loc} {cells slots : Nat} {Q : Option Value → Heap → List Loc → Prop} {rc rs : Nat} {v : Option Value}
    (X : Stand p l e R s m args below meth c T locs cells slots) (hlk : meth.locks = false) (hv : meth.sig.returnType = none → v = none) (hc : cells ≤ rc) (hs : slots ≤ rs) (hq : Q v T.heap locs)
    (st : ∀ fs, (∀ (f : JFrame) (acts : List Action), f.method = m → f.locked = none → f.entered = [] → (doReturn e (T.setTop f) acts v).1 = T.setFrames fs) → Steps p.tables e below U (T.setFrames fs)) :
    Go p e below (fun s₂ o => ∃ v L, o = .returned v ∧ Q v s₂.heap L ∧ FrameEnd s o s₂ L rc rs) U := by
  obtain ⟨fs, hr, hrun, hended, hW, hsame⟩ := X.leave (v := v) hv hlk
  exact ⟨_, _, st fs hr, hrun, hended, _, _, rfl, hq, ⟨_, rfl⟩, hW, hsame.mono hc hs⟩
theorem own_getI (L : List Int32) (i : Nat) : (L.map Value.int).getD i (.int 0) = .int (L.getD i 0) := by
  induction L generalizing i with
  | nil => rfl
  | cons a r ih => cases i with
    | zero => rfl
    | succ i => exact ih i
theorem own_getJ (L : List Int64) (i : Nat) : (L.map Value.long).getD i (.long 0) = .long (L.getD i 0) := by
  induction L generalizing i with
  | nil => rfl
  | cons a r ih => cases i with
    | zero => rfl
    | succ i => exact ih i
theorem own_getP {P : Int32 → Prop} (h0 : P 0) (L : List Int32) (h : ∀ x ∈ L, P x) (i : Nat) : P (L.getD i 0) := by
  induction L generalizing i with
  | nil => exact h0
  | cons a r ih => cases i with
    | zero => exact h a (List.mem_cons_self ..)
    | succ i => exact ih (fun x hx => h x (List.mem_cons_of_mem _ hx)) i
theorem own_mk (x m n : Int32) (k : Nat) (hk : k ≤ 31) (hm : m.toBitVec.toNat = 2 ^ k - 1) (hn : ((2 ^ k : Nat) : Int) ≤ n.toInt) : ¬ (x &&& m) < 0 ∧ (x &&& m) < n := by
  have h := c_mask x m k hk hm
  have h2 : (0 : Int) < ((2 ^ k : Nat) : Int) := Int.ofNat_lt.mpr (Nat.two_pow_pos k)
  have h3 := Int.emod_nonneg x.toInt (Int.ne_of_gt h2)
  have h4 := Int.emod_lt_of_pos x.toInt h2
  rw [Int32.lt_iff_toInt_lt, Int32.lt_iff_toInt_lt, h]
  exact ⟨Int.not_lt.mpr h3, Int.lt_of_lt_of_le h4 hn⟩
abbrev own_y0 : MethodName := ⟨"com/example/wdth/wdth/PlanarEmbedding", "<init>", "([I[I[I)V"⟩
abbrev own_y1 : MethodName := ⟨"com/example/wdth/wdth/PlanarEmbedding", "clockwise", "(I)I"⟩
def own_fill (L : List Int32) (lo : Nat) : Nat → Int32 → List Int32
  | 0, _ => L
  | n + 1, x => own_fill (L.set lo x) (lo + 1) n x
theorem own_fill_len (x : Int32) : ∀ (n lo : Nat) (L : List Int32), (own_fill L lo n x).length = L.length
  | 0, _, _ => rfl
  | n + 1, lo, L => by rw [own_fill, own_fill_len x n, List.length_set]
def own_tail (x1 x2 : Int32) : List Int32 := own_fill (own_fill (own_fill [0, 0, 0, 0, 0, 0] 0 x1.toInt.toNat 0) x1.toInt.toNat (x2.toInt - x1.toInt).toNat 1) x2.toInt.toNat ((6 : Int32).toInt - x2.toInt).toNat 2
theorem own_setI {Z : State} {h h' : Heap} {a : Addr} {k : ClassId} {z j x : Int32} {cl : Cell} {L : List Int32} (A : Arr Z h a cl .int) (q1 : cl.cls = k) (S : cl.slots.size = z.toNatClampNeg) (q3 : ¬ z < 0) (H : Has cl (List.map Value.int L) (.int 0)) (G : ∀ i, i < cl.slots.size → fits .int ((List.map Value.int L).getD i (.int 0)) = true) (W : Wr h h' a j.toNatClampNeg (.int x)) (hl : j.toNatClampNeg < L.length) :
    Arv Z h' a k .int z (List.map Value.int (L.set j.toNatClampNeg x)) (.int 0) := by
  have q := Arv.set A q1 S q3 H G rfl W j.toNatClampNeg rfl (by rw [List.length_map]; exact hl)
  rw [← List.map_set] at q
  exact q
theorem own_nat {j : Int32} (h : 0 ≤ j.toInt) : j.toNatClampNeg = j.toInt.toNat := rfl
theorem own_ij {j z : Int32} (h0 : 0 ≤ j.toInt) (h1 : j.toInt < z.toInt) : ¬ j < 0 ∧ j < z := by
  rw [Int32.lt_iff_toInt_lt, Int32.lt_iff_toInt_lt]
  exact ⟨Int.not_lt.mpr h0, h1⟩
theorem d1_45 : decode prog_4_method_1_code 45 = .ok (.iload 5, 2) := by decide +kernel
theorem d1_47 : decode prog_4_method_1_code 47 = .ok (.aload_n 1, 1) := by decide +kernel
theorem d1_48 : decode prog_4_method_1_code 48 = .ok (.iload 4, 2) := by decide +kernel
theorem d1_50 : decode prog_4_method_1_code 50 = .ok (.iconst 1, 1) := by decide +kernel
theorem d1_51 : decode prog_4_method_1_code 51 = .ok (.iadd, 1) := by decide +kernel
theorem d1_52 : decode prog_4_method_1_code 52 = .ok (.iaload, 1) := by decide +kernel
theorem d1_53 : decode prog_4_method_1_code 53 = .ok (.if_icmp .ge 18, 3) := by decide +kernel
theorem d1_56 : decode prog_4_method_1_code 56 = .ok (.aload_n 0, 1) := by decide +kernel
theorem d1_57 : decode prog_4_method_1_code 57 = .ok (.getfield 19, 3) := by decide +kernel
theorem d1_60 : decode prog_4_method_1_code 60 = .ok (.iload 5, 2) := by decide +kernel
theorem d1_62 : decode prog_4_method_1_code 62 = .ok (.iload 4, 2) := by decide +kernel
theorem d1_64 : decode prog_4_method_1_code 64 = .ok (.iastore, 1) := by decide +kernel
theorem d1_65 : decode prog_4_method_1_code 65 = .ok (.iinc 5 1, 3) := by decide +kernel
theorem d1_68 : decode prog_4_method_1_code 68 = .ok (.goto (-23), 3) := by decide +kernel
set_option maxRecDepth 65536 in
set_option maxHeartbeats 40000000 in
theorem turn1 {p : Program} {l : Launch} {e : Env} {R : Room} {s : State} {m : MethodId} {args : Array Value} {below : List Frame} {meth : Method} {c : Code} {T0 : State} {locs : List Loc} {cells slots : Nat} {Z : State} {a0 : Array Value} {h0 : Heap} {G : State → Outcome → Prop} {n0 : Nat} (a1 : Addr) (a2 : Addr) (a3 : Addr) (a4 : Addr) (b : Addr) (k2 : ClassId) (kb : ClassId) (I : Int32) (j : Int32) (hi : Int32) (x1 : Int32) (x2 : Int32) (Lt : List Int32) (hb_ : Heap)
    (X0 : Stand p l e R s m args below meth c T0 locs cells slots) (hx : p.tables.exec = Jvm.exec) (hZ : Z.Warmed39 s.vm) (hw : ∀ d ∈ tables_1, d.before a0 Z = true) (hby : c.code = prog_4_method_1_code) (hml : c.maxLocals = 6) (hown : s.vm.findClass "com/example/wdth/wdth/PlanarEmbedding" = some m.cls) (e0 : T0.heap = h0) (Z0 : n0 ≤ h0.size) (N0 : Fr n0 locs) (EX : Exa Z h0 a1 "com/example/wdth/wdth/PlanarEmbedding") (FS : Fld Z h0 a1 "com/example/wdth/wdth/PlanarEmbedding" "start" "[I" (.ref a2)) (FT : Fld Z h0 a1 "com/example/wdth/wdth/PlanarEmbedding" "tail" "[I" (.ref b)) (VS : Arv Z h0 a2 k2 .int (4 : Int32) [(.int (0 : Int32)), (.int x1), (.int x2), (.int (6 : Int32))] (.int (0 : Int32))) (VT : Arv Z h0 b kb .int (6 : Int32) (List.map Value.int Lt) (.int (0 : Int32))) (KP : Keep hb_ h0 [a1]) (gB : n0 ≤ b) (sgb : hb_.size ≤ b) (nab : a1 ≠ b) (nsb : a2 ≠ b) (hI : ¬ (I + (1 : Int32)) < 0 ∧ (I + (1 : Int32)) < (4 : Int32)) (hat : (Value.int hi) = List.getD ([(.int (0 : Int32)), (.int x1), (.int x2), (.int (6 : Int32))] : List Value) (I + (1 : Int32)).toNatClampNeg (.int (0 : Int32))) (hlt : j < hi) (hj : ¬ j < 0 ∧ j < (6 : Int32)) (hlen : j.toNatClampNeg < Lt.length)
    (K : ∀ (T' : State) (locs' : List Loc) (h' : Heap), Stand p l e R s m args below meth c T' locs' cells slots → T'.heap = h' → n0 ≤ h'.size → Fr n0 locs' → Exa Z h' a1 "com/example/wdth/wdth/PlanarEmbedding" → Fld Z h' a1 "com/example/wdth/wdth/PlanarEmbedding" "start" "[I" (.ref a2) → Fld Z h' a1 "com/example/wdth/wdth/PlanarEmbedding" "tail" "[I" (.ref b) → Arv Z h' a2 k2 .int (4 : Int32) [(.int (0 : Int32)), (.int x1), (.int x2), (.int (6 : Int32))] (.int (0 : Int32)) → Arv Z h' b kb .int (6 : Int32) (List.map Value.int (Lt.set j.toNatClampNeg I)) (.int (0 : Int32)) → Keep hb_ h' [a1] → Go p e below G (T'.setTop (mkF m 45 #[.val (.ref a1), .val (.ref a2), .val (.ref a3), .val (.ref a4), .val (.int I), .val (.int (j + (1 : Int32)))] []))) : Go p e below G (T0.setTop (mkF m 45 #[.val (.ref a1), .val (.ref a2), .val (.ref a3), .val (.ref a4), .val (.int I), .val (.int j)] [])) := by
  obtain ⟨cl101, Ar101, q101, S101, N101, H101, G101⟩ := id VS
  refine Go.st (U' := T0.setTop (mkF m 57 #[.val (.ref a1), .val (.ref a2), .val (.ref a3), .val (.ref a4), .val (.int I), .val (.int j)] [(.ref a1)])) (fun t k => ?_) ?_
  · show Steps p.tables e below (T0.setTop (mkF m 45 #[.val (.ref a1), .val (.ref a2), .val (.ref a3), .val (.ref a4), .val (.int I), .val (.int j)] [])) _
    refine XS.iload X0.here hx rfl (hb hby d1_45) rfl ?_
    show Steps p.tables e below (T0.setTop (mkF m 47 #[.val (.ref a1), .val (.ref a2), .val (.ref a3), .val (.ref a4), .val (.int I), .val (.int j)] [(.int j)])) _
    refine XS.aloadN X0.here hx rfl (hb hby d1_47) rfl rfl ?_
    show Steps p.tables e below (T0.setTop (mkF m 48 #[.val (.ref a1), .val (.ref a2), .val (.ref a3), .val (.ref a4), .val (.int I), .val (.int j)] [(.ref a2), (.int j)])) _
    refine XS.iload X0.here hx rfl (hb hby d1_48) rfl ?_
    show Steps p.tables e below (T0.setTop (mkF m 50 #[.val (.ref a1), .val (.ref a2), .val (.ref a3), .val (.ref a4), .val (.int I), .val (.int j)] [(.int I), (.ref a2), (.int j)])) _
    refine XS.iconst X0.here hx rfl (hb hby d1_50) ?_
    show Steps p.tables e below (T0.setTop (mkF m 51 #[.val (.ref a1), .val (.ref a2), .val (.ref a3), .val (.ref a4), .val (.int I), .val (.int j)] [(.int (1 : Int32)), (.int I), (.ref a2), (.int j)])) _
    refine XS.iadd X0.here hx rfl (hb hby d1_51) rfl ?_
    show Steps p.tables e below (T0.setTop (mkF m 52 #[.val (.ref a1), .val (.ref a2), .val (.ref a3), .val (.ref a4), .val (.int I), .val (.int j)] [(.int (I + (1 : Int32))), (.ref a2), (.int j)])) _
    refine X0.iaload hx (j := (I + (1 : Int32))) (v := (.int hi)) (by rw [e0]; exact Ar101.1) (State.isArrayOf_alike hZ.alike Ar101.2.1) Ar101.2.2 (inb_of (j := (I + (1 : Int32))) S101 hI) (Has.at H101 (inb_of (j := (I + (1 : Int32))) S101 hI) hat.symm) (g := (mkF m 52 #[.val (.ref a1), .val (.ref a2), .val (.ref a3), .val (.ref a4), .val (.int I), .val (.int j)] [(.int (I + (1 : Int32))), (.ref a2), (.int j)])) rfl rfl (hb hby d1_52) _ ?_
    show Steps p.tables e below (T0.setTop (mkF m 53 #[.val (.ref a1), .val (.ref a2), .val (.ref a3), .val (.ref a4), .val (.int I), .val (.int j)] [(.int hi), (.int j)])) _
    refine XS.icmpNo X0.here hx rfl (hb hby d1_53) rfl (tlt (hlt : j < hi)).2.1 ?_
    show Steps p.tables e below (T0.setTop (mkF m 56 #[.val (.ref a1), .val (.ref a2), .val (.ref a3), .val (.ref a4), .val (.int I), .val (.int j)] [])) _
    refine XS.aloadN X0.here hx rfl (hb hby d1_56) rfl rfl ?_
    exact k
  obtain ⟨T102, X102, e102, st102⟩ := getF X0 hx hZ hown (host := "") (Or.inl (own_w hw 17 rfl)) Via.refl e0 FT (g := (mkF m 57 #[.val (.ref a1), .val (.ref a2), .val (.ref a3), .val (.ref a4), .val (.int I), .val (.int j)] [(.ref a1)])) rfl rfl (hb hby d1_57)
  refine Go.st (U' := T102.setTop (mkF m 60 #[.val (.ref a1), .val (.ref a2), .val (.ref a3), .val (.ref a4), .val (.int I), .val (.int j)] [(.ref b)])) (fun t k => st102 _ k) ?_
  refine Go.st (U' := T102.setTop (mkF m 64 #[.val (.ref a1), .val (.ref a2), .val (.ref a3), .val (.ref a4), .val (.int I), .val (.int j)] [(.int I), (.int j), (.ref b)])) (fun t k => ?_) ?_
  · show Steps p.tables e below (T102.setTop (mkF m 60 #[.val (.ref a1), .val (.ref a2), .val (.ref a3), .val (.ref a4), .val (.int I), .val (.int j)] [(.ref b)])) _
    refine XS.iload X102.here hx rfl (hb hby d1_60) rfl ?_
    show Steps p.tables e below (T102.setTop (mkF m 62 #[.val (.ref a1), .val (.ref a2), .val (.ref a3), .val (.ref a4), .val (.int I), .val (.int j)] [(.int j), (.ref b)])) _
    refine XS.iload X102.here hx rfl (hb hby d1_62) rfl ?_
    exact k
  obtain ⟨cl104, Ar104, q104, S104, N104, H104, G104⟩ := id VT
  obtain ⟨T103, h103, X103, e103, W103, st103⟩ := stI X102 hx hZ e102 Ar104 (j := j) (inb_of (j := j) S104 hj) (g := (mkF m 64 #[.val (.ref a1), .val (.ref a2), .val (.ref a3), .val (.ref a4), .val (.int I), .val (.int j)] [(.int I), (.int j), (.ref b)])) rfl rfl (hb hby d1_64)
  have VT_103 : Arv Z h103 b kb .int (6 : Int32) (List.map Value.int (Lt.set j.toNatClampNeg I)) (.int (0 : Int32)) := own_setI Ar104 q104 S104 N104 H104 G104 W103 hlen
  have EX_103 := EX.wr W103
  have FS_103 := FS.other W103 (Or.inl nab)
  have FT_103 := FT.other W103 (Or.inl nab)
  have VS_103 := VS.other W103 nsb
  have N103 := Fr.snoc X103 N0 gB
  have KK103 : Keep hb_ h103 [a1] := KP.wr W103 (Or.inr sgb)
  have sz103 : n0 ≤ h103.size := Nat.le_trans Z0 (Nat.le_of_eq W103.size.symm)
  refine Go.st (U' := T103.setTop (mkF m 65 #[.val (.ref a1), .val (.ref a2), .val (.ref a3), .val (.ref a4), .val (.int I), .val (.int j)] [])) (fun t k => st103 _ k) ?_
  refine Go.st (U' := T103.setTop (mkF m 45 #[.val (.ref a1), .val (.ref a2), .val (.ref a3), .val (.ref a4), .val (.int I), .val (.int (j + (1 : Int32)))] [])) (fun t k => ?_) ?_
  · show Steps p.tables e below (T103.setTop (mkF m 65 #[.val (.ref a1), .val (.ref a2), .val (.ref a3), .val (.ref a4), .val (.int I), .val (.int j)] [])) _
    refine XS.iinc X103.here hx rfl (hb hby d1_65) rfl (l' := #[.val (.ref a1), .val (.ref a2), .val (.ref a3), .val (.ref a4), .val (.int I), .val (.int (j + (1 : Int32)))]) rfl ?_
    show Steps p.tables e below (T103.setTop (mkF m 68 #[.val (.ref a1), .val (.ref a2), .val (.ref a3), .val (.ref a4), .val (.int I), .val (.int (j + (1 : Int32)))] [])) _
    refine XS.goto X103.here hx rfl (pc0 := 68) (pc' := 45) rfl (hb hby d1_68) (by decide) (by decide) ?_
    exact k
  exact K _ _ _ X103 e103 sz103 N103 EX_103 FS_103 FT_103 VS_103 VT_103 KK103
set_option maxRecDepth 65536 in
set_option maxHeartbeats 40000000 in
theorem exit1 {p : Program} {l : Launch} {e : Env} {R : Room} {s : State} {m : MethodId} {args : Array Value} {below : List Frame} {meth : Method} {c : Code} {T0 : State} {locs : List Loc} {cells slots : Nat} {Z : State} {a0 : Array Value} {h0 : Heap} {G : State → Outcome → Prop} {n0 : Nat} (a1 : Addr) (a2 : Addr) (a3 : Addr) (a4 : Addr) (b : Addr) (k2 : ClassId) (kb : ClassId) (I : Int32) (j : Int32) (hi : Int32) (x1 : Int32) (x2 : Int32) (Lt : List Int32) (hb_ : Heap)
    (X0 : Stand p l e R s m args below meth c T0 locs cells slots) (hx : p.tables.exec = Jvm.exec) (hZ : Z.Warmed39 s.vm) (hw : ∀ d ∈ tables_1, d.before a0 Z = true) (hby : c.code = prog_4_method_1_code) (hml : c.maxLocals = 6) (hown : s.vm.findClass "com/example/wdth/wdth/PlanarEmbedding" = some m.cls) (e0 : T0.heap = h0) (Z0 : n0 ≤ h0.size) (N0 : Fr n0 locs) (EX : Exa Z h0 a1 "com/example/wdth/wdth/PlanarEmbedding") (FS : Fld Z h0 a1 "com/example/wdth/wdth/PlanarEmbedding" "start" "[I" (.ref a2)) (FT : Fld Z h0 a1 "com/example/wdth/wdth/PlanarEmbedding" "tail" "[I" (.ref b)) (VS : Arv Z h0 a2 k2 .int (4 : Int32) [(.int (0 : Int32)), (.int x1), (.int x2), (.int (6 : Int32))] (.int (0 : Int32))) (VT : Arv Z h0 b kb .int (6 : Int32) (List.map Value.int Lt) (.int (0 : Int32))) (KP : Keep hb_ h0 [a1]) (gB : n0 ≤ b) (sgb : hb_.size ≤ b) (nab : a1 ≠ b) (nsb : a2 ≠ b) (hI : ¬ (I + (1 : Int32)) < 0 ∧ (I + (1 : Int32)) < (4 : Int32)) (hat : (Value.int hi) = List.getD ([(.int (0 : Int32)), (.int x1), (.int x2), (.int (6 : Int32))] : List Value) (I + (1 : Int32)).toNatClampNeg (.int (0 : Int32))) (hge : ¬ j < hi)
    (K : Go p e below G (T0.setTop (mkF m 71 #[.val (.ref a1), .val (.ref a2), .val (.ref a3), .val (.ref a4), .val (.int I), .val (.int j)] []))) : Go p e below G (T0.setTop (mkF m 45 #[.val (.ref a1), .val (.ref a2), .val (.ref a3), .val (.ref a4), .val (.int I), .val (.int j)] [])) := by
  obtain ⟨cl105, Ar105, q105, S105, N105, H105, G105⟩ := id VS
  refine Go.st (U' := T0.setTop (mkF m 71 #[.val (.ref a1), .val (.ref a2), .val (.ref a3), .val (.ref a4), .val (.int I), .val (.int j)] [])) (fun t k => ?_) ?_
  · show Steps p.tables e below (T0.setTop (mkF m 45 #[.val (.ref a1), .val (.ref a2), .val (.ref a3), .val (.ref a4), .val (.int I), .val (.int j)] [])) _
    refine XS.iload X0.here hx rfl (hb hby d1_45) rfl ?_
    show Steps p.tables e below (T0.setTop (mkF m 47 #[.val (.ref a1), .val (.ref a2), .val (.ref a3), .val (.ref a4), .val (.int I), .val (.int j)] [(.int j)])) _
    refine XS.aloadN X0.here hx rfl (hb hby d1_47) rfl rfl ?_
    show Steps p.tables e below (T0.setTop (mkF m 48 #[.val (.ref a1), .val (.ref a2), .val (.ref a3), .val (.ref a4), .val (.int I), .val (.int j)] [(.ref a2), (.int j)])) _
    refine XS.iload X0.here hx rfl (hb hby d1_48) rfl ?_
    show Steps p.tables e below (T0.setTop (mkF m 50 #[.val (.ref a1), .val (.ref a2), .val (.ref a3), .val (.ref a4), .val (.int I), .val (.int j)] [(.int I), (.ref a2), (.int j)])) _
    refine XS.iconst X0.here hx rfl (hb hby d1_50) ?_
    show Steps p.tables e below (T0.setTop (mkF m 51 #[.val (.ref a1), .val (.ref a2), .val (.ref a3), .val (.ref a4), .val (.int I), .val (.int j)] [(.int (1 : Int32)), (.int I), (.ref a2), (.int j)])) _
    refine XS.iadd X0.here hx rfl (hb hby d1_51) rfl ?_
    show Steps p.tables e below (T0.setTop (mkF m 52 #[.val (.ref a1), .val (.ref a2), .val (.ref a3), .val (.ref a4), .val (.int I), .val (.int j)] [(.int (I + (1 : Int32))), (.ref a2), (.int j)])) _
    refine X0.iaload hx (j := (I + (1 : Int32))) (v := (.int hi)) (by rw [e0]; exact Ar105.1) (State.isArrayOf_alike hZ.alike Ar105.2.1) Ar105.2.2 (inb_of (j := (I + (1 : Int32))) S105 hI) (Has.at H105 (inb_of (j := (I + (1 : Int32))) S105 hI) hat.symm) (g := (mkF m 52 #[.val (.ref a1), .val (.ref a2), .val (.ref a3), .val (.ref a4), .val (.int I), .val (.int j)] [(.int (I + (1 : Int32))), (.ref a2), (.int j)])) rfl rfl (hb hby d1_52) _ ?_
    show Steps p.tables e below (T0.setTop (mkF m 53 #[.val (.ref a1), .val (.ref a2), .val (.ref a3), .val (.ref a4), .val (.int I), .val (.int j)] [(.int hi), (.int j)])) _
    refine XS.icmpYes X0.here hx rfl (pc0 := 53) (pc' := 71) rfl (hb hby d1_53) rfl (flt (hge : ¬ (j < hi))).2.1 (by decide) (by decide) ?_
    exact k
  exact K
set_option maxRecDepth 65536 in
set_option maxHeartbeats 40000000 in
theorem loop1 {p : Program} {l : Launch} {e : Env} {R : Room} {s : State} {m : MethodId} {args : Array Value} {below : List Frame} {meth : Method} {c : Code} {cells slots : Nat} {Z : State} {a0 : Array Value} {G : State → Outcome → Prop} {n0 : Nat} (a1 a2 a3 a4 b : Addr) (k2 kb : ClassId) (I hi x1 x2 : Int32) (hb_ : Heap)
    (hx : p.tables.exec = Jvm.exec) (hZ : Z.Warmed39 s.vm) (hw : ∀ d ∈ tables_1, d.before a0 Z = true) (hby : c.code = prog_4_method_1_code) (hml : c.maxLocals = 6) (hown : s.vm.findClass "com/example/wdth/wdth/PlanarEmbedding" = some m.cls) (gB : n0 ≤ b) (sgb : hb_.size ≤ b) (nab : a1 ≠ b) (nsb : a2 ≠ b) (hI : ¬ (I + (1 : Int32)) < 0 ∧ (I + (1 : Int32)) < (4 : Int32)) (hat : (Value.int hi) = List.getD ([(.int (0 : Int32)), (.int x1), (.int x2), (.int (6 : Int32))] : List Value) (I + (1 : Int32)).toNatClampNeg (.int (0 : Int32))) (h6 : hi.toInt ≤ 6) (k : Nat) :
    ∀ (T0 : State) (locs : List Loc) (h0 : Heap) (j : Int32) (Lt : List Int32), Stand p l e R s m args below meth c T0 locs cells slots → T0.heap = h0 → n0 ≤ h0.size → Fr n0 locs → Exa Z h0 a1 "com/example/wdth/wdth/PlanarEmbedding" → Fld Z h0 a1 "com/example/wdth/wdth/PlanarEmbedding" "start" "[I" (.ref a2) → Fld Z h0 a1 "com/example/wdth/wdth/PlanarEmbedding" "tail" "[I" (.ref b) → Arv Z h0 a2 k2 .int (4 : Int32) [(.int (0 : Int32)), (.int x1), (.int x2), (.int (6 : Int32))] (.int (0 : Int32)) → Arv Z h0 b kb .int (6 : Int32) (List.map Value.int Lt) (.int (0 : Int32)) → Keep hb_ h0 [a1] → 0 ≤ j.toInt → j.toInt + (k : Int) = hi.toInt → Lt.length = 6 →
      (∀ (T' : State) (locs' : List Loc) (h' : Heap), Stand p l e R s m args below meth c T' locs' cells slots → T'.heap = h' → n0 ≤ h'.size → Fr n0 locs' → Exa Z h' a1 "com/example/wdth/wdth/PlanarEmbedding" → Fld Z h' a1 "com/example/wdth/wdth/PlanarEmbedding" "start" "[I" (.ref a2) → Fld Z h' a1 "com/example/wdth/wdth/PlanarEmbedding" "tail" "[I" (.ref b) → Arv Z h' a2 k2 .int (4 : Int32) [(.int (0 : Int32)), (.int x1), (.int x2), (.int (6 : Int32))] (.int (0 : Int32)) → Arv Z h' b kb .int (6 : Int32) (List.map Value.int (own_fill Lt j.toInt.toNat k I)) (.int (0 : Int32)) → Keep hb_ h' [a1] → Go p e below G (T'.setTop (mkF m 71 #[.val (.ref a1), .val (.ref a2), .val (.ref a3), .val (.ref a4), .val (.int I), .val (.int hi)] []))) → Go p e below G (T0.setTop (mkF m 45 #[.val (.ref a1), .val (.ref a2), .val (.ref a3), .val (.ref a4), .val (.int I), .val (.int j)] [])) := by
  induction k with
  | zero =>
    intro T0 locs h0 j Lt X0 e0 Z0 N0 EX FS FT VS VT KP hj hk hl K
    have ej : j = hi := Int32.toInt_inj.mp (by omega)
    subst ej
    exact exit1 a1 a2 a3 a4 b k2 kb I j j x1 x2 Lt hb_ X0 hx hZ hw hby hml hown e0 Z0 N0 EX FS FT VS VT KP gB sgb nab nsb hI hat (by rw [Int32.lt_iff_toInt_lt]; omega) (K T0 locs h0 X0 e0 Z0 N0 EX FS FT VS VT KP)
  | succ k ih =>
    intro T0 locs h0 j Lt X0 e0 Z0 N0 EX FS FT VS VT KP hj hk hl K
    have hs : (j + (1 : Int32)).toInt = j.toInt + 1 := by
      have q := c_iadd j 1
      have r := rng32 (j + 1)
      have k1 : (1 : Int32).toInt = 1 := rfl
      rw [k1] at q
      omega
    refine turn1 a1 a2 a3 a4 b k2 kb I j hi x1 x2 Lt hb_ X0 hx hZ hw hby hml hown e0 Z0 N0 EX FS FT VS VT KP gB sgb nab nsb hI hat (by rw [Int32.lt_iff_toInt_lt]; omega) (own_ij hj (by show j.toInt < 6; omega)) (by rw [own_nat hj]; omega) ?_
    intro T' locs' h' X' e' Z' N' EX' FS' FT' VS' VT' KP'
    refine ih T' locs' h' (j + (1 : Int32)) _ X' e' Z' N' EX' FS' FT' VS' VT' KP' (by omega) (by omega) (by rw [List.length_set]; exact hl) ?_
    intro T2 locs2 h2 X2 e2 Z2 N2 EX2 FS2 FT2 VS2 VT2 KP2
    have ef : own_fill (Lt.set j.toNatClampNeg I) (j + (1 : Int32)).toInt.toNat k I = own_fill Lt j.toInt.toNat (k + 1) I := by
      rw [own_fill, own_nat hj, hs, Int.toNat_add hj (by decide)]; rfl
    rw [ef] at VT2
    exact K T2 locs2 h2 X2 e2 Z2 N2 EX2 FS2 FT2 VS2 VT2 KP2
theorem d1_0 : decode prog_4_method_1_code 0 = .ok (.aload_n 0, 1) := by decide +kernel
theorem d1_1 : decode prog_4_method_1_code 1 = .ok (.invokespecial 1, 3) := by decide +kernel
theorem d1_4 : decode prog_4_method_1_code 4 = .ok (.aload_n 0, 1) := by decide +kernel
theorem d1_5 : decode prog_4_method_1_code 5 = .ok (.aload_n 1, 1) := by decide +kernel
theorem d1_6 : decode prog_4_method_1_code 6 = .ok (.putfield 7, 3) := by decide +kernel
theorem d1_9 : decode prog_4_method_1_code 9 = .ok (.aload_n 0, 1) := by decide +kernel
theorem d1_10 : decode prog_4_method_1_code 10 = .ok (.aload_n 2, 1) := by decide +kernel
theorem d1_11 : decode prog_4_method_1_code 11 = .ok (.putfield 13, 3) := by decide +kernel
theorem d1_14 : decode prog_4_method_1_code 14 = .ok (.aload_n 0, 1) := by decide +kernel
theorem d1_15 : decode prog_4_method_1_code 15 = .ok (.aload_n 3, 1) := by decide +kernel
theorem d1_16 : decode prog_4_method_1_code 16 = .ok (.putfield 16, 3) := by decide +kernel
theorem d1_19 : decode prog_4_method_1_code 19 = .ok (.aload_n 0, 1) := by decide +kernel
theorem d1_20 : decode prog_4_method_1_code 20 = .ok (.aload_n 2, 1) := by decide +kernel
theorem d1_21 : decode prog_4_method_1_code 21 = .ok (.arraylength, 1) := by decide +kernel
theorem d1_22 : decode prog_4_method_1_code 22 = .ok (.newarray .int, 2) := by decide +kernel
theorem d1_24 : decode prog_4_method_1_code 24 = .ok (.putfield 19, 3) := by decide +kernel
theorem d1_27 : decode prog_4_method_1_code 27 = .ok (.iconst 0, 1) := by decide +kernel
theorem d1_28 : decode prog_4_method_1_code 28 = .ok (.istore 4, 2) := by decide +kernel
theorem d1_30 : decode prog_4_method_1_code 30 = .ok (.iload 4, 2) := by decide +kernel
theorem d1_32 : decode prog_4_method_1_code 32 = .ok (.iconst 1, 1) := by decide +kernel
theorem d1_33 : decode prog_4_method_1_code 33 = .ok (.iadd, 1) := by decide +kernel
theorem d1_34 : decode prog_4_method_1_code 34 = .ok (.aload_n 1, 1) := by decide +kernel
theorem d1_35 : decode prog_4_method_1_code 35 = .ok (.arraylength, 1) := by decide +kernel
theorem d1_36 : decode prog_4_method_1_code 36 = .ok (.if_icmp .ge 41, 3) := by decide +kernel
theorem d1_39 : decode prog_4_method_1_code 39 = .ok (.aload_n 1, 1) := by decide +kernel
theorem d1_40 : decode prog_4_method_1_code 40 = .ok (.iload 4, 2) := by decide +kernel
theorem d1_42 : decode prog_4_method_1_code 42 = .ok (.iaload, 1) := by decide +kernel
theorem d1_43 : decode prog_4_method_1_code 43 = .ok (.istore 5, 2) := by decide +kernel
theorem d1_71 : decode prog_4_method_1_code 71 = .ok (.iinc 4 1, 3) := by decide +kernel
theorem d1_74 : decode prog_4_method_1_code 74 = .ok (.goto (-44), 3) := by decide +kernel
theorem d1_77 : decode prog_4_method_1_code 77 = .ok (.return_, 1) := by decide +kernel
theorem pn_0 : plainName "com/example/wdth/wdth/PlanarEmbedding" = true := by first | (simp [plainName, overriddenIn]; done) | decide +kernel
theorem ef1c (m : MethodId) (a1 : Addr) (a2 : Addr) (a3 : Addr) (a4 : Addr) : entryFrame m #[(.ref a1), (.ref a2), (.ref a3), (.ref a4)] 6 = mkF m 0 #[.val (.ref a1), .val (.ref a2), .val (.ref a3), .val (.ref a4), .unset, .unset] [] := by first | (simp [entryFrame, mkF, argsToLocals, Value.category]; done) | rfl
abbrev own_R1_1_6_16 : Room := { frames := 1, cells := 1, slots := 6, locals := 16 }
def Q1c (Z : State) (a1 : Addr) (a2 : Addr) (a3 : Addr) (a4 : Addr) (k2 : ClassId) (k3 : ClassId) (x1 : Int32) (x2 : Int32) (h0 : Heap) (n0 : Nat) (v : Option Value) (h : Heap) (L : List Loc) : Prop := v = none ∧ Fr n0 L ∧ Keep h0 h [a1] ∧ Exa Z h a1 "com/example/wdth/wdth/PlanarEmbedding" ∧ ∃ (b : Addr) (kb : ClassId), n0 ≤ b ∧ h0.size ≤ b ∧ Fld Z h a1 "com/example/wdth/wdth/PlanarEmbedding" "start" "[I" (.ref a2) ∧ Fld Z h a1 "com/example/wdth/wdth/PlanarEmbedding" "tail" "[I" (.ref b) ∧ Arv Z h b kb .int (6 : Int32) (List.map Value.int (own_tail x1 x2)) (.int (0 : Int32))
set_option maxRecDepth 65536 in
set_option maxHeartbeats 40000000 in
theorem rm1c (l : Launch) (Z : State) (a0 : Array Value) (hw : ∀ d ∈ tables_1, d.before a0 Z = true) (ws : List Jvm.Cond) (a1 : Addr) (a2 : Addr) (a3 : Addr) (a4 : Addr) (k2 : ClassId) (k3 : ClassId) (x1 : Int32) (x2 : Int32) (h0 : Heap) (n0 : Nat) (Z0 : n0 ≤ h0.size) (EX : Exa Z h0 a1 "com/example/wdth/wdth/PlanarEmbedding") (F_start : Fld Z h0 a1 "com/example/wdth/wdth/PlanarEmbedding" "start" "[I" .null) (F_head : Fld Z h0 a1 "com/example/wdth/wdth/PlanarEmbedding" "head" "[I" .null) (F_mate : Fld Z h0 a1 "com/example/wdth/wdth/PlanarEmbedding" "mate" "[I" .null) (F_tail : Fld Z h0 a1 "com/example/wdth/wdth/PlanarEmbedding" "tail" "[I" .null) (VS : Arv Z h0 a2 k2 .int (4 : Int32) [(.int (0 : Int32)), (.int x1), (.int x2), (.int (6 : Int32))] (.int (0 : Int32))) (VH : Arv Z h0 a3 k3 .int (6 : Int32) [(.int (0 : Int32)), (.int (0 : Int32)), (.int (0 : Int32)), (.int (0 : Int32)), (.int (0 : Int32)), (.int (0 : Int32))] (.int (0 : Int32))) (gA : n0 ≤ a1) (n21 : a2 ≠ a1) (n31 : a3 ≠ a1) (h1 : 0 ≤ x1.toInt) (h2 : x1.toInt ≤ x2.toInt) (h3 : x2.toInt ≤ 6) :
    MetFree l own_y0 (head1 (Jvm.Cond.code own_y0 prog_4_method_1_code 6 none :: ws) own_R1_1_6_16) (fun a U => a = #[(.ref a1), (.ref a2), (.ref a3), (.ref a4)] ∧ Z.Warmed39 U.vm ∧ U.heap = h0) (fun _ _ _ _ _ => True) (fun _ U o U' => ∃ v L, o = .returned v ∧ Q1c Z a1 a2 a3 a4 k2 k3 x1 x2 h0 n0 v U'.heap L ∧ FrameEnd U o U' L (own_R1_1_6_16).cells (own_R1_1_6_16).slots) := by
  refine MetFree.of_bodySF (plainFor_of_name pn_0) hisR ?_
  intro p e s m args below meth c s₁ Bd hml0 hP hK
  obtain ⟨rfl, hZ, hh⟩ := hP
  have hx := Bd.exec
  have hby := Bd.bytes
  have hml : c.maxLocals = 6 := hml0
  have hown : s.vm.findClass "com/example/wdth/wdth/PlanarEmbedding" = some m.cls := findClass_of_methodNamed Bd.named
  have hnm := (name_of_methodNamed Bd.named Bd.method).1
  have hlk : meth.locks = false := BodyLoose.notSynchronized Bd
  have hrt := Bd.returns
  have X0 : Stand p l e own_R1_1_6_16 s m #[(.ref a1), (.ref a2), (.ref a3), (.ref a4)] below meth c s₁ [] 0 0 := Stand.of_body Bd
  have e0 : s₁.heap = h0 := by rw [← hh, Bd.state]; rfl
  have N0 := Fr.nil n0
  refine (show Go p e below (fun s₂ o => ∃ v L, o = .returned v ∧ Q1c Z a1 a2 a3 a4 k2 k3 x1 x2 h0 n0 v s₂.heap L ∧ FrameEnd s o s₂ L 1 6) (s₁.setTop (entryFrame m #[(.ref a1), (.ref a2), (.ref a3), (.ref a4)] 6)) from ?_)
  rw [ef1c]
  refine Go.st (U' := s₁.setTop (mkF m 1 #[.val (.ref a1), .val (.ref a2), .val (.ref a3), .val (.ref a4), .unset, .unset] [(.ref a1)])) (fun t k => ?_) ?_
  · show Steps p.tables e below (s₁.setTop (mkF m 0 #[.val (.ref a1), .val (.ref a2), .val (.ref a3), .val (.ref a4), .unset, .unset] [])) _
    refine XS.aloadN X0.here hx rfl (hb hby d1_0) rfl rfl ?_
    exact k
  obtain ⟨T106, X106, e106, st106⟩ := initO X0 hx hZ hown (own_w hw 8 rfl) (own_w hw 9 rfl) (own_w hw 10 rfl) e0 (g := (mkF m 1 #[.val (.ref a1), .val (.ref a2), .val (.ref a3), .val (.ref a4), .unset, .unset] [(.ref a1)])) rfl (by rw [hml]; rfl) rfl (hb hby d1_1) (by decide) (W := 0) (by show 2 * 0 + _ ≤ _; exact Nat.le_of_eq rfl) (by decide)
  refine Go.st (U' := T106.setTop (mkF m 4 #[.val (.ref a1), .val (.ref a2), .val (.ref a3), .val (.ref a4), .unset, .unset] [])) (fun t k => st106 _ k) ?_
  refine Go.st (U' := T106.setTop (mkF m 6 #[.val (.ref a1), .val (.ref a2), .val (.ref a3), .val (.ref a4), .unset, .unset] [(.ref a2), (.ref a1)])) (fun t k => ?_) ?_
  · show Steps p.tables e below (T106.setTop (mkF m 4 #[.val (.ref a1), .val (.ref a2), .val (.ref a3), .val (.ref a4), .unset, .unset] [])) _
    refine XS.aloadN X106.here hx rfl (hb hby d1_4) rfl rfl ?_
    show Steps p.tables e below (T106.setTop (mkF m 5 #[.val (.ref a1), .val (.ref a2), .val (.ref a3), .val (.ref a4), .unset, .unset] [(.ref a1)])) _
    refine XS.aloadN X106.here hx rfl (hb hby d1_5) rfl rfl ?_
    exact k
  obtain ⟨T107, h107, X107, e107, W107, st107⟩ := putF X106 hx hZ hown (host := "") (Or.inl (own_w hw 11 rfl)) Via.refl e106 F_start EX (Or.inr ⟨(own_w hw 12 rfl), rfl, hnm⟩) (own_w hw 3 rfl) (ty := (.array .int)) (by decide) rfl rfl (g := (mkF m 6 #[.val (.ref a1), .val (.ref a2), .val (.ref a3), .val (.ref a4), .unset, .unset] [(.ref a2), (.ref a1)])) rfl rfl (hb hby d1_6)
  have F107 := F_start.same W107
  have EX_107 := EX.wr W107
  have F_head_107 := F_head.other W107 (Or.inr (slot_ne (Or.inr (own_w hw 14 rfl)) (Or.inr (own_w hw 12 rfl)) (by decide) (t := (.array .int)) (t' := (.array .int)) (by decide) (by decide)))
  have F_mate_107 := F_mate.other W107 (Or.inr (slot_ne (Or.inr (own_w hw 16 rfl)) (Or.inr (own_w hw 12 rfl)) (by decide) (t := (.array .int)) (t' := (.array .int)) (by decide) (by decide)))
  have F_tail_107 := F_tail.other W107 (Or.inr (slot_ne (Or.inr (own_w hw 18 rfl)) (Or.inr (own_w hw 12 rfl)) (by decide) (t := (.array .int)) (t' := (.array .int)) (by decide) (by decide)))
  have VS_107 := VS.other W107 n21
  have VH_107 := VH.other W107 n31
  have N107 := Fr.snoc X107 N0 gA
  have KK107 : Keep h0 h107 [a1] := (Keep.refl h0 [a1]).wr W107 (Or.inl (List.mem_of_getElem? (i := 0) rfl))
  have sz107 : n0 ≤ h107.size := Nat.le_trans Z0 (Nat.le_of_eq W107.size.symm)
  refine Go.st (U' := T107.setTop (mkF m 9 #[.val (.ref a1), .val (.ref a2), .val (.ref a3), .val (.ref a4), .unset, .unset] [])) (fun t k => st107 _ k) ?_
  refine Go.st (U' := T107.setTop (mkF m 11 #[.val (.ref a1), .val (.ref a2), .val (.ref a3), .val (.ref a4), .unset, .unset] [(.ref a3), (.ref a1)])) (fun t k => ?_) ?_
  · show Steps p.tables e below (T107.setTop (mkF m 9 #[.val (.ref a1), .val (.ref a2), .val (.ref a3), .val (.ref a4), .unset, .unset] [])) _
    refine XS.aloadN X107.here hx rfl (hb hby d1_9) rfl rfl ?_
    show Steps p.tables e below (T107.setTop (mkF m 10 #[.val (.ref a1), .val (.ref a2), .val (.ref a3), .val (.ref a4), .unset, .unset] [(.ref a1)])) _
    refine XS.aloadN X107.here hx rfl (hb hby d1_10) rfl rfl ?_
    exact k
  obtain ⟨T108, h108, X108, e108, W108, st108⟩ := putF X107 hx hZ hown (host := "") (Or.inl (own_w hw 13 rfl)) Via.refl e107 F_head_107 EX_107 (Or.inr ⟨(own_w hw 14 rfl), rfl, hnm⟩) (own_w hw 3 rfl) (ty := (.array .int)) (by decide) rfl rfl (g := (mkF m 11 #[.val (.ref a1), .val (.ref a2), .val (.ref a3), .val (.ref a4), .unset, .unset] [(.ref a3), (.ref a1)])) rfl rfl (hb hby d1_11)
  have F108 := F_head_107.same W108
  have EX_108 := EX_107.wr W108
  have F_start_108 := F107.other W108 (Or.inr (slot_ne (Or.inr (own_w hw 12 rfl)) (Or.inr (own_w hw 14 rfl)) (by decide) (t := (.array .int)) (t' := (.array .int)) (by decide) (by decide)))
  have F_mate_108 := F_mate_107.other W108 (Or.inr (slot_ne (Or.inr (own_w hw 16 rfl)) (Or.inr (own_w hw 14 rfl)) (by decide) (t := (.array .int)) (t' := (.array .int)) (by decide) (by decide)))
  have F_tail_108 := F_tail_107.other W108 (Or.inr (slot_ne (Or.inr (own_w hw 18 rfl)) (Or.inr (own_w hw 14 rfl)) (by decide) (t := (.array .int)) (t' := (.array .int)) (by decide) (by decide)))
  have VS_108 := VS_107.other W108 n21
  have VH_108 := VH_107.other W108 n31
  have N108 := Fr.snoc X108 N107 gA
  have KK108 : Keep h0 h108 [a1] := KK107.wr W108 (Or.inl (List.mem_of_getElem? (i := 0) rfl))
  have sz108 : n0 ≤ h108.size := Nat.le_trans sz107 (Nat.le_of_eq W108.size.symm)
  refine Go.st (U' := T108.setTop (mkF m 14 #[.val (.ref a1), .val (.ref a2), .val (.ref a3), .val (.ref a4), .unset, .unset] [])) (fun t k => st108 _ k) ?_
  refine Go.st (U' := T108.setTop (mkF m 16 #[.val (.ref a1), .val (.ref a2), .val (.ref a3), .val (.ref a4), .unset, .unset] [(.ref a4), (.ref a1)])) (fun t k => ?_) ?_
  · show Steps p.tables e below (T108.setTop (mkF m 14 #[.val (.ref a1), .val (.ref a2), .val (.ref a3), .val (.ref a4), .unset, .unset] [])) _
    refine XS.aloadN X108.here hx rfl (hb hby d1_14) rfl rfl ?_
    show Steps p.tables e below (T108.setTop (mkF m 15 #[.val (.ref a1), .val (.ref a2), .val (.ref a3), .val (.ref a4), .unset, .unset] [(.ref a1)])) _
    refine XS.aloadN X108.here hx rfl (hb hby d1_15) rfl rfl ?_
    exact k
  obtain ⟨T109, h109, X109, e109, W109, st109⟩ := putF X108 hx hZ hown (host := "") (Or.inl (own_w hw 15 rfl)) Via.refl e108 F_mate_108 EX_108 (Or.inr ⟨(own_w hw 16 rfl), rfl, hnm⟩) (own_w hw 3 rfl) (ty := (.array .int)) (by decide) rfl rfl (g := (mkF m 16 #[.val (.ref a1), .val (.ref a2), .val (.ref a3), .val (.ref a4), .unset, .unset] [(.ref a4), (.ref a1)])) rfl rfl (hb hby d1_16)
  have F109 := F_mate_108.same W109
  have EX_109 := EX_108.wr W109
  have F_start_109 := F_start_108.other W109 (Or.inr (slot_ne (Or.inr (own_w hw 12 rfl)) (Or.inr (own_w hw 16 rfl)) (by decide) (t := (.array .int)) (t' := (.array .int)) (by decide) (by decide)))
  have F_head_109 := F108.other W109 (Or.inr (slot_ne (Or.inr (own_w hw 14 rfl)) (Or.inr (own_w hw 16 rfl)) (by decide) (t := (.array .int)) (t' := (.array .int)) (by decide) (by decide)))
  have F_tail_109 := F_tail_108.other W109 (Or.inr (slot_ne (Or.inr (own_w hw 18 rfl)) (Or.inr (own_w hw 16 rfl)) (by decide) (t := (.array .int)) (t' := (.array .int)) (by decide) (by decide)))
  have VS_109 := VS_108.other W109 n21
  have VH_109 := VH_108.other W109 n31
  have N109 := Fr.snoc X109 N108 gA
  have KK109 : Keep h0 h109 [a1] := KK108.wr W109 (Or.inl (List.mem_of_getElem? (i := 0) rfl))
  have sz109 : n0 ≤ h109.size := Nat.le_trans sz108 (Nat.le_of_eq W109.size.symm)
  refine Go.st (U' := T109.setTop (mkF m 19 #[.val (.ref a1), .val (.ref a2), .val (.ref a3), .val (.ref a4), .unset, .unset] [])) (fun t k => st109 _ k) ?_
  obtain ⟨cl110, Ar110, q110, S110, N110, H110, G110⟩ := id VH_109
  refine Go.st (U' := T109.setTop (mkF m 22 #[.val (.ref a1), .val (.ref a2), .val (.ref a3), .val (.ref a4), .unset, .unset] [(.int (6 : Int32)), (.ref a1)])) (fun t k => ?_) ?_
  · show Steps p.tables e below (T109.setTop (mkF m 19 #[.val (.ref a1), .val (.ref a2), .val (.ref a3), .val (.ref a4), .unset, .unset] [])) _
    refine XS.aloadN X109.here hx rfl (hb hby d1_19) rfl rfl ?_
    show Steps p.tables e below (T109.setTop (mkF m 20 #[.val (.ref a1), .val (.ref a2), .val (.ref a3), .val (.ref a4), .unset, .unset] [(.ref a1)])) _
    refine XS.aloadN X109.here hx rfl (hb hby d1_20) rfl rfl ?_
    show Steps p.tables e below (T109.setTop (mkF m 21 #[.val (.ref a1), .val (.ref a2), .val (.ref a3), .val (.ref a4), .unset, .unset] [(.ref a3), (.ref a1)])) _
    refine X109.arraylength hx (by rw [e109]; exact Ar110.1) (State.isArrayOf_alike hZ.alike Ar110.2.1) (g := (mkF m 21 #[.val (.ref a1), .val (.ref a2), .val (.ref a3), .val (.ref a4), .unset, .unset] [(.ref a3), (.ref a1)])) rfl rfl (hb hby d1_21) _ ?_
    rw [len_of S110 N110]
    exact k
  obtain ⟨T111, h111, k111, X111, e111, E111, A111, st111⟩ := newP X109 hx hZ (own_w hw 1 rfl) e109 (g := (mkF m 22 #[.val (.ref a1), .val (.ref a2), .val (.ref a3), .val (.ref a4), .unset, .unset] [(.int (6 : Int32)), (.ref a1)])) rfl (hb hby d1_22) rfl (by decide) (cap := 6) (by decide) (by decide) (by decide) (by decide)
  obtain ⟨b111, g111⟩ : ∃ z, z = h109.size := ⟨_, rfl⟩
  rw [← g111] at A111 st111
  have ne_a1_b111 : a1 ≠ b111 := Nat.ne_of_lt (Nat.lt_of_lt_of_le EX_109.lt (Nat.le_of_eq g111.symm))
  have ne_a2_b111 : a2 ≠ b111 := Nat.ne_of_lt (Nat.lt_of_lt_of_le VS_109.lt (Nat.le_of_eq g111.symm))
  have ne_a3_b111 : a3 ≠ b111 := Nat.ne_of_lt (Nat.lt_of_lt_of_le VH_109.lt (Nat.le_of_eq g111.symm))
  have ge_b111 : n0 ≤ b111 := Nat.le_trans sz109 (Nat.le_of_eq g111.symm)
  have sg_b111 : h0.size ≤ b111 := Nat.le_trans KK109.1 (Nat.le_of_eq g111.symm)
  have EX_111 := EX_109.ext E111
  have F_start_111 := F_start_109.ext E111
  have F_head_111 := F_head_109.ext E111
  have F_mate_111 := F109.ext E111
  have F_tail_111 := F_tail_109.ext E111
  have VS_111 := VS_109.ext E111
  have VH_111 := VH_109.ext E111
  have KK111 : Keep h0 h111 [a1] := KK109.ext E111
  have V_b111 : Arv Z h111 b111 k111 .int (6 : Int32) [(.int (0 : Int32)), (.int (0 : Int32)), (.int (0 : Int32)), (.int (0 : Int32)), (.int (0 : Int32)), (.int (0 : Int32))] (.int (0 : Int32)) := (Arv.new A111 (by decide)).pad (pad_rep [] (.int (0 : Int32)) 6)
  have sz111 : n0 ≤ h111.size := Nat.le_trans sz109 E111.1
  refine Go.st (U' := T111.setTop (mkF m 24 #[.val (.ref a1), .val (.ref a2), .val (.ref a3), .val (.ref a4), .unset, .unset] [(.ref b111), (.ref a1)])) (fun t k => st111 _ k) ?_
  obtain ⟨T112, h112, X112, e112, W112, st112⟩ := putF X111 hx hZ hown (host := "") (Or.inl (own_w hw 17 rfl)) Via.refl e111 F_tail_111 EX_111 (Or.inr ⟨(own_w hw 18 rfl), rfl, hnm⟩) (own_w hw 3 rfl) (ty := (.array .int)) (by decide) rfl rfl (g := (mkF m 24 #[.val (.ref a1), .val (.ref a2), .val (.ref a3), .val (.ref a4), .unset, .unset] [(.ref b111), (.ref a1)])) rfl rfl (hb hby d1_24)
  have F112 := F_tail_111.same W112
  have EX_112 := EX_111.wr W112
  have F_start_112 := F_start_111.other W112 (Or.inr (slot_ne (Or.inr (own_w hw 12 rfl)) (Or.inr (own_w hw 18 rfl)) (by decide) (t := (.array .int)) (t' := (.array .int)) (by decide) (by decide)))
  have F_head_112 := F_head_111.other W112 (Or.inr (slot_ne (Or.inr (own_w hw 14 rfl)) (Or.inr (own_w hw 18 rfl)) (by decide) (t := (.array .int)) (t' := (.array .int)) (by decide) (by decide)))
  have F_mate_112 := F_mate_111.other W112 (Or.inr (slot_ne (Or.inr (own_w hw 16 rfl)) (Or.inr (own_w hw 18 rfl)) (by decide) (t := (.array .int)) (t' := (.array .int)) (by decide) (by decide)))
  have VS_112 := VS_111.other W112 n21
  have VH_112 := VH_111.other W112 n31
  have V_b111_112 := V_b111.other W112 (Ne.symm ne_a1_b111)
  have N112 := Fr.snoc X112 N109 gA
  have KK112 : Keep h0 h112 [a1] := KK111.wr W112 (Or.inl (List.mem_of_getElem? (i := 0) rfl))
  have sz112 : n0 ≤ h112.size := Nat.le_trans sz111 (Nat.le_of_eq W112.size.symm)
  refine Go.st (U' := T112.setTop (mkF m 27 #[.val (.ref a1), .val (.ref a2), .val (.ref a3), .val (.ref a4), .unset, .unset] [])) (fun t k => st112 _ k) ?_
  obtain ⟨cl113, Ar113, q113, S113, N113, H113, G113⟩ := id VS_112
  refine Go.st (U' := T112.setTop (mkF m 45 #[.val (.ref a1), .val (.ref a2), .val (.ref a3), .val (.ref a4), .val (.int (0 : Int32)), .val (.int (0 : Int32))] [])) (fun t k => ?_) ?_
  · show Steps p.tables e below (T112.setTop (mkF m 27 #[.val (.ref a1), .val (.ref a2), .val (.ref a3), .val (.ref a4), .unset, .unset] [])) _
    refine XS.iconst X112.here hx rfl (hb hby d1_27) ?_
    show Steps p.tables e below (T112.setTop (mkF m 28 #[.val (.ref a1), .val (.ref a2), .val (.ref a3), .val (.ref a4), .unset, .unset] [(.int (0 : Int32))])) _
    refine XS.istore X112.here hx rfl (hb hby d1_28) rfl (l' := #[.val (.ref a1), .val (.ref a2), .val (.ref a3), .val (.ref a4), .val (.int (0 : Int32)), .unset]) rfl ?_
    show Steps p.tables e below (T112.setTop (mkF m 30 #[.val (.ref a1), .val (.ref a2), .val (.ref a3), .val (.ref a4), .val (.int (0 : Int32)), .unset] [])) _
    refine XS.iload X112.here hx rfl (hb hby d1_30) rfl ?_
    show Steps p.tables e below (T112.setTop (mkF m 32 #[.val (.ref a1), .val (.ref a2), .val (.ref a3), .val (.ref a4), .val (.int (0 : Int32)), .unset] [(.int (0 : Int32))])) _
    refine XS.iconst X112.here hx rfl (hb hby d1_32) ?_
    show Steps p.tables e below (T112.setTop (mkF m 33 #[.val (.ref a1), .val (.ref a2), .val (.ref a3), .val (.ref a4), .val (.int (0 : Int32)), .unset] [(.int (1 : Int32)), (.int (0 : Int32))])) _
    refine XS.iadd X112.here hx rfl (hb hby d1_33) rfl ?_
    show Steps p.tables e below (T112.setTop (mkF m 34 #[.val (.ref a1), .val (.ref a2), .val (.ref a3), .val (.ref a4), .val (.int (0 : Int32)), .unset] [(.int (1 : Int32))])) _
    refine XS.aloadN X112.here hx rfl (hb hby d1_34) rfl rfl ?_
    show Steps p.tables e below (T112.setTop (mkF m 35 #[.val (.ref a1), .val (.ref a2), .val (.ref a3), .val (.ref a4), .val (.int (0 : Int32)), .unset] [(.ref a2), (.int (1 : Int32))])) _
    refine X112.arraylength hx (by rw [e112]; exact Ar113.1) (State.isArrayOf_alike hZ.alike Ar113.2.1) (g := (mkF m 35 #[.val (.ref a1), .val (.ref a2), .val (.ref a3), .val (.ref a4), .val (.int (0 : Int32)), .unset] [(.ref a2), (.int (1 : Int32))])) rfl rfl (hb hby d1_35) _ ?_
    rw [len_of S113 N113]
    show Steps p.tables e below (T112.setTop (mkF m 36 #[.val (.ref a1), .val (.ref a2), .val (.ref a3), .val (.ref a4), .val (.int (0 : Int32)), .unset] [(.int (4 : Int32)), (.int (1 : Int32))])) _
    refine XS.icmpNo X112.here hx rfl (hb hby d1_36) rfl (tlt (by decide : (1 : Int32) < (4 : Int32))).2.1 ?_
    show Steps p.tables e below (T112.setTop (mkF m 39 #[.val (.ref a1), .val (.ref a2), .val (.ref a3), .val (.ref a4), .val (.int (0 : Int32)), .unset] [])) _
    refine XS.aloadN X112.here hx rfl (hb hby d1_39) rfl rfl ?_
    show Steps p.tables e below (T112.setTop (mkF m 40 #[.val (.ref a1), .val (.ref a2), .val (.ref a3), .val (.ref a4), .val (.int (0 : Int32)), .unset] [(.ref a2)])) _
    refine XS.iload X112.here hx rfl (hb hby d1_40) rfl ?_
    show Steps p.tables e below (T112.setTop (mkF m 42 #[.val (.ref a1), .val (.ref a2), .val (.ref a3), .val (.ref a4), .val (.int (0 : Int32)), .unset] [(.int (0 : Int32)), (.ref a2)])) _
    refine X112.iaload hx (j := (0 : Int32)) (v := (.int (0 : Int32))) (by rw [e112]; exact Ar113.1) (State.isArrayOf_alike hZ.alike Ar113.2.1) Ar113.2.2 (inb_of (j := (0 : Int32)) S113 ⟨by decide, by decide⟩) (Has.at H113 (inb_of (j := (0 : Int32)) S113 ⟨by decide, by decide⟩) rfl) (g := (mkF m 42 #[.val (.ref a1), .val (.ref a2), .val (.ref a3), .val (.ref a4), .val (.int (0 : Int32)), .unset] [(.int (0 : Int32)), (.ref a2)])) rfl rfl (hb hby d1_42) _ ?_
    show Steps p.tables e below (T112.setTop (mkF m 43 #[.val (.ref a1), .val (.ref a2), .val (.ref a3), .val (.ref a4), .val (.int (0 : Int32)), .unset] [(.int (0 : Int32))])) _
    refine XS.istore X112.here hx rfl (hb hby d1_43) rfl (l' := #[.val (.ref a1), .val (.ref a2), .val (.ref a3), .val (.ref a4), .val (.int (0 : Int32)), .val (.int (0 : Int32))]) rfl ?_
    exact k
  refine loop1 a1 a2 a3 a4 b111 k2 k111 (0 : Int32) x1 x1 x2 h0 hx hZ hw hby hml hown ge_b111 sg_b111 ne_a1_b111 ne_a2_b111 (by decide) rfl (by omega) x1.toInt.toNat T112 _ h112 (0 : Int32) [0, 0, 0, 0, 0, 0] X112 e112 sz112 N112 EX_112 F_start_112 F112 VS_112 V_b111_112 KK112 (by decide) (by show (0 : Int) + _ = _; omega) rfl ?_
  intro T114 locs114 h114 X114 e114 sz114 N114 EX114 FS114 FT114 VS114 VT114 KP114
  obtain ⟨cl115, Ar115, q115, S115, N115, H115, G115⟩ := id VS114
  refine Go.st (U' := T114.setTop (mkF m 45 #[.val (.ref a1), .val (.ref a2), .val (.ref a3), .val (.ref a4), .val (.int (1 : Int32)), .val (.int x1)] [])) (fun t k => ?_) ?_
  · show Steps p.tables e below (T114.setTop (mkF m 71 #[.val (.ref a1), .val (.ref a2), .val (.ref a3), .val (.ref a4), .val (.int (0 : Int32)), .val (.int x1)] [])) _
    refine XS.iinc X114.here hx rfl (hb hby d1_71) rfl (l' := #[.val (.ref a1), .val (.ref a2), .val (.ref a3), .val (.ref a4), .val (.int (1 : Int32)), .val (.int x1)]) rfl ?_
    show Steps p.tables e below (T114.setTop (mkF m 74 #[.val (.ref a1), .val (.ref a2), .val (.ref a3), .val (.ref a4), .val (.int (1 : Int32)), .val (.int x1)] [])) _
    refine XS.goto X114.here hx rfl (pc0 := 74) (pc' := 30) rfl (hb hby d1_74) (by decide) (by decide) ?_
    show Steps p.tables e below (T114.setTop (mkF m 30 #[.val (.ref a1), .val (.ref a2), .val (.ref a3), .val (.ref a4), .val (.int (1 : Int32)), .val (.int x1)] [])) _
    refine XS.iload X114.here hx rfl (hb hby d1_30) rfl ?_
    show Steps p.tables e below (T114.setTop (mkF m 32 #[.val (.ref a1), .val (.ref a2), .val (.ref a3), .val (.ref a4), .val (.int (1 : Int32)), .val (.int x1)] [(.int (1 : Int32))])) _
    refine XS.iconst X114.here hx rfl (hb hby d1_32) ?_
    show Steps p.tables e below (T114.setTop (mkF m 33 #[.val (.ref a1), .val (.ref a2), .val (.ref a3), .val (.ref a4), .val (.int (1 : Int32)), .val (.int x1)] [(.int (1 : Int32)), (.int (1 : Int32))])) _
    refine XS.iadd X114.here hx rfl (hb hby d1_33) rfl ?_
    show Steps p.tables e below (T114.setTop (mkF m 34 #[.val (.ref a1), .val (.ref a2), .val (.ref a3), .val (.ref a4), .val (.int (1 : Int32)), .val (.int x1)] [(.int (2 : Int32))])) _
    refine XS.aloadN X114.here hx rfl (hb hby d1_34) rfl rfl ?_
    show Steps p.tables e below (T114.setTop (mkF m 35 #[.val (.ref a1), .val (.ref a2), .val (.ref a3), .val (.ref a4), .val (.int (1 : Int32)), .val (.int x1)] [(.ref a2), (.int (2 : Int32))])) _
    refine X114.arraylength hx (by rw [e114]; exact Ar115.1) (State.isArrayOf_alike hZ.alike Ar115.2.1) (g := (mkF m 35 #[.val (.ref a1), .val (.ref a2), .val (.ref a3), .val (.ref a4), .val (.int (1 : Int32)), .val (.int x1)] [(.ref a2), (.int (2 : Int32))])) rfl rfl (hb hby d1_35) _ ?_
    rw [len_of S115 N115]
    show Steps p.tables e below (T114.setTop (mkF m 36 #[.val (.ref a1), .val (.ref a2), .val (.ref a3), .val (.ref a4), .val (.int (1 : Int32)), .val (.int x1)] [(.int (4 : Int32)), (.int (2 : Int32))])) _
    refine XS.icmpNo X114.here hx rfl (hb hby d1_36) rfl (tlt (by decide : (2 : Int32) < (4 : Int32))).2.1 ?_
    show Steps p.tables e below (T114.setTop (mkF m 39 #[.val (.ref a1), .val (.ref a2), .val (.ref a3), .val (.ref a4), .val (.int (1 : Int32)), .val (.int x1)] [])) _
    refine XS.aloadN X114.here hx rfl (hb hby d1_39) rfl rfl ?_
    show Steps p.tables e below (T114.setTop (mkF m 40 #[.val (.ref a1), .val (.ref a2), .val (.ref a3), .val (.ref a4), .val (.int (1 : Int32)), .val (.int x1)] [(.ref a2)])) _
    refine XS.iload X114.here hx rfl (hb hby d1_40) rfl ?_
    show Steps p.tables e below (T114.setTop (mkF m 42 #[.val (.ref a1), .val (.ref a2), .val (.ref a3), .val (.ref a4), .val (.int (1 : Int32)), .val (.int x1)] [(.int (1 : Int32)), (.ref a2)])) _
    refine X114.iaload hx (j := (1 : Int32)) (v := (.int x1)) (by rw [e114]; exact Ar115.1) (State.isArrayOf_alike hZ.alike Ar115.2.1) Ar115.2.2 (inb_of (j := (1 : Int32)) S115 ⟨by decide, by decide⟩) (Has.at H115 (inb_of (j := (1 : Int32)) S115 ⟨by decide, by decide⟩) rfl) (g := (mkF m 42 #[.val (.ref a1), .val (.ref a2), .val (.ref a3), .val (.ref a4), .val (.int (1 : Int32)), .val (.int x1)] [(.int (1 : Int32)), (.ref a2)])) rfl rfl (hb hby d1_42) _ ?_
    show Steps p.tables e below (T114.setTop (mkF m 43 #[.val (.ref a1), .val (.ref a2), .val (.ref a3), .val (.ref a4), .val (.int (1 : Int32)), .val (.int x1)] [(.int x1)])) _
    refine XS.istore X114.here hx rfl (hb hby d1_43) rfl (l' := #[.val (.ref a1), .val (.ref a2), .val (.ref a3), .val (.ref a4), .val (.int (1 : Int32)), .val (.int x1)]) rfl ?_
    exact k
  refine loop1 a1 a2 a3 a4 b111 k2 k111 (1 : Int32) x2 x1 x2 h0 hx hZ hw hby hml hown ge_b111 sg_b111 ne_a1_b111 ne_a2_b111 (by decide) rfl h3 (x2.toInt - x1.toInt).toNat T114 _ h114 x1 (own_fill [0, 0, 0, 0, 0, 0] 0 x1.toInt.toNat 0) X114 e114 sz114 N114 EX114 FS114 FT114 VS114 VT114 KP114 h1 (by omega) (by rw [own_fill_len]; rfl) ?_
  intro T116 locs116 h116 X116 e116 sz116 N116 EX116 FS116 FT116 VS116 VT116 KP116
  obtain ⟨cl117, Ar117, q117, S117, N117, H117, G117⟩ := id VS116
  refine Go.st (U' := T116.setTop (mkF m 45 #[.val (.ref a1), .val (.ref a2), .val (.ref a3), .val (.ref a4), .val (.int (2 : Int32)), .val (.int x2)] [])) (fun t k => ?_) ?_
  · show Steps p.tables e below (T116.setTop (mkF m 71 #[.val (.ref a1), .val (.ref a2), .val (.ref a3), .val (.ref a4), .val (.int (1 : Int32)), .val (.int x2)] [])) _
    refine XS.iinc X116.here hx rfl (hb hby d1_71) rfl (l' := #[.val (.ref a1), .val (.ref a2), .val (.ref a3), .val (.ref a4), .val (.int (2 : Int32)), .val (.int x2)]) rfl ?_
    show Steps p.tables e below (T116.setTop (mkF m 74 #[.val (.ref a1), .val (.ref a2), .val (.ref a3), .val (.ref a4), .val (.int (2 : Int32)), .val (.int x2)] [])) _
    refine XS.goto X116.here hx rfl (pc0 := 74) (pc' := 30) rfl (hb hby d1_74) (by decide) (by decide) ?_
    show Steps p.tables e below (T116.setTop (mkF m 30 #[.val (.ref a1), .val (.ref a2), .val (.ref a3), .val (.ref a4), .val (.int (2 : Int32)), .val (.int x2)] [])) _
    refine XS.iload X116.here hx rfl (hb hby d1_30) rfl ?_
    show Steps p.tables e below (T116.setTop (mkF m 32 #[.val (.ref a1), .val (.ref a2), .val (.ref a3), .val (.ref a4), .val (.int (2 : Int32)), .val (.int x2)] [(.int (2 : Int32))])) _
    refine XS.iconst X116.here hx rfl (hb hby d1_32) ?_
    show Steps p.tables e below (T116.setTop (mkF m 33 #[.val (.ref a1), .val (.ref a2), .val (.ref a3), .val (.ref a4), .val (.int (2 : Int32)), .val (.int x2)] [(.int (1 : Int32)), (.int (2 : Int32))])) _
    refine XS.iadd X116.here hx rfl (hb hby d1_33) rfl ?_
    show Steps p.tables e below (T116.setTop (mkF m 34 #[.val (.ref a1), .val (.ref a2), .val (.ref a3), .val (.ref a4), .val (.int (2 : Int32)), .val (.int x2)] [(.int (3 : Int32))])) _
    refine XS.aloadN X116.here hx rfl (hb hby d1_34) rfl rfl ?_
    show Steps p.tables e below (T116.setTop (mkF m 35 #[.val (.ref a1), .val (.ref a2), .val (.ref a3), .val (.ref a4), .val (.int (2 : Int32)), .val (.int x2)] [(.ref a2), (.int (3 : Int32))])) _
    refine X116.arraylength hx (by rw [e116]; exact Ar117.1) (State.isArrayOf_alike hZ.alike Ar117.2.1) (g := (mkF m 35 #[.val (.ref a1), .val (.ref a2), .val (.ref a3), .val (.ref a4), .val (.int (2 : Int32)), .val (.int x2)] [(.ref a2), (.int (3 : Int32))])) rfl rfl (hb hby d1_35) _ ?_
    rw [len_of S117 N117]
    show Steps p.tables e below (T116.setTop (mkF m 36 #[.val (.ref a1), .val (.ref a2), .val (.ref a3), .val (.ref a4), .val (.int (2 : Int32)), .val (.int x2)] [(.int (4 : Int32)), (.int (3 : Int32))])) _
    refine XS.icmpNo X116.here hx rfl (hb hby d1_36) rfl (tlt (by decide : (3 : Int32) < (4 : Int32))).2.1 ?_
    show Steps p.tables e below (T116.setTop (mkF m 39 #[.val (.ref a1), .val (.ref a2), .val (.ref a3), .val (.ref a4), .val (.int (2 : Int32)), .val (.int x2)] [])) _
    refine XS.aloadN X116.here hx rfl (hb hby d1_39) rfl rfl ?_
    show Steps p.tables e below (T116.setTop (mkF m 40 #[.val (.ref a1), .val (.ref a2), .val (.ref a3), .val (.ref a4), .val (.int (2 : Int32)), .val (.int x2)] [(.ref a2)])) _
    refine XS.iload X116.here hx rfl (hb hby d1_40) rfl ?_
    show Steps p.tables e below (T116.setTop (mkF m 42 #[.val (.ref a1), .val (.ref a2), .val (.ref a3), .val (.ref a4), .val (.int (2 : Int32)), .val (.int x2)] [(.int (2 : Int32)), (.ref a2)])) _
    refine X116.iaload hx (j := (2 : Int32)) (v := (.int x2)) (by rw [e116]; exact Ar117.1) (State.isArrayOf_alike hZ.alike Ar117.2.1) Ar117.2.2 (inb_of (j := (2 : Int32)) S117 ⟨by decide, by decide⟩) (Has.at H117 (inb_of (j := (2 : Int32)) S117 ⟨by decide, by decide⟩) rfl) (g := (mkF m 42 #[.val (.ref a1), .val (.ref a2), .val (.ref a3), .val (.ref a4), .val (.int (2 : Int32)), .val (.int x2)] [(.int (2 : Int32)), (.ref a2)])) rfl rfl (hb hby d1_42) _ ?_
    show Steps p.tables e below (T116.setTop (mkF m 43 #[.val (.ref a1), .val (.ref a2), .val (.ref a3), .val (.ref a4), .val (.int (2 : Int32)), .val (.int x2)] [(.int x2)])) _
    refine XS.istore X116.here hx rfl (hb hby d1_43) rfl (l' := #[.val (.ref a1), .val (.ref a2), .val (.ref a3), .val (.ref a4), .val (.int (2 : Int32)), .val (.int x2)]) rfl ?_
    exact k
  refine loop1 a1 a2 a3 a4 b111 k2 k111 (2 : Int32) (6 : Int32) x1 x2 h0 hx hZ hw hby hml hown ge_b111 sg_b111 ne_a1_b111 ne_a2_b111 (by decide) rfl (by decide) ((6 : Int32).toInt - x2.toInt).toNat T116 _ h116 x2 (own_fill (own_fill [0, 0, 0, 0, 0, 0] 0 x1.toInt.toNat 0) x1.toInt.toNat (x2.toInt - x1.toInt).toNat 1) X116 e116 sz116 N116 EX116 FS116 FT116 VS116 VT116 KP116 (by omega) (by show x2.toInt + _ = (6 : Int); have q : (6 : Int32).toInt = 6 := rfl; omega) (by rw [own_fill_len, own_fill_len]; rfl) ?_
  intro T118 locs118 h118 X118 e118 sz118 N118 EX118 FS118 FT118 VS118 VT118 KP118
  obtain ⟨cl119, Ar119, q119, S119, N119, H119, G119⟩ := id VS118
  refine Go.st (U' := T118.setTop (mkF m 77 #[.val (.ref a1), .val (.ref a2), .val (.ref a3), .val (.ref a4), .val (.int (3 : Int32)), .val (.int (6 : Int32))] [])) (fun t k => ?_) ?_
  · show Steps p.tables e below (T118.setTop (mkF m 71 #[.val (.ref a1), .val (.ref a2), .val (.ref a3), .val (.ref a4), .val (.int (2 : Int32)), .val (.int (6 : Int32))] [])) _
    refine XS.iinc X118.here hx rfl (hb hby d1_71) rfl (l' := #[.val (.ref a1), .val (.ref a2), .val (.ref a3), .val (.ref a4), .val (.int (3 : Int32)), .val (.int (6 : Int32))]) rfl ?_
    show Steps p.tables e below (T118.setTop (mkF m 74 #[.val (.ref a1), .val (.ref a2), .val (.ref a3), .val (.ref a4), .val (.int (3 : Int32)), .val (.int (6 : Int32))] [])) _
    refine XS.goto X118.here hx rfl (pc0 := 74) (pc' := 30) rfl (hb hby d1_74) (by decide) (by decide) ?_
    show Steps p.tables e below (T118.setTop (mkF m 30 #[.val (.ref a1), .val (.ref a2), .val (.ref a3), .val (.ref a4), .val (.int (3 : Int32)), .val (.int (6 : Int32))] [])) _
    refine XS.iload X118.here hx rfl (hb hby d1_30) rfl ?_
    show Steps p.tables e below (T118.setTop (mkF m 32 #[.val (.ref a1), .val (.ref a2), .val (.ref a3), .val (.ref a4), .val (.int (3 : Int32)), .val (.int (6 : Int32))] [(.int (3 : Int32))])) _
    refine XS.iconst X118.here hx rfl (hb hby d1_32) ?_
    show Steps p.tables e below (T118.setTop (mkF m 33 #[.val (.ref a1), .val (.ref a2), .val (.ref a3), .val (.ref a4), .val (.int (3 : Int32)), .val (.int (6 : Int32))] [(.int (1 : Int32)), (.int (3 : Int32))])) _
    refine XS.iadd X118.here hx rfl (hb hby d1_33) rfl ?_
    show Steps p.tables e below (T118.setTop (mkF m 34 #[.val (.ref a1), .val (.ref a2), .val (.ref a3), .val (.ref a4), .val (.int (3 : Int32)), .val (.int (6 : Int32))] [(.int (4 : Int32))])) _
    refine XS.aloadN X118.here hx rfl (hb hby d1_34) rfl rfl ?_
    show Steps p.tables e below (T118.setTop (mkF m 35 #[.val (.ref a1), .val (.ref a2), .val (.ref a3), .val (.ref a4), .val (.int (3 : Int32)), .val (.int (6 : Int32))] [(.ref a2), (.int (4 : Int32))])) _
    refine X118.arraylength hx (by rw [e118]; exact Ar119.1) (State.isArrayOf_alike hZ.alike Ar119.2.1) (g := (mkF m 35 #[.val (.ref a1), .val (.ref a2), .val (.ref a3), .val (.ref a4), .val (.int (3 : Int32)), .val (.int (6 : Int32))] [(.ref a2), (.int (4 : Int32))])) rfl rfl (hb hby d1_35) _ ?_
    rw [len_of S119 N119]
    show Steps p.tables e below (T118.setTop (mkF m 36 #[.val (.ref a1), .val (.ref a2), .val (.ref a3), .val (.ref a4), .val (.int (3 : Int32)), .val (.int (6 : Int32))] [(.int (4 : Int32)), (.int (4 : Int32))])) _
    refine XS.icmpYes X118.here hx rfl (pc0 := 36) (pc' := 77) rfl (hb hby d1_36) rfl (flt (by decide : ¬ ((4 : Int32) < (4 : Int32)))).2.1 (by decide) (by decide) ?_
    exact k
  refine own_ret (Q := Q1c Z a1 a2 a3 a4 k2 k3 x1 x2 h0 n0) (v := none) X118 hlk (fun _ => rfl) (by decide) (by decide) ?_ (fun fs hr => X118.returnOut hx hrt (hb hby d1_77) hr)
  rw [e118]
  exact ⟨rfl, N118, KP118, EX118, b111, k111, ge_b111, sg_b111, FS118, FT118, VT118⟩
theorem d3_0 : decode prog_4_method_6_code 0 = .ok (.iload_n 1, 1) := by decide +kernel
theorem d3_1 : decode prog_4_method_6_code 1 = .ok (.iconst 1, 1) := by decide +kernel
theorem d3_2 : decode prog_4_method_6_code 2 = .ok (.iadd, 1) := by decide +kernel
theorem d3_3 : decode prog_4_method_6_code 3 = .ok (.aload_n 0, 1) := by decide +kernel
theorem d3_4 : decode prog_4_method_6_code 4 = .ok (.getfield 7, 3) := by decide +kernel
theorem d3_7 : decode prog_4_method_6_code 7 = .ok (.aload_n 0, 1) := by decide +kernel
theorem d3_8 : decode prog_4_method_6_code 8 = .ok (.getfield 19, 3) := by decide +kernel
theorem d3_11 : decode prog_4_method_6_code 11 = .ok (.iload_n 1, 1) := by decide +kernel
theorem d3_12 : decode prog_4_method_6_code 12 = .ok (.iaload, 1) := by decide +kernel
theorem d3_13 : decode prog_4_method_6_code 13 = .ok (.iconst 1, 1) := by decide +kernel
theorem d3_14 : decode prog_4_method_6_code 14 = .ok (.iadd, 1) := by decide +kernel
theorem d3_15 : decode prog_4_method_6_code 15 = .ok (.iaload, 1) := by decide +kernel
theorem d3_16 : decode prog_4_method_6_code 16 = .ok (.if_icmp .ge 9, 3) := by decide +kernel
theorem d3_19 : decode prog_4_method_6_code 19 = .ok (.iload_n 1, 1) := by decide +kernel
theorem d3_20 : decode prog_4_method_6_code 20 = .ok (.iconst 1, 1) := by decide +kernel
theorem d3_21 : decode prog_4_method_6_code 21 = .ok (.iadd, 1) := by decide +kernel
theorem d3_22 : decode prog_4_method_6_code 22 = .ok (.goto 14, 3) := by decide +kernel
theorem d3_25 : decode prog_4_method_6_code 25 = .ok (.aload_n 0, 1) := by decide +kernel
theorem d3_26 : decode prog_4_method_6_code 26 = .ok (.getfield 7, 3) := by decide +kernel
theorem d3_29 : decode prog_4_method_6_code 29 = .ok (.aload_n 0, 1) := by decide +kernel
theorem d3_30 : decode prog_4_method_6_code 30 = .ok (.getfield 19, 3) := by decide +kernel
theorem d3_33 : decode prog_4_method_6_code 33 = .ok (.iload_n 1, 1) := by decide +kernel
theorem d3_34 : decode prog_4_method_6_code 34 = .ok (.iaload, 1) := by decide +kernel
theorem d3_35 : decode prog_4_method_6_code 35 = .ok (.iaload, 1) := by decide +kernel
theorem d3_36 : decode prog_4_method_6_code 36 = .ok (.ireturn, 1) := by decide +kernel
theorem ef2 (m : MethodId) (a1 : Addr) (p2 : Int32) : entryFrame m #[(.ref a1), (.int p2)] 2 = mkF m 0 #[.val (.ref a1), .val (.int p2)] [] := by first | (simp [entryFrame, mkF, argsToLocals, Value.category]; done) | rfl
abbrev own_R0_0_0_0 : Room := { frames := 0, cells := 0, slots := 0, locals := 0 }
def f2 (y0 : Int32) (y1 : Int32) (y2 : Int32) (y3 : Int32) (Lt : List Int32) (p2 : Int32) : Int32 := (if (p2 + (1 : Int32)) < (([y0, y1, y2, y3] : List Int32).getD (((Lt.getD (p2).toNatClampNeg (0 : Int32)) + (1 : Int32))).toNatClampNeg (0 : Int32)) then (p2 + (1 : Int32)) else (([y0, y1, y2, y3] : List Int32).getD ((Lt.getD (p2).toNatClampNeg (0 : Int32))).toNatClampNeg (0 : Int32)))
def Q2 (Z : State) (a1 : Addr) (p2 : Int32) (a2 : Addr) (b : Addr) (k2 : ClassId) (kb : ClassId) (y0 : Int32) (y1 : Int32) (y2 : Int32) (y3 : Int32) (Lt : List Int32) (h0 : Heap) (n0 : Nat) (v : Option Value) (h : Heap) (L : List Loc) : Prop := v = some (.int (f2 y0 y1 y2 y3 Lt p2)) ∧ Fr n0 L ∧ h = h0
set_option maxRecDepth 65536 in
set_option maxHeartbeats 40000000 in
theorem rm2 (l : Launch) (Z : State) (a0 : Array Value) (hw : ∀ d ∈ tables_1, d.before a0 Z = true) (ws : List Jvm.Cond) (a1 : Addr) (p2 : Int32) (a2 : Addr) (b : Addr) (k2 : ClassId) (kb : ClassId) (y0 : Int32) (y1 : Int32) (y2 : Int32) (y3 : Int32) (Lt : List Int32) (h0 : Heap) (n0 : Nat) (Z0 : n0 ≤ h0.size) (FS : Fld Z h0 a1 "com/example/wdth/wdth/PlanarEmbedding" "start" "[I" (.ref a2)) (FT : Fld Z h0 a1 "com/example/wdth/wdth/PlanarEmbedding" "tail" "[I" (.ref b)) (VS : Arv Z h0 a2 k2 .int (4 : Int32) [(.int y0), (.int y1), (.int y2), (.int y3)] (.int (0 : Int32))) (VT : Arv Z h0 b kb .int (6 : Int32) (List.map Value.int Lt) (.int (0 : Int32))) (hT : ¬ p2 < 0 ∧ p2 < (6 : Int32)) (hU : ¬ ((Lt.getD (p2).toNatClampNeg (0 : Int32)) + (1 : Int32)) < 0 ∧ ((Lt.getD (p2).toNatClampNeg (0 : Int32)) + (1 : Int32)) < (4 : Int32)) (hU0 : ¬ (Lt.getD (p2).toNatClampNeg (0 : Int32)) < 0 ∧ (Lt.getD (p2).toNatClampNeg (0 : Int32)) < (4 : Int32)) :
    MetFree l own_y1 (head1 (Jvm.Cond.code own_y1 prog_4_method_6_code 2 (some .int) :: ws) own_R0_0_0_0) (fun a U => a = #[(.ref a1), (.int p2)] ∧ Z.Warmed39 U.vm ∧ U.heap = h0) (fun _ _ _ _ _ => True) (fun _ U o U' => ∃ v L, o = .returned v ∧ Q2 Z a1 p2 a2 b k2 kb y0 y1 y2 y3 Lt h0 n0 v U'.heap L ∧ FrameEnd U o U' L (own_R0_0_0_0).cells (own_R0_0_0_0).slots) := by
  refine MetFree.of_bodySF (plainFor_of_name pn_0) hisR ?_
  intro p e s m args below meth c s₁ Bd hml0 hP hK
  obtain ⟨rfl, hZ, hh⟩ := hP
  have hx := Bd.exec
  have hby := Bd.bytes
  have hml : c.maxLocals = 2 := hml0
  have hown : s.vm.findClass "com/example/wdth/wdth/PlanarEmbedding" = some m.cls := findClass_of_methodNamed Bd.named
  have hnm := (name_of_methodNamed Bd.named Bd.method).1
  have hlk : meth.locks = false := BodyLoose.notSynchronized Bd
  have hrt := Bd.returns
  have X0 : Stand p l e own_R0_0_0_0 s m #[(.ref a1), (.int p2)] below meth c s₁ [] 0 0 := Stand.of_body Bd
  have e0 : s₁.heap = h0 := by rw [← hh, Bd.state]; rfl
  have N0 := Fr.nil n0
  refine (show Go p e below (fun s₂ o => ∃ v L, o = .returned v ∧ Q2 Z a1 p2 a2 b k2 kb y0 y1 y2 y3 Lt h0 n0 v s₂.heap L ∧ FrameEnd s o s₂ L 0 0) (s₁.setTop (entryFrame m #[(.ref a1), (.int p2)] 2)) from ?_)
  rw [ef2]
  refine Go.st (U' := s₁.setTop (mkF m 4 #[.val (.ref a1), .val (.int p2)] [(.ref a1), (.int (p2 + (1 : Int32)))])) (fun t k => ?_) ?_
  · show Steps p.tables e below (s₁.setTop (mkF m 0 #[.val (.ref a1), .val (.int p2)] [])) _
    refine XS.iloadN X0.here hx rfl (hb hby d3_0) rfl ?_
    show Steps p.tables e below (s₁.setTop (mkF m 1 #[.val (.ref a1), .val (.int p2)] [(.int p2)])) _
    refine XS.iconst X0.here hx rfl (hb hby d3_1) ?_
    show Steps p.tables e below (s₁.setTop (mkF m 2 #[.val (.ref a1), .val (.int p2)] [(.int (1 : Int32)), (.int p2)])) _
    refine XS.iadd X0.here hx rfl (hb hby d3_2) rfl ?_
    show Steps p.tables e below (s₁.setTop (mkF m 3 #[.val (.ref a1), .val (.int p2)] [(.int (p2 + (1 : Int32)))])) _
    refine XS.aloadN X0.here hx rfl (hb hby d3_3) rfl rfl ?_
    exact k
  obtain ⟨T120, X120, e120, st120⟩ := getF X0 hx hZ hown (host := "") (Or.inl (own_w hw 11 rfl)) Via.refl e0 FS (g := (mkF m 4 #[.val (.ref a1), .val (.int p2)] [(.ref a1), (.int (p2 + (1 : Int32)))])) rfl rfl (hb hby d3_4)
  refine Go.st (U' := T120.setTop (mkF m 7 #[.val (.ref a1), .val (.int p2)] [(.ref a2), (.int (p2 + (1 : Int32)))])) (fun t k => st120 _ k) ?_
  refine Go.st (U' := T120.setTop (mkF m 8 #[.val (.ref a1), .val (.int p2)] [(.ref a1), (.ref a2), (.int (p2 + (1 : Int32)))])) (fun t k => ?_) ?_
  · show Steps p.tables e below (T120.setTop (mkF m 7 #[.val (.ref a1), .val (.int p2)] [(.ref a2), (.int (p2 + (1 : Int32)))])) _
    refine XS.aloadN X120.here hx rfl (hb hby d3_7) rfl rfl ?_
    exact k
  obtain ⟨T121, X121, e121, st121⟩ := getF X120 hx hZ hown (host := "") (Or.inl (own_w hw 17 rfl)) Via.refl e120 FT (g := (mkF m 8 #[.val (.ref a1), .val (.int p2)] [(.ref a1), (.ref a2), (.int (p2 + (1 : Int32)))])) rfl rfl (hb hby d3_8)
  refine Go.st (U' := T121.setTop (mkF m 11 #[.val (.ref a1), .val (.int p2)] [(.ref b), (.ref a2), (.int (p2 + (1 : Int32)))])) (fun t k => st121 _ k) ?_
  obtain ⟨cl122, Ar122, q122, S122, N122, H122, G122⟩ := id VT
  obtain ⟨cl123, Ar123, q123, S123, N123, H123, G123⟩ := id VS
  refine Go.st (U' := T121.setTop (mkF m 16 #[.val (.ref a1), .val (.int p2)] [(.int (([y0, y1, y2, y3] : List Int32).getD (((Lt.getD (p2).toNatClampNeg (0 : Int32)) + (1 : Int32))).toNatClampNeg (0 : Int32))), (.int (p2 + (1 : Int32)))])) (fun t k => ?_) ?_
  · show Steps p.tables e below (T121.setTop (mkF m 11 #[.val (.ref a1), .val (.int p2)] [(.ref b), (.ref a2), (.int (p2 + (1 : Int32)))])) _
    refine XS.iloadN X121.here hx rfl (hb hby d3_11) rfl ?_
    show Steps p.tables e below (T121.setTop (mkF m 12 #[.val (.ref a1), .val (.int p2)] [(.int p2), (.ref b), (.ref a2), (.int (p2 + (1 : Int32)))])) _
    refine X121.iaload hx (j := p2) (v := (.int (Lt.getD (p2).toNatClampNeg (0 : Int32)))) (by rw [e121]; exact Ar122.1) (State.isArrayOf_alike hZ.alike Ar122.2.1) Ar122.2.2 (inb_of (j := p2) S122 hT) (Has.at H122 (inb_of (j := p2) S122 hT) (own_getI Lt _)) (g := (mkF m 12 #[.val (.ref a1), .val (.int p2)] [(.int p2), (.ref b), (.ref a2), (.int (p2 + (1 : Int32)))])) rfl rfl (hb hby d3_12) _ ?_
    show Steps p.tables e below (T121.setTop (mkF m 13 #[.val (.ref a1), .val (.int p2)] [(.int (Lt.getD (p2).toNatClampNeg (0 : Int32))), (.ref a2), (.int (p2 + (1 : Int32)))])) _
    refine XS.iconst X121.here hx rfl (hb hby d3_13) ?_
    show Steps p.tables e below (T121.setTop (mkF m 14 #[.val (.ref a1), .val (.int p2)] [(.int (1 : Int32)), (.int (Lt.getD (p2).toNatClampNeg (0 : Int32))), (.ref a2), (.int (p2 + (1 : Int32)))])) _
    refine XS.iadd X121.here hx rfl (hb hby d3_14) rfl ?_
    show Steps p.tables e below (T121.setTop (mkF m 15 #[.val (.ref a1), .val (.int p2)] [(.int ((Lt.getD (p2).toNatClampNeg (0 : Int32)) + (1 : Int32))), (.ref a2), (.int (p2 + (1 : Int32)))])) _
    refine X121.iaload hx (j := ((Lt.getD (p2).toNatClampNeg (0 : Int32)) + (1 : Int32))) (v := (.int (([y0, y1, y2, y3] : List Int32).getD (((Lt.getD (p2).toNatClampNeg (0 : Int32)) + (1 : Int32))).toNatClampNeg (0 : Int32)))) (by rw [e121]; exact Ar123.1) (State.isArrayOf_alike hZ.alike Ar123.2.1) Ar123.2.2 (inb_of (j := ((Lt.getD (p2).toNatClampNeg (0 : Int32)) + (1 : Int32))) S123 hU) (Has.at H123 (inb_of (j := ((Lt.getD (p2).toNatClampNeg (0 : Int32)) + (1 : Int32))) S123 hU) (own_getI [y0, y1, y2, y3] _)) (g := (mkF m 15 #[.val (.ref a1), .val (.int p2)] [(.int ((Lt.getD (p2).toNatClampNeg (0 : Int32)) + (1 : Int32))), (.ref a2), (.int (p2 + (1 : Int32)))])) rfl rfl (hb hby d3_15) _ ?_
    exact k
  by_cases hc124 : (p2 + (1 : Int32)) < (([y0, y1, y2, y3] : List Int32).getD (((Lt.getD (p2).toNatClampNeg (0 : Int32)) + (1 : Int32))).toNatClampNeg (0 : Int32))
  · refine Go.st (U' := T121.setTop (mkF m 36 #[.val (.ref a1), .val (.int p2)] [(.int (p2 + (1 : Int32)))])) (fun t k => ?_) ?_
    · show Steps p.tables e below (T121.setTop (mkF m 16 #[.val (.ref a1), .val (.int p2)] [(.int (([y0, y1, y2, y3] : List Int32).getD (((Lt.getD (p2).toNatClampNeg (0 : Int32)) + (1 : Int32))).toNatClampNeg (0 : Int32))), (.int (p2 + (1 : Int32)))])) _
      refine XS.icmpNo X121.here hx rfl (hb hby d3_16) rfl (tlt hc124).2.1 ?_
      show Steps p.tables e below (T121.setTop (mkF m 19 #[.val (.ref a1), .val (.int p2)] [])) _
      refine XS.iloadN X121.here hx rfl (hb hby d3_19) rfl ?_
      show Steps p.tables e below (T121.setTop (mkF m 20 #[.val (.ref a1), .val (.int p2)] [(.int p2)])) _
      refine XS.iconst X121.here hx rfl (hb hby d3_20) ?_
      show Steps p.tables e below (T121.setTop (mkF m 21 #[.val (.ref a1), .val (.int p2)] [(.int (1 : Int32)), (.int p2)])) _
      refine XS.iadd X121.here hx rfl (hb hby d3_21) rfl ?_
      show Steps p.tables e below (T121.setTop (mkF m 22 #[.val (.ref a1), .val (.int p2)] [(.int (p2 + (1 : Int32)))])) _
      refine XS.goto X121.here hx rfl (pc0 := 22) (pc' := 36) rfl (hb hby d3_22) (by decide) (by decide) ?_
      exact k
    refine own_ret (Q := Q2 Z a1 p2 a2 b k2 kb y0 y1 y2 y3 Lt h0 n0) (v := some (.int (p2 + (1 : Int32)))) X121 hlk (fun h => by rw [hrt] at h; cases h) (by decide) (by decide) ?_ (fun fs hr => retOut X121 hx (t := .int) hrt rfl (Or.inl ⟨rfl, Or.inl rfl, _, rfl⟩) (hb hby d3_36) hr)
    rw [e121]
    exact ⟨(by first | rfl | simp only [f2, if_pos hc124]), N0, rfl⟩
  · refine Go.st (U' := T121.setTop (mkF m 26 #[.val (.ref a1), .val (.int p2)] [(.ref a1)])) (fun t k => ?_) ?_
    · show Steps p.tables e below (T121.setTop (mkF m 16 #[.val (.ref a1), .val (.int p2)] [(.int (([y0, y1, y2, y3] : List Int32).getD (((Lt.getD (p2).toNatClampNeg (0 : Int32)) + (1 : Int32))).toNatClampNeg (0 : Int32))), (.int (p2 + (1 : Int32)))])) _
      refine XS.icmpYes X121.here hx rfl (pc0 := 16) (pc' := 25) rfl (hb hby d3_16) rfl (flt hc124).2.1 (by decide) (by decide) ?_
      show Steps p.tables e below (T121.setTop (mkF m 25 #[.val (.ref a1), .val (.int p2)] [])) _
      refine XS.aloadN X121.here hx rfl (hb hby d3_25) rfl rfl ?_
      exact k
    obtain ⟨T125, X125, e125, st125⟩ := getF X121 hx hZ hown (host := "") (Or.inl (own_w hw 11 rfl)) Via.refl e121 FS (g := (mkF m 26 #[.val (.ref a1), .val (.int p2)] [(.ref a1)])) rfl rfl (hb hby d3_26)
    refine Go.st (U' := T125.setTop (mkF m 29 #[.val (.ref a1), .val (.int p2)] [(.ref a2)])) (fun t k => st125 _ k) ?_
    refine Go.st (U' := T125.setTop (mkF m 30 #[.val (.ref a1), .val (.int p2)] [(.ref a1), (.ref a2)])) (fun t k => ?_) ?_
    · show Steps p.tables e below (T125.setTop (mkF m 29 #[.val (.ref a1), .val (.int p2)] [(.ref a2)])) _
      refine XS.aloadN X125.here hx rfl (hb hby d3_29) rfl rfl ?_
      exact k
    obtain ⟨T126, X126, e126, st126⟩ := getF X125 hx hZ hown (host := "") (Or.inl (own_w hw 17 rfl)) Via.refl e125 FT (g := (mkF m 30 #[.val (.ref a1), .val (.int p2)] [(.ref a1), (.ref a2)])) rfl rfl (hb hby d3_30)
    refine Go.st (U' := T126.setTop (mkF m 33 #[.val (.ref a1), .val (.int p2)] [(.ref b), (.ref a2)])) (fun t k => st126 _ k) ?_
    refine Go.st (U' := T126.setTop (mkF m 36 #[.val (.ref a1), .val (.int p2)] [(.int (([y0, y1, y2, y3] : List Int32).getD ((Lt.getD (p2).toNatClampNeg (0 : Int32))).toNatClampNeg (0 : Int32)))])) (fun t k => ?_) ?_
    · show Steps p.tables e below (T126.setTop (mkF m 33 #[.val (.ref a1), .val (.int p2)] [(.ref b), (.ref a2)])) _
      refine XS.iloadN X126.here hx rfl (hb hby d3_33) rfl ?_
      show Steps p.tables e below (T126.setTop (mkF m 34 #[.val (.ref a1), .val (.int p2)] [(.int p2), (.ref b), (.ref a2)])) _
      refine X126.iaload hx (j := p2) (v := (.int (Lt.getD (p2).toNatClampNeg (0 : Int32)))) (by rw [e126]; exact Ar122.1) (State.isArrayOf_alike hZ.alike Ar122.2.1) Ar122.2.2 (inb_of (j := p2) S122 hT) (Has.at H122 (inb_of (j := p2) S122 hT) (own_getI Lt _)) (g := (mkF m 34 #[.val (.ref a1), .val (.int p2)] [(.int p2), (.ref b), (.ref a2)])) rfl rfl (hb hby d3_34) _ ?_
      show Steps p.tables e below (T126.setTop (mkF m 35 #[.val (.ref a1), .val (.int p2)] [(.int (Lt.getD (p2).toNatClampNeg (0 : Int32))), (.ref a2)])) _
      refine X126.iaload hx (j := (Lt.getD (p2).toNatClampNeg (0 : Int32))) (v := (.int (([y0, y1, y2, y3] : List Int32).getD ((Lt.getD (p2).toNatClampNeg (0 : Int32))).toNatClampNeg (0 : Int32)))) (by rw [e126]; exact Ar123.1) (State.isArrayOf_alike hZ.alike Ar123.2.1) Ar123.2.2 (inb_of (j := (Lt.getD (p2).toNatClampNeg (0 : Int32))) S123 hU0) (Has.at H123 (inb_of (j := (Lt.getD (p2).toNatClampNeg (0 : Int32))) S123 hU0) (own_getI [y0, y1, y2, y3] _)) (g := (mkF m 35 #[.val (.ref a1), .val (.int p2)] [(.int (Lt.getD (p2).toNatClampNeg (0 : Int32))), (.ref a2)])) rfl rfl (hb hby d3_35) _ ?_
      exact k
    refine own_ret (Q := Q2 Z a1 p2 a2 b k2 kb y0 y1 y2 y3 Lt h0 n0) (v := some (.int (([y0, y1, y2, y3] : List Int32).getD ((Lt.getD (p2).toNatClampNeg (0 : Int32))).toNatClampNeg (0 : Int32)))) X126 hlk (fun h => by rw [hrt] at h; cases h) (by decide) (by decide) ?_ (fun fs hr => retOut X126 hx (t := .int) hrt rfl (Or.inl ⟨rfl, Or.inl rfl, _, rfl⟩) (hb hby d3_36) hr)
    rw [e126]
    exact ⟨(by first | rfl | simp only [f2, if_neg hc124]), N0, rfl⟩
theorem own_a (p a : Int32) (h : ((p &&& (2147483647 : Int32)) % (7 : Int32)) = a) : 0 ≤ a.toInt ∧ a.toInt ≤ 6 := by
  have h1 := c_mask p 2147483647 31 (by decide) (by decide)
  have h2 := (c_irem (p &&& 2147483647) 7 7 (by decide)).1 (by omega)
  rw [h] at h2
  omega
theorem own_7 (p a : Int32) (h : ((p &&& (2147483647 : Int32)) % (7 : Int32)) = a) : ((7 : Int32) - a).toInt = 7 - a.toInt := by
  have h1 := own_a p a h
  have h2 := c_isub 7 a
  have r := rng32 (7 - a)
  have k : (7 : Int32).toInt = 7 := rfl
  rw [k] at h2
  omega
theorem own_nz (p a : Int32) (h : ((p &&& (2147483647 : Int32)) % (7 : Int32)) = a) : ¬ ((7 : Int32) - a) = (0 : Int32) := fun q => by
  have h1 := own_a p a h
  have h2 := own_7 p a h
  rw [q] at h2
  have k : (0 : Int32).toInt = 0 := rfl
  omega
theorem own_b (p q a b : Int32) (ha : ((p &&& (2147483647 : Int32)) % (7 : Int32)) = a) (hb : ((q &&& (2147483647 : Int32)) % ((7 : Int32) - a)) = b) : 0 ≤ b.toInt ∧ a.toInt + b.toInt ≤ 6 := by
  have h1 := own_a p a ha
  have h2 := own_7 p a ha
  have h3 := c_mask q 2147483647 31 (by decide) (by decide)
  have h4 := (c_iremV (q &&& 2147483647) ((7 : Int32) - a)).1 (by omega) (by omega)
  rw [hb] at h4
  omega
theorem own_ab (p q a b : Int32) (ha : ((p &&& (2147483647 : Int32)) % (7 : Int32)) = a) (hb : ((q &&& (2147483647 : Int32)) % ((7 : Int32) - a)) = b) : 0 ≤ a.toInt ∧ a.toInt ≤ (a + b).toInt ∧ (a + b).toInt ≤ 6 := by
  have h1 := own_a p a ha
  have h2 := own_b p q a b ha hb
  have h3 := c_iadd a b
  have r := rng32 (a + b)
  omega
def own_chk (a b t : Int32) : Bool :=
  let c := ((6 : Int32) - a) - b
  let bs : Int32 := if t < a then 0 else if t < (a + b) then a else (a + b)
  let dg : Int32 := if t < a then a else if t < (a + b) then b else c
  let L := own_tail a (a + b)
  let u := L.getD t.toNatClampNeg 0
  decide (¬ dg = 0) && decide (¬ t < 0 ∧ t < (6 : Int32)) && decide (¬ (u + 1) < 0 ∧ (u + 1) < (4 : Int32)) && decide (¬ u < 0 ∧ u < (4 : Int32)) && decide (f2 0 a (a + b) 6 L t = bs + ((t - bs) + 1) % dg)
theorem own_all : ∀ na : Fin 7, ∀ nb : Fin 7, ∀ nt : Fin 6, na.val + nb.val ≤ 6 → own_chk (Int32.ofNat na.val) (Int32.ofNat nb.val) (Int32.ofNat nt.val) = true := by decide +kernel
theorem own_of (a : Int32) (n : Nat) (h : 0 ≤ a.toInt) (hn : a.toInt < n) : ∃ k : Fin n, a = Int32.ofNat k.val ∧ (k.val : Int) = a.toInt := by
  have r2 := a.toInt_lt
  refine ⟨⟨a.toInt.toNat, by omega⟩, ?_, Int.toNat_of_nonneg h⟩
  apply Int32.toInt_inj.mp
  have e : (Int32.ofNat a.toInt.toNat).toInt = ((a.toInt.toNat : Nat) : Int) := Int32.toInt_ofNat_of_lt (by omega)
  exact (Int.toNat_of_nonneg h).symm.trans e.symm
theorem own_fin (p0 p1 p2 a b c t bs dg : Int32) (ha : ((p0 &&& (2147483647 : Int32)) % (7 : Int32)) = a) (hb : ((p1 &&& (2147483647 : Int32)) % ((7 : Int32) - a)) = b) (hc : (((6 : Int32) - a) - b) = c) (ht : ((p2 &&& (2147483647 : Int32)) % (6 : Int32)) = t)
    (hbs : bs = (if t < a then (0 : Int32) else (if t < (a + b) then a else (a + b)))) (hdg : dg = (if t < a then a else (if t < (a + b) then b else c))) :
    ¬ dg = (0 : Int32) ∧ (¬ t < 0 ∧ t < (6 : Int32)) ∧ (¬ (((own_tail a (a + b)).getD (t).toNatClampNeg (0 : Int32)) + (1 : Int32)) < 0 ∧ (((own_tail a (a + b)).getD (t).toNatClampNeg (0 : Int32)) + (1 : Int32)) < (4 : Int32)) ∧ (¬ ((own_tail a (a + b)).getD (t).toNatClampNeg (0 : Int32)) < 0 ∧ ((own_tail a (a + b)).getD (t).toNatClampNeg (0 : Int32)) < (4 : Int32)) ∧ (f2 (0 : Int32) a (a + b) (6 : Int32) (own_tail a (a + b)) t) = (bs + (((t - bs) + (1 : Int32)) % dg)) := by
  have h1 := own_a p0 a ha
  have h2 := own_b p0 p1 a b ha hb
  have h3 : 0 ≤ t.toInt ∧ t.toInt < 6 := by
    have q1 := c_mask p2 2147483647 31 (by decide) (by decide)
    have q2 := (c_irem (p2 &&& 2147483647) 6 6 (by decide)).1 (by omega)
    rw [ht] at q2
    omega
  obtain ⟨na, ea, va⟩ := own_of a 7 h1.1 (by omega)
  obtain ⟨nb, eb, vb⟩ := own_of b 7 h2.1 (by omega)
  obtain ⟨nt, et, vt⟩ := own_of t 6 h3.1 (by omega)
  have key := own_all na nb nt (by omega)
  rw [← ea, ← eb, ← et] at key
  simp only [own_chk, Bool.and_eq_true, decide_eq_true_eq] at key
  rw [hc, ← hbs, ← hdg] at key
  exact ⟨key.1.1.1.1, key.1.1.1.2, key.1.1.2, key.1.2, key.2⟩
theorem pd_0 : parseMethodDescriptor "([I[I[I)V" = some ⟨[(.array .int), (.array .int), (.array .int)], none⟩ := by decide +kernel
theorem pd_1 : parseMethodDescriptor "(I)I" = some ⟨[.int], some .int⟩ := by decide +kernel
theorem pn_1 : plainName "com/example/wdth/wdth/PlanarEmbeddingClockwisePinLaw" = true := by first | (simp [plainName, overriddenIn]; done) | decide +kernel
theorem ef0 (m : MethodId) (p0 : Int32) (p1 : Int32) (p2 : Int32) : entryFrame m #[(.int p0), (.int p1), (.int p2)] maxLocals = mkF m 0 #[.val (.int p0), .val (.int p1), .val (.int p2), .unset, .unset, .unset, .unset, .unset, .unset, .unset, .unset, .unset, .unset, .unset] [] := by first | (simp [entryFrame, mkF, argsToLocals, Value.category, maxLocals]; done) | rfl
def Q0 (Z : State) (p0 : Int32) (p1 : Int32) (p2 : Int32) (h0 : Heap) (n0 : Nat) (v : Option Value) (h : Heap) (L : List Loc) : Prop := v = some (.int 1) ∧ Fr n0 L
set_option maxRecDepth 65536 in
set_option maxHeartbeats 40000000 in
theorem rm0 (l : Launch) (Z : State) (a0 : Array Value) (hw : ∀ d ∈ tables_1, d.before a0 Z = true) (ws : List Jvm.Cond) (p0 : Int32) (p1 : Int32) (p2 : Int32) (h0 : Heap) (n0 : Nat) (Z0 : n0 ≤ h0.size) :
    MetFree l x (head1 (Jvm.Cond.code x code maxLocals ret :: ws) room_1) (fun a U => a = #[(.int p0), (.int p1), (.int p2)] ∧ Z.Warmed39 U.vm ∧ U.heap = h0) (fun _ _ _ _ _ => True) (fun _ U o U' => ∃ v L, o = .returned v ∧ Q0 Z p0 p1 p2 h0 n0 v U'.heap L ∧ FrameEnd U o U' L 24 128) := by
  refine MetFree.of_bodySF (plainFor_of_name pn_1) hisR ?_
  intro p e s m args below meth c s₁ Bd hml0 hP hK
  obtain ⟨rfl, hZ, hh⟩ := hP
  have hx := Bd.exec
  have hby := Bd.bytes
  have hml : c.maxLocals = 14 := hml0
  have hown : s.vm.findClass "com/example/wdth/wdth/PlanarEmbeddingClockwisePinLaw" = some m.cls := findClass_of_methodNamed Bd.named
  have hnm := (name_of_methodNamed Bd.named Bd.method).1
  have hlk : meth.locks = false := BodyLoose.notSynchronized Bd
  have hrt := Bd.returns
  have X0 : Stand p l e room_1 s m #[(.int p0), (.int p1), (.int p2)] below meth c s₁ [] 0 0 := Stand.of_body Bd
  have e0 : s₁.heap = h0 := by rw [← hh, Bd.state]; rfl
  have N0 := Fr.nil n0
  refine (show Go p e below (fun s₂ o => ∃ v L, o = .returned v ∧ Q0 Z p0 p1 p2 h0 n0 v s₂.heap L ∧ FrameEnd s o s₂ L 24 128) (s₁.setTop (entryFrame m #[(.int p0), (.int p1), (.int p2)] maxLocals)) from ?_)
  rw [ef0]
  refine Go.st (U' := s₁.setTop (mkF m 8 #[.val (.int p0), .val (.int p1), .val (.int p2), .val (.int ((p0 &&& (2147483647 : Int32)) % (7 : Int32))), .unset, .unset, .unset, .unset, .unset, .unset, .unset, .unset, .unset, .unset] [])) (fun t k => ?_) ?_
  · show Steps p.tables e below (s₁.setTop (mkF m 0 #[.val (.int p0), .val (.int p1), .val (.int p2), .unset, .unset, .unset, .unset, .unset, .unset, .unset, .unset, .unset, .unset, .unset] [])) _
    refine XS.iloadN X0.here hx rfl (hb hby at_0) rfl ?_
    show Steps p.tables e below (s₁.setTop (mkF m 1 #[.val (.int p0), .val (.int p1), .val (.int p2), .unset, .unset, .unset, .unset, .unset, .unset, .unset, .unset, .unset, .unset, .unset] [(.int p0)])) _
    refine X0.ldcInt hx hown (mvT hZ (own_w hw 0 rfl)) (g := (mkF m 1 #[.val (.int p0), .val (.int p1), .val (.int p2), .unset, .unset, .unset, .unset, .unset, .unset, .unset, .unset, .unset, .unset, .unset] [(.int p0)])) rfl (hb hby at_1) _ ?_
    show Steps p.tables e below (s₁.setTop (mkF m 3 #[.val (.int p0), .val (.int p1), .val (.int p2), .unset, .unset, .unset, .unset, .unset, .unset, .unset, .unset, .unset, .unset, .unset] [(.int (2147483647 : Int32)), (.int p0)])) _
    refine XS.iand X0.here hx rfl (hb hby at_3) rfl ?_
    show Steps p.tables e below (s₁.setTop (mkF m 4 #[.val (.int p0), .val (.int p1), .val (.int p2), .unset, .unset, .unset, .unset, .unset, .unset, .unset, .unset, .unset, .unset, .unset] [(.int (p0 &&& (2147483647 : Int32)))])) _
    refine XS.bipush X0.here hx rfl (hb hby at_4) ?_
    show Steps p.tables e below (s₁.setTop (mkF m 6 #[.val (.int p0), .val (.int p1), .val (.int p2), .unset, .unset, .unset, .unset, .unset, .unset, .unset, .unset, .unset, .unset, .unset] [(.int (7 : Int32)), (.int (p0 &&& (2147483647 : Int32)))])) _
    refine iremM X0 hx rfl (hb hby at_6) rfl (by decide) ?_
    show Steps p.tables e below (s₁.setTop (mkF m 7 #[.val (.int p0), .val (.int p1), .val (.int p2), .unset, .unset, .unset, .unset, .unset, .unset, .unset, .unset, .unset, .unset, .unset] [(.int ((p0 &&& (2147483647 : Int32)) % (7 : Int32)))])) _
    refine XS.istoreN X0.here hx rfl (hb hby at_7) rfl (l' := #[.val (.int p0), .val (.int p1), .val (.int p2), .val (.int ((p0 &&& (2147483647 : Int32)) % (7 : Int32))), .unset, .unset, .unset, .unset, .unset, .unset, .unset, .unset, .unset, .unset]) rfl ?_
    exact k
  generalize hv_v127 : ((p0 &&& (2147483647 : Int32)) % (7 : Int32)) = v127
  refine Go.st (U' := s₁.setTop (mkF m 19 #[.val (.int p0), .val (.int p1), .val (.int p2), .val (.int v127), .val (.int ((p1 &&& (2147483647 : Int32)) % ((7 : Int32) - v127))), .unset, .unset, .unset, .unset, .unset, .unset, .unset, .unset, .unset] [])) (fun t k => ?_) ?_
  · show Steps p.tables e below (s₁.setTop (mkF m 8 #[.val (.int p0), .val (.int p1), .val (.int p2), .val (.int v127), .unset, .unset, .unset, .unset, .unset, .unset, .unset, .unset, .unset, .unset] [])) _
    refine XS.iloadN X0.here hx rfl (hb hby at_8) rfl ?_
    show Steps p.tables e below (s₁.setTop (mkF m 9 #[.val (.int p0), .val (.int p1), .val (.int p2), .val (.int v127), .unset, .unset, .unset, .unset, .unset, .unset, .unset, .unset, .unset, .unset] [(.int p1)])) _
    refine X0.ldcInt hx hown (mvT hZ (own_w hw 0 rfl)) (g := (mkF m 9 #[.val (.int p0), .val (.int p1), .val (.int p2), .val (.int v127), .unset, .unset, .unset, .unset, .unset, .unset, .unset, .unset, .unset, .unset] [(.int p1)])) rfl (hb hby at_9) _ ?_
    show Steps p.tables e below (s₁.setTop (mkF m 11 #[.val (.int p0), .val (.int p1), .val (.int p2), .val (.int v127), .unset, .unset, .unset, .unset, .unset, .unset, .unset, .unset, .unset, .unset] [(.int (2147483647 : Int32)), (.int p1)])) _
    refine XS.iand X0.here hx rfl (hb hby at_11) rfl ?_
    show Steps p.tables e below (s₁.setTop (mkF m 12 #[.val (.int p0), .val (.int p1), .val (.int p2), .val (.int v127), .unset, .unset, .unset, .unset, .unset, .unset, .unset, .unset, .unset, .unset] [(.int (p1 &&& (2147483647 : Int32)))])) _
    refine XS.bipush X0.here hx rfl (hb hby at_12) ?_
    show Steps p.tables e below (s₁.setTop (mkF m 14 #[.val (.int p0), .val (.int p1), .val (.int p2), .val (.int v127), .unset, .unset, .unset, .unset, .unset, .unset, .unset, .unset, .unset, .unset] [(.int (7 : Int32)), (.int (p1 &&& (2147483647 : Int32)))])) _
    refine XS.iloadN X0.here hx rfl (hb hby at_14) rfl ?_
    show Steps p.tables e below (s₁.setTop (mkF m 15 #[.val (.int p0), .val (.int p1), .val (.int p2), .val (.int v127), .unset, .unset, .unset, .unset, .unset, .unset, .unset, .unset, .unset, .unset] [(.int v127), (.int (7 : Int32)), (.int (p1 &&& (2147483647 : Int32)))])) _
    refine XS.isub X0.here hx rfl (hb hby at_15) rfl ?_
    show Steps p.tables e below (s₁.setTop (mkF m 16 #[.val (.int p0), .val (.int p1), .val (.int p2), .val (.int v127), .unset, .unset, .unset, .unset, .unset, .unset, .unset, .unset, .unset, .unset] [(.int ((7 : Int32) - v127)), (.int (p1 &&& (2147483647 : Int32)))])) _
    refine iremM X0 hx rfl (hb hby at_16) rfl (own_nz p0 v127 hv_v127) ?_
    show Steps p.tables e below (s₁.setTop (mkF m 17 #[.val (.int p0), .val (.int p1), .val (.int p2), .val (.int v127), .unset, .unset, .unset, .unset, .unset, .unset, .unset, .unset, .unset, .unset] [(.int ((p1 &&& (2147483647 : Int32)) % ((7 : Int32) - v127)))])) _
    refine XS.istore X0.here hx rfl (hb hby at_17) rfl (l' := #[.val (.int p0), .val (.int p1), .val (.int p2), .val (.int v127), .val (.int ((p1 &&& (2147483647 : Int32)) % ((7 : Int32) - v127))), .unset, .unset, .unset, .unset, .unset, .unset, .unset, .unset, .unset]) rfl ?_
    exact k
  generalize hv_v128 : ((p1 &&& (2147483647 : Int32)) % ((7 : Int32) - v127)) = v128
  have hab := own_ab p0 p1 v127 v128 hv_v127 hv_v128
  refine Go.st (U' := s₁.setTop (mkF m 28 #[.val (.int p0), .val (.int p1), .val (.int p2), .val (.int v127), .val (.int v128), .val (.int (((6 : Int32) - v127) - v128)), .unset, .unset, .unset, .unset, .unset, .unset, .unset, .unset] [])) (fun t k => ?_) ?_
  · show Steps p.tables e below (s₁.setTop (mkF m 19 #[.val (.int p0), .val (.int p1), .val (.int p2), .val (.int v127), .val (.int v128), .unset, .unset, .unset, .unset, .unset, .unset, .unset, .unset, .unset] [])) _
    refine XS.bipush X0.here hx rfl (hb hby at_19) ?_
    show Steps p.tables e below (s₁.setTop (mkF m 21 #[.val (.int p0), .val (.int p1), .val (.int p2), .val (.int v127), .val (.int v128), .unset, .unset, .unset, .unset, .unset, .unset, .unset, .unset, .unset] [(.int (6 : Int32))])) _
    refine XS.iloadN X0.here hx rfl (hb hby at_21) rfl ?_
    show Steps p.tables e below (s₁.setTop (mkF m 22 #[.val (.int p0), .val (.int p1), .val (.int p2), .val (.int v127), .val (.int v128), .unset, .unset, .unset, .unset, .unset, .unset, .unset, .unset, .unset] [(.int v127), (.int (6 : Int32))])) _
    refine XS.isub X0.here hx rfl (hb hby at_22) rfl ?_
    show Steps p.tables e below (s₁.setTop (mkF m 23 #[.val (.int p0), .val (.int p1), .val (.int p2), .val (.int v127), .val (.int v128), .unset, .unset, .unset, .unset, .unset, .unset, .unset, .unset, .unset] [(.int ((6 : Int32) - v127))])) _
    refine XS.iload X0.here hx rfl (hb hby at_23) rfl ?_
    show Steps p.tables e below (s₁.setTop (mkF m 25 #[.val (.int p0), .val (.int p1), .val (.int p2), .val (.int v127), .val (.int v128), .unset, .unset, .unset, .unset, .unset, .unset, .unset, .unset, .unset] [(.int v128), (.int ((6 : Int32) - v127))])) _
    refine XS.isub X0.here hx rfl (hb hby at_25) rfl ?_
    show Steps p.tables e below (s₁.setTop (mkF m 26 #[.val (.int p0), .val (.int p1), .val (.int p2), .val (.int v127), .val (.int v128), .unset, .unset, .unset, .unset, .unset, .unset, .unset, .unset, .unset] [(.int (((6 : Int32) - v127) - v128))])) _
    refine XS.istore X0.here hx rfl (hb hby at_26) rfl (l' := #[.val (.int p0), .val (.int p1), .val (.int p2), .val (.int v127), .val (.int v128), .val (.int (((6 : Int32) - v127) - v128)), .unset, .unset, .unset, .unset, .unset, .unset, .unset, .unset]) rfl ?_
    exact k
  generalize hv_v129 : (((6 : Int32) - v127) - v128) = v129
  refine Go.st (U' := s₁.setTop (mkF m 29 #[.val (.int p0), .val (.int p1), .val (.int p2), .val (.int v127), .val (.int v128), .val (.int v129), .unset, .unset, .unset, .unset, .unset, .unset, .unset, .unset] [(.int (4 : Int32))])) (fun t k => ?_) ?_
  · show Steps p.tables e below (s₁.setTop (mkF m 28 #[.val (.int p0), .val (.int p1), .val (.int p2), .val (.int v127), .val (.int v128), .val (.int v129), .unset, .unset, .unset, .unset, .unset, .unset, .unset, .unset] [])) _
    refine XS.iconst X0.here hx rfl (hb hby at_28) ?_
    exact k
  obtain ⟨T130, h130, k130, X130, e130, E130, A130, st130⟩ := newP X0 hx hZ (own_w hw 1 rfl) e0 (g := (mkF m 29 #[.val (.int p0), .val (.int p1), .val (.int p2), .val (.int v127), .val (.int v128), .val (.int v129), .unset, .unset, .unset, .unset, .unset, .unset, .unset, .unset] [(.int (4 : Int32))])) rfl (hb hby at_29) rfl (by decide) (cap := 4) (by decide) (by decide) (by decide) (by decide)
  obtain ⟨b130, g130⟩ : ∃ z, z = h0.size := ⟨_, rfl⟩
  rw [← g130] at A130 st130
  have ge_b130 : n0 ≤ b130 := Nat.le_trans Z0 (Nat.le_of_eq g130.symm)
  have V_b130 : Arv Z h130 b130 k130 .int (4 : Int32) [(.int (0 : Int32)), (.int (0 : Int32)), (.int (0 : Int32)), (.int (0 : Int32))] (.int (0 : Int32)) := (Arv.new A130 (by decide)).pad (pad_rep [] (.int (0 : Int32)) 4)
  have sz130 : n0 ≤ h130.size := Nat.le_trans Z0 E130.1
  refine Go.st (U' := T130.setTop (mkF m 31 #[.val (.int p0), .val (.int p1), .val (.int p2), .val (.int v127), .val (.int v128), .val (.int v129), .unset, .unset, .unset, .unset, .unset, .unset, .unset, .unset] [(.ref b130)])) (fun t k => st130 _ k) ?_
  refine Go.st (U' := T130.setTop (mkF m 34 #[.val (.int p0), .val (.int p1), .val (.int p2), .val (.int v127), .val (.int v128), .val (.int v129), .unset, .unset, .unset, .unset, .unset, .unset, .unset, .unset] [(.int (0 : Int32)), (.int (0 : Int32)), (.ref b130), (.ref b130)])) (fun t k => ?_) ?_
  · show Steps p.tables e below (T130.setTop (mkF m 31 #[.val (.int p0), .val (.int p1), .val (.int p2), .val (.int v127), .val (.int v128), .val (.int v129), .unset, .unset, .unset, .unset, .unset, .unset, .unset, .unset] [(.ref b130)])) _
    refine XS.dup X130.here hx rfl (hb hby at_31) rfl rfl ?_
    show Steps p.tables e below (T130.setTop (mkF m 32 #[.val (.int p0), .val (.int p1), .val (.int p2), .val (.int v127), .val (.int v128), .val (.int v129), .unset, .unset, .unset, .unset, .unset, .unset, .unset, .unset] [(.ref b130), (.ref b130)])) _
    refine XS.iconst X130.here hx rfl (hb hby at_32) ?_
    show Steps p.tables e below (T130.setTop (mkF m 33 #[.val (.int p0), .val (.int p1), .val (.int p2), .val (.int v127), .val (.int v128), .val (.int v129), .unset, .unset, .unset, .unset, .unset, .unset, .unset, .unset] [(.int (0 : Int32)), (.ref b130), (.ref b130)])) _
    refine XS.iconst X130.here hx rfl (hb hby at_33) ?_
    exact k
  obtain ⟨cl132, Ar132, q132, S132, N132, H132, G132⟩ := id V_b130
  obtain ⟨T131, h131, X131, e131, W131, st131⟩ := stI X130 hx hZ e130 Ar132 (j := (0 : Int32)) (inb_of (j := (0 : Int32)) S132 ⟨by decide, by decide⟩) (g := (mkF m 34 #[.val (.int p0), .val (.int p1), .val (.int p2), .val (.int v127), .val (.int v128), .val (.int v129), .unset, .unset, .unset, .unset, .unset, .unset, .unset, .unset] [(.int (0 : Int32)), (.int (0 : Int32)), (.ref b130), (.ref b130)])) rfl rfl (hb hby at_34)
  have V_b130_131 := Arv.set Ar132 q132 S132 N132 H132 G132 rfl W131 0 rfl (Nat.le_of_ble_eq_true rfl)
  have N131 := Fr.snoc X131 N0 ge_b130
  have sz131 : n0 ≤ h131.size := Nat.le_trans sz130 (Nat.le_of_eq W131.size.symm)
  refine Go.st (U' := T131.setTop (mkF m 35 #[.val (.int p0), .val (.int p1), .val (.int p2), .val (.int v127), .val (.int v128), .val (.int v129), .unset, .unset, .unset, .unset, .unset, .unset, .unset, .unset] [(.ref b130)])) (fun t k => st131 _ k) ?_
  refine Go.st (U' := T131.setTop (mkF m 38 #[.val (.int p0), .val (.int p1), .val (.int p2), .val (.int v127), .val (.int v128), .val (.int v129), .unset, .unset, .unset, .unset, .unset, .unset, .unset, .unset] [(.int v127), (.int (1 : Int32)), (.ref b130), (.ref b130)])) (fun t k => ?_) ?_
  · show Steps p.tables e below (T131.setTop (mkF m 35 #[.val (.int p0), .val (.int p1), .val (.int p2), .val (.int v127), .val (.int v128), .val (.int v129), .unset, .unset, .unset, .unset, .unset, .unset, .unset, .unset] [(.ref b130)])) _
    refine XS.dup X131.here hx rfl (hb hby at_35) rfl rfl ?_
    show Steps p.tables e below (T131.setTop (mkF m 36 #[.val (.int p0), .val (.int p1), .val (.int p2), .val (.int v127), .val (.int v128), .val (.int v129), .unset, .unset, .unset, .unset, .unset, .unset, .unset, .unset] [(.ref b130), (.ref b130)])) _
    refine XS.iconst X131.here hx rfl (hb hby at_36) ?_
    show Steps p.tables e below (T131.setTop (mkF m 37 #[.val (.int p0), .val (.int p1), .val (.int p2), .val (.int v127), .val (.int v128), .val (.int v129), .unset, .unset, .unset, .unset, .unset, .unset, .unset, .unset] [(.int (1 : Int32)), (.ref b130), (.ref b130)])) _
    refine XS.iloadN X131.here hx rfl (hb hby at_37) rfl ?_
    exact k
  obtain ⟨cl134, Ar134, q134, S134, N134, H134, G134⟩ := id V_b130_131
  obtain ⟨T133, h133, X133, e133, W133, st133⟩ := stI X131 hx hZ e131 Ar134 (j := (1 : Int32)) (inb_of (j := (1 : Int32)) S134 ⟨by decide, by decide⟩) (g := (mkF m 38 #[.val (.int p0), .val (.int p1), .val (.int p2), .val (.int v127), .val (.int v128), .val (.int v129), .unset, .unset, .unset, .unset, .unset, .unset, .unset, .unset] [(.int v127), (.int (1 : Int32)), (.ref b130), (.ref b130)])) rfl rfl (hb hby at_38)
  have V_b130_133 := Arv.set Ar134 q134 S134 N134 H134 G134 rfl W133 1 rfl (Nat.le_of_ble_eq_true rfl)
  have N133 := Fr.snoc X133 N131 ge_b130
  have sz133 : n0 ≤ h133.size := Nat.le_trans sz131 (Nat.le_of_eq W133.size.symm)
  refine Go.st (U' := T133.setTop (mkF m 39 #[.val (.int p0), .val (.int p1), .val (.int p2), .val (.int v127), .val (.int v128), .val (.int v129), .unset, .unset, .unset, .unset, .unset, .unset, .unset, .unset] [(.ref b130)])) (fun t k => st133 _ k) ?_
  refine Go.st (U' := T133.setTop (mkF m 45 #[.val (.int p0), .val (.int p1), .val (.int p2), .val (.int v127), .val (.int v128), .val (.int v129), .unset, .unset, .unset, .unset, .unset, .unset, .unset, .unset] [(.int (v127 + v128)), (.int (2 : Int32)), (.ref b130), (.ref b130)])) (fun t k => ?_) ?_
  · show Steps p.tables e below (T133.setTop (mkF m 39 #[.val (.int p0), .val (.int p1), .val (.int p2), .val (.int v127), .val (.int v128), .val (.int v129), .unset, .unset, .unset, .unset, .unset, .unset, .unset, .unset] [(.ref b130)])) _
    refine XS.dup X133.here hx rfl (hb hby at_39) rfl rfl ?_
    show Steps p.tables e below (T133.setTop (mkF m 40 #[.val (.int p0), .val (.int p1), .val (.int p2), .val (.int v127), .val (.int v128), .val (.int v129), .unset, .unset, .unset, .unset, .unset, .unset, .unset, .unset] [(.ref b130), (.ref b130)])) _
    refine XS.iconst X133.here hx rfl (hb hby at_40) ?_
    show Steps p.tables e below (T133.setTop (mkF m 41 #[.val (.int p0), .val (.int p1), .val (.int p2), .val (.int v127), .val (.int v128), .val (.int v129), .unset, .unset, .unset, .unset, .unset, .unset, .unset, .unset] [(.int (2 : Int32)), (.ref b130), (.ref b130)])) _
    refine XS.iloadN X133.here hx rfl (hb hby at_41) rfl ?_
    show Steps p.tables e below (T133.setTop (mkF m 42 #[.val (.int p0), .val (.int p1), .val (.int p2), .val (.int v127), .val (.int v128), .val (.int v129), .unset, .unset, .unset, .unset, .unset, .unset, .unset, .unset] [(.int v127), (.int (2 : Int32)), (.ref b130), (.ref b130)])) _
    refine XS.iload X133.here hx rfl (hb hby at_42) rfl ?_
    show Steps p.tables e below (T133.setTop (mkF m 44 #[.val (.int p0), .val (.int p1), .val (.int p2), .val (.int v127), .val (.int v128), .val (.int v129), .unset, .unset, .unset, .unset, .unset, .unset, .unset, .unset] [(.int v128), (.int v127), (.int (2 : Int32)), (.ref b130), (.ref b130)])) _
    refine XS.iadd X133.here hx rfl (hb hby at_44) rfl ?_
    exact k
  obtain ⟨cl136, Ar136, q136, S136, N136, H136, G136⟩ := id V_b130_133
  obtain ⟨T135, h135, X135, e135, W135, st135⟩ := stI X133 hx hZ e133 Ar136 (j := (2 : Int32)) (inb_of (j := (2 : Int32)) S136 ⟨by decide, by decide⟩) (g := (mkF m 45 #[.val (.int p0), .val (.int p1), .val (.int p2), .val (.int v127), .val (.int v128), .val (.int v129), .unset, .unset, .unset, .unset, .unset, .unset, .unset, .unset] [(.int (v127 + v128)), (.int (2 : Int32)), (.ref b130), (.ref b130)])) rfl rfl (hb hby at_45)
  have V_b130_135 := Arv.set Ar136 q136 S136 N136 H136 G136 rfl W135 2 rfl (Nat.le_of_ble_eq_true rfl)
  have N135 := Fr.snoc X135 N133 ge_b130
  have sz135 : n0 ≤ h135.size := Nat.le_trans sz133 (Nat.le_of_eq W135.size.symm)
  refine Go.st (U' := T135.setTop (mkF m 46 #[.val (.int p0), .val (.int p1), .val (.int p2), .val (.int v127), .val (.int v128), .val (.int v129), .unset, .unset, .unset, .unset, .unset, .unset, .unset, .unset] [(.ref b130)])) (fun t k => st135 _ k) ?_
  refine Go.st (U' := T135.setTop (mkF m 50 #[.val (.int p0), .val (.int p1), .val (.int p2), .val (.int v127), .val (.int v128), .val (.int v129), .unset, .unset, .unset, .unset, .unset, .unset, .unset, .unset] [(.int (6 : Int32)), (.int (3 : Int32)), (.ref b130), (.ref b130)])) (fun t k => ?_) ?_
  · show Steps p.tables e below (T135.setTop (mkF m 46 #[.val (.int p0), .val (.int p1), .val (.int p2), .val (.int v127), .val (.int v128), .val (.int v129), .unset, .unset, .unset, .unset, .unset, .unset, .unset, .unset] [(.ref b130)])) _
    refine XS.dup X135.here hx rfl (hb hby at_46) rfl rfl ?_
    show Steps p.tables e below (T135.setTop (mkF m 47 #[.val (.int p0), .val (.int p1), .val (.int p2), .val (.int v127), .val (.int v128), .val (.int v129), .unset, .unset, .unset, .unset, .unset, .unset, .unset, .unset] [(.ref b130), (.ref b130)])) _
    refine XS.iconst X135.here hx rfl (hb hby at_47) ?_
    show Steps p.tables e below (T135.setTop (mkF m 48 #[.val (.int p0), .val (.int p1), .val (.int p2), .val (.int v127), .val (.int v128), .val (.int v129), .unset, .unset, .unset, .unset, .unset, .unset, .unset, .unset] [(.int (3 : Int32)), (.ref b130), (.ref b130)])) _
    refine XS.bipush X135.here hx rfl (hb hby at_48) ?_
    exact k
  obtain ⟨cl138, Ar138, q138, S138, N138, H138, G138⟩ := id V_b130_135
  obtain ⟨T137, h137, X137, e137, W137, st137⟩ := stI X135 hx hZ e135 Ar138 (j := (3 : Int32)) (inb_of (j := (3 : Int32)) S138 ⟨by decide, by decide⟩) (g := (mkF m 50 #[.val (.int p0), .val (.int p1), .val (.int p2), .val (.int v127), .val (.int v128), .val (.int v129), .unset, .unset, .unset, .unset, .unset, .unset, .unset, .unset] [(.int (6 : Int32)), (.int (3 : Int32)), (.ref b130), (.ref b130)])) rfl rfl (hb hby at_50)
  have V_b130_137 := Arv.set Ar138 q138 S138 N138 H138 G138 rfl W137 3 rfl (Nat.le_of_ble_eq_true rfl)
  have N137 := Fr.snoc X137 N135 ge_b130
  have sz137 : n0 ≤ h137.size := Nat.le_trans sz135 (Nat.le_of_eq W137.size.symm)
  refine Go.st (U' := T137.setTop (mkF m 51 #[.val (.int p0), .val (.int p1), .val (.int p2), .val (.int v127), .val (.int v128), .val (.int v129), .unset, .unset, .unset, .unset, .unset, .unset, .unset, .unset] [(.ref b130)])) (fun t k => st137 _ k) ?_
  refine Go.st (U' := T137.setTop (mkF m 55 #[.val (.int p0), .val (.int p1), .val (.int p2), .val (.int v127), .val (.int v128), .val (.int v129), .val (.ref b130), .unset, .unset, .unset, .unset, .unset, .unset, .unset] [(.int (6 : Int32))])) (fun t k => ?_) ?_
  · show Steps p.tables e below (T137.setTop (mkF m 51 #[.val (.int p0), .val (.int p1), .val (.int p2), .val (.int v127), .val (.int v128), .val (.int v129), .unset, .unset, .unset, .unset, .unset, .unset, .unset, .unset] [(.ref b130)])) _
    refine XS.astore X137.here hx rfl (hb hby at_51) rfl rfl (l' := #[.val (.int p0), .val (.int p1), .val (.int p2), .val (.int v127), .val (.int v128), .val (.int v129), .val (.ref b130), .unset, .unset, .unset, .unset, .unset, .unset, .unset]) rfl ?_
    show Steps p.tables e below (T137.setTop (mkF m 53 #[.val (.int p0), .val (.int p1), .val (.int p2), .val (.int v127), .val (.int v128), .val (.int v129), .val (.ref b130), .unset, .unset, .unset, .unset, .unset, .unset, .unset] [])) _
    refine XS.bipush X137.here hx rfl (hb hby at_53) ?_
    exact k
  obtain ⟨T139, h139, k139, X139, e139, E139, A139, st139⟩ := newP X137 hx hZ (own_w hw 1 rfl) e137 (g := (mkF m 55 #[.val (.int p0), .val (.int p1), .val (.int p2), .val (.int v127), .val (.int v128), .val (.int v129), .val (.ref b130), .unset, .unset, .unset, .unset, .unset, .unset, .unset] [(.int (6 : Int32))])) rfl (hb hby at_55) rfl (by decide) (cap := 6) (by decide) (by decide) (by decide) (by decide)
  obtain ⟨b139, g139⟩ : ∃ z, z = h137.size := ⟨_, rfl⟩
  rw [← g139] at A139 st139
  have ne_b130_b139 : b130 ≠ b139 := Nat.ne_of_lt (Nat.lt_of_lt_of_le V_b130_137.lt (Nat.le_of_eq g139.symm))
  have ge_b139 : n0 ≤ b139 := Nat.le_trans sz137 (Nat.le_of_eq g139.symm)
  have V_b130_139 := V_b130_137.ext E139
  have V_b139 : Arv Z h139 b139 k139 .int (6 : Int32) [(.int (0 : Int32)), (.int (0 : Int32)), (.int (0 : Int32)), (.int (0 : Int32)), (.int (0 : Int32)), (.int (0 : Int32))] (.int (0 : Int32)) := (Arv.new A139 (by decide)).pad (pad_rep [] (.int (0 : Int32)) 6)
  have sz139 : n0 ≤ h139.size := Nat.le_trans sz137 E139.1
  refine Go.st (U' := T139.setTop (mkF m 57 #[.val (.int p0), .val (.int p1), .val (.int p2), .val (.int v127), .val (.int v128), .val (.int v129), .val (.ref b130), .unset, .unset, .unset, .unset, .unset, .unset, .unset] [(.ref b139)])) (fun t k => st139 _ k) ?_
  refine Go.st (U' := T139.setTop (mkF m 61 #[.val (.int p0), .val (.int p1), .val (.int p2), .val (.int v127), .val (.int v128), .val (.int v129), .val (.ref b130), .val (.ref b139), .unset, .unset, .unset, .unset, .unset, .unset] [(.int (6 : Int32))])) (fun t k => ?_) ?_
  · show Steps p.tables e below (T139.setTop (mkF m 57 #[.val (.int p0), .val (.int p1), .val (.int p2), .val (.int v127), .val (.int v128), .val (.int v129), .val (.ref b130), .unset, .unset, .unset, .unset, .unset, .unset, .unset] [(.ref b139)])) _
    refine XS.astore X139.here hx rfl (hb hby at_57) rfl rfl (l' := #[.val (.int p0), .val (.int p1), .val (.int p2), .val (.int v127), .val (.int v128), .val (.int v129), .val (.ref b130), .val (.ref b139), .unset, .unset, .unset, .unset, .unset, .unset]) rfl ?_
    show Steps p.tables e below (T139.setTop (mkF m 59 #[.val (.int p0), .val (.int p1), .val (.int p2), .val (.int v127), .val (.int v128), .val (.int v129), .val (.ref b130), .val (.ref b139), .unset, .unset, .unset, .unset, .unset, .unset] [])) _
    refine XS.bipush X139.here hx rfl (hb hby at_59) ?_
    exact k
  obtain ⟨T140, h140, k140, X140, e140, E140, A140, st140⟩ := newP X139 hx hZ (own_w hw 1 rfl) e139 (g := (mkF m 61 #[.val (.int p0), .val (.int p1), .val (.int p2), .val (.int v127), .val (.int v128), .val (.int v129), .val (.ref b130), .val (.ref b139), .unset, .unset, .unset, .unset, .unset, .unset] [(.int (6 : Int32))])) rfl (hb hby at_61) rfl (by decide) (cap := 6) (by decide) (by decide) (by decide) (by decide)
  obtain ⟨b140, g140⟩ : ∃ z, z = h139.size := ⟨_, rfl⟩
  rw [← g140] at A140 st140
  have ne_b130_b140 : b130 ≠ b140 := Nat.ne_of_lt (Nat.lt_of_lt_of_le V_b130_139.lt (Nat.le_of_eq g140.symm))
  have ne_b139_b140 : b139 ≠ b140 := Nat.ne_of_lt (Nat.lt_of_lt_of_le V_b139.lt (Nat.le_of_eq g140.symm))
  have ge_b140 : n0 ≤ b140 := Nat.le_trans sz139 (Nat.le_of_eq g140.symm)
  have V_b130_140 := V_b130_139.ext E140
  have V_b139_140 := V_b139.ext E140
  have V_b140 : Arv Z h140 b140 k140 .int (6 : Int32) [(.int (0 : Int32)), (.int (0 : Int32)), (.int (0 : Int32)), (.int (0 : Int32)), (.int (0 : Int32)), (.int (0 : Int32))] (.int (0 : Int32)) := (Arv.new A140 (by decide)).pad (pad_rep [] (.int (0 : Int32)) 6)
  have sz140 : n0 ≤ h140.size := Nat.le_trans sz139 E140.1
  refine Go.st (U' := T140.setTop (mkF m 63 #[.val (.int p0), .val (.int p1), .val (.int p2), .val (.int v127), .val (.int v128), .val (.int v129), .val (.ref b130), .val (.ref b139), .unset, .unset, .unset, .unset, .unset, .unset] [(.ref b140)])) (fun t k => st140 _ k) ?_
  refine Go.st (U' := T140.setTop (mkF m 65 #[.val (.int p0), .val (.int p1), .val (.int p2), .val (.int v127), .val (.int v128), .val (.int v129), .val (.ref b130), .val (.ref b139), .val (.ref b140), .unset, .unset, .unset, .unset, .unset] [])) (fun t k => ?_) ?_
  · show Steps p.tables e below (T140.setTop (mkF m 63 #[.val (.int p0), .val (.int p1), .val (.int p2), .val (.int v127), .val (.int v128), .val (.int v129), .val (.ref b130), .val (.ref b139), .unset, .unset, .unset, .unset, .unset, .unset] [(.ref b140)])) _
    refine XS.astore X140.here hx rfl (hb hby at_63) rfl rfl (l' := #[.val (.int p0), .val (.int p1), .val (.int p2), .val (.int v127), .val (.int v128), .val (.int v129), .val (.ref b130), .val (.ref b139), .val (.ref b140), .unset, .unset, .unset, .unset, .unset]) rfl ?_
    exact k
  obtain ⟨T141, h141, X141, e141, E141, A141, D141, -, st141⟩ := newO X140 hx hZ hown (own_w hw 2 rfl) (own_w hw 3 rfl) (own_w hw 4 rfl) e140 (g := (mkF m 65 #[.val (.int p0), .val (.int p1), .val (.int p2), .val (.int v127), .val (.int v128), .val (.int v129), .val (.ref b130), .val (.ref b139), .val (.ref b140), .unset, .unset, .unset, .unset, .unset] [])) rfl (hb hby at_65) (by decide) (by decide)
  obtain ⟨b141, g141⟩ : ∃ z, z = h140.size := ⟨_, rfl⟩
  rw [← g141] at A141 D141 st141
  have ne_b130_b141 : b130 ≠ b141 := Nat.ne_of_lt (Nat.lt_of_lt_of_le V_b130_140.lt (Nat.le_of_eq g141.symm))
  have ne_b139_b141 : b139 ≠ b141 := Nat.ne_of_lt (Nat.lt_of_lt_of_le V_b139_140.lt (Nat.le_of_eq g141.symm))
  have ne_b140_b141 : b140 ≠ b141 := Nat.ne_of_lt (Nat.lt_of_lt_of_le V_b140.lt (Nat.le_of_eq g141.symm))
  have ge_b141 : n0 ≤ b141 := Nat.le_trans sz140 (Nat.le_of_eq g141.symm)
  have V_b130_141 := V_b130_140.ext E141
  have V_b139_141 := V_b139_140.ext E141
  have V_b140_141 := V_b140.ext E141
  have F_start_b141 : Fld Z h141 b141 "com/example/wdth/wdth/PlanarEmbedding" "start" "[I" .null := D141 (Or.inr (own_w hw 12 rfl)) (ty := (.array .int)) (by decide)
  have F_head_b141 : Fld Z h141 b141 "com/example/wdth/wdth/PlanarEmbedding" "head" "[I" .null := D141 (Or.inr (own_w hw 14 rfl)) (ty := (.array .int)) (by decide)
  have F_mate_b141 : Fld Z h141 b141 "com/example/wdth/wdth/PlanarEmbedding" "mate" "[I" .null := D141 (Or.inr (own_w hw 16 rfl)) (ty := (.array .int)) (by decide)
  have F_tail_b141 : Fld Z h141 b141 "com/example/wdth/wdth/PlanarEmbedding" "tail" "[I" .null := D141 (Or.inr (own_w hw 18 rfl)) (ty := (.array .int)) (by decide)
  have sz141 : n0 ≤ h141.size := Nat.le_trans sz140 E141.1
  refine Go.st (U' := T141.setTop (mkF m 68 #[.val (.int p0), .val (.int p1), .val (.int p2), .val (.int v127), .val (.int v128), .val (.int v129), .val (.ref b130), .val (.ref b139), .val (.ref b140), .unset, .unset, .unset, .unset, .unset] [(.ref b141)])) (fun t k => st141 _ k) ?_
  refine Go.st (U' := T141.setTop (mkF m 75 #[.val (.int p0), .val (.int p1), .val (.int p2), .val (.int v127), .val (.int v128), .val (.int v129), .val (.ref b130), .val (.ref b139), .val (.ref b140), .unset, .unset, .unset, .unset, .unset] [(.ref b140), (.ref b139), (.ref b130), (.ref b141), (.ref b141)])) (fun t k => ?_) ?_
  · show Steps p.tables e below (T141.setTop (mkF m 68 #[.val (.int p0), .val (.int p1), .val (.int p2), .val (.int v127), .val (.int v128), .val (.int v129), .val (.ref b130), .val (.ref b139), .val (.ref b140), .unset, .unset, .unset, .unset, .unset] [(.ref b141)])) _
    refine XS.dup X141.here hx rfl (hb hby at_68) rfl rfl ?_
    show Steps p.tables e below (T141.setTop (mkF m 69 #[.val (.int p0), .val (.int p1), .val (.int p2), .val (.int v127), .val (.int v128), .val (.int v129), .val (.ref b130), .val (.ref b139), .val (.ref b140), .unset, .unset, .unset, .unset, .unset] [(.ref b141), (.ref b141)])) _
    refine XS.aload X141.here hx rfl (hb hby at_69) rfl rfl ?_
    show Steps p.tables e below (T141.setTop (mkF m 71 #[.val (.int p0), .val (.int p1), .val (.int p2), .val (.int v127), .val (.int v128), .val (.int v129), .val (.ref b130), .val (.ref b139), .val (.ref b140), .unset, .unset, .unset, .unset, .unset] [(.ref b130), (.ref b141), (.ref b141)])) _
    refine XS.aload X141.here hx rfl (hb hby at_71) rfl rfl ?_
    show Steps p.tables e below (T141.setTop (mkF m 73 #[.val (.int p0), .val (.int p1), .val (.int p2), .val (.int v127), .val (.int v128), .val (.int v129), .val (.ref b130), .val (.ref b139), .val (.ref b140), .unset, .unset, .unset, .unset, .unset] [(.ref b139), (.ref b130), (.ref b141), (.ref b141)])) _
    refine XS.aload X141.here hx rfl (hb hby at_73) rfl rfl ?_
    exact k
  obtain ⟨_, _, ⟨T142, L142, k142, n142⟩, -, X142, ⟨Lc142, hQ142, l142, y142, z142⟩, st142⟩ := X141.specialBack hx (y := own_y0) rfl hown (mvT hZ (own_w hw 5 rfl)) (mvT hZ (own_w hw 6 rfl)) (mvT hZ (own_w hw 7 rfl)) (by decide) (backOf (W := 1) (rm1c l Z a0 hw [] b141 b130 b139 b140 k130 k139 v127 (v127 + v128) h141 n0 sz141 A141 F_start_b141 F_head_b141 F_mate_b141 F_tail_b141 V_b130_141 V_b139_141 ge_b141 ne_b130_b141 ne_b139_b141 hab.1 hab.2.1 hab.2.2) hZ (own_w hw 7 rfl) (own_w hw 4 rfl) (by decide) (by decide)) (g := (mkF m 75 #[.val (.int p0), .val (.int p1), .val (.int p2), .val (.int v127), .val (.int v128), .val (.int v129), .val (.ref b130), .val (.ref b139), .val (.ref b140), .unset, .unset, .unset, .unset, .unset] [(.ref b140), (.ref b139), (.ref b130), (.ref b141), (.ref b141)])) rfl (by rw [hml]; rfl) (Steps.refl _) (a := b141) (argsL := [(.ref b130), (.ref b139), (.ref b140)]) (rest := [(.ref b141)]) (lenOf pd_0 rfl) rfl (by show 2 * 0 + _ ≤ _; exact Nat.le_of_eq rfl) (hb hby at_75) (fun _ _ => ⟨rfl, e141, (by decide : 4 + 1 ≤ _), (by decide : 20 + 6 ≤ _)⟩)
  dsimp only [Pt.U, Pt.locs, Pt.cells, Pt.slots] at X142 l142 y142 z142 st142 hQ142
  subst l142 y142 z142
  obtain ⟨rfl, N142q, K142, PE142, b142, kk142, ge_b142, sb_b142, PS142, PT142, PA142⟩ := hQ142
  have V_b130_142 := V_b130_141.keep K142 (ninS ne_b130_b141 nin0)
  have V_b139_142 := V_b139_141.keep K142 (ninS ne_b139_b141 nin0)
  have V_b140_142 := V_b140_141.keep K142 (ninS ne_b140_b141 nin0)
  have Ex_b141_142 := A141.keep K142
  have sz142 : n0 ≤ T142.heap.size := Nat.le_trans sz141 K142.1
  have N142 := Fr.app N137 N142q
  refine Go.tr (U' := T142.setTop (mkF m 78 #[.val (.int p0), .val (.int p1), .val (.int p2), .val (.int v127), .val (.int v128), .val (.int v129), .val (.ref b130), .val (.ref b139), .val (.ref b140), .unset, .unset, .unset, .unset, .unset] [(.ref b141)])) st142 ?_
  refine Go.st (U' := T142.setTop (mkF m 89 #[.val (.int p0), .val (.int p1), .val (.int p2), .val (.int v127), .val (.int v128), .val (.int v129), .val (.ref b130), .val (.ref b139), .val (.ref b140), .val (.ref b141), .val (.int ((p2 &&& (2147483647 : Int32)) % (6 : Int32))), .unset, .unset, .unset] [])) (fun t k => ?_) ?_
  · show Steps p.tables e below (T142.setTop (mkF m 78 #[.val (.int p0), .val (.int p1), .val (.int p2), .val (.int v127), .val (.int v128), .val (.int v129), .val (.ref b130), .val (.ref b139), .val (.ref b140), .unset, .unset, .unset, .unset, .unset] [(.ref b141)])) _
    refine XS.astore X142.here hx rfl (hb hby at_78) rfl rfl (l' := #[.val (.int p0), .val (.int p1), .val (.int p2), .val (.int v127), .val (.int v128), .val (.int v129), .val (.ref b130), .val (.ref b139), .val (.ref b140), .val (.ref b141), .unset, .unset, .unset, .unset]) rfl ?_
    show Steps p.tables e below (T142.setTop (mkF m 80 #[.val (.int p0), .val (.int p1), .val (.int p2), .val (.int v127), .val (.int v128), .val (.int v129), .val (.ref b130), .val (.ref b139), .val (.ref b140), .val (.ref b141), .unset, .unset, .unset, .unset] [])) _
    refine XS.iloadN X142.here hx rfl (hb hby at_80) rfl ?_
    show Steps p.tables e below (T142.setTop (mkF m 81 #[.val (.int p0), .val (.int p1), .val (.int p2), .val (.int v127), .val (.int v128), .val (.int v129), .val (.ref b130), .val (.ref b139), .val (.ref b140), .val (.ref b141), .unset, .unset, .unset, .unset] [(.int p2)])) _
    refine X142.ldcInt hx hown (mvT hZ (own_w hw 0 rfl)) (g := (mkF m 81 #[.val (.int p0), .val (.int p1), .val (.int p2), .val (.int v127), .val (.int v128), .val (.int v129), .val (.ref b130), .val (.ref b139), .val (.ref b140), .val (.ref b141), .unset, .unset, .unset, .unset] [(.int p2)])) rfl (hb hby at_81) _ ?_
    show Steps p.tables e below (T142.setTop (mkF m 83 #[.val (.int p0), .val (.int p1), .val (.int p2), .val (.int v127), .val (.int v128), .val (.int v129), .val (.ref b130), .val (.ref b139), .val (.ref b140), .val (.ref b141), .unset, .unset, .unset, .unset] [(.int (2147483647 : Int32)), (.int p2)])) _
    refine XS.iand X142.here hx rfl (hb hby at_83) rfl ?_
    show Steps p.tables e below (T142.setTop (mkF m 84 #[.val (.int p0), .val (.int p1), .val (.int p2), .val (.int v127), .val (.int v128), .val (.int v129), .val (.ref b130), .val (.ref b139), .val (.ref b140), .val (.ref b141), .unset, .unset, .unset, .unset] [(.int (p2 &&& (2147483647 : Int32)))])) _
    refine XS.bipush X142.here hx rfl (hb hby at_84) ?_
    show Steps p.tables e below (T142.setTop (mkF m 86 #[.val (.int p0), .val (.int p1), .val (.int p2), .val (.int v127), .val (.int v128), .val (.int v129), .val (.ref b130), .val (.ref b139), .val (.ref b140), .val (.ref b141), .unset, .unset, .unset, .unset] [(.int (6 : Int32)), (.int (p2 &&& (2147483647 : Int32)))])) _
    refine iremM X142 hx rfl (hb hby at_86) rfl (by decide) ?_
    show Steps p.tables e below (T142.setTop (mkF m 87 #[.val (.int p0), .val (.int p1), .val (.int p2), .val (.int v127), .val (.int v128), .val (.int v129), .val (.ref b130), .val (.ref b139), .val (.ref b140), .val (.ref b141), .unset, .unset, .unset, .unset] [(.int ((p2 &&& (2147483647 : Int32)) % (6 : Int32)))])) _
    refine XS.istore X142.here hx rfl (hb hby at_87) rfl (l' := #[.val (.int p0), .val (.int p1), .val (.int p2), .val (.int v127), .val (.int v128), .val (.int v129), .val (.ref b130), .val (.ref b139), .val (.ref b140), .val (.ref b141), .val (.int ((p2 &&& (2147483647 : Int32)) % (6 : Int32))), .unset, .unset, .unset]) rfl ?_
    exact k
  generalize hv_v143 : ((p2 &&& (2147483647 : Int32)) % (6 : Int32)) = v143
  refine Go.st (U' := T142.setTop (mkF m 92 #[.val (.int p0), .val (.int p1), .val (.int p2), .val (.int v127), .val (.int v128), .val (.int v129), .val (.ref b130), .val (.ref b139), .val (.ref b140), .val (.ref b141), .val (.int v143), .unset, .unset, .unset] [(.int v127), (.int v143)])) (fun t k => ?_) ?_
  · show Steps p.tables e below (T142.setTop (mkF m 89 #[.val (.int p0), .val (.int p1), .val (.int p2), .val (.int v127), .val (.int v128), .val (.int v129), .val (.ref b130), .val (.ref b139), .val (.ref b140), .val (.ref b141), .val (.int v143), .unset, .unset, .unset] [])) _
    refine XS.iload X142.here hx rfl (hb hby at_89) rfl ?_
    show Steps p.tables e below (T142.setTop (mkF m 91 #[.val (.int p0), .val (.int p1), .val (.int p2), .val (.int v127), .val (.int v128), .val (.int v129), .val (.ref b130), .val (.ref b139), .val (.ref b140), .val (.ref b141), .val (.int v143), .unset, .unset, .unset] [(.int v143)])) _
    refine XS.iloadN X142.here hx rfl (hb hby at_91) rfl ?_
    exact k
  refine Go.join2 (P := fun (v146 : Int32) (v147 : Int32) => v146 = (if v143 < v127 then (0 : Int32) else (if v143 < (v127 + v128) then v127 else (v127 + v128))) ∧ v147 = (if v143 < v127 then v127 else (if v143 < (v127 + v128) then v128 else v129))) (F := fun (v146 : Int32) (v147 : Int32) => T142.setTop (mkF m 133 #[.val (.int p0), .val (.int p1), .val (.int p2), .val (.int v127), .val (.int v128), .val (.int v129), .val (.ref b130), .val (.ref b139), .val (.ref b140), .val (.ref b141), .val (.int v143), .val (.int v146), .val (.int v147), .unset] [])) (fun J148 => ?_) (fun v146 v147 ⟨hv_v146, hv_v147⟩ => ?_)
  · by_cases hc144 : v143 < v127
    · refine Go.st (U' := T142.setTop (mkF m 133 #[.val (.int p0), .val (.int p1), .val (.int p2), .val (.int v127), .val (.int v128), .val (.int v129), .val (.ref b130), .val (.ref b139), .val (.ref b140), .val (.ref b141), .val (.int v143), .val (.int (0 : Int32)), .val (.int v127), .unset] [])) (fun t k => ?_) ?_
      · show Steps p.tables e below (T142.setTop (mkF m 92 #[.val (.int p0), .val (.int p1), .val (.int p2), .val (.int v127), .val (.int v128), .val (.int v129), .val (.ref b130), .val (.ref b139), .val (.ref b140), .val (.ref b141), .val (.int v143), .unset, .unset, .unset] [(.int v127), (.int v143)])) _
        refine XS.icmpNo X142.here hx rfl (hb hby at_92) rfl (tlt hc144).2.1 ?_
        show Steps p.tables e below (T142.setTop (mkF m 95 #[.val (.int p0), .val (.int p1), .val (.int p2), .val (.int v127), .val (.int v128), .val (.int v129), .val (.ref b130), .val (.ref b139), .val (.ref b140), .val (.ref b141), .val (.int v143), .unset, .unset, .unset] [])) _
        refine XS.iconst X142.here hx rfl (hb hby at_95) ?_
        show Steps p.tables e below (T142.setTop (mkF m 96 #[.val (.int p0), .val (.int p1), .val (.int p2), .val (.int v127), .val (.int v128), .val (.int v129), .val (.ref b130), .val (.ref b139), .val (.ref b140), .val (.ref b141), .val (.int v143), .unset, .unset, .unset] [(.int (0 : Int32))])) _
        refine XS.istore X142.here hx rfl (hb hby at_96) rfl (l' := #[.val (.int p0), .val (.int p1), .val (.int p2), .val (.int v127), .val (.int v128), .val (.int v129), .val (.ref b130), .val (.ref b139), .val (.ref b140), .val (.ref b141), .val (.int v143), .val (.int (0 : Int32)), .unset, .unset]) rfl ?_
        show Steps p.tables e below (T142.setTop (mkF m 98 #[.val (.int p0), .val (.int p1), .val (.int p2), .val (.int v127), .val (.int v128), .val (.int v129), .val (.ref b130), .val (.ref b139), .val (.ref b140), .val (.ref b141), .val (.int v143), .val (.int (0 : Int32)), .unset, .unset] [])) _
        refine XS.iloadN X142.here hx rfl (hb hby at_98) rfl ?_
        show Steps p.tables e below (T142.setTop (mkF m 99 #[.val (.int p0), .val (.int p1), .val (.int p2), .val (.int v127), .val (.int v128), .val (.int v129), .val (.ref b130), .val (.ref b139), .val (.ref b140), .val (.ref b141), .val (.int v143), .val (.int (0 : Int32)), .unset, .unset] [(.int v127)])) _
        refine XS.istore X142.here hx rfl (hb hby at_99) rfl (l' := #[.val (.int p0), .val (.int p1), .val (.int p2), .val (.int v127), .val (.int v128), .val (.int v129), .val (.ref b130), .val (.ref b139), .val (.ref b140), .val (.ref b141), .val (.int v143), .val (.int (0 : Int32)), .val (.int v127), .unset]) rfl ?_
        show Steps p.tables e below (T142.setTop (mkF m 101 #[.val (.int p0), .val (.int p1), .val (.int p2), .val (.int v127), .val (.int v128), .val (.int v129), .val (.ref b130), .val (.ref b139), .val (.ref b140), .val (.ref b141), .val (.int v143), .val (.int (0 : Int32)), .val (.int v127), .unset] [])) _
        refine XS.goto X142.here hx rfl (pc0 := 101) (pc' := 133) rfl (hb hby at_101) (by decide) (by decide) ?_
        exact k
      exact J148 _ _ ⟨(by first | rfl | simp only [if_pos hc144]), (by first | rfl | simp only [if_pos hc144])⟩
    · refine Go.st (U' := T142.setTop (mkF m 110 #[.val (.int p0), .val (.int p1), .val (.int p2), .val (.int v127), .val (.int v128), .val (.int v129), .val (.ref b130), .val (.ref b139), .val (.ref b140), .val (.ref b141), .val (.int v143), .unset, .unset, .unset] [(.int (v127 + v128)), (.int v143)])) (fun t k => ?_) ?_
      · show Steps p.tables e below (T142.setTop (mkF m 92 #[.val (.int p0), .val (.int p1), .val (.int p2), .val (.int v127), .val (.int v128), .val (.int v129), .val (.ref b130), .val (.ref b139), .val (.ref b140), .val (.ref b141), .val (.int v143), .unset, .unset, .unset] [(.int v127), (.int v143)])) _
        refine XS.icmpYes X142.here hx rfl (pc0 := 92) (pc' := 104) rfl (hb hby at_92) rfl (flt hc144).2.1 (by decide) (by decide) ?_
        show Steps p.tables e below (T142.setTop (mkF m 104 #[.val (.int p0), .val (.int p1), .val (.int p2), .val (.int v127), .val (.int v128), .val (.int v129), .val (.ref b130), .val (.ref b139), .val (.ref b140), .val (.ref b141), .val (.int v143), .unset, .unset, .unset] [])) _
        refine XS.iload X142.here hx rfl (hb hby at_104) rfl ?_
        show Steps p.tables e below (T142.setTop (mkF m 106 #[.val (.int p0), .val (.int p1), .val (.int p2), .val (.int v127), .val (.int v128), .val (.int v129), .val (.ref b130), .val (.ref b139), .val (.ref b140), .val (.ref b141), .val (.int v143), .unset, .unset, .unset] [(.int v143)])) _
        refine XS.iloadN X142.here hx rfl (hb hby at_106) rfl ?_
        show Steps p.tables e below (T142.setTop (mkF m 107 #[.val (.int p0), .val (.int p1), .val (.int p2), .val (.int v127), .val (.int v128), .val (.int v129), .val (.ref b130), .val (.ref b139), .val (.ref b140), .val (.ref b141), .val (.int v143), .unset, .unset, .unset] [(.int v127), (.int v143)])) _
        refine XS.iload X142.here hx rfl (hb hby at_107) rfl ?_
        show Steps p.tables e below (T142.setTop (mkF m 109 #[.val (.int p0), .val (.int p1), .val (.int p2), .val (.int v127), .val (.int v128), .val (.int v129), .val (.ref b130), .val (.ref b139), .val (.ref b140), .val (.ref b141), .val (.int v143), .unset, .unset, .unset] [(.int v128), (.int v127), (.int v143)])) _
        refine XS.iadd X142.here hx rfl (hb hby at_109) rfl ?_
        exact k
      by_cases hc145 : v143 < (v127 + v128)
      · refine Go.st (U' := T142.setTop (mkF m 133 #[.val (.int p0), .val (.int p1), .val (.int p2), .val (.int v127), .val (.int v128), .val (.int v129), .val (.ref b130), .val (.ref b139), .val (.ref b140), .val (.ref b141), .val (.int v143), .val (.int v127), .val (.int v128), .unset] [])) (fun t k => ?_) ?_
        · show Steps p.tables e below (T142.setTop (mkF m 110 #[.val (.int p0), .val (.int p1), .val (.int p2), .val (.int v127), .val (.int v128), .val (.int v129), .val (.ref b130), .val (.ref b139), .val (.ref b140), .val (.ref b141), .val (.int v143), .unset, .unset, .unset] [(.int (v127 + v128)), (.int v143)])) _
          refine XS.icmpNo X142.here hx rfl (hb hby at_110) rfl (tlt hc145).2.1 ?_
          show Steps p.tables e below (T142.setTop (mkF m 113 #[.val (.int p0), .val (.int p1), .val (.int p2), .val (.int v127), .val (.int v128), .val (.int v129), .val (.ref b130), .val (.ref b139), .val (.ref b140), .val (.ref b141), .val (.int v143), .unset, .unset, .unset] [])) _
          refine XS.iloadN X142.here hx rfl (hb hby at_113) rfl ?_
          show Steps p.tables e below (T142.setTop (mkF m 114 #[.val (.int p0), .val (.int p1), .val (.int p2), .val (.int v127), .val (.int v128), .val (.int v129), .val (.ref b130), .val (.ref b139), .val (.ref b140), .val (.ref b141), .val (.int v143), .unset, .unset, .unset] [(.int v127)])) _
          refine XS.istore X142.here hx rfl (hb hby at_114) rfl (l' := #[.val (.int p0), .val (.int p1), .val (.int p2), .val (.int v127), .val (.int v128), .val (.int v129), .val (.ref b130), .val (.ref b139), .val (.ref b140), .val (.ref b141), .val (.int v143), .val (.int v127), .unset, .unset]) rfl ?_
          show Steps p.tables e below (T142.setTop (mkF m 116 #[.val (.int p0), .val (.int p1), .val (.int p2), .val (.int v127), .val (.int v128), .val (.int v129), .val (.ref b130), .val (.ref b139), .val (.ref b140), .val (.ref b141), .val (.int v143), .val (.int v127), .unset, .unset] [])) _
          refine XS.iload X142.here hx rfl (hb hby at_116) rfl ?_
          show Steps p.tables e below (T142.setTop (mkF m 118 #[.val (.int p0), .val (.int p1), .val (.int p2), .val (.int v127), .val (.int v128), .val (.int v129), .val (.ref b130), .val (.ref b139), .val (.ref b140), .val (.ref b141), .val (.int v143), .val (.int v127), .unset, .unset] [(.int v128)])) _
          refine XS.istore X142.here hx rfl (hb hby at_118) rfl (l' := #[.val (.int p0), .val (.int p1), .val (.int p2), .val (.int v127), .val (.int v128), .val (.int v129), .val (.ref b130), .val (.ref b139), .val (.ref b140), .val (.ref b141), .val (.int v143), .val (.int v127), .val (.int v128), .unset]) rfl ?_
          show Steps p.tables e below (T142.setTop (mkF m 120 #[.val (.int p0), .val (.int p1), .val (.int p2), .val (.int v127), .val (.int v128), .val (.int v129), .val (.ref b130), .val (.ref b139), .val (.ref b140), .val (.ref b141), .val (.int v143), .val (.int v127), .val (.int v128), .unset] [])) _
          refine XS.goto X142.here hx rfl (pc0 := 120) (pc' := 133) rfl (hb hby at_120) (by decide) (by decide) ?_
          exact k
        exact J148 _ _ ⟨(by first | rfl | simp only [if_neg hc144, if_pos hc145]), (by first | rfl | simp only [if_neg hc144, if_pos hc145])⟩
      · refine Go.st (U' := T142.setTop (mkF m 133 #[.val (.int p0), .val (.int p1), .val (.int p2), .val (.int v127), .val (.int v128), .val (.int v129), .val (.ref b130), .val (.ref b139), .val (.ref b140), .val (.ref b141), .val (.int v143), .val (.int (v127 + v128)), .val (.int v129), .unset] [])) (fun t k => ?_) ?_
        · show Steps p.tables e below (T142.setTop (mkF m 110 #[.val (.int p0), .val (.int p1), .val (.int p2), .val (.int v127), .val (.int v128), .val (.int v129), .val (.ref b130), .val (.ref b139), .val (.ref b140), .val (.ref b141), .val (.int v143), .unset, .unset, .unset] [(.int (v127 + v128)), (.int v143)])) _
          refine XS.icmpYes X142.here hx rfl (pc0 := 110) (pc' := 123) rfl (hb hby at_110) rfl (flt hc145).2.1 (by decide) (by decide) ?_
          show Steps p.tables e below (T142.setTop (mkF m 123 #[.val (.int p0), .val (.int p1), .val (.int p2), .val (.int v127), .val (.int v128), .val (.int v129), .val (.ref b130), .val (.ref b139), .val (.ref b140), .val (.ref b141), .val (.int v143), .unset, .unset, .unset] [])) _
          refine XS.iloadN X142.here hx rfl (hb hby at_123) rfl ?_
          show Steps p.tables e below (T142.setTop (mkF m 124 #[.val (.int p0), .val (.int p1), .val (.int p2), .val (.int v127), .val (.int v128), .val (.int v129), .val (.ref b130), .val (.ref b139), .val (.ref b140), .val (.ref b141), .val (.int v143), .unset, .unset, .unset] [(.int v127)])) _
          refine XS.iload X142.here hx rfl (hb hby at_124) rfl ?_
          show Steps p.tables e below (T142.setTop (mkF m 126 #[.val (.int p0), .val (.int p1), .val (.int p2), .val (.int v127), .val (.int v128), .val (.int v129), .val (.ref b130), .val (.ref b139), .val (.ref b140), .val (.ref b141), .val (.int v143), .unset, .unset, .unset] [(.int v128), (.int v127)])) _
          refine XS.iadd X142.here hx rfl (hb hby at_126) rfl ?_
          show Steps p.tables e below (T142.setTop (mkF m 127 #[.val (.int p0), .val (.int p1), .val (.int p2), .val (.int v127), .val (.int v128), .val (.int v129), .val (.ref b130), .val (.ref b139), .val (.ref b140), .val (.ref b141), .val (.int v143), .unset, .unset, .unset] [(.int (v127 + v128))])) _
          refine XS.istore X142.here hx rfl (hb hby at_127) rfl (l' := #[.val (.int p0), .val (.int p1), .val (.int p2), .val (.int v127), .val (.int v128), .val (.int v129), .val (.ref b130), .val (.ref b139), .val (.ref b140), .val (.ref b141), .val (.int v143), .val (.int (v127 + v128)), .unset, .unset]) rfl ?_
          show Steps p.tables e below (T142.setTop (mkF m 129 #[.val (.int p0), .val (.int p1), .val (.int p2), .val (.int v127), .val (.int v128), .val (.int v129), .val (.ref b130), .val (.ref b139), .val (.ref b140), .val (.ref b141), .val (.int v143), .val (.int (v127 + v128)), .unset, .unset] [])) _
          refine XS.iload X142.here hx rfl (hb hby at_129) rfl ?_
          show Steps p.tables e below (T142.setTop (mkF m 131 #[.val (.int p0), .val (.int p1), .val (.int p2), .val (.int v127), .val (.int v128), .val (.int v129), .val (.ref b130), .val (.ref b139), .val (.ref b140), .val (.ref b141), .val (.int v143), .val (.int (v127 + v128)), .unset, .unset] [(.int v129)])) _
          refine XS.istore X142.here hx rfl (hb hby at_131) rfl (l' := #[.val (.int p0), .val (.int p1), .val (.int p2), .val (.int v127), .val (.int v128), .val (.int v129), .val (.ref b130), .val (.ref b139), .val (.ref b140), .val (.ref b141), .val (.int v143), .val (.int (v127 + v128)), .val (.int v129), .unset]) rfl ?_
          exact k
        exact J148 _ _ ⟨(by first | rfl | simp only [if_neg hc144, if_neg hc145]), (by first | rfl | simp only [if_neg hc144, if_neg hc145])⟩
  have hfin := own_fin p0 p1 p2 v127 v128 v129 v143 v146 v147 hv_v127 hv_v128 hv_v129 hv_v143 hv_v146 hv_v147
  refine Go.st (U' := T142.setTop (mkF m 148 #[.val (.int p0), .val (.int p1), .val (.int p2), .val (.int v127), .val (.int v128), .val (.int v129), .val (.ref b130), .val (.ref b139), .val (.ref b140), .val (.ref b141), .val (.int v143), .val (.int v146), .val (.int v147), .val (.int (v146 + (((v143 - v146) + (1 : Int32)) % v147)))] [])) (fun t k => ?_) ?_
  · show Steps p.tables e below (T142.setTop (mkF m 133 #[.val (.int p0), .val (.int p1), .val (.int p2), .val (.int v127), .val (.int v128), .val (.int v129), .val (.ref b130), .val (.ref b139), .val (.ref b140), .val (.ref b141), .val (.int v143), .val (.int v146), .val (.int v147), .unset] [])) _
    refine XS.iload X142.here hx rfl (hb hby at_133) rfl ?_
    show Steps p.tables e below (T142.setTop (mkF m 135 #[.val (.int p0), .val (.int p1), .val (.int p2), .val (.int v127), .val (.int v128), .val (.int v129), .val (.ref b130), .val (.ref b139), .val (.ref b140), .val (.ref b141), .val (.int v143), .val (.int v146), .val (.int v147), .unset] [(.int v146)])) _
    refine XS.iload X142.here hx rfl (hb hby at_135) rfl ?_
    show Steps p.tables e below (T142.setTop (mkF m 137 #[.val (.int p0), .val (.int p1), .val (.int p2), .val (.int v127), .val (.int v128), .val (.int v129), .val (.ref b130), .val (.ref b139), .val (.ref b140), .val (.ref b141), .val (.int v143), .val (.int v146), .val (.int v147), .unset] [(.int v143), (.int v146)])) _
    refine XS.iload X142.here hx rfl (hb hby at_137) rfl ?_
    show Steps p.tables e below (T142.setTop (mkF m 139 #[.val (.int p0), .val (.int p1), .val (.int p2), .val (.int v127), .val (.int v128), .val (.int v129), .val (.ref b130), .val (.ref b139), .val (.ref b140), .val (.ref b141), .val (.int v143), .val (.int v146), .val (.int v147), .unset] [(.int v146), (.int v143), (.int v146)])) _
    refine XS.isub X142.here hx rfl (hb hby at_139) rfl ?_
    show Steps p.tables e below (T142.setTop (mkF m 140 #[.val (.int p0), .val (.int p1), .val (.int p2), .val (.int v127), .val (.int v128), .val (.int v129), .val (.ref b130), .val (.ref b139), .val (.ref b140), .val (.ref b141), .val (.int v143), .val (.int v146), .val (.int v147), .unset] [(.int (v143 - v146)), (.int v146)])) _
    refine XS.iconst X142.here hx rfl (hb hby at_140) ?_
    show Steps p.tables e below (T142.setTop (mkF m 141 #[.val (.int p0), .val (.int p1), .val (.int p2), .val (.int v127), .val (.int v128), .val (.int v129), .val (.ref b130), .val (.ref b139), .val (.ref b140), .val (.ref b141), .val (.int v143), .val (.int v146), .val (.int v147), .unset] [(.int (1 : Int32)), (.int (v143 - v146)), (.int v146)])) _
    refine XS.iadd X142.here hx rfl (hb hby at_141) rfl ?_
    show Steps p.tables e below (T142.setTop (mkF m 142 #[.val (.int p0), .val (.int p1), .val (.int p2), .val (.int v127), .val (.int v128), .val (.int v129), .val (.ref b130), .val (.ref b139), .val (.ref b140), .val (.ref b141), .val (.int v143), .val (.int v146), .val (.int v147), .unset] [(.int ((v143 - v146) + (1 : Int32))), (.int v146)])) _
    refine XS.iload X142.here hx rfl (hb hby at_142) rfl ?_
    show Steps p.tables e below (T142.setTop (mkF m 144 #[.val (.int p0), .val (.int p1), .val (.int p2), .val (.int v127), .val (.int v128), .val (.int v129), .val (.ref b130), .val (.ref b139), .val (.ref b140), .val (.ref b141), .val (.int v143), .val (.int v146), .val (.int v147), .unset] [(.int v147), (.int ((v143 - v146) + (1 : Int32))), (.int v146)])) _
    refine iremM X142 hx rfl (hb hby at_144) rfl hfin.1 ?_
    show Steps p.tables e below (T142.setTop (mkF m 145 #[.val (.int p0), .val (.int p1), .val (.int p2), .val (.int v127), .val (.int v128), .val (.int v129), .val (.ref b130), .val (.ref b139), .val (.ref b140), .val (.ref b141), .val (.int v143), .val (.int v146), .val (.int v147), .unset] [(.int (((v143 - v146) + (1 : Int32)) % v147)), (.int v146)])) _
    refine XS.iadd X142.here hx rfl (hb hby at_145) rfl ?_
    show Steps p.tables e below (T142.setTop (mkF m 146 #[.val (.int p0), .val (.int p1), .val (.int p2), .val (.int v127), .val (.int v128), .val (.int v129), .val (.ref b130), .val (.ref b139), .val (.ref b140), .val (.ref b141), .val (.int v143), .val (.int v146), .val (.int v147), .unset] [(.int (v146 + (((v143 - v146) + (1 : Int32)) % v147)))])) _
    refine XS.istore X142.here hx rfl (hb hby at_146) rfl (l' := #[.val (.int p0), .val (.int p1), .val (.int p2), .val (.int v127), .val (.int v128), .val (.int v129), .val (.ref b130), .val (.ref b139), .val (.ref b140), .val (.ref b141), .val (.int v143), .val (.int v146), .val (.int v147), .val (.int (v146 + (((v143 - v146) + (1 : Int32)) % v147)))]) rfl ?_
    exact k
  generalize hv_v149 : (v146 + (((v143 - v146) + (1 : Int32)) % v147)) = v149
  refine Go.st (U' := T142.setTop (mkF m 152 #[.val (.int p0), .val (.int p1), .val (.int p2), .val (.int v127), .val (.int v128), .val (.int v129), .val (.ref b130), .val (.ref b139), .val (.ref b140), .val (.ref b141), .val (.int v143), .val (.int v146), .val (.int v147), .val (.int v149)] [(.int v143), (.ref b141)])) (fun t k => ?_) ?_
  · show Steps p.tables e below (T142.setTop (mkF m 148 #[.val (.int p0), .val (.int p1), .val (.int p2), .val (.int v127), .val (.int v128), .val (.int v129), .val (.ref b130), .val (.ref b139), .val (.ref b140), .val (.ref b141), .val (.int v143), .val (.int v146), .val (.int v147), .val (.int v149)] [])) _
    refine XS.aload X142.here hx rfl (hb hby at_148) rfl rfl ?_
    show Steps p.tables e below (T142.setTop (mkF m 150 #[.val (.int p0), .val (.int p1), .val (.int p2), .val (.int v127), .val (.int v128), .val (.int v129), .val (.ref b130), .val (.ref b139), .val (.ref b140), .val (.ref b141), .val (.int v143), .val (.int v146), .val (.int v147), .val (.int v149)] [(.ref b141)])) _
    refine XS.iload X142.here hx rfl (hb hby at_150) rfl ?_
    exact k
  obtain ⟨cq150, kq150, q150a, q150b, q150c⟩ := isOf hZ rfl PE142
  obtain ⟨_, _, ⟨T150, L150, k150, n150⟩, -, X150, ⟨Lc150, hQ150, l150, y150, z150⟩, st150⟩ := X142.virtualBack hx (y := own_y1) (z := own_y1) hown (mvT hZ (own_w hw 19 rfl)) (mvT hZ (own_w hw 20 rfl)) (notFace_of_selects (args := #[]) (mvT hZ (own_w hw 22 rfl))) (mvT hZ (own_w hw 22 rfl)) (mvT hZ (own_w hw 21 rfl)) (by decide) (backOf (W := 0) (rm2 l Z a0 hw [] b141 v143 b130 b142 k130 kk142 (0 : Int32) v127 (v127 + v128) (6 : Int32) (own_tail v127 (v127 + v128)) T142.heap n0 sz142 PS142 PT142 V_b130_142 PA142 hfin.2.1 hfin.2.2.1 hfin.2.2.2.1) hZ (own_w hw 23 rfl) (own_w hw 4 rfl) (by decide) (by decide)) q150a q150c (g := (mkF m 152 #[.val (.int p0), .val (.int p1), .val (.int p2), .val (.int v127), .val (.int v128), .val (.int v129), .val (.ref b130), .val (.ref b139), .val (.ref b140), .val (.ref b141), .val (.int v143), .val (.int v146), .val (.int v147), .val (.int v149)] [(.int v143), (.ref b141)])) rfl (by rw [hml]; rfl) (Steps.refl _) (argsL := [(.int v143)]) (rest := []) (lenOf pd_1 rfl) rfl (by show 2 * 0 + _ ≤ _; exact Nat.le_of_eq rfl) (hb hby at_152) (fun _ _ => ⟨rfl, rfl, (by decide : 5 + 0 ≤ _), (by decide : 26 + 0 ≤ _)⟩)
  dsimp only [Pt.U, Pt.locs, Pt.cells, Pt.slots] at X150 l150 y150 z150 st150 hQ150
  subst l150 y150 z150
  obtain ⟨rfl, N150q, e150⟩ := hQ150
  have N150 := Fr.app N142 N150q
  refine Go.tr (U' := T150.setTop (mkF m 155 #[.val (.int p0), .val (.int p1), .val (.int p2), .val (.int v127), .val (.int v128), .val (.int v129), .val (.ref b130), .val (.ref b139), .val (.ref b140), .val (.ref b141), .val (.int v143), .val (.int v146), .val (.int v147), .val (.int v149)] [(.int (f2 (0 : Int32) v127 (v127 + v128) (6 : Int32) (own_tail v127 (v127 + v128)) v143))])) st150 ?_
  refine Go.st (U' := T150.setTop (mkF m 165 #[.val (.int p0), .val (.int p1), .val (.int p2), .val (.int v127), .val (.int v128), .val (.int v129), .val (.ref b130), .val (.ref b139), .val (.ref b140), .val (.ref b141), .val (.int v143), .val (.int v146), .val (.int v147), .val (.int v149)] [(.int (1 : Int32))])) (fun t k => ?_) ?_
  · show Steps p.tables e below (T150.setTop (mkF m 155 #[.val (.int p0), .val (.int p1), .val (.int p2), .val (.int v127), .val (.int v128), .val (.int v129), .val (.ref b130), .val (.ref b139), .val (.ref b140), .val (.ref b141), .val (.int v143), .val (.int v146), .val (.int v147), .val (.int v149)] [(.int (f2 (0 : Int32) v127 (v127 + v128) (6 : Int32) (own_tail v127 (v127 + v128)) v143))])) _
    refine XS.iload X150.here hx rfl (hb hby at_155) rfl ?_
    show Steps p.tables e below (T150.setTop (mkF m 157 #[.val (.int p0), .val (.int p1), .val (.int p2), .val (.int v127), .val (.int v128), .val (.int v129), .val (.ref b130), .val (.ref b139), .val (.ref b140), .val (.ref b141), .val (.int v143), .val (.int v146), .val (.int v147), .val (.int v149)] [(.int v149), (.int (f2 (0 : Int32) v127 (v127 + v128) (6 : Int32) (own_tail v127 (v127 + v128)) v143))])) _
    refine XS.icmpNo X150.here hx rfl (hb hby at_157) rfl (teq ((by subst hv_v149; exact hfin.2.2.2.2) : (f2 (0 : Int32) v127 (v127 + v128) (6 : Int32) (own_tail v127 (v127 + v128)) v143) = v149)).2 ?_
    show Steps p.tables e below (T150.setTop (mkF m 160 #[.val (.int p0), .val (.int p1), .val (.int p2), .val (.int v127), .val (.int v128), .val (.int v129), .val (.ref b130), .val (.ref b139), .val (.ref b140), .val (.ref b141), .val (.int v143), .val (.int v146), .val (.int v147), .val (.int v149)] [])) _
    refine XS.iconst X150.here hx rfl (hb hby at_160) ?_
    show Steps p.tables e below (T150.setTop (mkF m 161 #[.val (.int p0), .val (.int p1), .val (.int p2), .val (.int v127), .val (.int v128), .val (.int v129), .val (.ref b130), .val (.ref b139), .val (.ref b140), .val (.ref b141), .val (.int v143), .val (.int v146), .val (.int v147), .val (.int v149)] [(.int (1 : Int32))])) _
    refine XS.goto X150.here hx rfl (pc0 := 161) (pc' := 165) rfl (hb hby at_161) (by decide) (by decide) ?_
    exact k
  refine own_ret (Q := Q0 Z p0 p1 p2 h0 n0) (v := some (.int (1 : Int32))) X150 hlk (fun h => by rw [hrt] at h; cases h) (by decide) (by decide) ?_ (fun fs hr => retN X150 hx (t := .boolean) hrt (by simp) (hb hby at_165) hr)
  rw [e150]
  exact ⟨rfl, N150⟩
set_option maxRecDepth 65536 in
set_option maxHeartbeats 40000000 in
theorem comes_1 {Post : Tables → Env → Array Value → State → Outcome → State → Prop} (hpost : ∀ tb e args s v u, (limb_1_1.after args s (.returned v) u = true ∧ limb_1_2.after args s (.returned v) u = true ∧ True) → FrameEnd s (.returned v) u (Jvm.fieldLocs frame_1_writes args s ++ Jvm.arrayLocs frame_1_arrays args s ++ Jvm.staticLocs frame_1_statics s) 24 128 → Post tb e args s (.returned v) u) :
    ArmFor flags0 classFile x code maxLocals ret World_1 tables_1 room_1 Calls_1 rest_1 Pre_1 Post := by
  intro l hfl _ _ p e ha hc hk s m args below hf hA hF happ hP
  obtain ⟨hcalls, hrest, hpre⟩ := hP
  obtain ⟨-, -, -, hnamed, -, -, -, hat⟩ := (Spec.applies_iff hf).mp happ
  obtain ⟨hg, hn⟩ := and_e (Cond.before_iff.mp (show (Jvm.Cond.and given_1 narrow_1).before args s = true from hpre))
  obtain ⟨gg1, gg2⟩ := and_e hg
  obtain ⟨gg3, gg4⟩ := and_e gg2
  obtain ⟨gg5, gg6⟩ := and_e gg4
  obtain ⟨w0, w1, w2, rfl⟩ : ∃ w0 w1 w2 : Value, args = #[w0, w1, w2] := by
    have hs : args.size = 3 := by simpa [Cond.value, given_1] using gg1
    obtain ⟨L⟩ := args
    match L, hs with
    | [w0, w1, w2], _ => exact ⟨w0, w1, w2, rfl⟩
  have hw := fun d (hd : d ∈ tables_1) => atoms_spec (ws := Jvm.Cond.code x code maxLocals ret :: tables_1) hat d (List.mem_cons_of_mem _ hd)
  obtain ⟨i0, ei0⟩ := is_v gg3
  obtain rfl : w0 = (.int i0) := Option.some.inj ei0
  obtain ⟨i1, ei1⟩ := is_v gg5
  obtain rfl : w1 = (.int i1) := Option.some.inj ei1
  obtain ⟨i2, ei2⟩ := is_v gg6
  obtain rfl : w2 = (.int i2) := Option.some.inj ei2
  obtain ⟨n, o, h1, h2, h3, _, L, rfl, ⟨rfl, N⟩, hq⟩ := rm0 l s _ hw tables_1 i0 i1 i2 s.heap s.heap.size (Nat.le_refl _)  p e ha hc hk s m _ below hf ((Spec.applies_iff_loose hf).mp happ).1 ⟨rfl, State.Warmed39.refl s, rfl⟩ trivial
  refine ⟨n, _, h1, h2, h3, hpost _ _ _ _ _ _ ⟨Cond.after_iff.mpr rfl, Cond.after_iff.mpr (eq_i res_at (Term.int_eval (1)) rfl), trivial⟩ ⟨hq.1, hq.2.1, (hq.2.2.sift fun y hy => Or.inr (N y hy)).mono (by decide) (by decide)⟩⟩
theorem main_1_1 : Claimed_1_1 := comes_1 fun _ _ _ _ _ _ h hF => ⟨h.1, hF⟩
theorem main_1_2 : Claimed_1_2 := comes_1 fun _ _ _ _ _ _ h hF => ⟨h.2.1, hF⟩
end Jvm.Pilot.@@N@@
namespace Jvm.Pilot.@@N@@
open Jvm Jvm.ClassFile Sem Op Lib Jvm.Free Jvm.Stand Jvm.Pilot.@@N@@.Jvm.D
/-! MADE BY PROGRAM (witnessworld.py) out of the Statement's table words and the real class files: 9 classes; the members and pool entries that the words name. The judged class is class 1, her method 1. -/
namespace start1
open Jvm.ClassFile
def u (s : String) : CpInfo := .utf8 (stringToUtf16 s)
/-- a pool by its gaps: so many unusable entries, then the entry; so many at the end -/
def gap : Nat → List CpInfo → List CpInfo
  | 0, r => r
  | n + 1, r => .unusable :: gap n r
def poolList (es : List (Nat × CpInfo)) (last : Nat) : List CpInfo := es.foldr (fun e r => gap e.1 (e.2 :: r)) (gap last [])
def pool (es : List (Nat × CpInfo)) (last : Nat) : Array CpInfo := ⟨poolList es last⟩
def fileOf (pool : Array CpInfo) (this : Nat) (attrs : Array Attribute := #[]) (ms : Array MethodInfo := #[]) (fl : Nat := 33) (sup : Nat := 0) (ifs : Array Nat := #[]) (fds : Array FieldInfo := #[]) : ClassFile where
  minorVersion := 0
  majorVersion := 65
  constantPool := pool
  accessFlags := fl
  thisClass := this
  superClass := sup
  interfaces := ifs
  fields := fds
  methods := ms
  attributes := attrs
def plain (name : String) (sup : Option ClassId) : Class where
  name := name
  kind := .ordinary
  loader := none
  accessFlags := 33
  super := sup
  interfaces := #[]
  cf := none
  fields := #[]
  methods := #[]
  instanceTypes := #[]
  staticTypes := #[]
  resolved := #[]
  callSites := []
  init := .initialized
  statics := none
  mirror := none

def pool0 : Array CpInfo := pool [(5, u "<init>"), (0, u "()V"), (1, .class_ 10), (1, u "java/lang/Object")] 113

def k0c0 : Code := { maxStack := 0, maxLocals := 1, code := object_method_1_code, exceptionTable := #[], attributes := #[] }
def k0m0 : Method := { name := "<init>", desc := "()V", sig := { parameters := [], returnType := none }, accessFlags := 1, code := some k0c0 }
/-- java/lang/Object -/
def k0 : Class := { plain "java/lang/Object" none with
  accessFlags := 33
  interfaces := #[]
  cf := some (fileOf pool0 8 #[] #[{ accessFlags := 1, nameIndex := 5, descriptorIndex := 6, attributes := #[] }] 33 0 #[] #[])
  fields := #[]
  methods := #[k0m0]
  instanceTypes := #[]
  staticTypes := #[]
  resolved := Array.replicate 124 none
  statics := none }

def pool1 : Array CpInfo := pool [(2, .class_ 4), (1, u "java/lang/Object"), (0, u "<init>"), (0, u "()V"), (0, .integer 2147483647), (0, .class_ 9), (0, u "com/example/wdth/wdth/PlanarEmbedding"), (0, .methodref 8 11), (0, .nameAndType 5 12), (0, u "([I[I[I)V"), (0, .methodref 8 14), (0, .nameAndType 15 16), (0, u "clockwise"), (0, u "(I)I"), (0, .class_ 18), (0, u "com/example/wdth/wdth/PlanarEmbeddingClockwisePinLaw"), (2, u "law"), (0, u "(III)Z")] 5

def k1m0 : Method := { name := "<init>", desc := "()V", sig := { parameters := [], returnType := none }, accessFlags := 2, code := none }
def k1c1 : Code := { maxStack := 5, maxLocals := 14, code := code, exceptionTable := #[], attributes := #[] }
def k1m1 : Method := { name := "law", desc := "(III)Z", sig := { parameters := [.int, .int, .int], returnType := some .boolean }, accessFlags := 9, code := some k1c1 }
/-- com/example/wdth/wdth/PlanarEmbeddingClockwisePinLaw -/
def k1 : Class := { plain "com/example/wdth/wdth/PlanarEmbeddingClockwisePinLaw" (some 0) with
  accessFlags := 49
  interfaces := #[]
  cf := some (fileOf pool1 17 #[] #[{ accessFlags := 2, nameIndex := 5, descriptorIndex := 6, attributes := #[] }, { accessFlags := 9, nameIndex := 21, descriptorIndex := 22, attributes := #[] }] 49 2 #[] #[])
  fields := #[]
  methods := #[k1m0, k1m1]
  instanceTypes := #[]
  staticTypes := #[]
  resolved := Array.replicate 28 none
  statics := none }

def pool2 : Array CpInfo := pool [(1, .methodref 2 3), (0, .class_ 4), (0, .nameAndType 5 6), (0, u "java/lang/Object"), (0, u "<init>"), (0, u "()V"), (0, .fieldref 8 9), (0, .class_ 10), (0, .nameAndType 11 12), (0, u "com/example/wdth/wdth/PlanarEmbedding"), (0, u "start"), (0, u "[I"), (0, .fieldref 8 14), (0, .nameAndType 15 12), (0, u "head"), (0, .fieldref 8 17), (0, .nameAndType 18 12), (0, u "mate"), (0, .fieldref 8 20), (0, .nameAndType 21 12), (0, u "tail"), (2, u "clockwise"), (0, u "(I)I"), (0, u "([I[I[I)V")] 9

def k2c0 : Code := { maxStack := 4, maxLocals := 6, code := prog_4_method_1_code, exceptionTable := #[], attributes := #[] }
def k2m0 : Method := { name := "<init>", desc := "([I[I[I)V", sig := { parameters := [(.array .int), (.array .int), (.array .int)], returnType := none }, accessFlags := 0, code := some k2c0 }
def k2c1 : Code := { maxStack := 4, maxLocals := 2, code := prog_4_method_6_code, exceptionTable := #[], attributes := #[] }
def k2m1 : Method := { name := "clockwise", desc := "(I)I", sig := { parameters := [.int], returnType := some .int }, accessFlags := 0, code := some k2c1 }
/-- com/example/wdth/wdth/PlanarEmbedding -/
def k2 : Class := { plain "com/example/wdth/wdth/PlanarEmbedding" (some 0) with
  accessFlags := 48
  interfaces := #[]
  cf := some (fileOf pool2 8 #[] #[{ accessFlags := 0, nameIndex := 5, descriptorIndex := 26, attributes := #[] }, { accessFlags := 0, nameIndex := 24, descriptorIndex := 25, attributes := #[] }] 48 2 #[] #[{ accessFlags := 18, nameIndex := 11, descriptorIndex := 12, attributes := #[] }, { accessFlags := 18, nameIndex := 21, descriptorIndex := 12, attributes := #[] }, { accessFlags := 18, nameIndex := 15, descriptorIndex := 12, attributes := #[] }, { accessFlags := 18, nameIndex := 18, descriptorIndex := 12, attributes := #[] }])
  fields := #[{ name := "start", type := (.array .int), accessFlags := 18, slot := 0, constantValue := 0 }, { name := "tail", type := (.array .int), accessFlags := 18, slot := 1, constantValue := 0 }, { name := "head", type := (.array .int), accessFlags := 18, slot := 2, constantValue := 0 }, { name := "mate", type := (.array .int), accessFlags := 18, slot := 3, constantValue := 0 }]
  methods := #[k2m0, k2m1]
  instanceTypes := #[(.array .int), (.array .int), (.array .int), (.array .int)]
  staticTypes := #[]
  resolved := Array.replicate 36 none
  statics := none }

def pool3 : Array CpInfo := pool [(1, u "java/lang/Cloneable"), (0, .class_ 1), (0, u "java/lang/Object"), (0, .class_ 3)] 3

/-- java/lang/Cloneable -/
def k3 : Class := { plain "java/lang/Cloneable" (some 0) with
  accessFlags := 1537
  interfaces := #[]
  cf := some (fileOf pool3 2 #[] #[] 1537 4 #[] #[])
  fields := #[]
  methods := #[]
  instanceTypes := #[]
  staticTypes := #[]
  resolved := Array.replicate 8 none
  statics := none }

def pool4 : Array CpInfo := pool [(1, u "java/io/Serializable"), (0, .class_ 1), (0, u "java/lang/Object"), (0, .class_ 3)] 3

/-- java/io/Serializable -/
def k4 : Class := { plain "java/io/Serializable" (some 0) with
  accessFlags := 1537
  interfaces := #[]
  cf := some (fileOf pool4 2 #[] #[] 1537 4 #[] #[])
  fields := #[]
  methods := #[]
  instanceTypes := #[]
  staticTypes := #[]
  resolved := Array.replicate 8 none
  statics := none }

/-- the primitive byte -/
def k5 : Class := { plain "byte" none with kind := .primitive 'B', accessFlags := 0x411 }
/-- [B -/
def k6 : Class := { plain "[B" (some 0) with kind := .array 5 .byte, interfaces := #[3, 4], accessFlags := 1041 }

/-- the primitive int -/
def k7 : Class := { plain "int" none with kind := .primitive 'I', accessFlags := 0x411 }
/-- [I -/
def k8 : Class := { plain "[I" (some 0) with kind := .array 7 .int, interfaces := #[3, 4], accessFlags := 1041 }

def heap : Heap := #[]
def classes : Array Class := #[k0, k1, k2, k3, k4, k5, k6, k7, k8]
def interned : List (Array UInt16 × Addr) := []
def slotsUsed : Nat := 0
def theMethod : MethodId := ⟨1, 1⟩
def args0 : Array Value := #[.int 5, .int 6, .int 7]
def aboutOver (below : List Frame) : State where
  vm := { classes := classes, interned := interned.toArray }
  heap := heap
  slotsUsed := slotsUsed
  threads := #[{ frames := .invoking theMethod args0 :: below }]
def below0 : List Frame := [.native { method := ⟨0, 0⟩, args := #[] }]
def about1 : State := aboutOver below0
def p0 : Program := .bare "" "" ""
def e0 : Env := launch0.env 0 0 0
theorem w_frames : about1.frames = Frame.invoking theMethod args0 :: below0 := rfl
set_option maxRecDepth 65536 in
theorem w_args : argsFit about1.vm theMethod args0 = true := by decide +kernel
set_option maxRecDepth 65536 in
theorem w_heap : heapFits about1 = true := by decide +kernel
set_option maxRecDepth 65536 in
theorem w_runnable : about1.curStatus? = some .runnable := by decide +kernel
set_option maxRecDepth 65536 in
theorem w_alone : about1.alone = true := by decide +kernel
set_option maxRecDepth 65536 in
theorem w_named : about1.methodNamed? x = some theMethod := by decide +kernel
set_option maxRecDepth 65536 in
theorem w_hears : about1.hears theMethod below0 = true := by decide +kernel
set_option maxRecDepth 65536 in
theorem w_ripe : about1.ripe theMethod args0 below0 = true := by decide +kernel
theorem w_running : about1.status = .running := rfl
set_option maxRecDepth 65536 in
theorem w_room : about1.hasRoom e0.platform room_1 = true :=
  launch0.hasRoom_least _ room_1 (by decide +kernel) (by decide +kernel) (by decide +kernel) (by decide +kernel) (by decide +kernel) (by decide +kernel)
theorem allAtoms_all (ts : List Jvm.Cond) (a : Array Jvm.Value) (st : Jvm.State) : (allAtoms ts).before a st = ts.all (fun c => c.before a st) := by
  induction ts with
  | nil => rfl
  | cons c t ih =>
    show (Jvm.Cond.and c (allAtoms t)).before a st = _
    rw [Jvm.Cond.before_and, ih, List.all_cons]
def words1 : List Jvm.Cond := Jvm.Cond.code x code maxLocals ret :: tables_1
/-- a 'code' word, met by the world's own term for the bytes: nothing is compared byte by byte -/
theorem code_word {y : MethodName} {bytes : ByteArray} {mx : Nat} {rt : Option FieldType} {a : Array Value} {s : State} {m : MethodId} {meth : Method} {c : Code} (h1 : s.methodNamed? y = some m) (h2 : s.vm.method? m = some meth) (h3 : meth.code = some c) (h4 : c.code = bytes)
    (h5 : (c.maxLocals == mx && c.exceptionTable.isEmpty && decide (c.maxStack ≤ mostOperands) && decide (meth.sig.returnType = rt) && !meth.locks && decide (parseMethodDescriptor y.desc = some meth.sig)) = true) : (Jvm.Cond.code y bytes mx rt).before a s = true := by
  simp only [Bool.and_eq_true, beq_iff_eq, Bool.not_eq_true', decide_eq_true_eq] at h5
  obtain ⟨⟨⟨⟨⟨g1, g2⟩, g3⟩, g4⟩, g5⟩, g6⟩ := h5
  simp [Cond.before, Cond.holds, Cond.value, h1, h2, h3, h4, g1, g2, g3, g4, g5, g6]
def isCode : Jvm.Cond → Bool
  | .code _ _ _ _ => true
  | _ => false
theorem all_split {L : List Jvm.Cond} {P : Jvm.Cond → Bool} (h1 : L.all (fun c => isCode c || P c) = true) (h2 : ∀ c ∈ L.filter isCode, P c = true) : L.all P = true := by
  refine List.all_eq_true.mpr fun c hc => ?_
  have h := List.all_eq_true.mp h1 c hc
  rcases Bool.eq_false_or_eq_true (isCode c) with hi | hi
  · exact h2 c (List.mem_filter.mpr ⟨hc, hi⟩)
  · simpa [hi] using h
set_option maxRecDepth 65536 in
theorem w_c0 : (Jvm.Cond.code x code maxLocals ret).before args0 about1 = true := code_word (m := ⟨1, 1⟩) (meth := k1m1) (c := k1c1) (by decide +kernel) rfl rfl rfl (by decide +kernel)
set_option maxRecDepth 65536 in
theorem w_c1 : (Jvm.Cond.code ({ cls := "com/example/wdth/wdth/PlanarEmbedding", name := "<init>", desc := "([I[I[I)V" } : Jvm.MethodName) prog_4_method_1_code (6 : Nat) (Option.none : Option Jvm.ClassFile.FieldType)).before args0 about1 = true := code_word (m := ⟨2, 0⟩) (meth := k2m0) (c := k2c0) (by decide +kernel) rfl rfl rfl (by decide +kernel)
set_option maxRecDepth 65536 in
theorem w_c2 : (Jvm.Cond.code ({ cls := "java/lang/Object", name := "<init>", desc := "()V" } : Jvm.MethodName) object_method_1_code (1 : Nat) (Option.none : Option Jvm.ClassFile.FieldType)).before args0 about1 = true := code_word (m := ⟨0, 0⟩) (meth := k0m0) (c := k0c0) (by decide +kernel) rfl rfl rfl (by decide +kernel)
set_option maxRecDepth 65536 in
theorem w_c3 : (Jvm.Cond.code ({ cls := "com/example/wdth/wdth/PlanarEmbedding", name := "clockwise", desc := "(I)I" } : Jvm.MethodName) prog_4_method_6_code (2 : Nat) (Option.some Jvm.ClassFile.FieldType.int)).before args0 about1 = true := code_word (m := ⟨2, 1⟩) (meth := k2m1) (c := k2c1) (by decide +kernel) rfl rfl rfl (by decide +kernel)
def codes1 : List Jvm.Cond := [Jvm.Cond.code x code maxLocals ret, Jvm.Cond.code ({ cls := "com/example/wdth/wdth/PlanarEmbedding", name := "<init>", desc := "([I[I[I)V" } : Jvm.MethodName) prog_4_method_1_code (6 : Nat) (Option.none : Option Jvm.ClassFile.FieldType), Jvm.Cond.code ({ cls := "java/lang/Object", name := "<init>", desc := "()V" } : Jvm.MethodName) object_method_1_code (1 : Nat) (Option.none : Option Jvm.ClassFile.FieldType), Jvm.Cond.code ({ cls := "com/example/wdth/wdth/PlanarEmbedding", name := "clockwise", desc := "(I)I" } : Jvm.MethodName) prog_4_method_6_code (2 : Nat) (Option.some Jvm.ClassFile.FieldType.int)]
set_option maxRecDepth 65536 in
theorem codes_eq : words1.filter isCode = codes1 := rfl
theorem w_codes : ∀ c ∈ words1.filter isCode, c.before args0 about1 = true := by
  rw [codes_eq]
  intro c hc
  simp only [codes1, List.mem_cons, List.not_mem_nil, or_false] at hc
  rcases hc with rfl | rfl | rfl | rfl
  · exact w_c0
  · exact w_c1
  · exact w_c2
  · exact w_c3
set_option maxRecDepth 65536 in
theorem w_t1 : (words1.take 24).all (fun c => isCode c || c.before args0 about1) = true := by decide +kernel
set_option maxRecDepth 65536 in
theorem w_t2 : (words1.drop 24).all (fun c => isCode c || c.before args0 about1) = true := by decide +kernel
theorem w_tables : (allAtoms (Jvm.Cond.code x code maxLocals ret :: tables_1)).before args0 about1 = true := by
  rw [allAtoms_all]
  show words1.all (fun c => c.before args0 about1) = true
  refine all_split ?_ w_codes
  rw [← List.take_append_drop 24 words1, List.all_append, w_t1, w_t2]
  rfl
set_option maxRecDepth 65536 in
theorem w_case : (Jvm.Cond.and given_1 narrow_1).before args0 about1 = true := by decide +kernel
theorem w_applies : (headSpec (Jvm.Cond.code x code maxLocals ret :: tables_1) room_1).applies x e0.platform about1 = true :=
  (Spec.applies_iff w_frames).mpr ⟨w_running, w_runnable, w_alone, w_named, w_hears, w_ripe, w_room, w_tables⟩
theorem atStart : AtStart classFile x code maxLocals ret World_1 tables_1 room_1 Calls_1 rest_1 Pre_1 launch0 p0 e0 about1 theMethod args0 below0 :=
  ⟨lists_1, trivial, launch0.admits_env _ _ _, launch0.least_env, fairChoices_fair.cas, fairChoices_fair.clock, w_frames, w_args, w_heap, w_applies, trivial, trivial, w_case⟩
end start1
theorem witness_1 : WitnessClaimed_1 := ⟨start1.p0, start1.e0, start1.about1, start1.theMethod, start1.args0, start1.below0, start1.atStart⟩
end Jvm.Pilot.@@N@@
