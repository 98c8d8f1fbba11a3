import JvmDerived
import JvmDerived.Pilot.@@N@@Statement
import JvmDerived.Pilot.@@N@@Code
set_option linter.unusedVariables false
set_option linter.unusedSimpArgs false
namespace Jvm.Pilot.@@N@@
open Jvm Jvm.ClassFile Sem Op Lib Jvm.Free Jvm.Stand Jvm.LawKit Jvm.RoadKit Bundle Jvm.Pilot.@@N@@.Jvm.D
theorem own_w {Z : State} {a0 : Array Value} {d : Jvm.Cond} (hw : ∀ d ∈ tables_1, d.before a0 Z = true) (i : Nat) (h : tables_1[i]? = some d) : d.before a0 Z = true := hw d (List.mem_of_getElem? h)
/-- from U the run comes to an end of which G says -/
def Go (p : Program) (e : Env) (below : List Frame) (G : State → Outcome → Prop) (U : State) : Prop := ∃ s₂ o, Steps p.tables e below U s₂ ∧ s₂.status = .running ∧ Ended s₂ below o ∧ G s₂ o
theorem Go.st {p : Program} {e : Env} {below : List Frame} {G : State → Outcome → Prop} {U U' : State} (h : ∀ t, Steps p.tables e below U' t → Steps p.tables e below U t) (k : Go p e below G U') : Go p e below G U := by
  obtain ⟨t, o, h1, r⟩ := k
  exact ⟨t, o, h _ h1, r⟩
theorem Go.tr {p : Program} {e : Env} {below : List Frame} {G : State → Outcome → Prop} {U U' : State} (h : Steps p.tables e below U U') (k : Go p e below G U') : Go p e below G U := by
  obtain ⟨t, o, h1, r⟩ := k
  exact ⟨t, o, h.trans h1, r⟩
theorem Go.join {p : Program} {e : Env} {below : List Frame} {G : State → Outcome → Prop} {U : State} {α : Type} {P : α → Prop} {F : α → State} (h2 : (∀ v, P v → Go p e below G (F v)) → Go p e below G U) (h1 : ∀ v, P v → Go p e below G (F v)) : Go p e below G U := h2 h1
theorem Go.join2 {p : Program} {e : Env} {below : List Frame} {G : State → Outcome → Prop} {U : State} {α β : Type} {P : α → β → Prop} {F : α → β → State} (h2 : (∀ v w, P v w → Go p e below G (F v w)) → Go p e below G U) (h1 : ∀ v w, P v w → Go p e below G (F v w)) : Go p e below G U := h2 h1
theorem Go.join3 {p : Program} {e : Env} {below : List Frame} {G : State → Outcome → Prop} {U : State} {α β γ : Type} {P : α → β → γ → Prop} {F : α → β → γ → State} (h2 : (∀ v w u, P v w u → Go p e below G (F v w u)) → Go p e below G U) (h1 : ∀ v w u, P v w u → Go p e below G (F v w u)) : Go p e below G U := h2 h1
theorem own_ret {p : Program} {l : Launch} {e : Env} {R : Room} {s : State} {m : MethodId} {args : Array Value} {below : List Frame} {meth : Method} {c : Code} {T U : State} {locs : List Loc} {cells slots : Nat} {Q : Option Value → Heap → List Loc → Prop} {rc rs : Nat} {v : Option Value}
    (X : Stand p l e R s m args below meth c T locs cells slots) (hlk : meth.locks = false) (hv : meth.sig.returnType = none → v = none) (hc : cells ≤ rc) (hs : slots ≤ rs) (hq : Q v T.heap locs)
    (st : ∀ fs, (∀ (f : JFrame) (acts : List Action), f.method = m → f.locked = none → f.entered = [] → (doReturn e (T.setTop f) acts v).1 = T.setFrames fs) → Steps p.tables e below U (T.setFrames fs)) :
    Go p e below (fun s₂ o => ∃ v L, o = .returned v ∧ Q v s₂.heap L ∧ FrameEnd s o s₂ L rc rs) U := by
  obtain ⟨fs, hr, hrun, hended, hW, hsame⟩ := X.leave (v := v) hv hlk
  exact ⟨_, _, st fs hr, hrun, hended, _, _, rfl, hq, ⟨_, rfl⟩, hW, hsame.mono hc hs⟩
theorem own_getI (L : List Int32) (i : Nat) : (L.map Value.int).getD i (.int 0) = .int (L.getD i 0) := by
  induction L generalizing i with
  | nil => rfl
  | cons a r ih => cases i with
    | zero => rfl
    | succ i => exact ih i
theorem own_getJ (L : List Int64) (i : Nat) : (L.map Value.long).getD i (.long 0) = .long (L.getD i 0) := by
  induction L generalizing i with
  | nil => rfl
  | cons a r ih => cases i with
    | zero => rfl
    | succ i => exact ih i
theorem own_getP {P : Int32 → Prop} (h0 : P 0) (L : List Int32) (h : ∀ x ∈ L, P x) (i : Nat) : P (L.getD i 0) := by
  induction L generalizing i with
  | nil => exact h0
  | cons a r ih => cases i with
    | zero => exact h a (List.mem_cons_self ..)
    | succ i => exact ih (fun x hx => h x (List.mem_cons_of_mem _ hx)) i
theorem own_mk (x m n : Int32) (k : Nat) (hk : k ≤ 31) (hm : m.toBitVec.toNat = 2 ^ k - 1) (hn : ((2 ^ k : Nat) : Int) ≤ n.toInt) : ¬ (x &&& m) < 0 ∧ (x &&& m) < n := by
  have h := c_mask x m k hk hm
  have h2 : (0 : Int) < ((2 ^ k : Nat) : Int) := Int.ofNat_lt.mpr (Nat.two_pow_pos k)
  have h3 := Int.emod_nonneg x.toInt (Int.ne_of_gt h2)
  have h4 := Int.emod_lt_of_pos x.toInt h2
  rw [Int32.lt_iff_toInt_lt, Int32.lt_iff_toInt_lt, h]
  exact ⟨Int.not_lt.mpr h3, Int.lt_of_lt_of_le h4 hn⟩
abbrev own_y0 : MethodName := ⟨"com/example/wdth/wdth/TypicalSequence", "atMost", "([III[III)Z"⟩
abbrev own_y1 : MethodName := ⟨"java/lang/Math", "min", "(II)I"⟩
abbrev own_y2 : MethodName := ⟨"com/example/wdth/wdth/TypicalSequenceAtMostPinLaw", "c", "([II[IIII)Z"⟩
def own_left (R : List Int32) (j : Int32) : Int32 := (if (0 : Int32) < j then (if (R.getD (j - (1 : Int32)).toNatClampNeg (0 : Int32)) = (0 : Int32) then (0 : Int32) else (1 : Int32)) else (0 : Int32))
def own_cell (ab le dg x y : Int32) : Int32 := (if ab = (0 : Int32) then (if le = (0 : Int32) then (if dg = (0 : Int32) then (0 : Int32) else (if y < x then (0 : Int32) else (1 : Int32))) else (if y < x then (0 : Int32) else (1 : Int32))) else (if y < x then (0 : Int32) else (1 : Int32)))
theorem own_narcell (ab le dg x y : Int32) : nar .boolean (own_cell ab le dg x y) = own_cell ab le dg x y := by
  unfold own_cell
  repeat' split
  all_goals decide
theorem own_setZ {Z : State} {h h' : Heap} {a : Addr} {k : ClassId} {z j x : Int32} {cl : Cell} {L : List Int32} (A : Arr Z h a cl .boolean) (q1 : cl.cls = k) (S : cl.slots.size = z.toNatClampNeg) (q3 : ¬ z < 0) (H : Has cl (List.map Value.int L) (.int 0)) (G : ∀ i, i < cl.slots.size → fits .boolean ((List.map Value.int L).getD i (.int 0)) = true) (W : Wr h h' a j.toNatClampNeg (.int (nar .boolean x))) (hl : j.toNatClampNeg < L.length) :
    Arv Z h' a k .boolean z (List.map Value.int (L.set j.toNatClampNeg (nar .boolean x))) (.int 0) := by
  have q := Arv.set A q1 S q3 H G (fits_nar_bool _) W j.toNatClampNeg rfl (by rw [List.length_map]; exact hl)
  rw [List.map_set]
  exact q
theorem own_setI {Z : State} {h h' : Heap} {a : Addr} {k : ClassId} {z j x : Int32} {cl : Cell} {L : List Int32} (A : Arr Z h a cl .int) (q1 : cl.cls = k) (S : cl.slots.size = z.toNatClampNeg) (q3 : ¬ z < 0) (H : Has cl (List.map Value.int L) (.int 0)) (G : ∀ i, i < cl.slots.size → fits .int ((List.map Value.int L).getD i (.int 0)) = true) (W : Wr h h' a j.toNatClampNeg (.int x)) (hl : j.toNatClampNeg < L.length) :
    Arv Z h' a k .int z (List.map Value.int (L.set j.toNatClampNeg x)) (.int 0) := by
  have q := Arv.set A q1 S q3 H G rfl W j.toNatClampNeg rfl (by rw [List.length_map]; exact hl)
  rw [List.map_set]
  exact q
theorem own_nat {j : Int32} (h : 0 ≤ j.toInt) : j.toNatClampNeg = j.toInt.toNat := rfl
theorem own_ij {j z : Int32} (h0 : 0 ≤ j.toInt) (h1 : j.toInt < z.toInt) : ¬ j < 0 ∧ j < z := by
  rw [Int32.lt_iff_toInt_lt, Int32.lt_iff_toInt_lt]
  exact ⟨Int.not_lt.mpr h0, h1⟩
theorem own_add {a b : Int32} (h1 : 0 ≤ a.toInt) (h2 : a.toInt ≤ 1000) (h3 : 0 ≤ b.toInt) (h4 : b.toInt ≤ 1000) : (a + b).toInt = a.toInt + b.toInt := by
  have q := c_iadd a b
  have r := rng32 (a + b)
  omega
theorem own_sub {a b : Int32} (h1 : 0 ≤ a.toInt) (h2 : a.toInt ≤ 1000) (h3 : 0 ≤ b.toInt) (h4 : b.toInt ≤ 1000) : (a - b).toInt = a.toInt - b.toInt := by
  have q := c_isub a b
  have r := rng32 (a - b)
  omega
theorem own_jm {j n : Int32} (h : (0 : Int32) < j) (h2 : j < n) : ¬ (j - (1 : Int32)) < 0 ∧ (j - (1 : Int32)) < n := by
  rw [Int32.lt_iff_toInt_lt] at h h2
  rw [Int32.lt_iff_toInt_lt, Int32.lt_iff_toInt_lt]
  have q := c_isub j 1
  have r := rng32 (j - 1)
  have r2 := rng32 j
  have k : (0 : Int32).toInt = 0 := rfl
  have k1 : (1 : Int32).toInt = 1 := rfl
  omega
theorem own_nv (n p5 : Int32) (h1 : 0 < n.toInt) (h2 : n.toInt ≤ 3) (h3 : p5.toInt + n.toInt ≤ 5) : 0 ≤ n.toInt ∧ n.toInt ≤ 3 ∧ p5.toInt + n.toInt ≤ 5 ∧ (0 : Int32) < n ∧ ¬ n < 0 ∧ n.toNatClampNeg ≤ 3 := by
  have k : (0 : Int32).toInt = 0 := rfl
  rw [Int32.lt_iff_toInt_lt, Int32.lt_iff_toInt_lt, k]
  refine ⟨by omega, h2, h3, h1, by omega, ?_⟩
  show n.toInt.toNat ≤ 3
  omega
theorem own_jz {n : Int32} (h : (0 : Int32) < n) : ¬ (n - (1 : Int32)) < 0 ∧ (n - (1 : Int32)) < n := by
  rw [Int32.lt_iff_toInt_lt] at h
  rw [Int32.lt_iff_toInt_lt, Int32.lt_iff_toInt_lt]
  have q := c_isub n 1
  have r := rng32 (n - 1)
  have r2 := rng32 n
  have k : (0 : Int32).toInt = 0 := rfl
  have k1 : (1 : Int32).toInt = 1 := rfl
  omega
def own_row (La Lb : List Int32) (i p5 : Int32) : Nat → Int32 → Int32 → List Int32 → List Int32
  | 0, _, _, R => R
  | k + 1, j, dg, R => own_row La Lb i p5 k (j + (1 : Int32)) (R.getD j.toNatClampNeg (0 : Int32)) (R.set j.toNatClampNeg (own_cell (R.getD j.toNatClampNeg (0 : Int32)) (own_left R j) dg (La.getD i.toNatClampNeg (0 : Int32)) (Lb.getD (p5 + j).toNatClampNeg (0 : Int32))))
def own_rows (La Lb : List Int32) (p2 p5 n : Int32) : Nat → Int32 → List Int32 → List Int32
  | 0, _, R => R
  | k + 1, i, R => own_rows La Lb p2 p5 n k (i + (1 : Int32)) (own_row La Lb i p5 n.toInt.toNat (0 : Int32) (if i = p2 then (1 : Int32) else (0 : Int32)) R)
theorem own_row_len (La Lb : List Int32) (i p5 : Int32) : ∀ (k : Nat) (j dg : Int32) (R : List Int32), (own_row La Lb i p5 k j dg R).length = R.length
  | 0, _, _, _ => rfl
  | k + 1, j, dg, R => by rw [own_row, own_row_len La Lb i p5 k, List.length_set]
theorem own_rows_len (La Lb : List Int32) (p2 p5 n : Int32) : ∀ (k : Nat) (i : Int32) (R : List Int32), (own_rows La Lb p2 p5 n k i R).length = R.length
  | 0, _, _ => rfl
  | k + 1, i, R => by rw [own_rows, own_rows_len La Lb p2 p5 n k, own_row_len]
theorem d1_64 : decode prog_7_method_3_code 64 = .ok (.iload 10, 2) := by decide +kernel
theorem d1_66 : decode prog_7_method_3_code 66 = .ok (.iload 6, 2) := by decide +kernel
theorem d1_68 : decode prog_7_method_3_code 68 = .ok (.if_icmp .ge 81, 3) := by decide +kernel
theorem d1_71 : decode prog_7_method_3_code 71 = .ok (.aload 7, 2) := by decide +kernel
theorem d1_73 : decode prog_7_method_3_code 73 = .ok (.iload 10, 2) := by decide +kernel
theorem d1_75 : decode prog_7_method_3_code 75 = .ok (.baload, 1) := by decide +kernel
theorem d1_76 : decode prog_7_method_3_code 76 = .ok (.istore 11, 2) := by decide +kernel
theorem d1_78 : decode prog_7_method_3_code 78 = .ok (.iload 10, 2) := by decide +kernel
theorem d1_80 : decode prog_7_method_3_code 80 = .ok (.ifCond .le 17, 3) := by decide +kernel
theorem d1_83 : decode prog_7_method_3_code 83 = .ok (.aload 7, 2) := by decide +kernel
theorem d1_85 : decode prog_7_method_3_code 85 = .ok (.iload 10, 2) := by decide +kernel
theorem d1_87 : decode prog_7_method_3_code 87 = .ok (.iconst 1, 1) := by decide +kernel
theorem d1_88 : decode prog_7_method_3_code 88 = .ok (.isub, 1) := by decide +kernel
theorem d1_89 : decode prog_7_method_3_code 89 = .ok (.baload, 1) := by decide +kernel
theorem d1_90 : decode prog_7_method_3_code 90 = .ok (.ifCond .eq 7, 3) := by decide +kernel
theorem d1_93 : decode prog_7_method_3_code 93 = .ok (.iconst 1, 1) := by decide +kernel
theorem d1_94 : decode prog_7_method_3_code 94 = .ok (.goto 4, 3) := by decide +kernel
theorem d1_97 : decode prog_7_method_3_code 97 = .ok (.iconst 0, 1) := by decide +kernel
theorem d1_98 : decode prog_7_method_3_code 98 = .ok (.istore 12, 2) := by decide +kernel
theorem d1_100 : decode prog_7_method_3_code 100 = .ok (.aload 7, 2) := by decide +kernel
theorem d1_102 : decode prog_7_method_3_code 102 = .ok (.iload 10, 2) := by decide +kernel
theorem d1_104 : decode prog_7_method_3_code 104 = .ok (.iload 11, 2) := by decide +kernel
theorem d1_106 : decode prog_7_method_3_code 106 = .ok (.ifCond .ne 13, 3) := by decide +kernel
theorem d1_109 : decode prog_7_method_3_code 109 = .ok (.iload 12, 2) := by decide +kernel
theorem d1_111 : decode prog_7_method_3_code 111 = .ok (.ifCond .ne 8, 3) := by decide +kernel
theorem d1_114 : decode prog_7_method_3_code 114 = .ok (.iload 9, 2) := by decide +kernel
theorem d1_116 : decode prog_7_method_3_code 116 = .ok (.ifCond .eq 21, 3) := by decide +kernel
theorem d1_119 : decode prog_7_method_3_code 119 = .ok (.aload_n 0, 1) := by decide +kernel
theorem d1_120 : decode prog_7_method_3_code 120 = .ok (.iload 8, 2) := by decide +kernel
theorem d1_122 : decode prog_7_method_3_code 122 = .ok (.iaload, 1) := by decide +kernel
theorem d1_123 : decode prog_7_method_3_code 123 = .ok (.aload_n 3, 1) := by decide +kernel
theorem d1_124 : decode prog_7_method_3_code 124 = .ok (.iload 4, 2) := by decide +kernel
theorem d1_126 : decode prog_7_method_3_code 126 = .ok (.iload 10, 2) := by decide +kernel
theorem d1_128 : decode prog_7_method_3_code 128 = .ok (.iadd, 1) := by decide +kernel
theorem d1_129 : decode prog_7_method_3_code 129 = .ok (.iaload, 1) := by decide +kernel
theorem d1_130 : decode prog_7_method_3_code 130 = .ok (.if_icmp .gt 7, 3) := by decide +kernel
theorem d1_133 : decode prog_7_method_3_code 133 = .ok (.iconst 1, 1) := by decide +kernel
theorem d1_134 : decode prog_7_method_3_code 134 = .ok (.goto 4, 3) := by decide +kernel
theorem d1_137 : decode prog_7_method_3_code 137 = .ok (.iconst 0, 1) := by decide +kernel
theorem d1_138 : decode prog_7_method_3_code 138 = .ok (.bastore, 1) := by decide +kernel
theorem d1_139 : decode prog_7_method_3_code 139 = .ok (.iload 11, 2) := by decide +kernel
theorem d1_141 : decode prog_7_method_3_code 141 = .ok (.istore 9, 2) := by decide +kernel
theorem d1_143 : decode prog_7_method_3_code 143 = .ok (.iinc 10 1, 3) := by decide +kernel
theorem d1_146 : decode prog_7_method_3_code 146 = .ok (.goto (-82), 3) := by decide +kernel
set_option maxRecDepth 65536 in
set_option maxHeartbeats 40000000 in
theorem turnA {p : Program} {l : Launch} {e : Env} {R_ : Room} {s : State} {m : MethodId} {args : Array Value} {below : List Frame} {meth : Method} {c : Code} {T0 : State} {locs : List Loc} {cells slots : Nat} {Z : State} {a0 : Array Value} {h0 : Heap} {G : State → Outcome → Prop} {n0 : Nat} (a1 : Addr) (a4 : Addr) (r : Addr) (k1 : ClassId) (k4 : ClassId) (kr : ClassId) (p2 : Int32) (p3 : Int32) (p5 : Int32) (p6 : Int32) (n : Int32) (La : List Int32) (Lb : List Int32) (hb_ : Heap) (i : Int32) (dg : Int32) (j : Int32) (R : List Int32) (s11 : Slot) (s12 : Slot)
    (X0 : Stand p l e R_ s m args below meth c T0 locs cells slots) (hx : p.tables.exec = Jvm.exec) (hZ : Z.Warmed39 s.vm) (hw : ∀ d ∈ tables_1, d.before a0 Z = true) (hby : c.code = prog_7_method_3_code) (hml : c.maxLocals = 13) (hown : s.vm.findClass "com/example/wdth/wdth/TypicalSequence" = some m.cls) (e0 : T0.heap = h0) (Z0 : n0 ≤ h0.size) (N0 : Fr n0 locs) (VA : Arv Z h0 a1 k1 .int (5 : Int32) (List.map Value.int La) (.int (0 : Int32))) (VB : Arv Z h0 a4 k4 .int (5 : Int32) (List.map Value.int Lb) (.int (0 : Int32))) (VR : Arv Z h0 r kr .boolean n (List.map Value.int R) (.int (0 : Int32))) (KP : Keep hb_ h0 []) (gR : n0 ≤ r) (sgr : hb_.size ≤ r) (n1r : a1 ≠ r) (n4r : a4 ≠ r) (hs11 : One s11) (hs12 : One s12) (hlt : j < n) (hj0 : ¬ j < 0) (hi5 : ¬ i < 0 ∧ i < (5 : Int32)) (hb5 : ¬ (p5 + j) < 0 ∧ (p5 + j) < (5 : Int32)) (hlen : j.toNatClampNeg < R.length)
    (K : ∀ (T' : State) (locs' : List Loc) (h' : Heap) (s11' : Slot) (s12' : Slot), One s11' → One s12' → Stand p l e R_ s m args below meth c T' locs' cells slots → T'.heap = h' → n0 ≤ h'.size → Fr n0 locs' → Arv Z h' a1 k1 .int (5 : Int32) (List.map Value.int La) (.int (0 : Int32)) → Arv Z h' a4 k4 .int (5 : Int32) (List.map Value.int Lb) (.int (0 : Int32)) → Arv Z h' r kr .boolean n (List.map Value.int (R.set j.toNatClampNeg (own_cell (R.getD j.toNatClampNeg (0 : Int32)) (own_left R j) dg (La.getD i.toNatClampNeg (0 : Int32)) (Lb.getD (p5 + j).toNatClampNeg (0 : Int32))))) (.int (0 : Int32)) → Keep hb_ h' [] → Go p e below G (T'.setTop (mkF m 64 #[.val (.ref a1), .val (.int p2), .val (.int p3), .val (.ref a4), .val (.int p5), .val (.int p6), .val (.int n), .val (.ref r), .val (.int i), .val (.int (R.getD j.toNatClampNeg (0 : Int32))), .val (.int (j + (1 : Int32))), s11', s12'] []))) : Go p e below G (T0.setTop (mkF m 64 #[.val (.ref a1), .val (.int p2), .val (.int p3), .val (.ref a4), .val (.int p5), .val (.int p6), .val (.int n), .val (.ref r), .val (.int i), .val (.int dg), .val (.int j), s11, s12] [])) := by
  obtain ⟨cl101, Ar101, q101, S101, N101, H101, G101⟩ := id VR
  refine Go.st (U' := T0.setTop (mkF m 78 #[.val (.ref a1), .val (.int p2), .val (.int p3), .val (.ref a4), .val (.int p5), .val (.int p6), .val (.int n), .val (.ref r), .val (.int i), .val (.int dg), .val (.int j), .val (.int (R.getD (j).toNatClampNeg (0 : Int32))), s12] [])) (fun t k => ?_) ?_
  · refine XS.iload X0.here hx rfl (hb hby d1_64) rfl ?_
    refine XS.iload X0.here hx rfl (hb hby d1_66) rfl ?_
    refine XS.icmpNo X0.here hx rfl (hb hby d1_68) rfl (tlt (hlt : j < n)).2.1 ?_
    refine XS.aload X0.here hx rfl (hb hby d1_71) rfl rfl ?_
    refine XS.iload X0.here hx rfl (hb hby d1_73) rfl ?_
    refine X0.baloadBooleans hx (j := j) (v := (.int (R.getD (j).toNatClampNeg (0 : Int32)))) (by rw [e0]; exact Ar101.1) (State.isArrayOf_alike hZ.alike Ar101.2.1) Ar101.2.2 (inb_of (j := j) S101 ⟨hj0, hlt⟩) (Has.at H101 (inb_of (j := j) S101 ⟨hj0, hlt⟩) (own_getI R _)) (g := (mkF m 75 #[.val (.ref a1), .val (.int p2), .val (.int p3), .val (.ref a4), .val (.int p5), .val (.int p6), .val (.int n), .val (.ref r), .val (.int i), .val (.int dg), .val (.int j), s11, s12] [(.int j), (.ref r)])) rfl rfl (hb hby d1_75) _ ?_
    refine XS.istore X0.here hx rfl (hb hby d1_76) rfl (l' := #[.val (.ref a1), .val (.int p2), .val (.int p3), .val (.ref a4), .val (.int p5), .val (.int p6), .val (.int n), .val (.ref r), .val (.int i), .val (.int dg), .val (.int j), .val (.int (R.getD (j).toNatClampNeg (0 : Int32))), s12]) (by rcases hs11 with rfl | ⟨w, rfl, hw_⟩ <;> first | rfl | (cases w <;> first | rfl | (simp [Value.category] at hw_))) ?_
    exact k
  generalize hv_v102 : (R.getD (j).toNatClampNeg (0 : Int32)) = v102
  refine Go.st (U' := T0.setTop (mkF m 80 #[.val (.ref a1), .val (.int p2), .val (.int p3), .val (.ref a4), .val (.int p5), .val (.int p6), .val (.int n), .val (.ref r), .val (.int i), .val (.int dg), .val (.int j), .val (.int v102), s12] [(.int j)])) (fun t k => ?_) ?_
  · refine XS.iload X0.here hx rfl (hb hby d1_78) rfl ?_
    exact k
  refine Go.join (P := fun (v105 : Int32) => v105 = (if (0 : Int32) < j then (if (R.getD ((j - (1 : Int32))).toNatClampNeg (0 : Int32)) = (0 : Int32) then (0 : Int32) else (1 : Int32)) else (0 : Int32))) (F := fun (v105 : Int32) => T0.setTop (mkF m 98 #[.val (.ref a1), .val (.int p2), .val (.int p3), .val (.ref a4), .val (.int p5), .val (.int p6), .val (.int n), .val (.ref r), .val (.int i), .val (.int dg), .val (.int j), .val (.int v102), s12] [(.int v105)])) (fun J106 => ?_) (fun v105 hv_v105 => ?_)
  · by_cases hc103 : (0 : Int32) < j
    · refine Go.st (U' := T0.setTop (mkF m 90 #[.val (.ref a1), .val (.int p2), .val (.int p3), .val (.ref a4), .val (.int p5), .val (.int p6), .val (.int n), .val (.ref r), .val (.int i), .val (.int dg), .val (.int j), .val (.int v102), s12] [(.int (R.getD ((j - (1 : Int32))).toNatClampNeg (0 : Int32)))])) (fun t k => ?_) ?_
      · refine XS.ifNo X0.here hx rfl (hb hby d1_80) rfl ((if0 _ _).trans (tlt hc103).2.2.2) ?_
        refine XS.aload X0.here hx rfl (hb hby d1_83) rfl rfl ?_
        refine XS.iload X0.here hx rfl (hb hby d1_85) rfl ?_
        refine XS.iconst X0.here hx rfl (hb hby d1_87) ?_
        refine XS.isub X0.here hx rfl (hb hby d1_88) rfl ?_
        refine X0.baloadBooleans hx (j := (j - (1 : Int32))) (v := (.int (R.getD ((j - (1 : Int32))).toNatClampNeg (0 : Int32)))) (by rw [e0]; exact Ar101.1) (State.isArrayOf_alike hZ.alike Ar101.2.1) Ar101.2.2 (inb_of (j := (j - (1 : Int32))) S101 (own_jm hc103 hlt)) (Has.at H101 (inb_of (j := (j - (1 : Int32))) S101 (own_jm hc103 hlt)) (own_getI R _)) (g := (mkF m 89 #[.val (.ref a1), .val (.int p2), .val (.int p3), .val (.ref a4), .val (.int p5), .val (.int p6), .val (.int n), .val (.ref r), .val (.int i), .val (.int dg), .val (.int j), .val (.int v102), s12] [(.int (j - (1 : Int32))), (.ref r)])) rfl rfl (hb hby d1_89) _ ?_
        exact k
      by_cases hc104 : (R.getD ((j - (1 : Int32))).toNatClampNeg (0 : Int32)) = (0 : Int32)
      · refine Go.st (U' := T0.setTop (mkF m 98 #[.val (.ref a1), .val (.int p2), .val (.int p3), .val (.ref a4), .val (.int p5), .val (.int p6), .val (.int n), .val (.ref r), .val (.int i), .val (.int dg), .val (.int j), .val (.int v102), s12] [(.int (0 : Int32))])) (fun t k => ?_) ?_
        · refine XS.ifYes X0.here hx rfl (pc0 := 90) (pc' := 97) rfl (hb hby d1_90) rfl ((if0 _ _).trans (teq hc104).1) (by decide) (by decide) ?_
          refine XS.iconst X0.here hx rfl (hb hby d1_97) ?_
          exact k
        exact J106 _ (by first | rfl | simp only [if_pos hc103, if_pos hc104])
      · refine Go.st (U' := T0.setTop (mkF m 98 #[.val (.ref a1), .val (.int p2), .val (.int p3), .val (.ref a4), .val (.int p5), .val (.int p6), .val (.int n), .val (.ref r), .val (.int i), .val (.int dg), .val (.int j), .val (.int v102), s12] [(.int (1 : Int32))])) (fun t k => ?_) ?_
        · refine XS.ifNo X0.here hx rfl (hb hby d1_90) rfl ((if0 _ _).trans (feq hc104).1) ?_
          refine XS.iconst X0.here hx rfl (hb hby d1_93) ?_
          refine XS.goto X0.here hx rfl (pc0 := 94) (pc' := 98) rfl (hb hby d1_94) (by decide) (by decide) ?_
          exact k
        exact J106 _ (by first | rfl | simp only [if_pos hc103, if_neg hc104])
    · refine Go.st (U' := T0.setTop (mkF m 98 #[.val (.ref a1), .val (.int p2), .val (.int p3), .val (.ref a4), .val (.int p5), .val (.int p6), .val (.int n), .val (.ref r), .val (.int i), .val (.int dg), .val (.int j), .val (.int v102), s12] [(.int (0 : Int32))])) (fun t k => ?_) ?_
      · refine XS.ifYes X0.here hx rfl (pc0 := 80) (pc' := 97) rfl (hb hby d1_80) rfl ((if0 _ _).trans (flt hc103).2.2.2) (by decide) (by decide) ?_
        refine XS.iconst X0.here hx rfl (hb hby d1_97) ?_
        exact k
      exact J106 _ (by first | rfl | simp only [if_neg hc103])
  refine Go.st (U' := T0.setTop (mkF m 106 #[.val (.ref a1), .val (.int p2), .val (.int p3), .val (.ref a4), .val (.int p5), .val (.int p6), .val (.int n), .val (.ref r), .val (.int i), .val (.int dg), .val (.int j), .val (.int v102), .val (.int v105)] [(.int v102), (.int j), (.ref r)])) (fun t k => ?_) ?_
  · refine XS.istore X0.here hx rfl (hb hby d1_98) rfl (l' := #[.val (.ref a1), .val (.int p2), .val (.int p3), .val (.ref a4), .val (.int p5), .val (.int p6), .val (.int n), .val (.ref r), .val (.int i), .val (.int dg), .val (.int j), .val (.int v102), .val (.int v105)]) (by rcases hs12 with rfl | ⟨w, rfl, hw_⟩ <;> first | rfl | (cases w <;> first | rfl | (simp [Value.category] at hw_))) ?_
    refine XS.aload X0.here hx rfl (hb hby d1_100) rfl rfl ?_
    refine XS.iload X0.here hx rfl (hb hby d1_102) rfl ?_
    refine XS.iload X0.here hx rfl (hb hby d1_104) rfl ?_
    exact k
  refine Go.join (P := fun (v119 : Int32) => v119 = (if v102 = (0 : Int32) then (if v105 = (0 : Int32) then (if dg = (0 : Int32) then (0 : Int32) else (if (Lb.getD ((p5 + j)).toNatClampNeg (0 : Int32)) < (La.getD (i).toNatClampNeg (0 : Int32)) then (0 : Int32) else (1 : Int32))) else (if (Lb.getD ((p5 + j)).toNatClampNeg (0 : Int32)) < (La.getD (i).toNatClampNeg (0 : Int32)) then (0 : Int32) else (1 : Int32))) else (if (Lb.getD ((p5 + j)).toNatClampNeg (0 : Int32)) < (La.getD (i).toNatClampNeg (0 : Int32)) then (0 : Int32) else (1 : Int32)))) (F := fun (v119 : Int32) => T0.setTop (mkF m 138 #[.val (.ref a1), .val (.int p2), .val (.int p3), .val (.ref a4), .val (.int p5), .val (.int p6), .val (.int n), .val (.ref r), .val (.int i), .val (.int dg), .val (.int j), .val (.int v102), .val (.int v105)] [(.int v119), (.int j), (.ref r)])) (fun J120 => ?_) (fun v119 hv_v119 => ?_)
  · by_cases hc107 : v102 = (0 : Int32)
    · refine Go.st (U' := T0.setTop (mkF m 111 #[.val (.ref a1), .val (.int p2), .val (.int p3), .val (.ref a4), .val (.int p5), .val (.int p6), .val (.int n), .val (.ref r), .val (.int i), .val (.int dg), .val (.int j), .val (.int v102), .val (.int v105)] [(.int v105), (.int j), (.ref r)])) (fun t k => ?_) ?_
      · refine XS.ifNo X0.here hx rfl (hb hby d1_106) rfl ((if0 _ _).trans (teq hc107).2) ?_
        refine XS.iload X0.here hx rfl (hb hby d1_109) rfl ?_
        exact k
      by_cases hc108 : v105 = (0 : Int32)
      · refine Go.st (U' := T0.setTop (mkF m 116 #[.val (.ref a1), .val (.int p2), .val (.int p3), .val (.ref a4), .val (.int p5), .val (.int p6), .val (.int n), .val (.ref r), .val (.int i), .val (.int dg), .val (.int j), .val (.int v102), .val (.int v105)] [(.int dg), (.int j), (.ref r)])) (fun t k => ?_) ?_
        · refine XS.ifNo X0.here hx rfl (hb hby d1_111) rfl ((if0 _ _).trans (teq hc108).2) ?_
          refine XS.iload X0.here hx rfl (hb hby d1_114) rfl ?_
          exact k
        by_cases hc109 : dg = (0 : Int32)
        · refine Go.st (U' := T0.setTop (mkF m 138 #[.val (.ref a1), .val (.int p2), .val (.int p3), .val (.ref a4), .val (.int p5), .val (.int p6), .val (.int n), .val (.ref r), .val (.int i), .val (.int dg), .val (.int j), .val (.int v102), .val (.int v105)] [(.int (0 : Int32)), (.int j), (.ref r)])) (fun t k => ?_) ?_
          · refine XS.ifYes X0.here hx rfl (pc0 := 116) (pc' := 137) rfl (hb hby d1_116) rfl ((if0 _ _).trans (teq hc109).1) (by decide) (by decide) ?_
            refine XS.iconst X0.here hx rfl (hb hby d1_137) ?_
            exact k
          exact J120 _ (by first | rfl | simp only [if_pos hc107, if_pos hc108, if_pos hc109])
        · obtain ⟨cl110, Ar110, q110, S110, N110, H110, G110⟩ := id VA
          obtain ⟨cl111, Ar111, q111, S111, N111, H111, G111⟩ := id VB
          refine Go.st (U' := T0.setTop (mkF m 130 #[.val (.ref a1), .val (.int p2), .val (.int p3), .val (.ref a4), .val (.int p5), .val (.int p6), .val (.int n), .val (.ref r), .val (.int i), .val (.int dg), .val (.int j), .val (.int v102), .val (.int v105)] [(.int (Lb.getD ((p5 + j)).toNatClampNeg (0 : Int32))), (.int (La.getD (i).toNatClampNeg (0 : Int32))), (.int j), (.ref r)])) (fun t k => ?_) ?_
          · refine XS.ifNo X0.here hx rfl (hb hby d1_116) rfl ((if0 _ _).trans (feq hc109).1) ?_
            refine XS.aloadN X0.here hx rfl (hb hby d1_119) rfl rfl ?_
            refine XS.iload X0.here hx rfl (hb hby d1_120) rfl ?_
            refine X0.iaload hx (j := i) (v := (.int (La.getD (i).toNatClampNeg (0 : Int32)))) (by rw [e0]; exact Ar110.1) (State.isArrayOf_alike hZ.alike Ar110.2.1) Ar110.2.2 (inb_of (j := i) S110 hi5) (Has.at H110 (inb_of (j := i) S110 hi5) (own_getI La _)) (g := (mkF m 122 #[.val (.ref a1), .val (.int p2), .val (.int p3), .val (.ref a4), .val (.int p5), .val (.int p6), .val (.int n), .val (.ref r), .val (.int i), .val (.int dg), .val (.int j), .val (.int v102), .val (.int v105)] [(.int i), (.ref a1), (.int j), (.ref r)])) rfl rfl (hb hby d1_122) _ ?_
            refine XS.aloadN X0.here hx rfl (hb hby d1_123) rfl rfl ?_
            refine XS.iload X0.here hx rfl (hb hby d1_124) rfl ?_
            refine XS.iload X0.here hx rfl (hb hby d1_126) rfl ?_
            refine XS.iadd X0.here hx rfl (hb hby d1_128) rfl ?_
            refine X0.iaload hx (j := (p5 + j)) (v := (.int (Lb.getD ((p5 + j)).toNatClampNeg (0 : Int32)))) (by rw [e0]; exact Ar111.1) (State.isArrayOf_alike hZ.alike Ar111.2.1) Ar111.2.2 (inb_of (j := (p5 + j)) S111 hb5) (Has.at H111 (inb_of (j := (p5 + j)) S111 hb5) (own_getI Lb _)) (g := (mkF m 129 #[.val (.ref a1), .val (.int p2), .val (.int p3), .val (.ref a4), .val (.int p5), .val (.int p6), .val (.int n), .val (.ref r), .val (.int i), .val (.int dg), .val (.int j), .val (.int v102), .val (.int v105)] [(.int (p5 + j)), (.ref a4), (.int (La.getD (i).toNatClampNeg (0 : Int32))), (.int j), (.ref r)])) rfl rfl (hb hby d1_129) _ ?_
            exact k
          by_cases hc112 : (Lb.getD ((p5 + j)).toNatClampNeg (0 : Int32)) < (La.getD (i).toNatClampNeg (0 : Int32))
          · refine Go.st (U' := T0.setTop (mkF m 138 #[.val (.ref a1), .val (.int p2), .val (.int p3), .val (.ref a4), .val (.int p5), .val (.int p6), .val (.int n), .val (.ref r), .val (.int i), .val (.int dg), .val (.int j), .val (.int v102), .val (.int v105)] [(.int (0 : Int32)), (.int j), (.ref r)])) (fun t k => ?_) ?_
            · refine XS.icmpYes X0.here hx rfl (pc0 := 130) (pc' := 137) rfl (hb hby d1_130) rfl (tlt hc112).2.2.1 (by decide) (by decide) ?_
              refine XS.iconst X0.here hx rfl (hb hby d1_137) ?_
              exact k
            exact J120 _ (by first | rfl | simp only [if_pos hc107, if_pos hc108, if_neg hc109, if_pos hc112])
          · refine Go.st (U' := T0.setTop (mkF m 138 #[.val (.ref a1), .val (.int p2), .val (.int p3), .val (.ref a4), .val (.int p5), .val (.int p6), .val (.int n), .val (.ref r), .val (.int i), .val (.int dg), .val (.int j), .val (.int v102), .val (.int v105)] [(.int (1 : Int32)), (.int j), (.ref r)])) (fun t k => ?_) ?_
            · refine XS.icmpNo X0.here hx rfl (hb hby d1_130) rfl (flt hc112).2.2.1 ?_
              refine XS.iconst X0.here hx rfl (hb hby d1_133) ?_
              refine XS.goto X0.here hx rfl (pc0 := 134) (pc' := 138) rfl (hb hby d1_134) (by decide) (by decide) ?_
              exact k
            exact J120 _ (by first | rfl | simp only [if_pos hc107, if_pos hc108, if_neg hc109, if_neg hc112])
      · obtain ⟨cl113, Ar113, q113, S113, N113, H113, G113⟩ := id VA
        obtain ⟨cl114, Ar114, q114, S114, N114, H114, G114⟩ := id VB
        refine Go.st (U' := T0.setTop (mkF m 130 #[.val (.ref a1), .val (.int p2), .val (.int p3), .val (.ref a4), .val (.int p5), .val (.int p6), .val (.int n), .val (.ref r), .val (.int i), .val (.int dg), .val (.int j), .val (.int v102), .val (.int v105)] [(.int (Lb.getD ((p5 + j)).toNatClampNeg (0 : Int32))), (.int (La.getD (i).toNatClampNeg (0 : Int32))), (.int j), (.ref r)])) (fun t k => ?_) ?_
        · refine XS.ifYes X0.here hx rfl (pc0 := 111) (pc' := 119) rfl (hb hby d1_111) rfl ((if0 _ _).trans (feq hc108).2) (by decide) (by decide) ?_
          refine XS.aloadN X0.here hx rfl (hb hby d1_119) rfl rfl ?_
          refine XS.iload X0.here hx rfl (hb hby d1_120) rfl ?_
          refine X0.iaload hx (j := i) (v := (.int (La.getD (i).toNatClampNeg (0 : Int32)))) (by rw [e0]; exact Ar113.1) (State.isArrayOf_alike hZ.alike Ar113.2.1) Ar113.2.2 (inb_of (j := i) S113 hi5) (Has.at H113 (inb_of (j := i) S113 hi5) (own_getI La _)) (g := (mkF m 122 #[.val (.ref a1), .val (.int p2), .val (.int p3), .val (.ref a4), .val (.int p5), .val (.int p6), .val (.int n), .val (.ref r), .val (.int i), .val (.int dg), .val (.int j), .val (.int v102), .val (.int v105)] [(.int i), (.ref a1), (.int j), (.ref r)])) rfl rfl (hb hby d1_122) _ ?_
          refine XS.aloadN X0.here hx rfl (hb hby d1_123) rfl rfl ?_
          refine XS.iload X0.here hx rfl (hb hby d1_124) rfl ?_
          refine XS.iload X0.here hx rfl (hb hby d1_126) rfl ?_
          refine XS.iadd X0.here hx rfl (hb hby d1_128) rfl ?_
          refine X0.iaload hx (j := (p5 + j)) (v := (.int (Lb.getD ((p5 + j)).toNatClampNeg (0 : Int32)))) (by rw [e0]; exact Ar114.1) (State.isArrayOf_alike hZ.alike Ar114.2.1) Ar114.2.2 (inb_of (j := (p5 + j)) S114 hb5) (Has.at H114 (inb_of (j := (p5 + j)) S114 hb5) (own_getI Lb _)) (g := (mkF m 129 #[.val (.ref a1), .val (.int p2), .val (.int p3), .val (.ref a4), .val (.int p5), .val (.int p6), .val (.int n), .val (.ref r), .val (.int i), .val (.int dg), .val (.int j), .val (.int v102), .val (.int v105)] [(.int (p5 + j)), (.ref a4), (.int (La.getD (i).toNatClampNeg (0 : Int32))), (.int j), (.ref r)])) rfl rfl (hb hby d1_129) _ ?_
          exact k
        by_cases hc115 : (Lb.getD ((p5 + j)).toNatClampNeg (0 : Int32)) < (La.getD (i).toNatClampNeg (0 : Int32))
        · refine Go.st (U' := T0.setTop (mkF m 138 #[.val (.ref a1), .val (.int p2), .val (.int p3), .val (.ref a4), .val (.int p5), .val (.int p6), .val (.int n), .val (.ref r), .val (.int i), .val (.int dg), .val (.int j), .val (.int v102), .val (.int v105)] [(.int (0 : Int32)), (.int j), (.ref r)])) (fun t k => ?_) ?_
          · refine XS.icmpYes X0.here hx rfl (pc0 := 130) (pc' := 137) rfl (hb hby d1_130) rfl (tlt hc115).2.2.1 (by decide) (by decide) ?_
            refine XS.iconst X0.here hx rfl (hb hby d1_137) ?_
            exact k
          exact J120 _ (by first | rfl | simp only [if_pos hc107, if_neg hc108, if_pos hc115])
        · refine Go.st (U' := T0.setTop (mkF m 138 #[.val (.ref a1), .val (.int p2), .val (.int p3), .val (.ref a4), .val (.int p5), .val (.int p6), .val (.int n), .val (.ref r), .val (.int i), .val (.int dg), .val (.int j), .val (.int v102), .val (.int v105)] [(.int (1 : Int32)), (.int j), (.ref r)])) (fun t k => ?_) ?_
          · refine XS.icmpNo X0.here hx rfl (hb hby d1_130) rfl (flt hc115).2.2.1 ?_
            refine XS.iconst X0.here hx rfl (hb hby d1_133) ?_
            refine XS.goto X0.here hx rfl (pc0 := 134) (pc' := 138) rfl (hb hby d1_134) (by decide) (by decide) ?_
            exact k
          exact J120 _ (by first | rfl | simp only [if_pos hc107, if_neg hc108, if_neg hc115])
    · obtain ⟨cl116, Ar116, q116, S116, N116, H116, G116⟩ := id VA
      obtain ⟨cl117, Ar117, q117, S117, N117, H117, G117⟩ := id VB
      refine Go.st (U' := T0.setTop (mkF m 130 #[.val (.ref a1), .val (.int p2), .val (.int p3), .val (.ref a4), .val (.int p5), .val (.int p6), .val (.int n), .val (.ref r), .val (.int i), .val (.int dg), .val (.int j), .val (.int v102), .val (.int v105)] [(.int (Lb.getD ((p5 + j)).toNatClampNeg (0 : Int32))), (.int (La.getD (i).toNatClampNeg (0 : Int32))), (.int j), (.ref r)])) (fun t k => ?_) ?_
      · refine XS.ifYes X0.here hx rfl (pc0 := 106) (pc' := 119) rfl (hb hby d1_106) rfl ((if0 _ _).trans (feq hc107).2) (by decide) (by decide) ?_
        refine XS.aloadN X0.here hx rfl (hb hby d1_119) rfl rfl ?_
        refine XS.iload X0.here hx rfl (hb hby d1_120) rfl ?_
        refine X0.iaload hx (j := i) (v := (.int (La.getD (i).toNatClampNeg (0 : Int32)))) (by rw [e0]; exact Ar116.1) (State.isArrayOf_alike hZ.alike Ar116.2.1) Ar116.2.2 (inb_of (j := i) S116 hi5) (Has.at H116 (inb_of (j := i) S116 hi5) (own_getI La _)) (g := (mkF m 122 #[.val (.ref a1), .val (.int p2), .val (.int p3), .val (.ref a4), .val (.int p5), .val (.int p6), .val (.int n), .val (.ref r), .val (.int i), .val (.int dg), .val (.int j), .val (.int v102), .val (.int v105)] [(.int i), (.ref a1), (.int j), (.ref r)])) rfl rfl (hb hby d1_122) _ ?_
        refine XS.aloadN X0.here hx rfl (hb hby d1_123) rfl rfl ?_
        refine XS.iload X0.here hx rfl (hb hby d1_124) rfl ?_
        refine XS.iload X0.here hx rfl (hb hby d1_126) rfl ?_
        refine XS.iadd X0.here hx rfl (hb hby d1_128) rfl ?_
        refine X0.iaload hx (j := (p5 + j)) (v := (.int (Lb.getD ((p5 + j)).toNatClampNeg (0 : Int32)))) (by rw [e0]; exact Ar117.1) (State.isArrayOf_alike hZ.alike Ar117.2.1) Ar117.2.2 (inb_of (j := (p5 + j)) S117 hb5) (Has.at H117 (inb_of (j := (p5 + j)) S117 hb5) (own_getI Lb _)) (g := (mkF m 129 #[.val (.ref a1), .val (.int p2), .val (.int p3), .val (.ref a4), .val (.int p5), .val (.int p6), .val (.int n), .val (.ref r), .val (.int i), .val (.int dg), .val (.int j), .val (.int v102), .val (.int v105)] [(.int (p5 + j)), (.ref a4), (.int (La.getD (i).toNatClampNeg (0 : Int32))), (.int j), (.ref r)])) rfl rfl (hb hby d1_129) _ ?_
        exact k
      by_cases hc118 : (Lb.getD ((p5 + j)).toNatClampNeg (0 : Int32)) < (La.getD (i).toNatClampNeg (0 : Int32))
      · refine Go.st (U' := T0.setTop (mkF m 138 #[.val (.ref a1), .val (.int p2), .val (.int p3), .val (.ref a4), .val (.int p5), .val (.int p6), .val (.int n), .val (.ref r), .val (.int i), .val (.int dg), .val (.int j), .val (.int v102), .val (.int v105)] [(.int (0 : Int32)), (.int j), (.ref r)])) (fun t k => ?_) ?_
        · refine XS.icmpYes X0.here hx rfl (pc0 := 130) (pc' := 137) rfl (hb hby d1_130) rfl (tlt hc118).2.2.1 (by decide) (by decide) ?_
          refine XS.iconst X0.here hx rfl (hb hby d1_137) ?_
          exact k
        exact J120 _ (by first | rfl | simp only [if_neg hc107, if_pos hc118])
      · refine Go.st (U' := T0.setTop (mkF m 138 #[.val (.ref a1), .val (.int p2), .val (.int p3), .val (.ref a4), .val (.int p5), .val (.int p6), .val (.int n), .val (.ref r), .val (.int i), .val (.int dg), .val (.int j), .val (.int v102), .val (.int v105)] [(.int (1 : Int32)), (.int j), (.ref r)])) (fun t k => ?_) ?_
        · refine XS.icmpNo X0.here hx rfl (hb hby d1_130) rfl (flt hc118).2.2.1 ?_
          refine XS.iconst X0.here hx rfl (hb hby d1_133) ?_
          refine XS.goto X0.here hx rfl (pc0 := 134) (pc' := 138) rfl (hb hby d1_134) (by decide) (by decide) ?_
          exact k
        exact J120 _ (by first | rfl | simp only [if_neg hc107, if_neg hc118])
  obtain ⟨T121, h121, X121, e121, W121, st121⟩ := stZ X0 hx hZ e0 Ar101 (j := j) (inb_of (j := j) S101 ⟨hj0, hlt⟩) (g := (mkF m 138 #[.val (.ref a1), .val (.int p2), .val (.int p3), .val (.ref a4), .val (.int p5), .val (.int p6), .val (.int n), .val (.ref r), .val (.int i), .val (.int dg), .val (.int j), .val (.int v102), .val (.int v105)] [(.int v119), (.int j), (.ref r)])) rfl rfl (hb hby d1_138)
  have VR_121 := own_setZ Ar101 q101 S101 N101 H101 G101 W121 hlen
  have hcell : nar .boolean v119 = own_cell (R.getD j.toNatClampNeg (0 : Int32)) (own_left R j) dg (La.getD i.toNatClampNeg (0 : Int32)) (Lb.getD (p5 + j).toNatClampNeg (0 : Int32)) := by subst hv_v119 hv_v105 hv_v102; exact own_narcell _ _ _ _ _
  rw [hcell] at VR_121
  have VA_121 := VA.other W121 n1r
  have VB_121 := VB.other W121 n4r
  have N121 := Fr.snoc X121 N0 gR
  have KK121 : Keep hb_ h121 [] := KP.wr W121 (Or.inr sgr)
  have sz121 : n0 ≤ h121.size := Nat.le_trans Z0 (Nat.le_of_eq W121.size.symm)
  refine Go.st (U' := T121.setTop (mkF m 139 #[.val (.ref a1), .val (.int p2), .val (.int p3), .val (.ref a4), .val (.int p5), .val (.int p6), .val (.int n), .val (.ref r), .val (.int i), .val (.int dg), .val (.int j), .val (.int v102), .val (.int v105)] [])) (fun t k => st121 _ k) ?_
  refine Go.st (U' := T121.setTop (mkF m 64 #[.val (.ref a1), .val (.int p2), .val (.int p3), .val (.ref a4), .val (.int p5), .val (.int p6), .val (.int n), .val (.ref r), .val (.int i), .val (.int v102), .val (.int (j + (1 : Int32))), .val (.int v102), .val (.int v105)] [])) (fun t k => ?_) ?_
  · refine XS.iload X121.here hx rfl (hb hby d1_139) rfl ?_
    refine XS.istore X121.here hx rfl (hb hby d1_141) rfl (l' := #[.val (.ref a1), .val (.int p2), .val (.int p3), .val (.ref a4), .val (.int p5), .val (.int p6), .val (.int n), .val (.ref r), .val (.int i), .val (.int v102), .val (.int j), .val (.int v102), .val (.int v105)]) rfl ?_
    refine XS.iinc X121.here hx rfl (hb hby d1_143) rfl (l' := #[.val (.ref a1), .val (.int p2), .val (.int p3), .val (.ref a4), .val (.int p5), .val (.int p6), .val (.int n), .val (.ref r), .val (.int i), .val (.int v102), .val (.int (j + (1 : Int32))), .val (.int v102), .val (.int v105)]) rfl ?_
    refine XS.goto X121.here hx rfl (pc0 := 146) (pc' := 64) rfl (hb hby d1_146) (by decide) (by decide) ?_
    exact k
  (subst hv_v102; exact K _ _ _ _ _ (One.val rfl) (One.val rfl) X121 e121 sz121 N121 VA_121 VB_121 VR_121 KK121)
set_option maxRecDepth 65536 in
set_option maxHeartbeats 40000000 in
theorem exitA {p : Program} {l : Launch} {e : Env} {R_ : Room} {s : State} {m : MethodId} {args : Array Value} {below : List Frame} {meth : Method} {c : Code} {T0 : State} {locs : List Loc} {cells slots : Nat} {Z : State} {a0 : Array Value} {h0 : Heap} {G : State → Outcome → Prop} {n0 : Nat} (a1 : Addr) (a4 : Addr) (r : Addr) (k1 : ClassId) (k4 : ClassId) (kr : ClassId) (p2 : Int32) (p3 : Int32) (p5 : Int32) (p6 : Int32) (n : Int32) (La : List Int32) (Lb : List Int32) (hb_ : Heap) (i : Int32) (dg : Int32) (j : Int32) (R : List Int32) (s11 : Slot) (s12 : Slot)
    (X0 : Stand p l e R_ s m args below meth c T0 locs cells slots) (hx : p.tables.exec = Jvm.exec) (hZ : Z.Warmed39 s.vm) (hw : ∀ d ∈ tables_1, d.before a0 Z = true) (hby : c.code = prog_7_method_3_code) (hml : c.maxLocals = 13) (hown : s.vm.findClass "com/example/wdth/wdth/TypicalSequence" = some m.cls) (e0 : T0.heap = h0) (Z0 : n0 ≤ h0.size) (N0 : Fr n0 locs) (VA : Arv Z h0 a1 k1 .int (5 : Int32) (List.map Value.int La) (.int (0 : Int32))) (VB : Arv Z h0 a4 k4 .int (5 : Int32) (List.map Value.int Lb) (.int (0 : Int32))) (VR : Arv Z h0 r kr .boolean n (List.map Value.int R) (.int (0 : Int32))) (KP : Keep hb_ h0 []) (gR : n0 ≤ r) (sgr : hb_.size ≤ r) (n1r : a1 ≠ r) (n4r : a4 ≠ r) (hge : ¬ j < n)
    (K : Go p e below G (T0.setTop (mkF m 149 #[.val (.ref a1), .val (.int p2), .val (.int p3), .val (.ref a4), .val (.int p5), .val (.int p6), .val (.int n), .val (.ref r), .val (.int i), .val (.int dg), .val (.int j), s11, s12] []))) : Go p e below G (T0.setTop (mkF m 64 #[.val (.ref a1), .val (.int p2), .val (.int p3), .val (.ref a4), .val (.int p5), .val (.int p6), .val (.int n), .val (.ref r), .val (.int i), .val (.int dg), .val (.int j), s11, s12] [])) := by
  refine Go.st (U' := T0.setTop (mkF m 149 #[.val (.ref a1), .val (.int p2), .val (.int p3), .val (.ref a4), .val (.int p5), .val (.int p6), .val (.int n), .val (.ref r), .val (.int i), .val (.int dg), .val (.int j), s11, s12] [])) (fun t k => ?_) ?_
  · refine XS.iload X0.here hx rfl (hb hby d1_64) rfl ?_
    refine XS.iload X0.here hx rfl (hb hby d1_66) rfl ?_
    refine XS.icmpYes X0.here hx rfl (pc0 := 68) (pc' := 149) rfl (hb hby d1_68) rfl (flt (hge : ¬ (j < n))).2.1 (by decide) (by decide) ?_
    exact k
  exact K
theorem d1_42 : decode prog_7_method_3_code 42 = .ok (.iload 8, 2) := by decide +kernel
theorem d1_44 : decode prog_7_method_3_code 44 = .ok (.iload_n 2, 1) := by decide +kernel
theorem d1_45 : decode prog_7_method_3_code 45 = .ok (.if_icmp .ge 110, 3) := by decide +kernel
theorem d1_48 : decode prog_7_method_3_code 48 = .ok (.iload 8, 2) := by decide +kernel
theorem d1_50 : decode prog_7_method_3_code 50 = .ok (.iload_n 1, 1) := by decide +kernel
theorem d1_51 : decode prog_7_method_3_code 51 = .ok (.if_icmp .ne 7, 3) := by decide +kernel
theorem d1_54 : decode prog_7_method_3_code 54 = .ok (.iconst 1, 1) := by decide +kernel
theorem d1_55 : decode prog_7_method_3_code 55 = .ok (.goto 4, 3) := by decide +kernel
theorem d1_58 : decode prog_7_method_3_code 58 = .ok (.iconst 0, 1) := by decide +kernel
theorem d1_59 : decode prog_7_method_3_code 59 = .ok (.istore 9, 2) := by decide +kernel
theorem d1_61 : decode prog_7_method_3_code 61 = .ok (.iconst 0, 1) := by decide +kernel
theorem d1_62 : decode prog_7_method_3_code 62 = .ok (.istore 10, 2) := by decide +kernel
set_option maxRecDepth 65536 in
set_option maxHeartbeats 40000000 in
theorem headB {p : Program} {l : Launch} {e : Env} {R_ : Room} {s : State} {m : MethodId} {args : Array Value} {below : List Frame} {meth : Method} {c : Code} {T0 : State} {locs : List Loc} {cells slots : Nat} {Z : State} {a0 : Array Value} {h0 : Heap} {G : State → Outcome → Prop} {n0 : Nat} (a1 : Addr) (a4 : Addr) (r : Addr) (k1 : ClassId) (k4 : ClassId) (kr : ClassId) (p2 : Int32) (p3 : Int32) (p5 : Int32) (p6 : Int32) (n : Int32) (La : List Int32) (Lb : List Int32) (hb_ : Heap) (i : Int32) (R : List Int32) (s9 : Slot) (s10 : Slot) (s11 : Slot) (s12 : Slot)
    (X0 : Stand p l e R_ s m args below meth c T0 locs cells slots) (hx : p.tables.exec = Jvm.exec) (hZ : Z.Warmed39 s.vm) (hw : ∀ d ∈ tables_1, d.before a0 Z = true) (hby : c.code = prog_7_method_3_code) (hml : c.maxLocals = 13) (hown : s.vm.findClass "com/example/wdth/wdth/TypicalSequence" = some m.cls) (e0 : T0.heap = h0) (Z0 : n0 ≤ h0.size) (N0 : Fr n0 locs) (VA : Arv Z h0 a1 k1 .int (5 : Int32) (List.map Value.int La) (.int (0 : Int32))) (VB : Arv Z h0 a4 k4 .int (5 : Int32) (List.map Value.int Lb) (.int (0 : Int32))) (VR : Arv Z h0 r kr .boolean n (List.map Value.int R) (.int (0 : Int32))) (KP : Keep hb_ h0 []) (gR : n0 ≤ r) (sgr : hb_.size ≤ r) (n1r : a1 ≠ r) (n4r : a4 ≠ r) (hs9 : One s9) (hs10 : One s10) (hlt : i < p3)
    (K : Go p e below G (T0.setTop (mkF m 64 #[.val (.ref a1), .val (.int p2), .val (.int p3), .val (.ref a4), .val (.int p5), .val (.int p6), .val (.int n), .val (.ref r), .val (.int i), .val (.int (if i = p2 then (1 : Int32) else (0 : Int32))), .val (.int (0 : Int32)), s11, s12] []))) : Go p e below G (T0.setTop (mkF m 42 #[.val (.ref a1), .val (.int p2), .val (.int p3), .val (.ref a4), .val (.int p5), .val (.int p6), .val (.int n), .val (.ref r), .val (.int i), s9, s10, s11, s12] [])) := by
  refine Go.st (U' := T0.setTop (mkF m 51 #[.val (.ref a1), .val (.int p2), .val (.int p3), .val (.ref a4), .val (.int p5), .val (.int p6), .val (.int n), .val (.ref r), .val (.int i), s9, s10, s11, s12] [(.int p2), (.int i)])) (fun t k => ?_) ?_
  · refine XS.iload X0.here hx rfl (hb hby d1_42) rfl ?_
    refine XS.iloadN X0.here hx rfl (hb hby d1_44) rfl ?_
    refine XS.icmpNo X0.here hx rfl (hb hby d1_45) rfl (tlt (hlt : i < p3)).2.1 ?_
    refine XS.iload X0.here hx rfl (hb hby d1_48) rfl ?_
    refine XS.iloadN X0.here hx rfl (hb hby d1_50) rfl ?_
    exact k
  refine Go.join (P := fun (v123 : Int32) => v123 = (if i = p2 then (1 : Int32) else (0 : Int32))) (F := fun (v123 : Int32) => T0.setTop (mkF m 59 #[.val (.ref a1), .val (.int p2), .val (.int p3), .val (.ref a4), .val (.int p5), .val (.int p6), .val (.int n), .val (.ref r), .val (.int i), s9, s10, s11, s12] [(.int v123)])) (fun J124 => ?_) (fun v123 hv_v123 => ?_)
  · by_cases hc122 : i = p2
    · refine Go.st (U' := T0.setTop (mkF m 59 #[.val (.ref a1), .val (.int p2), .val (.int p3), .val (.ref a4), .val (.int p5), .val (.int p6), .val (.int n), .val (.ref r), .val (.int i), s9, s10, s11, s12] [(.int (1 : Int32))])) (fun t k => ?_) ?_
      · refine XS.icmpNo X0.here hx rfl (hb hby d1_51) rfl (teq hc122).2 ?_
        refine XS.iconst X0.here hx rfl (hb hby d1_54) ?_
        refine XS.goto X0.here hx rfl (pc0 := 55) (pc' := 59) rfl (hb hby d1_55) (by decide) (by decide) ?_
        exact k
      exact J124 _ (by first | rfl | simp only [if_pos hc122])
    · refine Go.st (U' := T0.setTop (mkF m 59 #[.val (.ref a1), .val (.int p2), .val (.int p3), .val (.ref a4), .val (.int p5), .val (.int p6), .val (.int n), .val (.ref r), .val (.int i), s9, s10, s11, s12] [(.int (0 : Int32))])) (fun t k => ?_) ?_
      · refine XS.icmpYes X0.here hx rfl (pc0 := 51) (pc' := 58) rfl (hb hby d1_51) rfl (feq hc122).2 (by decide) (by decide) ?_
        refine XS.iconst X0.here hx rfl (hb hby d1_58) ?_
        exact k
      exact J124 _ (by first | rfl | simp only [if_neg hc122])
  refine Go.st (U' := T0.setTop (mkF m 64 #[.val (.ref a1), .val (.int p2), .val (.int p3), .val (.ref a4), .val (.int p5), .val (.int p6), .val (.int n), .val (.ref r), .val (.int i), .val (.int v123), .val (.int (0 : Int32)), s11, s12] [])) (fun t k => ?_) ?_
  · refine XS.istore X0.here hx rfl (hb hby d1_59) rfl (l' := #[.val (.ref a1), .val (.int p2), .val (.int p3), .val (.ref a4), .val (.int p5), .val (.int p6), .val (.int n), .val (.ref r), .val (.int i), .val (.int v123), s10, s11, s12]) (by rcases hs9 with rfl | ⟨w, rfl, hw_⟩ <;> first | rfl | (cases w <;> first | rfl | (simp [Value.category] at hw_))) ?_
    refine XS.iconst X0.here hx rfl (hb hby d1_61) ?_
    refine XS.istore X0.here hx rfl (hb hby d1_62) rfl (l' := #[.val (.ref a1), .val (.int p2), .val (.int p3), .val (.ref a4), .val (.int p5), .val (.int p6), .val (.int n), .val (.ref r), .val (.int i), .val (.int v123), .val (.int (0 : Int32)), s11, s12]) (by rcases hs10 with rfl | ⟨w, rfl, hw_⟩ <;> first | rfl | (cases w <;> first | rfl | (simp [Value.category] at hw_))) ?_
    exact k
  (subst hv_v123; exact K)
theorem d1_149 : decode prog_7_method_3_code 149 = .ok (.iinc 8 1, 3) := by decide +kernel
theorem d1_152 : decode prog_7_method_3_code 152 = .ok (.goto (-110), 3) := by decide +kernel
set_option maxRecDepth 65536 in
set_option maxHeartbeats 40000000 in
theorem backB {p : Program} {l : Launch} {e : Env} {R_ : Room} {s : State} {m : MethodId} {args : Array Value} {below : List Frame} {meth : Method} {c : Code} {T0 : State} {locs : List Loc} {cells slots : Nat} {Z : State} {a0 : Array Value} {h0 : Heap} {G : State → Outcome → Prop} {n0 : Nat} (a1 : Addr) (a4 : Addr) (r : Addr) (k1 : ClassId) (k4 : ClassId) (kr : ClassId) (p2 : Int32) (p3 : Int32) (p5 : Int32) (p6 : Int32) (n : Int32) (La : List Int32) (Lb : List Int32) (hb_ : Heap) (i : Int32) (dg : Int32) (j : Int32) (R : List Int32) (s11 : Slot) (s12 : Slot)
    (X0 : Stand p l e R_ s m args below meth c T0 locs cells slots) (hx : p.tables.exec = Jvm.exec) (hZ : Z.Warmed39 s.vm) (hw : ∀ d ∈ tables_1, d.before a0 Z = true) (hby : c.code = prog_7_method_3_code) (hml : c.maxLocals = 13) (hown : s.vm.findClass "com/example/wdth/wdth/TypicalSequence" = some m.cls) (e0 : T0.heap = h0) (Z0 : n0 ≤ h0.size) (N0 : Fr n0 locs) (VA : Arv Z h0 a1 k1 .int (5 : Int32) (List.map Value.int La) (.int (0 : Int32))) (VB : Arv Z h0 a4 k4 .int (5 : Int32) (List.map Value.int Lb) (.int (0 : Int32))) (VR : Arv Z h0 r kr .boolean n (List.map Value.int R) (.int (0 : Int32))) (KP : Keep hb_ h0 []) (gR : n0 ≤ r) (sgr : hb_.size ≤ r) (n1r : a1 ≠ r) (n4r : a4 ≠ r)
    (K : Go p e below G (T0.setTop (mkF m 42 #[.val (.ref a1), .val (.int p2), .val (.int p3), .val (.ref a4), .val (.int p5), .val (.int p6), .val (.int n), .val (.ref r), .val (.int (i + (1 : Int32))), .val (.int dg), .val (.int j), s11, s12] []))) : Go p e below G (T0.setTop (mkF m 149 #[.val (.ref a1), .val (.int p2), .val (.int p3), .val (.ref a4), .val (.int p5), .val (.int p6), .val (.int n), .val (.ref r), .val (.int i), .val (.int dg), .val (.int j), s11, s12] [])) := by
  refine Go.st (U' := T0.setTop (mkF m 42 #[.val (.ref a1), .val (.int p2), .val (.int p3), .val (.ref a4), .val (.int p5), .val (.int p6), .val (.int n), .val (.ref r), .val (.int (i + (1 : Int32))), .val (.int dg), .val (.int j), s11, s12] [])) (fun t k => ?_) ?_
  · refine XS.iinc X0.here hx rfl (hb hby d1_149) rfl (l' := #[.val (.ref a1), .val (.int p2), .val (.int p3), .val (.ref a4), .val (.int p5), .val (.int p6), .val (.int n), .val (.ref r), .val (.int (i + (1 : Int32))), .val (.int dg), .val (.int j), s11, s12]) rfl ?_
    refine XS.goto X0.here hx rfl (pc0 := 152) (pc' := 42) rfl (hb hby d1_152) (by decide) (by decide) ?_
    exact k
  exact K
set_option maxRecDepth 65536 in
set_option maxHeartbeats 40000000 in
theorem exitB {p : Program} {l : Launch} {e : Env} {R_ : Room} {s : State} {m : MethodId} {args : Array Value} {below : List Frame} {meth : Method} {c : Code} {T0 : State} {locs : List Loc} {cells slots : Nat} {Z : State} {a0 : Array Value} {h0 : Heap} {G : State → Outcome → Prop} {n0 : Nat} (a1 : Addr) (a4 : Addr) (r : Addr) (k1 : ClassId) (k4 : ClassId) (kr : ClassId) (p2 : Int32) (p3 : Int32) (p5 : Int32) (p6 : Int32) (n : Int32) (La : List Int32) (Lb : List Int32) (hb_ : Heap) (i : Int32) (R : List Int32) (s9 : Slot) (s10 : Slot) (s11 : Slot) (s12 : Slot)
    (X0 : Stand p l e R_ s m args below meth c T0 locs cells slots) (hx : p.tables.exec = Jvm.exec) (hZ : Z.Warmed39 s.vm) (hw : ∀ d ∈ tables_1, d.before a0 Z = true) (hby : c.code = prog_7_method_3_code) (hml : c.maxLocals = 13) (hown : s.vm.findClass "com/example/wdth/wdth/TypicalSequence" = some m.cls) (e0 : T0.heap = h0) (Z0 : n0 ≤ h0.size) (N0 : Fr n0 locs) (VA : Arv Z h0 a1 k1 .int (5 : Int32) (List.map Value.int La) (.int (0 : Int32))) (VB : Arv Z h0 a4 k4 .int (5 : Int32) (List.map Value.int Lb) (.int (0 : Int32))) (VR : Arv Z h0 r kr .boolean n (List.map Value.int R) (.int (0 : Int32))) (KP : Keep hb_ h0 []) (gR : n0 ≤ r) (sgr : hb_.size ≤ r) (n1r : a1 ≠ r) (n4r : a4 ≠ r) (hge : ¬ i < p3)
    (K : Go p e below G (T0.setTop (mkF m 155 #[.val (.ref a1), .val (.int p2), .val (.int p3), .val (.ref a4), .val (.int p5), .val (.int p6), .val (.int n), .val (.ref r), .val (.int i), s9, s10, s11, s12] []))) : Go p e below G (T0.setTop (mkF m 42 #[.val (.ref a1), .val (.int p2), .val (.int p3), .val (.ref a4), .val (.int p5), .val (.int p6), .val (.int n), .val (.ref r), .val (.int i), s9, s10, s11, s12] [])) := by
  refine Go.st (U' := T0.setTop (mkF m 155 #[.val (.ref a1), .val (.int p2), .val (.int p3), .val (.ref a4), .val (.int p5), .val (.int p6), .val (.int n), .val (.ref r), .val (.int i), s9, s10, s11, s12] [])) (fun t k => ?_) ?_
  · refine XS.iload X0.here hx rfl (hb hby d1_42) rfl ?_
    refine XS.iloadN X0.here hx rfl (hb hby d1_44) rfl ?_
    refine XS.icmpYes X0.here hx rfl (pc0 := 45) (pc' := 155) rfl (hb hby d1_45) rfl (flt (hge : ¬ (i < p3))).2.1 (by decide) (by decide) ?_
    exact k
  exact K
set_option maxRecDepth 65536 in
set_option maxHeartbeats 40000000 in
theorem loopA {p : Program} {l : Launch} {e : Env} {R_ : Room} {s : State} {m : MethodId} {args : Array Value} {below : List Frame} {meth : Method} {c : Code} {cells slots : Nat} {Z : State} {a0 : Array Value} {G : State → Outcome → Prop} {n0 : Nat} (a1 a4 r : Addr) (k1 k4 kr : ClassId) (p2 p3 p5 p6 n : Int32) (La Lb : List Int32) (hb_ : Heap) (i : Int32) (hx : p.tables.exec = Jvm.exec) (hZ : Z.Warmed39 s.vm) (hw : ∀ d ∈ tables_1, d.before a0 Z = true) (hby : c.code = prog_7_method_3_code) (hml : c.maxLocals = 13) (hown : s.vm.findClass "com/example/wdth/wdth/TypicalSequence" = some m.cls) (gR : n0 ≤ r) (sgr : hb_.size ≤ r) (n1r : a1 ≠ r) (n4r : a4 ≠ r) (b1 : 0 ≤ n.toInt) (b2 : n.toInt ≤ 3) (b3 : 0 ≤ p5.toInt) (b4 : p5.toInt + n.toInt ≤ 5) (hi0 : 0 ≤ i.toInt) (hi5 : i.toInt < 5) (k : Nat) :
    ∀ (T0 : State) (locs : List Loc) (h0 : Heap) (j dg : Int32) (R : List Int32) (s11 s12 : Slot), One s11 → One s12 → Stand p l e R_ s m args below meth c T0 locs cells slots → T0.heap = h0 → n0 ≤ h0.size → Fr n0 locs → Arv Z h0 a1 k1 .int (5 : Int32) (List.map Value.int La) (.int (0 : Int32)) → Arv Z h0 a4 k4 .int (5 : Int32) (List.map Value.int Lb) (.int (0 : Int32)) → Arv Z h0 r kr .boolean n (List.map Value.int R) (.int (0 : Int32)) → Keep hb_ h0 [] → 0 ≤ j.toInt → j.toInt + (k : Int) = n.toInt → R.length = n.toInt.toNat →
      (∀ (T' : State) (locs' : List Loc) (h' : Heap) (dg' j' : Int32) (s11' : Slot) (s12' : Slot), One s11' → One s12' → Stand p l e R_ s m args below meth c T' locs' cells slots → T'.heap = h' → n0 ≤ h'.size → Fr n0 locs' → Arv Z h' a1 k1 .int (5 : Int32) (List.map Value.int La) (.int (0 : Int32)) → Arv Z h' a4 k4 .int (5 : Int32) (List.map Value.int Lb) (.int (0 : Int32)) → Arv Z h' r kr .boolean n (List.map Value.int (own_row La Lb i p5 k j dg R)) (.int (0 : Int32)) → Keep hb_ h' [] → Go p e below G (T'.setTop (mkF m 149 #[.val (.ref a1), .val (.int p2), .val (.int p3), .val (.ref a4), .val (.int p5), .val (.int p6), .val (.int n), .val (.ref r), .val (.int i), .val (.int dg'), .val (.int j'), s11', s12'] []))) → Go p e below G (T0.setTop (mkF m 64 #[.val (.ref a1), .val (.int p2), .val (.int p3), .val (.ref a4), .val (.int p5), .val (.int p6), .val (.int n), .val (.ref r), .val (.int i), .val (.int dg), .val (.int j), s11, s12] [])) := by
  induction k with
  | zero =>
    intro T0 locs h0 j dg R s11 s12 o1 o2 X0 e0 Z0 N0 VA VB VR KP hj hk hl K
    exact exitA a1 a4 r k1 k4 kr p2 p3 p5 p6 n La Lb hb_ i dg j R s11 s12 X0 hx hZ hw hby hml hown e0 Z0 N0 VA VB VR KP gR sgr n1r n4r (by rw [Int32.lt_iff_toInt_lt]; omega) (K T0 locs h0 dg j s11 s12 o1 o2 X0 e0 Z0 N0 VA VB VR KP)
  | succ k ih =>
    intro T0 locs h0 j dg R s11 s12 o1 o2 X0 e0 Z0 N0 VA VB VR KP hj hk hl K
    have z1 : (1 : Int32).toInt = 1 := rfl
    have hs : (j + (1 : Int32)).toInt = j.toInt + 1 := by rw [own_add hj (by omega) (by omega) (by omega), z1]
    have hp : (p5 + j).toInt = p5.toInt + j.toInt := own_add b3 (by omega) hj (by omega)
    refine turnA a1 a4 r k1 k4 kr p2 p3 p5 p6 n La Lb hb_ i dg j R s11 s12 X0 hx hZ hw hby hml hown e0 Z0 N0 VA VB VR KP gR sgr n1r n4r o1 o2 (by rw [Int32.lt_iff_toInt_lt]; omega) (own_ij hj (z := n) (by omega)).1 (own_ij hi0 (by show i.toInt < 5; omega)) (own_ij (by omega) (by show (p5 + j).toInt < 5; omega)) (by rw [own_nat hj]; omega) ?_
    intro T' locs' h' s11' s12' o1' o2' X' e' Z' N' VA' VB' VR' KP'
    exact ih T' locs' h' (j + (1 : Int32)) _ _ s11' s12' o1' o2' X' e' Z' N' VA' VB' VR' KP' (by omega) (by omega) (by rw [List.length_set]; exact hl) K
set_option maxRecDepth 65536 in
set_option maxHeartbeats 40000000 in
theorem loopB {p : Program} {l : Launch} {e : Env} {R_ : Room} {s : State} {m : MethodId} {args : Array Value} {below : List Frame} {meth : Method} {c : Code} {cells slots : Nat} {Z : State} {a0 : Array Value} {G : State → Outcome → Prop} {n0 : Nat} (a1 a4 r : Addr) (k1 k4 kr : ClassId) (p2 p3 p5 p6 n : Int32) (La Lb : List Int32) (hb_ : Heap) (hx : p.tables.exec = Jvm.exec) (hZ : Z.Warmed39 s.vm) (hw : ∀ d ∈ tables_1, d.before a0 Z = true) (hby : c.code = prog_7_method_3_code) (hml : c.maxLocals = 13) (hown : s.vm.findClass "com/example/wdth/wdth/TypicalSequence" = some m.cls) (gR : n0 ≤ r) (sgr : hb_.size ≤ r) (n1r : a1 ≠ r) (n4r : a4 ≠ r) (b1 : 0 ≤ n.toInt) (b2 : n.toInt ≤ 3) (b3 : 0 ≤ p5.toInt) (b4 : p5.toInt + n.toInt ≤ 5) (b5 : 0 ≤ p2.toInt) (b6 : p3.toInt ≤ 5) (k : Nat) :
    ∀ (T0 : State) (locs : List Loc) (h0 : Heap) (i : Int32) (R : List Int32) (s9 s10 s11 s12 : Slot), One s9 → One s10 → One s11 → One s12 → Stand p l e R_ s m args below meth c T0 locs cells slots → T0.heap = h0 → n0 ≤ h0.size → Fr n0 locs → Arv Z h0 a1 k1 .int (5 : Int32) (List.map Value.int La) (.int (0 : Int32)) → Arv Z h0 a4 k4 .int (5 : Int32) (List.map Value.int Lb) (.int (0 : Int32)) → Arv Z h0 r kr .boolean n (List.map Value.int R) (.int (0 : Int32)) → Keep hb_ h0 [] → 0 ≤ i.toInt → i.toInt + (k : Int) = p3.toInt → R.length = n.toInt.toNat →
      (∀ (T' : State) (locs' : List Loc) (h' : Heap) (i' : Int32) (s9' s10' s11' s12' : Slot), Stand p l e R_ s m args below meth c T' locs' cells slots → T'.heap = h' → n0 ≤ h'.size → Fr n0 locs' → Arv Z h' a1 k1 .int (5 : Int32) (List.map Value.int La) (.int (0 : Int32)) → Arv Z h' a4 k4 .int (5 : Int32) (List.map Value.int Lb) (.int (0 : Int32)) → Arv Z h' r kr .boolean n (List.map Value.int (own_rows La Lb p2 p5 n k i R)) (.int (0 : Int32)) → Keep hb_ h' [] → Go p e below G (T'.setTop (mkF m 155 #[.val (.ref a1), .val (.int p2), .val (.int p3), .val (.ref a4), .val (.int p5), .val (.int p6), .val (.int n), .val (.ref r), .val (.int i'), s9', s10', s11', s12'] []))) → Go p e below G (T0.setTop (mkF m 42 #[.val (.ref a1), .val (.int p2), .val (.int p3), .val (.ref a4), .val (.int p5), .val (.int p6), .val (.int n), .val (.ref r), .val (.int i), s9, s10, s11, s12] [])) := by
  induction k with
  | zero =>
    intro T0 locs h0 i R s9 s10 s11 s12 o9 o10 o1 o2 X0 e0 Z0 N0 VA VB VR KP hi hk hl K
    exact exitB a1 a4 r k1 k4 kr p2 p3 p5 p6 n La Lb hb_ i R s9 s10 s11 s12 X0 hx hZ hw hby hml hown e0 Z0 N0 VA VB VR KP gR sgr n1r n4r (by rw [Int32.lt_iff_toInt_lt]; omega) (K T0 locs h0 i s9 s10 s11 s12 X0 e0 Z0 N0 VA VB VR KP)
  | succ k ih =>
    intro T0 locs h0 i R s9 s10 s11 s12 o9 o10 o1 o2 X0 e0 Z0 N0 VA VB VR KP hi hk hl K
    have z1 : (1 : Int32).toInt = 1 := rfl
    have z0 : (0 : Int32).toInt = 0 := rfl
    have hs : (i + (1 : Int32)).toInt = i.toInt + 1 := by rw [own_add hi (by omega) (by omega) (by omega), z1]
    refine headB a1 a4 r k1 k4 kr p2 p3 p5 p6 n La Lb hb_ i R s9 s10 s11 s12 X0 hx hZ hw hby hml hown e0 Z0 N0 VA VB VR KP gR sgr n1r n4r o9 o10 (by rw [Int32.lt_iff_toInt_lt]; omega) ?_
    refine loopA a1 a4 r k1 k4 kr p2 p3 p5 p6 n La Lb hb_ i hx hZ hw hby hml hown gR sgr n1r n4r b1 b2 b3 b4 hi (by omega) n.toInt.toNat T0 locs h0 (0 : Int32) _ R s11 s12 o1 o2 X0 e0 Z0 N0 VA VB VR KP (by decide) (by rw [z0]; omega) hl ?_
    intro T' locs' h' dg' j' s11' s12' o1' o2' X' e' Z' N' VA' VB' VR' KP'
    refine backB a1 a4 r k1 k4 kr p2 p3 p5 p6 n La Lb hb_ i dg' j' _ s11' s12' X' hx hZ hw hby hml hown e' Z' N' VA' VB' VR' KP' gR sgr n1r n4r ?_
    exact ih T' locs' h' (i + (1 : Int32)) _ (.val (.int dg')) (.val (.int j')) s11' s12' (One.val rfl) (One.val rfl) o1' o2' X' e' Z' N' VA' VB' VR' KP' (by omega) (by omega) (by rw [own_row_len]; exact hl) K
theorem d1_0 : decode prog_7_method_3_code 0 = .ok (.iload 5, 2) := by decide +kernel
theorem d1_2 : decode prog_7_method_3_code 2 = .ok (.iload 4, 2) := by decide +kernel
theorem d1_4 : decode prog_7_method_3_code 4 = .ok (.isub, 1) := by decide +kernel
theorem d1_5 : decode prog_7_method_3_code 5 = .ok (.istore 6, 2) := by decide +kernel
theorem d1_7 : decode prog_7_method_3_code 7 = .ok (.iload_n 2, 1) := by decide +kernel
theorem d1_8 : decode prog_7_method_3_code 8 = .ok (.iload_n 1, 1) := by decide +kernel
theorem d1_9 : decode prog_7_method_3_code 9 = .ok (.if_icmp .eq 8, 3) := by decide +kernel
theorem d1_17 : decode prog_7_method_3_code 17 = .ok (.iload_n 2, 1) := by decide +kernel
theorem d1_18 : decode prog_7_method_3_code 18 = .ok (.iload_n 1, 1) := by decide +kernel
theorem d1_19 : decode prog_7_method_3_code 19 = .ok (.if_icmp .ne 12, 3) := by decide +kernel
theorem d1_22 : decode prog_7_method_3_code 22 = .ok (.iload 6, 2) := by decide +kernel
theorem d1_24 : decode prog_7_method_3_code 24 = .ok (.ifCond .ne 7, 3) := by decide +kernel
theorem d1_27 : decode prog_7_method_3_code 27 = .ok (.iconst 1, 1) := by decide +kernel
theorem d1_28 : decode prog_7_method_3_code 28 = .ok (.goto 4, 3) := by decide +kernel
theorem d1_31 : decode prog_7_method_3_code 31 = .ok (.iconst 0, 1) := by decide +kernel
theorem d1_32 : decode prog_7_method_3_code 32 = .ok (.ireturn, 1) := by decide +kernel
theorem pn_0 : plainName "com/example/wdth/wdth/TypicalSequence" = true := by first | (simp [plainName, overriddenIn]; done) | decide +kernel
theorem efaz (m : MethodId) (a1 : Addr) (p2 : Int32) (p3 : Int32) (a4 : Addr) (p5 : Int32) (p6 : Int32) : entryFrame m #[(.ref a1), (.int p2), (.int p3), (.ref a4), (.int p5), (.int p6)] 13 = mkF m 0 #[.val (.ref a1), .val (.int p2), .val (.int p3), .val (.ref a4), .val (.int p5), .val (.int p6), .unset, .unset, .unset, .unset, .unset, .unset, .unset] [] := by first | (simp [entryFrame, mkF, argsToLocals, Value.category]; done) | rfl
abbrev own_R0_0_0_0 : Room := { frames := 0, cells := 0, slots := 0, locals := 0 }
def fz (p5 : Int32) (p6 : Int32) : Int32 := (if (p6 - p5) = (0 : Int32) then (1 : Int32) else (0 : Int32))
def Qaz (Z : State) (a1 : Addr) (p2 : Int32) (p3 : Int32) (a4 : Addr) (p5 : Int32) (p6 : Int32) (h0 : Heap) (n0 : Nat) (v : Option Value) (h : Heap) (L : List Loc) : Prop := v = some (.int (fz p5 p6)) ∧ Fr n0 L ∧ h = h0
set_option maxRecDepth 65536 in
set_option maxHeartbeats 40000000 in
theorem rmaz (l : Launch) (Z : State) (a0 : Array Value) (hw : ∀ d ∈ tables_1, d.before a0 Z = true) (ws : List Jvm.Cond) (a1 : Addr) (p2 : Int32) (p3 : Int32) (a4 : Addr) (p5 : Int32) (p6 : Int32) (h0 : Heap) (n0 : Nat) (Z0 : n0 ≤ h0.size) (hto : p3 = p2) :
    MetFree l own_y0 (head1 (Jvm.Cond.code own_y0 prog_7_method_3_code 13 (some .boolean) :: ws) own_R0_0_0_0) (fun a U => a = #[(.ref a1), (.int p2), (.int p3), (.ref a4), (.int p5), (.int p6)] ∧ Z.Warmed39 U.vm ∧ U.heap = h0) (fun _ _ _ _ _ => True) (fun _ U o U' => ∃ v L, o = .returned v ∧ Qaz Z a1 p2 p3 a4 p5 p6 h0 n0 v U'.heap L ∧ FrameEnd U o U' L (own_R0_0_0_0).cells (own_R0_0_0_0).slots) := by
  refine MetFree.of_bodySF (plainFor_of_name pn_0) hisR ?_
  intro p e s m args below meth c s₁ Bd hml0 hP hK
  obtain ⟨rfl, hZ, hh⟩ := hP
  have hx := Bd.exec
  have hby := Bd.bytes
  have hml : c.maxLocals = 13 := hml0
  have hown : s.vm.findClass "com/example/wdth/wdth/TypicalSequence" = some m.cls := findClass_of_methodNamed Bd.named
  have hnm := (name_of_methodNamed Bd.named Bd.method).1
  have hlk : meth.locks = false := BodyLoose.notSynchronized Bd
  have hrt := Bd.returns
  have X0 : Stand p l e own_R0_0_0_0 s m #[(.ref a1), (.int p2), (.int p3), (.ref a4), (.int p5), (.int p6)] below meth c s₁ [] 0 0 := Stand.of_body Bd
  have e0 : s₁.heap = h0 := by rw [← hh, Bd.state]; rfl
  have N0 := Fr.nil n0
  refine (show Go p e below (fun s₂ o => ∃ v L, o = .returned v ∧ Qaz Z a1 p2 p3 a4 p5 p6 h0 n0 v s₂.heap L ∧ FrameEnd s o s₂ L 0 0) (s₁.setTop (entryFrame m #[(.ref a1), (.int p2), (.int p3), (.ref a4), (.int p5), (.int p6)] 13)) from ?_)
  rw [efaz]
  refine Go.st (U' := s₁.setTop (mkF m 24 #[.val (.ref a1), .val (.int p2), .val (.int p3), .val (.ref a4), .val (.int p5), .val (.int p6), .val (.int (p6 - p5)), .unset, .unset, .unset, .unset, .unset, .unset] [(.int (p6 - p5))])) (fun t k => ?_) ?_
  · refine XS.iload X0.here hx rfl (hb hby d1_0) rfl ?_
    refine XS.iload X0.here hx rfl (hb hby d1_2) rfl ?_
    refine XS.isub X0.here hx rfl (hb hby d1_4) rfl ?_
    refine XS.istore X0.here hx rfl (hb hby d1_5) rfl (l' := #[.val (.ref a1), .val (.int p2), .val (.int p3), .val (.ref a4), .val (.int p5), .val (.int p6), .val (.int (p6 - p5)), .unset, .unset, .unset, .unset, .unset, .unset]) rfl ?_
    refine XS.iloadN X0.here hx rfl (hb hby d1_7) rfl ?_
    refine XS.iloadN X0.here hx rfl (hb hby d1_8) rfl ?_
    refine XS.icmpYes X0.here hx rfl (pc0 := 9) (pc' := 17) rfl (hb hby d1_9) rfl (teq (hto : p3 = p2)).1 (by decide) (by decide) ?_
    refine XS.iloadN X0.here hx rfl (hb hby d1_17) rfl ?_
    refine XS.iloadN X0.here hx rfl (hb hby d1_18) rfl ?_
    refine XS.icmpNo X0.here hx rfl (hb hby d1_19) rfl (teq (hto : p3 = p2)).2 ?_
    refine XS.iload X0.here hx rfl (hb hby d1_22) rfl ?_
    exact k
  by_cases hc125 : (p6 - p5) = (0 : Int32)
  · refine Go.st (U' := s₁.setTop (mkF m 32 #[.val (.ref a1), .val (.int p2), .val (.int p3), .val (.ref a4), .val (.int p5), .val (.int p6), .val (.int (p6 - p5)), .unset, .unset, .unset, .unset, .unset, .unset] [(.int (1 : Int32))])) (fun t k => ?_) ?_
    · refine XS.ifNo X0.here hx rfl (hb hby d1_24) rfl ((if0 _ _).trans (teq hc125).2) ?_
      refine XS.iconst X0.here hx rfl (hb hby d1_27) ?_
      refine XS.goto X0.here hx rfl (pc0 := 28) (pc' := 32) rfl (hb hby d1_28) (by decide) (by decide) ?_
      exact k
    refine own_ret (Q := Qaz Z a1 p2 p3 a4 p5 p6 h0 n0) (v := some (.int (1 : Int32))) X0 hlk (fun h => by rw [hrt] at h; cases h) (by decide) (by decide) ?_ (fun fs hr => retN X0 hx (t := .boolean) hrt (by simp) (hb hby d1_32) hr)
    rw [e0]
    exact ⟨(by first | rfl | simp only [fz, if_pos hc125]), N0, rfl⟩
  · refine Go.st (U' := s₁.setTop (mkF m 32 #[.val (.ref a1), .val (.int p2), .val (.int p3), .val (.ref a4), .val (.int p5), .val (.int p6), .val (.int (p6 - p5)), .unset, .unset, .unset, .unset, .unset, .unset] [(.int (0 : Int32))])) (fun t k => ?_) ?_
    · refine XS.ifYes X0.here hx rfl (pc0 := 24) (pc' := 31) rfl (hb hby d1_24) rfl ((if0 _ _).trans (feq hc125).2) (by decide) (by decide) ?_
      refine XS.iconst X0.here hx rfl (hb hby d1_31) ?_
      exact k
    refine own_ret (Q := Qaz Z a1 p2 p3 a4 p5 p6 h0 n0) (v := some (.int (0 : Int32))) X0 hlk (fun h => by rw [hrt] at h; cases h) (by decide) (by decide) ?_ (fun fs hr => retN X0 hx (t := .boolean) hrt (by simp) (hb hby d1_32) hr)
    rw [e0]
    exact ⟨(by first | rfl | simp only [fz, if_neg hc125]), N0, rfl⟩
theorem d1_12 : decode prog_7_method_3_code 12 = .ok (.iload 6, 2) := by decide +kernel
theorem d1_14 : decode prog_7_method_3_code 14 = .ok (.ifCond .ne 19, 3) := by decide +kernel
theorem efay (m : MethodId) (a1 : Addr) (p2 : Int32) (p3 : Int32) (a4 : Addr) (p5 : Int32) (p6 : Int32) : entryFrame m #[(.ref a1), (.int p2), (.int p3), (.ref a4), (.int p5), (.int p6)] 13 = mkF m 0 #[.val (.ref a1), .val (.int p2), .val (.int p3), .val (.ref a4), .val (.int p5), .val (.int p6), .unset, .unset, .unset, .unset, .unset, .unset, .unset] [] := by first | (simp [entryFrame, mkF, argsToLocals, Value.category]; done) | rfl
def fy  : Int32 := (0 : Int32)
def Qay (Z : State) (a1 : Addr) (p2 : Int32) (p3 : Int32) (a4 : Addr) (p5 : Int32) (p6 : Int32) (h0 : Heap) (n0 : Nat) (v : Option Value) (h : Heap) (L : List Loc) : Prop := v = some (.int (fy )) ∧ Fr n0 L ∧ h = h0
set_option maxRecDepth 65536 in
set_option maxHeartbeats 40000000 in
theorem rmay (l : Launch) (Z : State) (a0 : Array Value) (hw : ∀ d ∈ tables_1, d.before a0 Z = true) (ws : List Jvm.Cond) (a1 : Addr) (p2 : Int32) (p3 : Int32) (a4 : Addr) (p5 : Int32) (p6 : Int32) (h0 : Heap) (n0 : Nat) (Z0 : n0 ≤ h0.size) (hto : ¬ p3 = p2) (hn : (p6 - p5) = (0 : Int32)) :
    MetFree l own_y0 (head1 (Jvm.Cond.code own_y0 prog_7_method_3_code 13 (some .boolean) :: ws) own_R0_0_0_0) (fun a U => a = #[(.ref a1), (.int p2), (.int p3), (.ref a4), (.int p5), (.int p6)] ∧ Z.Warmed39 U.vm ∧ U.heap = h0) (fun _ _ _ _ _ => True) (fun _ U o U' => ∃ v L, o = .returned v ∧ Qay Z a1 p2 p3 a4 p5 p6 h0 n0 v U'.heap L ∧ FrameEnd U o U' L (own_R0_0_0_0).cells (own_R0_0_0_0).slots) := by
  refine MetFree.of_bodySF (plainFor_of_name pn_0) hisR ?_
  intro p e s m args below meth c s₁ Bd hml0 hP hK
  obtain ⟨rfl, hZ, hh⟩ := hP
  have hx := Bd.exec
  have hby := Bd.bytes
  have hml : c.maxLocals = 13 := hml0
  have hown : s.vm.findClass "com/example/wdth/wdth/TypicalSequence" = some m.cls := findClass_of_methodNamed Bd.named
  have hnm := (name_of_methodNamed Bd.named Bd.method).1
  have hlk : meth.locks = false := BodyLoose.notSynchronized Bd
  have hrt := Bd.returns
  have X0 : Stand p l e own_R0_0_0_0 s m #[(.ref a1), (.int p2), (.int p3), (.ref a4), (.int p5), (.int p6)] below meth c s₁ [] 0 0 := Stand.of_body Bd
  have e0 : s₁.heap = h0 := by rw [← hh, Bd.state]; rfl
  have N0 := Fr.nil n0
  refine (show Go p e below (fun s₂ o => ∃ v L, o = .returned v ∧ Qay Z a1 p2 p3 a4 p5 p6 h0 n0 v s₂.heap L ∧ FrameEnd s o s₂ L 0 0) (s₁.setTop (entryFrame m #[(.ref a1), (.int p2), (.int p3), (.ref a4), (.int p5), (.int p6)] 13)) from ?_)
  rw [efay]
  refine Go.st (U' := s₁.setTop (mkF m 32 #[.val (.ref a1), .val (.int p2), .val (.int p3), .val (.ref a4), .val (.int p5), .val (.int p6), .val (.int (p6 - p5)), .unset, .unset, .unset, .unset, .unset, .unset] [(.int (0 : Int32))])) (fun t k => ?_) ?_
  · refine XS.iload X0.here hx rfl (hb hby d1_0) rfl ?_
    refine XS.iload X0.here hx rfl (hb hby d1_2) rfl ?_
    refine XS.isub X0.here hx rfl (hb hby d1_4) rfl ?_
    refine XS.istore X0.here hx rfl (hb hby d1_5) rfl (l' := #[.val (.ref a1), .val (.int p2), .val (.int p3), .val (.ref a4), .val (.int p5), .val (.int p6), .val (.int (p6 - p5)), .unset, .unset, .unset, .unset, .unset, .unset]) rfl ?_
    refine XS.iloadN X0.here hx rfl (hb hby d1_7) rfl ?_
    refine XS.iloadN X0.here hx rfl (hb hby d1_8) rfl ?_
    refine XS.icmpNo X0.here hx rfl (hb hby d1_9) rfl (feq (hto : ¬ (p3 = p2))).1 ?_
    refine XS.iload X0.here hx rfl (hb hby d1_12) rfl ?_
    refine XS.ifNo X0.here hx rfl (hb hby d1_14) rfl ((if0 _ _).trans (teq (hn : (p6 - p5) = (0 : Int32))).2) ?_
    refine XS.iloadN X0.here hx rfl (hb hby d1_17) rfl ?_
    refine XS.iloadN X0.here hx rfl (hb hby d1_18) rfl ?_
    refine XS.icmpYes X0.here hx rfl (pc0 := 19) (pc' := 31) rfl (hb hby d1_19) rfl (feq (hto : ¬ (p3 = p2))).2 (by decide) (by decide) ?_
    refine XS.iconst X0.here hx rfl (hb hby d1_31) ?_
    exact k
  refine own_ret (Q := Qay Z a1 p2 p3 a4 p5 p6 h0 n0) (v := some (.int (0 : Int32))) X0 hlk (fun h => by rw [hrt] at h; cases h) (by decide) (by decide) ?_ (fun fs hr => retN X0 hx (t := .boolean) hrt (by simp) (hb hby d1_32) hr)
  rw [e0]
  exact ⟨(by first | rfl | simp only [fy]), N0, rfl⟩
theorem d1_33 : decode prog_7_method_3_code 33 = .ok (.iload 6, 2) := by decide +kernel
theorem d1_35 : decode prog_7_method_3_code 35 = .ok (.newarray .boolean, 2) := by decide +kernel
theorem d1_37 : decode prog_7_method_3_code 37 = .ok (.astore 7, 2) := by decide +kernel
theorem d1_39 : decode prog_7_method_3_code 39 = .ok (.iload_n 1, 1) := by decide +kernel
theorem d1_40 : decode prog_7_method_3_code 40 = .ok (.istore 8, 2) := by decide +kernel
theorem d1_155 : decode prog_7_method_3_code 155 = .ok (.aload 7, 2) := by decide +kernel
theorem d1_157 : decode prog_7_method_3_code 157 = .ok (.iload 6, 2) := by decide +kernel
theorem d1_159 : decode prog_7_method_3_code 159 = .ok (.iconst 1, 1) := by decide +kernel
theorem d1_160 : decode prog_7_method_3_code 160 = .ok (.isub, 1) := by decide +kernel
theorem d1_161 : decode prog_7_method_3_code 161 = .ok (.baload, 1) := by decide +kernel
theorem d1_162 : decode prog_7_method_3_code 162 = .ok (.ireturn, 1) := by decide +kernel
theorem efam (m : MethodId) (a1 : Addr) (p2 : Int32) (p3 : Int32) (a4 : Addr) (p5 : Int32) (p6 : Int32) : entryFrame m #[(.ref a1), (.int p2), (.int p3), (.ref a4), (.int p5), (.int p6)] 13 = mkF m 0 #[.val (.ref a1), .val (.int p2), .val (.int p3), .val (.ref a4), .val (.int p5), .val (.int p6), .unset, .unset, .unset, .unset, .unset, .unset, .unset] [] := by first | (simp [entryFrame, mkF, argsToLocals, Value.category]; done) | rfl
abbrev own_R0_1_3_0 : Room := { frames := 0, cells := 1, slots := 3, locals := 0 }
def Qam (Z : State) (a1 : Addr) (p2 : Int32) (p3 : Int32) (a4 : Addr) (p5 : Int32) (p6 : Int32) (k1 : ClassId) (k4 : ClassId) (La : List Int32) (Lb : List Int32) (h0 : Heap) (n0 : Nat) (v : Option Value) (h : Heap) (L : List Loc) : Prop := v = some (.int (nar .boolean ((own_rows La Lb p2 p5 (p6 - p5) (p3.toInt - p2.toInt).toNat p2 (List.replicate (p6 - p5).toNatClampNeg (0 : Int32))).getD ((p6 - p5) - (1 : Int32)).toNatClampNeg (0 : Int32)))) ∧ Fr n0 L ∧ Keep h0 h []
set_option maxRecDepth 65536 in
set_option maxHeartbeats 40000000 in
theorem rmam (l : Launch) (Z : State) (a0 : Array Value) (hw : ∀ d ∈ tables_1, d.before a0 Z = true) (ws : List Jvm.Cond) (a1 : Addr) (p2 : Int32) (p3 : Int32) (a4 : Addr) (p5 : Int32) (p6 : Int32) (k1 : ClassId) (k4 : ClassId) (La : List Int32) (Lb : List Int32) (h0 : Heap) (n0 : Nat) (Z0 : n0 ≤ h0.size) (VA : Arv Z h0 a1 k1 .int (5 : Int32) (List.map Value.int La) (.int (0 : Int32))) (VB : Arv Z h0 a4 k4 .int (5 : Int32) (List.map Value.int Lb) (.int (0 : Int32))) (hto : ¬ p3 = p2) (hn : ¬ (p6 - p5) = (0 : Int32)) (b5 : 0 ≤ p2.toInt) (b6 : p3.toInt ≤ 5) (b7 : p2.toInt ≤ p3.toInt) (b3 : 0 ≤ p5.toInt) (b8 : p6.toInt ≤ 5) (b9 : 0 < (p6 - p5).toInt) (b10 : (p6 - p5).toInt ≤ 3) (b11 : p5.toInt + (p6 - p5).toInt ≤ 5) :
    MetFree l own_y0 (head1 (Jvm.Cond.code own_y0 prog_7_method_3_code 13 (some .boolean) :: ws) own_R0_1_3_0) (fun a U => a = #[(.ref a1), (.int p2), (.int p3), (.ref a4), (.int p5), (.int p6)] ∧ Z.Warmed39 U.vm ∧ U.heap = h0) (fun _ _ _ _ _ => True) (fun _ U o U' => ∃ v L, o = .returned v ∧ Qam Z a1 p2 p3 a4 p5 p6 k1 k4 La Lb h0 n0 v U'.heap L ∧ FrameEnd U o U' L (own_R0_1_3_0).cells (own_R0_1_3_0).slots) := by
  refine MetFree.of_bodySF (plainFor_of_name pn_0) hisR ?_
  intro p e s m args below meth c s₁ Bd hml0 hP hK
  obtain ⟨rfl, hZ, hh⟩ := hP
  have hx := Bd.exec
  have hby := Bd.bytes
  have hml : c.maxLocals = 13 := hml0
  have hown : s.vm.findClass "com/example/wdth/wdth/TypicalSequence" = some m.cls := findClass_of_methodNamed Bd.named
  have hnm := (name_of_methodNamed Bd.named Bd.method).1
  have hlk : meth.locks = false := BodyLoose.notSynchronized Bd
  have hrt := Bd.returns
  have X0 : Stand p l e own_R0_1_3_0 s m #[(.ref a1), (.int p2), (.int p3), (.ref a4), (.int p5), (.int p6)] below meth c s₁ [] 0 0 := Stand.of_body Bd
  have e0 : s₁.heap = h0 := by rw [← hh, Bd.state]; rfl
  have N0 := Fr.nil n0
  refine (show Go p e below (fun s₂ o => ∃ v L, o = .returned v ∧ Qam Z a1 p2 p3 a4 p5 p6 k1 k4 La Lb h0 n0 v s₂.heap L ∧ FrameEnd s o s₂ L 1 3) (s₁.setTop (entryFrame m #[(.ref a1), (.int p2), (.int p3), (.ref a4), (.int p5), (.int p6)] 13)) from ?_)
  rw [efam]
  refine Go.st (U' := s₁.setTop (mkF m 7 #[.val (.ref a1), .val (.int p2), .val (.int p3), .val (.ref a4), .val (.int p5), .val (.int p6), .val (.int (p6 - p5)), .unset, .unset, .unset, .unset, .unset, .unset] [])) (fun t k => ?_) ?_
  · refine XS.iload X0.here hx rfl (hb hby d1_0) rfl ?_
    refine XS.iload X0.here hx rfl (hb hby d1_2) rfl ?_
    refine XS.isub X0.here hx rfl (hb hby d1_4) rfl ?_
    refine XS.istore X0.here hx rfl (hb hby d1_5) rfl (l' := #[.val (.ref a1), .val (.int p2), .val (.int p3), .val (.ref a4), .val (.int p5), .val (.int p6), .val (.int (p6 - p5)), .unset, .unset, .unset, .unset, .unset, .unset]) rfl ?_
    exact k
  generalize hv_v126 : (p6 - p5) = v126
  obtain ⟨bn1, bn2, bn4, hnp, hn0, hn3⟩ := own_nv v126 p5 (by rw [← hv_v126]; exact b9) (by rw [← hv_v126]; exact b10) (by rw [← hv_v126]; exact b11)
  refine Go.st (U' := s₁.setTop (mkF m 35 #[.val (.ref a1), .val (.int p2), .val (.int p3), .val (.ref a4), .val (.int p5), .val (.int p6), .val (.int v126), .unset, .unset, .unset, .unset, .unset, .unset] [(.int v126)])) (fun t k => ?_) ?_
  · refine XS.iloadN X0.here hx rfl (hb hby d1_7) rfl ?_
    refine XS.iloadN X0.here hx rfl (hb hby d1_8) rfl ?_
    refine XS.icmpNo X0.here hx rfl (hb hby d1_9) rfl (feq (hto : ¬ (p3 = p2))).1 ?_
    refine XS.iload X0.here hx rfl (hb hby d1_12) rfl ?_
    refine XS.ifYes X0.here hx rfl (pc0 := 14) (pc' := 33) rfl (hb hby d1_14) rfl ((if0 _ _).trans (feq ((by subst hv_v126; exact hn) : ¬ (v126 = (0 : Int32)))).2) (by decide) (by decide) ?_
    refine XS.iload X0.here hx rfl (hb hby d1_33) rfl ?_
    exact k
  obtain ⟨T127, h127, k127, X127, e127, E127, A127, st127⟩ := newP X0 hx hZ (own_w hw 5 rfl) e0 (g := (mkF m 35 #[.val (.ref a1), .val (.int p2), .val (.int p3), .val (.ref a4), .val (.int p5), .val (.int p6), .val (.int v126), .unset, .unset, .unset, .unset, .unset, .unset] [(.int v126)])) rfl (hb hby d1_35) rfl hn0 (cap := 3) hn3 (by decide) (by decide) (by decide)
  obtain ⟨b127, g127⟩ : ∃ z, z = h0.size := ⟨_, rfl⟩
  rw [← g127] at A127 st127
  have ne_a1_b127 : a1 ≠ b127 := Nat.ne_of_lt (Nat.lt_of_lt_of_le VA.lt (Nat.le_of_eq g127.symm))
  have ne_a4_b127 : a4 ≠ b127 := Nat.ne_of_lt (Nat.lt_of_lt_of_le VB.lt (Nat.le_of_eq g127.symm))
  have ge_b127 : n0 ≤ b127 := Nat.le_trans Z0 (Nat.le_of_eq g127.symm)
  have sg_b127 : h0.size ≤ b127 := Nat.le_trans (Keep.refl h0 []).1 (Nat.le_of_eq g127.symm)
  have VA_127 := VA.ext E127
  have VB_127 := VB.ext E127
  have KK127 : Keep h0 h127 [] := (Keep.refl h0 []).ext E127
  have V_b127 : Arv Z h127 b127 k127 .boolean v126 ([] ++ List.replicate v126.toNatClampNeg (.int (0 : Int32))) (.int (0 : Int32)) := (Arv.new A127 hn0).pad (pad_rep [] (.int (0 : Int32)) v126.toNatClampNeg)
  have sz127 : n0 ≤ h127.size := Nat.le_trans Z0 E127.1
  refine Go.st (U' := T127.setTop (mkF m 37 #[.val (.ref a1), .val (.int p2), .val (.int p3), .val (.ref a4), .val (.int p5), .val (.int p6), .val (.int v126), .unset, .unset, .unset, .unset, .unset, .unset] [(.ref b127)])) (fun t k => st127 _ k) ?_
  refine Go.st (U' := T127.setTop (mkF m 42 #[.val (.ref a1), .val (.int p2), .val (.int p3), .val (.ref a4), .val (.int p5), .val (.int p6), .val (.int v126), .val (.ref b127), .val (.int p2), .unset, .unset, .unset, .unset] [])) (fun t k => ?_) ?_
  · refine XS.astore X127.here hx rfl (hb hby d1_37) rfl rfl (l' := #[.val (.ref a1), .val (.int p2), .val (.int p3), .val (.ref a4), .val (.int p5), .val (.int p6), .val (.int v126), .val (.ref b127), .unset, .unset, .unset, .unset, .unset]) rfl ?_
    refine XS.iloadN X127.here hx rfl (hb hby d1_39) rfl ?_
    refine XS.istore X127.here hx rfl (hb hby d1_40) rfl (l' := #[.val (.ref a1), .val (.int p2), .val (.int p3), .val (.ref a4), .val (.int p5), .val (.int p6), .val (.int v126), .val (.ref b127), .val (.int p2), .unset, .unset, .unset, .unset]) rfl ?_
    exact k
  have VR0 : Arv Z h127 b127 k127 .boolean v126 (List.map Value.int (List.replicate v126.toNatClampNeg (0 : Int32))) (.int (0 : Int32)) := by rw [List.map_replicate]; exact V_b127
  refine loopB a1 a4 b127 k1 k4 k127 p2 p3 p5 p6 v126 La Lb h0 hx hZ hw hby hml hown ge_b127 sg_b127 ne_a1_b127 ne_a4_b127 bn1 bn2 b3 bn4 b5 b6 (p3.toInt - p2.toInt).toNat T127 _ h127 p2 _ .unset .unset .unset .unset One.u One.u One.u One.u X127 e127 sz127 N0 VA_127 VB_127 VR0 KK127 b5 (by omega) (by rw [List.length_replicate]; rfl) ?_
  intro T128 locs128 h128 i128 s9128 s10128 s11128 s12128 X128 e128 sz128 N128 VA128 VB128 VR128 KP128
  obtain ⟨cl129, Ar129, q129, S129, N129, H129, G129⟩ := id VR128
  refine Go.st (U' := T128.setTop (mkF m 162 #[.val (.ref a1), .val (.int p2), .val (.int p3), .val (.ref a4), .val (.int p5), .val (.int p6), .val (.int v126), .val (.ref b127), .val (.int i128), s9128, s10128, s11128, s12128] [(.int ((own_rows La Lb p2 p5 v126 (p3.toInt - p2.toInt).toNat p2 (List.replicate v126.toNatClampNeg (0 : Int32))).getD ((v126 - (1 : Int32))).toNatClampNeg (0 : Int32)))])) (fun t k => ?_) ?_
  · refine XS.aload X128.here hx rfl (hb hby d1_155) rfl rfl ?_
    refine XS.iload X128.here hx rfl (hb hby d1_157) rfl ?_
    refine XS.iconst X128.here hx rfl (hb hby d1_159) ?_
    refine XS.isub X128.here hx rfl (hb hby d1_160) rfl ?_
    refine X128.baloadBooleans hx (j := (v126 - (1 : Int32))) (v := (.int ((own_rows La Lb p2 p5 v126 (p3.toInt - p2.toInt).toNat p2 (List.replicate v126.toNatClampNeg (0 : Int32))).getD ((v126 - (1 : Int32))).toNatClampNeg (0 : Int32)))) (by rw [e128]; exact Ar129.1) (State.isArrayOf_alike hZ.alike Ar129.2.1) Ar129.2.2 (inb_of (j := (v126 - (1 : Int32))) S129 (own_jz hnp)) (Has.at H129 (inb_of (j := (v126 - (1 : Int32))) S129 (own_jz hnp)) (own_getI (own_rows La Lb p2 p5 v126 (p3.toInt - p2.toInt).toNat p2 (List.replicate v126.toNatClampNeg (0 : Int32))) _)) (g := (mkF m 161 #[.val (.ref a1), .val (.int p2), .val (.int p3), .val (.ref a4), .val (.int p5), .val (.int p6), .val (.int v126), .val (.ref b127), .val (.int i128), s9128, s10128, s11128, s12128] [(.int (v126 - (1 : Int32))), (.ref b127)])) rfl rfl (hb hby d1_161) _ ?_
    exact k
  refine own_ret (Q := Qam Z a1 p2 p3 a4 p5 p6 k1 k4 La Lb h0 n0) (v := some (.int (nar .boolean ((own_rows La Lb p2 p5 v126 (p3.toInt - p2.toInt).toNat p2 (List.replicate v126.toNatClampNeg (0 : Int32))).getD ((v126 - (1 : Int32))).toNatClampNeg (0 : Int32))))) X128 hlk (fun h => by rw [hrt] at h; cases h) (by decide) (by decide) ?_ (fun fs hr => retN X128 hx (t := .boolean) hrt (by simp) (hb hby d1_162) hr)
  rw [e128]
  subst hv_v126; exact ⟨rfl, N128, KP128⟩
theorem d3_0 : decode jdk_29_method_69_code 0 = .ok (.iload_n 0, 1) := by decide +kernel
theorem d3_1 : decode jdk_29_method_69_code 1 = .ok (.iload_n 1, 1) := by decide +kernel
theorem d3_2 : decode jdk_29_method_69_code 2 = .ok (.if_icmp .gt 7, 3) := by decide +kernel
theorem d3_5 : decode jdk_29_method_69_code 5 = .ok (.iload_n 0, 1) := by decide +kernel
theorem d3_6 : decode jdk_29_method_69_code 6 = .ok (.goto 4, 3) := by decide +kernel
theorem d3_9 : decode jdk_29_method_69_code 9 = .ok (.iload_n 1, 1) := by decide +kernel
theorem d3_10 : decode jdk_29_method_69_code 10 = .ok (.ireturn, 1) := by decide +kernel
theorem efmn (m : MethodId) (p1 : Int32) (p2 : Int32) : entryFrame m #[(.int p1), (.int p2)] 2 = mkF m 0 #[.val (.int p1), .val (.int p2)] [] := by first | (simp [entryFrame, mkF, argsToLocals, Value.category]; done) | rfl
def fmin (p1 : Int32) (p2 : Int32) : Int32 := (if p2 < p1 then p2 else p1)
def Qmn (Z : State) (p1 : Int32) (p2 : Int32) (h0 : Heap) (n0 : Nat) (v : Option Value) (h : Heap) (L : List Loc) : Prop := v = some (.int (fmin p1 p2)) ∧ Fr n0 L ∧ h = h0
set_option maxRecDepth 65536 in
set_option maxHeartbeats 40000000 in
theorem rmmn (l : Launch) (Z : State) (a0 : Array Value) (hw : ∀ d ∈ tables_1, d.before a0 Z = true) (ws : List Jvm.Cond) (p1 : Int32) (p2 : Int32) (h0 : Heap) (n0 : Nat) (Z0 : n0 ≤ h0.size) :
    MetFree l own_y1 (head1 (Jvm.Cond.code own_y1 jdk_29_method_69_code 2 (some .int) :: ws) own_R0_0_0_0) (fun a U => a = #[(.int p1), (.int p2)] ∧ Z.Warmed39 U.vm ∧ U.heap = h0) (fun _ _ _ _ _ => True) (fun _ U o U' => ∃ v L, o = .returned v ∧ Qmn Z p1 p2 h0 n0 v U'.heap L ∧ FrameEnd U o U' L (own_R0_0_0_0).cells (own_R0_0_0_0).slots) := by
  refine MetFree.of_bodySF (Jvm.Free.JP.mathPlain rfl (by decide +kernel)) hisR ?_
  intro p e s m args below meth c s₁ Bd hml0 hP hK
  obtain ⟨rfl, hZ, hh⟩ := hP
  have hx := Bd.exec
  have hby := Bd.bytes
  have hml : c.maxLocals = 2 := hml0
  have hown : s.vm.findClass "java/lang/Math" = some m.cls := findClass_of_methodNamed Bd.named
  have hnm := (name_of_methodNamed Bd.named Bd.method).1
  have hlk : meth.locks = false := BodyLoose.notSynchronized Bd
  have hrt := Bd.returns
  have X0 : Stand p l e own_R0_0_0_0 s m #[(.int p1), (.int p2)] below meth c s₁ [] 0 0 := Stand.of_body Bd
  have e0 : s₁.heap = h0 := by rw [← hh, Bd.state]; rfl
  have N0 := Fr.nil n0
  refine (show Go p e below (fun s₂ o => ∃ v L, o = .returned v ∧ Qmn Z p1 p2 h0 n0 v s₂.heap L ∧ FrameEnd s o s₂ L 0 0) (s₁.setTop (entryFrame m #[(.int p1), (.int p2)] 2)) from ?_)
  rw [efmn]
  refine Go.st (U' := s₁.setTop (mkF m 2 #[.val (.int p1), .val (.int p2)] [(.int p2), (.int p1)])) (fun t k => ?_) ?_
  · refine XS.iloadN X0.here hx rfl (hb hby d3_0) rfl ?_
    refine XS.iloadN X0.here hx rfl (hb hby d3_1) rfl ?_
    exact k
  by_cases hc130 : p2 < p1
  · refine Go.st (U' := s₁.setTop (mkF m 10 #[.val (.int p1), .val (.int p2)] [(.int p2)])) (fun t k => ?_) ?_
    · refine XS.icmpYes X0.here hx rfl (pc0 := 2) (pc' := 9) rfl (hb hby d3_2) rfl (tlt hc130).2.2.1 (by decide) (by decide) ?_
      refine XS.iloadN X0.here hx rfl (hb hby d3_9) rfl ?_
      exact k
    refine own_ret (Q := Qmn Z p1 p2 h0 n0) (v := some (.int p2)) X0 hlk (fun h => by rw [hrt] at h; cases h) (by decide) (by decide) ?_ (fun fs hr => retOut X0 hx (t := .int) hrt rfl (Or.inl ⟨rfl, Or.inl rfl, _, rfl⟩) (hb hby d3_10) hr)
    rw [e0]
    exact ⟨(by first | rfl | simp only [fmin, if_pos hc130]), N0, rfl⟩
  · refine Go.st (U' := s₁.setTop (mkF m 10 #[.val (.int p1), .val (.int p2)] [(.int p1)])) (fun t k => ?_) ?_
    · refine XS.icmpNo X0.here hx rfl (hb hby d3_2) rfl (flt hc130).2.2.1 ?_
      refine XS.iloadN X0.here hx rfl (hb hby d3_5) rfl ?_
      refine XS.goto X0.here hx rfl (pc0 := 6) (pc' := 10) rfl (hb hby d3_6) (by decide) (by decide) ?_
      exact k
    refine own_ret (Q := Qmn Z p1 p2 h0 n0) (v := some (.int p1)) X0 hlk (fun h => by rw [hrt] at h; cases h) (by decide) (by decide) ?_ (fun fs hr => retOut X0 hx (t := .int) hrt rfl (Or.inl ⟨rfl, Or.inl rfl, _, rfl⟩) (hb hby d3_10) hr)
    rw [e0]
    exact ⟨(by first | rfl | simp only [fmin, if_neg hc130]), N0, rfl⟩
theorem d2_0 : decode method_2_code 0 = .ok (.aload_n 0, 1) := by decide +kernel
theorem d2_1 : decode method_2_code 1 = .ok (.iload 4, 2) := by decide +kernel
theorem d2_3 : decode method_2_code 3 = .ok (.iload_n 1, 1) := by decide +kernel
theorem d2_4 : decode method_2_code 4 = .ok (.iconst 1, 1) := by decide +kernel
theorem d2_5 : decode method_2_code 5 = .ok (.isub, 1) := by decide +kernel
theorem d2_6 : decode method_2_code 6 = .ok (.invokestatic 7, 3) := by decide +kernel
theorem d2_9 : decode method_2_code 9 = .ok (.iaload, 1) := by decide +kernel
theorem d2_10 : decode method_2_code 10 = .ok (.aload_n 2, 1) := by decide +kernel
theorem d2_11 : decode method_2_code 11 = .ok (.iload 5, 2) := by decide +kernel
theorem d2_13 : decode method_2_code 13 = .ok (.iload_n 3, 1) := by decide +kernel
theorem d2_14 : decode method_2_code 14 = .ok (.iconst 1, 1) := by decide +kernel
theorem d2_15 : decode method_2_code 15 = .ok (.isub, 1) := by decide +kernel
theorem d2_16 : decode method_2_code 16 = .ok (.invokestatic 7, 3) := by decide +kernel
theorem d2_19 : decode method_2_code 19 = .ok (.iaload, 1) := by decide +kernel
theorem d2_20 : decode method_2_code 20 = .ok (.if_icmp .gt 7, 3) := by decide +kernel
theorem d2_23 : decode method_2_code 23 = .ok (.iconst 1, 1) := by decide +kernel
theorem d2_24 : decode method_2_code 24 = .ok (.goto 4, 3) := by decide +kernel
theorem d2_27 : decode method_2_code 27 = .ok (.iconst 0, 1) := by decide +kernel
theorem d2_28 : decode method_2_code 28 = .ok (.ireturn, 1) := by decide +kernel
theorem pd_0 : parseMethodDescriptor "(II)I" = some ⟨[.int, .int], some .int⟩ := by decide +kernel
theorem pn_1 : plainName "com/example/wdth/wdth/TypicalSequenceAtMostPinLaw" = true := by first | (simp [plainName, overriddenIn]; done) | decide +kernel
theorem efc (m : MethodId) (a1 : Addr) (p2 : Int32) (a3 : Addr) (p4 : Int32) (p5 : Int32) (p6 : Int32) : entryFrame m #[(.ref a1), (.int p2), (.ref a3), (.int p4), (.int p5), (.int p6)] 6 = mkF m 0 #[.val (.ref a1), .val (.int p2), .val (.ref a3), .val (.int p4), .val (.int p5), .val (.int p6)] [] := by first | (simp [entryFrame, mkF, argsToLocals, Value.category]; done) | rfl
abbrev own_R1_0_0_24 : Room := { frames := 1, cells := 0, slots := 0, locals := 24 }
def fC (x0 : Int32) (x1 : Int32) (x2 : Int32) (p2 : Int32) (y0 : Int32) (y1 : Int32) (y2 : Int32) (p4 : Int32) (p5 : Int32) (p6 : Int32) : Int32 := (if (([y0, y1, y2] : List Int32).getD ((fmin p6 (p4 - (1 : Int32)))).toNatClampNeg (0 : Int32)) < (([x0, x1, x2] : List Int32).getD ((fmin p5 (p2 - (1 : Int32)))).toNatClampNeg (0 : Int32)) then (0 : Int32) else (1 : Int32))
def Qc (Z : State) (a1 : Addr) (p2 : Int32) (a3 : Addr) (p4 : Int32) (p5 : Int32) (p6 : Int32) (k1 : ClassId) (k3 : ClassId) (x0 : Int32) (x1 : Int32) (x2 : Int32) (y0 : Int32) (y1 : Int32) (y2 : Int32) (h0 : Heap) (n0 : Nat) (v : Option Value) (h : Heap) (L : List Loc) : Prop := v = some (.int (fC x0 x1 x2 p2 y0 y1 y2 p4 p5 p6)) ∧ Fr n0 L ∧ h = h0
set_option maxRecDepth 65536 in
set_option maxHeartbeats 40000000 in
theorem rmc (l : Launch) (Z : State) (a0 : Array Value) (hw : ∀ d ∈ tables_1, d.before a0 Z = true) (ws : List Jvm.Cond) (a1 : Addr) (p2 : Int32) (a3 : Addr) (p4 : Int32) (p5 : Int32) (p6 : Int32) (k1 : ClassId) (k3 : ClassId) (x0 : Int32) (x1 : Int32) (x2 : Int32) (y0 : Int32) (y1 : Int32) (y2 : Int32) (h0 : Heap) (n0 : Nat) (Z0 : n0 ≤ h0.size) (VX : Arv Z h0 a1 k1 .int (3 : Int32) [(.int x0), (.int x1), (.int x2)] (.int (0 : Int32))) (VY : Arv Z h0 a3 k3 .int (3 : Int32) [(.int y0), (.int y1), (.int y2)] (.int (0 : Int32))) (hX : ¬ (fmin p5 (p2 - (1 : Int32))) < 0 ∧ (fmin p5 (p2 - (1 : Int32))) < (3 : Int32)) (hY : ¬ (fmin p6 (p4 - (1 : Int32))) < 0 ∧ (fmin p6 (p4 - (1 : Int32))) < (3 : Int32)) :
    MetFree l own_y2 (head1 (Jvm.Cond.code own_y2 method_2_code 6 (some .boolean) :: ws) own_R1_0_0_24) (fun a U => a = #[(.ref a1), (.int p2), (.ref a3), (.int p4), (.int p5), (.int p6)] ∧ Z.Warmed39 U.vm ∧ U.heap = h0) (fun _ _ _ _ _ => True) (fun _ U o U' => ∃ v L, o = .returned v ∧ Qc Z a1 p2 a3 p4 p5 p6 k1 k3 x0 x1 x2 y0 y1 y2 h0 n0 v U'.heap L ∧ FrameEnd U o U' L (own_R1_0_0_24).cells (own_R1_0_0_24).slots) := by
  refine MetFree.of_bodySF (plainFor_of_name pn_1) hisR ?_
  intro p e s m args below meth c s₁ Bd hml0 hP hK
  obtain ⟨rfl, hZ, hh⟩ := hP
  have hx := Bd.exec
  have hby := Bd.bytes
  have hml : c.maxLocals = 6 := hml0
  have hown : s.vm.findClass "com/example/wdth/wdth/TypicalSequenceAtMostPinLaw" = some m.cls := findClass_of_methodNamed Bd.named
  have hnm := (name_of_methodNamed Bd.named Bd.method).1
  have hlk : meth.locks = false := BodyLoose.notSynchronized Bd
  have hrt := Bd.returns
  have X0 : Stand p l e own_R1_0_0_24 s m #[(.ref a1), (.int p2), (.ref a3), (.int p4), (.int p5), (.int p6)] below meth c s₁ [] 0 0 := Stand.of_body Bd
  have e0 : s₁.heap = h0 := by rw [← hh, Bd.state]; rfl
  have N0 := Fr.nil n0
  refine (show Go p e below (fun s₂ o => ∃ v L, o = .returned v ∧ Qc Z a1 p2 a3 p4 p5 p6 k1 k3 x0 x1 x2 y0 y1 y2 h0 n0 v s₂.heap L ∧ FrameEnd s o s₂ L 0 0) (s₁.setTop (entryFrame m #[(.ref a1), (.int p2), (.ref a3), (.int p4), (.int p5), (.int p6)] 6)) from ?_)
  rw [efc]
  refine Go.st (U' := s₁.setTop (mkF m 6 #[.val (.ref a1), .val (.int p2), .val (.ref a3), .val (.int p4), .val (.int p5), .val (.int p6)] [(.int (p2 - (1 : Int32))), (.int p5), (.ref a1)])) (fun t k => ?_) ?_
  · refine XS.aloadN X0.here hx rfl (hb hby d2_0) rfl rfl ?_
    refine XS.iload X0.here hx rfl (hb hby d2_1) rfl ?_
    refine XS.iloadN X0.here hx rfl (hb hby d2_3) rfl ?_
    refine XS.iconst X0.here hx rfl (hb hby d2_4) ?_
    refine XS.isub X0.here hx rfl (hb hby d2_5) rfl ?_
    exact k
  obtain ⟨_, _, ⟨T131, L131, k131, n131⟩, -, X131, ⟨Lc131, hQ131, l131, y131, z131⟩, st131⟩ := Jvm.LawKit.callS X0 hx (y := own_y1) hown (mvT hZ (own_w hw 10 rfl)) (mvT hZ (own_w hw 11 rfl)) (mvT hZ (own_w hw 12 rfl)) (mvT hZ (own_w hw 13 rfl)) (by decide) (backOf (W := 1) (rmmn l Z a0 hw [] p5 (p2 - (1 : Int32)) h0 n0 Z0 ) hZ (own_w hw 13 rfl) (own_w hw 12 rfl) (by decide) (by decide)) (g := (mkF m 6 #[.val (.ref a1), .val (.int p2), .val (.ref a3), .val (.int p4), .val (.int p5), .val (.int p6)] [(.int (p2 - (1 : Int32))), (.int p5), (.ref a1)])) rfl (by rw [hml]; rfl) (argsL := [(.int p5), (.int (p2 - (1 : Int32)))]) (rest := [(.ref a1)]) (lenOf pd_0 rfl) rfl (by show 2 * 0 + _ ≤ _; exact Nat.le_of_eq rfl) (hb hby d2_6) (fun _ _ => ⟨rfl, e0, (by decide : 0 + 0 ≤ _), (by decide : 0 + 0 ≤ _)⟩)
  dsimp only [Pt.U, Pt.locs, Pt.cells, Pt.slots] at X131 l131 y131 z131 st131 hQ131
  subst l131 y131 z131
  obtain ⟨rfl, N131q, e131⟩ := hQ131
  have N131 := Fr.app N0 N131q
  refine Go.st (U' := T131.setTop (mkF m 9 #[.val (.ref a1), .val (.int p2), .val (.ref a3), .val (.int p4), .val (.int p5), .val (.int p6)] [(.int (fmin p5 (p2 - (1 : Int32)))), (.ref a1)])) (fun t k => st131 _ k) ?_
  obtain ⟨cl132, Ar132, q132, S132, N132, H132, G132⟩ := id VX
  refine Go.st (U' := T131.setTop (mkF m 16 #[.val (.ref a1), .val (.int p2), .val (.ref a3), .val (.int p4), .val (.int p5), .val (.int p6)] [(.int (p4 - (1 : Int32))), (.int p6), (.ref a3), (.int (([x0, x1, x2] : List Int32).getD ((fmin p5 (p2 - (1 : Int32)))).toNatClampNeg (0 : Int32)))])) (fun t k => ?_) ?_
  · refine X131.iaload hx (j := (fmin p5 (p2 - (1 : Int32)))) (v := (.int (([x0, x1, x2] : List Int32).getD ((fmin p5 (p2 - (1 : Int32)))).toNatClampNeg (0 : Int32)))) (by rw [e131]; exact Ar132.1) (State.isArrayOf_alike hZ.alike Ar132.2.1) Ar132.2.2 (inb_of (j := (fmin p5 (p2 - (1 : Int32)))) S132 hX) (Has.at H132 (inb_of (j := (fmin p5 (p2 - (1 : Int32)))) S132 hX) (own_getI [x0, x1, x2] _)) (g := (mkF m 9 #[.val (.ref a1), .val (.int p2), .val (.ref a3), .val (.int p4), .val (.int p5), .val (.int p6)] [(.int (fmin p5 (p2 - (1 : Int32)))), (.ref a1)])) rfl rfl (hb hby d2_9) _ ?_
    refine XS.aloadN X131.here hx rfl (hb hby d2_10) rfl rfl ?_
    refine XS.iload X131.here hx rfl (hb hby d2_11) rfl ?_
    refine XS.iloadN X131.here hx rfl (hb hby d2_13) rfl ?_
    refine XS.iconst X131.here hx rfl (hb hby d2_14) ?_
    refine XS.isub X131.here hx rfl (hb hby d2_15) rfl ?_
    exact k
  obtain ⟨_, _, ⟨T133, L133, k133, n133⟩, -, X133, ⟨Lc133, hQ133, l133, y133, z133⟩, st133⟩ := Jvm.LawKit.callS X131 hx (y := own_y1) hown (mvT hZ (own_w hw 10 rfl)) (mvT hZ (own_w hw 11 rfl)) (mvT hZ (own_w hw 12 rfl)) (mvT hZ (own_w hw 13 rfl)) (by decide) (backOf (W := 2) (rmmn l Z a0 hw [] p6 (p4 - (1 : Int32)) h0 n0 Z0 ) hZ (own_w hw 13 rfl) (own_w hw 12 rfl) (by decide) (by decide)) (g := (mkF m 16 #[.val (.ref a1), .val (.int p2), .val (.ref a3), .val (.int p4), .val (.int p5), .val (.int p6)] [(.int (p4 - (1 : Int32))), (.int p6), (.ref a3), (.int (([x0, x1, x2] : List Int32).getD ((fmin p5 (p2 - (1 : Int32)))).toNatClampNeg (0 : Int32)))])) rfl (by rw [hml]; rfl) (argsL := [(.int p6), (.int (p4 - (1 : Int32)))]) (rest := [(.ref a3), (.int (([x0, x1, x2] : List Int32).getD ((fmin p5 (p2 - (1 : Int32)))).toNatClampNeg (0 : Int32)))]) (lenOf pd_0 rfl) rfl (by show 2 * 0 + _ ≤ _; exact Nat.le_of_eq rfl) (hb hby d2_16) (fun _ _ => ⟨rfl, e131, (by decide : 0 + 0 ≤ _), (by decide : 0 + 0 ≤ _)⟩)
  dsimp only [Pt.U, Pt.locs, Pt.cells, Pt.slots] at X133 l133 y133 z133 st133 hQ133
  subst l133 y133 z133
  obtain ⟨rfl, N133q, e133⟩ := hQ133
  have N133 := Fr.app N131 N133q
  refine Go.st (U' := T133.setTop (mkF m 19 #[.val (.ref a1), .val (.int p2), .val (.ref a3), .val (.int p4), .val (.int p5), .val (.int p6)] [(.int (fmin p6 (p4 - (1 : Int32)))), (.ref a3), (.int (([x0, x1, x2] : List Int32).getD ((fmin p5 (p2 - (1 : Int32)))).toNatClampNeg (0 : Int32)))])) (fun t k => st133 _ k) ?_
  obtain ⟨cl134, Ar134, q134, S134, N134, H134, G134⟩ := id VY
  refine Go.st (U' := T133.setTop (mkF m 20 #[.val (.ref a1), .val (.int p2), .val (.ref a3), .val (.int p4), .val (.int p5), .val (.int p6)] [(.int (([y0, y1, y2] : List Int32).getD ((fmin p6 (p4 - (1 : Int32)))).toNatClampNeg (0 : Int32))), (.int (([x0, x1, x2] : List Int32).getD ((fmin p5 (p2 - (1 : Int32)))).toNatClampNeg (0 : Int32)))])) (fun t k => ?_) ?_
  · refine X133.iaload hx (j := (fmin p6 (p4 - (1 : Int32)))) (v := (.int (([y0, y1, y2] : List Int32).getD ((fmin p6 (p4 - (1 : Int32)))).toNatClampNeg (0 : Int32)))) (by rw [e133]; exact Ar134.1) (State.isArrayOf_alike hZ.alike Ar134.2.1) Ar134.2.2 (inb_of (j := (fmin p6 (p4 - (1 : Int32)))) S134 hY) (Has.at H134 (inb_of (j := (fmin p6 (p4 - (1 : Int32)))) S134 hY) (own_getI [y0, y1, y2] _)) (g := (mkF m 19 #[.val (.ref a1), .val (.int p2), .val (.ref a3), .val (.int p4), .val (.int p5), .val (.int p6)] [(.int (fmin p6 (p4 - (1 : Int32)))), (.ref a3), (.int (([x0, x1, x2] : List Int32).getD ((fmin p5 (p2 - (1 : Int32)))).toNatClampNeg (0 : Int32)))])) rfl rfl (hb hby d2_19) _ ?_
    exact k
  by_cases hc135 : (([y0, y1, y2] : List Int32).getD ((fmin p6 (p4 - (1 : Int32)))).toNatClampNeg (0 : Int32)) < (([x0, x1, x2] : List Int32).getD ((fmin p5 (p2 - (1 : Int32)))).toNatClampNeg (0 : Int32))
  · refine Go.st (U' := T133.setTop (mkF m 28 #[.val (.ref a1), .val (.int p2), .val (.ref a3), .val (.int p4), .val (.int p5), .val (.int p6)] [(.int (0 : Int32))])) (fun t k => ?_) ?_
    · refine XS.icmpYes X133.here hx rfl (pc0 := 20) (pc' := 27) rfl (hb hby d2_20) rfl (tlt hc135).2.2.1 (by decide) (by decide) ?_
      refine XS.iconst X133.here hx rfl (hb hby d2_27) ?_
      exact k
    refine own_ret (Q := Qc Z a1 p2 a3 p4 p5 p6 k1 k3 x0 x1 x2 y0 y1 y2 h0 n0) (v := some (.int (0 : Int32))) X133 hlk (fun h => by rw [hrt] at h; cases h) (by decide) (by decide) ?_ (fun fs hr => retN X133 hx (t := .boolean) hrt (by simp) (hb hby d2_28) hr)
    rw [e133]
    exact ⟨(by first | rfl | simp only [fC, if_pos hc135]), N133, rfl⟩
  · refine Go.st (U' := T133.setTop (mkF m 28 #[.val (.ref a1), .val (.int p2), .val (.ref a3), .val (.int p4), .val (.int p5), .val (.int p6)] [(.int (1 : Int32))])) (fun t k => ?_) ?_
    · refine XS.icmpNo X133.here hx rfl (hb hby d2_20) rfl (flt hc135).2.2.1 ?_
      refine XS.iconst X133.here hx rfl (hb hby d2_23) ?_
      refine XS.goto X133.here hx rfl (pc0 := 24) (pc' := 28) rfl (hb hby d2_24) (by decide) (by decide) ?_
      exact k
    refine own_ret (Q := Qc Z a1 p2 a3 p4 p5 p6 k1 k3 x0 x1 x2 y0 y1 y2 h0 n0) (v := some (.int (1 : Int32))) X133 hlk (fun h => by rw [hrt] at h; cases h) (by decide) (by decide) ?_ (fun fs hr => retN X133 hx (t := .boolean) hrt (by simp) (hb hby d2_28) hr)
    rw [e133]
    exact ⟨(by first | rfl | simp only [fC, if_neg hc135]), N133, rfl⟩
set_option maxRecDepth 65536 in
set_option maxHeartbeats 40000000 in
theorem store0 {p : Program} {l : Launch} {e : Env} {R : Room} {s : State} {m : MethodId} {args : Array Value} {below : List Frame} {meth : Method} {c : Code} {T0 : State} {locs : List Loc} {cells slots : Nat} {Z : State} {a0 : Array Value} {h0 : Heap} {G : State → Outcome → Prop} {n0 : Nat} (q0 : Int64) (q1 : Int64) (q2 : Int64) (q3 : Int64) (p4 : Int32) (v9 : Int32) (v10 : Int32) (v11 : Int32) (v12 : Int32) (v15 : Int32) (v16 : Int32) (av : Addr) (bv : Addr) (aa : Addr) (bb : Addr) (kx : ClassId) (ky : ClassId) (ka : ClassId) (kb : ClassId) (x0 : Int32) (x1 : Int32) (x2 : Int32) (y0 : Int32) (y1 : Int32) (y2 : Int32) (La : List Int32) (Lb : List Int32)
    (X0 : Stand p l e R s m args below meth c T0 locs cells slots) (hx : p.tables.exec = Jvm.exec) (hZ : Z.Warmed39 s.vm) (hw : ∀ d ∈ tables_1, d.before a0 Z = true) (hby : c.code = code) (hml : c.maxLocals = 28) (hown : s.vm.findClass "com/example/wdth/wdth/TypicalSequenceAtMostPinLaw" = some m.cls) (e0 : T0.heap = h0) (Z0 : n0 ≤ h0.size) (N0 : Fr n0 locs) (VX : Arv Z h0 av kx .int (3 : Int32) [(.int x0), (.int x1), (.int x2)] (.int (0 : Int32))) (VY : Arv Z h0 bv ky .int (3 : Int32) [(.int y0), (.int y1), (.int y2)] (.int (0 : Int32))) (VA : Arv Z h0 aa ka .int (5 : Int32) (List.map Value.int La) (.int (0 : Int32))) (VB : Arv Z h0 bb kb .int (5 : Int32) (List.map Value.int Lb) (.int (0 : Int32))) (gA : n0 ≤ aa) (gB : n0 ≤ bb) (nxa : av ≠ aa) (nya : bv ≠ aa) (nab : aa ≠ bb) (nxb : av ≠ bb) (nyb : bv ≠ bb) (hin : ¬ v11 < 0 ∧ v11 < (5 : Int32)) (hlen : v11.toNatClampNeg < La.length)
    (K : ∀ (T' : State) (locs' : List Loc) (h' : Heap) (L' : List Int32), L' = (if (0 : Int32) < v9 then (La.set v11.toNatClampNeg x0) else La) → Stand p l e R s m args below meth c T' locs' cells slots → T'.heap = h' → n0 ≤ h'.size → Fr n0 locs' → Arv Z h' av kx .int (3 : Int32) [(.int x0), (.int x1), (.int x2)] (.int (0 : Int32)) → Arv Z h' bv ky .int (3 : Int32) [(.int y0), (.int y1), (.int y2)] (.int (0 : Int32)) → Arv Z h' aa ka .int (5 : Int32) (List.map Value.int L') (.int (0 : Int32)) → Arv Z h' bb kb .int (5 : Int32) (List.map Value.int Lb) (.int (0 : Int32)) → Go p e below G (T'.setTop (mkF m 168 #[.val (.long q0), .second, .val (.long q1), .second, .val (.long q2), .second, .val (.long q3), .second, .val (.int p4), .val (.int v9), .val (.int v10), .val (.int v11), .val (.int v12), .val (.ref av), .val (.ref bv), .val (.int v15), .val (.int v16), .val (.ref aa), .val (.ref bb), .unset, .unset, .unset, .unset, .unset, .unset, .unset, .unset, .unset] []))) : Go p e below G (T0.setTop (mkF m 154 #[.val (.long q0), .second, .val (.long q1), .second, .val (.long q2), .second, .val (.long q3), .second, .val (.int p4), .val (.int v9), .val (.int v10), .val (.int v11), .val (.int v12), .val (.ref av), .val (.ref bv), .val (.int v15), .val (.int v16), .val (.ref aa), .val (.ref bb), .unset, .unset, .unset, .unset, .unset, .unset, .unset, .unset, .unset] [])) := by
  refine Go.st (U' := T0.setTop (mkF m 156 #[.val (.long q0), .second, .val (.long q1), .second, .val (.long q2), .second, .val (.long q3), .second, .val (.int p4), .val (.int v9), .val (.int v10), .val (.int v11), .val (.int v12), .val (.ref av), .val (.ref bv), .val (.int v15), .val (.int v16), .val (.ref aa), .val (.ref bb), .unset, .unset, .unset, .unset, .unset, .unset, .unset, .unset, .unset] [(.int v9)])) (fun t k => ?_) ?_
  · refine XS.iload X0.here hx rfl (hb hby at_154) rfl ?_
    exact k
  by_cases hc136 : (0 : Int32) < v9
  · obtain ⟨cl137, Ar137, q137, S137, N137, H137, G137⟩ := id VX
    refine Go.st (U' := T0.setTop (mkF m 167 #[.val (.long q0), .second, .val (.long q1), .second, .val (.long q2), .second, .val (.long q3), .second, .val (.int p4), .val (.int v9), .val (.int v10), .val (.int v11), .val (.int v12), .val (.ref av), .val (.ref bv), .val (.int v15), .val (.int v16), .val (.ref aa), .val (.ref bb), .unset, .unset, .unset, .unset, .unset, .unset, .unset, .unset, .unset] [(.int x0), (.int v11), (.ref aa)])) (fun t k => ?_) ?_
    · refine XS.ifNo X0.here hx rfl (hb hby at_156) rfl ((if0 _ _).trans (tlt hc136).2.2.2) ?_
      refine XS.aload X0.here hx rfl (hb hby at_159) rfl rfl ?_
      refine XS.iload X0.here hx rfl (hb hby at_161) rfl ?_
      refine XS.aload X0.here hx rfl (hb hby at_163) rfl rfl ?_
      refine XS.iconst X0.here hx rfl (hb hby at_165) ?_
      refine X0.iaload hx (j := (0 : Int32)) (v := (.int x0)) (by rw [e0]; exact Ar137.1) (State.isArrayOf_alike hZ.alike Ar137.2.1) Ar137.2.2 (inb_of (j := (0 : Int32)) S137 ⟨by decide, by decide⟩) (Has.at H137 (inb_of (j := (0 : Int32)) S137 ⟨by decide, by decide⟩) rfl) (g := (mkF m 166 #[.val (.long q0), .second, .val (.long q1), .second, .val (.long q2), .second, .val (.long q3), .second, .val (.int p4), .val (.int v9), .val (.int v10), .val (.int v11), .val (.int v12), .val (.ref av), .val (.ref bv), .val (.int v15), .val (.int v16), .val (.ref aa), .val (.ref bb), .unset, .unset, .unset, .unset, .unset, .unset, .unset, .unset, .unset] [(.int (0 : Int32)), (.ref av), (.int v11), (.ref aa)])) rfl rfl (hb hby at_166) _ ?_
      exact k
    obtain ⟨cl139, Ar139, q139, S139, N139, H139, G139⟩ := id VA
    obtain ⟨T138, h138, X138, e138, W138, st138⟩ := stI X0 hx hZ e0 Ar139 (j := v11) (inb_of (j := v11) S139 hin) (g := (mkF m 167 #[.val (.long q0), .second, .val (.long q1), .second, .val (.long q2), .second, .val (.long q3), .second, .val (.int p4), .val (.int v9), .val (.int v10), .val (.int v11), .val (.int v12), .val (.ref av), .val (.ref bv), .val (.int v15), .val (.int v16), .val (.ref aa), .val (.ref bb), .unset, .unset, .unset, .unset, .unset, .unset, .unset, .unset, .unset] [(.int x0), (.int v11), (.ref aa)])) rfl rfl (hb hby at_167)
    have VS_138 := own_setI Ar139 q139 S139 N139 H139 G139 W138 hlen
    have VX_138 := VX.other W138 nxa
    have VY_138 := VY.other W138 nya
    have VB_138 := VB.other W138 (Ne.symm nab)
    have N138 := Fr.snoc X138 N0 gA
    have sz138 : n0 ≤ h138.size := Nat.le_trans Z0 (Nat.le_of_eq W138.size.symm)
    refine Go.st (U' := T138.setTop (mkF m 168 #[.val (.long q0), .second, .val (.long q1), .second, .val (.long q2), .second, .val (.long q3), .second, .val (.int p4), .val (.int v9), .val (.int v10), .val (.int v11), .val (.int v12), .val (.ref av), .val (.ref bv), .val (.int v15), .val (.int v16), .val (.ref aa), .val (.ref bb), .unset, .unset, .unset, .unset, .unset, .unset, .unset, .unset, .unset] [])) (fun t k => st138 _ k) ?_
    exact K _ _ _ _ (by rw [if_pos hc136]) X138 e138 sz138 N138 VX_138 VY_138 VS_138 VB_138
  · refine Go.st (U' := T0.setTop (mkF m 168 #[.val (.long q0), .second, .val (.long q1), .second, .val (.long q2), .second, .val (.long q3), .second, .val (.int p4), .val (.int v9), .val (.int v10), .val (.int v11), .val (.int v12), .val (.ref av), .val (.ref bv), .val (.int v15), .val (.int v16), .val (.ref aa), .val (.ref bb), .unset, .unset, .unset, .unset, .unset, .unset, .unset, .unset, .unset] [])) (fun t k => ?_) ?_
    · refine XS.ifYes X0.here hx rfl (pc0 := 156) (pc' := 168) rfl (hb hby at_156) rfl ((if0 _ _).trans (flt hc136).2.2.2) (by decide) (by decide) ?_
      exact k
    exact K _ _ _ _ (by rw [if_neg hc136]) X0 e0 Z0 N0 VX VY VA VB
set_option maxRecDepth 65536 in
set_option maxHeartbeats 40000000 in
theorem store1 {p : Program} {l : Launch} {e : Env} {R : Room} {s : State} {m : MethodId} {args : Array Value} {below : List Frame} {meth : Method} {c : Code} {T0 : State} {locs : List Loc} {cells slots : Nat} {Z : State} {a0 : Array Value} {h0 : Heap} {G : State → Outcome → Prop} {n0 : Nat} (q0 : Int64) (q1 : Int64) (q2 : Int64) (q3 : Int64) (p4 : Int32) (v9 : Int32) (v10 : Int32) (v11 : Int32) (v12 : Int32) (v15 : Int32) (v16 : Int32) (av : Addr) (bv : Addr) (aa : Addr) (bb : Addr) (kx : ClassId) (ky : ClassId) (ka : ClassId) (kb : ClassId) (x0 : Int32) (x1 : Int32) (x2 : Int32) (y0 : Int32) (y1 : Int32) (y2 : Int32) (La : List Int32) (Lb : List Int32)
    (X0 : Stand p l e R s m args below meth c T0 locs cells slots) (hx : p.tables.exec = Jvm.exec) (hZ : Z.Warmed39 s.vm) (hw : ∀ d ∈ tables_1, d.before a0 Z = true) (hby : c.code = code) (hml : c.maxLocals = 28) (hown : s.vm.findClass "com/example/wdth/wdth/TypicalSequenceAtMostPinLaw" = some m.cls) (e0 : T0.heap = h0) (Z0 : n0 ≤ h0.size) (N0 : Fr n0 locs) (VX : Arv Z h0 av kx .int (3 : Int32) [(.int x0), (.int x1), (.int x2)] (.int (0 : Int32))) (VY : Arv Z h0 bv ky .int (3 : Int32) [(.int y0), (.int y1), (.int y2)] (.int (0 : Int32))) (VA : Arv Z h0 aa ka .int (5 : Int32) (List.map Value.int La) (.int (0 : Int32))) (VB : Arv Z h0 bb kb .int (5 : Int32) (List.map Value.int Lb) (.int (0 : Int32))) (gA : n0 ≤ aa) (gB : n0 ≤ bb) (nxa : av ≠ aa) (nya : bv ≠ aa) (nab : aa ≠ bb) (nxb : av ≠ bb) (nyb : bv ≠ bb) (hin : ¬ (v11 + (1 : Int32)) < 0 ∧ (v11 + (1 : Int32)) < (5 : Int32)) (hlen : (v11 + (1 : Int32)).toNatClampNeg < La.length)
    (K : ∀ (T' : State) (locs' : List Loc) (h' : Heap) (L' : List Int32), L' = (if (1 : Int32) < v9 then (La.set (v11 + (1 : Int32)).toNatClampNeg x1) else La) → Stand p l e R s m args below meth c T' locs' cells slots → T'.heap = h' → n0 ≤ h'.size → Fr n0 locs' → Arv Z h' av kx .int (3 : Int32) [(.int x0), (.int x1), (.int x2)] (.int (0 : Int32)) → Arv Z h' bv ky .int (3 : Int32) [(.int y0), (.int y1), (.int y2)] (.int (0 : Int32)) → Arv Z h' aa ka .int (5 : Int32) (List.map Value.int L') (.int (0 : Int32)) → Arv Z h' bb kb .int (5 : Int32) (List.map Value.int Lb) (.int (0 : Int32)) → Go p e below G (T'.setTop (mkF m 185 #[.val (.long q0), .second, .val (.long q1), .second, .val (.long q2), .second, .val (.long q3), .second, .val (.int p4), .val (.int v9), .val (.int v10), .val (.int v11), .val (.int v12), .val (.ref av), .val (.ref bv), .val (.int v15), .val (.int v16), .val (.ref aa), .val (.ref bb), .unset, .unset, .unset, .unset, .unset, .unset, .unset, .unset, .unset] []))) : Go p e below G (T0.setTop (mkF m 168 #[.val (.long q0), .second, .val (.long q1), .second, .val (.long q2), .second, .val (.long q3), .second, .val (.int p4), .val (.int v9), .val (.int v10), .val (.int v11), .val (.int v12), .val (.ref av), .val (.ref bv), .val (.int v15), .val (.int v16), .val (.ref aa), .val (.ref bb), .unset, .unset, .unset, .unset, .unset, .unset, .unset, .unset, .unset] [])) := by
  refine Go.st (U' := T0.setTop (mkF m 171 #[.val (.long q0), .second, .val (.long q1), .second, .val (.long q2), .second, .val (.long q3), .second, .val (.int p4), .val (.int v9), .val (.int v10), .val (.int v11), .val (.int v12), .val (.ref av), .val (.ref bv), .val (.int v15), .val (.int v16), .val (.ref aa), .val (.ref bb), .unset, .unset, .unset, .unset, .unset, .unset, .unset, .unset, .unset] [(.int (1 : Int32)), (.int v9)])) (fun t k => ?_) ?_
  · refine XS.iload X0.here hx rfl (hb hby at_168) rfl ?_
    refine XS.iconst X0.here hx rfl (hb hby at_170) ?_
    exact k
  by_cases hc140 : (1 : Int32) < v9
  · obtain ⟨cl141, Ar141, q141, S141, N141, H141, G141⟩ := id VX
    refine Go.st (U' := T0.setTop (mkF m 184 #[.val (.long q0), .second, .val (.long q1), .second, .val (.long q2), .second, .val (.long q3), .second, .val (.int p4), .val (.int v9), .val (.int v10), .val (.int v11), .val (.int v12), .val (.ref av), .val (.ref bv), .val (.int v15), .val (.int v16), .val (.ref aa), .val (.ref bb), .unset, .unset, .unset, .unset, .unset, .unset, .unset, .unset, .unset] [(.int x1), (.int (v11 + (1 : Int32))), (.ref aa)])) (fun t k => ?_) ?_
    · refine XS.icmpNo X0.here hx rfl (hb hby at_171) rfl (tlt hc140).2.2.2 ?_
      refine XS.aload X0.here hx rfl (hb hby at_174) rfl rfl ?_
      refine XS.iload X0.here hx rfl (hb hby at_176) rfl ?_
      refine XS.iconst X0.here hx rfl (hb hby at_178) ?_
      refine XS.iadd X0.here hx rfl (hb hby at_179) rfl ?_
      refine XS.aload X0.here hx rfl (hb hby at_180) rfl rfl ?_
      refine XS.iconst X0.here hx rfl (hb hby at_182) ?_
      refine X0.iaload hx (j := (1 : Int32)) (v := (.int x1)) (by rw [e0]; exact Ar141.1) (State.isArrayOf_alike hZ.alike Ar141.2.1) Ar141.2.2 (inb_of (j := (1 : Int32)) S141 ⟨by decide, by decide⟩) (Has.at H141 (inb_of (j := (1 : Int32)) S141 ⟨by decide, by decide⟩) rfl) (g := (mkF m 183 #[.val (.long q0), .second, .val (.long q1), .second, .val (.long q2), .second, .val (.long q3), .second, .val (.int p4), .val (.int v9), .val (.int v10), .val (.int v11), .val (.int v12), .val (.ref av), .val (.ref bv), .val (.int v15), .val (.int v16), .val (.ref aa), .val (.ref bb), .unset, .unset, .unset, .unset, .unset, .unset, .unset, .unset, .unset] [(.int (1 : Int32)), (.ref av), (.int (v11 + (1 : Int32))), (.ref aa)])) rfl rfl (hb hby at_183) _ ?_
      exact k
    obtain ⟨cl143, Ar143, q143, S143, N143, H143, G143⟩ := id VA
    obtain ⟨T142, h142, X142, e142, W142, st142⟩ := stI X0 hx hZ e0 Ar143 (j := (v11 + (1 : Int32))) (inb_of (j := (v11 + (1 : Int32))) S143 hin) (g := (mkF m 184 #[.val (.long q0), .second, .val (.long q1), .second, .val (.long q2), .second, .val (.long q3), .second, .val (.int p4), .val (.int v9), .val (.int v10), .val (.int v11), .val (.int v12), .val (.ref av), .val (.ref bv), .val (.int v15), .val (.int v16), .val (.ref aa), .val (.ref bb), .unset, .unset, .unset, .unset, .unset, .unset, .unset, .unset, .unset] [(.int x1), (.int (v11 + (1 : Int32))), (.ref aa)])) rfl rfl (hb hby at_184)
    have VS_142 := own_setI Ar143 q143 S143 N143 H143 G143 W142 hlen
    have VX_142 := VX.other W142 nxa
    have VY_142 := VY.other W142 nya
    have VB_142 := VB.other W142 (Ne.symm nab)
    have N142 := Fr.snoc X142 N0 gA
    have sz142 : n0 ≤ h142.size := Nat.le_trans Z0 (Nat.le_of_eq W142.size.symm)
    refine Go.st (U' := T142.setTop (mkF m 185 #[.val (.long q0), .second, .val (.long q1), .second, .val (.long q2), .second, .val (.long q3), .second, .val (.int p4), .val (.int v9), .val (.int v10), .val (.int v11), .val (.int v12), .val (.ref av), .val (.ref bv), .val (.int v15), .val (.int v16), .val (.ref aa), .val (.ref bb), .unset, .unset, .unset, .unset, .unset, .unset, .unset, .unset, .unset] [])) (fun t k => st142 _ k) ?_
    exact K _ _ _ _ (by rw [if_pos hc140]) X142 e142 sz142 N142 VX_142 VY_142 VS_142 VB_142
  · refine Go.st (U' := T0.setTop (mkF m 185 #[.val (.long q0), .second, .val (.long q1), .second, .val (.long q2), .second, .val (.long q3), .second, .val (.int p4), .val (.int v9), .val (.int v10), .val (.int v11), .val (.int v12), .val (.ref av), .val (.ref bv), .val (.int v15), .val (.int v16), .val (.ref aa), .val (.ref bb), .unset, .unset, .unset, .unset, .unset, .unset, .unset, .unset, .unset] [])) (fun t k => ?_) ?_
    · refine XS.icmpYes X0.here hx rfl (pc0 := 171) (pc' := 185) rfl (hb hby at_171) rfl (flt hc140).2.2.2 (by decide) (by decide) ?_
      exact k
    exact K _ _ _ _ (by rw [if_neg hc140]) X0 e0 Z0 N0 VX VY VA VB
set_option maxRecDepth 65536 in
set_option maxHeartbeats 40000000 in
theorem store2 {p : Program} {l : Launch} {e : Env} {R : Room} {s : State} {m : MethodId} {args : Array Value} {below : List Frame} {meth : Method} {c : Code} {T0 : State} {locs : List Loc} {cells slots : Nat} {Z : State} {a0 : Array Value} {h0 : Heap} {G : State → Outcome → Prop} {n0 : Nat} (q0 : Int64) (q1 : Int64) (q2 : Int64) (q3 : Int64) (p4 : Int32) (v9 : Int32) (v10 : Int32) (v11 : Int32) (v12 : Int32) (v15 : Int32) (v16 : Int32) (av : Addr) (bv : Addr) (aa : Addr) (bb : Addr) (kx : ClassId) (ky : ClassId) (ka : ClassId) (kb : ClassId) (x0 : Int32) (x1 : Int32) (x2 : Int32) (y0 : Int32) (y1 : Int32) (y2 : Int32) (La : List Int32) (Lb : List Int32)
    (X0 : Stand p l e R s m args below meth c T0 locs cells slots) (hx : p.tables.exec = Jvm.exec) (hZ : Z.Warmed39 s.vm) (hw : ∀ d ∈ tables_1, d.before a0 Z = true) (hby : c.code = code) (hml : c.maxLocals = 28) (hown : s.vm.findClass "com/example/wdth/wdth/TypicalSequenceAtMostPinLaw" = some m.cls) (e0 : T0.heap = h0) (Z0 : n0 ≤ h0.size) (N0 : Fr n0 locs) (VX : Arv Z h0 av kx .int (3 : Int32) [(.int x0), (.int x1), (.int x2)] (.int (0 : Int32))) (VY : Arv Z h0 bv ky .int (3 : Int32) [(.int y0), (.int y1), (.int y2)] (.int (0 : Int32))) (VA : Arv Z h0 aa ka .int (5 : Int32) (List.map Value.int La) (.int (0 : Int32))) (VB : Arv Z h0 bb kb .int (5 : Int32) (List.map Value.int Lb) (.int (0 : Int32))) (gA : n0 ≤ aa) (gB : n0 ≤ bb) (nxa : av ≠ aa) (nya : bv ≠ aa) (nab : aa ≠ bb) (nxb : av ≠ bb) (nyb : bv ≠ bb) (hin : ¬ (v11 + (2 : Int32)) < 0 ∧ (v11 + (2 : Int32)) < (5 : Int32)) (hlen : (v11 + (2 : Int32)).toNatClampNeg < La.length)
    (K : ∀ (T' : State) (locs' : List Loc) (h' : Heap) (L' : List Int32), L' = (if (2 : Int32) < v9 then (La.set (v11 + (2 : Int32)).toNatClampNeg x2) else La) → Stand p l e R s m args below meth c T' locs' cells slots → T'.heap = h' → n0 ≤ h'.size → Fr n0 locs' → Arv Z h' av kx .int (3 : Int32) [(.int x0), (.int x1), (.int x2)] (.int (0 : Int32)) → Arv Z h' bv ky .int (3 : Int32) [(.int y0), (.int y1), (.int y2)] (.int (0 : Int32)) → Arv Z h' aa ka .int (5 : Int32) (List.map Value.int L') (.int (0 : Int32)) → Arv Z h' bb kb .int (5 : Int32) (List.map Value.int Lb) (.int (0 : Int32)) → Go p e below G (T'.setTop (mkF m 202 #[.val (.long q0), .second, .val (.long q1), .second, .val (.long q2), .second, .val (.long q3), .second, .val (.int p4), .val (.int v9), .val (.int v10), .val (.int v11), .val (.int v12), .val (.ref av), .val (.ref bv), .val (.int v15), .val (.int v16), .val (.ref aa), .val (.ref bb), .unset, .unset, .unset, .unset, .unset, .unset, .unset, .unset, .unset] []))) : Go p e below G (T0.setTop (mkF m 185 #[.val (.long q0), .second, .val (.long q1), .second, .val (.long q2), .second, .val (.long q3), .second, .val (.int p4), .val (.int v9), .val (.int v10), .val (.int v11), .val (.int v12), .val (.ref av), .val (.ref bv), .val (.int v15), .val (.int v16), .val (.ref aa), .val (.ref bb), .unset, .unset, .unset, .unset, .unset, .unset, .unset, .unset, .unset] [])) := by
  refine Go.st (U' := T0.setTop (mkF m 188 #[.val (.long q0), .second, .val (.long q1), .second, .val (.long q2), .second, .val (.long q3), .second, .val (.int p4), .val (.int v9), .val (.int v10), .val (.int v11), .val (.int v12), .val (.ref av), .val (.ref bv), .val (.int v15), .val (.int v16), .val (.ref aa), .val (.ref bb), .unset, .unset, .unset, .unset, .unset, .unset, .unset, .unset, .unset] [(.int (2 : Int32)), (.int v9)])) (fun t k => ?_) ?_
  · refine XS.iload X0.here hx rfl (hb hby at_185) rfl ?_
    refine XS.iconst X0.here hx rfl (hb hby at_187) ?_
    exact k
  by_cases hc144 : (2 : Int32) < v9
  · obtain ⟨cl145, Ar145, q145, S145, N145, H145, G145⟩ := id VX
    refine Go.st (U' := T0.setTop (mkF m 201 #[.val (.long q0), .second, .val (.long q1), .second, .val (.long q2), .second, .val (.long q3), .second, .val (.int p4), .val (.int v9), .val (.int v10), .val (.int v11), .val (.int v12), .val (.ref av), .val (.ref bv), .val (.int v15), .val (.int v16), .val (.ref aa), .val (.ref bb), .unset, .unset, .unset, .unset, .unset, .unset, .unset, .unset, .unset] [(.int x2), (.int (v11 + (2 : Int32))), (.ref aa)])) (fun t k => ?_) ?_
    · refine XS.icmpNo X0.here hx rfl (hb hby at_188) rfl (tlt hc144).2.2.2 ?_
      refine XS.aload X0.here hx rfl (hb hby at_191) rfl rfl ?_
      refine XS.iload X0.here hx rfl (hb hby at_193) rfl ?_
      refine XS.iconst X0.here hx rfl (hb hby at_195) ?_
      refine XS.iadd X0.here hx rfl (hb hby at_196) rfl ?_
      refine XS.aload X0.here hx rfl (hb hby at_197) rfl rfl ?_
      refine XS.iconst X0.here hx rfl (hb hby at_199) ?_
      refine X0.iaload hx (j := (2 : Int32)) (v := (.int x2)) (by rw [e0]; exact Ar145.1) (State.isArrayOf_alike hZ.alike Ar145.2.1) Ar145.2.2 (inb_of (j := (2 : Int32)) S145 ⟨by decide, by decide⟩) (Has.at H145 (inb_of (j := (2 : Int32)) S145 ⟨by decide, by decide⟩) rfl) (g := (mkF m 200 #[.val (.long q0), .second, .val (.long q1), .second, .val (.long q2), .second, .val (.long q3), .second, .val (.int p4), .val (.int v9), .val (.int v10), .val (.int v11), .val (.int v12), .val (.ref av), .val (.ref bv), .val (.int v15), .val (.int v16), .val (.ref aa), .val (.ref bb), .unset, .unset, .unset, .unset, .unset, .unset, .unset, .unset, .unset] [(.int (2 : Int32)), (.ref av), (.int (v11 + (2 : Int32))), (.ref aa)])) rfl rfl (hb hby at_200) _ ?_
      exact k
    obtain ⟨cl147, Ar147, q147, S147, N147, H147, G147⟩ := id VA
    obtain ⟨T146, h146, X146, e146, W146, st146⟩ := stI X0 hx hZ e0 Ar147 (j := (v11 + (2 : Int32))) (inb_of (j := (v11 + (2 : Int32))) S147 hin) (g := (mkF m 201 #[.val (.long q0), .second, .val (.long q1), .second, .val (.long q2), .second, .val (.long q3), .second, .val (.int p4), .val (.int v9), .val (.int v10), .val (.int v11), .val (.int v12), .val (.ref av), .val (.ref bv), .val (.int v15), .val (.int v16), .val (.ref aa), .val (.ref bb), .unset, .unset, .unset, .unset, .unset, .unset, .unset, .unset, .unset] [(.int x2), (.int (v11 + (2 : Int32))), (.ref aa)])) rfl rfl (hb hby at_201)
    have VS_146 := own_setI Ar147 q147 S147 N147 H147 G147 W146 hlen
    have VX_146 := VX.other W146 nxa
    have VY_146 := VY.other W146 nya
    have VB_146 := VB.other W146 (Ne.symm nab)
    have N146 := Fr.snoc X146 N0 gA
    have sz146 : n0 ≤ h146.size := Nat.le_trans Z0 (Nat.le_of_eq W146.size.symm)
    refine Go.st (U' := T146.setTop (mkF m 202 #[.val (.long q0), .second, .val (.long q1), .second, .val (.long q2), .second, .val (.long q3), .second, .val (.int p4), .val (.int v9), .val (.int v10), .val (.int v11), .val (.int v12), .val (.ref av), .val (.ref bv), .val (.int v15), .val (.int v16), .val (.ref aa), .val (.ref bb), .unset, .unset, .unset, .unset, .unset, .unset, .unset, .unset, .unset] [])) (fun t k => st146 _ k) ?_
    exact K _ _ _ _ (by rw [if_pos hc144]) X146 e146 sz146 N146 VX_146 VY_146 VS_146 VB_146
  · refine Go.st (U' := T0.setTop (mkF m 202 #[.val (.long q0), .second, .val (.long q1), .second, .val (.long q2), .second, .val (.long q3), .second, .val (.int p4), .val (.int v9), .val (.int v10), .val (.int v11), .val (.int v12), .val (.ref av), .val (.ref bv), .val (.int v15), .val (.int v16), .val (.ref aa), .val (.ref bb), .unset, .unset, .unset, .unset, .unset, .unset, .unset, .unset, .unset] [])) (fun t k => ?_) ?_
    · refine XS.icmpYes X0.here hx rfl (pc0 := 188) (pc' := 202) rfl (hb hby at_188) rfl (flt hc144).2.2.2 (by decide) (by decide) ?_
      exact k
    exact K _ _ _ _ (by rw [if_neg hc144]) X0 e0 Z0 N0 VX VY VA VB
set_option maxRecDepth 65536 in
set_option maxHeartbeats 40000000 in
theorem store3 {p : Program} {l : Launch} {e : Env} {R : Room} {s : State} {m : MethodId} {args : Array Value} {below : List Frame} {meth : Method} {c : Code} {T0 : State} {locs : List Loc} {cells slots : Nat} {Z : State} {a0 : Array Value} {h0 : Heap} {G : State → Outcome → Prop} {n0 : Nat} (q0 : Int64) (q1 : Int64) (q2 : Int64) (q3 : Int64) (p4 : Int32) (v9 : Int32) (v10 : Int32) (v11 : Int32) (v12 : Int32) (v15 : Int32) (v16 : Int32) (av : Addr) (bv : Addr) (aa : Addr) (bb : Addr) (kx : ClassId) (ky : ClassId) (ka : ClassId) (kb : ClassId) (x0 : Int32) (x1 : Int32) (x2 : Int32) (y0 : Int32) (y1 : Int32) (y2 : Int32) (La : List Int32) (Lb : List Int32)
    (X0 : Stand p l e R s m args below meth c T0 locs cells slots) (hx : p.tables.exec = Jvm.exec) (hZ : Z.Warmed39 s.vm) (hw : ∀ d ∈ tables_1, d.before a0 Z = true) (hby : c.code = code) (hml : c.maxLocals = 28) (hown : s.vm.findClass "com/example/wdth/wdth/TypicalSequenceAtMostPinLaw" = some m.cls) (e0 : T0.heap = h0) (Z0 : n0 ≤ h0.size) (N0 : Fr n0 locs) (VX : Arv Z h0 av kx .int (3 : Int32) [(.int x0), (.int x1), (.int x2)] (.int (0 : Int32))) (VY : Arv Z h0 bv ky .int (3 : Int32) [(.int y0), (.int y1), (.int y2)] (.int (0 : Int32))) (VA : Arv Z h0 aa ka .int (5 : Int32) (List.map Value.int La) (.int (0 : Int32))) (VB : Arv Z h0 bb kb .int (5 : Int32) (List.map Value.int Lb) (.int (0 : Int32))) (gA : n0 ≤ aa) (gB : n0 ≤ bb) (nxa : av ≠ aa) (nya : bv ≠ aa) (nab : aa ≠ bb) (nxb : av ≠ bb) (nyb : bv ≠ bb) (hin : ¬ v12 < 0 ∧ v12 < (5 : Int32)) (hlen : v12.toNatClampNeg < Lb.length)
    (K : ∀ (T' : State) (locs' : List Loc) (h' : Heap) (L' : List Int32), L' = (if (0 : Int32) < v10 then (Lb.set v12.toNatClampNeg y0) else Lb) → Stand p l e R s m args below meth c T' locs' cells slots → T'.heap = h' → n0 ≤ h'.size → Fr n0 locs' → Arv Z h' av kx .int (3 : Int32) [(.int x0), (.int x1), (.int x2)] (.int (0 : Int32)) → Arv Z h' bv ky .int (3 : Int32) [(.int y0), (.int y1), (.int y2)] (.int (0 : Int32)) → Arv Z h' aa ka .int (5 : Int32) (List.map Value.int La) (.int (0 : Int32)) → Arv Z h' bb kb .int (5 : Int32) (List.map Value.int L') (.int (0 : Int32)) → Go p e below G (T'.setTop (mkF m 216 #[.val (.long q0), .second, .val (.long q1), .second, .val (.long q2), .second, .val (.long q3), .second, .val (.int p4), .val (.int v9), .val (.int v10), .val (.int v11), .val (.int v12), .val (.ref av), .val (.ref bv), .val (.int v15), .val (.int v16), .val (.ref aa), .val (.ref bb), .unset, .unset, .unset, .unset, .unset, .unset, .unset, .unset, .unset] []))) : Go p e below G (T0.setTop (mkF m 202 #[.val (.long q0), .second, .val (.long q1), .second, .val (.long q2), .second, .val (.long q3), .second, .val (.int p4), .val (.int v9), .val (.int v10), .val (.int v11), .val (.int v12), .val (.ref av), .val (.ref bv), .val (.int v15), .val (.int v16), .val (.ref aa), .val (.ref bb), .unset, .unset, .unset, .unset, .unset, .unset, .unset, .unset, .unset] [])) := by
  refine Go.st (U' := T0.setTop (mkF m 204 #[.val (.long q0), .second, .val (.long q1), .second, .val (.long q2), .second, .val (.long q3), .second, .val (.int p4), .val (.int v9), .val (.int v10), .val (.int v11), .val (.int v12), .val (.ref av), .val (.ref bv), .val (.int v15), .val (.int v16), .val (.ref aa), .val (.ref bb), .unset, .unset, .unset, .unset, .unset, .unset, .unset, .unset, .unset] [(.int v10)])) (fun t k => ?_) ?_
  · refine XS.iload X0.here hx rfl (hb hby at_202) rfl ?_
    exact k
  by_cases hc148 : (0 : Int32) < v10
  · obtain ⟨cl149, Ar149, q149, S149, N149, H149, G149⟩ := id VY
    refine Go.st (U' := T0.setTop (mkF m 215 #[.val (.long q0), .second, .val (.long q1), .second, .val (.long q2), .second, .val (.long q3), .second, .val (.int p4), .val (.int v9), .val (.int v10), .val (.int v11), .val (.int v12), .val (.ref av), .val (.ref bv), .val (.int v15), .val (.int v16), .val (.ref aa), .val (.ref bb), .unset, .unset, .unset, .unset, .unset, .unset, .unset, .unset, .unset] [(.int y0), (.int v12), (.ref bb)])) (fun t k => ?_) ?_
    · refine XS.ifNo X0.here hx rfl (hb hby at_204) rfl ((if0 _ _).trans (tlt hc148).2.2.2) ?_
      refine XS.aload X0.here hx rfl (hb hby at_207) rfl rfl ?_
      refine XS.iload X0.here hx rfl (hb hby at_209) rfl ?_
      refine XS.aload X0.here hx rfl (hb hby at_211) rfl rfl ?_
      refine XS.iconst X0.here hx rfl (hb hby at_213) ?_
      refine X0.iaload hx (j := (0 : Int32)) (v := (.int y0)) (by rw [e0]; exact Ar149.1) (State.isArrayOf_alike hZ.alike Ar149.2.1) Ar149.2.2 (inb_of (j := (0 : Int32)) S149 ⟨by decide, by decide⟩) (Has.at H149 (inb_of (j := (0 : Int32)) S149 ⟨by decide, by decide⟩) rfl) (g := (mkF m 214 #[.val (.long q0), .second, .val (.long q1), .second, .val (.long q2), .second, .val (.long q3), .second, .val (.int p4), .val (.int v9), .val (.int v10), .val (.int v11), .val (.int v12), .val (.ref av), .val (.ref bv), .val (.int v15), .val (.int v16), .val (.ref aa), .val (.ref bb), .unset, .unset, .unset, .unset, .unset, .unset, .unset, .unset, .unset] [(.int (0 : Int32)), (.ref bv), (.int v12), (.ref bb)])) rfl rfl (hb hby at_214) _ ?_
      exact k
    obtain ⟨cl151, Ar151, q151, S151, N151, H151, G151⟩ := id VB
    obtain ⟨T150, h150, X150, e150, W150, st150⟩ := stI X0 hx hZ e0 Ar151 (j := v12) (inb_of (j := v12) S151 hin) (g := (mkF m 215 #[.val (.long q0), .second, .val (.long q1), .second, .val (.long q2), .second, .val (.long q3), .second, .val (.int p4), .val (.int v9), .val (.int v10), .val (.int v11), .val (.int v12), .val (.ref av), .val (.ref bv), .val (.int v15), .val (.int v16), .val (.ref aa), .val (.ref bb), .unset, .unset, .unset, .unset, .unset, .unset, .unset, .unset, .unset] [(.int y0), (.int v12), (.ref bb)])) rfl rfl (hb hby at_215)
    have VS_150 := own_setI Ar151 q151 S151 N151 H151 G151 W150 hlen
    have VX_150 := VX.other W150 nxb
    have VY_150 := VY.other W150 nyb
    have VA_150 := VA.other W150 nab
    have N150 := Fr.snoc X150 N0 gB
    have sz150 : n0 ≤ h150.size := Nat.le_trans Z0 (Nat.le_of_eq W150.size.symm)
    refine Go.st (U' := T150.setTop (mkF m 216 #[.val (.long q0), .second, .val (.long q1), .second, .val (.long q2), .second, .val (.long q3), .second, .val (.int p4), .val (.int v9), .val (.int v10), .val (.int v11), .val (.int v12), .val (.ref av), .val (.ref bv), .val (.int v15), .val (.int v16), .val (.ref aa), .val (.ref bb), .unset, .unset, .unset, .unset, .unset, .unset, .unset, .unset, .unset] [])) (fun t k => st150 _ k) ?_
    exact K _ _ _ _ (by rw [if_pos hc148]) X150 e150 sz150 N150 VX_150 VY_150 VA_150 VS_150
  · refine Go.st (U' := T0.setTop (mkF m 216 #[.val (.long q0), .second, .val (.long q1), .second, .val (.long q2), .second, .val (.long q3), .second, .val (.int p4), .val (.int v9), .val (.int v10), .val (.int v11), .val (.int v12), .val (.ref av), .val (.ref bv), .val (.int v15), .val (.int v16), .val (.ref aa), .val (.ref bb), .unset, .unset, .unset, .unset, .unset, .unset, .unset, .unset, .unset] [])) (fun t k => ?_) ?_
    · refine XS.ifYes X0.here hx rfl (pc0 := 204) (pc' := 216) rfl (hb hby at_204) rfl ((if0 _ _).trans (flt hc148).2.2.2) (by decide) (by decide) ?_
      exact k
    exact K _ _ _ _ (by rw [if_neg hc148]) X0 e0 Z0 N0 VX VY VA VB
set_option maxRecDepth 65536 in
set_option maxHeartbeats 40000000 in
theorem store4 {p : Program} {l : Launch} {e : Env} {R : Room} {s : State} {m : MethodId} {args : Array Value} {below : List Frame} {meth : Method} {c : Code} {T0 : State} {locs : List Loc} {cells slots : Nat} {Z : State} {a0 : Array Value} {h0 : Heap} {G : State → Outcome → Prop} {n0 : Nat} (q0 : Int64) (q1 : Int64) (q2 : Int64) (q3 : Int64) (p4 : Int32) (v9 : Int32) (v10 : Int32) (v11 : Int32) (v12 : Int32) (v15 : Int32) (v16 : Int32) (av : Addr) (bv : Addr) (aa : Addr) (bb : Addr) (kx : ClassId) (ky : ClassId) (ka : ClassId) (kb : ClassId) (x0 : Int32) (x1 : Int32) (x2 : Int32) (y0 : Int32) (y1 : Int32) (y2 : Int32) (La : List Int32) (Lb : List Int32)
    (X0 : Stand p l e R s m args below meth c T0 locs cells slots) (hx : p.tables.exec = Jvm.exec) (hZ : Z.Warmed39 s.vm) (hw : ∀ d ∈ tables_1, d.before a0 Z = true) (hby : c.code = code) (hml : c.maxLocals = 28) (hown : s.vm.findClass "com/example/wdth/wdth/TypicalSequenceAtMostPinLaw" = some m.cls) (e0 : T0.heap = h0) (Z0 : n0 ≤ h0.size) (N0 : Fr n0 locs) (VX : Arv Z h0 av kx .int (3 : Int32) [(.int x0), (.int x1), (.int x2)] (.int (0 : Int32))) (VY : Arv Z h0 bv ky .int (3 : Int32) [(.int y0), (.int y1), (.int y2)] (.int (0 : Int32))) (VA : Arv Z h0 aa ka .int (5 : Int32) (List.map Value.int La) (.int (0 : Int32))) (VB : Arv Z h0 bb kb .int (5 : Int32) (List.map Value.int Lb) (.int (0 : Int32))) (gA : n0 ≤ aa) (gB : n0 ≤ bb) (nxa : av ≠ aa) (nya : bv ≠ aa) (nab : aa ≠ bb) (nxb : av ≠ bb) (nyb : bv ≠ bb) (hin : ¬ (v12 + (1 : Int32)) < 0 ∧ (v12 + (1 : Int32)) < (5 : Int32)) (hlen : (v12 + (1 : Int32)).toNatClampNeg < Lb.length)
    (K : ∀ (T' : State) (locs' : List Loc) (h' : Heap) (L' : List Int32), L' = (if (1 : Int32) < v10 then (Lb.set (v12 + (1 : Int32)).toNatClampNeg y1) else Lb) → Stand p l e R s m args below meth c T' locs' cells slots → T'.heap = h' → n0 ≤ h'.size → Fr n0 locs' → Arv Z h' av kx .int (3 : Int32) [(.int x0), (.int x1), (.int x2)] (.int (0 : Int32)) → Arv Z h' bv ky .int (3 : Int32) [(.int y0), (.int y1), (.int y2)] (.int (0 : Int32)) → Arv Z h' aa ka .int (5 : Int32) (List.map Value.int La) (.int (0 : Int32)) → Arv Z h' bb kb .int (5 : Int32) (List.map Value.int L') (.int (0 : Int32)) → Go p e below G (T'.setTop (mkF m 233 #[.val (.long q0), .second, .val (.long q1), .second, .val (.long q2), .second, .val (.long q3), .second, .val (.int p4), .val (.int v9), .val (.int v10), .val (.int v11), .val (.int v12), .val (.ref av), .val (.ref bv), .val (.int v15), .val (.int v16), .val (.ref aa), .val (.ref bb), .unset, .unset, .unset, .unset, .unset, .unset, .unset, .unset, .unset] []))) : Go p e below G (T0.setTop (mkF m 216 #[.val (.long q0), .second, .val (.long q1), .second, .val (.long q2), .second, .val (.long q3), .second, .val (.int p4), .val (.int v9), .val (.int v10), .val (.int v11), .val (.int v12), .val (.ref av), .val (.ref bv), .val (.int v15), .val (.int v16), .val (.ref aa), .val (.ref bb), .unset, .unset, .unset, .unset, .unset, .unset, .unset, .unset, .unset] [])) := by
  refine Go.st (U' := T0.setTop (mkF m 219 #[.val (.long q0), .second, .val (.long q1), .second, .val (.long q2), .second, .val (.long q3), .second, .val (.int p4), .val (.int v9), .val (.int v10), .val (.int v11), .val (.int v12), .val (.ref av), .val (.ref bv), .val (.int v15), .val (.int v16), .val (.ref aa), .val (.ref bb), .unset, .unset, .unset, .unset, .unset, .unset, .unset, .unset, .unset] [(.int (1 : Int32)), (.int v10)])) (fun t k => ?_) ?_
  · refine XS.iload X0.here hx rfl (hb hby at_216) rfl ?_
    refine XS.iconst X0.here hx rfl (hb hby at_218) ?_
    exact k
  by_cases hc152 : (1 : Int32) < v10
  · obtain ⟨cl153, Ar153, q153, S153, N153, H153, G153⟩ := id VY
    refine Go.st (U' := T0.setTop (mkF m 232 #[.val (.long q0), .second, .val (.long q1), .second, .val (.long q2), .second, .val (.long q3), .second, .val (.int p4), .val (.int v9), .val (.int v10), .val (.int v11), .val (.int v12), .val (.ref av), .val (.ref bv), .val (.int v15), .val (.int v16), .val (.ref aa), .val (.ref bb), .unset, .unset, .unset, .unset, .unset, .unset, .unset, .unset, .unset] [(.int y1), (.int (v12 + (1 : Int32))), (.ref bb)])) (fun t k => ?_) ?_
    · refine XS.icmpNo X0.here hx rfl (hb hby at_219) rfl (tlt hc152).2.2.2 ?_
      refine XS.aload X0.here hx rfl (hb hby at_222) rfl rfl ?_
      refine XS.iload X0.here hx rfl (hb hby at_224) rfl ?_
      refine XS.iconst X0.here hx rfl (hb hby at_226) ?_
      refine XS.iadd X0.here hx rfl (hb hby at_227) rfl ?_
      refine XS.aload X0.here hx rfl (hb hby at_228) rfl rfl ?_
      refine XS.iconst X0.here hx rfl (hb hby at_230) ?_
      refine X0.iaload hx (j := (1 : Int32)) (v := (.int y1)) (by rw [e0]; exact Ar153.1) (State.isArrayOf_alike hZ.alike Ar153.2.1) Ar153.2.2 (inb_of (j := (1 : Int32)) S153 ⟨by decide, by decide⟩) (Has.at H153 (inb_of (j := (1 : Int32)) S153 ⟨by decide, by decide⟩) rfl) (g := (mkF m 231 #[.val (.long q0), .second, .val (.long q1), .second, .val (.long q2), .second, .val (.long q3), .second, .val (.int p4), .val (.int v9), .val (.int v10), .val (.int v11), .val (.int v12), .val (.ref av), .val (.ref bv), .val (.int v15), .val (.int v16), .val (.ref aa), .val (.ref bb), .unset, .unset, .unset, .unset, .unset, .unset, .unset, .unset, .unset] [(.int (1 : Int32)), (.ref bv), (.int (v12 + (1 : Int32))), (.ref bb)])) rfl rfl (hb hby at_231) _ ?_
      exact k
    obtain ⟨cl155, Ar155, q155, S155, N155, H155, G155⟩ := id VB
    obtain ⟨T154, h154, X154, e154, W154, st154⟩ := stI X0 hx hZ e0 Ar155 (j := (v12 + (1 : Int32))) (inb_of (j := (v12 + (1 : Int32))) S155 hin) (g := (mkF m 232 #[.val (.long q0), .second, .val (.long q1), .second, .val (.long q2), .second, .val (.long q3), .second, .val (.int p4), .val (.int v9), .val (.int v10), .val (.int v11), .val (.int v12), .val (.ref av), .val (.ref bv), .val (.int v15), .val (.int v16), .val (.ref aa), .val (.ref bb), .unset, .unset, .unset, .unset, .unset, .unset, .unset, .unset, .unset] [(.int y1), (.int (v12 + (1 : Int32))), (.ref bb)])) rfl rfl (hb hby at_232)
    have VS_154 := own_setI Ar155 q155 S155 N155 H155 G155 W154 hlen
    have VX_154 := VX.other W154 nxb
    have VY_154 := VY.other W154 nyb
    have VA_154 := VA.other W154 nab
    have N154 := Fr.snoc X154 N0 gB
    have sz154 : n0 ≤ h154.size := Nat.le_trans Z0 (Nat.le_of_eq W154.size.symm)
    refine Go.st (U' := T154.setTop (mkF m 233 #[.val (.long q0), .second, .val (.long q1), .second, .val (.long q2), .second, .val (.long q3), .second, .val (.int p4), .val (.int v9), .val (.int v10), .val (.int v11), .val (.int v12), .val (.ref av), .val (.ref bv), .val (.int v15), .val (.int v16), .val (.ref aa), .val (.ref bb), .unset, .unset, .unset, .unset, .unset, .unset, .unset, .unset, .unset] [])) (fun t k => st154 _ k) ?_
    exact K _ _ _ _ (by rw [if_pos hc152]) X154 e154 sz154 N154 VX_154 VY_154 VA_154 VS_154
  · refine Go.st (U' := T0.setTop (mkF m 233 #[.val (.long q0), .second, .val (.long q1), .second, .val (.long q2), .second, .val (.long q3), .second, .val (.int p4), .val (.int v9), .val (.int v10), .val (.int v11), .val (.int v12), .val (.ref av), .val (.ref bv), .val (.int v15), .val (.int v16), .val (.ref aa), .val (.ref bb), .unset, .unset, .unset, .unset, .unset, .unset, .unset, .unset, .unset] [])) (fun t k => ?_) ?_
    · refine XS.icmpYes X0.here hx rfl (pc0 := 219) (pc' := 233) rfl (hb hby at_219) rfl (flt hc152).2.2.2 (by decide) (by decide) ?_
      exact k
    exact K _ _ _ _ (by rw [if_neg hc152]) X0 e0 Z0 N0 VX VY VA VB
set_option maxRecDepth 65536 in
set_option maxHeartbeats 40000000 in
theorem store5 {p : Program} {l : Launch} {e : Env} {R : Room} {s : State} {m : MethodId} {args : Array Value} {below : List Frame} {meth : Method} {c : Code} {T0 : State} {locs : List Loc} {cells slots : Nat} {Z : State} {a0 : Array Value} {h0 : Heap} {G : State → Outcome → Prop} {n0 : Nat} (q0 : Int64) (q1 : Int64) (q2 : Int64) (q3 : Int64) (p4 : Int32) (v9 : Int32) (v10 : Int32) (v11 : Int32) (v12 : Int32) (v15 : Int32) (v16 : Int32) (av : Addr) (bv : Addr) (aa : Addr) (bb : Addr) (kx : ClassId) (ky : ClassId) (ka : ClassId) (kb : ClassId) (x0 : Int32) (x1 : Int32) (x2 : Int32) (y0 : Int32) (y1 : Int32) (y2 : Int32) (La : List Int32) (Lb : List Int32)
    (X0 : Stand p l e R s m args below meth c T0 locs cells slots) (hx : p.tables.exec = Jvm.exec) (hZ : Z.Warmed39 s.vm) (hw : ∀ d ∈ tables_1, d.before a0 Z = true) (hby : c.code = code) (hml : c.maxLocals = 28) (hown : s.vm.findClass "com/example/wdth/wdth/TypicalSequenceAtMostPinLaw" = some m.cls) (e0 : T0.heap = h0) (Z0 : n0 ≤ h0.size) (N0 : Fr n0 locs) (VX : Arv Z h0 av kx .int (3 : Int32) [(.int x0), (.int x1), (.int x2)] (.int (0 : Int32))) (VY : Arv Z h0 bv ky .int (3 : Int32) [(.int y0), (.int y1), (.int y2)] (.int (0 : Int32))) (VA : Arv Z h0 aa ka .int (5 : Int32) (List.map Value.int La) (.int (0 : Int32))) (VB : Arv Z h0 bb kb .int (5 : Int32) (List.map Value.int Lb) (.int (0 : Int32))) (gA : n0 ≤ aa) (gB : n0 ≤ bb) (nxa : av ≠ aa) (nya : bv ≠ aa) (nab : aa ≠ bb) (nxb : av ≠ bb) (nyb : bv ≠ bb) (hin : ¬ (v12 + (2 : Int32)) < 0 ∧ (v12 + (2 : Int32)) < (5 : Int32)) (hlen : (v12 + (2 : Int32)).toNatClampNeg < Lb.length)
    (K : ∀ (T' : State) (locs' : List Loc) (h' : Heap) (L' : List Int32), L' = (if (2 : Int32) < v10 then (Lb.set (v12 + (2 : Int32)).toNatClampNeg y2) else Lb) → Stand p l e R s m args below meth c T' locs' cells slots → T'.heap = h' → n0 ≤ h'.size → Fr n0 locs' → Arv Z h' av kx .int (3 : Int32) [(.int x0), (.int x1), (.int x2)] (.int (0 : Int32)) → Arv Z h' bv ky .int (3 : Int32) [(.int y0), (.int y1), (.int y2)] (.int (0 : Int32)) → Arv Z h' aa ka .int (5 : Int32) (List.map Value.int La) (.int (0 : Int32)) → Arv Z h' bb kb .int (5 : Int32) (List.map Value.int L') (.int (0 : Int32)) → Go p e below G (T'.setTop (mkF m 250 #[.val (.long q0), .second, .val (.long q1), .second, .val (.long q2), .second, .val (.long q3), .second, .val (.int p4), .val (.int v9), .val (.int v10), .val (.int v11), .val (.int v12), .val (.ref av), .val (.ref bv), .val (.int v15), .val (.int v16), .val (.ref aa), .val (.ref bb), .unset, .unset, .unset, .unset, .unset, .unset, .unset, .unset, .unset] []))) : Go p e below G (T0.setTop (mkF m 233 #[.val (.long q0), .second, .val (.long q1), .second, .val (.long q2), .second, .val (.long q3), .second, .val (.int p4), .val (.int v9), .val (.int v10), .val (.int v11), .val (.int v12), .val (.ref av), .val (.ref bv), .val (.int v15), .val (.int v16), .val (.ref aa), .val (.ref bb), .unset, .unset, .unset, .unset, .unset, .unset, .unset, .unset, .unset] [])) := by
  refine Go.st (U' := T0.setTop (mkF m 236 #[.val (.long q0), .second, .val (.long q1), .second, .val (.long q2), .second, .val (.long q3), .second, .val (.int p4), .val (.int v9), .val (.int v10), .val (.int v11), .val (.int v12), .val (.ref av), .val (.ref bv), .val (.int v15), .val (.int v16), .val (.ref aa), .val (.ref bb), .unset, .unset, .unset, .unset, .unset, .unset, .unset, .unset, .unset] [(.int (2 : Int32)), (.int v10)])) (fun t k => ?_) ?_
  · refine XS.iload X0.here hx rfl (hb hby at_233) rfl ?_
    refine XS.iconst X0.here hx rfl (hb hby at_235) ?_
    exact k
  by_cases hc156 : (2 : Int32) < v10
  · obtain ⟨cl157, Ar157, q157, S157, N157, H157, G157⟩ := id VY
    refine Go.st (U' := T0.setTop (mkF m 249 #[.val (.long q0), .second, .val (.long q1), .second, .val (.long q2), .second, .val (.long q3), .second, .val (.int p4), .val (.int v9), .val (.int v10), .val (.int v11), .val (.int v12), .val (.ref av), .val (.ref bv), .val (.int v15), .val (.int v16), .val (.ref aa), .val (.ref bb), .unset, .unset, .unset, .unset, .unset, .unset, .unset, .unset, .unset] [(.int y2), (.int (v12 + (2 : Int32))), (.ref bb)])) (fun t k => ?_) ?_
    · refine XS.icmpNo X0.here hx rfl (hb hby at_236) rfl (tlt hc156).2.2.2 ?_
      refine XS.aload X0.here hx rfl (hb hby at_239) rfl rfl ?_
      refine XS.iload X0.here hx rfl (hb hby at_241) rfl ?_
      refine XS.iconst X0.here hx rfl (hb hby at_243) ?_
      refine XS.iadd X0.here hx rfl (hb hby at_244) rfl ?_
      refine XS.aload X0.here hx rfl (hb hby at_245) rfl rfl ?_
      refine XS.iconst X0.here hx rfl (hb hby at_247) ?_
      refine X0.iaload hx (j := (2 : Int32)) (v := (.int y2)) (by rw [e0]; exact Ar157.1) (State.isArrayOf_alike hZ.alike Ar157.2.1) Ar157.2.2 (inb_of (j := (2 : Int32)) S157 ⟨by decide, by decide⟩) (Has.at H157 (inb_of (j := (2 : Int32)) S157 ⟨by decide, by decide⟩) rfl) (g := (mkF m 248 #[.val (.long q0), .second, .val (.long q1), .second, .val (.long q2), .second, .val (.long q3), .second, .val (.int p4), .val (.int v9), .val (.int v10), .val (.int v11), .val (.int v12), .val (.ref av), .val (.ref bv), .val (.int v15), .val (.int v16), .val (.ref aa), .val (.ref bb), .unset, .unset, .unset, .unset, .unset, .unset, .unset, .unset, .unset] [(.int (2 : Int32)), (.ref bv), (.int (v12 + (2 : Int32))), (.ref bb)])) rfl rfl (hb hby at_248) _ ?_
      exact k
    obtain ⟨cl159, Ar159, q159, S159, N159, H159, G159⟩ := id VB
    obtain ⟨T158, h158, X158, e158, W158, st158⟩ := stI X0 hx hZ e0 Ar159 (j := (v12 + (2 : Int32))) (inb_of (j := (v12 + (2 : Int32))) S159 hin) (g := (mkF m 249 #[.val (.long q0), .second, .val (.long q1), .second, .val (.long q2), .second, .val (.long q3), .second, .val (.int p4), .val (.int v9), .val (.int v10), .val (.int v11), .val (.int v12), .val (.ref av), .val (.ref bv), .val (.int v15), .val (.int v16), .val (.ref aa), .val (.ref bb), .unset, .unset, .unset, .unset, .unset, .unset, .unset, .unset, .unset] [(.int y2), (.int (v12 + (2 : Int32))), (.ref bb)])) rfl rfl (hb hby at_249)
    have VS_158 := own_setI Ar159 q159 S159 N159 H159 G159 W158 hlen
    have VX_158 := VX.other W158 nxb
    have VY_158 := VY.other W158 nyb
    have VA_158 := VA.other W158 nab
    have N158 := Fr.snoc X158 N0 gB
    have sz158 : n0 ≤ h158.size := Nat.le_trans Z0 (Nat.le_of_eq W158.size.symm)
    refine Go.st (U' := T158.setTop (mkF m 250 #[.val (.long q0), .second, .val (.long q1), .second, .val (.long q2), .second, .val (.long q3), .second, .val (.int p4), .val (.int v9), .val (.int v10), .val (.int v11), .val (.int v12), .val (.ref av), .val (.ref bv), .val (.int v15), .val (.int v16), .val (.ref aa), .val (.ref bb), .unset, .unset, .unset, .unset, .unset, .unset, .unset, .unset, .unset] [])) (fun t k => st158 _ k) ?_
    exact K _ _ _ _ (by rw [if_pos hc156]) X158 e158 sz158 N158 VX_158 VY_158 VA_158 VS_158
  · refine Go.st (U' := T0.setTop (mkF m 250 #[.val (.long q0), .second, .val (.long q1), .second, .val (.long q2), .second, .val (.long q3), .second, .val (.int p4), .val (.int v9), .val (.int v10), .val (.int v11), .val (.int v12), .val (.ref av), .val (.ref bv), .val (.int v15), .val (.int v16), .val (.ref aa), .val (.ref bb), .unset, .unset, .unset, .unset, .unset, .unset, .unset, .unset, .unset] [])) (fun t k => ?_) ?_
    · refine XS.icmpYes X0.here hx rfl (pc0 := 236) (pc' := 250) rfl (hb hby at_236) rfl (flt hc156).2.2.2 (by decide) (by decide) ?_
      exact k
    exact K _ _ _ _ (by rw [if_neg hc156]) X0 e0 Z0 N0 VX VY VA VB
theorem own_ct (p : Int32) (v9 v10 v11 v12 : Int32) (h9 : (p &&& (3 : Int32)) = v9) (h10 : (((p.toUInt32 >>> ((2 : Int32) &&& 31).toUInt32).toInt32) &&& (3 : Int32)) = v10) (h11 : (((p.toUInt32 >>> ((4 : Int32) &&& 31).toUInt32).toInt32) &&& (1 : Int32)) = v11) (h12 : (((p.toUInt32 >>> ((5 : Int32) &&& 31).toUInt32).toInt32) &&& (1 : Int32)) = v12) :
    (0 ≤ v9.toInt ∧ v9.toInt ≤ 3) ∧ (0 ≤ v10.toInt ∧ v10.toInt ≤ 3) ∧ (0 ≤ v11.toInt ∧ v11.toInt ≤ 1) ∧ (0 ≤ v12.toInt ∧ v12.toInt ≤ 1) := by
  have a1 := c_mask p 3 2 (by decide) (by decide)
  have a2 := c_mask ((p.toUInt32 >>> ((2 : Int32) &&& 31).toUInt32).toInt32) 3 2 (by decide) (by decide)
  have a3 := c_mask ((p.toUInt32 >>> ((4 : Int32) &&& 31).toUInt32).toInt32) 1 1 (by decide) (by decide)
  have a4 := c_mask ((p.toUInt32 >>> ((5 : Int32) &&& 31).toUInt32).toInt32) 1 1 (by decide) (by decide)
  rw [h9] at a1
  rw [h10] at a2
  rw [h11] at a3
  rw [h12] at a4
  omega
theorem own_ix (v : Int32) (h : 0 ≤ v.toInt ∧ v.toInt ≤ 1) (o : Int32) (ho : 0 ≤ o.toInt) (ho2 : o.toInt ≤ 2) : ¬ (v + o) < 0 ∧ (v + o) < (5 : Int32) := own_ij (by rw [own_add h.1 (by omega) ho (by omega)]; omega) (by rw [own_add h.1 (by omega) ho (by omega)]; show v.toInt + o.toInt < 5; omega)
theorem own_ix0 (v : Int32) (h : 0 ≤ v.toInt ∧ v.toInt ≤ 1) : ¬ v < 0 ∧ v < (5 : Int32) := own_ij h.1 (by show v.toInt < 5; omega)
theorem own_il {v : Int32} (h : ¬ v < 0 ∧ v < (5 : Int32)) {L : List Int32} (hl : L.length = 5) : v.toNatClampNeg < L.length := by
  obtain ⟨h1, h2⟩ := h
  rw [Int32.lt_iff_toInt_lt] at h1 h2
  have k : (0 : Int32).toInt = 0 := rfl
  have k5 : (5 : Int32).toInt = 5 := rfl
  rw [hl]
  show v.toInt.toNat < 5
  omega
theorem own_sl {c : Prop} [Decidable c] {L L' : List Int32} {i : Nat} {x : Int32} (h : L' = (if c then (L.set i x) else L)) (hl : L.length = 5) : L'.length = 5 := by
  subst h
  split
  · rw [List.length_set]; exact hl
  · exact hl
def own_got (La Lb : List Int32) (p2 p3 p5 p6 : Int32) : Int32 := nar .boolean ((own_rows La Lb p2 p5 (p6 - p5) (p3.toInt - p2.toInt).toNat p2 (List.replicate (p6 - p5).toNatClampNeg (0 : Int32))).getD ((p6 - p5) - (1 : Int32)).toNatClampNeg (0 : Int32))
def own_want (c00 c22 c11 c01 c12 c10 c21 : Int32) : Int32 := (if c00 = (0 : Int32) then (0 : Int32) else (if c22 = (0 : Int32) then (0 : Int32) else (if c11 = (0 : Int32) then (if c01 = (0 : Int32) then (if c10 = (0 : Int32) then (0 : Int32) else (if c21 = (0 : Int32) then (0 : Int32) else (1 : Int32))) else (if c12 = (0 : Int32) then (if c10 = (0 : Int32) then (0 : Int32) else (if c21 = (0 : Int32) then (0 : Int32) else (1 : Int32))) else (1 : Int32))) else (1 : Int32))))
theorem own_nto {a b : Int32} (ha : 0 ≤ a.toInt ∧ a.toInt ≤ 1) (hb : 0 ≤ b.toInt ∧ b.toInt ≤ 3) (h : ¬ b = (0 : Int32)) : ¬ (a + b) = a := fun q => by
  have q2 := congrArg Int32.toInt q
  rw [own_add ha.1 (by omega) hb.1 (by omega)] at q2
  exact h (Int32.toInt_inj.mp (show b.toInt = 0 by omega))
theorem own_bd (la lb ao bo : Int32) (hla : 0 ≤ la.toInt ∧ la.toInt ≤ 3) (hlb : 0 ≤ lb.toInt ∧ lb.toInt ≤ 3) (hao : 0 ≤ ao.toInt ∧ ao.toInt ≤ 1) (hbo : 0 ≤ bo.toInt ∧ bo.toInt ≤ 1) (na : ¬ la = (0 : Int32)) (nb : ¬ lb = (0 : Int32)) : ¬ ((bo + lb) - bo) = (0 : Int32) ∧ 0 ≤ ao.toInt ∧ (ao + la).toInt ≤ 5 ∧ ao.toInt ≤ (ao + la).toInt ∧ 0 ≤ bo.toInt ∧ (bo + lb).toInt ≤ 5 ∧ 0 < ((bo + lb) - bo).toInt ∧ ((bo + lb) - bo).toInt ≤ 3 ∧ bo.toInt + ((bo + lb) - bo).toInt ≤ 5 := by
  have e1 := own_add hao.1 (by omega) hla.1 (by omega)
  have e2 := own_add hbo.1 (by omega) hlb.1 (by omega)
  have e3 : ((bo + lb) - bo).toInt = lb.toInt := by rw [own_sub (by omega) (by omega) hbo.1 (by omega)]; omega
  have z : lb.toInt ≠ 0 := fun q => nb (Int32.toInt_inj.mp q)
  refine ⟨fun q => ?_, by omega, by omega, by omega, by omega, by omega, by omega, by omega, by omega⟩
  have q2 := congrArg Int32.toInt q
  rw [e3] at q2
  exact z q2
theorem own_mn (x l : Int32) (hl : 0 ≤ l.toInt ∧ l.toInt ≤ 3) (n : ¬ l = (0 : Int32)) (h0 : 0 ≤ x.toInt) (h2 : x.toInt ≤ 2) : ¬ (fmin x (l - (1 : Int32))) < 0 ∧ (fmin x (l - (1 : Int32))) < (3 : Int32) := by
  have z : l.toInt ≠ 0 := fun q => n (Int32.toInt_inj.mp q)
  have k1 : (1 : Int32).toInt = 1 := rfl
  have k3 : (3 : Int32).toInt = 3 := rfl
  have e : (l - (1 : Int32)).toInt = l.toInt - 1 := by rw [own_sub hl.1 (by omega) (by omega) (by omega), k1]
  refine own_ij ?_ ?_ <;> unfold fmin <;> split <;> omega
theorem own_fz1 (b l : Int32) (h : l = (0 : Int32)) : (fz b (b + l)) = (1 : Int32) := by
  rw [h, Int32.add_zero]; unfold fz; rw [Int32.sub_self]; rfl
theorem own_fz0 (b l : Int32) (hb : 0 ≤ b.toInt ∧ b.toInt ≤ 1) (hl : 0 ≤ l.toInt ∧ l.toInt ≤ 3) (h : ¬ l = (0 : Int32)) : (fz b (b + l)) = (0 : Int32) := by
  have z : l.toInt ≠ 0 := fun q => h (Int32.toInt_inj.mp q)
  have e2 := own_add hb.1 (by omega) hl.1 (by omega)
  have e3 : ((b + l) - b).toInt = l.toInt := by rw [own_sub (by omega) (by omega) hb.1 (by omega)]; omega
  unfold fz
  rw [if_neg fun q => z (by rw [← e3, q]; rfl)]

def own_cellc (ab le dg c : Int32) : Int32 := (if ab = (0 : Int32) then (if le = (0 : Int32) then (if dg = (0 : Int32) then (0 : Int32) else c) else c) else c)
def own_rowc (f : Int32 → Int32 → Int32) (i : Int32) : Nat → Int32 → Int32 → List Int32 → List Int32
  | 0, _, _, R => R
  | k + 1, j, dg, R => own_rowc f i k (j + (1 : Int32)) (R.getD j.toNatClampNeg (0 : Int32)) (R.set j.toNatClampNeg (own_cellc (R.getD j.toNatClampNeg (0 : Int32)) (own_left R j) dg (f i j)))
def own_rowsc (f : Int32 → Int32 → Int32) (p2 : Int32) (n : Nat) : Nat → Int32 → List Int32 → List Int32
  | 0, _, R => R
  | k + 1, i, R => own_rowsc f p2 n k (i + (1 : Int32)) (own_rowc f i n (0 : Int32) (if i = p2 then (1 : Int32) else (0 : Int32)) R)
theorem own_row_eq (La Lb : List Int32) (i p5 : Int32) (f : Int32 → Int32 → Int32) : ∀ (k : Nat) (j dg : Int32) (R : List Int32), 0 ≤ j.toInt → j.toInt + k ≤ 3 → (∀ t : Int32, 0 ≤ t.toInt → t.toInt < j.toInt + k → (if (Lb.getD (p5 + t).toNatClampNeg (0 : Int32)) < (La.getD i.toNatClampNeg (0 : Int32)) then (0 : Int32) else (1 : Int32)) = f i t) → own_row La Lb i p5 k j dg R = own_rowc f i k j dg R
  | 0, _, _, _, _, _, _ => rfl
  | k + 1, j, dg, R, h0, h1, h => by
    have hs : (j + (1 : Int32)).toInt = j.toInt + 1 := by
      rw [Int32.toInt_add]
      have : (1 : Int32).toInt = 1 := rfl
      rw [this, Int.bmod_eq_of_le (by omega) (by omega)]
    have e := own_row_eq La Lb i p5 f k (j + (1 : Int32)) (R.getD j.toNatClampNeg (0 : Int32)) (R.set j.toNatClampNeg (own_cell (R.getD j.toNatClampNeg (0 : Int32)) (own_left R j) dg (La.getD i.toNatClampNeg (0 : Int32)) (Lb.getD (p5 + j).toNatClampNeg (0 : Int32)))) (by omega) (by omega) (fun t ht ht2 => h t ht (by omega))
    have c : own_cell (R.getD j.toNatClampNeg (0 : Int32)) (own_left R j) dg (La.getD i.toNatClampNeg (0 : Int32)) (Lb.getD (p5 + j).toNatClampNeg (0 : Int32)) = own_cellc (R.getD j.toNatClampNeg (0 : Int32)) (own_left R j) dg (f i j) := by
      rw [← h j h0 (by omega)]; rfl
    rw [own_row, e, c, own_rowc]
theorem own_rows_eq (La Lb : List Int32) (p2 p5 n : Int32) (f : Int32 → Int32 → Int32) (hn : 0 ≤ n.toInt) (hn3 : n.toInt ≤ 3) : ∀ (k : Nat) (i : Int32) (R : List Int32), 0 ≤ i.toInt → i.toInt + k ≤ 5 → (∀ s t : Int32, i.toInt ≤ s.toInt → s.toInt < i.toInt + k → 0 ≤ t.toInt → t.toInt < n.toInt → (if (Lb.getD (p5 + t).toNatClampNeg (0 : Int32)) < (La.getD s.toNatClampNeg (0 : Int32)) then (0 : Int32) else (1 : Int32)) = f s t) → own_rows La Lb p2 p5 n k i R = own_rowsc f p2 n.toInt.toNat k i R
  | 0, _, _, _, _, _ => rfl
  | k + 1, i, R, h0, h1, h => by
    have hs : (i + (1 : Int32)).toInt = i.toInt + 1 := by
      rw [Int32.toInt_add]
      have : (1 : Int32).toInt = 1 := rfl
      rw [this, Int.bmod_eq_of_le (by omega) (by omega)]
    have z : (0 : Int32).toInt = 0 := rfl
    have e := own_row_eq La Lb i p5 f n.toInt.toNat (0 : Int32) (if i = p2 then (1 : Int32) else (0 : Int32)) R (by omega) (by omega) (fun t ht ht2 => h i t (by omega) (by omega) ht (by omega))
    rw [own_rows, e, own_rows_eq La Lb p2 p5 n f hn hn3 k (i + (1 : Int32)) _ (by omega) (by omega) (fun s t a b c d => h s t (by omega) (by omega) c d), own_rowsc]
def own_tab (B : List Bool) (ao : Int32) (i j : Int32) : Int32 := if B.getD ((i - ao).toNatClampNeg * 3 + j.toNatClampNeg) false then 0 else 1
def own_tt (B : List Bool) (la lb : Int32) (x y : Int32) : Int32 := if B.getD ((fmin x (la - 1)).toNatClampNeg * 3 + (fmin y (lb - 1)).toNatClampNeg) false then 0 else 1
def own_chk (la lb ao : Int32) (B : List Bool) : Bool := decide (nar .boolean ((own_rowsc (own_tab B ao) ao lb.toInt.toNat la.toInt.toNat ao (List.replicate lb.toNatClampNeg 0)).getD (lb - 1).toNatClampNeg 0) = own_want (own_tt B la lb 0 0) (own_tt B la lb 2 2) (own_tt B la lb 1 1) (own_tt B la lb 0 1) (own_tt B la lb 1 2) (own_tt B la lb 1 0) (own_tt B la lb 2 1))
set_option maxRecDepth 100000 in
theorem own_tabs : ∀ la : Fin 3, ∀ lb : Fin 3, ∀ ao : Fin 2, ∀ b0 b1 b2 b3 b4 b5 b6 b7 b8 : Bool, own_chk (Int32.ofNat (la.val + 1)) (Int32.ofNat (lb.val + 1)) (Int32.ofNat ao.val) [b0, b1, b2, b3, b4, b5, b6, b7, b8] = true := by decide +kernel
theorem own_123 (l : Int32) (h : 0 ≤ l.toInt ∧ l.toInt ≤ 3) (n : ¬ l = (0 : Int32)) : l = (1 : Int32) ∨ l = (2 : Int32) ∨ l = (3 : Int32) := by
  have z : l.toInt ≠ 0 := fun q => n (Int32.toInt_inj.mp q)
  have a : l.toInt = 1 ∨ l.toInt = 2 ∨ l.toInt = 3 := by omega
  rcases a with a | a | a
  · exact Or.inl (Int32.toInt_inj.mp a)
  · exact Or.inr (Or.inl (Int32.toInt_inj.mp a))
  · exact Or.inr (Or.inr (Int32.toInt_inj.mp a))
theorem own_01 (l : Int32) (h : 0 ≤ l.toInt ∧ l.toInt ≤ 1) : l = (0 : Int32) ∨ l = (1 : Int32) := by
  have a : l.toInt = 0 ∨ l.toInt = 1 := by omega
  rcases a with a | a
  · exact Or.inl (Int32.toInt_inj.mp a)
  · exact Or.inr (Int32.toInt_inj.mp a)
theorem own_012 (l : Int32) (h0 : 0 ≤ l.toInt) (h : l.toInt < 3) : l = (0 : Int32) ∨ l = (1 : Int32) ∨ l = (2 : Int32) := by
  have a : l.toInt = 0 ∨ l.toInt = 1 ∨ l.toInt = 2 := by omega
  rcases a with a | a | a
  · exact Or.inl (Int32.toInt_inj.mp a)
  · exact Or.inr (Or.inl (Int32.toInt_inj.mp a))
  · exact Or.inr (Or.inr (Int32.toInt_inj.mp a))
theorem own_pt (la ao fa x0 x1 x2 : Int32) (A1 A2 A3 : List Int32) (hla : la = (1 : Int32) ∨ la = (2 : Int32) ∨ la = (3 : Int32)) (hao : ao = (0 : Int32) ∨ ao = (1 : Int32))
    (e1 : A1 = (if (0 : Int32) < la then ([fa, fa, fa, fa, fa].set ao.toNatClampNeg x0) else [fa, fa, fa, fa, fa])) (e2 : A2 = (if (1 : Int32) < la then (A1.set (ao + (1 : Int32)).toNatClampNeg x1) else A1)) (e3 : A3 = (if (2 : Int32) < la then (A2.set (ao + (2 : Int32)).toNatClampNeg x2) else A2)) (d : Int32) (hd : d = (0 : Int32) ∨ d = (1 : Int32) ∨ d = (2 : Int32)) (hdl : d < la) :
    A3.getD (ao + d).toNatClampNeg (0 : Int32) = [x0, x1, x2].getD d.toNatClampNeg (0 : Int32) := by
  subst e1 e2 e3
  rcases hla with rfl | rfl | rfl <;> rcases hao with rfl | rfl <;> rcases hd with rfl | rfl | rfl <;> first | rfl | (exact absurd hdl (by decide))
def own_B (x0 x1 x2 y0 y1 y2 : Int32) : List Bool := [decide (y0 < x0), decide (y1 < x0), decide (y2 < x0), decide (y0 < x1), decide (y1 < x1), decide (y2 < x1), decide (y0 < x2), decide (y1 < x2), decide (y2 < x2)]
theorem own_bt (x0 x1 x2 y0 y1 y2 i j : Int32) (hi : i = (0 : Int32) ∨ i = (1 : Int32) ∨ i = (2 : Int32)) (hj : j = (0 : Int32) ∨ j = (1 : Int32) ∨ j = (2 : Int32)) :
    (if [y0, y1, y2].getD j.toNatClampNeg (0 : Int32) < [x0, x1, x2].getD i.toNatClampNeg (0 : Int32) then (0 : Int32) else (1 : Int32)) = (if (own_B x0 x1 x2 y0 y1 y2).getD (i.toNatClampNeg * 3 + j.toNatClampNeg) false then (0 : Int32) else (1 : Int32)) := by
  have k : ∀ u v : Int32, (if u < v then (0 : Int32) else (1 : Int32)) = (if (decide (u < v)) = true then (0 : Int32) else (1 : Int32)) := fun u v => by simp only [decide_eq_true_eq]
  rcases hi with rfl | rfl | rfl <;> rcases hj with rfl | rfl | rfl <;> exact k _ _
theorem own_fct (x0 x1 x2 la y0 y1 y2 lb a b : Int32) (hla : 0 ≤ la.toInt ∧ la.toInt ≤ 3) (hlb : 0 ≤ lb.toInt ∧ lb.toInt ≤ 3) (na : ¬ la = (0 : Int32)) (nb : ¬ lb = (0 : Int32)) (ha : 0 ≤ a.toInt) (ha2 : a.toInt ≤ 2) (hb : 0 ≤ b.toInt) (hb2 : b.toInt ≤ 2) : (fC x0 x1 x2 la y0 y1 y2 lb a b) = own_tt (own_B x0 x1 x2 y0 y1 y2) la lb a b := by
  have h3 : ∀ z : Int32, (¬ z < 0 ∧ z < (3 : Int32)) → z = (0 : Int32) ∨ z = (1 : Int32) ∨ z = (2 : Int32) := fun z h => by
    rw [Int32.lt_iff_toInt_lt, Int32.lt_iff_toInt_lt] at h
    have k3 : (3 : Int32).toInt = 3 := rfl
    have k0 : (0 : Int32).toInt = 0 := rfl
    exact own_012 z (by omega) (by omega)
  exact own_bt x0 x1 x2 y0 y1 y2 _ _ (h3 _ (own_mn a la hla na ha ha2)) (h3 _ (own_mn b lb hlb nb hb hb2))
theorem own_final (la lb ao bo fa fb x0 x1 x2 y0 y1 y2 : Int32) (A1 A2 A3 B1 B2 B3 : List Int32) (hct : (0 ≤ la.toInt ∧ la.toInt ≤ 3) ∧ (0 ≤ lb.toInt ∧ lb.toInt ≤ 3) ∧ (0 ≤ ao.toInt ∧ ao.toInt ≤ 1) ∧ (0 ≤ bo.toInt ∧ bo.toInt ≤ 1)) (hla : ¬ la = (0 : Int32)) (hlb : ¬ lb = (0 : Int32))
    (e1 : A1 = (if (0 : Int32) < la then ([fa, fa, fa, fa, fa].set ao.toNatClampNeg x0) else [fa, fa, fa, fa, fa])) (e2 : A2 = (if (1 : Int32) < la then (A1.set (ao + (1 : Int32)).toNatClampNeg x1) else A1)) (e3 : A3 = (if (2 : Int32) < la then (A2.set (ao + (2 : Int32)).toNatClampNeg x2) else A2))
    (e4 : B1 = (if (0 : Int32) < lb then ([fb, fb, fb, fb, fb].set bo.toNatClampNeg y0) else [fb, fb, fb, fb, fb])) (e5 : B2 = (if (1 : Int32) < lb then (B1.set (bo + (1 : Int32)).toNatClampNeg y1) else B1)) (e6 : B3 = (if (2 : Int32) < lb then (B2.set (bo + (2 : Int32)).toNatClampNeg y2) else B2)) :
    (own_got A3 B3 ao (ao + la) bo (bo + lb)) = own_want (fC x0 x1 x2 la y0 y1 y2 lb (0 : Int32) (0 : Int32)) (fC x0 x1 x2 la y0 y1 y2 lb (2 : Int32) (2 : Int32)) (fC x0 x1 x2 la y0 y1 y2 lb (1 : Int32) (1 : Int32)) (fC x0 x1 x2 la y0 y1 y2 lb (0 : Int32) (1 : Int32)) (fC x0 x1 x2 la y0 y1 y2 lb (1 : Int32) (2 : Int32)) (fC x0 x1 x2 la y0 y1 y2 lb (1 : Int32) (0 : Int32)) (fC x0 x1 x2 la y0 y1 y2 lb (2 : Int32) (1 : Int32)) := by
  obtain ⟨l1, l2, l3, l4⟩ := hct
  have a1 := own_add l3.1 (by omega) l1.1 (by omega)
  have a2 := own_add l4.1 (by omega) l2.1 (by omega)
  have a3 : (bo + lb) - bo = lb := Int32.toInt_inj.mp (by rw [own_sub (by omega) (by omega) l4.1 (by omega)]; omega)
  have a4 : ((ao + la).toInt - ao.toInt).toNat = la.toInt.toNat := by rw [a1]; congr 1; omega
  unfold own_got
  rw [a3, a4]
  have t0 := own_123 la l1 hla
  have t1 := own_123 lb l2 hlb
  have key : own_rows A3 B3 ao bo lb la.toInt.toNat ao (List.replicate lb.toNatClampNeg 0) = own_rowsc (own_tab (own_B x0 x1 x2 y0 y1 y2) ao) ao lb.toInt.toNat la.toInt.toNat ao (List.replicate lb.toNatClampNeg 0) := by
    refine own_rows_eq A3 B3 ao bo lb _ l2.1 l2.2 la.toInt.toNat ao _ l3.1 (by omega) ?_
    intro s t q1 q2 q3 q4
    have d1 := own_sub (a := s) (b := ao) (by omega) (by omega) l3.1 (by omega)
    have es : s = ao + (s - ao) := Int32.toInt_inj.mp (by rw [own_add l3.1 (by omega) (by omega) (by omega)]; omega)
    have dd := own_012 (s - ao) (by omega) (by omega)
    have dt := own_012 t q3 (by omega)
    have p1 := own_pt la ao fa x0 x1 x2 A1 A2 A3 t0 (own_01 ao l3) e1 e2 e3 (s - ao) dd (by rw [Int32.lt_iff_toInt_lt]; omega)
    have p2 := own_pt lb bo fb y0 y1 y2 B1 B2 B3 t1 (own_01 bo l4) e4 e5 e6 t dt (by rw [Int32.lt_iff_toInt_lt]; omega)
    rw [← es] at p1
    rw [p1, p2]
    exact own_bt x0 x1 x2 y0 y1 y2 _ _ dd dt
  rw [key]
  have f00 := own_fct x0 x1 x2 la y0 y1 y2 lb 0 0 l1 l2 hla hlb (by decide) (by decide) (by decide) (by decide)
  have f22 := own_fct x0 x1 x2 la y0 y1 y2 lb 2 2 l1 l2 hla hlb (by decide) (by decide) (by decide) (by decide)
  have f11 := own_fct x0 x1 x2 la y0 y1 y2 lb 1 1 l1 l2 hla hlb (by decide) (by decide) (by decide) (by decide)
  have f01 := own_fct x0 x1 x2 la y0 y1 y2 lb 0 1 l1 l2 hla hlb (by decide) (by decide) (by decide) (by decide)
  have f12 := own_fct x0 x1 x2 la y0 y1 y2 lb 1 2 l1 l2 hla hlb (by decide) (by decide) (by decide) (by decide)
  have f10 := own_fct x0 x1 x2 la y0 y1 y2 lb 1 0 l1 l2 hla hlb (by decide) (by decide) (by decide) (by decide)
  have f21 := own_fct x0 x1 x2 la y0 y1 y2 lb 2 1 l1 l2 hla hlb (by decide) (by decide) (by decide) (by decide)
  rw [f00, f22, f11, f01, f12, f10, f21]
  have chk : own_chk la lb ao (own_B x0 x1 x2 y0 y1 y2) = true := by
    rcases t0 with rfl | rfl | rfl <;> rcases t1 with rfl | rfl | rfl <;> rcases own_01 ao l3 with rfl | rfl
    · exact own_tabs 0 0 0 _ _ _ _ _ _ _ _ _
    · exact own_tabs 0 0 1 _ _ _ _ _ _ _ _ _
    · exact own_tabs 0 1 0 _ _ _ _ _ _ _ _ _
    · exact own_tabs 0 1 1 _ _ _ _ _ _ _ _ _
    · exact own_tabs 0 2 0 _ _ _ _ _ _ _ _ _
    · exact own_tabs 0 2 1 _ _ _ _ _ _ _ _ _
    · exact own_tabs 1 0 0 _ _ _ _ _ _ _ _ _
    · exact own_tabs 1 0 1 _ _ _ _ _ _ _ _ _
    · exact own_tabs 1 1 0 _ _ _ _ _ _ _ _ _
    · exact own_tabs 1 1 1 _ _ _ _ _ _ _ _ _
    · exact own_tabs 1 2 0 _ _ _ _ _ _ _ _ _
    · exact own_tabs 1 2 1 _ _ _ _ _ _ _ _ _
    · exact own_tabs 2 0 0 _ _ _ _ _ _ _ _ _
    · exact own_tabs 2 0 1 _ _ _ _ _ _ _ _ _
    · exact own_tabs 2 1 0 _ _ _ _ _ _ _ _ _
    · exact own_tabs 2 1 1 _ _ _ _ _ _ _ _ _
    · exact own_tabs 2 2 0 _ _ _ _ _ _ _ _ _
    · exact own_tabs 2 2 1 _ _ _ _ _ _ _ _ _
  exact of_decide_eq_true chk

theorem pd_1 : parseMethodDescriptor "([III[III)Z" = some ⟨[(.array .int), .int, .int, (.array .int), .int, .int], some .boolean⟩ := by decide +kernel
theorem pd_2 : parseMethodDescriptor "([II[IIII)Z" = some ⟨[(.array .int), .int, (.array .int), .int, .int, .int], some .boolean⟩ := by decide +kernel
theorem ef0 (m : MethodId) (q0 : Int64) (q1 : Int64) (q2 : Int64) (q3 : Int64) (p4 : Int32) : entryFrame m #[(.long q0), (.long q1), (.long q2), (.long q3), (.int p4)] maxLocals = mkF m 0 #[.val (.long q0), .second, .val (.long q1), .second, .val (.long q2), .second, .val (.long q3), .second, .val (.int p4), .unset, .unset, .unset, .unset, .unset, .unset, .unset, .unset, .unset, .unset, .unset, .unset, .unset, .unset, .unset, .unset, .unset, .unset, .unset] [] := by first | (simp [entryFrame, mkF, argsToLocals, Value.category, maxLocals]; done) | rfl
def Q0 (Z : State) (q0 : Int64) (q1 : Int64) (q2 : Int64) (q3 : Int64) (p4 : Int32) (h0 : Heap) (n0 : Nat) (v : Option Value) (h : Heap) (L : List Loc) : Prop := v = some (.int 1) ∧ Fr n0 L
set_option maxRecDepth 65536 in
set_option maxHeartbeats 40000000 in
theorem rm0 (l : Launch) (Z : State) (a0 : Array Value) (hw : ∀ d ∈ tables_1, d.before a0 Z = true) (ws : List Jvm.Cond) (q0 : Int64) (q1 : Int64) (q2 : Int64) (q3 : Int64) (p4 : Int32) (h0 : Heap) (n0 : Nat) (Z0 : n0 ≤ h0.size) :
    MetFree l x (head1 (Jvm.Cond.code x code maxLocals ret :: ws) room_1) (fun a U => a = #[(.long q0), (.long q1), (.long q2), (.long q3), (.int p4)] ∧ Z.Warmed39 U.vm ∧ U.heap = h0) (fun _ _ _ _ _ => True) (fun _ U o U' => ∃ v L, o = .returned v ∧ Q0 Z q0 q1 q2 q3 p4 h0 n0 v U'.heap L ∧ FrameEnd U o U' L 24 128) := by
  refine MetFree.of_bodySF (plainFor_of_name pn_1) hisR ?_
  intro p e s m args below meth c s₁ Bd hml0 hP hK
  obtain ⟨rfl, hZ, hh⟩ := hP
  have hx := Bd.exec
  have hby := Bd.bytes
  have hml : c.maxLocals = 28 := hml0
  have hown : s.vm.findClass "com/example/wdth/wdth/TypicalSequenceAtMostPinLaw" = some m.cls := findClass_of_methodNamed Bd.named
  have hnm := (name_of_methodNamed Bd.named Bd.method).1
  have hlk : meth.locks = false := BodyLoose.notSynchronized Bd
  have hrt := Bd.returns
  have X0 : Stand p l e room_1 s m #[(.long q0), (.long q1), (.long q2), (.long q3), (.int p4)] below meth c s₁ [] 0 0 := Stand.of_body Bd
  have e0 : s₁.heap = h0 := by rw [← hh, Bd.state]; rfl
  have N0 := Fr.nil n0
  refine (show Go p e below (fun s₂ o => ∃ v L, o = .returned v ∧ Q0 Z q0 q1 q2 q3 p4 h0 n0 v s₂.heap L ∧ FrameEnd s o s₂ L 24 128) (s₁.setTop (entryFrame m #[(.long q0), (.long q1), (.long q2), (.long q3), (.int p4)] maxLocals)) from ?_)
  rw [ef0]
  refine Go.st (U' := s₁.setTop (mkF m 6 #[.val (.long q0), .second, .val (.long q1), .second, .val (.long q2), .second, .val (.long q3), .second, .val (.int p4), .val (.int (p4 &&& (3 : Int32))), .unset, .unset, .unset, .unset, .unset, .unset, .unset, .unset, .unset, .unset, .unset, .unset, .unset, .unset, .unset, .unset, .unset, .unset] [])) (fun t k => ?_) ?_
  · refine XS.iload X0.here hx rfl (hb hby at_0) rfl ?_
    refine XS.iconst X0.here hx rfl (hb hby at_2) ?_
    refine XS.iand X0.here hx rfl (hb hby at_3) rfl ?_
    refine XS.istore X0.here hx rfl (hb hby at_4) rfl (l' := #[.val (.long q0), .second, .val (.long q1), .second, .val (.long q2), .second, .val (.long q3), .second, .val (.int p4), .val (.int (p4 &&& (3 : Int32))), .unset, .unset, .unset, .unset, .unset, .unset, .unset, .unset, .unset, .unset, .unset, .unset, .unset, .unset, .unset, .unset, .unset, .unset]) rfl ?_
    exact k
  generalize hv_v160 : (p4 &&& (3 : Int32)) = v160
  refine Go.st (U' := s₁.setTop (mkF m 14 #[.val (.long q0), .second, .val (.long q1), .second, .val (.long q2), .second, .val (.long q3), .second, .val (.int p4), .val (.int v160), .val (.int (((p4.toUInt32 >>> ((2 : Int32) &&& 31).toUInt32).toInt32) &&& (3 : Int32))), .unset, .unset, .unset, .unset, .unset, .unset, .unset, .unset, .unset, .unset, .unset, .unset, .unset, .unset, .unset, .unset, .unset] [])) (fun t k => ?_) ?_
  · refine XS.iload X0.here hx rfl (hb hby at_6) rfl ?_
    refine XS.iconst X0.here hx rfl (hb hby at_8) ?_
    refine XS.iushr X0.here hx rfl (hb hby at_9) rfl ?_
    refine XS.iconst X0.here hx rfl (hb hby at_10) ?_
    refine XS.iand X0.here hx rfl (hb hby at_11) rfl ?_
    refine XS.istore X0.here hx rfl (hb hby at_12) rfl (l' := #[.val (.long q0), .second, .val (.long q1), .second, .val (.long q2), .second, .val (.long q3), .second, .val (.int p4), .val (.int v160), .val (.int (((p4.toUInt32 >>> ((2 : Int32) &&& 31).toUInt32).toInt32) &&& (3 : Int32))), .unset, .unset, .unset, .unset, .unset, .unset, .unset, .unset, .unset, .unset, .unset, .unset, .unset, .unset, .unset, .unset, .unset]) rfl ?_
    exact k
  generalize hv_v161 : (((p4.toUInt32 >>> ((2 : Int32) &&& 31).toUInt32).toInt32) &&& (3 : Int32)) = v161
  refine Go.st (U' := s₁.setTop (mkF m 22 #[.val (.long q0), .second, .val (.long q1), .second, .val (.long q2), .second, .val (.long q3), .second, .val (.int p4), .val (.int v160), .val (.int v161), .val (.int (((p4.toUInt32 >>> ((4 : Int32) &&& 31).toUInt32).toInt32) &&& (1 : Int32))), .unset, .unset, .unset, .unset, .unset, .unset, .unset, .unset, .unset, .unset, .unset, .unset, .unset, .unset, .unset, .unset] [])) (fun t k => ?_) ?_
  · refine XS.iload X0.here hx rfl (hb hby at_14) rfl ?_
    refine XS.iconst X0.here hx rfl (hb hby at_16) ?_
    refine XS.iushr X0.here hx rfl (hb hby at_17) rfl ?_
    refine XS.iconst X0.here hx rfl (hb hby at_18) ?_
    refine XS.iand X0.here hx rfl (hb hby at_19) rfl ?_
    refine XS.istore X0.here hx rfl (hb hby at_20) rfl (l' := #[.val (.long q0), .second, .val (.long q1), .second, .val (.long q2), .second, .val (.long q3), .second, .val (.int p4), .val (.int v160), .val (.int v161), .val (.int (((p4.toUInt32 >>> ((4 : Int32) &&& 31).toUInt32).toInt32) &&& (1 : Int32))), .unset, .unset, .unset, .unset, .unset, .unset, .unset, .unset, .unset, .unset, .unset, .unset, .unset, .unset, .unset, .unset]) rfl ?_
    exact k
  generalize hv_v162 : (((p4.toUInt32 >>> ((4 : Int32) &&& 31).toUInt32).toInt32) &&& (1 : Int32)) = v162
  refine Go.st (U' := s₁.setTop (mkF m 30 #[.val (.long q0), .second, .val (.long q1), .second, .val (.long q2), .second, .val (.long q3), .second, .val (.int p4), .val (.int v160), .val (.int v161), .val (.int v162), .val (.int (((p4.toUInt32 >>> ((5 : Int32) &&& 31).toUInt32).toInt32) &&& (1 : Int32))), .unset, .unset, .unset, .unset, .unset, .unset, .unset, .unset, .unset, .unset, .unset, .unset, .unset, .unset, .unset] [])) (fun t k => ?_) ?_
  · refine XS.iload X0.here hx rfl (hb hby at_22) rfl ?_
    refine XS.iconst X0.here hx rfl (hb hby at_24) ?_
    refine XS.iushr X0.here hx rfl (hb hby at_25) rfl ?_
    refine XS.iconst X0.here hx rfl (hb hby at_26) ?_
    refine XS.iand X0.here hx rfl (hb hby at_27) rfl ?_
    refine XS.istore X0.here hx rfl (hb hby at_28) rfl (l' := #[.val (.long q0), .second, .val (.long q1), .second, .val (.long q2), .second, .val (.long q3), .second, .val (.int p4), .val (.int v160), .val (.int v161), .val (.int v162), .val (.int (((p4.toUInt32 >>> ((5 : Int32) &&& 31).toUInt32).toInt32) &&& (1 : Int32))), .unset, .unset, .unset, .unset, .unset, .unset, .unset, .unset, .unset, .unset, .unset, .unset, .unset, .unset, .unset]) rfl ?_
    exact k
  generalize hv_v163 : (((p4.toUInt32 >>> ((5 : Int32) &&& 31).toUInt32).toInt32) &&& (1 : Int32)) = v163
  refine Go.st (U' := s₁.setTop (mkF m 31 #[.val (.long q0), .second, .val (.long q1), .second, .val (.long q2), .second, .val (.long q3), .second, .val (.int p4), .val (.int v160), .val (.int v161), .val (.int v162), .val (.int v163), .unset, .unset, .unset, .unset, .unset, .unset, .unset, .unset, .unset, .unset, .unset, .unset, .unset, .unset, .unset] [(.int (3 : Int32))])) (fun t k => ?_) ?_
  · refine XS.iconst X0.here hx rfl (hb hby at_30) ?_
    exact k
  obtain ⟨T164, h164, k164, X164, e164, E164, A164, st164⟩ := newP X0 hx hZ (own_w hw 0 rfl) e0 (g := (mkF m 31 #[.val (.long q0), .second, .val (.long q1), .second, .val (.long q2), .second, .val (.long q3), .second, .val (.int p4), .val (.int v160), .val (.int v161), .val (.int v162), .val (.int v163), .unset, .unset, .unset, .unset, .unset, .unset, .unset, .unset, .unset, .unset, .unset, .unset, .unset, .unset, .unset] [(.int (3 : Int32))])) rfl (hb hby at_31) rfl (by decide) (cap := 3) (by decide) (by decide) (by decide) (by decide)
  obtain ⟨b164, g164⟩ : ∃ z, z = h0.size := ⟨_, rfl⟩
  rw [← g164] at A164 st164
  have ge_b164 : n0 ≤ b164 := Nat.le_trans Z0 (Nat.le_of_eq g164.symm)
  have V_b164 : Arv Z h164 b164 k164 .int (3 : Int32) [(.int (0 : Int32)), (.int (0 : Int32)), (.int (0 : Int32))] (.int (0 : Int32)) := (Arv.new A164 (by decide)).pad (pad_rep [] (.int (0 : Int32)) 3)
  have sz164 : n0 ≤ h164.size := Nat.le_trans Z0 E164.1
  refine Go.st (U' := T164.setTop (mkF m 33 #[.val (.long q0), .second, .val (.long q1), .second, .val (.long q2), .second, .val (.long q3), .second, .val (.int p4), .val (.int v160), .val (.int v161), .val (.int v162), .val (.int v163), .unset, .unset, .unset, .unset, .unset, .unset, .unset, .unset, .unset, .unset, .unset, .unset, .unset, .unset, .unset] [(.ref b164)])) (fun t k => st164 _ k) ?_
  refine Go.st (U' := T164.setTop (mkF m 40 #[.val (.long q0), .second, .val (.long q1), .second, .val (.long q2), .second, .val (.long q3), .second, .val (.int p4), .val (.int v160), .val (.int v161), .val (.int v162), .val (.int v163), .unset, .unset, .unset, .unset, .unset, .unset, .unset, .unset, .unset, .unset, .unset, .unset, .unset, .unset, .unset] [(.int (((q0.toUInt64 >>> ((32 : Int32) &&& 0x3f).toInt64.toUInt64).toInt64).toInt32)), (.int (0 : Int32)), (.ref b164), (.ref b164)])) (fun t k => ?_) ?_
  · refine XS.dup X164.here hx rfl (hb hby at_33) rfl rfl ?_
    refine XS.iconst X164.here hx rfl (hb hby at_34) ?_
    refine XS.lloadN X164.here hx rfl (hb hby at_35) rfl ?_
    refine XS.bipush X164.here hx rfl (hb hby at_36) ?_
    refine XS.lushr X164.here hx rfl (hb hby at_38) rfl ?_
    refine XS.l2i X164.here hx rfl (hb hby at_39) rfl ?_
    exact k
  obtain ⟨cl166, Ar166, q166, S166, N166, H166, G166⟩ := id V_b164
  obtain ⟨T165, h165, X165, e165, W165, st165⟩ := stI X164 hx hZ e164 Ar166 (j := (0 : Int32)) (inb_of (j := (0 : Int32)) S166 ⟨by decide, by decide⟩) (g := (mkF m 40 #[.val (.long q0), .second, .val (.long q1), .second, .val (.long q2), .second, .val (.long q3), .second, .val (.int p4), .val (.int v160), .val (.int v161), .val (.int v162), .val (.int v163), .unset, .unset, .unset, .unset, .unset, .unset, .unset, .unset, .unset, .unset, .unset, .unset, .unset, .unset, .unset] [(.int (((q0.toUInt64 >>> ((32 : Int32) &&& 0x3f).toInt64.toUInt64).toInt64).toInt32)), (.int (0 : Int32)), (.ref b164), (.ref b164)])) rfl rfl (hb hby at_40)
  have V_b164_165 := Arv.set Ar166 q166 S166 N166 H166 G166 rfl W165 0 rfl (Nat.le_of_ble_eq_true rfl)
  have N165 := Fr.snoc X165 N0 ge_b164
  have sz165 : n0 ≤ h165.size := Nat.le_trans sz164 (Nat.le_of_eq W165.size.symm)
  refine Go.st (U' := T165.setTop (mkF m 41 #[.val (.long q0), .second, .val (.long q1), .second, .val (.long q2), .second, .val (.long q3), .second, .val (.int p4), .val (.int v160), .val (.int v161), .val (.int v162), .val (.int v163), .unset, .unset, .unset, .unset, .unset, .unset, .unset, .unset, .unset, .unset, .unset, .unset, .unset, .unset, .unset] [(.ref b164)])) (fun t k => st165 _ k) ?_
  refine Go.st (U' := T165.setTop (mkF m 45 #[.val (.long q0), .second, .val (.long q1), .second, .val (.long q2), .second, .val (.long q3), .second, .val (.int p4), .val (.int v160), .val (.int v161), .val (.int v162), .val (.int v163), .unset, .unset, .unset, .unset, .unset, .unset, .unset, .unset, .unset, .unset, .unset, .unset, .unset, .unset, .unset] [(.int (q0.toInt32)), (.int (1 : Int32)), (.ref b164), (.ref b164)])) (fun t k => ?_) ?_
  · refine XS.dup X165.here hx rfl (hb hby at_41) rfl rfl ?_
    refine XS.iconst X165.here hx rfl (hb hby at_42) ?_
    refine XS.lloadN X165.here hx rfl (hb hby at_43) rfl ?_
    refine XS.l2i X165.here hx rfl (hb hby at_44) rfl ?_
    exact k
  obtain ⟨cl168, Ar168, q168, S168, N168, H168, G168⟩ := id V_b164_165
  obtain ⟨T167, h167, X167, e167, W167, st167⟩ := stI X165 hx hZ e165 Ar168 (j := (1 : Int32)) (inb_of (j := (1 : Int32)) S168 ⟨by decide, by decide⟩) (g := (mkF m 45 #[.val (.long q0), .second, .val (.long q1), .second, .val (.long q2), .second, .val (.long q3), .second, .val (.int p4), .val (.int v160), .val (.int v161), .val (.int v162), .val (.int v163), .unset, .unset, .unset, .unset, .unset, .unset, .unset, .unset, .unset, .unset, .unset, .unset, .unset, .unset, .unset] [(.int (q0.toInt32)), (.int (1 : Int32)), (.ref b164), (.ref b164)])) rfl rfl (hb hby at_45)
  have V_b164_167 := Arv.set Ar168 q168 S168 N168 H168 G168 rfl W167 1 rfl (Nat.le_of_ble_eq_true rfl)
  have N167 := Fr.snoc X167 N165 ge_b164
  have sz167 : n0 ≤ h167.size := Nat.le_trans sz165 (Nat.le_of_eq W167.size.symm)
  refine Go.st (U' := T167.setTop (mkF m 46 #[.val (.long q0), .second, .val (.long q1), .second, .val (.long q2), .second, .val (.long q3), .second, .val (.int p4), .val (.int v160), .val (.int v161), .val (.int v162), .val (.int v163), .unset, .unset, .unset, .unset, .unset, .unset, .unset, .unset, .unset, .unset, .unset, .unset, .unset, .unset, .unset] [(.ref b164)])) (fun t k => st167 _ k) ?_
  refine Go.st (U' := T167.setTop (mkF m 54 #[.val (.long q0), .second, .val (.long q1), .second, .val (.long q2), .second, .val (.long q3), .second, .val (.int p4), .val (.int v160), .val (.int v161), .val (.int v162), .val (.int v163), .unset, .unset, .unset, .unset, .unset, .unset, .unset, .unset, .unset, .unset, .unset, .unset, .unset, .unset, .unset] [(.int (((q2.toUInt64 >>> ((32 : Int32) &&& 0x3f).toInt64.toUInt64).toInt64).toInt32)), (.int (2 : Int32)), (.ref b164), (.ref b164)])) (fun t k => ?_) ?_
  · refine XS.dup X167.here hx rfl (hb hby at_46) rfl rfl ?_
    refine XS.iconst X167.here hx rfl (hb hby at_47) ?_
    refine XS.lload X167.here hx rfl (hb hby at_48) rfl ?_
    refine XS.bipush X167.here hx rfl (hb hby at_50) ?_
    refine XS.lushr X167.here hx rfl (hb hby at_52) rfl ?_
    refine XS.l2i X167.here hx rfl (hb hby at_53) rfl ?_
    exact k
  obtain ⟨cl170, Ar170, q170, S170, N170, H170, G170⟩ := id V_b164_167
  obtain ⟨T169, h169, X169, e169, W169, st169⟩ := stI X167 hx hZ e167 Ar170 (j := (2 : Int32)) (inb_of (j := (2 : Int32)) S170 ⟨by decide, by decide⟩) (g := (mkF m 54 #[.val (.long q0), .second, .val (.long q1), .second, .val (.long q2), .second, .val (.long q3), .second, .val (.int p4), .val (.int v160), .val (.int v161), .val (.int v162), .val (.int v163), .unset, .unset, .unset, .unset, .unset, .unset, .unset, .unset, .unset, .unset, .unset, .unset, .unset, .unset, .unset] [(.int (((q2.toUInt64 >>> ((32 : Int32) &&& 0x3f).toInt64.toUInt64).toInt64).toInt32)), (.int (2 : Int32)), (.ref b164), (.ref b164)])) rfl rfl (hb hby at_54)
  have V_b164_169 := Arv.set Ar170 q170 S170 N170 H170 G170 rfl W169 2 rfl (Nat.le_of_ble_eq_true rfl)
  have N169 := Fr.snoc X169 N167 ge_b164
  have sz169 : n0 ≤ h169.size := Nat.le_trans sz167 (Nat.le_of_eq W169.size.symm)
  refine Go.st (U' := T169.setTop (mkF m 55 #[.val (.long q0), .second, .val (.long q1), .second, .val (.long q2), .second, .val (.long q3), .second, .val (.int p4), .val (.int v160), .val (.int v161), .val (.int v162), .val (.int v163), .unset, .unset, .unset, .unset, .unset, .unset, .unset, .unset, .unset, .unset, .unset, .unset, .unset, .unset, .unset] [(.ref b164)])) (fun t k => st169 _ k) ?_
  refine Go.st (U' := T169.setTop (mkF m 58 #[.val (.long q0), .second, .val (.long q1), .second, .val (.long q2), .second, .val (.long q3), .second, .val (.int p4), .val (.int v160), .val (.int v161), .val (.int v162), .val (.int v163), .val (.ref b164), .unset, .unset, .unset, .unset, .unset, .unset, .unset, .unset, .unset, .unset, .unset, .unset, .unset, .unset] [(.int (3 : Int32))])) (fun t k => ?_) ?_
  · refine XS.astore X169.here hx rfl (hb hby at_55) rfl rfl (l' := #[.val (.long q0), .second, .val (.long q1), .second, .val (.long q2), .second, .val (.long q3), .second, .val (.int p4), .val (.int v160), .val (.int v161), .val (.int v162), .val (.int v163), .val (.ref b164), .unset, .unset, .unset, .unset, .unset, .unset, .unset, .unset, .unset, .unset, .unset, .unset, .unset, .unset]) rfl ?_
    refine XS.iconst X169.here hx rfl (hb hby at_57) ?_
    exact k
  obtain ⟨T171, h171, k171, X171, e171, E171, A171, st171⟩ := newP X169 hx hZ (own_w hw 0 rfl) e169 (g := (mkF m 58 #[.val (.long q0), .second, .val (.long q1), .second, .val (.long q2), .second, .val (.long q3), .second, .val (.int p4), .val (.int v160), .val (.int v161), .val (.int v162), .val (.int v163), .val (.ref b164), .unset, .unset, .unset, .unset, .unset, .unset, .unset, .unset, .unset, .unset, .unset, .unset, .unset, .unset] [(.int (3 : Int32))])) rfl (hb hby at_58) rfl (by decide) (cap := 3) (by decide) (by decide) (by decide) (by decide)
  obtain ⟨b171, g171⟩ : ∃ z, z = h169.size := ⟨_, rfl⟩
  rw [← g171] at A171 st171
  have ne_b164_b171 : b164 ≠ b171 := Nat.ne_of_lt (Nat.lt_of_lt_of_le V_b164_169.lt (Nat.le_of_eq g171.symm))
  have ge_b171 : n0 ≤ b171 := Nat.le_trans sz169 (Nat.le_of_eq g171.symm)
  have V_b164_171 := V_b164_169.ext E171
  have V_b171 : Arv Z h171 b171 k171 .int (3 : Int32) [(.int (0 : Int32)), (.int (0 : Int32)), (.int (0 : Int32))] (.int (0 : Int32)) := (Arv.new A171 (by decide)).pad (pad_rep [] (.int (0 : Int32)) 3)
  have sz171 : n0 ≤ h171.size := Nat.le_trans sz169 E171.1
  refine Go.st (U' := T171.setTop (mkF m 60 #[.val (.long q0), .second, .val (.long q1), .second, .val (.long q2), .second, .val (.long q3), .second, .val (.int p4), .val (.int v160), .val (.int v161), .val (.int v162), .val (.int v163), .val (.ref b164), .unset, .unset, .unset, .unset, .unset, .unset, .unset, .unset, .unset, .unset, .unset, .unset, .unset, .unset] [(.ref b171)])) (fun t k => st171 _ k) ?_
  refine Go.st (U' := T171.setTop (mkF m 67 #[.val (.long q0), .second, .val (.long q1), .second, .val (.long q2), .second, .val (.long q3), .second, .val (.int p4), .val (.int v160), .val (.int v161), .val (.int v162), .val (.int v163), .val (.ref b164), .unset, .unset, .unset, .unset, .unset, .unset, .unset, .unset, .unset, .unset, .unset, .unset, .unset, .unset] [(.int (((q1.toUInt64 >>> ((32 : Int32) &&& 0x3f).toInt64.toUInt64).toInt64).toInt32)), (.int (0 : Int32)), (.ref b171), (.ref b171)])) (fun t k => ?_) ?_
  · refine XS.dup X171.here hx rfl (hb hby at_60) rfl rfl ?_
    refine XS.iconst X171.here hx rfl (hb hby at_61) ?_
    refine XS.lloadN X171.here hx rfl (hb hby at_62) rfl ?_
    refine XS.bipush X171.here hx rfl (hb hby at_63) ?_
    refine XS.lushr X171.here hx rfl (hb hby at_65) rfl ?_
    refine XS.l2i X171.here hx rfl (hb hby at_66) rfl ?_
    exact k
  obtain ⟨cl173, Ar173, q173, S173, N173, H173, G173⟩ := id V_b171
  obtain ⟨T172, h172, X172, e172, W172, st172⟩ := stI X171 hx hZ e171 Ar173 (j := (0 : Int32)) (inb_of (j := (0 : Int32)) S173 ⟨by decide, by decide⟩) (g := (mkF m 67 #[.val (.long q0), .second, .val (.long q1), .second, .val (.long q2), .second, .val (.long q3), .second, .val (.int p4), .val (.int v160), .val (.int v161), .val (.int v162), .val (.int v163), .val (.ref b164), .unset, .unset, .unset, .unset, .unset, .unset, .unset, .unset, .unset, .unset, .unset, .unset, .unset, .unset] [(.int (((q1.toUInt64 >>> ((32 : Int32) &&& 0x3f).toInt64.toUInt64).toInt64).toInt32)), (.int (0 : Int32)), (.ref b171), (.ref b171)])) rfl rfl (hb hby at_67)
  have V_b171_172 := Arv.set Ar173 q173 S173 N173 H173 G173 rfl W172 0 rfl (Nat.le_of_ble_eq_true rfl)
  have V_b164_172 := V_b164_171.other W172 ne_b164_b171
  have N172 := Fr.snoc X172 N169 ge_b171
  have sz172 : n0 ≤ h172.size := Nat.le_trans sz171 (Nat.le_of_eq W172.size.symm)
  refine Go.st (U' := T172.setTop (mkF m 68 #[.val (.long q0), .second, .val (.long q1), .second, .val (.long q2), .second, .val (.long q3), .second, .val (.int p4), .val (.int v160), .val (.int v161), .val (.int v162), .val (.int v163), .val (.ref b164), .unset, .unset, .unset, .unset, .unset, .unset, .unset, .unset, .unset, .unset, .unset, .unset, .unset, .unset] [(.ref b171)])) (fun t k => st172 _ k) ?_
  refine Go.st (U' := T172.setTop (mkF m 72 #[.val (.long q0), .second, .val (.long q1), .second, .val (.long q2), .second, .val (.long q3), .second, .val (.int p4), .val (.int v160), .val (.int v161), .val (.int v162), .val (.int v163), .val (.ref b164), .unset, .unset, .unset, .unset, .unset, .unset, .unset, .unset, .unset, .unset, .unset, .unset, .unset, .unset] [(.int (q1.toInt32)), (.int (1 : Int32)), (.ref b171), (.ref b171)])) (fun t k => ?_) ?_
  · refine XS.dup X172.here hx rfl (hb hby at_68) rfl rfl ?_
    refine XS.iconst X172.here hx rfl (hb hby at_69) ?_
    refine XS.lloadN X172.here hx rfl (hb hby at_70) rfl ?_
    refine XS.l2i X172.here hx rfl (hb hby at_71) rfl ?_
    exact k
  obtain ⟨cl175, Ar175, q175, S175, N175, H175, G175⟩ := id V_b171_172
  obtain ⟨T174, h174, X174, e174, W174, st174⟩ := stI X172 hx hZ e172 Ar175 (j := (1 : Int32)) (inb_of (j := (1 : Int32)) S175 ⟨by decide, by decide⟩) (g := (mkF m 72 #[.val (.long q0), .second, .val (.long q1), .second, .val (.long q2), .second, .val (.long q3), .second, .val (.int p4), .val (.int v160), .val (.int v161), .val (.int v162), .val (.int v163), .val (.ref b164), .unset, .unset, .unset, .unset, .unset, .unset, .unset, .unset, .unset, .unset, .unset, .unset, .unset, .unset] [(.int (q1.toInt32)), (.int (1 : Int32)), (.ref b171), (.ref b171)])) rfl rfl (hb hby at_72)
  have V_b171_174 := Arv.set Ar175 q175 S175 N175 H175 G175 rfl W174 1 rfl (Nat.le_of_ble_eq_true rfl)
  have V_b164_174 := V_b164_172.other W174 ne_b164_b171
  have N174 := Fr.snoc X174 N172 ge_b171
  have sz174 : n0 ≤ h174.size := Nat.le_trans sz172 (Nat.le_of_eq W174.size.symm)
  refine Go.st (U' := T174.setTop (mkF m 73 #[.val (.long q0), .second, .val (.long q1), .second, .val (.long q2), .second, .val (.long q3), .second, .val (.int p4), .val (.int v160), .val (.int v161), .val (.int v162), .val (.int v163), .val (.ref b164), .unset, .unset, .unset, .unset, .unset, .unset, .unset, .unset, .unset, .unset, .unset, .unset, .unset, .unset] [(.ref b171)])) (fun t k => st174 _ k) ?_
  refine Go.st (U' := T174.setTop (mkF m 78 #[.val (.long q0), .second, .val (.long q1), .second, .val (.long q2), .second, .val (.long q3), .second, .val (.int p4), .val (.int v160), .val (.int v161), .val (.int v162), .val (.int v163), .val (.ref b164), .unset, .unset, .unset, .unset, .unset, .unset, .unset, .unset, .unset, .unset, .unset, .unset, .unset, .unset] [(.int (q2.toInt32)), (.int (2 : Int32)), (.ref b171), (.ref b171)])) (fun t k => ?_) ?_
  · refine XS.dup X174.here hx rfl (hb hby at_73) rfl rfl ?_
    refine XS.iconst X174.here hx rfl (hb hby at_74) ?_
    refine XS.lload X174.here hx rfl (hb hby at_75) rfl ?_
    refine XS.l2i X174.here hx rfl (hb hby at_77) rfl ?_
    exact k
  obtain ⟨cl177, Ar177, q177, S177, N177, H177, G177⟩ := id V_b171_174
  obtain ⟨T176, h176, X176, e176, W176, st176⟩ := stI X174 hx hZ e174 Ar177 (j := (2 : Int32)) (inb_of (j := (2 : Int32)) S177 ⟨by decide, by decide⟩) (g := (mkF m 78 #[.val (.long q0), .second, .val (.long q1), .second, .val (.long q2), .second, .val (.long q3), .second, .val (.int p4), .val (.int v160), .val (.int v161), .val (.int v162), .val (.int v163), .val (.ref b164), .unset, .unset, .unset, .unset, .unset, .unset, .unset, .unset, .unset, .unset, .unset, .unset, .unset, .unset] [(.int (q2.toInt32)), (.int (2 : Int32)), (.ref b171), (.ref b171)])) rfl rfl (hb hby at_78)
  have V_b171_176 := Arv.set Ar177 q177 S177 N177 H177 G177 rfl W176 2 rfl (Nat.le_of_ble_eq_true rfl)
  have V_b164_176 := V_b164_174.other W176 ne_b164_b171
  have N176 := Fr.snoc X176 N174 ge_b171
  have sz176 : n0 ≤ h176.size := Nat.le_trans sz174 (Nat.le_of_eq W176.size.symm)
  refine Go.st (U' := T176.setTop (mkF m 79 #[.val (.long q0), .second, .val (.long q1), .second, .val (.long q2), .second, .val (.long q3), .second, .val (.int p4), .val (.int v160), .val (.int v161), .val (.int v162), .val (.int v163), .val (.ref b164), .unset, .unset, .unset, .unset, .unset, .unset, .unset, .unset, .unset, .unset, .unset, .unset, .unset, .unset] [(.ref b171)])) (fun t k => st176 _ k) ?_
  refine Go.st (U' := T176.setTop (mkF m 89 #[.val (.long q0), .second, .val (.long q1), .second, .val (.long q2), .second, .val (.long q3), .second, .val (.int p4), .val (.int v160), .val (.int v161), .val (.int v162), .val (.int v163), .val (.ref b164), .val (.ref b171), .val (.int (((q3.toUInt64 >>> ((32 : Int32) &&& 0x3f).toInt64.toUInt64).toInt64).toInt32)), .unset, .unset, .unset, .unset, .unset, .unset, .unset, .unset, .unset, .unset, .unset, .unset] [])) (fun t k => ?_) ?_
  · refine XS.astore X176.here hx rfl (hb hby at_79) rfl rfl (l' := #[.val (.long q0), .second, .val (.long q1), .second, .val (.long q2), .second, .val (.long q3), .second, .val (.int p4), .val (.int v160), .val (.int v161), .val (.int v162), .val (.int v163), .val (.ref b164), .val (.ref b171), .unset, .unset, .unset, .unset, .unset, .unset, .unset, .unset, .unset, .unset, .unset, .unset, .unset]) rfl ?_
    refine XS.lload X176.here hx rfl (hb hby at_81) rfl ?_
    refine XS.bipush X176.here hx rfl (hb hby at_83) ?_
    refine XS.lushr X176.here hx rfl (hb hby at_85) rfl ?_
    refine XS.l2i X176.here hx rfl (hb hby at_86) rfl ?_
    refine XS.istore X176.here hx rfl (hb hby at_87) rfl (l' := #[.val (.long q0), .second, .val (.long q1), .second, .val (.long q2), .second, .val (.long q3), .second, .val (.int p4), .val (.int v160), .val (.int v161), .val (.int v162), .val (.int v163), .val (.ref b164), .val (.ref b171), .val (.int (((q3.toUInt64 >>> ((32 : Int32) &&& 0x3f).toInt64.toUInt64).toInt64).toInt32)), .unset, .unset, .unset, .unset, .unset, .unset, .unset, .unset, .unset, .unset, .unset, .unset]) rfl ?_
    exact k
  generalize hv_v178 : (((q3.toUInt64 >>> ((32 : Int32) &&& 0x3f).toInt64.toUInt64).toInt64).toInt32) = v178
  refine Go.st (U' := T176.setTop (mkF m 94 #[.val (.long q0), .second, .val (.long q1), .second, .val (.long q2), .second, .val (.long q3), .second, .val (.int p4), .val (.int v160), .val (.int v161), .val (.int v162), .val (.int v163), .val (.ref b164), .val (.ref b171), .val (.int v178), .val (.int (q3.toInt32)), .unset, .unset, .unset, .unset, .unset, .unset, .unset, .unset, .unset, .unset, .unset] [])) (fun t k => ?_) ?_
  · refine XS.lload X176.here hx rfl (hb hby at_89) rfl ?_
    refine XS.l2i X176.here hx rfl (hb hby at_91) rfl ?_
    refine XS.istore X176.here hx rfl (hb hby at_92) rfl (l' := #[.val (.long q0), .second, .val (.long q1), .second, .val (.long q2), .second, .val (.long q3), .second, .val (.int p4), .val (.int v160), .val (.int v161), .val (.int v162), .val (.int v163), .val (.ref b164), .val (.ref b171), .val (.int v178), .val (.int (q3.toInt32)), .unset, .unset, .unset, .unset, .unset, .unset, .unset, .unset, .unset, .unset, .unset]) rfl ?_
    exact k
  generalize hv_v179 : (q3.toInt32) = v179
  refine Go.st (U' := T176.setTop (mkF m 95 #[.val (.long q0), .second, .val (.long q1), .second, .val (.long q2), .second, .val (.long q3), .second, .val (.int p4), .val (.int v160), .val (.int v161), .val (.int v162), .val (.int v163), .val (.ref b164), .val (.ref b171), .val (.int v178), .val (.int v179), .unset, .unset, .unset, .unset, .unset, .unset, .unset, .unset, .unset, .unset, .unset] [(.int (5 : Int32))])) (fun t k => ?_) ?_
  · refine XS.iconst X176.here hx rfl (hb hby at_94) ?_
    exact k
  obtain ⟨T180, h180, k180, X180, e180, E180, A180, st180⟩ := newP X176 hx hZ (own_w hw 0 rfl) e176 (g := (mkF m 95 #[.val (.long q0), .second, .val (.long q1), .second, .val (.long q2), .second, .val (.long q3), .second, .val (.int p4), .val (.int v160), .val (.int v161), .val (.int v162), .val (.int v163), .val (.ref b164), .val (.ref b171), .val (.int v178), .val (.int v179), .unset, .unset, .unset, .unset, .unset, .unset, .unset, .unset, .unset, .unset, .unset] [(.int (5 : Int32))])) rfl (hb hby at_95) rfl (by decide) (cap := 5) (by decide) (by decide) (by decide) (by decide)
  obtain ⟨b180, g180⟩ : ∃ z, z = h176.size := ⟨_, rfl⟩
  rw [← g180] at A180 st180
  have ne_b164_b180 : b164 ≠ b180 := Nat.ne_of_lt (Nat.lt_of_lt_of_le V_b164_176.lt (Nat.le_of_eq g180.symm))
  have ne_b171_b180 : b171 ≠ b180 := Nat.ne_of_lt (Nat.lt_of_lt_of_le V_b171_176.lt (Nat.le_of_eq g180.symm))
  have ge_b180 : n0 ≤ b180 := Nat.le_trans sz176 (Nat.le_of_eq g180.symm)
  have V_b164_180 := V_b164_176.ext E180
  have V_b171_180 := V_b171_176.ext E180
  have V_b180 : Arv Z h180 b180 k180 .int (5 : Int32) [(.int (0 : Int32)), (.int (0 : Int32)), (.int (0 : Int32)), (.int (0 : Int32)), (.int (0 : Int32))] (.int (0 : Int32)) := (Arv.new A180 (by decide)).pad (pad_rep [] (.int (0 : Int32)) 5)
  have sz180 : n0 ≤ h180.size := Nat.le_trans sz176 E180.1
  refine Go.st (U' := T180.setTop (mkF m 97 #[.val (.long q0), .second, .val (.long q1), .second, .val (.long q2), .second, .val (.long q3), .second, .val (.int p4), .val (.int v160), .val (.int v161), .val (.int v162), .val (.int v163), .val (.ref b164), .val (.ref b171), .val (.int v178), .val (.int v179), .unset, .unset, .unset, .unset, .unset, .unset, .unset, .unset, .unset, .unset, .unset] [(.ref b180)])) (fun t k => st180 _ k) ?_
  refine Go.st (U' := T180.setTop (mkF m 101 #[.val (.long q0), .second, .val (.long q1), .second, .val (.long q2), .second, .val (.long q3), .second, .val (.int p4), .val (.int v160), .val (.int v161), .val (.int v162), .val (.int v163), .val (.ref b164), .val (.ref b171), .val (.int v178), .val (.int v179), .unset, .unset, .unset, .unset, .unset, .unset, .unset, .unset, .unset, .unset, .unset] [(.int v178), (.int (0 : Int32)), (.ref b180), (.ref b180)])) (fun t k => ?_) ?_
  · refine XS.dup X180.here hx rfl (hb hby at_97) rfl rfl ?_
    refine XS.iconst X180.here hx rfl (hb hby at_98) ?_
    refine XS.iload X180.here hx rfl (hb hby at_99) rfl ?_
    exact k
  obtain ⟨cl182, Ar182, q182, S182, N182, H182, G182⟩ := id V_b180
  obtain ⟨T181, h181, X181, e181, W181, st181⟩ := stI X180 hx hZ e180 Ar182 (j := (0 : Int32)) (inb_of (j := (0 : Int32)) S182 ⟨by decide, by decide⟩) (g := (mkF m 101 #[.val (.long q0), .second, .val (.long q1), .second, .val (.long q2), .second, .val (.long q3), .second, .val (.int p4), .val (.int v160), .val (.int v161), .val (.int v162), .val (.int v163), .val (.ref b164), .val (.ref b171), .val (.int v178), .val (.int v179), .unset, .unset, .unset, .unset, .unset, .unset, .unset, .unset, .unset, .unset, .unset] [(.int v178), (.int (0 : Int32)), (.ref b180), (.ref b180)])) rfl rfl (hb hby at_101)
  have V_b180_181 := Arv.set Ar182 q182 S182 N182 H182 G182 rfl W181 0 rfl (Nat.le_of_ble_eq_true rfl)
  have V_b164_181 := V_b164_180.other W181 ne_b164_b180
  have V_b171_181 := V_b171_180.other W181 ne_b171_b180
  have N181 := Fr.snoc X181 N176 ge_b180
  have sz181 : n0 ≤ h181.size := Nat.le_trans sz180 (Nat.le_of_eq W181.size.symm)
  refine Go.st (U' := T181.setTop (mkF m 102 #[.val (.long q0), .second, .val (.long q1), .second, .val (.long q2), .second, .val (.long q3), .second, .val (.int p4), .val (.int v160), .val (.int v161), .val (.int v162), .val (.int v163), .val (.ref b164), .val (.ref b171), .val (.int v178), .val (.int v179), .unset, .unset, .unset, .unset, .unset, .unset, .unset, .unset, .unset, .unset, .unset] [(.ref b180)])) (fun t k => st181 _ k) ?_
  refine Go.st (U' := T181.setTop (mkF m 106 #[.val (.long q0), .second, .val (.long q1), .second, .val (.long q2), .second, .val (.long q3), .second, .val (.int p4), .val (.int v160), .val (.int v161), .val (.int v162), .val (.int v163), .val (.ref b164), .val (.ref b171), .val (.int v178), .val (.int v179), .unset, .unset, .unset, .unset, .unset, .unset, .unset, .unset, .unset, .unset, .unset] [(.int v178), (.int (1 : Int32)), (.ref b180), (.ref b180)])) (fun t k => ?_) ?_
  · refine XS.dup X181.here hx rfl (hb hby at_102) rfl rfl ?_
    refine XS.iconst X181.here hx rfl (hb hby at_103) ?_
    refine XS.iload X181.here hx rfl (hb hby at_104) rfl ?_
    exact k
  obtain ⟨cl184, Ar184, q184, S184, N184, H184, G184⟩ := id V_b180_181
  obtain ⟨T183, h183, X183, e183, W183, st183⟩ := stI X181 hx hZ e181 Ar184 (j := (1 : Int32)) (inb_of (j := (1 : Int32)) S184 ⟨by decide, by decide⟩) (g := (mkF m 106 #[.val (.long q0), .second, .val (.long q1), .second, .val (.long q2), .second, .val (.long q3), .second, .val (.int p4), .val (.int v160), .val (.int v161), .val (.int v162), .val (.int v163), .val (.ref b164), .val (.ref b171), .val (.int v178), .val (.int v179), .unset, .unset, .unset, .unset, .unset, .unset, .unset, .unset, .unset, .unset, .unset] [(.int v178), (.int (1 : Int32)), (.ref b180), (.ref b180)])) rfl rfl (hb hby at_106)
  have V_b180_183 := Arv.set Ar184 q184 S184 N184 H184 G184 rfl W183 1 rfl (Nat.le_of_ble_eq_true rfl)
  have V_b164_183 := V_b164_181.other W183 ne_b164_b180
  have V_b171_183 := V_b171_181.other W183 ne_b171_b180
  have N183 := Fr.snoc X183 N181 ge_b180
  have sz183 : n0 ≤ h183.size := Nat.le_trans sz181 (Nat.le_of_eq W183.size.symm)
  refine Go.st (U' := T183.setTop (mkF m 107 #[.val (.long q0), .second, .val (.long q1), .second, .val (.long q2), .second, .val (.long q3), .second, .val (.int p4), .val (.int v160), .val (.int v161), .val (.int v162), .val (.int v163), .val (.ref b164), .val (.ref b171), .val (.int v178), .val (.int v179), .unset, .unset, .unset, .unset, .unset, .unset, .unset, .unset, .unset, .unset, .unset] [(.ref b180)])) (fun t k => st183 _ k) ?_
  refine Go.st (U' := T183.setTop (mkF m 111 #[.val (.long q0), .second, .val (.long q1), .second, .val (.long q2), .second, .val (.long q3), .second, .val (.int p4), .val (.int v160), .val (.int v161), .val (.int v162), .val (.int v163), .val (.ref b164), .val (.ref b171), .val (.int v178), .val (.int v179), .unset, .unset, .unset, .unset, .unset, .unset, .unset, .unset, .unset, .unset, .unset] [(.int v178), (.int (2 : Int32)), (.ref b180), (.ref b180)])) (fun t k => ?_) ?_
  · refine XS.dup X183.here hx rfl (hb hby at_107) rfl rfl ?_
    refine XS.iconst X183.here hx rfl (hb hby at_108) ?_
    refine XS.iload X183.here hx rfl (hb hby at_109) rfl ?_
    exact k
  obtain ⟨cl186, Ar186, q186, S186, N186, H186, G186⟩ := id V_b180_183
  obtain ⟨T185, h185, X185, e185, W185, st185⟩ := stI X183 hx hZ e183 Ar186 (j := (2 : Int32)) (inb_of (j := (2 : Int32)) S186 ⟨by decide, by decide⟩) (g := (mkF m 111 #[.val (.long q0), .second, .val (.long q1), .second, .val (.long q2), .second, .val (.long q3), .second, .val (.int p4), .val (.int v160), .val (.int v161), .val (.int v162), .val (.int v163), .val (.ref b164), .val (.ref b171), .val (.int v178), .val (.int v179), .unset, .unset, .unset, .unset, .unset, .unset, .unset, .unset, .unset, .unset, .unset] [(.int v178), (.int (2 : Int32)), (.ref b180), (.ref b180)])) rfl rfl (hb hby at_111)
  have V_b180_185 := Arv.set Ar186 q186 S186 N186 H186 G186 rfl W185 2 rfl (Nat.le_of_ble_eq_true rfl)
  have V_b164_185 := V_b164_183.other W185 ne_b164_b180
  have V_b171_185 := V_b171_183.other W185 ne_b171_b180
  have N185 := Fr.snoc X185 N183 ge_b180
  have sz185 : n0 ≤ h185.size := Nat.le_trans sz183 (Nat.le_of_eq W185.size.symm)
  refine Go.st (U' := T185.setTop (mkF m 112 #[.val (.long q0), .second, .val (.long q1), .second, .val (.long q2), .second, .val (.long q3), .second, .val (.int p4), .val (.int v160), .val (.int v161), .val (.int v162), .val (.int v163), .val (.ref b164), .val (.ref b171), .val (.int v178), .val (.int v179), .unset, .unset, .unset, .unset, .unset, .unset, .unset, .unset, .unset, .unset, .unset] [(.ref b180)])) (fun t k => st185 _ k) ?_
  refine Go.st (U' := T185.setTop (mkF m 116 #[.val (.long q0), .second, .val (.long q1), .second, .val (.long q2), .second, .val (.long q3), .second, .val (.int p4), .val (.int v160), .val (.int v161), .val (.int v162), .val (.int v163), .val (.ref b164), .val (.ref b171), .val (.int v178), .val (.int v179), .unset, .unset, .unset, .unset, .unset, .unset, .unset, .unset, .unset, .unset, .unset] [(.int v178), (.int (3 : Int32)), (.ref b180), (.ref b180)])) (fun t k => ?_) ?_
  · refine XS.dup X185.here hx rfl (hb hby at_112) rfl rfl ?_
    refine XS.iconst X185.here hx rfl (hb hby at_113) ?_
    refine XS.iload X185.here hx rfl (hb hby at_114) rfl ?_
    exact k
  obtain ⟨cl188, Ar188, q188, S188, N188, H188, G188⟩ := id V_b180_185
  obtain ⟨T187, h187, X187, e187, W187, st187⟩ := stI X185 hx hZ e185 Ar188 (j := (3 : Int32)) (inb_of (j := (3 : Int32)) S188 ⟨by decide, by decide⟩) (g := (mkF m 116 #[.val (.long q0), .second, .val (.long q1), .second, .val (.long q2), .second, .val (.long q3), .second, .val (.int p4), .val (.int v160), .val (.int v161), .val (.int v162), .val (.int v163), .val (.ref b164), .val (.ref b171), .val (.int v178), .val (.int v179), .unset, .unset, .unset, .unset, .unset, .unset, .unset, .unset, .unset, .unset, .unset] [(.int v178), (.int (3 : Int32)), (.ref b180), (.ref b180)])) rfl rfl (hb hby at_116)
  have V_b180_187 := Arv.set Ar188 q188 S188 N188 H188 G188 rfl W187 3 rfl (Nat.le_of_ble_eq_true rfl)
  have V_b164_187 := V_b164_185.other W187 ne_b164_b180
  have V_b171_187 := V_b171_185.other W187 ne_b171_b180
  have N187 := Fr.snoc X187 N185 ge_b180
  have sz187 : n0 ≤ h187.size := Nat.le_trans sz185 (Nat.le_of_eq W187.size.symm)
  refine Go.st (U' := T187.setTop (mkF m 117 #[.val (.long q0), .second, .val (.long q1), .second, .val (.long q2), .second, .val (.long q3), .second, .val (.int p4), .val (.int v160), .val (.int v161), .val (.int v162), .val (.int v163), .val (.ref b164), .val (.ref b171), .val (.int v178), .val (.int v179), .unset, .unset, .unset, .unset, .unset, .unset, .unset, .unset, .unset, .unset, .unset] [(.ref b180)])) (fun t k => st187 _ k) ?_
  refine Go.st (U' := T187.setTop (mkF m 121 #[.val (.long q0), .second, .val (.long q1), .second, .val (.long q2), .second, .val (.long q3), .second, .val (.int p4), .val (.int v160), .val (.int v161), .val (.int v162), .val (.int v163), .val (.ref b164), .val (.ref b171), .val (.int v178), .val (.int v179), .unset, .unset, .unset, .unset, .unset, .unset, .unset, .unset, .unset, .unset, .unset] [(.int v178), (.int (4 : Int32)), (.ref b180), (.ref b180)])) (fun t k => ?_) ?_
  · refine XS.dup X187.here hx rfl (hb hby at_117) rfl rfl ?_
    refine XS.iconst X187.here hx rfl (hb hby at_118) ?_
    refine XS.iload X187.here hx rfl (hb hby at_119) rfl ?_
    exact k
  obtain ⟨cl190, Ar190, q190, S190, N190, H190, G190⟩ := id V_b180_187
  obtain ⟨T189, h189, X189, e189, W189, st189⟩ := stI X187 hx hZ e187 Ar190 (j := (4 : Int32)) (inb_of (j := (4 : Int32)) S190 ⟨by decide, by decide⟩) (g := (mkF m 121 #[.val (.long q0), .second, .val (.long q1), .second, .val (.long q2), .second, .val (.long q3), .second, .val (.int p4), .val (.int v160), .val (.int v161), .val (.int v162), .val (.int v163), .val (.ref b164), .val (.ref b171), .val (.int v178), .val (.int v179), .unset, .unset, .unset, .unset, .unset, .unset, .unset, .unset, .unset, .unset, .unset] [(.int v178), (.int (4 : Int32)), (.ref b180), (.ref b180)])) rfl rfl (hb hby at_121)
  have V_b180_189 := Arv.set Ar190 q190 S190 N190 H190 G190 rfl W189 4 rfl (Nat.le_of_ble_eq_true rfl)
  have V_b164_189 := V_b164_187.other W189 ne_b164_b180
  have V_b171_189 := V_b171_187.other W189 ne_b171_b180
  have N189 := Fr.snoc X189 N187 ge_b180
  have sz189 : n0 ≤ h189.size := Nat.le_trans sz187 (Nat.le_of_eq W189.size.symm)
  refine Go.st (U' := T189.setTop (mkF m 122 #[.val (.long q0), .second, .val (.long q1), .second, .val (.long q2), .second, .val (.long q3), .second, .val (.int p4), .val (.int v160), .val (.int v161), .val (.int v162), .val (.int v163), .val (.ref b164), .val (.ref b171), .val (.int v178), .val (.int v179), .unset, .unset, .unset, .unset, .unset, .unset, .unset, .unset, .unset, .unset, .unset] [(.ref b180)])) (fun t k => st189 _ k) ?_
  refine Go.st (U' := T189.setTop (mkF m 125 #[.val (.long q0), .second, .val (.long q1), .second, .val (.long q2), .second, .val (.long q3), .second, .val (.int p4), .val (.int v160), .val (.int v161), .val (.int v162), .val (.int v163), .val (.ref b164), .val (.ref b171), .val (.int v178), .val (.int v179), .val (.ref b180), .unset, .unset, .unset, .unset, .unset, .unset, .unset, .unset, .unset, .unset] [(.int (5 : Int32))])) (fun t k => ?_) ?_
  · refine XS.astore X189.here hx rfl (hb hby at_122) rfl rfl (l' := #[.val (.long q0), .second, .val (.long q1), .second, .val (.long q2), .second, .val (.long q3), .second, .val (.int p4), .val (.int v160), .val (.int v161), .val (.int v162), .val (.int v163), .val (.ref b164), .val (.ref b171), .val (.int v178), .val (.int v179), .val (.ref b180), .unset, .unset, .unset, .unset, .unset, .unset, .unset, .unset, .unset, .unset]) rfl ?_
    refine XS.iconst X189.here hx rfl (hb hby at_124) ?_
    exact k
  obtain ⟨T191, h191, k191, X191, e191, E191, A191, st191⟩ := newP X189 hx hZ (own_w hw 0 rfl) e189 (g := (mkF m 125 #[.val (.long q0), .second, .val (.long q1), .second, .val (.long q2), .second, .val (.long q3), .second, .val (.int p4), .val (.int v160), .val (.int v161), .val (.int v162), .val (.int v163), .val (.ref b164), .val (.ref b171), .val (.int v178), .val (.int v179), .val (.ref b180), .unset, .unset, .unset, .unset, .unset, .unset, .unset, .unset, .unset, .unset] [(.int (5 : Int32))])) rfl (hb hby at_125) rfl (by decide) (cap := 5) (by decide) (by decide) (by decide) (by decide)
  obtain ⟨b191, g191⟩ : ∃ z, z = h189.size := ⟨_, rfl⟩
  rw [← g191] at A191 st191
  have ne_b164_b191 : b164 ≠ b191 := Nat.ne_of_lt (Nat.lt_of_lt_of_le V_b164_189.lt (Nat.le_of_eq g191.symm))
  have ne_b171_b191 : b171 ≠ b191 := Nat.ne_of_lt (Nat.lt_of_lt_of_le V_b171_189.lt (Nat.le_of_eq g191.symm))
  have ne_b180_b191 : b180 ≠ b191 := Nat.ne_of_lt (Nat.lt_of_lt_of_le V_b180_189.lt (Nat.le_of_eq g191.symm))
  have ge_b191 : n0 ≤ b191 := Nat.le_trans sz189 (Nat.le_of_eq g191.symm)
  have V_b164_191 := V_b164_189.ext E191
  have V_b171_191 := V_b171_189.ext E191
  have V_b180_191 := V_b180_189.ext E191
  have V_b191 : Arv Z h191 b191 k191 .int (5 : Int32) [(.int (0 : Int32)), (.int (0 : Int32)), (.int (0 : Int32)), (.int (0 : Int32)), (.int (0 : Int32))] (.int (0 : Int32)) := (Arv.new A191 (by decide)).pad (pad_rep [] (.int (0 : Int32)) 5)
  have sz191 : n0 ≤ h191.size := Nat.le_trans sz189 E191.1
  refine Go.st (U' := T191.setTop (mkF m 127 #[.val (.long q0), .second, .val (.long q1), .second, .val (.long q2), .second, .val (.long q3), .second, .val (.int p4), .val (.int v160), .val (.int v161), .val (.int v162), .val (.int v163), .val (.ref b164), .val (.ref b171), .val (.int v178), .val (.int v179), .val (.ref b180), .unset, .unset, .unset, .unset, .unset, .unset, .unset, .unset, .unset, .unset] [(.ref b191)])) (fun t k => st191 _ k) ?_
  refine Go.st (U' := T191.setTop (mkF m 131 #[.val (.long q0), .second, .val (.long q1), .second, .val (.long q2), .second, .val (.long q3), .second, .val (.int p4), .val (.int v160), .val (.int v161), .val (.int v162), .val (.int v163), .val (.ref b164), .val (.ref b171), .val (.int v178), .val (.int v179), .val (.ref b180), .unset, .unset, .unset, .unset, .unset, .unset, .unset, .unset, .unset, .unset] [(.int v179), (.int (0 : Int32)), (.ref b191), (.ref b191)])) (fun t k => ?_) ?_
  · refine XS.dup X191.here hx rfl (hb hby at_127) rfl rfl ?_
    refine XS.iconst X191.here hx rfl (hb hby at_128) ?_
    refine XS.iload X191.here hx rfl (hb hby at_129) rfl ?_
    exact k
  obtain ⟨cl193, Ar193, q193, S193, N193, H193, G193⟩ := id V_b191
  obtain ⟨T192, h192, X192, e192, W192, st192⟩ := stI X191 hx hZ e191 Ar193 (j := (0 : Int32)) (inb_of (j := (0 : Int32)) S193 ⟨by decide, by decide⟩) (g := (mkF m 131 #[.val (.long q0), .second, .val (.long q1), .second, .val (.long q2), .second, .val (.long q3), .second, .val (.int p4), .val (.int v160), .val (.int v161), .val (.int v162), .val (.int v163), .val (.ref b164), .val (.ref b171), .val (.int v178), .val (.int v179), .val (.ref b180), .unset, .unset, .unset, .unset, .unset, .unset, .unset, .unset, .unset, .unset] [(.int v179), (.int (0 : Int32)), (.ref b191), (.ref b191)])) rfl rfl (hb hby at_131)
  have V_b191_192 := Arv.set Ar193 q193 S193 N193 H193 G193 rfl W192 0 rfl (Nat.le_of_ble_eq_true rfl)
  have V_b164_192 := V_b164_191.other W192 ne_b164_b191
  have V_b171_192 := V_b171_191.other W192 ne_b171_b191
  have V_b180_192 := V_b180_191.other W192 ne_b180_b191
  have N192 := Fr.snoc X192 N189 ge_b191
  have sz192 : n0 ≤ h192.size := Nat.le_trans sz191 (Nat.le_of_eq W192.size.symm)
  refine Go.st (U' := T192.setTop (mkF m 132 #[.val (.long q0), .second, .val (.long q1), .second, .val (.long q2), .second, .val (.long q3), .second, .val (.int p4), .val (.int v160), .val (.int v161), .val (.int v162), .val (.int v163), .val (.ref b164), .val (.ref b171), .val (.int v178), .val (.int v179), .val (.ref b180), .unset, .unset, .unset, .unset, .unset, .unset, .unset, .unset, .unset, .unset] [(.ref b191)])) (fun t k => st192 _ k) ?_
  refine Go.st (U' := T192.setTop (mkF m 136 #[.val (.long q0), .second, .val (.long q1), .second, .val (.long q2), .second, .val (.long q3), .second, .val (.int p4), .val (.int v160), .val (.int v161), .val (.int v162), .val (.int v163), .val (.ref b164), .val (.ref b171), .val (.int v178), .val (.int v179), .val (.ref b180), .unset, .unset, .unset, .unset, .unset, .unset, .unset, .unset, .unset, .unset] [(.int v179), (.int (1 : Int32)), (.ref b191), (.ref b191)])) (fun t k => ?_) ?_
  · refine XS.dup X192.here hx rfl (hb hby at_132) rfl rfl ?_
    refine XS.iconst X192.here hx rfl (hb hby at_133) ?_
    refine XS.iload X192.here hx rfl (hb hby at_134) rfl ?_
    exact k
  obtain ⟨cl195, Ar195, q195, S195, N195, H195, G195⟩ := id V_b191_192
  obtain ⟨T194, h194, X194, e194, W194, st194⟩ := stI X192 hx hZ e192 Ar195 (j := (1 : Int32)) (inb_of (j := (1 : Int32)) S195 ⟨by decide, by decide⟩) (g := (mkF m 136 #[.val (.long q0), .second, .val (.long q1), .second, .val (.long q2), .second, .val (.long q3), .second, .val (.int p4), .val (.int v160), .val (.int v161), .val (.int v162), .val (.int v163), .val (.ref b164), .val (.ref b171), .val (.int v178), .val (.int v179), .val (.ref b180), .unset, .unset, .unset, .unset, .unset, .unset, .unset, .unset, .unset, .unset] [(.int v179), (.int (1 : Int32)), (.ref b191), (.ref b191)])) rfl rfl (hb hby at_136)
  have V_b191_194 := Arv.set Ar195 q195 S195 N195 H195 G195 rfl W194 1 rfl (Nat.le_of_ble_eq_true rfl)
  have V_b164_194 := V_b164_192.other W194 ne_b164_b191
  have V_b171_194 := V_b171_192.other W194 ne_b171_b191
  have V_b180_194 := V_b180_192.other W194 ne_b180_b191
  have N194 := Fr.snoc X194 N192 ge_b191
  have sz194 : n0 ≤ h194.size := Nat.le_trans sz192 (Nat.le_of_eq W194.size.symm)
  refine Go.st (U' := T194.setTop (mkF m 137 #[.val (.long q0), .second, .val (.long q1), .second, .val (.long q2), .second, .val (.long q3), .second, .val (.int p4), .val (.int v160), .val (.int v161), .val (.int v162), .val (.int v163), .val (.ref b164), .val (.ref b171), .val (.int v178), .val (.int v179), .val (.ref b180), .unset, .unset, .unset, .unset, .unset, .unset, .unset, .unset, .unset, .unset] [(.ref b191)])) (fun t k => st194 _ k) ?_
  refine Go.st (U' := T194.setTop (mkF m 141 #[.val (.long q0), .second, .val (.long q1), .second, .val (.long q2), .second, .val (.long q3), .second, .val (.int p4), .val (.int v160), .val (.int v161), .val (.int v162), .val (.int v163), .val (.ref b164), .val (.ref b171), .val (.int v178), .val (.int v179), .val (.ref b180), .unset, .unset, .unset, .unset, .unset, .unset, .unset, .unset, .unset, .unset] [(.int v179), (.int (2 : Int32)), (.ref b191), (.ref b191)])) (fun t k => ?_) ?_
  · refine XS.dup X194.here hx rfl (hb hby at_137) rfl rfl ?_
    refine XS.iconst X194.here hx rfl (hb hby at_138) ?_
    refine XS.iload X194.here hx rfl (hb hby at_139) rfl ?_
    exact k
  obtain ⟨cl197, Ar197, q197, S197, N197, H197, G197⟩ := id V_b191_194
  obtain ⟨T196, h196, X196, e196, W196, st196⟩ := stI X194 hx hZ e194 Ar197 (j := (2 : Int32)) (inb_of (j := (2 : Int32)) S197 ⟨by decide, by decide⟩) (g := (mkF m 141 #[.val (.long q0), .second, .val (.long q1), .second, .val (.long q2), .second, .val (.long q3), .second, .val (.int p4), .val (.int v160), .val (.int v161), .val (.int v162), .val (.int v163), .val (.ref b164), .val (.ref b171), .val (.int v178), .val (.int v179), .val (.ref b180), .unset, .unset, .unset, .unset, .unset, .unset, .unset, .unset, .unset, .unset] [(.int v179), (.int (2 : Int32)), (.ref b191), (.ref b191)])) rfl rfl (hb hby at_141)
  have V_b191_196 := Arv.set Ar197 q197 S197 N197 H197 G197 rfl W196 2 rfl (Nat.le_of_ble_eq_true rfl)
  have V_b164_196 := V_b164_194.other W196 ne_b164_b191
  have V_b171_196 := V_b171_194.other W196 ne_b171_b191
  have V_b180_196 := V_b180_194.other W196 ne_b180_b191
  have N196 := Fr.snoc X196 N194 ge_b191
  have sz196 : n0 ≤ h196.size := Nat.le_trans sz194 (Nat.le_of_eq W196.size.symm)
  refine Go.st (U' := T196.setTop (mkF m 142 #[.val (.long q0), .second, .val (.long q1), .second, .val (.long q2), .second, .val (.long q3), .second, .val (.int p4), .val (.int v160), .val (.int v161), .val (.int v162), .val (.int v163), .val (.ref b164), .val (.ref b171), .val (.int v178), .val (.int v179), .val (.ref b180), .unset, .unset, .unset, .unset, .unset, .unset, .unset, .unset, .unset, .unset] [(.ref b191)])) (fun t k => st196 _ k) ?_
  refine Go.st (U' := T196.setTop (mkF m 146 #[.val (.long q0), .second, .val (.long q1), .second, .val (.long q2), .second, .val (.long q3), .second, .val (.int p4), .val (.int v160), .val (.int v161), .val (.int v162), .val (.int v163), .val (.ref b164), .val (.ref b171), .val (.int v178), .val (.int v179), .val (.ref b180), .unset, .unset, .unset, .unset, .unset, .unset, .unset, .unset, .unset, .unset] [(.int v179), (.int (3 : Int32)), (.ref b191), (.ref b191)])) (fun t k => ?_) ?_
  · refine XS.dup X196.here hx rfl (hb hby at_142) rfl rfl ?_
    refine XS.iconst X196.here hx rfl (hb hby at_143) ?_
    refine XS.iload X196.here hx rfl (hb hby at_144) rfl ?_
    exact k
  obtain ⟨cl199, Ar199, q199, S199, N199, H199, G199⟩ := id V_b191_196
  obtain ⟨T198, h198, X198, e198, W198, st198⟩ := stI X196 hx hZ e196 Ar199 (j := (3 : Int32)) (inb_of (j := (3 : Int32)) S199 ⟨by decide, by decide⟩) (g := (mkF m 146 #[.val (.long q0), .second, .val (.long q1), .second, .val (.long q2), .second, .val (.long q3), .second, .val (.int p4), .val (.int v160), .val (.int v161), .val (.int v162), .val (.int v163), .val (.ref b164), .val (.ref b171), .val (.int v178), .val (.int v179), .val (.ref b180), .unset, .unset, .unset, .unset, .unset, .unset, .unset, .unset, .unset, .unset] [(.int v179), (.int (3 : Int32)), (.ref b191), (.ref b191)])) rfl rfl (hb hby at_146)
  have V_b191_198 := Arv.set Ar199 q199 S199 N199 H199 G199 rfl W198 3 rfl (Nat.le_of_ble_eq_true rfl)
  have V_b164_198 := V_b164_196.other W198 ne_b164_b191
  have V_b171_198 := V_b171_196.other W198 ne_b171_b191
  have V_b180_198 := V_b180_196.other W198 ne_b180_b191
  have N198 := Fr.snoc X198 N196 ge_b191
  have sz198 : n0 ≤ h198.size := Nat.le_trans sz196 (Nat.le_of_eq W198.size.symm)
  refine Go.st (U' := T198.setTop (mkF m 147 #[.val (.long q0), .second, .val (.long q1), .second, .val (.long q2), .second, .val (.long q3), .second, .val (.int p4), .val (.int v160), .val (.int v161), .val (.int v162), .val (.int v163), .val (.ref b164), .val (.ref b171), .val (.int v178), .val (.int v179), .val (.ref b180), .unset, .unset, .unset, .unset, .unset, .unset, .unset, .unset, .unset, .unset] [(.ref b191)])) (fun t k => st198 _ k) ?_
  refine Go.st (U' := T198.setTop (mkF m 151 #[.val (.long q0), .second, .val (.long q1), .second, .val (.long q2), .second, .val (.long q3), .second, .val (.int p4), .val (.int v160), .val (.int v161), .val (.int v162), .val (.int v163), .val (.ref b164), .val (.ref b171), .val (.int v178), .val (.int v179), .val (.ref b180), .unset, .unset, .unset, .unset, .unset, .unset, .unset, .unset, .unset, .unset] [(.int v179), (.int (4 : Int32)), (.ref b191), (.ref b191)])) (fun t k => ?_) ?_
  · refine XS.dup X198.here hx rfl (hb hby at_147) rfl rfl ?_
    refine XS.iconst X198.here hx rfl (hb hby at_148) ?_
    refine XS.iload X198.here hx rfl (hb hby at_149) rfl ?_
    exact k
  obtain ⟨cl201, Ar201, q201, S201, N201, H201, G201⟩ := id V_b191_198
  obtain ⟨T200, h200, X200, e200, W200, st200⟩ := stI X198 hx hZ e198 Ar201 (j := (4 : Int32)) (inb_of (j := (4 : Int32)) S201 ⟨by decide, by decide⟩) (g := (mkF m 151 #[.val (.long q0), .second, .val (.long q1), .second, .val (.long q2), .second, .val (.long q3), .second, .val (.int p4), .val (.int v160), .val (.int v161), .val (.int v162), .val (.int v163), .val (.ref b164), .val (.ref b171), .val (.int v178), .val (.int v179), .val (.ref b180), .unset, .unset, .unset, .unset, .unset, .unset, .unset, .unset, .unset, .unset] [(.int v179), (.int (4 : Int32)), (.ref b191), (.ref b191)])) rfl rfl (hb hby at_151)
  have V_b191_200 := Arv.set Ar201 q201 S201 N201 H201 G201 rfl W200 4 rfl (Nat.le_of_ble_eq_true rfl)
  have V_b164_200 := V_b164_198.other W200 ne_b164_b191
  have V_b171_200 := V_b171_198.other W200 ne_b171_b191
  have V_b180_200 := V_b180_198.other W200 ne_b180_b191
  have N200 := Fr.snoc X200 N198 ge_b191
  have sz200 : n0 ≤ h200.size := Nat.le_trans sz198 (Nat.le_of_eq W200.size.symm)
  refine Go.st (U' := T200.setTop (mkF m 152 #[.val (.long q0), .second, .val (.long q1), .second, .val (.long q2), .second, .val (.long q3), .second, .val (.int p4), .val (.int v160), .val (.int v161), .val (.int v162), .val (.int v163), .val (.ref b164), .val (.ref b171), .val (.int v178), .val (.int v179), .val (.ref b180), .unset, .unset, .unset, .unset, .unset, .unset, .unset, .unset, .unset, .unset] [(.ref b191)])) (fun t k => st200 _ k) ?_
  refine Go.st (U' := T200.setTop (mkF m 154 #[.val (.long q0), .second, .val (.long q1), .second, .val (.long q2), .second, .val (.long q3), .second, .val (.int p4), .val (.int v160), .val (.int v161), .val (.int v162), .val (.int v163), .val (.ref b164), .val (.ref b171), .val (.int v178), .val (.int v179), .val (.ref b180), .val (.ref b191), .unset, .unset, .unset, .unset, .unset, .unset, .unset, .unset, .unset] [])) (fun t k => ?_) ?_
  · refine XS.astore X200.here hx rfl (hb hby at_152) rfl rfl (l' := #[.val (.long q0), .second, .val (.long q1), .second, .val (.long q2), .second, .val (.long q3), .second, .val (.int p4), .val (.int v160), .val (.int v161), .val (.int v162), .val (.int v163), .val (.ref b164), .val (.ref b171), .val (.int v178), .val (.int v179), .val (.ref b180), .val (.ref b191), .unset, .unset, .unset, .unset, .unset, .unset, .unset, .unset, .unset]) rfl ?_
    exact k
  have hct := own_ct p4 v160 v161 v162 v163 hv_v160 hv_v161 hv_v162 hv_v163
  refine store0 q0 q1 q2 q3 p4 v160 v161 v162 v163 v178 v179 b164 b171 b180 b191 k164 k171 k180 k191 (((q0.toUInt64 >>> ((32 : Int32) &&& 0x3f).toInt64.toUInt64).toInt64).toInt32) (q0.toInt32) (((q2.toUInt64 >>> ((32 : Int32) &&& 0x3f).toInt64.toUInt64).toInt64).toInt32) (((q1.toUInt64 >>> ((32 : Int32) &&& 0x3f).toInt64.toUInt64).toInt64).toInt32) (q1.toInt32) (q2.toInt32) [v178, v178, v178, v178, v178] [v179, v179, v179, v179, v179] X200 hx hZ hw hby hml hown e200 sz200 N200 V_b164_200 V_b171_200 V_b180_200 V_b191_200 ge_b180 ge_b191 ne_b164_b180 ne_b171_b180 ne_b180_b191 ne_b164_b191 ne_b171_b191 (own_ix0 v162 hct.2.2.1) (own_il (own_ix0 v162 hct.2.2.1) rfl) ?_
  intro T202 locs202 h202 Lx202 hL202 X202 e202 sz202 N202 VX202 VY202 VA202 VB202
  refine store1 q0 q1 q2 q3 p4 v160 v161 v162 v163 v178 v179 b164 b171 b180 b191 k164 k171 k180 k191 (((q0.toUInt64 >>> ((32 : Int32) &&& 0x3f).toInt64.toUInt64).toInt64).toInt32) (q0.toInt32) (((q2.toUInt64 >>> ((32 : Int32) &&& 0x3f).toInt64.toUInt64).toInt64).toInt32) (((q1.toUInt64 >>> ((32 : Int32) &&& 0x3f).toInt64.toUInt64).toInt64).toInt32) (q1.toInt32) (q2.toInt32) Lx202 [v179, v179, v179, v179, v179] X202 hx hZ hw hby hml hown e202 sz202 N202 VX202 VY202 VA202 VB202 ge_b180 ge_b191 ne_b164_b180 ne_b171_b180 ne_b180_b191 ne_b164_b191 ne_b171_b191 (own_ix v162 hct.2.2.1 (1 : Int32) (by decide) (by decide)) (own_il (own_ix v162 hct.2.2.1 (1 : Int32) (by decide) (by decide)) (own_sl hL202 rfl)) ?_
  intro T203 locs203 h203 Lx203 hL203 X203 e203 sz203 N203 VX203 VY203 VA203 VB203
  refine store2 q0 q1 q2 q3 p4 v160 v161 v162 v163 v178 v179 b164 b171 b180 b191 k164 k171 k180 k191 (((q0.toUInt64 >>> ((32 : Int32) &&& 0x3f).toInt64.toUInt64).toInt64).toInt32) (q0.toInt32) (((q2.toUInt64 >>> ((32 : Int32) &&& 0x3f).toInt64.toUInt64).toInt64).toInt32) (((q1.toUInt64 >>> ((32 : Int32) &&& 0x3f).toInt64.toUInt64).toInt64).toInt32) (q1.toInt32) (q2.toInt32) Lx203 [v179, v179, v179, v179, v179] X203 hx hZ hw hby hml hown e203 sz203 N203 VX203 VY203 VA203 VB203 ge_b180 ge_b191 ne_b164_b180 ne_b171_b180 ne_b180_b191 ne_b164_b191 ne_b171_b191 (own_ix v162 hct.2.2.1 (2 : Int32) (by decide) (by decide)) (own_il (own_ix v162 hct.2.2.1 (2 : Int32) (by decide) (by decide)) (own_sl hL203 (own_sl hL202 rfl))) ?_
  intro T204 locs204 h204 Lx204 hL204 X204 e204 sz204 N204 VX204 VY204 VA204 VB204
  refine store3 q0 q1 q2 q3 p4 v160 v161 v162 v163 v178 v179 b164 b171 b180 b191 k164 k171 k180 k191 (((q0.toUInt64 >>> ((32 : Int32) &&& 0x3f).toInt64.toUInt64).toInt64).toInt32) (q0.toInt32) (((q2.toUInt64 >>> ((32 : Int32) &&& 0x3f).toInt64.toUInt64).toInt64).toInt32) (((q1.toUInt64 >>> ((32 : Int32) &&& 0x3f).toInt64.toUInt64).toInt64).toInt32) (q1.toInt32) (q2.toInt32) Lx204 [v179, v179, v179, v179, v179] X204 hx hZ hw hby hml hown e204 sz204 N204 VX204 VY204 VA204 VB204 ge_b180 ge_b191 ne_b164_b180 ne_b171_b180 ne_b180_b191 ne_b164_b191 ne_b171_b191 (own_ix0 v163 hct.2.2.2) (own_il (own_ix0 v163 hct.2.2.2) rfl) ?_
  intro T205 locs205 h205 Lx205 hL205 X205 e205 sz205 N205 VX205 VY205 VA205 VB205
  refine store4 q0 q1 q2 q3 p4 v160 v161 v162 v163 v178 v179 b164 b171 b180 b191 k164 k171 k180 k191 (((q0.toUInt64 >>> ((32 : Int32) &&& 0x3f).toInt64.toUInt64).toInt64).toInt32) (q0.toInt32) (((q2.toUInt64 >>> ((32 : Int32) &&& 0x3f).toInt64.toUInt64).toInt64).toInt32) (((q1.toUInt64 >>> ((32 : Int32) &&& 0x3f).toInt64.toUInt64).toInt64).toInt32) (q1.toInt32) (q2.toInt32) Lx204 Lx205 X205 hx hZ hw hby hml hown e205 sz205 N205 VX205 VY205 VA205 VB205 ge_b180 ge_b191 ne_b164_b180 ne_b171_b180 ne_b180_b191 ne_b164_b191 ne_b171_b191 (own_ix v163 hct.2.2.2 (1 : Int32) (by decide) (by decide)) (own_il (own_ix v163 hct.2.2.2 (1 : Int32) (by decide) (by decide)) (own_sl hL205 rfl)) ?_
  intro T206 locs206 h206 Lx206 hL206 X206 e206 sz206 N206 VX206 VY206 VA206 VB206
  refine store5 q0 q1 q2 q3 p4 v160 v161 v162 v163 v178 v179 b164 b171 b180 b191 k164 k171 k180 k191 (((q0.toUInt64 >>> ((32 : Int32) &&& 0x3f).toInt64.toUInt64).toInt64).toInt32) (q0.toInt32) (((q2.toUInt64 >>> ((32 : Int32) &&& 0x3f).toInt64.toUInt64).toInt64).toInt32) (((q1.toUInt64 >>> ((32 : Int32) &&& 0x3f).toInt64.toUInt64).toInt64).toInt32) (q1.toInt32) (q2.toInt32) Lx204 Lx206 X206 hx hZ hw hby hml hown e206 sz206 N206 VX206 VY206 VA206 VB206 ge_b180 ge_b191 ne_b164_b180 ne_b171_b180 ne_b180_b191 ne_b164_b191 ne_b171_b191 (own_ix v163 hct.2.2.2 (2 : Int32) (by decide) (by decide)) (own_il (own_ix v163 hct.2.2.2 (2 : Int32) (by decide) (by decide)) (own_sl hL206 (own_sl hL205 rfl))) ?_
  intro T207 locs207 h207 Lx207 hL207 X207 e207 sz207 N207 VX207 VY207 VA207 VB207
  by_cases hla : v160 = (0 : Int32)
  · by_cases hlb : v161 = (0 : Int32)
    · refine Go.st (U' := T207.setTop (mkF m 268 #[.val (.long q0), .second, .val (.long q1), .second, .val (.long q2), .second, .val (.long q3), .second, .val (.int p4), .val (.int v160), .val (.int v161), .val (.int v162), .val (.int v163), .val (.ref b164), .val (.ref b171), .val (.int v178), .val (.int v179), .val (.ref b180), .val (.ref b191), .unset, .unset, .unset, .unset, .unset, .unset, .unset, .unset, .unset] [(.int (v163 + v161)), (.int v163), (.ref b191), (.int (v162 + v160)), (.int v162), (.ref b180)])) (fun t k => ?_) ?_
      · refine XS.aload X207.here hx rfl (hb hby at_250) rfl rfl ?_
        refine XS.iload X207.here hx rfl (hb hby at_252) rfl ?_
        refine XS.iload X207.here hx rfl (hb hby at_254) rfl ?_
        refine XS.iload X207.here hx rfl (hb hby at_256) rfl ?_
        refine XS.iadd X207.here hx rfl (hb hby at_258) rfl ?_
        refine XS.aload X207.here hx rfl (hb hby at_259) rfl rfl ?_
        refine XS.iload X207.here hx rfl (hb hby at_261) rfl ?_
        refine XS.iload X207.here hx rfl (hb hby at_263) rfl ?_
        refine XS.iload X207.here hx rfl (hb hby at_265) rfl ?_
        refine XS.iadd X207.here hx rfl (hb hby at_267) rfl ?_
        exact k
      obtain ⟨_, _, ⟨T208, L208, k208, n208⟩, -, X208, ⟨Lc208, hQ208, l208, y208, z208⟩, st208⟩ := Jvm.LawKit.callS X207 hx (y := own_y0) hown (mvT hZ (own_w hw 1 rfl)) (mvT hZ (own_w hw 2 rfl)) (mvT hZ (own_w hw 3 rfl)) (mvT hZ (own_w hw 4 rfl)) (by decide) (backOf (W := 0) (rmaz l Z a0 hw [] b180 v162 (v162 + v160) b191 v163 (v163 + v161) h207 n0 sz207 (by rw [hla]; exact Int32.add_zero _)) hZ (own_w hw 4 rfl) (own_w hw 3 rfl) (by decide) (by decide)) (g := (mkF m 268 #[.val (.long q0), .second, .val (.long q1), .second, .val (.long q2), .second, .val (.long q3), .second, .val (.int p4), .val (.int v160), .val (.int v161), .val (.int v162), .val (.int v163), .val (.ref b164), .val (.ref b171), .val (.int v178), .val (.int v179), .val (.ref b180), .val (.ref b191), .unset, .unset, .unset, .unset, .unset, .unset, .unset, .unset, .unset] [(.int (v163 + v161)), (.int v163), (.ref b191), (.int (v162 + v160)), (.int v162), (.ref b180)])) rfl (by rw [hml]; rfl) (argsL := [(.ref b180), (.int v162), (.int (v162 + v160)), (.ref b191), (.int v163), (.int (v163 + v161))]) (rest := []) (lenOf pd_1 rfl) rfl (by show 2 * 0 + _ ≤ _; exact Nat.le_of_eq rfl) (hb hby at_268) (fun _ _ => ⟨rfl, e207, (by decide : 4 + 0 ≤ _), (by decide : 16 + 0 ≤ _)⟩)
      dsimp only [Pt.U, Pt.locs, Pt.cells, Pt.slots] at X208 l208 y208 z208 st208 hQ208
      subst l208 y208 z208
      obtain ⟨rfl, N208q, e208⟩ := hQ208
      have N208 := Fr.app N207 N208q
      refine Go.st (U' := T208.setTop (mkF m 271 #[.val (.long q0), .second, .val (.long q1), .second, .val (.long q2), .second, .val (.long q3), .second, .val (.int p4), .val (.int v160), .val (.int v161), .val (.int v162), .val (.int v163), .val (.ref b164), .val (.ref b171), .val (.int v178), .val (.int v179), .val (.ref b180), .val (.ref b191), .unset, .unset, .unset, .unset, .unset, .unset, .unset, .unset, .unset] [(.int (fz v163 (v163 + v161)))])) (fun t k => st208 _ k) ?_
      refine Go.st (U' := T208.setTop (mkF m 273 #[.val (.long q0), .second, .val (.long q1), .second, .val (.long q2), .second, .val (.long q3), .second, .val (.int p4), .val (.int v160), .val (.int v161), .val (.int v162), .val (.int v163), .val (.ref b164), .val (.ref b171), .val (.int v178), .val (.int v179), .val (.ref b180), .val (.ref b191), .val (.int (fz v163 (v163 + v161))), .unset, .unset, .unset, .unset, .unset, .unset, .unset, .unset] [])) (fun t k => ?_) ?_
      · refine XS.istore X208.here hx rfl (hb hby at_271) rfl (l' := #[.val (.long q0), .second, .val (.long q1), .second, .val (.long q2), .second, .val (.long q3), .second, .val (.int p4), .val (.int v160), .val (.int v161), .val (.int v162), .val (.int v163), .val (.ref b164), .val (.ref b171), .val (.int v178), .val (.int v179), .val (.ref b180), .val (.ref b191), .val (.int (fz v163 (v163 + v161))), .unset, .unset, .unset, .unset, .unset, .unset, .unset, .unset]) rfl ?_
        exact k
      generalize hv_v209 : (fz v163 (v163 + v161)) = v209
      refine Go.st (U' := T208.setTop (mkF m 462 #[.val (.long q0), .second, .val (.long q1), .second, .val (.long q2), .second, .val (.long q3), .second, .val (.int p4), .val (.int v160), .val (.int v161), .val (.int v162), .val (.int v163), .val (.ref b164), .val (.ref b171), .val (.int v178), .val (.int v179), .val (.ref b180), .val (.ref b191), .val (.int v209), .val (.int (1 : Int32)), .unset, .unset, .unset, .unset, .unset, .unset, .unset] [(.int (1 : Int32))])) (fun t k => ?_) ?_
      · refine XS.iload X208.here hx rfl (hb hby at_273) rfl ?_
        refine XS.ifYes X208.here hx rfl (pc0 := 275) (pc' := 283) rfl (hb hby at_275) rfl ((if0 _ _).trans (teq (hla : v160 = (0 : Int32))).1) (by decide) (by decide) ?_
        refine XS.iload X208.here hx rfl (hb hby at_283) rfl ?_
        refine XS.ifNo X208.here hx rfl (hb hby at_285) rfl ((if0 _ _).trans (teq (hla : v160 = (0 : Int32))).2) ?_
        refine XS.iload X208.here hx rfl (hb hby at_288) rfl ?_
        refine XS.ifNo X208.here hx rfl (hb hby at_290) rfl ((if0 _ _).trans (teq (hlb : v161 = (0 : Int32))).2) ?_
        refine XS.iconst X208.here hx rfl (hb hby at_293) ?_
        refine XS.goto X208.here hx rfl (pc0 := 294) (pc' := 298) rfl (hb hby at_294) (by decide) (by decide) ?_
        refine XS.istore X208.here hx rfl (hb hby at_298) rfl (l' := #[.val (.long q0), .second, .val (.long q1), .second, .val (.long q2), .second, .val (.long q3), .second, .val (.int p4), .val (.int v160), .val (.int v161), .val (.int v162), .val (.int v163), .val (.ref b164), .val (.ref b171), .val (.int v178), .val (.int v179), .val (.ref b180), .val (.ref b191), .val (.int v209), .val (.int (1 : Int32)), .unset, .unset, .unset, .unset, .unset, .unset, .unset]) rfl ?_
        refine XS.goto X208.here hx rfl (pc0 := 300) (pc' := 450) rfl (hb hby at_300) (by decide) (by decide) ?_
        refine XS.iload X208.here hx rfl (hb hby at_450) rfl ?_
        refine XS.iload X208.here hx rfl (hb hby at_452) rfl ?_
        refine XS.icmpNo X208.here hx rfl (hb hby at_454) rfl (teq ((by subst hv_v209; exact own_fz1 v163 v161 hlb) : v209 = (1 : Int32))).2 ?_
        refine XS.iconst X208.here hx rfl (hb hby at_457) ?_
        refine XS.goto X208.here hx rfl (pc0 := 458) (pc' := 462) rfl (hb hby at_458) (by decide) (by decide) ?_
        exact k
      refine own_ret (Q := Q0 Z q0 q1 q2 q3 p4 h0 n0) (v := some (.int (1 : Int32))) X208 hlk (fun h => by rw [hrt] at h; cases h) (by decide) (by decide) ?_ (fun fs hr => retN X208 hx (t := .boolean) hrt (by simp) (hb hby at_462) hr)
      rw [e208]
      exact ⟨rfl, N208⟩
    · refine Go.st (U' := T207.setTop (mkF m 268 #[.val (.long q0), .second, .val (.long q1), .second, .val (.long q2), .second, .val (.long q3), .second, .val (.int p4), .val (.int v160), .val (.int v161), .val (.int v162), .val (.int v163), .val (.ref b164), .val (.ref b171), .val (.int v178), .val (.int v179), .val (.ref b180), .val (.ref b191), .unset, .unset, .unset, .unset, .unset, .unset, .unset, .unset, .unset] [(.int (v163 + v161)), (.int v163), (.ref b191), (.int (v162 + v160)), (.int v162), (.ref b180)])) (fun t k => ?_) ?_
      · refine XS.aload X207.here hx rfl (hb hby at_250) rfl rfl ?_
        refine XS.iload X207.here hx rfl (hb hby at_252) rfl ?_
        refine XS.iload X207.here hx rfl (hb hby at_254) rfl ?_
        refine XS.iload X207.here hx rfl (hb hby at_256) rfl ?_
        refine XS.iadd X207.here hx rfl (hb hby at_258) rfl ?_
        refine XS.aload X207.here hx rfl (hb hby at_259) rfl rfl ?_
        refine XS.iload X207.here hx rfl (hb hby at_261) rfl ?_
        refine XS.iload X207.here hx rfl (hb hby at_263) rfl ?_
        refine XS.iload X207.here hx rfl (hb hby at_265) rfl ?_
        refine XS.iadd X207.here hx rfl (hb hby at_267) rfl ?_
        exact k
      obtain ⟨_, _, ⟨T210, L210, k210, n210⟩, -, X210, ⟨Lc210, hQ210, l210, y210, z210⟩, st210⟩ := Jvm.LawKit.callS X207 hx (y := own_y0) hown (mvT hZ (own_w hw 1 rfl)) (mvT hZ (own_w hw 2 rfl)) (mvT hZ (own_w hw 3 rfl)) (mvT hZ (own_w hw 4 rfl)) (by decide) (backOf (W := 0) (rmaz l Z a0 hw [] b180 v162 (v162 + v160) b191 v163 (v163 + v161) h207 n0 sz207 (by rw [hla]; exact Int32.add_zero _)) hZ (own_w hw 4 rfl) (own_w hw 3 rfl) (by decide) (by decide)) (g := (mkF m 268 #[.val (.long q0), .second, .val (.long q1), .second, .val (.long q2), .second, .val (.long q3), .second, .val (.int p4), .val (.int v160), .val (.int v161), .val (.int v162), .val (.int v163), .val (.ref b164), .val (.ref b171), .val (.int v178), .val (.int v179), .val (.ref b180), .val (.ref b191), .unset, .unset, .unset, .unset, .unset, .unset, .unset, .unset, .unset] [(.int (v163 + v161)), (.int v163), (.ref b191), (.int (v162 + v160)), (.int v162), (.ref b180)])) rfl (by rw [hml]; rfl) (argsL := [(.ref b180), (.int v162), (.int (v162 + v160)), (.ref b191), (.int v163), (.int (v163 + v161))]) (rest := []) (lenOf pd_1 rfl) rfl (by show 2 * 0 + _ ≤ _; exact Nat.le_of_eq rfl) (hb hby at_268) (fun _ _ => ⟨rfl, e207, (by decide : 4 + 0 ≤ _), (by decide : 16 + 0 ≤ _)⟩)
      dsimp only [Pt.U, Pt.locs, Pt.cells, Pt.slots] at X210 l210 y210 z210 st210 hQ210
      subst l210 y210 z210
      obtain ⟨rfl, N210q, e210⟩ := hQ210
      have N210 := Fr.app N207 N210q
      refine Go.st (U' := T210.setTop (mkF m 271 #[.val (.long q0), .second, .val (.long q1), .second, .val (.long q2), .second, .val (.long q3), .second, .val (.int p4), .val (.int v160), .val (.int v161), .val (.int v162), .val (.int v163), .val (.ref b164), .val (.ref b171), .val (.int v178), .val (.int v179), .val (.ref b180), .val (.ref b191), .unset, .unset, .unset, .unset, .unset, .unset, .unset, .unset, .unset] [(.int (fz v163 (v163 + v161)))])) (fun t k => st210 _ k) ?_
      refine Go.st (U' := T210.setTop (mkF m 273 #[.val (.long q0), .second, .val (.long q1), .second, .val (.long q2), .second, .val (.long q3), .second, .val (.int p4), .val (.int v160), .val (.int v161), .val (.int v162), .val (.int v163), .val (.ref b164), .val (.ref b171), .val (.int v178), .val (.int v179), .val (.ref b180), .val (.ref b191), .val (.int (fz v163 (v163 + v161))), .unset, .unset, .unset, .unset, .unset, .unset, .unset, .unset] [])) (fun t k => ?_) ?_
      · refine XS.istore X210.here hx rfl (hb hby at_271) rfl (l' := #[.val (.long q0), .second, .val (.long q1), .second, .val (.long q2), .second, .val (.long q3), .second, .val (.int p4), .val (.int v160), .val (.int v161), .val (.int v162), .val (.int v163), .val (.ref b164), .val (.ref b171), .val (.int v178), .val (.int v179), .val (.ref b180), .val (.ref b191), .val (.int (fz v163 (v163 + v161))), .unset, .unset, .unset, .unset, .unset, .unset, .unset, .unset]) rfl ?_
        exact k
      generalize hv_v211 : (fz v163 (v163 + v161)) = v211
      refine Go.st (U' := T210.setTop (mkF m 462 #[.val (.long q0), .second, .val (.long q1), .second, .val (.long q2), .second, .val (.long q3), .second, .val (.int p4), .val (.int v160), .val (.int v161), .val (.int v162), .val (.int v163), .val (.ref b164), .val (.ref b171), .val (.int v178), .val (.int v179), .val (.ref b180), .val (.ref b191), .val (.int v211), .val (.int (0 : Int32)), .unset, .unset, .unset, .unset, .unset, .unset, .unset] [(.int (1 : Int32))])) (fun t k => ?_) ?_
      · refine XS.iload X210.here hx rfl (hb hby at_273) rfl ?_
        refine XS.ifYes X210.here hx rfl (pc0 := 275) (pc' := 283) rfl (hb hby at_275) rfl ((if0 _ _).trans (teq (hla : v160 = (0 : Int32))).1) (by decide) (by decide) ?_
        refine XS.iload X210.here hx rfl (hb hby at_283) rfl ?_
        refine XS.ifNo X210.here hx rfl (hb hby at_285) rfl ((if0 _ _).trans (teq (hla : v160 = (0 : Int32))).2) ?_
        refine XS.iload X210.here hx rfl (hb hby at_288) rfl ?_
        refine XS.ifYes X210.here hx rfl (pc0 := 290) (pc' := 297) rfl (hb hby at_290) rfl ((if0 _ _).trans (feq (hlb : ¬ (v161 = (0 : Int32)))).2) (by decide) (by decide) ?_
        refine XS.iconst X210.here hx rfl (hb hby at_297) ?_
        refine XS.istore X210.here hx rfl (hb hby at_298) rfl (l' := #[.val (.long q0), .second, .val (.long q1), .second, .val (.long q2), .second, .val (.long q3), .second, .val (.int p4), .val (.int v160), .val (.int v161), .val (.int v162), .val (.int v163), .val (.ref b164), .val (.ref b171), .val (.int v178), .val (.int v179), .val (.ref b180), .val (.ref b191), .val (.int v211), .val (.int (0 : Int32)), .unset, .unset, .unset, .unset, .unset, .unset, .unset]) rfl ?_
        refine XS.goto X210.here hx rfl (pc0 := 300) (pc' := 450) rfl (hb hby at_300) (by decide) (by decide) ?_
        refine XS.iload X210.here hx rfl (hb hby at_450) rfl ?_
        refine XS.iload X210.here hx rfl (hb hby at_452) rfl ?_
        refine XS.icmpNo X210.here hx rfl (hb hby at_454) rfl (teq ((by subst hv_v211; exact own_fz0 v163 v161 hct.2.2.2 hct.2.1 hlb) : v211 = (0 : Int32))).2 ?_
        refine XS.iconst X210.here hx rfl (hb hby at_457) ?_
        refine XS.goto X210.here hx rfl (pc0 := 458) (pc' := 462) rfl (hb hby at_458) (by decide) (by decide) ?_
        exact k
      refine own_ret (Q := Q0 Z q0 q1 q2 q3 p4 h0 n0) (v := some (.int (1 : Int32))) X210 hlk (fun h => by rw [hrt] at h; cases h) (by decide) (by decide) ?_ (fun fs hr => retN X210 hx (t := .boolean) hrt (by simp) (hb hby at_462) hr)
      rw [e210]
      exact ⟨rfl, N210⟩
  · by_cases hlb : v161 = (0 : Int32)
    · refine Go.st (U' := T207.setTop (mkF m 268 #[.val (.long q0), .second, .val (.long q1), .second, .val (.long q2), .second, .val (.long q3), .second, .val (.int p4), .val (.int v160), .val (.int v161), .val (.int v162), .val (.int v163), .val (.ref b164), .val (.ref b171), .val (.int v178), .val (.int v179), .val (.ref b180), .val (.ref b191), .unset, .unset, .unset, .unset, .unset, .unset, .unset, .unset, .unset] [(.int (v163 + v161)), (.int v163), (.ref b191), (.int (v162 + v160)), (.int v162), (.ref b180)])) (fun t k => ?_) ?_
      · refine XS.aload X207.here hx rfl (hb hby at_250) rfl rfl ?_
        refine XS.iload X207.here hx rfl (hb hby at_252) rfl ?_
        refine XS.iload X207.here hx rfl (hb hby at_254) rfl ?_
        refine XS.iload X207.here hx rfl (hb hby at_256) rfl ?_
        refine XS.iadd X207.here hx rfl (hb hby at_258) rfl ?_
        refine XS.aload X207.here hx rfl (hb hby at_259) rfl rfl ?_
        refine XS.iload X207.here hx rfl (hb hby at_261) rfl ?_
        refine XS.iload X207.here hx rfl (hb hby at_263) rfl ?_
        refine XS.iload X207.here hx rfl (hb hby at_265) rfl ?_
        refine XS.iadd X207.here hx rfl (hb hby at_267) rfl ?_
        exact k
      obtain ⟨_, _, ⟨T212, L212, k212, n212⟩, -, X212, ⟨Lc212, hQ212, l212, y212, z212⟩, st212⟩ := Jvm.LawKit.callS X207 hx (y := own_y0) hown (mvT hZ (own_w hw 1 rfl)) (mvT hZ (own_w hw 2 rfl)) (mvT hZ (own_w hw 3 rfl)) (mvT hZ (own_w hw 4 rfl)) (by decide) (backOf (W := 0) (rmay l Z a0 hw [] b180 v162 (v162 + v160) b191 v163 (v163 + v161) h207 n0 sz207 (own_nto hct.2.2.1 hct.1 hla) (by rw [hlb, Int32.add_zero]; exact Int32.sub_self _)) hZ (own_w hw 4 rfl) (own_w hw 3 rfl) (by decide) (by decide)) (g := (mkF m 268 #[.val (.long q0), .second, .val (.long q1), .second, .val (.long q2), .second, .val (.long q3), .second, .val (.int p4), .val (.int v160), .val (.int v161), .val (.int v162), .val (.int v163), .val (.ref b164), .val (.ref b171), .val (.int v178), .val (.int v179), .val (.ref b180), .val (.ref b191), .unset, .unset, .unset, .unset, .unset, .unset, .unset, .unset, .unset] [(.int (v163 + v161)), (.int v163), (.ref b191), (.int (v162 + v160)), (.int v162), (.ref b180)])) rfl (by rw [hml]; rfl) (argsL := [(.ref b180), (.int v162), (.int (v162 + v160)), (.ref b191), (.int v163), (.int (v163 + v161))]) (rest := []) (lenOf pd_1 rfl) rfl (by show 2 * 0 + _ ≤ _; exact Nat.le_of_eq rfl) (hb hby at_268) (fun _ _ => ⟨rfl, e207, (by decide : 4 + 0 ≤ _), (by decide : 16 + 0 ≤ _)⟩)
      dsimp only [Pt.U, Pt.locs, Pt.cells, Pt.slots] at X212 l212 y212 z212 st212 hQ212
      subst l212 y212 z212
      obtain ⟨rfl, N212q, e212⟩ := hQ212
      have N212 := Fr.app N207 N212q
      refine Go.st (U' := T212.setTop (mkF m 271 #[.val (.long q0), .second, .val (.long q1), .second, .val (.long q2), .second, .val (.long q3), .second, .val (.int p4), .val (.int v160), .val (.int v161), .val (.int v162), .val (.int v163), .val (.ref b164), .val (.ref b171), .val (.int v178), .val (.int v179), .val (.ref b180), .val (.ref b191), .unset, .unset, .unset, .unset, .unset, .unset, .unset, .unset, .unset] [(.int (fy ))])) (fun t k => st212 _ k) ?_
      refine Go.st (U' := T212.setTop (mkF m 273 #[.val (.long q0), .second, .val (.long q1), .second, .val (.long q2), .second, .val (.long q3), .second, .val (.int p4), .val (.int v160), .val (.int v161), .val (.int v162), .val (.int v163), .val (.ref b164), .val (.ref b171), .val (.int v178), .val (.int v179), .val (.ref b180), .val (.ref b191), .val (.int (fy )), .unset, .unset, .unset, .unset, .unset, .unset, .unset, .unset] [])) (fun t k => ?_) ?_
      · refine XS.istore X212.here hx rfl (hb hby at_271) rfl (l' := #[.val (.long q0), .second, .val (.long q1), .second, .val (.long q2), .second, .val (.long q3), .second, .val (.int p4), .val (.int v160), .val (.int v161), .val (.int v162), .val (.int v163), .val (.ref b164), .val (.ref b171), .val (.int v178), .val (.int v179), .val (.ref b180), .val (.ref b191), .val (.int (fy )), .unset, .unset, .unset, .unset, .unset, .unset, .unset, .unset]) rfl ?_
        exact k
      generalize hv_v213 : (fy ) = v213
      refine Go.st (U' := T212.setTop (mkF m 462 #[.val (.long q0), .second, .val (.long q1), .second, .val (.long q2), .second, .val (.long q3), .second, .val (.int p4), .val (.int v160), .val (.int v161), .val (.int v162), .val (.int v163), .val (.ref b164), .val (.ref b171), .val (.int v178), .val (.int v179), .val (.ref b180), .val (.ref b191), .val (.int v213), .val (.int (0 : Int32)), .unset, .unset, .unset, .unset, .unset, .unset, .unset] [(.int (1 : Int32))])) (fun t k => ?_) ?_
      · refine XS.iload X212.here hx rfl (hb hby at_273) rfl ?_
        refine XS.ifNo X212.here hx rfl (hb hby at_275) rfl ((if0 _ _).trans (feq (hla : ¬ (v160 = (0 : Int32)))).1) ?_
        refine XS.iload X212.here hx rfl (hb hby at_278) rfl ?_
        refine XS.ifNo X212.here hx rfl (hb hby at_280) rfl ((if0 _ _).trans (teq (hlb : v161 = (0 : Int32))).2) ?_
        refine XS.iload X212.here hx rfl (hb hby at_283) rfl ?_
        refine XS.ifYes X212.here hx rfl (pc0 := 285) (pc' := 297) rfl (hb hby at_285) rfl ((if0 _ _).trans (feq (hla : ¬ (v160 = (0 : Int32)))).2) (by decide) (by decide) ?_
        refine XS.iconst X212.here hx rfl (hb hby at_297) ?_
        refine XS.istore X212.here hx rfl (hb hby at_298) rfl (l' := #[.val (.long q0), .second, .val (.long q1), .second, .val (.long q2), .second, .val (.long q3), .second, .val (.int p4), .val (.int v160), .val (.int v161), .val (.int v162), .val (.int v163), .val (.ref b164), .val (.ref b171), .val (.int v178), .val (.int v179), .val (.ref b180), .val (.ref b191), .val (.int v213), .val (.int (0 : Int32)), .unset, .unset, .unset, .unset, .unset, .unset, .unset]) rfl ?_
        refine XS.goto X212.here hx rfl (pc0 := 300) (pc' := 450) rfl (hb hby at_300) (by decide) (by decide) ?_
        refine XS.iload X212.here hx rfl (hb hby at_450) rfl ?_
        refine XS.iload X212.here hx rfl (hb hby at_452) rfl ?_
        refine XS.icmpNo X212.here hx rfl (hb hby at_454) rfl (teq ((by subst hv_v213; rfl) : v213 = (0 : Int32))).2 ?_
        refine XS.iconst X212.here hx rfl (hb hby at_457) ?_
        refine XS.goto X212.here hx rfl (pc0 := 458) (pc' := 462) rfl (hb hby at_458) (by decide) (by decide) ?_
        exact k
      refine own_ret (Q := Q0 Z q0 q1 q2 q3 p4 h0 n0) (v := some (.int (1 : Int32))) X212 hlk (fun h => by rw [hrt] at h; cases h) (by decide) (by decide) ?_ (fun fs hr => retN X212 hx (t := .boolean) hrt (by simp) (hb hby at_462) hr)
      rw [e212]
      exact ⟨rfl, N212⟩
    · refine Go.st (U' := T207.setTop (mkF m 268 #[.val (.long q0), .second, .val (.long q1), .second, .val (.long q2), .second, .val (.long q3), .second, .val (.int p4), .val (.int v160), .val (.int v161), .val (.int v162), .val (.int v163), .val (.ref b164), .val (.ref b171), .val (.int v178), .val (.int v179), .val (.ref b180), .val (.ref b191), .unset, .unset, .unset, .unset, .unset, .unset, .unset, .unset, .unset] [(.int (v163 + v161)), (.int v163), (.ref b191), (.int (v162 + v160)), (.int v162), (.ref b180)])) (fun t k => ?_) ?_
      · refine XS.aload X207.here hx rfl (hb hby at_250) rfl rfl ?_
        refine XS.iload X207.here hx rfl (hb hby at_252) rfl ?_
        refine XS.iload X207.here hx rfl (hb hby at_254) rfl ?_
        refine XS.iload X207.here hx rfl (hb hby at_256) rfl ?_
        refine XS.iadd X207.here hx rfl (hb hby at_258) rfl ?_
        refine XS.aload X207.here hx rfl (hb hby at_259) rfl rfl ?_
        refine XS.iload X207.here hx rfl (hb hby at_261) rfl ?_
        refine XS.iload X207.here hx rfl (hb hby at_263) rfl ?_
        refine XS.iload X207.here hx rfl (hb hby at_265) rfl ?_
        refine XS.iadd X207.here hx rfl (hb hby at_267) rfl ?_
        exact k
      obtain ⟨_, _, ⟨T214, L214, k214, n214⟩, -, X214, ⟨Lc214, hQ214, l214, y214, z214⟩, st214⟩ := Jvm.LawKit.callS X207 hx (y := own_y0) hown (mvT hZ (own_w hw 1 rfl)) (mvT hZ (own_w hw 2 rfl)) (mvT hZ (own_w hw 3 rfl)) (mvT hZ (own_w hw 4 rfl)) (by decide) (backOf (W := 0) (rmam l Z a0 hw [] b180 v162 (v162 + v160) b191 v163 (v163 + v161) k180 k191 Lx204 Lx207 h207 n0 sz207 VA207 VB207 (own_nto hct.2.2.1 hct.1 hla) (own_bd v160 v161 v162 v163 hct.1 hct.2.1 hct.2.2.1 hct.2.2.2 hla hlb).1 (own_bd v160 v161 v162 v163 hct.1 hct.2.1 hct.2.2.1 hct.2.2.2 hla hlb).2.1 (own_bd v160 v161 v162 v163 hct.1 hct.2.1 hct.2.2.1 hct.2.2.2 hla hlb).2.2.1 (own_bd v160 v161 v162 v163 hct.1 hct.2.1 hct.2.2.1 hct.2.2.2 hla hlb).2.2.2.1 (own_bd v160 v161 v162 v163 hct.1 hct.2.1 hct.2.2.1 hct.2.2.2 hla hlb).2.2.2.2.1 (own_bd v160 v161 v162 v163 hct.1 hct.2.1 hct.2.2.1 hct.2.2.2 hla hlb).2.2.2.2.2.1 (own_bd v160 v161 v162 v163 hct.1 hct.2.1 hct.2.2.1 hct.2.2.2 hla hlb).2.2.2.2.2.2.1 (own_bd v160 v161 v162 v163 hct.1 hct.2.1 hct.2.2.1 hct.2.2.2 hla hlb).2.2.2.2.2.2.2.1 (own_bd v160 v161 v162 v163 hct.1 hct.2.1 hct.2.2.1 hct.2.2.2 hla hlb).2.2.2.2.2.2.2.2) hZ (own_w hw 4 rfl) (own_w hw 3 rfl) (by decide) (by decide)) (g := (mkF m 268 #[.val (.long q0), .second, .val (.long q1), .second, .val (.long q2), .second, .val (.long q3), .second, .val (.int p4), .val (.int v160), .val (.int v161), .val (.int v162), .val (.int v163), .val (.ref b164), .val (.ref b171), .val (.int v178), .val (.int v179), .val (.ref b180), .val (.ref b191), .unset, .unset, .unset, .unset, .unset, .unset, .unset, .unset, .unset] [(.int (v163 + v161)), (.int v163), (.ref b191), (.int (v162 + v160)), (.int v162), (.ref b180)])) rfl (by rw [hml]; rfl) (argsL := [(.ref b180), (.int v162), (.int (v162 + v160)), (.ref b191), (.int v163), (.int (v163 + v161))]) (rest := []) (lenOf pd_1 rfl) rfl (by show 2 * 0 + _ ≤ _; exact Nat.le_of_eq rfl) (hb hby at_268) (fun _ _ => ⟨rfl, e207, (by decide : 4 + 1 ≤ _), (by decide : 16 + 3 ≤ _)⟩)
      dsimp only [Pt.U, Pt.locs, Pt.cells, Pt.slots] at X214 l214 y214 z214 st214 hQ214
      subst l214 y214 z214
      obtain ⟨rfl, N214q, K214⟩ := hQ214
      have VX_214 := VX207.keep K214 nin0
      have VY_214 := VY207.keep K214 nin0
      have VA207_214 := VA207.keep K214 nin0
      have VB207_214 := VB207.keep K214 nin0
      have sz214 : n0 ≤ T214.heap.size := Nat.le_trans sz207 K214.1
      have N214 := Fr.app N207 N214q
      refine Go.st (U' := T214.setTop (mkF m 271 #[.val (.long q0), .second, .val (.long q1), .second, .val (.long q2), .second, .val (.long q3), .second, .val (.int p4), .val (.int v160), .val (.int v161), .val (.int v162), .val (.int v163), .val (.ref b164), .val (.ref b171), .val (.int v178), .val (.int v179), .val (.ref b180), .val (.ref b191), .unset, .unset, .unset, .unset, .unset, .unset, .unset, .unset, .unset] [(.int (own_got Lx204 Lx207 v162 (v162 + v160) v163 (v163 + v161)))])) (fun t k => st214 _ k) ?_
      refine Go.st (U' := T214.setTop (mkF m 273 #[.val (.long q0), .second, .val (.long q1), .second, .val (.long q2), .second, .val (.long q3), .second, .val (.int p4), .val (.int v160), .val (.int v161), .val (.int v162), .val (.int v163), .val (.ref b164), .val (.ref b171), .val (.int v178), .val (.int v179), .val (.ref b180), .val (.ref b191), .val (.int (own_got Lx204 Lx207 v162 (v162 + v160) v163 (v163 + v161))), .unset, .unset, .unset, .unset, .unset, .unset, .unset, .unset] [])) (fun t k => ?_) ?_
      · refine XS.istore X214.here hx rfl (hb hby at_271) rfl (l' := #[.val (.long q0), .second, .val (.long q1), .second, .val (.long q2), .second, .val (.long q3), .second, .val (.int p4), .val (.int v160), .val (.int v161), .val (.int v162), .val (.int v163), .val (.ref b164), .val (.ref b171), .val (.int v178), .val (.int v179), .val (.ref b180), .val (.ref b191), .val (.int (own_got Lx204 Lx207 v162 (v162 + v160) v163 (v163 + v161))), .unset, .unset, .unset, .unset, .unset, .unset, .unset, .unset]) rfl ?_
        exact k
      generalize hv_v215 : (own_got Lx204 Lx207 v162 (v162 + v160) v163 (v163 + v161)) = v215
      refine Go.st (U' := T214.setTop (mkF m 313 #[.val (.long q0), .second, .val (.long q1), .second, .val (.long q2), .second, .val (.long q3), .second, .val (.int p4), .val (.int v160), .val (.int v161), .val (.int v162), .val (.int v163), .val (.ref b164), .val (.ref b171), .val (.int v178), .val (.int v179), .val (.ref b180), .val (.ref b191), .val (.int v215), .unset, .unset, .unset, .unset, .unset, .unset, .unset, .unset] [(.int (0 : Int32)), (.int (0 : Int32)), (.int v161), (.ref b171), (.int v160), (.ref b164)])) (fun t k => ?_) ?_
      · refine XS.iload X214.here hx rfl (hb hby at_273) rfl ?_
        refine XS.ifNo X214.here hx rfl (hb hby at_275) rfl ((if0 _ _).trans (feq (hla : ¬ (v160 = (0 : Int32)))).1) ?_
        refine XS.iload X214.here hx rfl (hb hby at_278) rfl ?_
        refine XS.ifYes X214.here hx rfl (pc0 := 280) (pc' := 303) rfl (hb hby at_280) rfl ((if0 _ _).trans (feq (hlb : ¬ (v161 = (0 : Int32)))).2) (by decide) (by decide) ?_
        refine XS.aload X214.here hx rfl (hb hby at_303) rfl rfl ?_
        refine XS.iload X214.here hx rfl (hb hby at_305) rfl ?_
        refine XS.aload X214.here hx rfl (hb hby at_307) rfl rfl ?_
        refine XS.iload X214.here hx rfl (hb hby at_309) rfl ?_
        refine XS.iconst X214.here hx rfl (hb hby at_311) ?_
        refine XS.iconst X214.here hx rfl (hb hby at_312) ?_
        exact k
      obtain ⟨_, _, ⟨T216, L216, k216, n216⟩, -, X216, ⟨Lc216, hQ216, l216, y216, z216⟩, st216⟩ := Jvm.LawKit.callS X214 hx (y := own_y2) hown (mvT hZ (own_w hw 6 rfl)) (mvT hZ (own_w hw 7 rfl)) (mvT hZ (own_w hw 8 rfl)) (mvT hZ (own_w hw 9 rfl)) (by decide) (backOf (W := 0) (rmc l Z a0 hw [] b164 v160 b171 v161 (0 : Int32) (0 : Int32) k164 k171 (((q0.toUInt64 >>> ((32 : Int32) &&& 0x3f).toInt64.toUInt64).toInt64).toInt32) (q0.toInt32) (((q2.toUInt64 >>> ((32 : Int32) &&& 0x3f).toInt64.toUInt64).toInt64).toInt32) (((q1.toUInt64 >>> ((32 : Int32) &&& 0x3f).toInt64.toUInt64).toInt64).toInt32) (q1.toInt32) (q2.toInt32) T214.heap n0 sz214 VX_214 VY_214 (own_mn (0 : Int32) v160 hct.1 hla (by decide) (by decide)) (own_mn (0 : Int32) v161 hct.2.1 hlb (by decide) (by decide))) hZ (own_w hw 9 rfl) (own_w hw 8 rfl) (by decide) (by decide)) (g := (mkF m 313 #[.val (.long q0), .second, .val (.long q1), .second, .val (.long q2), .second, .val (.long q3), .second, .val (.int p4), .val (.int v160), .val (.int v161), .val (.int v162), .val (.int v163), .val (.ref b164), .val (.ref b171), .val (.int v178), .val (.int v179), .val (.ref b180), .val (.ref b191), .val (.int v215), .unset, .unset, .unset, .unset, .unset, .unset, .unset, .unset] [(.int (0 : Int32)), (.int (0 : Int32)), (.int v161), (.ref b171), (.int v160), (.ref b164)])) rfl (by rw [hml]; rfl) (argsL := [(.ref b164), (.int v160), (.ref b171), (.int v161), (.int (0 : Int32)), (.int (0 : Int32))]) (rest := []) (lenOf pd_2 rfl) rfl (by show 2 * 0 + _ ≤ _; exact Nat.le_of_eq rfl) (hb hby at_313) (fun _ _ => ⟨rfl, rfl, (by decide : 5 + 0 ≤ _), (by decide : 19 + 0 ≤ _)⟩)
      dsimp only [Pt.U, Pt.locs, Pt.cells, Pt.slots] at X216 l216 y216 z216 st216 hQ216
      subst l216 y216 z216
      obtain ⟨rfl, N216q, e216⟩ := hQ216
      have N216 := Fr.app N214 N216q
      refine Go.st (U' := T216.setTop (mkF m 316 #[.val (.long q0), .second, .val (.long q1), .second, .val (.long q2), .second, .val (.long q3), .second, .val (.int p4), .val (.int v160), .val (.int v161), .val (.int v162), .val (.int v163), .val (.ref b164), .val (.ref b171), .val (.int v178), .val (.int v179), .val (.ref b180), .val (.ref b191), .val (.int v215), .unset, .unset, .unset, .unset, .unset, .unset, .unset, .unset] [(.int (fC (((q0.toUInt64 >>> ((32 : Int32) &&& 0x3f).toInt64.toUInt64).toInt64).toInt32) (q0.toInt32) (((q2.toUInt64 >>> ((32 : Int32) &&& 0x3f).toInt64.toUInt64).toInt64).toInt32) v160 (((q1.toUInt64 >>> ((32 : Int32) &&& 0x3f).toInt64.toUInt64).toInt64).toInt32) (q1.toInt32) (q2.toInt32) v161 (0 : Int32) (0 : Int32)))])) (fun t k => st216 _ k) ?_
      refine Go.st (U' := T216.setTop (mkF m 318 #[.val (.long q0), .second, .val (.long q1), .second, .val (.long q2), .second, .val (.long q3), .second, .val (.int p4), .val (.int v160), .val (.int v161), .val (.int v162), .val (.int v163), .val (.ref b164), .val (.ref b171), .val (.int v178), .val (.int v179), .val (.ref b180), .val (.ref b191), .val (.int v215), .unset, .val (.int (fC (((q0.toUInt64 >>> ((32 : Int32) &&& 0x3f).toInt64.toUInt64).toInt64).toInt32) (q0.toInt32) (((q2.toUInt64 >>> ((32 : Int32) &&& 0x3f).toInt64.toUInt64).toInt64).toInt32) v160 (((q1.toUInt64 >>> ((32 : Int32) &&& 0x3f).toInt64.toUInt64).toInt64).toInt32) (q1.toInt32) (q2.toInt32) v161 (0 : Int32) (0 : Int32))), .unset, .unset, .unset, .unset, .unset, .unset] [])) (fun t k => ?_) ?_
      · refine XS.istore X216.here hx rfl (hb hby at_316) rfl (l' := #[.val (.long q0), .second, .val (.long q1), .second, .val (.long q2), .second, .val (.long q3), .second, .val (.int p4), .val (.int v160), .val (.int v161), .val (.int v162), .val (.int v163), .val (.ref b164), .val (.ref b171), .val (.int v178), .val (.int v179), .val (.ref b180), .val (.ref b191), .val (.int v215), .unset, .val (.int (fC (((q0.toUInt64 >>> ((32 : Int32) &&& 0x3f).toInt64.toUInt64).toInt64).toInt32) (q0.toInt32) (((q2.toUInt64 >>> ((32 : Int32) &&& 0x3f).toInt64.toUInt64).toInt64).toInt32) v160 (((q1.toUInt64 >>> ((32 : Int32) &&& 0x3f).toInt64.toUInt64).toInt64).toInt32) (q1.toInt32) (q2.toInt32) v161 (0 : Int32) (0 : Int32))), .unset, .unset, .unset, .unset, .unset, .unset]) rfl ?_
        exact k
      generalize hv_v217 : (fC (((q0.toUInt64 >>> ((32 : Int32) &&& 0x3f).toInt64.toUInt64).toInt64).toInt32) (q0.toInt32) (((q2.toUInt64 >>> ((32 : Int32) &&& 0x3f).toInt64.toUInt64).toInt64).toInt32) v160 (((q1.toUInt64 >>> ((32 : Int32) &&& 0x3f).toInt64.toUInt64).toInt64).toInt32) (q1.toInt32) (q2.toInt32) v161 (0 : Int32) (0 : Int32)) = v217
      refine Go.st (U' := T216.setTop (mkF m 328 #[.val (.long q0), .second, .val (.long q1), .second, .val (.long q2), .second, .val (.long q3), .second, .val (.int p4), .val (.int v160), .val (.int v161), .val (.int v162), .val (.int v163), .val (.ref b164), .val (.ref b171), .val (.int v178), .val (.int v179), .val (.ref b180), .val (.ref b191), .val (.int v215), .unset, .val (.int v217), .unset, .unset, .unset, .unset, .unset, .unset] [(.int (2 : Int32)), (.int (2 : Int32)), (.int v161), (.ref b171), (.int v160), (.ref b164)])) (fun t k => ?_) ?_
      · refine XS.aload X216.here hx rfl (hb hby at_318) rfl rfl ?_
        refine XS.iload X216.here hx rfl (hb hby at_320) rfl ?_
        refine XS.aload X216.here hx rfl (hb hby at_322) rfl rfl ?_
        refine XS.iload X216.here hx rfl (hb hby at_324) rfl ?_
        refine XS.iconst X216.here hx rfl (hb hby at_326) ?_
        refine XS.iconst X216.here hx rfl (hb hby at_327) ?_
        exact k
      obtain ⟨_, _, ⟨T218, L218, k218, n218⟩, -, X218, ⟨Lc218, hQ218, l218, y218, z218⟩, st218⟩ := Jvm.LawKit.callS X216 hx (y := own_y2) hown (mvT hZ (own_w hw 6 rfl)) (mvT hZ (own_w hw 7 rfl)) (mvT hZ (own_w hw 8 rfl)) (mvT hZ (own_w hw 9 rfl)) (by decide) (backOf (W := 0) (rmc l Z a0 hw [] b164 v160 b171 v161 (2 : Int32) (2 : Int32) k164 k171 (((q0.toUInt64 >>> ((32 : Int32) &&& 0x3f).toInt64.toUInt64).toInt64).toInt32) (q0.toInt32) (((q2.toUInt64 >>> ((32 : Int32) &&& 0x3f).toInt64.toUInt64).toInt64).toInt32) (((q1.toUInt64 >>> ((32 : Int32) &&& 0x3f).toInt64.toUInt64).toInt64).toInt32) (q1.toInt32) (q2.toInt32) T214.heap n0 sz214 VX_214 VY_214 (own_mn (2 : Int32) v160 hct.1 hla (by decide) (by decide)) (own_mn (2 : Int32) v161 hct.2.1 hlb (by decide) (by decide))) hZ (own_w hw 9 rfl) (own_w hw 8 rfl) (by decide) (by decide)) (g := (mkF m 328 #[.val (.long q0), .second, .val (.long q1), .second, .val (.long q2), .second, .val (.long q3), .second, .val (.int p4), .val (.int v160), .val (.int v161), .val (.int v162), .val (.int v163), .val (.ref b164), .val (.ref b171), .val (.int v178), .val (.int v179), .val (.ref b180), .val (.ref b191), .val (.int v215), .unset, .val (.int v217), .unset, .unset, .unset, .unset, .unset, .unset] [(.int (2 : Int32)), (.int (2 : Int32)), (.int v161), (.ref b171), (.int v160), (.ref b164)])) rfl (by rw [hml]; rfl) (argsL := [(.ref b164), (.int v160), (.ref b171), (.int v161), (.int (2 : Int32)), (.int (2 : Int32))]) (rest := []) (lenOf pd_2 rfl) rfl (by show 2 * 0 + _ ≤ _; exact Nat.le_of_eq rfl) (hb hby at_328) (fun _ _ => ⟨rfl, e216, (by decide : 5 + 0 ≤ _), (by decide : 19 + 0 ≤ _)⟩)
      dsimp only [Pt.U, Pt.locs, Pt.cells, Pt.slots] at X218 l218 y218 z218 st218 hQ218
      subst l218 y218 z218
      obtain ⟨rfl, N218q, e218⟩ := hQ218
      have N218 := Fr.app N216 N218q
      refine Go.st (U' := T218.setTop (mkF m 331 #[.val (.long q0), .second, .val (.long q1), .second, .val (.long q2), .second, .val (.long q3), .second, .val (.int p4), .val (.int v160), .val (.int v161), .val (.int v162), .val (.int v163), .val (.ref b164), .val (.ref b171), .val (.int v178), .val (.int v179), .val (.ref b180), .val (.ref b191), .val (.int v215), .unset, .val (.int v217), .unset, .unset, .unset, .unset, .unset, .unset] [(.int (fC (((q0.toUInt64 >>> ((32 : Int32) &&& 0x3f).toInt64.toUInt64).toInt64).toInt32) (q0.toInt32) (((q2.toUInt64 >>> ((32 : Int32) &&& 0x3f).toInt64.toUInt64).toInt64).toInt32) v160 (((q1.toUInt64 >>> ((32 : Int32) &&& 0x3f).toInt64.toUInt64).toInt64).toInt32) (q1.toInt32) (q2.toInt32) v161 (2 : Int32) (2 : Int32)))])) (fun t k => st218 _ k) ?_
      refine Go.st (U' := T218.setTop (mkF m 333 #[.val (.long q0), .second, .val (.long q1), .second, .val (.long q2), .second, .val (.long q3), .second, .val (.int p4), .val (.int v160), .val (.int v161), .val (.int v162), .val (.int v163), .val (.ref b164), .val (.ref b171), .val (.int v178), .val (.int v179), .val (.ref b180), .val (.ref b191), .val (.int v215), .unset, .val (.int v217), .val (.int (fC (((q0.toUInt64 >>> ((32 : Int32) &&& 0x3f).toInt64.toUInt64).toInt64).toInt32) (q0.toInt32) (((q2.toUInt64 >>> ((32 : Int32) &&& 0x3f).toInt64.toUInt64).toInt64).toInt32) v160 (((q1.toUInt64 >>> ((32 : Int32) &&& 0x3f).toInt64.toUInt64).toInt64).toInt32) (q1.toInt32) (q2.toInt32) v161 (2 : Int32) (2 : Int32))), .unset, .unset, .unset, .unset, .unset] [])) (fun t k => ?_) ?_
      · refine XS.istore X218.here hx rfl (hb hby at_331) rfl (l' := #[.val (.long q0), .second, .val (.long q1), .second, .val (.long q2), .second, .val (.long q3), .second, .val (.int p4), .val (.int v160), .val (.int v161), .val (.int v162), .val (.int v163), .val (.ref b164), .val (.ref b171), .val (.int v178), .val (.int v179), .val (.ref b180), .val (.ref b191), .val (.int v215), .unset, .val (.int v217), .val (.int (fC (((q0.toUInt64 >>> ((32 : Int32) &&& 0x3f).toInt64.toUInt64).toInt64).toInt32) (q0.toInt32) (((q2.toUInt64 >>> ((32 : Int32) &&& 0x3f).toInt64.toUInt64).toInt64).toInt32) v160 (((q1.toUInt64 >>> ((32 : Int32) &&& 0x3f).toInt64.toUInt64).toInt64).toInt32) (q1.toInt32) (q2.toInt32) v161 (2 : Int32) (2 : Int32))), .unset, .unset, .unset, .unset, .unset]) rfl ?_
        exact k
      generalize hv_v219 : (fC (((q0.toUInt64 >>> ((32 : Int32) &&& 0x3f).toInt64.toUInt64).toInt64).toInt32) (q0.toInt32) (((q2.toUInt64 >>> ((32 : Int32) &&& 0x3f).toInt64.toUInt64).toInt64).toInt32) v160 (((q1.toUInt64 >>> ((32 : Int32) &&& 0x3f).toInt64.toUInt64).toInt64).toInt32) (q1.toInt32) (q2.toInt32) v161 (2 : Int32) (2 : Int32)) = v219
      refine Go.st (U' := T218.setTop (mkF m 343 #[.val (.long q0), .second, .val (.long q1), .second, .val (.long q2), .second, .val (.long q3), .second, .val (.int p4), .val (.int v160), .val (.int v161), .val (.int v162), .val (.int v163), .val (.ref b164), .val (.ref b171), .val (.int v178), .val (.int v179), .val (.ref b180), .val (.ref b191), .val (.int v215), .unset, .val (.int v217), .val (.int v219), .unset, .unset, .unset, .unset, .unset] [(.int (1 : Int32)), (.int (1 : Int32)), (.int v161), (.ref b171), (.int v160), (.ref b164)])) (fun t k => ?_) ?_
      · refine XS.aload X218.here hx rfl (hb hby at_333) rfl rfl ?_
        refine XS.iload X218.here hx rfl (hb hby at_335) rfl ?_
        refine XS.aload X218.here hx rfl (hb hby at_337) rfl rfl ?_
        refine XS.iload X218.here hx rfl (hb hby at_339) rfl ?_
        refine XS.iconst X218.here hx rfl (hb hby at_341) ?_
        refine XS.iconst X218.here hx rfl (hb hby at_342) ?_
        exact k
      obtain ⟨_, _, ⟨T220, L220, k220, n220⟩, -, X220, ⟨Lc220, hQ220, l220, y220, z220⟩, st220⟩ := Jvm.LawKit.callS X218 hx (y := own_y2) hown (mvT hZ (own_w hw 6 rfl)) (mvT hZ (own_w hw 7 rfl)) (mvT hZ (own_w hw 8 rfl)) (mvT hZ (own_w hw 9 rfl)) (by decide) (backOf (W := 0) (rmc l Z a0 hw [] b164 v160 b171 v161 (1 : Int32) (1 : Int32) k164 k171 (((q0.toUInt64 >>> ((32 : Int32) &&& 0x3f).toInt64.toUInt64).toInt64).toInt32) (q0.toInt32) (((q2.toUInt64 >>> ((32 : Int32) &&& 0x3f).toInt64.toUInt64).toInt64).toInt32) (((q1.toUInt64 >>> ((32 : Int32) &&& 0x3f).toInt64.toUInt64).toInt64).toInt32) (q1.toInt32) (q2.toInt32) T214.heap n0 sz214 VX_214 VY_214 (own_mn (1 : Int32) v160 hct.1 hla (by decide) (by decide)) (own_mn (1 : Int32) v161 hct.2.1 hlb (by decide) (by decide))) hZ (own_w hw 9 rfl) (own_w hw 8 rfl) (by decide) (by decide)) (g := (mkF m 343 #[.val (.long q0), .second, .val (.long q1), .second, .val (.long q2), .second, .val (.long q3), .second, .val (.int p4), .val (.int v160), .val (.int v161), .val (.int v162), .val (.int v163), .val (.ref b164), .val (.ref b171), .val (.int v178), .val (.int v179), .val (.ref b180), .val (.ref b191), .val (.int v215), .unset, .val (.int v217), .val (.int v219), .unset, .unset, .unset, .unset, .unset] [(.int (1 : Int32)), (.int (1 : Int32)), (.int v161), (.ref b171), (.int v160), (.ref b164)])) rfl (by rw [hml]; rfl) (argsL := [(.ref b164), (.int v160), (.ref b171), (.int v161), (.int (1 : Int32)), (.int (1 : Int32))]) (rest := []) (lenOf pd_2 rfl) rfl (by show 2 * 0 + _ ≤ _; exact Nat.le_of_eq rfl) (hb hby at_343) (fun _ _ => ⟨rfl, e218, (by decide : 5 + 0 ≤ _), (by decide : 19 + 0 ≤ _)⟩)
      dsimp only [Pt.U, Pt.locs, Pt.cells, Pt.slots] at X220 l220 y220 z220 st220 hQ220
      subst l220 y220 z220
      obtain ⟨rfl, N220q, e220⟩ := hQ220
      have N220 := Fr.app N218 N220q
      refine Go.st (U' := T220.setTop (mkF m 346 #[.val (.long q0), .second, .val (.long q1), .second, .val (.long q2), .second, .val (.long q3), .second, .val (.int p4), .val (.int v160), .val (.int v161), .val (.int v162), .val (.int v163), .val (.ref b164), .val (.ref b171), .val (.int v178), .val (.int v179), .val (.ref b180), .val (.ref b191), .val (.int v215), .unset, .val (.int v217), .val (.int v219), .unset, .unset, .unset, .unset, .unset] [(.int (fC (((q0.toUInt64 >>> ((32 : Int32) &&& 0x3f).toInt64.toUInt64).toInt64).toInt32) (q0.toInt32) (((q2.toUInt64 >>> ((32 : Int32) &&& 0x3f).toInt64.toUInt64).toInt64).toInt32) v160 (((q1.toUInt64 >>> ((32 : Int32) &&& 0x3f).toInt64.toUInt64).toInt64).toInt32) (q1.toInt32) (q2.toInt32) v161 (1 : Int32) (1 : Int32)))])) (fun t k => st220 _ k) ?_
      refine Go.st (U' := T220.setTop (mkF m 348 #[.val (.long q0), .second, .val (.long q1), .second, .val (.long q2), .second, .val (.long q3), .second, .val (.int p4), .val (.int v160), .val (.int v161), .val (.int v162), .val (.int v163), .val (.ref b164), .val (.ref b171), .val (.int v178), .val (.int v179), .val (.ref b180), .val (.ref b191), .val (.int v215), .unset, .val (.int v217), .val (.int v219), .val (.int (fC (((q0.toUInt64 >>> ((32 : Int32) &&& 0x3f).toInt64.toUInt64).toInt64).toInt32) (q0.toInt32) (((q2.toUInt64 >>> ((32 : Int32) &&& 0x3f).toInt64.toUInt64).toInt64).toInt32) v160 (((q1.toUInt64 >>> ((32 : Int32) &&& 0x3f).toInt64.toUInt64).toInt64).toInt32) (q1.toInt32) (q2.toInt32) v161 (1 : Int32) (1 : Int32))), .unset, .unset, .unset, .unset] [])) (fun t k => ?_) ?_
      · refine XS.istore X220.here hx rfl (hb hby at_346) rfl (l' := #[.val (.long q0), .second, .val (.long q1), .second, .val (.long q2), .second, .val (.long q3), .second, .val (.int p4), .val (.int v160), .val (.int v161), .val (.int v162), .val (.int v163), .val (.ref b164), .val (.ref b171), .val (.int v178), .val (.int v179), .val (.ref b180), .val (.ref b191), .val (.int v215), .unset, .val (.int v217), .val (.int v219), .val (.int (fC (((q0.toUInt64 >>> ((32 : Int32) &&& 0x3f).toInt64.toUInt64).toInt64).toInt32) (q0.toInt32) (((q2.toUInt64 >>> ((32 : Int32) &&& 0x3f).toInt64.toUInt64).toInt64).toInt32) v160 (((q1.toUInt64 >>> ((32 : Int32) &&& 0x3f).toInt64.toUInt64).toInt64).toInt32) (q1.toInt32) (q2.toInt32) v161 (1 : Int32) (1 : Int32))), .unset, .unset, .unset, .unset]) rfl ?_
        exact k
      generalize hv_v221 : (fC (((q0.toUInt64 >>> ((32 : Int32) &&& 0x3f).toInt64.toUInt64).toInt64).toInt32) (q0.toInt32) (((q2.toUInt64 >>> ((32 : Int32) &&& 0x3f).toInt64.toUInt64).toInt64).toInt32) v160 (((q1.toUInt64 >>> ((32 : Int32) &&& 0x3f).toInt64.toUInt64).toInt64).toInt32) (q1.toInt32) (q2.toInt32) v161 (1 : Int32) (1 : Int32)) = v221
      refine Go.st (U' := T220.setTop (mkF m 358 #[.val (.long q0), .second, .val (.long q1), .second, .val (.long q2), .second, .val (.long q3), .second, .val (.int p4), .val (.int v160), .val (.int v161), .val (.int v162), .val (.int v163), .val (.ref b164), .val (.ref b171), .val (.int v178), .val (.int v179), .val (.ref b180), .val (.ref b191), .val (.int v215), .unset, .val (.int v217), .val (.int v219), .val (.int v221), .unset, .unset, .unset, .unset] [(.int (1 : Int32)), (.int (0 : Int32)), (.int v161), (.ref b171), (.int v160), (.ref b164)])) (fun t k => ?_) ?_
      · refine XS.aload X220.here hx rfl (hb hby at_348) rfl rfl ?_
        refine XS.iload X220.here hx rfl (hb hby at_350) rfl ?_
        refine XS.aload X220.here hx rfl (hb hby at_352) rfl rfl ?_
        refine XS.iload X220.here hx rfl (hb hby at_354) rfl ?_
        refine XS.iconst X220.here hx rfl (hb hby at_356) ?_
        refine XS.iconst X220.here hx rfl (hb hby at_357) ?_
        exact k
      obtain ⟨_, _, ⟨T222, L222, k222, n222⟩, -, X222, ⟨Lc222, hQ222, l222, y222, z222⟩, st222⟩ := Jvm.LawKit.callS X220 hx (y := own_y2) hown (mvT hZ (own_w hw 6 rfl)) (mvT hZ (own_w hw 7 rfl)) (mvT hZ (own_w hw 8 rfl)) (mvT hZ (own_w hw 9 rfl)) (by decide) (backOf (W := 0) (rmc l Z a0 hw [] b164 v160 b171 v161 (0 : Int32) (1 : Int32) k164 k171 (((q0.toUInt64 >>> ((32 : Int32) &&& 0x3f).toInt64.toUInt64).toInt64).toInt32) (q0.toInt32) (((q2.toUInt64 >>> ((32 : Int32) &&& 0x3f).toInt64.toUInt64).toInt64).toInt32) (((q1.toUInt64 >>> ((32 : Int32) &&& 0x3f).toInt64.toUInt64).toInt64).toInt32) (q1.toInt32) (q2.toInt32) T214.heap n0 sz214 VX_214 VY_214 (own_mn (0 : Int32) v160 hct.1 hla (by decide) (by decide)) (own_mn (1 : Int32) v161 hct.2.1 hlb (by decide) (by decide))) hZ (own_w hw 9 rfl) (own_w hw 8 rfl) (by decide) (by decide)) (g := (mkF m 358 #[.val (.long q0), .second, .val (.long q1), .second, .val (.long q2), .second, .val (.long q3), .second, .val (.int p4), .val (.int v160), .val (.int v161), .val (.int v162), .val (.int v163), .val (.ref b164), .val (.ref b171), .val (.int v178), .val (.int v179), .val (.ref b180), .val (.ref b191), .val (.int v215), .unset, .val (.int v217), .val (.int v219), .val (.int v221), .unset, .unset, .unset, .unset] [(.int (1 : Int32)), (.int (0 : Int32)), (.int v161), (.ref b171), (.int v160), (.ref b164)])) rfl (by rw [hml]; rfl) (argsL := [(.ref b164), (.int v160), (.ref b171), (.int v161), (.int (0 : Int32)), (.int (1 : Int32))]) (rest := []) (lenOf pd_2 rfl) rfl (by show 2 * 0 + _ ≤ _; exact Nat.le_of_eq rfl) (hb hby at_358) (fun _ _ => ⟨rfl, e220, (by decide : 5 + 0 ≤ _), (by decide : 19 + 0 ≤ _)⟩)
      dsimp only [Pt.U, Pt.locs, Pt.cells, Pt.slots] at X222 l222 y222 z222 st222 hQ222
      subst l222 y222 z222
      obtain ⟨rfl, N222q, e222⟩ := hQ222
      have N222 := Fr.app N220 N222q
      refine Go.st (U' := T222.setTop (mkF m 361 #[.val (.long q0), .second, .val (.long q1), .second, .val (.long q2), .second, .val (.long q3), .second, .val (.int p4), .val (.int v160), .val (.int v161), .val (.int v162), .val (.int v163), .val (.ref b164), .val (.ref b171), .val (.int v178), .val (.int v179), .val (.ref b180), .val (.ref b191), .val (.int v215), .unset, .val (.int v217), .val (.int v219), .val (.int v221), .unset, .unset, .unset, .unset] [(.int (fC (((q0.toUInt64 >>> ((32 : Int32) &&& 0x3f).toInt64.toUInt64).toInt64).toInt32) (q0.toInt32) (((q2.toUInt64 >>> ((32 : Int32) &&& 0x3f).toInt64.toUInt64).toInt64).toInt32) v160 (((q1.toUInt64 >>> ((32 : Int32) &&& 0x3f).toInt64.toUInt64).toInt64).toInt32) (q1.toInt32) (q2.toInt32) v161 (0 : Int32) (1 : Int32)))])) (fun t k => st222 _ k) ?_
      refine Go.st (U' := T222.setTop (mkF m 363 #[.val (.long q0), .second, .val (.long q1), .second, .val (.long q2), .second, .val (.long q3), .second, .val (.int p4), .val (.int v160), .val (.int v161), .val (.int v162), .val (.int v163), .val (.ref b164), .val (.ref b171), .val (.int v178), .val (.int v179), .val (.ref b180), .val (.ref b191), .val (.int v215), .unset, .val (.int v217), .val (.int v219), .val (.int v221), .val (.int (fC (((q0.toUInt64 >>> ((32 : Int32) &&& 0x3f).toInt64.toUInt64).toInt64).toInt32) (q0.toInt32) (((q2.toUInt64 >>> ((32 : Int32) &&& 0x3f).toInt64.toUInt64).toInt64).toInt32) v160 (((q1.toUInt64 >>> ((32 : Int32) &&& 0x3f).toInt64.toUInt64).toInt64).toInt32) (q1.toInt32) (q2.toInt32) v161 (0 : Int32) (1 : Int32))), .unset, .unset, .unset] [])) (fun t k => ?_) ?_
      · refine XS.istore X222.here hx rfl (hb hby at_361) rfl (l' := #[.val (.long q0), .second, .val (.long q1), .second, .val (.long q2), .second, .val (.long q3), .second, .val (.int p4), .val (.int v160), .val (.int v161), .val (.int v162), .val (.int v163), .val (.ref b164), .val (.ref b171), .val (.int v178), .val (.int v179), .val (.ref b180), .val (.ref b191), .val (.int v215), .unset, .val (.int v217), .val (.int v219), .val (.int v221), .val (.int (fC (((q0.toUInt64 >>> ((32 : Int32) &&& 0x3f).toInt64.toUInt64).toInt64).toInt32) (q0.toInt32) (((q2.toUInt64 >>> ((32 : Int32) &&& 0x3f).toInt64.toUInt64).toInt64).toInt32) v160 (((q1.toUInt64 >>> ((32 : Int32) &&& 0x3f).toInt64.toUInt64).toInt64).toInt32) (q1.toInt32) (q2.toInt32) v161 (0 : Int32) (1 : Int32))), .unset, .unset, .unset]) rfl ?_
        exact k
      generalize hv_v223 : (fC (((q0.toUInt64 >>> ((32 : Int32) &&& 0x3f).toInt64.toUInt64).toInt64).toInt32) (q0.toInt32) (((q2.toUInt64 >>> ((32 : Int32) &&& 0x3f).toInt64.toUInt64).toInt64).toInt32) v160 (((q1.toUInt64 >>> ((32 : Int32) &&& 0x3f).toInt64.toUInt64).toInt64).toInt32) (q1.toInt32) (q2.toInt32) v161 (0 : Int32) (1 : Int32)) = v223
      refine Go.st (U' := T222.setTop (mkF m 373 #[.val (.long q0), .second, .val (.long q1), .second, .val (.long q2), .second, .val (.long q3), .second, .val (.int p4), .val (.int v160), .val (.int v161), .val (.int v162), .val (.int v163), .val (.ref b164), .val (.ref b171), .val (.int v178), .val (.int v179), .val (.ref b180), .val (.ref b191), .val (.int v215), .unset, .val (.int v217), .val (.int v219), .val (.int v221), .val (.int v223), .unset, .unset, .unset] [(.int (2 : Int32)), (.int (1 : Int32)), (.int v161), (.ref b171), (.int v160), (.ref b164)])) (fun t k => ?_) ?_
      · refine XS.aload X222.here hx rfl (hb hby at_363) rfl rfl ?_
        refine XS.iload X222.here hx rfl (hb hby at_365) rfl ?_
        refine XS.aload X222.here hx rfl (hb hby at_367) rfl rfl ?_
        refine XS.iload X222.here hx rfl (hb hby at_369) rfl ?_
        refine XS.iconst X222.here hx rfl (hb hby at_371) ?_
        refine XS.iconst X222.here hx rfl (hb hby at_372) ?_
        exact k
      obtain ⟨_, _, ⟨T224, L224, k224, n224⟩, -, X224, ⟨Lc224, hQ224, l224, y224, z224⟩, st224⟩ := Jvm.LawKit.callS X222 hx (y := own_y2) hown (mvT hZ (own_w hw 6 rfl)) (mvT hZ (own_w hw 7 rfl)) (mvT hZ (own_w hw 8 rfl)) (mvT hZ (own_w hw 9 rfl)) (by decide) (backOf (W := 0) (rmc l Z a0 hw [] b164 v160 b171 v161 (1 : Int32) (2 : Int32) k164 k171 (((q0.toUInt64 >>> ((32 : Int32) &&& 0x3f).toInt64.toUInt64).toInt64).toInt32) (q0.toInt32) (((q2.toUInt64 >>> ((32 : Int32) &&& 0x3f).toInt64.toUInt64).toInt64).toInt32) (((q1.toUInt64 >>> ((32 : Int32) &&& 0x3f).toInt64.toUInt64).toInt64).toInt32) (q1.toInt32) (q2.toInt32) T214.heap n0 sz214 VX_214 VY_214 (own_mn (1 : Int32) v160 hct.1 hla (by decide) (by decide)) (own_mn (2 : Int32) v161 hct.2.1 hlb (by decide) (by decide))) hZ (own_w hw 9 rfl) (own_w hw 8 rfl) (by decide) (by decide)) (g := (mkF m 373 #[.val (.long q0), .second, .val (.long q1), .second, .val (.long q2), .second, .val (.long q3), .second, .val (.int p4), .val (.int v160), .val (.int v161), .val (.int v162), .val (.int v163), .val (.ref b164), .val (.ref b171), .val (.int v178), .val (.int v179), .val (.ref b180), .val (.ref b191), .val (.int v215), .unset, .val (.int v217), .val (.int v219), .val (.int v221), .val (.int v223), .unset, .unset, .unset] [(.int (2 : Int32)), (.int (1 : Int32)), (.int v161), (.ref b171), (.int v160), (.ref b164)])) rfl (by rw [hml]; rfl) (argsL := [(.ref b164), (.int v160), (.ref b171), (.int v161), (.int (1 : Int32)), (.int (2 : Int32))]) (rest := []) (lenOf pd_2 rfl) rfl (by show 2 * 0 + _ ≤ _; exact Nat.le_of_eq rfl) (hb hby at_373) (fun _ _ => ⟨rfl, e222, (by decide : 5 + 0 ≤ _), (by decide : 19 + 0 ≤ _)⟩)
      dsimp only [Pt.U, Pt.locs, Pt.cells, Pt.slots] at X224 l224 y224 z224 st224 hQ224
      subst l224 y224 z224
      obtain ⟨rfl, N224q, e224⟩ := hQ224
      have N224 := Fr.app N222 N224q
      refine Go.st (U' := T224.setTop (mkF m 376 #[.val (.long q0), .second, .val (.long q1), .second, .val (.long q2), .second, .val (.long q3), .second, .val (.int p4), .val (.int v160), .val (.int v161), .val (.int v162), .val (.int v163), .val (.ref b164), .val (.ref b171), .val (.int v178), .val (.int v179), .val (.ref b180), .val (.ref b191), .val (.int v215), .unset, .val (.int v217), .val (.int v219), .val (.int v221), .val (.int v223), .unset, .unset, .unset] [(.int (fC (((q0.toUInt64 >>> ((32 : Int32) &&& 0x3f).toInt64.toUInt64).toInt64).toInt32) (q0.toInt32) (((q2.toUInt64 >>> ((32 : Int32) &&& 0x3f).toInt64.toUInt64).toInt64).toInt32) v160 (((q1.toUInt64 >>> ((32 : Int32) &&& 0x3f).toInt64.toUInt64).toInt64).toInt32) (q1.toInt32) (q2.toInt32) v161 (1 : Int32) (2 : Int32)))])) (fun t k => st224 _ k) ?_
      refine Go.st (U' := T224.setTop (mkF m 378 #[.val (.long q0), .second, .val (.long q1), .second, .val (.long q2), .second, .val (.long q3), .second, .val (.int p4), .val (.int v160), .val (.int v161), .val (.int v162), .val (.int v163), .val (.ref b164), .val (.ref b171), .val (.int v178), .val (.int v179), .val (.ref b180), .val (.ref b191), .val (.int v215), .unset, .val (.int v217), .val (.int v219), .val (.int v221), .val (.int v223), .val (.int (fC (((q0.toUInt64 >>> ((32 : Int32) &&& 0x3f).toInt64.toUInt64).toInt64).toInt32) (q0.toInt32) (((q2.toUInt64 >>> ((32 : Int32) &&& 0x3f).toInt64.toUInt64).toInt64).toInt32) v160 (((q1.toUInt64 >>> ((32 : Int32) &&& 0x3f).toInt64.toUInt64).toInt64).toInt32) (q1.toInt32) (q2.toInt32) v161 (1 : Int32) (2 : Int32))), .unset, .unset] [])) (fun t k => ?_) ?_
      · refine XS.istore X224.here hx rfl (hb hby at_376) rfl (l' := #[.val (.long q0), .second, .val (.long q1), .second, .val (.long q2), .second, .val (.long q3), .second, .val (.int p4), .val (.int v160), .val (.int v161), .val (.int v162), .val (.int v163), .val (.ref b164), .val (.ref b171), .val (.int v178), .val (.int v179), .val (.ref b180), .val (.ref b191), .val (.int v215), .unset, .val (.int v217), .val (.int v219), .val (.int v221), .val (.int v223), .val (.int (fC (((q0.toUInt64 >>> ((32 : Int32) &&& 0x3f).toInt64.toUInt64).toInt64).toInt32) (q0.toInt32) (((q2.toUInt64 >>> ((32 : Int32) &&& 0x3f).toInt64.toUInt64).toInt64).toInt32) v160 (((q1.toUInt64 >>> ((32 : Int32) &&& 0x3f).toInt64.toUInt64).toInt64).toInt32) (q1.toInt32) (q2.toInt32) v161 (1 : Int32) (2 : Int32))), .unset, .unset]) rfl ?_
        exact k
      generalize hv_v225 : (fC (((q0.toUInt64 >>> ((32 : Int32) &&& 0x3f).toInt64.toUInt64).toInt64).toInt32) (q0.toInt32) (((q2.toUInt64 >>> ((32 : Int32) &&& 0x3f).toInt64.toUInt64).toInt64).toInt32) v160 (((q1.toUInt64 >>> ((32 : Int32) &&& 0x3f).toInt64.toUInt64).toInt64).toInt32) (q1.toInt32) (q2.toInt32) v161 (1 : Int32) (2 : Int32)) = v225
      refine Go.st (U' := T224.setTop (mkF m 388 #[.val (.long q0), .second, .val (.long q1), .second, .val (.long q2), .second, .val (.long q3), .second, .val (.int p4), .val (.int v160), .val (.int v161), .val (.int v162), .val (.int v163), .val (.ref b164), .val (.ref b171), .val (.int v178), .val (.int v179), .val (.ref b180), .val (.ref b191), .val (.int v215), .unset, .val (.int v217), .val (.int v219), .val (.int v221), .val (.int v223), .val (.int v225), .unset, .unset] [(.int (0 : Int32)), (.int (1 : Int32)), (.int v161), (.ref b171), (.int v160), (.ref b164)])) (fun t k => ?_) ?_
      · refine XS.aload X224.here hx rfl (hb hby at_378) rfl rfl ?_
        refine XS.iload X224.here hx rfl (hb hby at_380) rfl ?_
        refine XS.aload X224.here hx rfl (hb hby at_382) rfl rfl ?_
        refine XS.iload X224.here hx rfl (hb hby at_384) rfl ?_
        refine XS.iconst X224.here hx rfl (hb hby at_386) ?_
        refine XS.iconst X224.here hx rfl (hb hby at_387) ?_
        exact k
      obtain ⟨_, _, ⟨T226, L226, k226, n226⟩, -, X226, ⟨Lc226, hQ226, l226, y226, z226⟩, st226⟩ := Jvm.LawKit.callS X224 hx (y := own_y2) hown (mvT hZ (own_w hw 6 rfl)) (mvT hZ (own_w hw 7 rfl)) (mvT hZ (own_w hw 8 rfl)) (mvT hZ (own_w hw 9 rfl)) (by decide) (backOf (W := 0) (rmc l Z a0 hw [] b164 v160 b171 v161 (1 : Int32) (0 : Int32) k164 k171 (((q0.toUInt64 >>> ((32 : Int32) &&& 0x3f).toInt64.toUInt64).toInt64).toInt32) (q0.toInt32) (((q2.toUInt64 >>> ((32 : Int32) &&& 0x3f).toInt64.toUInt64).toInt64).toInt32) (((q1.toUInt64 >>> ((32 : Int32) &&& 0x3f).toInt64.toUInt64).toInt64).toInt32) (q1.toInt32) (q2.toInt32) T214.heap n0 sz214 VX_214 VY_214 (own_mn (1 : Int32) v160 hct.1 hla (by decide) (by decide)) (own_mn (0 : Int32) v161 hct.2.1 hlb (by decide) (by decide))) hZ (own_w hw 9 rfl) (own_w hw 8 rfl) (by decide) (by decide)) (g := (mkF m 388 #[.val (.long q0), .second, .val (.long q1), .second, .val (.long q2), .second, .val (.long q3), .second, .val (.int p4), .val (.int v160), .val (.int v161), .val (.int v162), .val (.int v163), .val (.ref b164), .val (.ref b171), .val (.int v178), .val (.int v179), .val (.ref b180), .val (.ref b191), .val (.int v215), .unset, .val (.int v217), .val (.int v219), .val (.int v221), .val (.int v223), .val (.int v225), .unset, .unset] [(.int (0 : Int32)), (.int (1 : Int32)), (.int v161), (.ref b171), (.int v160), (.ref b164)])) rfl (by rw [hml]; rfl) (argsL := [(.ref b164), (.int v160), (.ref b171), (.int v161), (.int (1 : Int32)), (.int (0 : Int32))]) (rest := []) (lenOf pd_2 rfl) rfl (by show 2 * 0 + _ ≤ _; exact Nat.le_of_eq rfl) (hb hby at_388) (fun _ _ => ⟨rfl, e224, (by decide : 5 + 0 ≤ _), (by decide : 19 + 0 ≤ _)⟩)
      dsimp only [Pt.U, Pt.locs, Pt.cells, Pt.slots] at X226 l226 y226 z226 st226 hQ226
      subst l226 y226 z226
      obtain ⟨rfl, N226q, e226⟩ := hQ226
      have N226 := Fr.app N224 N226q
      refine Go.st (U' := T226.setTop (mkF m 391 #[.val (.long q0), .second, .val (.long q1), .second, .val (.long q2), .second, .val (.long q3), .second, .val (.int p4), .val (.int v160), .val (.int v161), .val (.int v162), .val (.int v163), .val (.ref b164), .val (.ref b171), .val (.int v178), .val (.int v179), .val (.ref b180), .val (.ref b191), .val (.int v215), .unset, .val (.int v217), .val (.int v219), .val (.int v221), .val (.int v223), .val (.int v225), .unset, .unset] [(.int (fC (((q0.toUInt64 >>> ((32 : Int32) &&& 0x3f).toInt64.toUInt64).toInt64).toInt32) (q0.toInt32) (((q2.toUInt64 >>> ((32 : Int32) &&& 0x3f).toInt64.toUInt64).toInt64).toInt32) v160 (((q1.toUInt64 >>> ((32 : Int32) &&& 0x3f).toInt64.toUInt64).toInt64).toInt32) (q1.toInt32) (q2.toInt32) v161 (1 : Int32) (0 : Int32)))])) (fun t k => st226 _ k) ?_
      refine Go.st (U' := T226.setTop (mkF m 393 #[.val (.long q0), .second, .val (.long q1), .second, .val (.long q2), .second, .val (.long q3), .second, .val (.int p4), .val (.int v160), .val (.int v161), .val (.int v162), .val (.int v163), .val (.ref b164), .val (.ref b171), .val (.int v178), .val (.int v179), .val (.ref b180), .val (.ref b191), .val (.int v215), .unset, .val (.int v217), .val (.int v219), .val (.int v221), .val (.int v223), .val (.int v225), .val (.int (fC (((q0.toUInt64 >>> ((32 : Int32) &&& 0x3f).toInt64.toUInt64).toInt64).toInt32) (q0.toInt32) (((q2.toUInt64 >>> ((32 : Int32) &&& 0x3f).toInt64.toUInt64).toInt64).toInt32) v160 (((q1.toUInt64 >>> ((32 : Int32) &&& 0x3f).toInt64.toUInt64).toInt64).toInt32) (q1.toInt32) (q2.toInt32) v161 (1 : Int32) (0 : Int32))), .unset] [])) (fun t k => ?_) ?_
      · refine XS.istore X226.here hx rfl (hb hby at_391) rfl (l' := #[.val (.long q0), .second, .val (.long q1), .second, .val (.long q2), .second, .val (.long q3), .second, .val (.int p4), .val (.int v160), .val (.int v161), .val (.int v162), .val (.int v163), .val (.ref b164), .val (.ref b171), .val (.int v178), .val (.int v179), .val (.ref b180), .val (.ref b191), .val (.int v215), .unset, .val (.int v217), .val (.int v219), .val (.int v221), .val (.int v223), .val (.int v225), .val (.int (fC (((q0.toUInt64 >>> ((32 : Int32) &&& 0x3f).toInt64.toUInt64).toInt64).toInt32) (q0.toInt32) (((q2.toUInt64 >>> ((32 : Int32) &&& 0x3f).toInt64.toUInt64).toInt64).toInt32) v160 (((q1.toUInt64 >>> ((32 : Int32) &&& 0x3f).toInt64.toUInt64).toInt64).toInt32) (q1.toInt32) (q2.toInt32) v161 (1 : Int32) (0 : Int32))), .unset]) rfl ?_
        exact k
      generalize hv_v227 : (fC (((q0.toUInt64 >>> ((32 : Int32) &&& 0x3f).toInt64.toUInt64).toInt64).toInt32) (q0.toInt32) (((q2.toUInt64 >>> ((32 : Int32) &&& 0x3f).toInt64.toUInt64).toInt64).toInt32) v160 (((q1.toUInt64 >>> ((32 : Int32) &&& 0x3f).toInt64.toUInt64).toInt64).toInt32) (q1.toInt32) (q2.toInt32) v161 (1 : Int32) (0 : Int32)) = v227
      refine Go.st (U' := T226.setTop (mkF m 403 #[.val (.long q0), .second, .val (.long q1), .second, .val (.long q2), .second, .val (.long q3), .second, .val (.int p4), .val (.int v160), .val (.int v161), .val (.int v162), .val (.int v163), .val (.ref b164), .val (.ref b171), .val (.int v178), .val (.int v179), .val (.ref b180), .val (.ref b191), .val (.int v215), .unset, .val (.int v217), .val (.int v219), .val (.int v221), .val (.int v223), .val (.int v225), .val (.int v227), .unset] [(.int (1 : Int32)), (.int (2 : Int32)), (.int v161), (.ref b171), (.int v160), (.ref b164)])) (fun t k => ?_) ?_
      · refine XS.aload X226.here hx rfl (hb hby at_393) rfl rfl ?_
        refine XS.iload X226.here hx rfl (hb hby at_395) rfl ?_
        refine XS.aload X226.here hx rfl (hb hby at_397) rfl rfl ?_
        refine XS.iload X226.here hx rfl (hb hby at_399) rfl ?_
        refine XS.iconst X226.here hx rfl (hb hby at_401) ?_
        refine XS.iconst X226.here hx rfl (hb hby at_402) ?_
        exact k
      obtain ⟨_, _, ⟨T228, L228, k228, n228⟩, -, X228, ⟨Lc228, hQ228, l228, y228, z228⟩, st228⟩ := Jvm.LawKit.callS X226 hx (y := own_y2) hown (mvT hZ (own_w hw 6 rfl)) (mvT hZ (own_w hw 7 rfl)) (mvT hZ (own_w hw 8 rfl)) (mvT hZ (own_w hw 9 rfl)) (by decide) (backOf (W := 0) (rmc l Z a0 hw [] b164 v160 b171 v161 (2 : Int32) (1 : Int32) k164 k171 (((q0.toUInt64 >>> ((32 : Int32) &&& 0x3f).toInt64.toUInt64).toInt64).toInt32) (q0.toInt32) (((q2.toUInt64 >>> ((32 : Int32) &&& 0x3f).toInt64.toUInt64).toInt64).toInt32) (((q1.toUInt64 >>> ((32 : Int32) &&& 0x3f).toInt64.toUInt64).toInt64).toInt32) (q1.toInt32) (q2.toInt32) T214.heap n0 sz214 VX_214 VY_214 (own_mn (2 : Int32) v160 hct.1 hla (by decide) (by decide)) (own_mn (1 : Int32) v161 hct.2.1 hlb (by decide) (by decide))) hZ (own_w hw 9 rfl) (own_w hw 8 rfl) (by decide) (by decide)) (g := (mkF m 403 #[.val (.long q0), .second, .val (.long q1), .second, .val (.long q2), .second, .val (.long q3), .second, .val (.int p4), .val (.int v160), .val (.int v161), .val (.int v162), .val (.int v163), .val (.ref b164), .val (.ref b171), .val (.int v178), .val (.int v179), .val (.ref b180), .val (.ref b191), .val (.int v215), .unset, .val (.int v217), .val (.int v219), .val (.int v221), .val (.int v223), .val (.int v225), .val (.int v227), .unset] [(.int (1 : Int32)), (.int (2 : Int32)), (.int v161), (.ref b171), (.int v160), (.ref b164)])) rfl (by rw [hml]; rfl) (argsL := [(.ref b164), (.int v160), (.ref b171), (.int v161), (.int (2 : Int32)), (.int (1 : Int32))]) (rest := []) (lenOf pd_2 rfl) rfl (by show 2 * 0 + _ ≤ _; exact Nat.le_of_eq rfl) (hb hby at_403) (fun _ _ => ⟨rfl, e226, (by decide : 5 + 0 ≤ _), (by decide : 19 + 0 ≤ _)⟩)
      dsimp only [Pt.U, Pt.locs, Pt.cells, Pt.slots] at X228 l228 y228 z228 st228 hQ228
      subst l228 y228 z228
      obtain ⟨rfl, N228q, e228⟩ := hQ228
      have N228 := Fr.app N226 N228q
      refine Go.st (U' := T228.setTop (mkF m 406 #[.val (.long q0), .second, .val (.long q1), .second, .val (.long q2), .second, .val (.long q3), .second, .val (.int p4), .val (.int v160), .val (.int v161), .val (.int v162), .val (.int v163), .val (.ref b164), .val (.ref b171), .val (.int v178), .val (.int v179), .val (.ref b180), .val (.ref b191), .val (.int v215), .unset, .val (.int v217), .val (.int v219), .val (.int v221), .val (.int v223), .val (.int v225), .val (.int v227), .unset] [(.int (fC (((q0.toUInt64 >>> ((32 : Int32) &&& 0x3f).toInt64.toUInt64).toInt64).toInt32) (q0.toInt32) (((q2.toUInt64 >>> ((32 : Int32) &&& 0x3f).toInt64.toUInt64).toInt64).toInt32) v160 (((q1.toUInt64 >>> ((32 : Int32) &&& 0x3f).toInt64.toUInt64).toInt64).toInt32) (q1.toInt32) (q2.toInt32) v161 (2 : Int32) (1 : Int32)))])) (fun t k => st228 _ k) ?_
      refine Go.st (U' := T228.setTop (mkF m 408 #[.val (.long q0), .second, .val (.long q1), .second, .val (.long q2), .second, .val (.long q3), .second, .val (.int p4), .val (.int v160), .val (.int v161), .val (.int v162), .val (.int v163), .val (.ref b164), .val (.ref b171), .val (.int v178), .val (.int v179), .val (.ref b180), .val (.ref b191), .val (.int v215), .unset, .val (.int v217), .val (.int v219), .val (.int v221), .val (.int v223), .val (.int v225), .val (.int v227), .val (.int (fC (((q0.toUInt64 >>> ((32 : Int32) &&& 0x3f).toInt64.toUInt64).toInt64).toInt32) (q0.toInt32) (((q2.toUInt64 >>> ((32 : Int32) &&& 0x3f).toInt64.toUInt64).toInt64).toInt32) v160 (((q1.toUInt64 >>> ((32 : Int32) &&& 0x3f).toInt64.toUInt64).toInt64).toInt32) (q1.toInt32) (q2.toInt32) v161 (2 : Int32) (1 : Int32)))] [])) (fun t k => ?_) ?_
      · refine XS.istore X228.here hx rfl (hb hby at_406) rfl (l' := #[.val (.long q0), .second, .val (.long q1), .second, .val (.long q2), .second, .val (.long q3), .second, .val (.int p4), .val (.int v160), .val (.int v161), .val (.int v162), .val (.int v163), .val (.ref b164), .val (.ref b171), .val (.int v178), .val (.int v179), .val (.ref b180), .val (.ref b191), .val (.int v215), .unset, .val (.int v217), .val (.int v219), .val (.int v221), .val (.int v223), .val (.int v225), .val (.int v227), .val (.int (fC (((q0.toUInt64 >>> ((32 : Int32) &&& 0x3f).toInt64.toUInt64).toInt64).toInt32) (q0.toInt32) (((q2.toUInt64 >>> ((32 : Int32) &&& 0x3f).toInt64.toUInt64).toInt64).toInt32) v160 (((q1.toUInt64 >>> ((32 : Int32) &&& 0x3f).toInt64.toUInt64).toInt64).toInt32) (q1.toInt32) (q2.toInt32) v161 (2 : Int32) (1 : Int32)))]) rfl ?_
        exact k
      generalize hv_v229 : (fC (((q0.toUInt64 >>> ((32 : Int32) &&& 0x3f).toInt64.toUInt64).toInt64).toInt32) (q0.toInt32) (((q2.toUInt64 >>> ((32 : Int32) &&& 0x3f).toInt64.toUInt64).toInt64).toInt32) v160 (((q1.toUInt64 >>> ((32 : Int32) &&& 0x3f).toInt64.toUInt64).toInt64).toInt32) (q1.toInt32) (q2.toInt32) v161 (2 : Int32) (1 : Int32)) = v229
      refine Go.st (U' := T228.setTop (mkF m 410 #[.val (.long q0), .second, .val (.long q1), .second, .val (.long q2), .second, .val (.long q3), .second, .val (.int p4), .val (.int v160), .val (.int v161), .val (.int v162), .val (.int v163), .val (.ref b164), .val (.ref b171), .val (.int v178), .val (.int v179), .val (.ref b180), .val (.ref b191), .val (.int v215), .unset, .val (.int v217), .val (.int v219), .val (.int v221), .val (.int v223), .val (.int v225), .val (.int v227), .val (.int v229)] [(.int v217)])) (fun t k => ?_) ?_
      · refine XS.iload X228.here hx rfl (hb hby at_408) rfl ?_
        exact k
      refine Go.join (P := fun (v239 : Int32) => v239 = (if v217 = (0 : Int32) then (0 : Int32) else (if v219 = (0 : Int32) then (0 : Int32) else (if v221 = (0 : Int32) then (if v223 = (0 : Int32) then (if v227 = (0 : Int32) then (0 : Int32) else (if v229 = (0 : Int32) then (0 : Int32) else (1 : Int32))) else (if v225 = (0 : Int32) then (if v227 = (0 : Int32) then (0 : Int32) else (if v229 = (0 : Int32) then (0 : Int32) else (1 : Int32))) else (1 : Int32))) else (1 : Int32))))) (F := fun (v239 : Int32) => T228.setTop (mkF m 448 #[.val (.long q0), .second, .val (.long q1), .second, .val (.long q2), .second, .val (.long q3), .second, .val (.int p4), .val (.int v160), .val (.int v161), .val (.int v162), .val (.int v163), .val (.ref b164), .val (.ref b171), .val (.int v178), .val (.int v179), .val (.ref b180), .val (.ref b191), .val (.int v215), .unset, .val (.int v217), .val (.int v219), .val (.int v221), .val (.int v223), .val (.int v225), .val (.int v227), .val (.int v229)] [(.int v239)])) (fun J240 => ?_) (fun v239 hv_v239 => ?_)
      · by_cases hc230 : v217 = (0 : Int32)
        · refine Go.st (U' := T228.setTop (mkF m 448 #[.val (.long q0), .second, .val (.long q1), .second, .val (.long q2), .second, .val (.long q3), .second, .val (.int p4), .val (.int v160), .val (.int v161), .val (.int v162), .val (.int v163), .val (.ref b164), .val (.ref b171), .val (.int v178), .val (.int v179), .val (.ref b180), .val (.ref b191), .val (.int v215), .unset, .val (.int v217), .val (.int v219), .val (.int v221), .val (.int v223), .val (.int v225), .val (.int v227), .val (.int v229)] [(.int (0 : Int32))])) (fun t k => ?_) ?_
          · refine XS.ifYes X228.here hx rfl (pc0 := 410) (pc' := 447) rfl (hb hby at_410) rfl ((if0 _ _).trans (teq hc230).1) (by decide) (by decide) ?_
            refine XS.iconst X228.here hx rfl (hb hby at_447) ?_
            exact k
          exact J240 _ (by first | rfl | simp only [if_pos hc230])
        · refine Go.st (U' := T228.setTop (mkF m 415 #[.val (.long q0), .second, .val (.long q1), .second, .val (.long q2), .second, .val (.long q3), .second, .val (.int p4), .val (.int v160), .val (.int v161), .val (.int v162), .val (.int v163), .val (.ref b164), .val (.ref b171), .val (.int v178), .val (.int v179), .val (.ref b180), .val (.ref b191), .val (.int v215), .unset, .val (.int v217), .val (.int v219), .val (.int v221), .val (.int v223), .val (.int v225), .val (.int v227), .val (.int v229)] [(.int v219)])) (fun t k => ?_) ?_
          · refine XS.ifNo X228.here hx rfl (hb hby at_410) rfl ((if0 _ _).trans (feq hc230).1) ?_
            refine XS.iload X228.here hx rfl (hb hby at_413) rfl ?_
            exact k
          by_cases hc231 : v219 = (0 : Int32)
          · refine Go.st (U' := T228.setTop (mkF m 448 #[.val (.long q0), .second, .val (.long q1), .second, .val (.long q2), .second, .val (.long q3), .second, .val (.int p4), .val (.int v160), .val (.int v161), .val (.int v162), .val (.int v163), .val (.ref b164), .val (.ref b171), .val (.int v178), .val (.int v179), .val (.ref b180), .val (.ref b191), .val (.int v215), .unset, .val (.int v217), .val (.int v219), .val (.int v221), .val (.int v223), .val (.int v225), .val (.int v227), .val (.int v229)] [(.int (0 : Int32))])) (fun t k => ?_) ?_
            · refine XS.ifYes X228.here hx rfl (pc0 := 415) (pc' := 447) rfl (hb hby at_415) rfl ((if0 _ _).trans (teq hc231).1) (by decide) (by decide) ?_
              refine XS.iconst X228.here hx rfl (hb hby at_447) ?_
              exact k
            exact J240 _ (by first | rfl | simp only [if_neg hc230, if_pos hc231])
          · refine Go.st (U' := T228.setTop (mkF m 420 #[.val (.long q0), .second, .val (.long q1), .second, .val (.long q2), .second, .val (.long q3), .second, .val (.int p4), .val (.int v160), .val (.int v161), .val (.int v162), .val (.int v163), .val (.ref b164), .val (.ref b171), .val (.int v178), .val (.int v179), .val (.ref b180), .val (.ref b191), .val (.int v215), .unset, .val (.int v217), .val (.int v219), .val (.int v221), .val (.int v223), .val (.int v225), .val (.int v227), .val (.int v229)] [(.int v221)])) (fun t k => ?_) ?_
            · refine XS.ifNo X228.here hx rfl (hb hby at_415) rfl ((if0 _ _).trans (feq hc231).1) ?_
              refine XS.iload X228.here hx rfl (hb hby at_418) rfl ?_
              exact k
            by_cases hc232 : v221 = (0 : Int32)
            · refine Go.st (U' := T228.setTop (mkF m 425 #[.val (.long q0), .second, .val (.long q1), .second, .val (.long q2), .second, .val (.long q3), .second, .val (.int p4), .val (.int v160), .val (.int v161), .val (.int v162), .val (.int v163), .val (.ref b164), .val (.ref b171), .val (.int v178), .val (.int v179), .val (.ref b180), .val (.ref b191), .val (.int v215), .unset, .val (.int v217), .val (.int v219), .val (.int v221), .val (.int v223), .val (.int v225), .val (.int v227), .val (.int v229)] [(.int v223)])) (fun t k => ?_) ?_
              · refine XS.ifNo X228.here hx rfl (hb hby at_420) rfl ((if0 _ _).trans (teq hc232).2) ?_
                refine XS.iload X228.here hx rfl (hb hby at_423) rfl ?_
                exact k
              by_cases hc233 : v223 = (0 : Int32)
              · refine Go.st (U' := T228.setTop (mkF m 435 #[.val (.long q0), .second, .val (.long q1), .second, .val (.long q2), .second, .val (.long q3), .second, .val (.int p4), .val (.int v160), .val (.int v161), .val (.int v162), .val (.int v163), .val (.ref b164), .val (.ref b171), .val (.int v178), .val (.int v179), .val (.ref b180), .val (.ref b191), .val (.int v215), .unset, .val (.int v217), .val (.int v219), .val (.int v221), .val (.int v223), .val (.int v225), .val (.int v227), .val (.int v229)] [(.int v227)])) (fun t k => ?_) ?_
                · refine XS.ifYes X228.here hx rfl (pc0 := 425) (pc' := 433) rfl (hb hby at_425) rfl ((if0 _ _).trans (teq hc233).1) (by decide) (by decide) ?_
                  refine XS.iload X228.here hx rfl (hb hby at_433) rfl ?_
                  exact k
                by_cases hc234 : v227 = (0 : Int32)
                · refine Go.st (U' := T228.setTop (mkF m 448 #[.val (.long q0), .second, .val (.long q1), .second, .val (.long q2), .second, .val (.long q3), .second, .val (.int p4), .val (.int v160), .val (.int v161), .val (.int v162), .val (.int v163), .val (.ref b164), .val (.ref b171), .val (.int v178), .val (.int v179), .val (.ref b180), .val (.ref b191), .val (.int v215), .unset, .val (.int v217), .val (.int v219), .val (.int v221), .val (.int v223), .val (.int v225), .val (.int v227), .val (.int v229)] [(.int (0 : Int32))])) (fun t k => ?_) ?_
                  · refine XS.ifYes X228.here hx rfl (pc0 := 435) (pc' := 447) rfl (hb hby at_435) rfl ((if0 _ _).trans (teq hc234).1) (by decide) (by decide) ?_
                    refine XS.iconst X228.here hx rfl (hb hby at_447) ?_
                    exact k
                  exact J240 _ (by first | rfl | simp only [if_neg hc230, if_neg hc231, if_pos hc232, if_pos hc233, if_pos hc234])
                · refine Go.st (U' := T228.setTop (mkF m 440 #[.val (.long q0), .second, .val (.long q1), .second, .val (.long q2), .second, .val (.long q3), .second, .val (.int p4), .val (.int v160), .val (.int v161), .val (.int v162), .val (.int v163), .val (.ref b164), .val (.ref b171), .val (.int v178), .val (.int v179), .val (.ref b180), .val (.ref b191), .val (.int v215), .unset, .val (.int v217), .val (.int v219), .val (.int v221), .val (.int v223), .val (.int v225), .val (.int v227), .val (.int v229)] [(.int v229)])) (fun t k => ?_) ?_
                  · refine XS.ifNo X228.here hx rfl (hb hby at_435) rfl ((if0 _ _).trans (feq hc234).1) ?_
                    refine XS.iload X228.here hx rfl (hb hby at_438) rfl ?_
                    exact k
                  by_cases hc235 : v229 = (0 : Int32)
                  · refine Go.st (U' := T228.setTop (mkF m 448 #[.val (.long q0), .second, .val (.long q1), .second, .val (.long q2), .second, .val (.long q3), .second, .val (.int p4), .val (.int v160), .val (.int v161), .val (.int v162), .val (.int v163), .val (.ref b164), .val (.ref b171), .val (.int v178), .val (.int v179), .val (.ref b180), .val (.ref b191), .val (.int v215), .unset, .val (.int v217), .val (.int v219), .val (.int v221), .val (.int v223), .val (.int v225), .val (.int v227), .val (.int v229)] [(.int (0 : Int32))])) (fun t k => ?_) ?_
                    · refine XS.ifYes X228.here hx rfl (pc0 := 440) (pc' := 447) rfl (hb hby at_440) rfl ((if0 _ _).trans (teq hc235).1) (by decide) (by decide) ?_
                      refine XS.iconst X228.here hx rfl (hb hby at_447) ?_
                      exact k
                    exact J240 _ (by first | rfl | simp only [if_neg hc230, if_neg hc231, if_pos hc232, if_pos hc233, if_neg hc234, if_pos hc235])
                  · refine Go.st (U' := T228.setTop (mkF m 448 #[.val (.long q0), .second, .val (.long q1), .second, .val (.long q2), .second, .val (.long q3), .second, .val (.int p4), .val (.int v160), .val (.int v161), .val (.int v162), .val (.int v163), .val (.ref b164), .val (.ref b171), .val (.int v178), .val (.int v179), .val (.ref b180), .val (.ref b191), .val (.int v215), .unset, .val (.int v217), .val (.int v219), .val (.int v221), .val (.int v223), .val (.int v225), .val (.int v227), .val (.int v229)] [(.int (1 : Int32))])) (fun t k => ?_) ?_
                    · refine XS.ifNo X228.here hx rfl (hb hby at_440) rfl ((if0 _ _).trans (feq hc235).1) ?_
                      refine XS.iconst X228.here hx rfl (hb hby at_443) ?_
                      refine XS.goto X228.here hx rfl (pc0 := 444) (pc' := 448) rfl (hb hby at_444) (by decide) (by decide) ?_
                      exact k
                    exact J240 _ (by first | rfl | simp only [if_neg hc230, if_neg hc231, if_pos hc232, if_pos hc233, if_neg hc234, if_neg hc235])
              · refine Go.st (U' := T228.setTop (mkF m 430 #[.val (.long q0), .second, .val (.long q1), .second, .val (.long q2), .second, .val (.long q3), .second, .val (.int p4), .val (.int v160), .val (.int v161), .val (.int v162), .val (.int v163), .val (.ref b164), .val (.ref b171), .val (.int v178), .val (.int v179), .val (.ref b180), .val (.ref b191), .val (.int v215), .unset, .val (.int v217), .val (.int v219), .val (.int v221), .val (.int v223), .val (.int v225), .val (.int v227), .val (.int v229)] [(.int v225)])) (fun t k => ?_) ?_
                · refine XS.ifNo X228.here hx rfl (hb hby at_425) rfl ((if0 _ _).trans (feq hc233).1) ?_
                  refine XS.iload X228.here hx rfl (hb hby at_428) rfl ?_
                  exact k
                by_cases hc236 : v225 = (0 : Int32)
                · refine Go.st (U' := T228.setTop (mkF m 435 #[.val (.long q0), .second, .val (.long q1), .second, .val (.long q2), .second, .val (.long q3), .second, .val (.int p4), .val (.int v160), .val (.int v161), .val (.int v162), .val (.int v163), .val (.ref b164), .val (.ref b171), .val (.int v178), .val (.int v179), .val (.ref b180), .val (.ref b191), .val (.int v215), .unset, .val (.int v217), .val (.int v219), .val (.int v221), .val (.int v223), .val (.int v225), .val (.int v227), .val (.int v229)] [(.int v227)])) (fun t k => ?_) ?_
                  · refine XS.ifNo X228.here hx rfl (hb hby at_430) rfl ((if0 _ _).trans (teq hc236).2) ?_
                    refine XS.iload X228.here hx rfl (hb hby at_433) rfl ?_
                    exact k
                  by_cases hc237 : v227 = (0 : Int32)
                  · refine Go.st (U' := T228.setTop (mkF m 448 #[.val (.long q0), .second, .val (.long q1), .second, .val (.long q2), .second, .val (.long q3), .second, .val (.int p4), .val (.int v160), .val (.int v161), .val (.int v162), .val (.int v163), .val (.ref b164), .val (.ref b171), .val (.int v178), .val (.int v179), .val (.ref b180), .val (.ref b191), .val (.int v215), .unset, .val (.int v217), .val (.int v219), .val (.int v221), .val (.int v223), .val (.int v225), .val (.int v227), .val (.int v229)] [(.int (0 : Int32))])) (fun t k => ?_) ?_
                    · refine XS.ifYes X228.here hx rfl (pc0 := 435) (pc' := 447) rfl (hb hby at_435) rfl ((if0 _ _).trans (teq hc237).1) (by decide) (by decide) ?_
                      refine XS.iconst X228.here hx rfl (hb hby at_447) ?_
                      exact k
                    exact J240 _ (by first | rfl | simp only [if_neg hc230, if_neg hc231, if_pos hc232, if_neg hc233, if_pos hc236, if_pos hc237])
                  · refine Go.st (U' := T228.setTop (mkF m 440 #[.val (.long q0), .second, .val (.long q1), .second, .val (.long q2), .second, .val (.long q3), .second, .val (.int p4), .val (.int v160), .val (.int v161), .val (.int v162), .val (.int v163), .val (.ref b164), .val (.ref b171), .val (.int v178), .val (.int v179), .val (.ref b180), .val (.ref b191), .val (.int v215), .unset, .val (.int v217), .val (.int v219), .val (.int v221), .val (.int v223), .val (.int v225), .val (.int v227), .val (.int v229)] [(.int v229)])) (fun t k => ?_) ?_
                    · refine XS.ifNo X228.here hx rfl (hb hby at_435) rfl ((if0 _ _).trans (feq hc237).1) ?_
                      refine XS.iload X228.here hx rfl (hb hby at_438) rfl ?_
                      exact k
                    by_cases hc238 : v229 = (0 : Int32)
                    · refine Go.st (U' := T228.setTop (mkF m 448 #[.val (.long q0), .second, .val (.long q1), .second, .val (.long q2), .second, .val (.long q3), .second, .val (.int p4), .val (.int v160), .val (.int v161), .val (.int v162), .val (.int v163), .val (.ref b164), .val (.ref b171), .val (.int v178), .val (.int v179), .val (.ref b180), .val (.ref b191), .val (.int v215), .unset, .val (.int v217), .val (.int v219), .val (.int v221), .val (.int v223), .val (.int v225), .val (.int v227), .val (.int v229)] [(.int (0 : Int32))])) (fun t k => ?_) ?_
                      · refine XS.ifYes X228.here hx rfl (pc0 := 440) (pc' := 447) rfl (hb hby at_440) rfl ((if0 _ _).trans (teq hc238).1) (by decide) (by decide) ?_
                        refine XS.iconst X228.here hx rfl (hb hby at_447) ?_
                        exact k
                      exact J240 _ (by first | rfl | simp only [if_neg hc230, if_neg hc231, if_pos hc232, if_neg hc233, if_pos hc236, if_neg hc237, if_pos hc238])
                    · refine Go.st (U' := T228.setTop (mkF m 448 #[.val (.long q0), .second, .val (.long q1), .second, .val (.long q2), .second, .val (.long q3), .second, .val (.int p4), .val (.int v160), .val (.int v161), .val (.int v162), .val (.int v163), .val (.ref b164), .val (.ref b171), .val (.int v178), .val (.int v179), .val (.ref b180), .val (.ref b191), .val (.int v215), .unset, .val (.int v217), .val (.int v219), .val (.int v221), .val (.int v223), .val (.int v225), .val (.int v227), .val (.int v229)] [(.int (1 : Int32))])) (fun t k => ?_) ?_
                      · refine XS.ifNo X228.here hx rfl (hb hby at_440) rfl ((if0 _ _).trans (feq hc238).1) ?_
                        refine XS.iconst X228.here hx rfl (hb hby at_443) ?_
                        refine XS.goto X228.here hx rfl (pc0 := 444) (pc' := 448) rfl (hb hby at_444) (by decide) (by decide) ?_
                        exact k
                      exact J240 _ (by first | rfl | simp only [if_neg hc230, if_neg hc231, if_pos hc232, if_neg hc233, if_pos hc236, if_neg hc237, if_neg hc238])
                · refine Go.st (U' := T228.setTop (mkF m 448 #[.val (.long q0), .second, .val (.long q1), .second, .val (.long q2), .second, .val (.long q3), .second, .val (.int p4), .val (.int v160), .val (.int v161), .val (.int v162), .val (.int v163), .val (.ref b164), .val (.ref b171), .val (.int v178), .val (.int v179), .val (.ref b180), .val (.ref b191), .val (.int v215), .unset, .val (.int v217), .val (.int v219), .val (.int v221), .val (.int v223), .val (.int v225), .val (.int v227), .val (.int v229)] [(.int (1 : Int32))])) (fun t k => ?_) ?_
                  · refine XS.ifYes X228.here hx rfl (pc0 := 430) (pc' := 443) rfl (hb hby at_430) rfl ((if0 _ _).trans (feq hc236).2) (by decide) (by decide) ?_
                    refine XS.iconst X228.here hx rfl (hb hby at_443) ?_
                    refine XS.goto X228.here hx rfl (pc0 := 444) (pc' := 448) rfl (hb hby at_444) (by decide) (by decide) ?_
                    exact k
                  exact J240 _ (by first | rfl | simp only [if_neg hc230, if_neg hc231, if_pos hc232, if_neg hc233, if_neg hc236])
            · refine Go.st (U' := T228.setTop (mkF m 448 #[.val (.long q0), .second, .val (.long q1), .second, .val (.long q2), .second, .val (.long q3), .second, .val (.int p4), .val (.int v160), .val (.int v161), .val (.int v162), .val (.int v163), .val (.ref b164), .val (.ref b171), .val (.int v178), .val (.int v179), .val (.ref b180), .val (.ref b191), .val (.int v215), .unset, .val (.int v217), .val (.int v219), .val (.int v221), .val (.int v223), .val (.int v225), .val (.int v227), .val (.int v229)] [(.int (1 : Int32))])) (fun t k => ?_) ?_
              · refine XS.ifYes X228.here hx rfl (pc0 := 420) (pc' := 443) rfl (hb hby at_420) rfl ((if0 _ _).trans (feq hc232).2) (by decide) (by decide) ?_
                refine XS.iconst X228.here hx rfl (hb hby at_443) ?_
                refine XS.goto X228.here hx rfl (pc0 := 444) (pc' := 448) rfl (hb hby at_444) (by decide) (by decide) ?_
                exact k
              exact J240 _ (by first | rfl | simp only [if_neg hc230, if_neg hc231, if_neg hc232])
      refine Go.st (U' := T228.setTop (mkF m 462 #[.val (.long q0), .second, .val (.long q1), .second, .val (.long q2), .second, .val (.long q3), .second, .val (.int p4), .val (.int v160), .val (.int v161), .val (.int v162), .val (.int v163), .val (.ref b164), .val (.ref b171), .val (.int v178), .val (.int v179), .val (.ref b180), .val (.ref b191), .val (.int v215), .val (.int v239), .val (.int v217), .val (.int v219), .val (.int v221), .val (.int v223), .val (.int v225), .val (.int v227), .val (.int v229)] [(.int (1 : Int32))])) (fun t k => ?_) ?_
      · refine XS.istore X228.here hx rfl (hb hby at_448) rfl (l' := #[.val (.long q0), .second, .val (.long q1), .second, .val (.long q2), .second, .val (.long q3), .second, .val (.int p4), .val (.int v160), .val (.int v161), .val (.int v162), .val (.int v163), .val (.ref b164), .val (.ref b171), .val (.int v178), .val (.int v179), .val (.ref b180), .val (.ref b191), .val (.int v215), .val (.int v239), .val (.int v217), .val (.int v219), .val (.int v221), .val (.int v223), .val (.int v225), .val (.int v227), .val (.int v229)]) rfl ?_
        refine XS.iload X228.here hx rfl (hb hby at_450) rfl ?_
        refine XS.iload X228.here hx rfl (hb hby at_452) rfl ?_
        refine XS.icmpNo X228.here hx rfl (hb hby at_454) rfl (teq ((by subst hv_v215 hv_v217 hv_v219 hv_v221 hv_v223 hv_v225 hv_v227 hv_v229; rw [hv_v239]; exact own_final v160 v161 v162 v163 v178 v179 (((q0.toUInt64 >>> ((32 : Int32) &&& 0x3f).toInt64.toUInt64).toInt64).toInt32) (q0.toInt32) (((q2.toUInt64 >>> ((32 : Int32) &&& 0x3f).toInt64.toUInt64).toInt64).toInt32) (((q1.toUInt64 >>> ((32 : Int32) &&& 0x3f).toInt64.toUInt64).toInt64).toInt32) (q1.toInt32) (q2.toInt32) _ _ _ _ _ _ hct hla hlb hL202 hL203 hL204 hL205 hL206 hL207) : v215 = v239)).2 ?_
        refine XS.iconst X228.here hx rfl (hb hby at_457) ?_
        refine XS.goto X228.here hx rfl (pc0 := 458) (pc' := 462) rfl (hb hby at_458) (by decide) (by decide) ?_
        exact k
      refine own_ret (Q := Q0 Z q0 q1 q2 q3 p4 h0 n0) (v := some (.int (1 : Int32))) X228 hlk (fun h => by rw [hrt] at h; cases h) (by decide) (by decide) ?_ (fun fs hr => retN X228 hx (t := .boolean) hrt (by simp) (hb hby at_462) hr)
      rw [e228]
      exact ⟨rfl, N228⟩
set_option maxRecDepth 65536 in
set_option maxHeartbeats 40000000 in
theorem comes_1 {Post : Tables → Env → Array Value → State → Outcome → State → Prop} (hpost : ∀ tb e args s v u, (limb_1_1.after args s (.returned v) u = true ∧ limb_1_2.after args s (.returned v) u = true ∧ True) → FrameEnd s (.returned v) u (Jvm.fieldLocs frame_1_writes args s ++ Jvm.arrayLocs frame_1_arrays args s ++ Jvm.staticLocs frame_1_statics s) 24 128 → Post tb e args s (.returned v) u) :
    ArmFor flags0 classFile x code maxLocals ret World_1 tables_1 room_1 Calls_1 rest_1 Pre_1 Post := by
  intro l hfl _ _ p e ha hc hk s m args below hf hA hF happ hP
  obtain ⟨hcalls, hrest, hpre⟩ := hP
  obtain ⟨-, -, -, hnamed, -, -, -, hat⟩ := (Spec.applies_iff hf).mp happ
  obtain ⟨hg, hn⟩ := and_e (Cond.before_iff.mp (show (Jvm.Cond.and given_1 narrow_1).before args s = true from hpre))
  obtain ⟨gg1, gg2⟩ := and_e hg
  obtain ⟨gg3, gg4⟩ := and_e gg2
  obtain ⟨gg5, gg6⟩ := and_e gg4
  obtain ⟨gg7, gg8⟩ := and_e gg6
  obtain ⟨gg9, gg10⟩ := and_e gg8
  obtain ⟨w0, w1, w2, w3, w4, rfl⟩ : ∃ w0 w1 w2 w3 w4 : Value, args = #[w0, w1, w2, w3, w4] := by
    have hs : args.size = 5 := by simpa [Cond.value, given_1] using gg1
    obtain ⟨L⟩ := args
    match L, hs with
    | [w0, w1, w2, w3, w4], _ => exact ⟨w0, w1, w2, w3, w4, rfl⟩
  have hw := fun d (hd : d ∈ tables_1) => atoms_spec (ws := Jvm.Cond.code x code maxLocals ret :: tables_1) hat d (List.mem_cons_of_mem _ hd)
  obtain ⟨i0, ei0⟩ := isL_v gg3
  obtain rfl : w0 = (.long i0) := Option.some.inj ei0
  obtain ⟨i1, ei1⟩ := isL_v gg5
  obtain rfl : w1 = (.long i1) := Option.some.inj ei1
  obtain ⟨i2, ei2⟩ := isL_v gg7
  obtain rfl : w2 = (.long i2) := Option.some.inj ei2
  obtain ⟨i3, ei3⟩ := isL_v gg9
  obtain rfl : w3 = (.long i3) := Option.some.inj ei3
  obtain ⟨i4, ei4⟩ := is_v gg10
  obtain rfl : w4 = (.int i4) := Option.some.inj ei4
  obtain ⟨n, o, h1, h2, h3, _, L, rfl, ⟨rfl, N⟩, hq⟩ := rm0 l s _ hw tables_1 i0 i1 i2 i3 i4 s.heap s.heap.size (Nat.le_refl _)  p e ha hc hk s m _ below hf ((Spec.applies_iff_loose hf).mp happ).1 ⟨rfl, State.Warmed39.refl s, rfl⟩ trivial
  refine ⟨n, _, h1, h2, h3, hpost _ _ _ _ _ _ ⟨Cond.after_iff.mpr rfl, Cond.after_iff.mpr (eq_i res_at (Term.int_eval (1)) rfl), trivial⟩ ⟨hq.1, hq.2.1, (hq.2.2.sift fun y hy => Or.inr (N y hy)).mono (by decide) (by decide)⟩⟩
theorem main_1_1 : Claimed_1_1 := comes_1 fun _ _ _ _ _ _ h hF => ⟨h.1, hF⟩
theorem main_1_2 : Claimed_1_2 := comes_1 fun _ _ _ _ _ _ h hF => ⟨h.2.1, hF⟩
end Jvm.Pilot.@@N@@
namespace Jvm.Pilot.@@N@@
open Jvm Jvm.ClassFile Sem Op Lib Jvm.Free Jvm.Stand Jvm.Pilot.@@N@@.Jvm.D
/-! MADE BY PROGRAM (witnessworld.py) out of the Statement's table words and the real class files: 12 classes; the members and pool entries that the words name. The judged class is class 1, her method 2. -/
namespace start1
open Jvm.ClassFile
def u (s : String) : CpInfo := .utf8 (stringToUtf16 s)
/-- a pool by its gaps: so many unusable entries, then the entry; so many at the end -/
def gap : Nat → List CpInfo → List CpInfo
  | 0, r => r
  | n + 1, r => .unusable :: gap n r
def poolList (es : List (Nat × CpInfo)) (last : Nat) : List CpInfo := es.foldr (fun e r => gap e.1 (e.2 :: r)) (gap last [])
def pool (es : List (Nat × CpInfo)) (last : Nat) : Array CpInfo := ⟨poolList es last⟩
def fileOf (pool : Array CpInfo) (this : Nat) (attrs : Array Attribute := #[]) (ms : Array MethodInfo := #[]) (fl : Nat := 33) (sup : Nat := 0) (ifs : Array Nat := #[]) (fds : Array FieldInfo := #[]) : ClassFile where
  minorVersion := 0
  majorVersion := 65
  constantPool := pool
  accessFlags := fl
  thisClass := this
  superClass := sup
  interfaces := ifs
  fields := fds
  methods := ms
  attributes := attrs
def plain (name : String) (sup : Option ClassId) : Class where
  name := name
  kind := .ordinary
  loader := none
  accessFlags := 33
  super := sup
  interfaces := #[]
  cf := none
  fields := #[]
  methods := #[]
  instanceTypes := #[]
  staticTypes := #[]
  resolved := #[]
  callSites := []
  init := .initialized
  statics := none
  mirror := none

def pool0 : Array CpInfo := pool [(5, u "<init>"), (0, u "()V"), (1, .class_ 10), (1, u "java/lang/Object")] 113

def k0m0 : Method := { name := "<init>", desc := "()V", sig := { parameters := [], returnType := none }, accessFlags := 1, code := none }
/-- java/lang/Object -/
def k0 : Class := { plain "java/lang/Object" none with
  accessFlags := 33
  interfaces := #[]
  cf := some (fileOf pool0 8 #[] #[{ accessFlags := 1, nameIndex := 5, descriptorIndex := 6, attributes := #[] }] 33 0 #[] #[])
  fields := #[]
  methods := #[k0m0]
  instanceTypes := #[]
  staticTypes := #[]
  resolved := Array.replicate 124 none
  statics := none }

def pool1 : Array CpInfo := pool [(2, .class_ 4), (1, u "java/lang/Object"), (0, u "<init>"), (0, u "()V"), (0, .methodref 8 9), (0, .class_ 10), (0, .nameAndType 11 12), (0, u "java/lang/Math"), (0, u "min"), (0, u "(II)I"), (0, .methodref 14 15), (0, .class_ 16), (0, .nameAndType 17 18), (0, u "com/example/wdth/wdth/TypicalSequence"), (0, u "atMost"), (0, u "([III[III)Z"), (0, .methodref 20 21), (0, .class_ 22), (0, .nameAndType 23 24), (0, u "com/example/wdth/wdth/TypicalSequenceAtMostPinLaw"), (0, u "c"), (0, u "([II[IIII)Z"), (3, u "law"), (0, u "(JJJJI)Z")] 4

def k1m0 : Method := { name := "<init>", desc := "()V", sig := { parameters := [], returnType := none }, accessFlags := 1, code := none }
def k1c1 : Code := { maxStack := 5, maxLocals := 6, code := method_2_code, exceptionTable := #[], attributes := #[] }
def k1m1 : Method := { name := "c", desc := "([II[IIII)Z", sig := { parameters := [(.array .int), .int, (.array .int), .int, .int, .int], returnType := some .boolean }, accessFlags := 10, code := some k1c1 }
def k1c2 : Code := { maxStack := 7, maxLocals := 28, code := code, exceptionTable := #[], attributes := #[] }
def k1m2 : Method := { name := "law", desc := "(JJJJI)Z", sig := { parameters := [.long, .long, .long, .long, .int], returnType := some .boolean }, accessFlags := 9, code := some k1c2 }
/-- com/example/wdth/wdth/TypicalSequenceAtMostPinLaw -/
def k1 : Class := { plain "com/example/wdth/wdth/TypicalSequenceAtMostPinLaw" (some 0) with
  accessFlags := 49
  interfaces := #[]
  cf := some (fileOf pool1 20 #[] #[{ accessFlags := 1, nameIndex := 5, descriptorIndex := 6, attributes := #[] }, { accessFlags := 10, nameIndex := 23, descriptorIndex := 24, attributes := #[] }, { accessFlags := 9, nameIndex := 28, descriptorIndex := 29, attributes := #[] }] 49 2 #[] #[])
  fields := #[]
  methods := #[k1m0, k1m1, k1m2]
  instanceTypes := #[]
  staticTypes := #[]
  resolved := Array.replicate 34 none
  statics := none }

def pool2 : Array CpInfo := pool [(2, .class_ 4), (1, u "java/lang/Object"), (0, u "<init>"), (0, u "()V"), (16, .class_ 24), (0, u "com/example/wdth/wdth/TypicalSequence$Merge"), (45, .class_ 72), (1, u "com/example/wdth/wdth/TypicalSequence"), (0, u "atMost"), (0, u "([III[III)Z"), (16, u "FIRST"), (0, u "B"), (2, u "SECOND")] 53

def k2m0 : Method := { name := "<init>", desc := "()V", sig := { parameters := [], returnType := none }, accessFlags := 2, code := none }
def k2c1 : Code := { maxStack := 6, maxLocals := 13, code := prog_7_method_3_code, exceptionTable := #[], attributes := #[] }
def k2m1 : Method := { name := "atMost", desc := "([III[III)Z", sig := { parameters := [(.array .int), .int, .int, (.array .int), .int, .int], returnType := some .boolean }, accessFlags := 8, code := some k2c1 }
/-- com/example/wdth/wdth/TypicalSequence -/
def k2 : Class := { plain "com/example/wdth/wdth/TypicalSequence" (some 0) with
  accessFlags := 48
  interfaces := #[]
  cf := some (fileOf pool2 70 #[.nestMembers #[23]] #[{ accessFlags := 2, nameIndex := 5, descriptorIndex := 6, attributes := #[] }, { accessFlags := 8, nameIndex := 73, descriptorIndex := 74, attributes := #[] }] 48 2 #[] #[{ accessFlags := 24, nameIndex := 91, descriptorIndex := 92, attributes := #[] }, { accessFlags := 24, nameIndex := 95, descriptorIndex := 92, attributes := #[] }])
  fields := #[{ name := "FIRST", type := .byte, accessFlags := 24, slot := 0, constantValue := 0 }, { name := "SECOND", type := .byte, accessFlags := 24, slot := 1, constantValue := 0 }]
  methods := #[k2m0, k2m1]
  instanceTypes := #[]
  staticTypes := #[.byte, .byte]
  resolved := Array.replicate 149 none
  statics := none }

def pool3 : Array CpInfo := pool [(1, .class_ 2), (0, u "java/lang/Math"), (1, .class_ 6), (1, u "java/lang/Object"), (0, u "<init>"), (0, u "()V"), (89, .class_ 100), (1, u "java/lang/Math$RandomNumberGeneratorHolder"), (71, u "negativeZeroFloatBits"), (0, u "J"), (2, u "negativeZeroDoubleBits"), (24, u "min"), (43, u "$assertionsDisabled"), (0, u "Z"), (88, u "(II)I"), (2, u "twoToTheDoubleScaleDown"), (0, u "D"), (4, u "twoToTheDoubleScaleUp"), (9, u "E"), (3, u "PI"), (2, u "TAU"), (2, u "DEGREES_TO_RADIANS"), (0, u "RADIANS_TO_DEGREES")] 94

def k3m0 : Method := { name := "<init>", desc := "()V", sig := { parameters := [], returnType := none }, accessFlags := 2, code := none }
def k3c1 : Code := { maxStack := 2, maxLocals := 2, code := jdk_29_method_69_code, exceptionTable := #[], attributes := #[] }
def k3m1 : Method := { name := "min", desc := "(II)I", sig := { parameters := [.int, .int], returnType := some .int }, accessFlags := 9, code := some k3c1 }
/-- java/lang/Math -/
def k3 : Class := { plain "java/lang/Math" (some 0) with
  accessFlags := 49
  interfaces := #[]
  cf := some (fileOf pool3 1 #[.nestMembers #[98]] #[{ accessFlags := 2, nameIndex := 7, descriptorIndex := 8, attributes := #[] }, { accessFlags := 9, nameIndex := 201, descriptorIndex := 335, attributes := #[] }] 49 4 #[] #[{ accessFlags := 25, nameIndex := 354, descriptorIndex := 339, attributes := #[] }, { accessFlags := 25, nameIndex := 358, descriptorIndex := 339, attributes := #[] }, { accessFlags := 25, nameIndex := 361, descriptorIndex := 339, attributes := #[] }, { accessFlags := 26, nameIndex := 364, descriptorIndex := 339, attributes := #[] }, { accessFlags := 26, nameIndex := 365, descriptorIndex := 339, attributes := #[] }, { accessFlags := 26, nameIndex := 172, descriptorIndex := 173, attributes := #[] }, { accessFlags := 26, nameIndex := 176, descriptorIndex := 173, attributes := #[] }, { accessFlags := 8, nameIndex := 344, descriptorIndex := 339, attributes := #[] }, { accessFlags := 8, nameIndex := 338, descriptorIndex := 339, attributes := #[] }, { accessFlags := 4120, nameIndex := 245, descriptorIndex := 246, attributes := #[] }])
  fields := #[{ name := "E", type := .double, accessFlags := 25, slot := 0, constantValue := 0 }, { name := "PI", type := .double, accessFlags := 25, slot := 1, constantValue := 0 }, { name := "TAU", type := .double, accessFlags := 25, slot := 2, constantValue := 0 }, { name := "DEGREES_TO_RADIANS", type := .double, accessFlags := 26, slot := 3, constantValue := 0 }, { name := "RADIANS_TO_DEGREES", type := .double, accessFlags := 26, slot := 4, constantValue := 0 }, { name := "negativeZeroFloatBits", type := .long, accessFlags := 26, slot := 5, constantValue := 0 }, { name := "negativeZeroDoubleBits", type := .long, accessFlags := 26, slot := 6, constantValue := 0 }, { name := "twoToTheDoubleScaleUp", type := .double, accessFlags := 8, slot := 7, constantValue := 0 }, { name := "twoToTheDoubleScaleDown", type := .double, accessFlags := 8, slot := 8, constantValue := 0 }, { name := "$assertionsDisabled", type := .boolean, accessFlags := 4120, slot := 9, constantValue := 0 }]
  methods := #[k3m0, k3m1]
  instanceTypes := #[]
  staticTypes := #[.double, .double, .double, .double, .double, .long, .long, .double, .double, .boolean]
  resolved := Array.replicate 460 none
  statics := none }

def pool4 : Array CpInfo := pool [(1, u "java/lang/Cloneable"), (0, .class_ 1), (0, u "java/lang/Object"), (0, .class_ 3)] 3

/-- java/lang/Cloneable -/
def k4 : Class := { plain "java/lang/Cloneable" (some 0) with
  accessFlags := 1537
  interfaces := #[]
  cf := some (fileOf pool4 2 #[] #[] 1537 4 #[] #[])
  fields := #[]
  methods := #[]
  instanceTypes := #[]
  staticTypes := #[]
  resolved := Array.replicate 8 none
  statics := none }

def pool5 : Array CpInfo := pool [(1, u "java/io/Serializable"), (0, .class_ 1), (0, u "java/lang/Object"), (0, .class_ 3)] 3

/-- java/io/Serializable -/
def k5 : Class := { plain "java/io/Serializable" (some 0) with
  accessFlags := 1537
  interfaces := #[]
  cf := some (fileOf pool5 2 #[] #[] 1537 4 #[] #[])
  fields := #[]
  methods := #[]
  instanceTypes := #[]
  staticTypes := #[]
  resolved := Array.replicate 8 none
  statics := none }

/-- the primitive boolean -/
def k6 : Class := { plain "boolean" none with kind := .primitive 'Z', accessFlags := 0x411 }
/-- [Z -/
def k7 : Class := { plain "[Z" (some 0) with kind := .array 6 .boolean, interfaces := #[4, 5], accessFlags := 1041 }

/-- the primitive byte -/
def k8 : Class := { plain "byte" none with kind := .primitive 'B', accessFlags := 0x411 }
/-- [B -/
def k9 : Class := { plain "[B" (some 0) with kind := .array 8 .byte, interfaces := #[4, 5], accessFlags := 1041 }

/-- the primitive int -/
def k10 : Class := { plain "int" none with kind := .primitive 'I', accessFlags := 0x411 }
/-- [I -/
def k11 : Class := { plain "[I" (some 0) with kind := .array 10 .int, interfaces := #[4, 5], accessFlags := 1041 }

def heap : Heap := #[]
def classes : Array Class := #[k0, k1, k2, k3, k4, k5, k6, k7, k8, k9, k10, k11]
def interned : List (Array UInt16 × Addr) := []
def slotsUsed : Nat := 0
def theMethod : MethodId := ⟨1, 2⟩
def args0 : Array Value := #[.long 1, .long 2, .long 3, .long 4, .int 15]
def aboutOver (below : List Frame) : State where
  vm := { classes := classes, interned := interned.toArray }
  heap := heap
  slotsUsed := slotsUsed
  threads := #[{ frames := .invoking theMethod args0 :: below }]
def below0 : List Frame := [.native { method := ⟨0, 0⟩, args := #[] }]
def about1 : State := aboutOver below0
def p0 : Program := .bare "" "" ""
def e0 : Env := launch0.env 0 0 0
theorem w_frames : about1.frames = Frame.invoking theMethod args0 :: below0 := rfl
set_option maxRecDepth 65536 in
theorem w_args : argsFit about1.vm theMethod args0 = true := by decide +kernel
set_option maxRecDepth 65536 in
theorem w_heap : heapFits about1 = true := by decide +kernel
set_option maxRecDepth 65536 in
theorem w_runnable : about1.curStatus? = some .runnable := by decide +kernel
set_option maxRecDepth 65536 in
theorem w_alone : about1.alone = true := by decide +kernel
set_option maxRecDepth 65536 in
theorem w_named : about1.methodNamed? x = some theMethod := by decide +kernel
set_option maxRecDepth 65536 in
theorem w_hears : about1.hears theMethod below0 = true := by decide +kernel
set_option maxRecDepth 65536 in
theorem w_ripe : about1.ripe theMethod args0 below0 = true := by decide +kernel
theorem w_running : about1.status = .running := rfl
set_option maxRecDepth 65536 in
theorem w_room : about1.hasRoom e0.platform room_1 = true :=
  launch0.hasRoom_least _ room_1 (by decide +kernel) (by decide +kernel) (by decide +kernel) (by decide +kernel) (by decide +kernel) (by decide +kernel)
theorem allAtoms_all (ts : List Jvm.Cond) (a : Array Jvm.Value) (st : Jvm.State) : (allAtoms ts).before a st = ts.all (fun c => c.before a st) := by
  induction ts with
  | nil => rfl
  | cons c t ih =>
    show (Jvm.Cond.and c (allAtoms t)).before a st = _
    rw [Jvm.Cond.before_and, ih, List.all_cons]
def words1 : List Jvm.Cond := Jvm.Cond.code x code maxLocals ret :: tables_1
/-- a 'code' word, met by the world's own term for the bytes: nothing is compared byte by byte -/
theorem code_word {y : MethodName} {bytes : ByteArray} {mx : Nat} {rt : Option FieldType} {a : Array Value} {s : State} {m : MethodId} {meth : Method} {c : Code} (h1 : s.methodNamed? y = some m) (h2 : s.vm.method? m = some meth) (h3 : meth.code = some c) (h4 : c.code = bytes)
    (h5 : (c.maxLocals == mx && c.exceptionTable.isEmpty && decide (c.maxStack ≤ mostOperands) && decide (meth.sig.returnType = rt) && !meth.locks && decide (parseMethodDescriptor y.desc = some meth.sig)) = true) : (Jvm.Cond.code y bytes mx rt).before a s = true := by
  simp only [Bool.and_eq_true, beq_iff_eq, Bool.not_eq_true', decide_eq_true_eq] at h5
  obtain ⟨⟨⟨⟨⟨g1, g2⟩, g3⟩, g4⟩, g5⟩, g6⟩ := h5
  simp [Cond.before, Cond.holds, Cond.value, h1, h2, h3, h4, g1, g2, g3, g4, g5, g6]
def isCode : Jvm.Cond → Bool
  | .code _ _ _ _ => true
  | _ => false
theorem all_split {L : List Jvm.Cond} {P : Jvm.Cond → Bool} (h1 : L.all (fun c => isCode c || P c) = true) (h2 : ∀ c ∈ L.filter isCode, P c = true) : L.all P = true := by
  refine List.all_eq_true.mpr fun c hc => ?_
  have h := List.all_eq_true.mp h1 c hc
  rcases Bool.eq_false_or_eq_true (isCode c) with hi | hi
  · exact h2 c (List.mem_filter.mpr ⟨hc, hi⟩)
  · simpa [hi] using h
set_option maxRecDepth 65536 in
theorem w_c0 : (Jvm.Cond.code x code maxLocals ret).before args0 about1 = true := code_word (m := ⟨1, 2⟩) (meth := k1m2) (c := k1c2) (by decide +kernel) rfl rfl rfl (by decide +kernel)
set_option maxRecDepth 65536 in
theorem w_c1 : (Jvm.Cond.code ({ cls := "com/example/wdth/wdth/TypicalSequence", name := "atMost", desc := "([III[III)Z" } : Jvm.MethodName) prog_7_method_3_code (13 : Nat) (Option.some Jvm.ClassFile.FieldType.boolean)).before args0 about1 = true := code_word (m := ⟨2, 1⟩) (meth := k2m1) (c := k2c1) (by decide +kernel) rfl rfl rfl (by decide +kernel)
set_option maxRecDepth 65536 in
theorem w_c2 : (Jvm.Cond.code ({ cls := "com/example/wdth/wdth/TypicalSequenceAtMostPinLaw", name := "c", desc := "([II[IIII)Z" } : Jvm.MethodName) method_2_code (6 : Nat) (Option.some Jvm.ClassFile.FieldType.boolean)).before args0 about1 = true := code_word (m := ⟨1, 1⟩) (meth := k1m1) (c := k1c1) (by decide +kernel) rfl rfl rfl (by decide +kernel)
set_option maxRecDepth 65536 in
theorem w_c3 : (Jvm.Cond.code ({ cls := "java/lang/Math", name := "min", desc := "(II)I" } : Jvm.MethodName) jdk_29_method_69_code (2 : Nat) (Option.some Jvm.ClassFile.FieldType.int)).before args0 about1 = true := code_word (m := ⟨3, 1⟩) (meth := k3m1) (c := k3c1) (by decide +kernel) rfl rfl rfl (by decide +kernel)
def codes1 : List Jvm.Cond := [Jvm.Cond.code x code maxLocals ret, Jvm.Cond.code ({ cls := "com/example/wdth/wdth/TypicalSequence", name := "atMost", desc := "([III[III)Z" } : Jvm.MethodName) prog_7_method_3_code (13 : Nat) (Option.some Jvm.ClassFile.FieldType.boolean), Jvm.Cond.code ({ cls := "com/example/wdth/wdth/TypicalSequenceAtMostPinLaw", name := "c", desc := "([II[IIII)Z" } : Jvm.MethodName) method_2_code (6 : Nat) (Option.some Jvm.ClassFile.FieldType.boolean), Jvm.Cond.code ({ cls := "java/lang/Math", name := "min", desc := "(II)I" } : Jvm.MethodName) jdk_29_method_69_code (2 : Nat) (Option.some Jvm.ClassFile.FieldType.int)]
set_option maxRecDepth 65536 in
theorem codes_eq : words1.filter isCode = codes1 := rfl
theorem w_codes : ∀ c ∈ words1.filter isCode, c.before args0 about1 = true := by
  rw [codes_eq]
  intro c hc
  simp only [codes1, List.mem_cons, List.not_mem_nil, or_false] at hc
  rcases hc with rfl | rfl | rfl | rfl
  · exact w_c0
  · exact w_c1
  · exact w_c2
  · exact w_c3
set_option maxRecDepth 65536 in
theorem w_t1 : words1.all (fun c => isCode c || c.before args0 about1) = true := by decide +kernel
theorem w_tables : (allAtoms (Jvm.Cond.code x code maxLocals ret :: tables_1)).before args0 about1 = true := by
  rw [allAtoms_all]
  show words1.all (fun c => c.before args0 about1) = true
  refine all_split ?_ w_codes
  rw [w_t1]
set_option maxRecDepth 65536 in
theorem w_case : (Jvm.Cond.and given_1 narrow_1).before args0 about1 = true := by decide +kernel
theorem w_applies : (headSpec (Jvm.Cond.code x code maxLocals ret :: tables_1) room_1).applies x e0.platform about1 = true :=
  (Spec.applies_iff w_frames).mpr ⟨w_running, w_runnable, w_alone, w_named, w_hears, w_ripe, w_room, w_tables⟩
theorem atStart : AtStart classFile x code maxLocals ret World_1 tables_1 room_1 Calls_1 rest_1 Pre_1 launch0 p0 e0 about1 theMethod args0 below0 :=
  ⟨lists_1, trivial, launch0.admits_env _ _ _, launch0.least_env, fairChoices_fair.cas, fairChoices_fair.clock, w_frames, w_args, w_heap, w_applies, trivial, trivial, w_case⟩
end start1
theorem witness_1 : WitnessClaimed_1 := ⟨start1.p0, start1.e0, start1.about1, start1.theMethod, start1.args0, start1.below0, start1.atStart⟩
end Jvm.Pilot.@@N@@
