import JvmDerived
import JvmDerived.Pilot.@@N@@Statement
import JvmDerived.Pilot.@@N@@Code
set_option linter.unusedVariables false
set_option linter.unusedSimpArgs false
namespace Jvm.Pilot.@@N@@
open Jvm Jvm.ClassFile Sem Op Lib Jvm.Free Jvm.Stand Jvm.LawKit Jvm.RoadKit Bundle Jvm.Pilot.@@N@@.Jvm.D
theorem own_w {Z : State} {a0 : Array Value} {d : Jvm.Cond} (hw : ∀ d ∈ tables_1, d.before a0 Z = true) (i : Nat) (h : tables_1[i]? = some d) : d.before a0 Z = true := hw d (List.mem_of_getElem? h)
/-- from U the run comes to an end of which G says -/
def Go (p : Program) (e : Env) (below : List Frame) (G : State → Outcome → Prop) (U : State) : Prop := ∃ s₂ o, Steps p.tables e below U s₂ ∧ s₂.status = .running ∧ Ended s₂ below o ∧ G s₂ o
theorem Go.st {p : Program} {e : Env} {below : List Frame} {G : State → Outcome → Prop} {U U' : State} (h : ∀ t, Steps p.tables e below U' t → Steps p.tables e below U t) (k : Go p e below G U') : Go p e below G U := by
  obtain ⟨t, o, h1, r⟩ := k
  exact ⟨t, o, h _ h1, r⟩
theorem Go.tr {p : Program} {e : Env} {below : List Frame} {G : State → Outcome → Prop} {U U' : State} (h : Steps p.tables e below U U') (k : Go p e below G U') : Go p e below G U := by
  obtain ⟨t, o, h1, r⟩ := k
  exact ⟨t, o, h.trans h1, r⟩
theorem Go.join {p : Program} {e : Env} {below : List Frame} {G : State → Outcome → Prop} {U : State} {α : Type} {P : α → Prop} {F : α → State} (h2 : (∀ v, P v → Go p e below G (F v)) → Go p e below G U) (h1 : ∀ v, P v → Go p e below G (F v)) : Go p e below G U := h2 h1
theorem Go.join2 {p : Program} {e : Env} {below : List Frame} {G : State → Outcome → Prop} {U : State} {α β : Type} {P : α → β → Prop} {F : α → β → State} (h2 : (∀ v w, P v w → Go p e below G (F v w)) → Go p e below G U) (h1 : ∀ v w, P v w → Go p e below G (F v w)) : Go p e below G U := h2 h1
theorem Go.join3 {p : Program} {e : Env} {below : List Frame} {G : State → Outcome → Prop} {U : State} {α β γ : Type} {P : α → β → γ → Prop} {F : α → β → γ → State} (h2 : (∀ v w u, P v w u → Go p e below G (F v w u)) → Go p e below G U) (h1 : ∀ v w u, P v w u → Go p e below G (F v w u)) : Go p e below G U := h2 h1
theorem own_ret {p : Program} {l : Launch} {e : Env} {R : Room} {s : State} {m : MethodId} {args : Array Value} {below : List Frame} {meth : Method} {c : Code} {T U : State} {locs : List Loc} {cells slots : Nat} {Q : Option Value → Heap → List Loc → Prop} {rc rs : Nat} {v : Option Value}
    (X : Stand p l e R s m args below meth c T locs cells slots) (hlk : meth.locks = false) (hv : meth.sig.returnType = none → v = none) (hc : cells ≤ rc) (hs : slots ≤ rs) (hq : Q v T.heap locs)
    (st : ∀ fs, (∀ (f : JFrame) (acts : List Action), f.method = m → f.locked = none → f.entered = [] → (doReturn e (T.setTop f) acts v).1 = T.setFrames fs) → Steps p.tables e below U (T.setFrames fs)) :
    Go p e below (fun s₂ o => ∃ v L, o = .returned v ∧ Q v s₂.heap L ∧ FrameEnd s o s₂ L rc rs) U := by
  obtain ⟨fs, hr, hrun, hended, hW, hsame⟩ := X.leave (v := v) hv hlk
  exact ⟨_, _, st fs hr, hrun, hended, _, _, rfl, hq, ⟨_, rfl⟩, hW, hsame.mono hc hs⟩
theorem own_getI (L : List Int32) (i : Nat) : (L.map Value.int).getD i (.int 0) = .int (L.getD i 0) := by
  induction L generalizing i with
  | nil => rfl
  | cons a r ih => cases i with
    | zero => rfl
    | succ i => exact ih i
theorem own_getJ (L : List Int64) (i : Nat) : (L.map Value.long).getD i (.long 0) = .long (L.getD i 0) := by
  induction L generalizing i with
  | nil => rfl
  | cons a r ih => cases i with
    | zero => rfl
    | succ i => exact ih i
theorem own_getP {P : Int32 → Prop} (h0 : P 0) (L : List Int32) (h : ∀ x ∈ L, P x) (i : Nat) : P (L.getD i 0) := by
  induction L generalizing i with
  | nil => exact h0
  | cons a r ih => cases i with
    | zero => exact h a (List.mem_cons_self ..)
    | succ i => exact ih (fun x hx => h x (List.mem_cons_of_mem _ hx)) i
theorem own_mk (x m n : Int32) (k : Nat) (hk : k ≤ 31) (hm : m.toBitVec.toNat = 2 ^ k - 1) (hn : ((2 ^ k : Nat) : Int) ≤ n.toInt) : ¬ (x &&& m) < 0 ∧ (x &&& m) < n := by
  have h := c_mask x m k hk hm
  have h2 : (0 : Int) < ((2 ^ k : Nat) : Int) := Int.ofNat_lt.mpr (Nat.two_pow_pos k)
  have h3 := Int.emod_nonneg x.toInt (Int.ne_of_gt h2)
  have h4 := Int.emod_lt_of_pos x.toInt h2
  rw [Int32.lt_iff_toInt_lt, Int32.lt_iff_toInt_lt, h]
  exact ⟨Int.not_lt.mpr h3, Int.lt_of_lt_of_le h4 hn⟩
abbrev own_y0 : MethodName := ⟨"com/example/hopwright/hopwright/crypto/Field25519", "carry", "([J[J)V"⟩
abbrev own_y1 : MethodName := ⟨"com/example/hopwright/hopwright/crypto/Field25519CarryPinLaw", "modM", "(JJJJJ)J"⟩
theorem d1_0 : decode prog_21_method_12_code 0 = .ok (.aload_n 1, 1) := by decide +kernel
theorem d1_1 : decode prog_21_method_12_code 1 = .ok (.iconst 0, 1) := by decide +kernel
theorem d1_2 : decode prog_21_method_12_code 2 = .ok (.laload, 1) := by decide +kernel
theorem d1_3 : decode prog_21_method_12_code 3 = .ok (.lstore_n 2, 1) := by decide +kernel
theorem d1_4 : decode prog_21_method_12_code 4 = .ok (.aload_n 1, 1) := by decide +kernel
theorem d1_5 : decode prog_21_method_12_code 5 = .ok (.iconst 1, 1) := by decide +kernel
theorem d1_6 : decode prog_21_method_12_code 6 = .ok (.laload, 1) := by decide +kernel
theorem d1_7 : decode prog_21_method_12_code 7 = .ok (.lstore 4, 2) := by decide +kernel
theorem d1_9 : decode prog_21_method_12_code 9 = .ok (.aload_n 1, 1) := by decide +kernel
theorem d1_10 : decode prog_21_method_12_code 10 = .ok (.iconst 2, 1) := by decide +kernel
theorem d1_11 : decode prog_21_method_12_code 11 = .ok (.laload, 1) := by decide +kernel
theorem d1_12 : decode prog_21_method_12_code 12 = .ok (.lstore 6, 2) := by decide +kernel
theorem d1_14 : decode prog_21_method_12_code 14 = .ok (.aload_n 1, 1) := by decide +kernel
theorem d1_15 : decode prog_21_method_12_code 15 = .ok (.iconst 3, 1) := by decide +kernel
theorem d1_16 : decode prog_21_method_12_code 16 = .ok (.laload, 1) := by decide +kernel
theorem d1_17 : decode prog_21_method_12_code 17 = .ok (.lstore 8, 2) := by decide +kernel
theorem d1_19 : decode prog_21_method_12_code 19 = .ok (.aload_n 1, 1) := by decide +kernel
theorem d1_20 : decode prog_21_method_12_code 20 = .ok (.iconst 4, 1) := by decide +kernel
theorem d1_21 : decode prog_21_method_12_code 21 = .ok (.laload, 1) := by decide +kernel
theorem d1_22 : decode prog_21_method_12_code 22 = .ok (.lstore 10, 2) := by decide +kernel
theorem d1_24 : decode prog_21_method_12_code 24 = .ok (.lload 4, 2) := by decide +kernel
theorem d1_26 : decode prog_21_method_12_code 26 = .ok (.lload_n 2, 1) := by decide +kernel
theorem d1_27 : decode prog_21_method_12_code 27 = .ok (.bipush 51, 2) := by decide +kernel
theorem d1_29 : decode prog_21_method_12_code 29 = .ok (.lushr, 1) := by decide +kernel
theorem d1_30 : decode prog_21_method_12_code 30 = .ok (.ladd, 1) := by decide +kernel
theorem d1_31 : decode prog_21_method_12_code 31 = .ok (.lstore 4, 2) := by decide +kernel
theorem d1_33 : decode prog_21_method_12_code 33 = .ok (.lload_n 2, 1) := by decide +kernel
theorem d1_34 : decode prog_21_method_12_code 34 = .ok (.ldc2_w 17, 3) := by decide +kernel
theorem d1_37 : decode prog_21_method_12_code 37 = .ok (.land, 1) := by decide +kernel
theorem d1_38 : decode prog_21_method_12_code 38 = .ok (.lstore_n 2, 1) := by decide +kernel
theorem d1_39 : decode prog_21_method_12_code 39 = .ok (.lload 6, 2) := by decide +kernel
theorem d1_41 : decode prog_21_method_12_code 41 = .ok (.lload 4, 2) := by decide +kernel
theorem d1_43 : decode prog_21_method_12_code 43 = .ok (.bipush 51, 2) := by decide +kernel
theorem d1_45 : decode prog_21_method_12_code 45 = .ok (.lushr, 1) := by decide +kernel
theorem d1_46 : decode prog_21_method_12_code 46 = .ok (.ladd, 1) := by decide +kernel
theorem d1_47 : decode prog_21_method_12_code 47 = .ok (.lstore 6, 2) := by decide +kernel
theorem d1_49 : decode prog_21_method_12_code 49 = .ok (.lload 4, 2) := by decide +kernel
theorem d1_51 : decode prog_21_method_12_code 51 = .ok (.ldc2_w 17, 3) := by decide +kernel
theorem d1_54 : decode prog_21_method_12_code 54 = .ok (.land, 1) := by decide +kernel
theorem d1_55 : decode prog_21_method_12_code 55 = .ok (.lstore 4, 2) := by decide +kernel
theorem d1_57 : decode prog_21_method_12_code 57 = .ok (.lload 8, 2) := by decide +kernel
theorem d1_59 : decode prog_21_method_12_code 59 = .ok (.lload 6, 2) := by decide +kernel
theorem d1_61 : decode prog_21_method_12_code 61 = .ok (.bipush 51, 2) := by decide +kernel
theorem d1_63 : decode prog_21_method_12_code 63 = .ok (.lushr, 1) := by decide +kernel
theorem d1_64 : decode prog_21_method_12_code 64 = .ok (.ladd, 1) := by decide +kernel
theorem d1_65 : decode prog_21_method_12_code 65 = .ok (.lstore 8, 2) := by decide +kernel
theorem d1_67 : decode prog_21_method_12_code 67 = .ok (.lload 6, 2) := by decide +kernel
theorem d1_69 : decode prog_21_method_12_code 69 = .ok (.ldc2_w 17, 3) := by decide +kernel
theorem d1_72 : decode prog_21_method_12_code 72 = .ok (.land, 1) := by decide +kernel
theorem d1_73 : decode prog_21_method_12_code 73 = .ok (.lstore 6, 2) := by decide +kernel
theorem d1_75 : decode prog_21_method_12_code 75 = .ok (.lload 10, 2) := by decide +kernel
theorem d1_77 : decode prog_21_method_12_code 77 = .ok (.lload 8, 2) := by decide +kernel
theorem d1_79 : decode prog_21_method_12_code 79 = .ok (.bipush 51, 2) := by decide +kernel
theorem d1_81 : decode prog_21_method_12_code 81 = .ok (.lushr, 1) := by decide +kernel
theorem d1_82 : decode prog_21_method_12_code 82 = .ok (.ladd, 1) := by decide +kernel
theorem d1_83 : decode prog_21_method_12_code 83 = .ok (.lstore 10, 2) := by decide +kernel
theorem d1_85 : decode prog_21_method_12_code 85 = .ok (.lload 8, 2) := by decide +kernel
theorem d1_87 : decode prog_21_method_12_code 87 = .ok (.ldc2_w 17, 3) := by decide +kernel
theorem d1_90 : decode prog_21_method_12_code 90 = .ok (.land, 1) := by decide +kernel
theorem d1_91 : decode prog_21_method_12_code 91 = .ok (.lstore 8, 2) := by decide +kernel
theorem d1_93 : decode prog_21_method_12_code 93 = .ok (.lload_n 2, 1) := by decide +kernel
theorem d1_94 : decode prog_21_method_12_code 94 = .ok (.ldc2_w 23, 3) := by decide +kernel
theorem d1_97 : decode prog_21_method_12_code 97 = .ok (.lload 10, 2) := by decide +kernel
theorem d1_99 : decode prog_21_method_12_code 99 = .ok (.bipush 51, 2) := by decide +kernel
theorem d1_101 : decode prog_21_method_12_code 101 = .ok (.lushr, 1) := by decide +kernel
theorem d1_102 : decode prog_21_method_12_code 102 = .ok (.lmul, 1) := by decide +kernel
theorem d1_103 : decode prog_21_method_12_code 103 = .ok (.ladd, 1) := by decide +kernel
theorem d1_104 : decode prog_21_method_12_code 104 = .ok (.lstore_n 2, 1) := by decide +kernel
theorem d1_105 : decode prog_21_method_12_code 105 = .ok (.lload 10, 2) := by decide +kernel
theorem d1_107 : decode prog_21_method_12_code 107 = .ok (.ldc2_w 17, 3) := by decide +kernel
theorem d1_110 : decode prog_21_method_12_code 110 = .ok (.land, 1) := by decide +kernel
theorem d1_111 : decode prog_21_method_12_code 111 = .ok (.lstore 10, 2) := by decide +kernel
theorem d1_113 : decode prog_21_method_12_code 113 = .ok (.lload 4, 2) := by decide +kernel
theorem d1_115 : decode prog_21_method_12_code 115 = .ok (.lload_n 2, 1) := by decide +kernel
theorem d1_116 : decode prog_21_method_12_code 116 = .ok (.bipush 51, 2) := by decide +kernel
theorem d1_118 : decode prog_21_method_12_code 118 = .ok (.lushr, 1) := by decide +kernel
theorem d1_119 : decode prog_21_method_12_code 119 = .ok (.ladd, 1) := by decide +kernel
theorem d1_120 : decode prog_21_method_12_code 120 = .ok (.lstore 4, 2) := by decide +kernel
theorem d1_122 : decode prog_21_method_12_code 122 = .ok (.lload_n 2, 1) := by decide +kernel
theorem d1_123 : decode prog_21_method_12_code 123 = .ok (.ldc2_w 17, 3) := by decide +kernel
theorem d1_126 : decode prog_21_method_12_code 126 = .ok (.land, 1) := by decide +kernel
theorem d1_127 : decode prog_21_method_12_code 127 = .ok (.lstore_n 2, 1) := by decide +kernel
theorem d1_128 : decode prog_21_method_12_code 128 = .ok (.aload_n 0, 1) := by decide +kernel
theorem d1_129 : decode prog_21_method_12_code 129 = .ok (.iconst 0, 1) := by decide +kernel
theorem d1_130 : decode prog_21_method_12_code 130 = .ok (.lload_n 2, 1) := by decide +kernel
theorem d1_131 : decode prog_21_method_12_code 131 = .ok (.lastore, 1) := by decide +kernel
theorem d1_132 : decode prog_21_method_12_code 132 = .ok (.aload_n 0, 1) := by decide +kernel
theorem d1_133 : decode prog_21_method_12_code 133 = .ok (.iconst 1, 1) := by decide +kernel
theorem d1_134 : decode prog_21_method_12_code 134 = .ok (.lload 4, 2) := by decide +kernel
theorem d1_136 : decode prog_21_method_12_code 136 = .ok (.lastore, 1) := by decide +kernel
theorem d1_137 : decode prog_21_method_12_code 137 = .ok (.aload_n 0, 1) := by decide +kernel
theorem d1_138 : decode prog_21_method_12_code 138 = .ok (.iconst 2, 1) := by decide +kernel
theorem d1_139 : decode prog_21_method_12_code 139 = .ok (.lload 6, 2) := by decide +kernel
theorem d1_141 : decode prog_21_method_12_code 141 = .ok (.lastore, 1) := by decide +kernel
theorem d1_142 : decode prog_21_method_12_code 142 = .ok (.aload_n 0, 1) := by decide +kernel
theorem d1_143 : decode prog_21_method_12_code 143 = .ok (.iconst 3, 1) := by decide +kernel
theorem d1_144 : decode prog_21_method_12_code 144 = .ok (.lload 8, 2) := by decide +kernel
theorem d1_146 : decode prog_21_method_12_code 146 = .ok (.lastore, 1) := by decide +kernel
theorem d1_147 : decode prog_21_method_12_code 147 = .ok (.aload_n 0, 1) := by decide +kernel
theorem d1_148 : decode prog_21_method_12_code 148 = .ok (.iconst 4, 1) := by decide +kernel
theorem d1_149 : decode prog_21_method_12_code 149 = .ok (.lload 10, 2) := by decide +kernel
theorem d1_151 : decode prog_21_method_12_code 151 = .ok (.lastore, 1) := by decide +kernel
theorem d1_152 : decode prog_21_method_12_code 152 = .ok (.return_, 1) := by decide +kernel
theorem pn_0 : plainName "com/example/hopwright/hopwright/crypto/Field25519" = true := by first | (simp [plainName, overriddenIn]; done) | decide +kernel
theorem ef1 (m : MethodId) (a1 : Addr) (a2 : Addr) : entryFrame m #[(.ref a1), (.ref a2)] 12 = mkF m 0 #[.val (.ref a1), .val (.ref a2), .unset, .unset, .unset, .unset, .unset, .unset, .unset, .unset, .unset, .unset] [] := by first | (simp [entryFrame, mkF, argsToLocals, Value.category]; done) | rfl
abbrev own_R0_0_0_0 : Room := { frames := 0, cells := 0, slots := 0, locals := 0 }
def own_h0 (x0 x1 x2 x3 x4 : Int64) : Int64 := (((x0 &&& (2251799813685247 : Int64)) + ((19 : Int64) * (((x4 + (((x3 + (((x2 + (((x1 + ((x0.toUInt64 >>> ((51 : Int32) &&& 0x3f).toInt64.toUInt64).toInt64)).toUInt64 >>> ((51 : Int32) &&& 0x3f).toInt64.toUInt64).toInt64)).toUInt64 >>> ((51 : Int32) &&& 0x3f).toInt64.toUInt64).toInt64)).toUInt64 >>> ((51 : Int32) &&& 0x3f).toInt64.toUInt64).toInt64)).toUInt64 >>> ((51 : Int32) &&& 0x3f).toInt64.toUInt64).toInt64))) &&& (2251799813685247 : Int64))
def own_h1 (x0 x1 x2 x3 x4 : Int64) : Int64 := (((x1 + ((x0.toUInt64 >>> ((51 : Int32) &&& 0x3f).toInt64.toUInt64).toInt64)) &&& (2251799813685247 : Int64)) + ((((x0 &&& (2251799813685247 : Int64)) + ((19 : Int64) * (((x4 + (((x3 + (((x2 + (((x1 + ((x0.toUInt64 >>> ((51 : Int32) &&& 0x3f).toInt64.toUInt64).toInt64)).toUInt64 >>> ((51 : Int32) &&& 0x3f).toInt64.toUInt64).toInt64)).toUInt64 >>> ((51 : Int32) &&& 0x3f).toInt64.toUInt64).toInt64)).toUInt64 >>> ((51 : Int32) &&& 0x3f).toInt64.toUInt64).toInt64)).toUInt64 >>> ((51 : Int32) &&& 0x3f).toInt64.toUInt64).toInt64))).toUInt64 >>> ((51 : Int32) &&& 0x3f).toInt64.toUInt64).toInt64))
def own_h2 (x0 x1 x2 x3 x4 : Int64) : Int64 := ((x2 + (((x1 + ((x0.toUInt64 >>> ((51 : Int32) &&& 0x3f).toInt64.toUInt64).toInt64)).toUInt64 >>> ((51 : Int32) &&& 0x3f).toInt64.toUInt64).toInt64)) &&& (2251799813685247 : Int64))
def own_h3 (x0 x1 x2 x3 x4 : Int64) : Int64 := ((x3 + (((x2 + (((x1 + ((x0.toUInt64 >>> ((51 : Int32) &&& 0x3f).toInt64.toUInt64).toInt64)).toUInt64 >>> ((51 : Int32) &&& 0x3f).toInt64.toUInt64).toInt64)).toUInt64 >>> ((51 : Int32) &&& 0x3f).toInt64.toUInt64).toInt64)) &&& (2251799813685247 : Int64))
def own_h4 (x0 x1 x2 x3 x4 : Int64) : Int64 := ((x4 + (((x3 + (((x2 + (((x1 + ((x0.toUInt64 >>> ((51 : Int32) &&& 0x3f).toInt64.toUInt64).toInt64)).toUInt64 >>> ((51 : Int32) &&& 0x3f).toInt64.toUInt64).toInt64)).toUInt64 >>> ((51 : Int32) &&& 0x3f).toInt64.toUInt64).toInt64)).toUInt64 >>> ((51 : Int32) &&& 0x3f).toInt64.toUInt64).toInt64)) &&& (2251799813685247 : Int64))
def Q1 (Z : State) (a1 : Addr) (a2 : Addr) (k1 : ClassId) (k2 : ClassId) (x0 : Int64) (x1 : Int64) (x2 : Int64) (x3 : Int64) (x4 : Int64) (z0 : Int64) (z1 : Int64) (z2 : Int64) (z3 : Int64) (z4 : Int64) (h0 : Heap) (n0 : Nat) (v : Option Value) (h : Heap) (L : List Loc) : Prop := v = none ∧ Fr n0 L ∧ Keep h0 h [a1] ∧ Arv Z h a1 k1 .long (5 : Int32) [(.long (own_h0 x0 x1 x2 x3 x4)), (.long (own_h1 x0 x1 x2 x3 x4)), (.long (own_h2 x0 x1 x2 x3 x4)), (.long (own_h3 x0 x1 x2 x3 x4)), (.long (own_h4 x0 x1 x2 x3 x4))] (.long (0 : Int64))
set_option maxRecDepth 65536 in
set_option maxHeartbeats 40000000 in
theorem rm1 (l : Launch) (Z : State) (a0 : Array Value) (hw : ∀ d ∈ tables_1, d.before a0 Z = true) (ws : List Jvm.Cond) (a1 : Addr) (a2 : Addr) (k1 : ClassId) (k2 : ClassId) (x0 : Int64) (x1 : Int64) (x2 : Int64) (x3 : Int64) (x4 : Int64) (z0 : Int64) (z1 : Int64) (z2 : Int64) (z3 : Int64) (z4 : Int64) (h0 : Heap) (n0 : Nat) (Z0 : n0 ≤ h0.size) (VH : Arv Z h0 a1 k1 .long (5 : Int32) [(.long z0), (.long z1), (.long z2), (.long z3), (.long z4)] (.long (0 : Int64))) (VF : Arv Z h0 a2 k2 .long (5 : Int32) [(.long x0), (.long x1), (.long x2), (.long x3), (.long x4)] (.long (0 : Int64))) (gA : n0 ≤ a1) (n21 : a2 ≠ a1) :
    MetFree l own_y0 (head1 (Jvm.Cond.code own_y0 prog_21_method_12_code 12 none :: ws) own_R0_0_0_0) (fun a U => a = #[(.ref a1), (.ref a2)] ∧ Z.Warmed39 U.vm ∧ U.heap = h0) (fun _ _ _ _ _ => True) (fun _ U o U' => ∃ v L, o = .returned v ∧ Q1 Z a1 a2 k1 k2 x0 x1 x2 x3 x4 z0 z1 z2 z3 z4 h0 n0 v U'.heap L ∧ FrameEnd U o U' L (own_R0_0_0_0).cells (own_R0_0_0_0).slots) := by
  refine MetFree.of_bodySF (plainFor_of_name pn_0) hisR ?_
  intro p e s m args below meth c s₁ Bd hml0 hP hK
  obtain ⟨rfl, hZ, hh⟩ := hP
  have hx := Bd.exec
  have hby := Bd.bytes
  have hml : c.maxLocals = 12 := hml0
  have hown : s.vm.findClass "com/example/hopwright/hopwright/crypto/Field25519" = some m.cls := findClass_of_methodNamed Bd.named
  have hnm := (name_of_methodNamed Bd.named Bd.method).1
  have hlk : meth.locks = false := BodyLoose.notSynchronized Bd
  have hrt := Bd.returns
  have X0 : Stand p l e own_R0_0_0_0 s m #[(.ref a1), (.ref a2)] below meth c s₁ [] 0 0 := Stand.of_body Bd
  have e0 : s₁.heap = h0 := by rw [← hh, Bd.state]; rfl
  have N0 := Fr.nil n0
  refine (show Go p e below (fun s₂ o => ∃ v L, o = .returned v ∧ Q1 Z a1 a2 k1 k2 x0 x1 x2 x3 x4 z0 z1 z2 z3 z4 h0 n0 v s₂.heap L ∧ FrameEnd s o s₂ L 0 0) (s₁.setTop (entryFrame m #[(.ref a1), (.ref a2)] 12)) from ?_)
  rw [ef1]
  obtain ⟨cl101, Ar101, q101, S101, N101, H101, G101⟩ := id VF
  refine Go.st (U' := s₁.setTop (mkF m 33 #[.val (.ref a1), .val (.ref a2), .val (.long x0), .second, .val (.long (x1 + ((x0.toUInt64 >>> ((51 : Int32) &&& 0x3f).toInt64.toUInt64).toInt64))), .second, .val (.long x2), .second, .val (.long x3), .second, .val (.long x4), .second] [])) (fun t k => ?_) ?_
  · refine XS.aloadN X0.here hx rfl (hb hby d1_0) rfl rfl ?_
    refine XS.iconst X0.here hx rfl (hb hby d1_1) ?_
    refine X0.laload hx (j := (0 : Int32)) (v := (.long x0)) (by rw [e0]; exact Ar101.1) (State.isArrayOf_alike hZ.alike Ar101.2.1) Ar101.2.2 (inb_of (j := (0 : Int32)) S101 ⟨by decide, by decide⟩) (Has.at H101 (inb_of (j := (0 : Int32)) S101 ⟨by decide, by decide⟩) rfl) (g := (mkF m 2 #[.val (.ref a1), .val (.ref a2), .unset, .unset, .unset, .unset, .unset, .unset, .unset, .unset, .unset, .unset] [(.int (0 : Int32)), (.ref a2)])) rfl rfl (hb hby d1_2) _ ?_
    refine XS.lstoreN X0.here hx rfl (hb hby d1_3) rfl (l' := #[.val (.ref a1), .val (.ref a2), .val (.long x0), .second, .unset, .unset, .unset, .unset, .unset, .unset, .unset, .unset]) rfl ?_
    refine XS.aloadN X0.here hx rfl (hb hby d1_4) rfl rfl ?_
    refine XS.iconst X0.here hx rfl (hb hby d1_5) ?_
    refine X0.laload hx (j := (1 : Int32)) (v := (.long x1)) (by rw [e0]; exact Ar101.1) (State.isArrayOf_alike hZ.alike Ar101.2.1) Ar101.2.2 (inb_of (j := (1 : Int32)) S101 ⟨by decide, by decide⟩) (Has.at H101 (inb_of (j := (1 : Int32)) S101 ⟨by decide, by decide⟩) rfl) (g := (mkF m 6 #[.val (.ref a1), .val (.ref a2), .val (.long x0), .second, .unset, .unset, .unset, .unset, .unset, .unset, .unset, .unset] [(.int (1 : Int32)), (.ref a2)])) rfl rfl (hb hby d1_6) _ ?_
    refine XS.lstore X0.here hx rfl (hb hby d1_7) rfl (l' := #[.val (.ref a1), .val (.ref a2), .val (.long x0), .second, .val (.long x1), .second, .unset, .unset, .unset, .unset, .unset, .unset]) rfl ?_
    refine XS.aloadN X0.here hx rfl (hb hby d1_9) rfl rfl ?_
    refine XS.iconst X0.here hx rfl (hb hby d1_10) ?_
    refine X0.laload hx (j := (2 : Int32)) (v := (.long x2)) (by rw [e0]; exact Ar101.1) (State.isArrayOf_alike hZ.alike Ar101.2.1) Ar101.2.2 (inb_of (j := (2 : Int32)) S101 ⟨by decide, by decide⟩) (Has.at H101 (inb_of (j := (2 : Int32)) S101 ⟨by decide, by decide⟩) rfl) (g := (mkF m 11 #[.val (.ref a1), .val (.ref a2), .val (.long x0), .second, .val (.long x1), .second, .unset, .unset, .unset, .unset, .unset, .unset] [(.int (2 : Int32)), (.ref a2)])) rfl rfl (hb hby d1_11) _ ?_
    refine XS.lstore X0.here hx rfl (hb hby d1_12) rfl (l' := #[.val (.ref a1), .val (.ref a2), .val (.long x0), .second, .val (.long x1), .second, .val (.long x2), .second, .unset, .unset, .unset, .unset]) rfl ?_
    refine XS.aloadN X0.here hx rfl (hb hby d1_14) rfl rfl ?_
    refine XS.iconst X0.here hx rfl (hb hby d1_15) ?_
    refine X0.laload hx (j := (3 : Int32)) (v := (.long x3)) (by rw [e0]; exact Ar101.1) (State.isArrayOf_alike hZ.alike Ar101.2.1) Ar101.2.2 (inb_of (j := (3 : Int32)) S101 ⟨by decide, by decide⟩) (Has.at H101 (inb_of (j := (3 : Int32)) S101 ⟨by decide, by decide⟩) rfl) (g := (mkF m 16 #[.val (.ref a1), .val (.ref a2), .val (.long x0), .second, .val (.long x1), .second, .val (.long x2), .second, .unset, .unset, .unset, .unset] [(.int (3 : Int32)), (.ref a2)])) rfl rfl (hb hby d1_16) _ ?_
    refine XS.lstore X0.here hx rfl (hb hby d1_17) rfl (l' := #[.val (.ref a1), .val (.ref a2), .val (.long x0), .second, .val (.long x1), .second, .val (.long x2), .second, .val (.long x3), .second, .unset, .unset]) rfl ?_
    refine XS.aloadN X0.here hx rfl (hb hby d1_19) rfl rfl ?_
    refine XS.iconst X0.here hx rfl (hb hby d1_20) ?_
    refine X0.laload hx (j := (4 : Int32)) (v := (.long x4)) (by rw [e0]; exact Ar101.1) (State.isArrayOf_alike hZ.alike Ar101.2.1) Ar101.2.2 (inb_of (j := (4 : Int32)) S101 ⟨by decide, by decide⟩) (Has.at H101 (inb_of (j := (4 : Int32)) S101 ⟨by decide, by decide⟩) rfl) (g := (mkF m 21 #[.val (.ref a1), .val (.ref a2), .val (.long x0), .second, .val (.long x1), .second, .val (.long x2), .second, .val (.long x3), .second, .unset, .unset] [(.int (4 : Int32)), (.ref a2)])) rfl rfl (hb hby d1_21) _ ?_
    refine XS.lstore X0.here hx rfl (hb hby d1_22) rfl (l' := #[.val (.ref a1), .val (.ref a2), .val (.long x0), .second, .val (.long x1), .second, .val (.long x2), .second, .val (.long x3), .second, .val (.long x4), .second]) rfl ?_
    refine XS.lload X0.here hx rfl (hb hby d1_24) rfl ?_
    refine XS.lloadN X0.here hx rfl (hb hby d1_26) rfl ?_
    refine XS.bipush X0.here hx rfl (hb hby d1_27) ?_
    refine XS.lushr X0.here hx rfl (hb hby d1_29) rfl ?_
    refine XS.ladd X0.here hx rfl (hb hby d1_30) rfl ?_
    refine XS.lstore X0.here hx rfl (hb hby d1_31) rfl (l' := #[.val (.ref a1), .val (.ref a2), .val (.long x0), .second, .val (.long (x1 + ((x0.toUInt64 >>> ((51 : Int32) &&& 0x3f).toInt64.toUInt64).toInt64))), .second, .val (.long x2), .second, .val (.long x3), .second, .val (.long x4), .second]) rfl ?_
    exact k
  generalize hv_v102 : (x1 + ((x0.toUInt64 >>> ((51 : Int32) &&& 0x3f).toInt64.toUInt64).toInt64)) = v102
  refine Go.st (U' := s₁.setTop (mkF m 39 #[.val (.ref a1), .val (.ref a2), .val (.long (x0 &&& (2251799813685247 : Int64))), .second, .val (.long v102), .second, .val (.long x2), .second, .val (.long x3), .second, .val (.long x4), .second] [])) (fun t k => ?_) ?_
  · refine XS.lloadN X0.here hx rfl (hb hby d1_33) rfl ?_
    refine X0.ldc2Long hx hown (mvT hZ (own_w hw 6 rfl)) (g := (mkF m 34 #[.val (.ref a1), .val (.ref a2), .val (.long x0), .second, .val (.long v102), .second, .val (.long x2), .second, .val (.long x3), .second, .val (.long x4), .second] [(.long x0)])) rfl (hb hby d1_34) _ ?_
    refine XS.land X0.here hx rfl (hb hby d1_37) rfl ?_
    refine XS.lstoreN X0.here hx rfl (hb hby d1_38) rfl (l' := #[.val (.ref a1), .val (.ref a2), .val (.long (x0 &&& (2251799813685247 : Int64))), .second, .val (.long v102), .second, .val (.long x2), .second, .val (.long x3), .second, .val (.long x4), .second]) rfl ?_
    exact k
  generalize hv_v103 : (x0 &&& (2251799813685247 : Int64)) = v103
  refine Go.st (U' := s₁.setTop (mkF m 49 #[.val (.ref a1), .val (.ref a2), .val (.long v103), .second, .val (.long v102), .second, .val (.long (x2 + ((v102.toUInt64 >>> ((51 : Int32) &&& 0x3f).toInt64.toUInt64).toInt64))), .second, .val (.long x3), .second, .val (.long x4), .second] [])) (fun t k => ?_) ?_
  · refine XS.lload X0.here hx rfl (hb hby d1_39) rfl ?_
    refine XS.lload X0.here hx rfl (hb hby d1_41) rfl ?_
    refine XS.bipush X0.here hx rfl (hb hby d1_43) ?_
    refine XS.lushr X0.here hx rfl (hb hby d1_45) rfl ?_
    refine XS.ladd X0.here hx rfl (hb hby d1_46) rfl ?_
    refine XS.lstore X0.here hx rfl (hb hby d1_47) rfl (l' := #[.val (.ref a1), .val (.ref a2), .val (.long v103), .second, .val (.long v102), .second, .val (.long (x2 + ((v102.toUInt64 >>> ((51 : Int32) &&& 0x3f).toInt64.toUInt64).toInt64))), .second, .val (.long x3), .second, .val (.long x4), .second]) rfl ?_
    exact k
  generalize hv_v104 : (x2 + ((v102.toUInt64 >>> ((51 : Int32) &&& 0x3f).toInt64.toUInt64).toInt64)) = v104
  refine Go.st (U' := s₁.setTop (mkF m 57 #[.val (.ref a1), .val (.ref a2), .val (.long v103), .second, .val (.long (v102 &&& (2251799813685247 : Int64))), .second, .val (.long v104), .second, .val (.long x3), .second, .val (.long x4), .second] [])) (fun t k => ?_) ?_
  · refine XS.lload X0.here hx rfl (hb hby d1_49) rfl ?_
    refine X0.ldc2Long hx hown (mvT hZ (own_w hw 6 rfl)) (g := (mkF m 51 #[.val (.ref a1), .val (.ref a2), .val (.long v103), .second, .val (.long v102), .second, .val (.long v104), .second, .val (.long x3), .second, .val (.long x4), .second] [(.long v102)])) rfl (hb hby d1_51) _ ?_
    refine XS.land X0.here hx rfl (hb hby d1_54) rfl ?_
    refine XS.lstore X0.here hx rfl (hb hby d1_55) rfl (l' := #[.val (.ref a1), .val (.ref a2), .val (.long v103), .second, .val (.long (v102 &&& (2251799813685247 : Int64))), .second, .val (.long v104), .second, .val (.long x3), .second, .val (.long x4), .second]) rfl ?_
    exact k
  generalize hv_v105 : (v102 &&& (2251799813685247 : Int64)) = v105
  refine Go.st (U' := s₁.setTop (mkF m 67 #[.val (.ref a1), .val (.ref a2), .val (.long v103), .second, .val (.long v105), .second, .val (.long v104), .second, .val (.long (x3 + ((v104.toUInt64 >>> ((51 : Int32) &&& 0x3f).toInt64.toUInt64).toInt64))), .second, .val (.long x4), .second] [])) (fun t k => ?_) ?_
  · refine XS.lload X0.here hx rfl (hb hby d1_57) rfl ?_
    refine XS.lload X0.here hx rfl (hb hby d1_59) rfl ?_
    refine XS.bipush X0.here hx rfl (hb hby d1_61) ?_
    refine XS.lushr X0.here hx rfl (hb hby d1_63) rfl ?_
    refine XS.ladd X0.here hx rfl (hb hby d1_64) rfl ?_
    refine XS.lstore X0.here hx rfl (hb hby d1_65) rfl (l' := #[.val (.ref a1), .val (.ref a2), .val (.long v103), .second, .val (.long v105), .second, .val (.long v104), .second, .val (.long (x3 + ((v104.toUInt64 >>> ((51 : Int32) &&& 0x3f).toInt64.toUInt64).toInt64))), .second, .val (.long x4), .second]) rfl ?_
    exact k
  generalize hv_v106 : (x3 + ((v104.toUInt64 >>> ((51 : Int32) &&& 0x3f).toInt64.toUInt64).toInt64)) = v106
  refine Go.st (U' := s₁.setTop (mkF m 75 #[.val (.ref a1), .val (.ref a2), .val (.long v103), .second, .val (.long v105), .second, .val (.long (v104 &&& (2251799813685247 : Int64))), .second, .val (.long v106), .second, .val (.long x4), .second] [])) (fun t k => ?_) ?_
  · refine XS.lload X0.here hx rfl (hb hby d1_67) rfl ?_
    refine X0.ldc2Long hx hown (mvT hZ (own_w hw 6 rfl)) (g := (mkF m 69 #[.val (.ref a1), .val (.ref a2), .val (.long v103), .second, .val (.long v105), .second, .val (.long v104), .second, .val (.long v106), .second, .val (.long x4), .second] [(.long v104)])) rfl (hb hby d1_69) _ ?_
    refine XS.land X0.here hx rfl (hb hby d1_72) rfl ?_
    refine XS.lstore X0.here hx rfl (hb hby d1_73) rfl (l' := #[.val (.ref a1), .val (.ref a2), .val (.long v103), .second, .val (.long v105), .second, .val (.long (v104 &&& (2251799813685247 : Int64))), .second, .val (.long v106), .second, .val (.long x4), .second]) rfl ?_
    exact k
  generalize hv_v107 : (v104 &&& (2251799813685247 : Int64)) = v107
  refine Go.st (U' := s₁.setTop (mkF m 85 #[.val (.ref a1), .val (.ref a2), .val (.long v103), .second, .val (.long v105), .second, .val (.long v107), .second, .val (.long v106), .second, .val (.long (x4 + ((v106.toUInt64 >>> ((51 : Int32) &&& 0x3f).toInt64.toUInt64).toInt64))), .second] [])) (fun t k => ?_) ?_
  · refine XS.lload X0.here hx rfl (hb hby d1_75) rfl ?_
    refine XS.lload X0.here hx rfl (hb hby d1_77) rfl ?_
    refine XS.bipush X0.here hx rfl (hb hby d1_79) ?_
    refine XS.lushr X0.here hx rfl (hb hby d1_81) rfl ?_
    refine XS.ladd X0.here hx rfl (hb hby d1_82) rfl ?_
    refine XS.lstore X0.here hx rfl (hb hby d1_83) rfl (l' := #[.val (.ref a1), .val (.ref a2), .val (.long v103), .second, .val (.long v105), .second, .val (.long v107), .second, .val (.long v106), .second, .val (.long (x4 + ((v106.toUInt64 >>> ((51 : Int32) &&& 0x3f).toInt64.toUInt64).toInt64))), .second]) rfl ?_
    exact k
  generalize hv_v108 : (x4 + ((v106.toUInt64 >>> ((51 : Int32) &&& 0x3f).toInt64.toUInt64).toInt64)) = v108
  refine Go.st (U' := s₁.setTop (mkF m 93 #[.val (.ref a1), .val (.ref a2), .val (.long v103), .second, .val (.long v105), .second, .val (.long v107), .second, .val (.long (v106 &&& (2251799813685247 : Int64))), .second, .val (.long v108), .second] [])) (fun t k => ?_) ?_
  · refine XS.lload X0.here hx rfl (hb hby d1_85) rfl ?_
    refine X0.ldc2Long hx hown (mvT hZ (own_w hw 6 rfl)) (g := (mkF m 87 #[.val (.ref a1), .val (.ref a2), .val (.long v103), .second, .val (.long v105), .second, .val (.long v107), .second, .val (.long v106), .second, .val (.long v108), .second] [(.long v106)])) rfl (hb hby d1_87) _ ?_
    refine XS.land X0.here hx rfl (hb hby d1_90) rfl ?_
    refine XS.lstore X0.here hx rfl (hb hby d1_91) rfl (l' := #[.val (.ref a1), .val (.ref a2), .val (.long v103), .second, .val (.long v105), .second, .val (.long v107), .second, .val (.long (v106 &&& (2251799813685247 : Int64))), .second, .val (.long v108), .second]) rfl ?_
    exact k
  generalize hv_v109 : (v106 &&& (2251799813685247 : Int64)) = v109
  refine Go.st (U' := s₁.setTop (mkF m 105 #[.val (.ref a1), .val (.ref a2), .val (.long (v103 + ((19 : Int64) * ((v108.toUInt64 >>> ((51 : Int32) &&& 0x3f).toInt64.toUInt64).toInt64)))), .second, .val (.long v105), .second, .val (.long v107), .second, .val (.long v109), .second, .val (.long v108), .second] [])) (fun t k => ?_) ?_
  · refine XS.lloadN X0.here hx rfl (hb hby d1_93) rfl ?_
    refine X0.ldc2Long hx hown (mvT hZ (own_w hw 7 rfl)) (g := (mkF m 94 #[.val (.ref a1), .val (.ref a2), .val (.long v103), .second, .val (.long v105), .second, .val (.long v107), .second, .val (.long v109), .second, .val (.long v108), .second] [(.long v103)])) rfl (hb hby d1_94) _ ?_
    refine XS.lload X0.here hx rfl (hb hby d1_97) rfl ?_
    refine XS.bipush X0.here hx rfl (hb hby d1_99) ?_
    refine XS.lushr X0.here hx rfl (hb hby d1_101) rfl ?_
    refine XS.lmul X0.here hx rfl (hb hby d1_102) rfl ?_
    refine XS.ladd X0.here hx rfl (hb hby d1_103) rfl ?_
    refine XS.lstoreN X0.here hx rfl (hb hby d1_104) rfl (l' := #[.val (.ref a1), .val (.ref a2), .val (.long (v103 + ((19 : Int64) * ((v108.toUInt64 >>> ((51 : Int32) &&& 0x3f).toInt64.toUInt64).toInt64)))), .second, .val (.long v105), .second, .val (.long v107), .second, .val (.long v109), .second, .val (.long v108), .second]) rfl ?_
    exact k
  generalize hv_v110 : (v103 + ((19 : Int64) * ((v108.toUInt64 >>> ((51 : Int32) &&& 0x3f).toInt64.toUInt64).toInt64))) = v110
  refine Go.st (U' := s₁.setTop (mkF m 113 #[.val (.ref a1), .val (.ref a2), .val (.long v110), .second, .val (.long v105), .second, .val (.long v107), .second, .val (.long v109), .second, .val (.long (v108 &&& (2251799813685247 : Int64))), .second] [])) (fun t k => ?_) ?_
  · refine XS.lload X0.here hx rfl (hb hby d1_105) rfl ?_
    refine X0.ldc2Long hx hown (mvT hZ (own_w hw 6 rfl)) (g := (mkF m 107 #[.val (.ref a1), .val (.ref a2), .val (.long v110), .second, .val (.long v105), .second, .val (.long v107), .second, .val (.long v109), .second, .val (.long v108), .second] [(.long v108)])) rfl (hb hby d1_107) _ ?_
    refine XS.land X0.here hx rfl (hb hby d1_110) rfl ?_
    refine XS.lstore X0.here hx rfl (hb hby d1_111) rfl (l' := #[.val (.ref a1), .val (.ref a2), .val (.long v110), .second, .val (.long v105), .second, .val (.long v107), .second, .val (.long v109), .second, .val (.long (v108 &&& (2251799813685247 : Int64))), .second]) rfl ?_
    exact k
  generalize hv_v111 : (v108 &&& (2251799813685247 : Int64)) = v111
  refine Go.st (U' := s₁.setTop (mkF m 122 #[.val (.ref a1), .val (.ref a2), .val (.long v110), .second, .val (.long (v105 + ((v110.toUInt64 >>> ((51 : Int32) &&& 0x3f).toInt64.toUInt64).toInt64))), .second, .val (.long v107), .second, .val (.long v109), .second, .val (.long v111), .second] [])) (fun t k => ?_) ?_
  · refine XS.lload X0.here hx rfl (hb hby d1_113) rfl ?_
    refine XS.lloadN X0.here hx rfl (hb hby d1_115) rfl ?_
    refine XS.bipush X0.here hx rfl (hb hby d1_116) ?_
    refine XS.lushr X0.here hx rfl (hb hby d1_118) rfl ?_
    refine XS.ladd X0.here hx rfl (hb hby d1_119) rfl ?_
    refine XS.lstore X0.here hx rfl (hb hby d1_120) rfl (l' := #[.val (.ref a1), .val (.ref a2), .val (.long v110), .second, .val (.long (v105 + ((v110.toUInt64 >>> ((51 : Int32) &&& 0x3f).toInt64.toUInt64).toInt64))), .second, .val (.long v107), .second, .val (.long v109), .second, .val (.long v111), .second]) rfl ?_
    exact k
  generalize hv_v112 : (v105 + ((v110.toUInt64 >>> ((51 : Int32) &&& 0x3f).toInt64.toUInt64).toInt64)) = v112
  refine Go.st (U' := s₁.setTop (mkF m 128 #[.val (.ref a1), .val (.ref a2), .val (.long (v110 &&& (2251799813685247 : Int64))), .second, .val (.long v112), .second, .val (.long v107), .second, .val (.long v109), .second, .val (.long v111), .second] [])) (fun t k => ?_) ?_
  · refine XS.lloadN X0.here hx rfl (hb hby d1_122) rfl ?_
    refine X0.ldc2Long hx hown (mvT hZ (own_w hw 6 rfl)) (g := (mkF m 123 #[.val (.ref a1), .val (.ref a2), .val (.long v110), .second, .val (.long v112), .second, .val (.long v107), .second, .val (.long v109), .second, .val (.long v111), .second] [(.long v110)])) rfl (hb hby d1_123) _ ?_
    refine XS.land X0.here hx rfl (hb hby d1_126) rfl ?_
    refine XS.lstoreN X0.here hx rfl (hb hby d1_127) rfl (l' := #[.val (.ref a1), .val (.ref a2), .val (.long (v110 &&& (2251799813685247 : Int64))), .second, .val (.long v112), .second, .val (.long v107), .second, .val (.long v109), .second, .val (.long v111), .second]) rfl ?_
    exact k
  generalize hv_v113 : (v110 &&& (2251799813685247 : Int64)) = v113
  refine Go.st (U' := s₁.setTop (mkF m 131 #[.val (.ref a1), .val (.ref a2), .val (.long v113), .second, .val (.long v112), .second, .val (.long v107), .second, .val (.long v109), .second, .val (.long v111), .second] [(.long v113), (.int (0 : Int32)), (.ref a1)])) (fun t k => ?_) ?_
  · refine XS.aloadN X0.here hx rfl (hb hby d1_128) rfl rfl ?_
    refine XS.iconst X0.here hx rfl (hb hby d1_129) ?_
    refine XS.lloadN X0.here hx rfl (hb hby d1_130) rfl ?_
    exact k
  obtain ⟨cl115, Ar115, q115, S115, N115, H115, G115⟩ := id VH
  obtain ⟨T114, h114, X114, e114, W114, st114⟩ := stJ X0 hx hZ e0 Ar115 (j := (0 : Int32)) (inb_of (j := (0 : Int32)) S115 ⟨by decide, by decide⟩) (g := (mkF m 131 #[.val (.ref a1), .val (.ref a2), .val (.long v113), .second, .val (.long v112), .second, .val (.long v107), .second, .val (.long v109), .second, .val (.long v111), .second] [(.long v113), (.int (0 : Int32)), (.ref a1)])) rfl rfl (hb hby d1_131)
  have VH_114 := Arv.set Ar115 q115 S115 N115 H115 G115 rfl W114 0 rfl (Nat.le_of_ble_eq_true rfl)
  have VF_114 := VF.other W114 n21
  have N114 := Fr.snoc X114 N0 gA
  have KK114 : Keep h0 h114 [a1] := (Keep.refl h0 [a1]).wr W114 (Or.inl (List.mem_of_getElem? (i := 0) rfl))
  have sz114 : n0 ≤ h114.size := Nat.le_trans Z0 (Nat.le_of_eq W114.size.symm)
  refine Go.st (U' := T114.setTop (mkF m 132 #[.val (.ref a1), .val (.ref a2), .val (.long v113), .second, .val (.long v112), .second, .val (.long v107), .second, .val (.long v109), .second, .val (.long v111), .second] [])) (fun t k => st114 _ k) ?_
  refine Go.st (U' := T114.setTop (mkF m 136 #[.val (.ref a1), .val (.ref a2), .val (.long v113), .second, .val (.long v112), .second, .val (.long v107), .second, .val (.long v109), .second, .val (.long v111), .second] [(.long v112), (.int (1 : Int32)), (.ref a1)])) (fun t k => ?_) ?_
  · refine XS.aloadN X114.here hx rfl (hb hby d1_132) rfl rfl ?_
    refine XS.iconst X114.here hx rfl (hb hby d1_133) ?_
    refine XS.lload X114.here hx rfl (hb hby d1_134) rfl ?_
    exact k
  obtain ⟨cl117, Ar117, q117, S117, N117, H117, G117⟩ := id VH_114
  obtain ⟨T116, h116, X116, e116, W116, st116⟩ := stJ X114 hx hZ e114 Ar117 (j := (1 : Int32)) (inb_of (j := (1 : Int32)) S117 ⟨by decide, by decide⟩) (g := (mkF m 136 #[.val (.ref a1), .val (.ref a2), .val (.long v113), .second, .val (.long v112), .second, .val (.long v107), .second, .val (.long v109), .second, .val (.long v111), .second] [(.long v112), (.int (1 : Int32)), (.ref a1)])) rfl rfl (hb hby d1_136)
  have VH_116 := Arv.set Ar117 q117 S117 N117 H117 G117 rfl W116 1 rfl (Nat.le_of_ble_eq_true rfl)
  have VF_116 := VF_114.other W116 n21
  have N116 := Fr.snoc X116 N114 gA
  have KK116 : Keep h0 h116 [a1] := KK114.wr W116 (Or.inl (List.mem_of_getElem? (i := 0) rfl))
  have sz116 : n0 ≤ h116.size := Nat.le_trans sz114 (Nat.le_of_eq W116.size.symm)
  refine Go.st (U' := T116.setTop (mkF m 137 #[.val (.ref a1), .val (.ref a2), .val (.long v113), .second, .val (.long v112), .second, .val (.long v107), .second, .val (.long v109), .second, .val (.long v111), .second] [])) (fun t k => st116 _ k) ?_
  refine Go.st (U' := T116.setTop (mkF m 141 #[.val (.ref a1), .val (.ref a2), .val (.long v113), .second, .val (.long v112), .second, .val (.long v107), .second, .val (.long v109), .second, .val (.long v111), .second] [(.long v107), (.int (2 : Int32)), (.ref a1)])) (fun t k => ?_) ?_
  · refine XS.aloadN X116.here hx rfl (hb hby d1_137) rfl rfl ?_
    refine XS.iconst X116.here hx rfl (hb hby d1_138) ?_
    refine XS.lload X116.here hx rfl (hb hby d1_139) rfl ?_
    exact k
  obtain ⟨cl119, Ar119, q119, S119, N119, H119, G119⟩ := id VH_116
  obtain ⟨T118, h118, X118, e118, W118, st118⟩ := stJ X116 hx hZ e116 Ar119 (j := (2 : Int32)) (inb_of (j := (2 : Int32)) S119 ⟨by decide, by decide⟩) (g := (mkF m 141 #[.val (.ref a1), .val (.ref a2), .val (.long v113), .second, .val (.long v112), .second, .val (.long v107), .second, .val (.long v109), .second, .val (.long v111), .second] [(.long v107), (.int (2 : Int32)), (.ref a1)])) rfl rfl (hb hby d1_141)
  have VH_118 := Arv.set Ar119 q119 S119 N119 H119 G119 rfl W118 2 rfl (Nat.le_of_ble_eq_true rfl)
  have VF_118 := VF_116.other W118 n21
  have N118 := Fr.snoc X118 N116 gA
  have KK118 : Keep h0 h118 [a1] := KK116.wr W118 (Or.inl (List.mem_of_getElem? (i := 0) rfl))
  have sz118 : n0 ≤ h118.size := Nat.le_trans sz116 (Nat.le_of_eq W118.size.symm)
  refine Go.st (U' := T118.setTop (mkF m 142 #[.val (.ref a1), .val (.ref a2), .val (.long v113), .second, .val (.long v112), .second, .val (.long v107), .second, .val (.long v109), .second, .val (.long v111), .second] [])) (fun t k => st118 _ k) ?_
  refine Go.st (U' := T118.setTop (mkF m 146 #[.val (.ref a1), .val (.ref a2), .val (.long v113), .second, .val (.long v112), .second, .val (.long v107), .second, .val (.long v109), .second, .val (.long v111), .second] [(.long v109), (.int (3 : Int32)), (.ref a1)])) (fun t k => ?_) ?_
  · refine XS.aloadN X118.here hx rfl (hb hby d1_142) rfl rfl ?_
    refine XS.iconst X118.here hx rfl (hb hby d1_143) ?_
    refine XS.lload X118.here hx rfl (hb hby d1_144) rfl ?_
    exact k
  obtain ⟨cl121, Ar121, q121, S121, N121, H121, G121⟩ := id VH_118
  obtain ⟨T120, h120, X120, e120, W120, st120⟩ := stJ X118 hx hZ e118 Ar121 (j := (3 : Int32)) (inb_of (j := (3 : Int32)) S121 ⟨by decide, by decide⟩) (g := (mkF m 146 #[.val (.ref a1), .val (.ref a2), .val (.long v113), .second, .val (.long v112), .second, .val (.long v107), .second, .val (.long v109), .second, .val (.long v111), .second] [(.long v109), (.int (3 : Int32)), (.ref a1)])) rfl rfl (hb hby d1_146)
  have VH_120 := Arv.set Ar121 q121 S121 N121 H121 G121 rfl W120 3 rfl (Nat.le_of_ble_eq_true rfl)
  have VF_120 := VF_118.other W120 n21
  have N120 := Fr.snoc X120 N118 gA
  have KK120 : Keep h0 h120 [a1] := KK118.wr W120 (Or.inl (List.mem_of_getElem? (i := 0) rfl))
  have sz120 : n0 ≤ h120.size := Nat.le_trans sz118 (Nat.le_of_eq W120.size.symm)
  refine Go.st (U' := T120.setTop (mkF m 147 #[.val (.ref a1), .val (.ref a2), .val (.long v113), .second, .val (.long v112), .second, .val (.long v107), .second, .val (.long v109), .second, .val (.long v111), .second] [])) (fun t k => st120 _ k) ?_
  refine Go.st (U' := T120.setTop (mkF m 151 #[.val (.ref a1), .val (.ref a2), .val (.long v113), .second, .val (.long v112), .second, .val (.long v107), .second, .val (.long v109), .second, .val (.long v111), .second] [(.long v111), (.int (4 : Int32)), (.ref a1)])) (fun t k => ?_) ?_
  · refine XS.aloadN X120.here hx rfl (hb hby d1_147) rfl rfl ?_
    refine XS.iconst X120.here hx rfl (hb hby d1_148) ?_
    refine XS.lload X120.here hx rfl (hb hby d1_149) rfl ?_
    exact k
  obtain ⟨cl123, Ar123, q123, S123, N123, H123, G123⟩ := id VH_120
  obtain ⟨T122, h122, X122, e122, W122, st122⟩ := stJ X120 hx hZ e120 Ar123 (j := (4 : Int32)) (inb_of (j := (4 : Int32)) S123 ⟨by decide, by decide⟩) (g := (mkF m 151 #[.val (.ref a1), .val (.ref a2), .val (.long v113), .second, .val (.long v112), .second, .val (.long v107), .second, .val (.long v109), .second, .val (.long v111), .second] [(.long v111), (.int (4 : Int32)), (.ref a1)])) rfl rfl (hb hby d1_151)
  have VH_122 := Arv.set Ar123 q123 S123 N123 H123 G123 rfl W122 4 rfl (Nat.le_of_ble_eq_true rfl)
  have VF_122 := VF_120.other W122 n21
  have N122 := Fr.snoc X122 N120 gA
  have KK122 : Keep h0 h122 [a1] := KK120.wr W122 (Or.inl (List.mem_of_getElem? (i := 0) rfl))
  have sz122 : n0 ≤ h122.size := Nat.le_trans sz120 (Nat.le_of_eq W122.size.symm)
  refine Go.st (U' := T122.setTop (mkF m 152 #[.val (.ref a1), .val (.ref a2), .val (.long v113), .second, .val (.long v112), .second, .val (.long v107), .second, .val (.long v109), .second, .val (.long v111), .second] [])) (fun t k => st122 _ k) ?_
  refine own_ret (Q := Q1 Z a1 a2 k1 k2 x0 x1 x2 x3 x4 z0 z1 z2 z3 z4 h0 n0) (v := none) X122 hlk (fun _ => rfl) (by decide) (by decide) ?_ (fun fs hr => X122.returnOut hx hrt (hb hby d1_152) hr)
  rw [e122]
  subst hv_v102; subst hv_v103; subst hv_v104; subst hv_v105; subst hv_v106; subst hv_v107; subst hv_v108; subst hv_v109; subst hv_v110; subst hv_v111; subst hv_v112; subst hv_v113; exact ⟨rfl, N122, KK122, VH_122⟩
theorem ef2 (m : MethodId) (a1 : Addr) : entryFrame m #[(.ref a1), (.ref a1)] 12 = mkF m 0 #[.val (.ref a1), .val (.ref a1), .unset, .unset, .unset, .unset, .unset, .unset, .unset, .unset, .unset, .unset] [] := by first | (simp [entryFrame, mkF, argsToLocals, Value.category]; done) | rfl
def Q2 (Z : State) (a1 : Addr) (k1 : ClassId) (x0 : Int64) (x1 : Int64) (x2 : Int64) (x3 : Int64) (x4 : Int64) (h0 : Heap) (n0 : Nat) (v : Option Value) (h : Heap) (L : List Loc) : Prop := v = none ∧ Fr n0 L ∧ Keep h0 h [a1] ∧ Arv Z h a1 k1 .long (5 : Int32) [(.long (own_h0 x0 x1 x2 x3 x4)), (.long (own_h1 x0 x1 x2 x3 x4)), (.long (own_h2 x0 x1 x2 x3 x4)), (.long (own_h3 x0 x1 x2 x3 x4)), (.long (own_h4 x0 x1 x2 x3 x4))] (.long (0 : Int64))
set_option maxRecDepth 65536 in
set_option maxHeartbeats 40000000 in
theorem rm2 (l : Launch) (Z : State) (a0 : Array Value) (hw : ∀ d ∈ tables_1, d.before a0 Z = true) (ws : List Jvm.Cond) (a1 : Addr) (k1 : ClassId) (x0 : Int64) (x1 : Int64) (x2 : Int64) (x3 : Int64) (x4 : Int64) (h0 : Heap) (n0 : Nat) (Z0 : n0 ≤ h0.size) (VH : Arv Z h0 a1 k1 .long (5 : Int32) [(.long x0), (.long x1), (.long x2), (.long x3), (.long x4)] (.long (0 : Int64))) (gA : n0 ≤ a1) :
    MetFree l own_y0 (head1 (Jvm.Cond.code own_y0 prog_21_method_12_code 12 none :: ws) own_R0_0_0_0) (fun a U => a = #[(.ref a1), (.ref a1)] ∧ Z.Warmed39 U.vm ∧ U.heap = h0) (fun _ _ _ _ _ => True) (fun _ U o U' => ∃ v L, o = .returned v ∧ Q2 Z a1 k1 x0 x1 x2 x3 x4 h0 n0 v U'.heap L ∧ FrameEnd U o U' L (own_R0_0_0_0).cells (own_R0_0_0_0).slots) := by
  refine MetFree.of_bodySF (plainFor_of_name pn_0) hisR ?_
  intro p e s m args below meth c s₁ Bd hml0 hP hK
  obtain ⟨rfl, hZ, hh⟩ := hP
  have hx := Bd.exec
  have hby := Bd.bytes
  have hml : c.maxLocals = 12 := hml0
  have hown : s.vm.findClass "com/example/hopwright/hopwright/crypto/Field25519" = some m.cls := findClass_of_methodNamed Bd.named
  have hnm := (name_of_methodNamed Bd.named Bd.method).1
  have hlk : meth.locks = false := BodyLoose.notSynchronized Bd
  have hrt := Bd.returns
  have X0 : Stand p l e own_R0_0_0_0 s m #[(.ref a1), (.ref a1)] below meth c s₁ [] 0 0 := Stand.of_body Bd
  have e0 : s₁.heap = h0 := by rw [← hh, Bd.state]; rfl
  have N0 := Fr.nil n0
  refine (show Go p e below (fun s₂ o => ∃ v L, o = .returned v ∧ Q2 Z a1 k1 x0 x1 x2 x3 x4 h0 n0 v s₂.heap L ∧ FrameEnd s o s₂ L 0 0) (s₁.setTop (entryFrame m #[(.ref a1), (.ref a1)] 12)) from ?_)
  rw [ef2]
  obtain ⟨cl124, Ar124, q124, S124, N124, H124, G124⟩ := id VH
  refine Go.st (U' := s₁.setTop (mkF m 33 #[.val (.ref a1), .val (.ref a1), .val (.long x0), .second, .val (.long (x1 + ((x0.toUInt64 >>> ((51 : Int32) &&& 0x3f).toInt64.toUInt64).toInt64))), .second, .val (.long x2), .second, .val (.long x3), .second, .val (.long x4), .second] [])) (fun t k => ?_) ?_
  · refine XS.aloadN X0.here hx rfl (hb hby d1_0) rfl rfl ?_
    refine XS.iconst X0.here hx rfl (hb hby d1_1) ?_
    refine X0.laload hx (j := (0 : Int32)) (v := (.long x0)) (by rw [e0]; exact Ar124.1) (State.isArrayOf_alike hZ.alike Ar124.2.1) Ar124.2.2 (inb_of (j := (0 : Int32)) S124 ⟨by decide, by decide⟩) (Has.at H124 (inb_of (j := (0 : Int32)) S124 ⟨by decide, by decide⟩) rfl) (g := (mkF m 2 #[.val (.ref a1), .val (.ref a1), .unset, .unset, .unset, .unset, .unset, .unset, .unset, .unset, .unset, .unset] [(.int (0 : Int32)), (.ref a1)])) rfl rfl (hb hby d1_2) _ ?_
    refine XS.lstoreN X0.here hx rfl (hb hby d1_3) rfl (l' := #[.val (.ref a1), .val (.ref a1), .val (.long x0), .second, .unset, .unset, .unset, .unset, .unset, .unset, .unset, .unset]) rfl ?_
    refine XS.aloadN X0.here hx rfl (hb hby d1_4) rfl rfl ?_
    refine XS.iconst X0.here hx rfl (hb hby d1_5) ?_
    refine X0.laload hx (j := (1 : Int32)) (v := (.long x1)) (by rw [e0]; exact Ar124.1) (State.isArrayOf_alike hZ.alike Ar124.2.1) Ar124.2.2 (inb_of (j := (1 : Int32)) S124 ⟨by decide, by decide⟩) (Has.at H124 (inb_of (j := (1 : Int32)) S124 ⟨by decide, by decide⟩) rfl) (g := (mkF m 6 #[.val (.ref a1), .val (.ref a1), .val (.long x0), .second, .unset, .unset, .unset, .unset, .unset, .unset, .unset, .unset] [(.int (1 : Int32)), (.ref a1)])) rfl rfl (hb hby d1_6) _ ?_
    refine XS.lstore X0.here hx rfl (hb hby d1_7) rfl (l' := #[.val (.ref a1), .val (.ref a1), .val (.long x0), .second, .val (.long x1), .second, .unset, .unset, .unset, .unset, .unset, .unset]) rfl ?_
    refine XS.aloadN X0.here hx rfl (hb hby d1_9) rfl rfl ?_
    refine XS.iconst X0.here hx rfl (hb hby d1_10) ?_
    refine X0.laload hx (j := (2 : Int32)) (v := (.long x2)) (by rw [e0]; exact Ar124.1) (State.isArrayOf_alike hZ.alike Ar124.2.1) Ar124.2.2 (inb_of (j := (2 : Int32)) S124 ⟨by decide, by decide⟩) (Has.at H124 (inb_of (j := (2 : Int32)) S124 ⟨by decide, by decide⟩) rfl) (g := (mkF m 11 #[.val (.ref a1), .val (.ref a1), .val (.long x0), .second, .val (.long x1), .second, .unset, .unset, .unset, .unset, .unset, .unset] [(.int (2 : Int32)), (.ref a1)])) rfl rfl (hb hby d1_11) _ ?_
    refine XS.lstore X0.here hx rfl (hb hby d1_12) rfl (l' := #[.val (.ref a1), .val (.ref a1), .val (.long x0), .second, .val (.long x1), .second, .val (.long x2), .second, .unset, .unset, .unset, .unset]) rfl ?_
    refine XS.aloadN X0.here hx rfl (hb hby d1_14) rfl rfl ?_
    refine XS.iconst X0.here hx rfl (hb hby d1_15) ?_
    refine X0.laload hx (j := (3 : Int32)) (v := (.long x3)) (by rw [e0]; exact Ar124.1) (State.isArrayOf_alike hZ.alike Ar124.2.1) Ar124.2.2 (inb_of (j := (3 : Int32)) S124 ⟨by decide, by decide⟩) (Has.at H124 (inb_of (j := (3 : Int32)) S124 ⟨by decide, by decide⟩) rfl) (g := (mkF m 16 #[.val (.ref a1), .val (.ref a1), .val (.long x0), .second, .val (.long x1), .second, .val (.long x2), .second, .unset, .unset, .unset, .unset] [(.int (3 : Int32)), (.ref a1)])) rfl rfl (hb hby d1_16) _ ?_
    refine XS.lstore X0.here hx rfl (hb hby d1_17) rfl (l' := #[.val (.ref a1), .val (.ref a1), .val (.long x0), .second, .val (.long x1), .second, .val (.long x2), .second, .val (.long x3), .second, .unset, .unset]) rfl ?_
    refine XS.aloadN X0.here hx rfl (hb hby d1_19) rfl rfl ?_
    refine XS.iconst X0.here hx rfl (hb hby d1_20) ?_
    refine X0.laload hx (j := (4 : Int32)) (v := (.long x4)) (by rw [e0]; exact Ar124.1) (State.isArrayOf_alike hZ.alike Ar124.2.1) Ar124.2.2 (inb_of (j := (4 : Int32)) S124 ⟨by decide, by decide⟩) (Has.at H124 (inb_of (j := (4 : Int32)) S124 ⟨by decide, by decide⟩) rfl) (g := (mkF m 21 #[.val (.ref a1), .val (.ref a1), .val (.long x0), .second, .val (.long x1), .second, .val (.long x2), .second, .val (.long x3), .second, .unset, .unset] [(.int (4 : Int32)), (.ref a1)])) rfl rfl (hb hby d1_21) _ ?_
    refine XS.lstore X0.here hx rfl (hb hby d1_22) rfl (l' := #[.val (.ref a1), .val (.ref a1), .val (.long x0), .second, .val (.long x1), .second, .val (.long x2), .second, .val (.long x3), .second, .val (.long x4), .second]) rfl ?_
    refine XS.lload X0.here hx rfl (hb hby d1_24) rfl ?_
    refine XS.lloadN X0.here hx rfl (hb hby d1_26) rfl ?_
    refine XS.bipush X0.here hx rfl (hb hby d1_27) ?_
    refine XS.lushr X0.here hx rfl (hb hby d1_29) rfl ?_
    refine XS.ladd X0.here hx rfl (hb hby d1_30) rfl ?_
    refine XS.lstore X0.here hx rfl (hb hby d1_31) rfl (l' := #[.val (.ref a1), .val (.ref a1), .val (.long x0), .second, .val (.long (x1 + ((x0.toUInt64 >>> ((51 : Int32) &&& 0x3f).toInt64.toUInt64).toInt64))), .second, .val (.long x2), .second, .val (.long x3), .second, .val (.long x4), .second]) rfl ?_
    exact k
  generalize hv_v125 : (x1 + ((x0.toUInt64 >>> ((51 : Int32) &&& 0x3f).toInt64.toUInt64).toInt64)) = v125
  refine Go.st (U' := s₁.setTop (mkF m 39 #[.val (.ref a1), .val (.ref a1), .val (.long (x0 &&& (2251799813685247 : Int64))), .second, .val (.long v125), .second, .val (.long x2), .second, .val (.long x3), .second, .val (.long x4), .second] [])) (fun t k => ?_) ?_
  · refine XS.lloadN X0.here hx rfl (hb hby d1_33) rfl ?_
    refine X0.ldc2Long hx hown (mvT hZ (own_w hw 6 rfl)) (g := (mkF m 34 #[.val (.ref a1), .val (.ref a1), .val (.long x0), .second, .val (.long v125), .second, .val (.long x2), .second, .val (.long x3), .second, .val (.long x4), .second] [(.long x0)])) rfl (hb hby d1_34) _ ?_
    refine XS.land X0.here hx rfl (hb hby d1_37) rfl ?_
    refine XS.lstoreN X0.here hx rfl (hb hby d1_38) rfl (l' := #[.val (.ref a1), .val (.ref a1), .val (.long (x0 &&& (2251799813685247 : Int64))), .second, .val (.long v125), .second, .val (.long x2), .second, .val (.long x3), .second, .val (.long x4), .second]) rfl ?_
    exact k
  generalize hv_v126 : (x0 &&& (2251799813685247 : Int64)) = v126
  refine Go.st (U' := s₁.setTop (mkF m 49 #[.val (.ref a1), .val (.ref a1), .val (.long v126), .second, .val (.long v125), .second, .val (.long (x2 + ((v125.toUInt64 >>> ((51 : Int32) &&& 0x3f).toInt64.toUInt64).toInt64))), .second, .val (.long x3), .second, .val (.long x4), .second] [])) (fun t k => ?_) ?_
  · refine XS.lload X0.here hx rfl (hb hby d1_39) rfl ?_
    refine XS.lload X0.here hx rfl (hb hby d1_41) rfl ?_
    refine XS.bipush X0.here hx rfl (hb hby d1_43) ?_
    refine XS.lushr X0.here hx rfl (hb hby d1_45) rfl ?_
    refine XS.ladd X0.here hx rfl (hb hby d1_46) rfl ?_
    refine XS.lstore X0.here hx rfl (hb hby d1_47) rfl (l' := #[.val (.ref a1), .val (.ref a1), .val (.long v126), .second, .val (.long v125), .second, .val (.long (x2 + ((v125.toUInt64 >>> ((51 : Int32) &&& 0x3f).toInt64.toUInt64).toInt64))), .second, .val (.long x3), .second, .val (.long x4), .second]) rfl ?_
    exact k
  generalize hv_v127 : (x2 + ((v125.toUInt64 >>> ((51 : Int32) &&& 0x3f).toInt64.toUInt64).toInt64)) = v127
  refine Go.st (U' := s₁.setTop (mkF m 57 #[.val (.ref a1), .val (.ref a1), .val (.long v126), .second, .val (.long (v125 &&& (2251799813685247 : Int64))), .second, .val (.long v127), .second, .val (.long x3), .second, .val (.long x4), .second] [])) (fun t k => ?_) ?_
  · refine XS.lload X0.here hx rfl (hb hby d1_49) rfl ?_
    refine X0.ldc2Long hx hown (mvT hZ (own_w hw 6 rfl)) (g := (mkF m 51 #[.val (.ref a1), .val (.ref a1), .val (.long v126), .second, .val (.long v125), .second, .val (.long v127), .second, .val (.long x3), .second, .val (.long x4), .second] [(.long v125)])) rfl (hb hby d1_51) _ ?_
    refine XS.land X0.here hx rfl (hb hby d1_54) rfl ?_
    refine XS.lstore X0.here hx rfl (hb hby d1_55) rfl (l' := #[.val (.ref a1), .val (.ref a1), .val (.long v126), .second, .val (.long (v125 &&& (2251799813685247 : Int64))), .second, .val (.long v127), .second, .val (.long x3), .second, .val (.long x4), .second]) rfl ?_
    exact k
  generalize hv_v128 : (v125 &&& (2251799813685247 : Int64)) = v128
  refine Go.st (U' := s₁.setTop (mkF m 67 #[.val (.ref a1), .val (.ref a1), .val (.long v126), .second, .val (.long v128), .second, .val (.long v127), .second, .val (.long (x3 + ((v127.toUInt64 >>> ((51 : Int32) &&& 0x3f).toInt64.toUInt64).toInt64))), .second, .val (.long x4), .second] [])) (fun t k => ?_) ?_
  · refine XS.lload X0.here hx rfl (hb hby d1_57) rfl ?_
    refine XS.lload X0.here hx rfl (hb hby d1_59) rfl ?_
    refine XS.bipush X0.here hx rfl (hb hby d1_61) ?_
    refine XS.lushr X0.here hx rfl (hb hby d1_63) rfl ?_
    refine XS.ladd X0.here hx rfl (hb hby d1_64) rfl ?_
    refine XS.lstore X0.here hx rfl (hb hby d1_65) rfl (l' := #[.val (.ref a1), .val (.ref a1), .val (.long v126), .second, .val (.long v128), .second, .val (.long v127), .second, .val (.long (x3 + ((v127.toUInt64 >>> ((51 : Int32) &&& 0x3f).toInt64.toUInt64).toInt64))), .second, .val (.long x4), .second]) rfl ?_
    exact k
  generalize hv_v129 : (x3 + ((v127.toUInt64 >>> ((51 : Int32) &&& 0x3f).toInt64.toUInt64).toInt64)) = v129
  refine Go.st (U' := s₁.setTop (mkF m 75 #[.val (.ref a1), .val (.ref a1), .val (.long v126), .second, .val (.long v128), .second, .val (.long (v127 &&& (2251799813685247 : Int64))), .second, .val (.long v129), .second, .val (.long x4), .second] [])) (fun t k => ?_) ?_
  · refine XS.lload X0.here hx rfl (hb hby d1_67) rfl ?_
    refine X0.ldc2Long hx hown (mvT hZ (own_w hw 6 rfl)) (g := (mkF m 69 #[.val (.ref a1), .val (.ref a1), .val (.long v126), .second, .val (.long v128), .second, .val (.long v127), .second, .val (.long v129), .second, .val (.long x4), .second] [(.long v127)])) rfl (hb hby d1_69) _ ?_
    refine XS.land X0.here hx rfl (hb hby d1_72) rfl ?_
    refine XS.lstore X0.here hx rfl (hb hby d1_73) rfl (l' := #[.val (.ref a1), .val (.ref a1), .val (.long v126), .second, .val (.long v128), .second, .val (.long (v127 &&& (2251799813685247 : Int64))), .second, .val (.long v129), .second, .val (.long x4), .second]) rfl ?_
    exact k
  generalize hv_v130 : (v127 &&& (2251799813685247 : Int64)) = v130
  refine Go.st (U' := s₁.setTop (mkF m 85 #[.val (.ref a1), .val (.ref a1), .val (.long v126), .second, .val (.long v128), .second, .val (.long v130), .second, .val (.long v129), .second, .val (.long (x4 + ((v129.toUInt64 >>> ((51 : Int32) &&& 0x3f).toInt64.toUInt64).toInt64))), .second] [])) (fun t k => ?_) ?_
  · refine XS.lload X0.here hx rfl (hb hby d1_75) rfl ?_
    refine XS.lload X0.here hx rfl (hb hby d1_77) rfl ?_
    refine XS.bipush X0.here hx rfl (hb hby d1_79) ?_
    refine XS.lushr X0.here hx rfl (hb hby d1_81) rfl ?_
    refine XS.ladd X0.here hx rfl (hb hby d1_82) rfl ?_
    refine XS.lstore X0.here hx rfl (hb hby d1_83) rfl (l' := #[.val (.ref a1), .val (.ref a1), .val (.long v126), .second, .val (.long v128), .second, .val (.long v130), .second, .val (.long v129), .second, .val (.long (x4 + ((v129.toUInt64 >>> ((51 : Int32) &&& 0x3f).toInt64.toUInt64).toInt64))), .second]) rfl ?_
    exact k
  generalize hv_v131 : (x4 + ((v129.toUInt64 >>> ((51 : Int32) &&& 0x3f).toInt64.toUInt64).toInt64)) = v131
  refine Go.st (U' := s₁.setTop (mkF m 93 #[.val (.ref a1), .val (.ref a1), .val (.long v126), .second, .val (.long v128), .second, .val (.long v130), .second, .val (.long (v129 &&& (2251799813685247 : Int64))), .second, .val (.long v131), .second] [])) (fun t k => ?_) ?_
  · refine XS.lload X0.here hx rfl (hb hby d1_85) rfl ?_
    refine X0.ldc2Long hx hown (mvT hZ (own_w hw 6 rfl)) (g := (mkF m 87 #[.val (.ref a1), .val (.ref a1), .val (.long v126), .second, .val (.long v128), .second, .val (.long v130), .second, .val (.long v129), .second, .val (.long v131), .second] [(.long v129)])) rfl (hb hby d1_87) _ ?_
    refine XS.land X0.here hx rfl (hb hby d1_90) rfl ?_
    refine XS.lstore X0.here hx rfl (hb hby d1_91) rfl (l' := #[.val (.ref a1), .val (.ref a1), .val (.long v126), .second, .val (.long v128), .second, .val (.long v130), .second, .val (.long (v129 &&& (2251799813685247 : Int64))), .second, .val (.long v131), .second]) rfl ?_
    exact k
  generalize hv_v132 : (v129 &&& (2251799813685247 : Int64)) = v132
  refine Go.st (U' := s₁.setTop (mkF m 105 #[.val (.ref a1), .val (.ref a1), .val (.long (v126 + ((19 : Int64) * ((v131.toUInt64 >>> ((51 : Int32) &&& 0x3f).toInt64.toUInt64).toInt64)))), .second, .val (.long v128), .second, .val (.long v130), .second, .val (.long v132), .second, .val (.long v131), .second] [])) (fun t k => ?_) ?_
  · refine XS.lloadN X0.here hx rfl (hb hby d1_93) rfl ?_
    refine X0.ldc2Long hx hown (mvT hZ (own_w hw 7 rfl)) (g := (mkF m 94 #[.val (.ref a1), .val (.ref a1), .val (.long v126), .second, .val (.long v128), .second, .val (.long v130), .second, .val (.long v132), .second, .val (.long v131), .second] [(.long v126)])) rfl (hb hby d1_94) _ ?_
    refine XS.lload X0.here hx rfl (hb hby d1_97) rfl ?_
    refine XS.bipush X0.here hx rfl (hb hby d1_99) ?_
    refine XS.lushr X0.here hx rfl (hb hby d1_101) rfl ?_
    refine XS.lmul X0.here hx rfl (hb hby d1_102) rfl ?_
    refine XS.ladd X0.here hx rfl (hb hby d1_103) rfl ?_
    refine XS.lstoreN X0.here hx rfl (hb hby d1_104) rfl (l' := #[.val (.ref a1), .val (.ref a1), .val (.long (v126 + ((19 : Int64) * ((v131.toUInt64 >>> ((51 : Int32) &&& 0x3f).toInt64.toUInt64).toInt64)))), .second, .val (.long v128), .second, .val (.long v130), .second, .val (.long v132), .second, .val (.long v131), .second]) rfl ?_
    exact k
  generalize hv_v133 : (v126 + ((19 : Int64) * ((v131.toUInt64 >>> ((51 : Int32) &&& 0x3f).toInt64.toUInt64).toInt64))) = v133
  refine Go.st (U' := s₁.setTop (mkF m 113 #[.val (.ref a1), .val (.ref a1), .val (.long v133), .second, .val (.long v128), .second, .val (.long v130), .second, .val (.long v132), .second, .val (.long (v131 &&& (2251799813685247 : Int64))), .second] [])) (fun t k => ?_) ?_
  · refine XS.lload X0.here hx rfl (hb hby d1_105) rfl ?_
    refine X0.ldc2Long hx hown (mvT hZ (own_w hw 6 rfl)) (g := (mkF m 107 #[.val (.ref a1), .val (.ref a1), .val (.long v133), .second, .val (.long v128), .second, .val (.long v130), .second, .val (.long v132), .second, .val (.long v131), .second] [(.long v131)])) rfl (hb hby d1_107) _ ?_
    refine XS.land X0.here hx rfl (hb hby d1_110) rfl ?_
    refine XS.lstore X0.here hx rfl (hb hby d1_111) rfl (l' := #[.val (.ref a1), .val (.ref a1), .val (.long v133), .second, .val (.long v128), .second, .val (.long v130), .second, .val (.long v132), .second, .val (.long (v131 &&& (2251799813685247 : Int64))), .second]) rfl ?_
    exact k
  generalize hv_v134 : (v131 &&& (2251799813685247 : Int64)) = v134
  refine Go.st (U' := s₁.setTop (mkF m 122 #[.val (.ref a1), .val (.ref a1), .val (.long v133), .second, .val (.long (v128 + ((v133.toUInt64 >>> ((51 : Int32) &&& 0x3f).toInt64.toUInt64).toInt64))), .second, .val (.long v130), .second, .val (.long v132), .second, .val (.long v134), .second] [])) (fun t k => ?_) ?_
  · refine XS.lload X0.here hx rfl (hb hby d1_113) rfl ?_
    refine XS.lloadN X0.here hx rfl (hb hby d1_115) rfl ?_
    refine XS.bipush X0.here hx rfl (hb hby d1_116) ?_
    refine XS.lushr X0.here hx rfl (hb hby d1_118) rfl ?_
    refine XS.ladd X0.here hx rfl (hb hby d1_119) rfl ?_
    refine XS.lstore X0.here hx rfl (hb hby d1_120) rfl (l' := #[.val (.ref a1), .val (.ref a1), .val (.long v133), .second, .val (.long (v128 + ((v133.toUInt64 >>> ((51 : Int32) &&& 0x3f).toInt64.toUInt64).toInt64))), .second, .val (.long v130), .second, .val (.long v132), .second, .val (.long v134), .second]) rfl ?_
    exact k
  generalize hv_v135 : (v128 + ((v133.toUInt64 >>> ((51 : Int32) &&& 0x3f).toInt64.toUInt64).toInt64)) = v135
  refine Go.st (U' := s₁.setTop (mkF m 128 #[.val (.ref a1), .val (.ref a1), .val (.long (v133 &&& (2251799813685247 : Int64))), .second, .val (.long v135), .second, .val (.long v130), .second, .val (.long v132), .second, .val (.long v134), .second] [])) (fun t k => ?_) ?_
  · refine XS.lloadN X0.here hx rfl (hb hby d1_122) rfl ?_
    refine X0.ldc2Long hx hown (mvT hZ (own_w hw 6 rfl)) (g := (mkF m 123 #[.val (.ref a1), .val (.ref a1), .val (.long v133), .second, .val (.long v135), .second, .val (.long v130), .second, .val (.long v132), .second, .val (.long v134), .second] [(.long v133)])) rfl (hb hby d1_123) _ ?_
    refine XS.land X0.here hx rfl (hb hby d1_126) rfl ?_
    refine XS.lstoreN X0.here hx rfl (hb hby d1_127) rfl (l' := #[.val (.ref a1), .val (.ref a1), .val (.long (v133 &&& (2251799813685247 : Int64))), .second, .val (.long v135), .second, .val (.long v130), .second, .val (.long v132), .second, .val (.long v134), .second]) rfl ?_
    exact k
  generalize hv_v136 : (v133 &&& (2251799813685247 : Int64)) = v136
  refine Go.st (U' := s₁.setTop (mkF m 131 #[.val (.ref a1), .val (.ref a1), .val (.long v136), .second, .val (.long v135), .second, .val (.long v130), .second, .val (.long v132), .second, .val (.long v134), .second] [(.long v136), (.int (0 : Int32)), (.ref a1)])) (fun t k => ?_) ?_
  · refine XS.aloadN X0.here hx rfl (hb hby d1_128) rfl rfl ?_
    refine XS.iconst X0.here hx rfl (hb hby d1_129) ?_
    refine XS.lloadN X0.here hx rfl (hb hby d1_130) rfl ?_
    exact k
  obtain ⟨T137, h137, X137, e137, W137, st137⟩ := stJ X0 hx hZ e0 Ar124 (j := (0 : Int32)) (inb_of (j := (0 : Int32)) S124 ⟨by decide, by decide⟩) (g := (mkF m 131 #[.val (.ref a1), .val (.ref a1), .val (.long v136), .second, .val (.long v135), .second, .val (.long v130), .second, .val (.long v132), .second, .val (.long v134), .second] [(.long v136), (.int (0 : Int32)), (.ref a1)])) rfl rfl (hb hby d1_131)
  have VH_137 := Arv.set Ar124 q124 S124 N124 H124 G124 rfl W137 0 rfl (Nat.le_of_ble_eq_true rfl)
  have N137 := Fr.snoc X137 N0 gA
  have KK137 : Keep h0 h137 [a1] := (Keep.refl h0 [a1]).wr W137 (Or.inl (List.mem_of_getElem? (i := 0) rfl))
  have sz137 : n0 ≤ h137.size := Nat.le_trans Z0 (Nat.le_of_eq W137.size.symm)
  refine Go.st (U' := T137.setTop (mkF m 132 #[.val (.ref a1), .val (.ref a1), .val (.long v136), .second, .val (.long v135), .second, .val (.long v130), .second, .val (.long v132), .second, .val (.long v134), .second] [])) (fun t k => st137 _ k) ?_
  refine Go.st (U' := T137.setTop (mkF m 136 #[.val (.ref a1), .val (.ref a1), .val (.long v136), .second, .val (.long v135), .second, .val (.long v130), .second, .val (.long v132), .second, .val (.long v134), .second] [(.long v135), (.int (1 : Int32)), (.ref a1)])) (fun t k => ?_) ?_
  · refine XS.aloadN X137.here hx rfl (hb hby d1_132) rfl rfl ?_
    refine XS.iconst X137.here hx rfl (hb hby d1_133) ?_
    refine XS.lload X137.here hx rfl (hb hby d1_134) rfl ?_
    exact k
  obtain ⟨cl139, Ar139, q139, S139, N139, H139, G139⟩ := id VH_137
  obtain ⟨T138, h138, X138, e138, W138, st138⟩ := stJ X137 hx hZ e137 Ar139 (j := (1 : Int32)) (inb_of (j := (1 : Int32)) S139 ⟨by decide, by decide⟩) (g := (mkF m 136 #[.val (.ref a1), .val (.ref a1), .val (.long v136), .second, .val (.long v135), .second, .val (.long v130), .second, .val (.long v132), .second, .val (.long v134), .second] [(.long v135), (.int (1 : Int32)), (.ref a1)])) rfl rfl (hb hby d1_136)
  have VH_138 := Arv.set Ar139 q139 S139 N139 H139 G139 rfl W138 1 rfl (Nat.le_of_ble_eq_true rfl)
  have N138 := Fr.snoc X138 N137 gA
  have KK138 : Keep h0 h138 [a1] := KK137.wr W138 (Or.inl (List.mem_of_getElem? (i := 0) rfl))
  have sz138 : n0 ≤ h138.size := Nat.le_trans sz137 (Nat.le_of_eq W138.size.symm)
  refine Go.st (U' := T138.setTop (mkF m 137 #[.val (.ref a1), .val (.ref a1), .val (.long v136), .second, .val (.long v135), .second, .val (.long v130), .second, .val (.long v132), .second, .val (.long v134), .second] [])) (fun t k => st138 _ k) ?_
  refine Go.st (U' := T138.setTop (mkF m 141 #[.val (.ref a1), .val (.ref a1), .val (.long v136), .second, .val (.long v135), .second, .val (.long v130), .second, .val (.long v132), .second, .val (.long v134), .second] [(.long v130), (.int (2 : Int32)), (.ref a1)])) (fun t k => ?_) ?_
  · refine XS.aloadN X138.here hx rfl (hb hby d1_137) rfl rfl ?_
    refine XS.iconst X138.here hx rfl (hb hby d1_138) ?_
    refine XS.lload X138.here hx rfl (hb hby d1_139) rfl ?_
    exact k
  obtain ⟨cl141, Ar141, q141, S141, N141, H141, G141⟩ := id VH_138
  obtain ⟨T140, h140, X140, e140, W140, st140⟩ := stJ X138 hx hZ e138 Ar141 (j := (2 : Int32)) (inb_of (j := (2 : Int32)) S141 ⟨by decide, by decide⟩) (g := (mkF m 141 #[.val (.ref a1), .val (.ref a1), .val (.long v136), .second, .val (.long v135), .second, .val (.long v130), .second, .val (.long v132), .second, .val (.long v134), .second] [(.long v130), (.int (2 : Int32)), (.ref a1)])) rfl rfl (hb hby d1_141)
  have VH_140 := Arv.set Ar141 q141 S141 N141 H141 G141 rfl W140 2 rfl (Nat.le_of_ble_eq_true rfl)
  have N140 := Fr.snoc X140 N138 gA
  have KK140 : Keep h0 h140 [a1] := KK138.wr W140 (Or.inl (List.mem_of_getElem? (i := 0) rfl))
  have sz140 : n0 ≤ h140.size := Nat.le_trans sz138 (Nat.le_of_eq W140.size.symm)
  refine Go.st (U' := T140.setTop (mkF m 142 #[.val (.ref a1), .val (.ref a1), .val (.long v136), .second, .val (.long v135), .second, .val (.long v130), .second, .val (.long v132), .second, .val (.long v134), .second] [])) (fun t k => st140 _ k) ?_
  refine Go.st (U' := T140.setTop (mkF m 146 #[.val (.ref a1), .val (.ref a1), .val (.long v136), .second, .val (.long v135), .second, .val (.long v130), .second, .val (.long v132), .second, .val (.long v134), .second] [(.long v132), (.int (3 : Int32)), (.ref a1)])) (fun t k => ?_) ?_
  · refine XS.aloadN X140.here hx rfl (hb hby d1_142) rfl rfl ?_
    refine XS.iconst X140.here hx rfl (hb hby d1_143) ?_
    refine XS.lload X140.here hx rfl (hb hby d1_144) rfl ?_
    exact k
  obtain ⟨cl143, Ar143, q143, S143, N143, H143, G143⟩ := id VH_140
  obtain ⟨T142, h142, X142, e142, W142, st142⟩ := stJ X140 hx hZ e140 Ar143 (j := (3 : Int32)) (inb_of (j := (3 : Int32)) S143 ⟨by decide, by decide⟩) (g := (mkF m 146 #[.val (.ref a1), .val (.ref a1), .val (.long v136), .second, .val (.long v135), .second, .val (.long v130), .second, .val (.long v132), .second, .val (.long v134), .second] [(.long v132), (.int (3 : Int32)), (.ref a1)])) rfl rfl (hb hby d1_146)
  have VH_142 := Arv.set Ar143 q143 S143 N143 H143 G143 rfl W142 3 rfl (Nat.le_of_ble_eq_true rfl)
  have N142 := Fr.snoc X142 N140 gA
  have KK142 : Keep h0 h142 [a1] := KK140.wr W142 (Or.inl (List.mem_of_getElem? (i := 0) rfl))
  have sz142 : n0 ≤ h142.size := Nat.le_trans sz140 (Nat.le_of_eq W142.size.symm)
  refine Go.st (U' := T142.setTop (mkF m 147 #[.val (.ref a1), .val (.ref a1), .val (.long v136), .second, .val (.long v135), .second, .val (.long v130), .second, .val (.long v132), .second, .val (.long v134), .second] [])) (fun t k => st142 _ k) ?_
  refine Go.st (U' := T142.setTop (mkF m 151 #[.val (.ref a1), .val (.ref a1), .val (.long v136), .second, .val (.long v135), .second, .val (.long v130), .second, .val (.long v132), .second, .val (.long v134), .second] [(.long v134), (.int (4 : Int32)), (.ref a1)])) (fun t k => ?_) ?_
  · refine XS.aloadN X142.here hx rfl (hb hby d1_147) rfl rfl ?_
    refine XS.iconst X142.here hx rfl (hb hby d1_148) ?_
    refine XS.lload X142.here hx rfl (hb hby d1_149) rfl ?_
    exact k
  obtain ⟨cl145, Ar145, q145, S145, N145, H145, G145⟩ := id VH_142
  obtain ⟨T144, h144, X144, e144, W144, st144⟩ := stJ X142 hx hZ e142 Ar145 (j := (4 : Int32)) (inb_of (j := (4 : Int32)) S145 ⟨by decide, by decide⟩) (g := (mkF m 151 #[.val (.ref a1), .val (.ref a1), .val (.long v136), .second, .val (.long v135), .second, .val (.long v130), .second, .val (.long v132), .second, .val (.long v134), .second] [(.long v134), (.int (4 : Int32)), (.ref a1)])) rfl rfl (hb hby d1_151)
  have VH_144 := Arv.set Ar145 q145 S145 N145 H145 G145 rfl W144 4 rfl (Nat.le_of_ble_eq_true rfl)
  have N144 := Fr.snoc X144 N142 gA
  have KK144 : Keep h0 h144 [a1] := KK142.wr W144 (Or.inl (List.mem_of_getElem? (i := 0) rfl))
  have sz144 : n0 ≤ h144.size := Nat.le_trans sz142 (Nat.le_of_eq W144.size.symm)
  refine Go.st (U' := T144.setTop (mkF m 152 #[.val (.ref a1), .val (.ref a1), .val (.long v136), .second, .val (.long v135), .second, .val (.long v130), .second, .val (.long v132), .second, .val (.long v134), .second] [])) (fun t k => st144 _ k) ?_
  refine own_ret (Q := Q2 Z a1 k1 x0 x1 x2 x3 x4 h0 n0) (v := none) X144 hlk (fun _ => rfl) (by decide) (by decide) ?_ (fun fs hr => X144.returnOut hx hrt (hb hby d1_152) hr)
  rw [e144]
  subst hv_v125; subst hv_v126; subst hv_v127; subst hv_v128; subst hv_v129; subst hv_v130; subst hv_v131; subst hv_v132; subst hv_v133; subst hv_v134; subst hv_v135; subst hv_v136; exact ⟨rfl, N144, KK144, VH_144⟩
theorem d2_0 : decode method_2_code 0 = .ok (.ldc2_w 7, 3) := by decide +kernel
theorem d2_3 : decode method_2_code 3 = .ok (.lstore 10, 2) := by decide +kernel
theorem d2_5 : decode method_2_code 5 = .ok (.lload_n 0, 1) := by decide +kernel
theorem d2_6 : decode method_2_code 6 = .ok (.lload 10, 2) := by decide +kernel
theorem d2_8 : decode method_2_code 8 = .ok (.lrem, 1) := by decide +kernel
theorem d2_9 : decode method_2_code 9 = .ok (.lstore 12, 2) := by decide +kernel
theorem d2_11 : decode method_2_code 11 = .ok (.lload_n 2, 1) := by decide +kernel
theorem d2_12 : decode method_2_code 12 = .ok (.lload 10, 2) := by decide +kernel
theorem d2_14 : decode method_2_code 14 = .ok (.lrem, 1) := by decide +kernel
theorem d2_15 : decode method_2_code 15 = .ok (.ldc2_w 9, 3) := by decide +kernel
theorem d2_18 : decode method_2_code 18 = .ok (.lmul, 1) := by decide +kernel
theorem d2_19 : decode method_2_code 19 = .ok (.lload 10, 2) := by decide +kernel
theorem d2_21 : decode method_2_code 21 = .ok (.lrem, 1) := by decide +kernel
theorem d2_22 : decode method_2_code 22 = .ok (.lstore 14, 2) := by decide +kernel
theorem d2_24 : decode method_2_code 24 = .ok (.lload 4, 2) := by decide +kernel
theorem d2_26 : decode method_2_code 26 = .ok (.lload 10, 2) := by decide +kernel
theorem d2_28 : decode method_2_code 28 = .ok (.lrem, 1) := by decide +kernel
theorem d2_29 : decode method_2_code 29 = .ok (.ldc2_w 11, 3) := by decide +kernel
theorem d2_32 : decode method_2_code 32 = .ok (.lmul, 1) := by decide +kernel
theorem d2_33 : decode method_2_code 33 = .ok (.lload 10, 2) := by decide +kernel
theorem d2_35 : decode method_2_code 35 = .ok (.lrem, 1) := by decide +kernel
theorem d2_36 : decode method_2_code 36 = .ok (.lstore 16, 2) := by decide +kernel
theorem d2_38 : decode method_2_code 38 = .ok (.lload 6, 2) := by decide +kernel
theorem d2_40 : decode method_2_code 40 = .ok (.lload 10, 2) := by decide +kernel
theorem d2_42 : decode method_2_code 42 = .ok (.lrem, 1) := by decide +kernel
theorem d2_43 : decode method_2_code 43 = .ok (.ldc2_w 13, 3) := by decide +kernel
theorem d2_46 : decode method_2_code 46 = .ok (.lmul, 1) := by decide +kernel
theorem d2_47 : decode method_2_code 47 = .ok (.lload 10, 2) := by decide +kernel
theorem d2_49 : decode method_2_code 49 = .ok (.lrem, 1) := by decide +kernel
theorem d2_50 : decode method_2_code 50 = .ok (.lstore 18, 2) := by decide +kernel
theorem d2_52 : decode method_2_code 52 = .ok (.lload 8, 2) := by decide +kernel
theorem d2_54 : decode method_2_code 54 = .ok (.lload 10, 2) := by decide +kernel
theorem d2_56 : decode method_2_code 56 = .ok (.lrem, 1) := by decide +kernel
theorem d2_57 : decode method_2_code 57 = .ok (.ldc2_w 15, 3) := by decide +kernel
theorem d2_60 : decode method_2_code 60 = .ok (.lmul, 1) := by decide +kernel
theorem d2_61 : decode method_2_code 61 = .ok (.lload 10, 2) := by decide +kernel
theorem d2_63 : decode method_2_code 63 = .ok (.lrem, 1) := by decide +kernel
theorem d2_64 : decode method_2_code 64 = .ok (.lstore 20, 2) := by decide +kernel
theorem d2_66 : decode method_2_code 66 = .ok (.lload 12, 2) := by decide +kernel
theorem d2_68 : decode method_2_code 68 = .ok (.lload 14, 2) := by decide +kernel
theorem d2_70 : decode method_2_code 70 = .ok (.ladd, 1) := by decide +kernel
theorem d2_71 : decode method_2_code 71 = .ok (.lload 16, 2) := by decide +kernel
theorem d2_73 : decode method_2_code 73 = .ok (.ladd, 1) := by decide +kernel
theorem d2_74 : decode method_2_code 74 = .ok (.lload 18, 2) := by decide +kernel
theorem d2_76 : decode method_2_code 76 = .ok (.ladd, 1) := by decide +kernel
theorem d2_77 : decode method_2_code 77 = .ok (.lload 20, 2) := by decide +kernel
theorem d2_79 : decode method_2_code 79 = .ok (.ladd, 1) := by decide +kernel
theorem d2_80 : decode method_2_code 80 = .ok (.lload 10, 2) := by decide +kernel
theorem d2_82 : decode method_2_code 82 = .ok (.lrem, 1) := by decide +kernel
theorem d2_83 : decode method_2_code 83 = .ok (.lreturn, 1) := by decide +kernel
theorem pn_1 : plainName "com/example/hopwright/hopwright/crypto/Field25519CarryPinLaw" = true := by first | (simp [plainName, overriddenIn]; done) | decide +kernel
theorem ef3 (m : MethodId) (x0 : Int64) (x1 : Int64) (x2 : Int64) (x3 : Int64) (x4 : Int64) : entryFrame m #[(.long x0), (.long x1), (.long x2), (.long x3), (.long x4)] 22 = mkF m 0 #[.val (.long x0), .second, .val (.long x1), .second, .val (.long x2), .second, .val (.long x3), .second, .val (.long x4), .second, .unset, .unset, .unset, .unset, .unset, .unset, .unset, .unset, .unset, .unset, .unset, .unset] [] := by first | (simp [entryFrame, mkF, argsToLocals, Value.category]; done) | rfl
def fM (x0 : Int64) (x1 : Int64) (x2 : Int64) (x3 : Int64) (x4 : Int64) : Int64 := ((((((x0 - (x0 / (2147483647 : Int64)) * (2147483647 : Int64)) + (((x1 - (x1 / (2147483647 : Int64)) * (2147483647 : Int64)) * (1048576 : Int64)) - (((x1 - (x1 / (2147483647 : Int64)) * (2147483647 : Int64)) * (1048576 : Int64)) / (2147483647 : Int64)) * (2147483647 : Int64))) + (((x2 - (x2 / (2147483647 : Int64)) * (2147483647 : Int64)) * (512 : Int64)) - (((x2 - (x2 / (2147483647 : Int64)) * (2147483647 : Int64)) * (512 : Int64)) / (2147483647 : Int64)) * (2147483647 : Int64))) + (((x3 - (x3 / (2147483647 : Int64)) * (2147483647 : Int64)) * (536870912 : Int64)) - (((x3 - (x3 / (2147483647 : Int64)) * (2147483647 : Int64)) * (536870912 : Int64)) / (2147483647 : Int64)) * (2147483647 : Int64))) + (((x4 - (x4 / (2147483647 : Int64)) * (2147483647 : Int64)) * (262144 : Int64)) - (((x4 - (x4 / (2147483647 : Int64)) * (2147483647 : Int64)) * (262144 : Int64)) / (2147483647 : Int64)) * (2147483647 : Int64))) - ((((((x0 - (x0 / (2147483647 : Int64)) * (2147483647 : Int64)) + (((x1 - (x1 / (2147483647 : Int64)) * (2147483647 : Int64)) * (1048576 : Int64)) - (((x1 - (x1 / (2147483647 : Int64)) * (2147483647 : Int64)) * (1048576 : Int64)) / (2147483647 : Int64)) * (2147483647 : Int64))) + (((x2 - (x2 / (2147483647 : Int64)) * (2147483647 : Int64)) * (512 : Int64)) - (((x2 - (x2 / (2147483647 : Int64)) * (2147483647 : Int64)) * (512 : Int64)) / (2147483647 : Int64)) * (2147483647 : Int64))) + (((x3 - (x3 / (2147483647 : Int64)) * (2147483647 : Int64)) * (536870912 : Int64)) - (((x3 - (x3 / (2147483647 : Int64)) * (2147483647 : Int64)) * (536870912 : Int64)) / (2147483647 : Int64)) * (2147483647 : Int64))) + (((x4 - (x4 / (2147483647 : Int64)) * (2147483647 : Int64)) * (262144 : Int64)) - (((x4 - (x4 / (2147483647 : Int64)) * (2147483647 : Int64)) * (262144 : Int64)) / (2147483647 : Int64)) * (2147483647 : Int64))) / (2147483647 : Int64)) * (2147483647 : Int64))
def Q3 (Z : State) (x0 : Int64) (x1 : Int64) (x2 : Int64) (x3 : Int64) (x4 : Int64) (h0 : Heap) (n0 : Nat) (v : Option Value) (h : Heap) (L : List Loc) : Prop := v = some (.long (fM x0 x1 x2 x3 x4)) ∧ Fr n0 L ∧ h = h0
set_option maxRecDepth 65536 in
set_option maxHeartbeats 40000000 in
theorem rm3 (l : Launch) (Z : State) (a0 : Array Value) (hw : ∀ d ∈ tables_1, d.before a0 Z = true) (ws : List Jvm.Cond) (x0 : Int64) (x1 : Int64) (x2 : Int64) (x3 : Int64) (x4 : Int64) (h0 : Heap) (n0 : Nat) (Z0 : n0 ≤ h0.size) :
    MetFree l own_y1 (head1 (Jvm.Cond.code own_y1 method_2_code 22 (some .long) :: ws) own_R0_0_0_0) (fun a U => a = #[(.long x0), (.long x1), (.long x2), (.long x3), (.long x4)] ∧ Z.Warmed39 U.vm ∧ U.heap = h0) (fun _ _ _ _ _ => True) (fun _ U o U' => ∃ v L, o = .returned v ∧ Q3 Z x0 x1 x2 x3 x4 h0 n0 v U'.heap L ∧ FrameEnd U o U' L (own_R0_0_0_0).cells (own_R0_0_0_0).slots) := by
  refine MetFree.of_bodySF (plainFor_of_name pn_1) hisR ?_
  intro p e s m args below meth c s₁ Bd hml0 hP hK
  obtain ⟨rfl, hZ, hh⟩ := hP
  have hx := Bd.exec
  have hby := Bd.bytes
  have hml : c.maxLocals = 22 := hml0
  have hown : s.vm.findClass "com/example/hopwright/hopwright/crypto/Field25519CarryPinLaw" = some m.cls := findClass_of_methodNamed Bd.named
  have hnm := (name_of_methodNamed Bd.named Bd.method).1
  have hlk : meth.locks = false := BodyLoose.notSynchronized Bd
  have hrt := Bd.returns
  have X0 : Stand p l e own_R0_0_0_0 s m #[(.long x0), (.long x1), (.long x2), (.long x3), (.long x4)] below meth c s₁ [] 0 0 := Stand.of_body Bd
  have e0 : s₁.heap = h0 := by rw [← hh, Bd.state]; rfl
  have N0 := Fr.nil n0
  refine (show Go p e below (fun s₂ o => ∃ v L, o = .returned v ∧ Q3 Z x0 x1 x2 x3 x4 h0 n0 v s₂.heap L ∧ FrameEnd s o s₂ L 0 0) (s₁.setTop (entryFrame m #[(.long x0), (.long x1), (.long x2), (.long x3), (.long x4)] 22)) from ?_)
  rw [ef3]
  refine Go.st (U' := s₁.setTop (mkF m 83 #[.val (.long x0), .second, .val (.long x1), .second, .val (.long x2), .second, .val (.long x3), .second, .val (.long x4), .second, .val (.long (2147483647 : Int64)), .second, .val (.long (x0 - (x0 / (2147483647 : Int64)) * (2147483647 : Int64))), .second, .val (.long (((x1 - (x1 / (2147483647 : Int64)) * (2147483647 : Int64)) * (1048576 : Int64)) - (((x1 - (x1 / (2147483647 : Int64)) * (2147483647 : Int64)) * (1048576 : Int64)) / (2147483647 : Int64)) * (2147483647 : Int64))), .second, .val (.long (((x2 - (x2 / (2147483647 : Int64)) * (2147483647 : Int64)) * (512 : Int64)) - (((x2 - (x2 / (2147483647 : Int64)) * (2147483647 : Int64)) * (512 : Int64)) / (2147483647 : Int64)) * (2147483647 : Int64))), .second, .val (.long (((x3 - (x3 / (2147483647 : Int64)) * (2147483647 : Int64)) * (536870912 : Int64)) - (((x3 - (x3 / (2147483647 : Int64)) * (2147483647 : Int64)) * (536870912 : Int64)) / (2147483647 : Int64)) * (2147483647 : Int64))), .second, .val (.long (((x4 - (x4 / (2147483647 : Int64)) * (2147483647 : Int64)) * (262144 : Int64)) - (((x4 - (x4 / (2147483647 : Int64)) * (2147483647 : Int64)) * (262144 : Int64)) / (2147483647 : Int64)) * (2147483647 : Int64))), .second] [(.long ((((((x0 - (x0 / (2147483647 : Int64)) * (2147483647 : Int64)) + (((x1 - (x1 / (2147483647 : Int64)) * (2147483647 : Int64)) * (1048576 : Int64)) - (((x1 - (x1 / (2147483647 : Int64)) * (2147483647 : Int64)) * (1048576 : Int64)) / (2147483647 : Int64)) * (2147483647 : Int64))) + (((x2 - (x2 / (2147483647 : Int64)) * (2147483647 : Int64)) * (512 : Int64)) - (((x2 - (x2 / (2147483647 : Int64)) * (2147483647 : Int64)) * (512 : Int64)) / (2147483647 : Int64)) * (2147483647 : Int64))) + (((x3 - (x3 / (2147483647 : Int64)) * (2147483647 : Int64)) * (536870912 : Int64)) - (((x3 - (x3 / (2147483647 : Int64)) * (2147483647 : Int64)) * (536870912 : Int64)) / (2147483647 : Int64)) * (2147483647 : Int64))) + (((x4 - (x4 / (2147483647 : Int64)) * (2147483647 : Int64)) * (262144 : Int64)) - (((x4 - (x4 / (2147483647 : Int64)) * (2147483647 : Int64)) * (262144 : Int64)) / (2147483647 : Int64)) * (2147483647 : Int64))) - ((((((x0 - (x0 / (2147483647 : Int64)) * (2147483647 : Int64)) + (((x1 - (x1 / (2147483647 : Int64)) * (2147483647 : Int64)) * (1048576 : Int64)) - (((x1 - (x1 / (2147483647 : Int64)) * (2147483647 : Int64)) * (1048576 : Int64)) / (2147483647 : Int64)) * (2147483647 : Int64))) + (((x2 - (x2 / (2147483647 : Int64)) * (2147483647 : Int64)) * (512 : Int64)) - (((x2 - (x2 / (2147483647 : Int64)) * (2147483647 : Int64)) * (512 : Int64)) / (2147483647 : Int64)) * (2147483647 : Int64))) + (((x3 - (x3 / (2147483647 : Int64)) * (2147483647 : Int64)) * (536870912 : Int64)) - (((x3 - (x3 / (2147483647 : Int64)) * (2147483647 : Int64)) * (536870912 : Int64)) / (2147483647 : Int64)) * (2147483647 : Int64))) + (((x4 - (x4 / (2147483647 : Int64)) * (2147483647 : Int64)) * (262144 : Int64)) - (((x4 - (x4 / (2147483647 : Int64)) * (2147483647 : Int64)) * (262144 : Int64)) / (2147483647 : Int64)) * (2147483647 : Int64))) / (2147483647 : Int64)) * (2147483647 : Int64)))])) (fun t k => ?_) ?_
  · refine X0.ldc2Long hx hown (mvT hZ (own_w hw 16 rfl)) (g := (mkF m 0 #[.val (.long x0), .second, .val (.long x1), .second, .val (.long x2), .second, .val (.long x3), .second, .val (.long x4), .second, .unset, .unset, .unset, .unset, .unset, .unset, .unset, .unset, .unset, .unset, .unset, .unset] [])) rfl (hb hby d2_0) _ ?_
    refine XS.lstore X0.here hx rfl (hb hby d2_3) rfl (l' := #[.val (.long x0), .second, .val (.long x1), .second, .val (.long x2), .second, .val (.long x3), .second, .val (.long x4), .second, .val (.long (2147483647 : Int64)), .second, .unset, .unset, .unset, .unset, .unset, .unset, .unset, .unset, .unset, .unset]) rfl ?_
    refine XS.lloadN X0.here hx rfl (hb hby d2_5) rfl ?_
    refine XS.lload X0.here hx rfl (hb hby d2_6) rfl ?_
    refine XS.lrem X0.here hx rfl (hb hby d2_8) rfl (by decide) ?_
    refine XS.lstore X0.here hx rfl (hb hby d2_9) rfl (l' := #[.val (.long x0), .second, .val (.long x1), .second, .val (.long x2), .second, .val (.long x3), .second, .val (.long x4), .second, .val (.long (2147483647 : Int64)), .second, .val (.long (x0 - (x0 / (2147483647 : Int64)) * (2147483647 : Int64))), .second, .unset, .unset, .unset, .unset, .unset, .unset, .unset, .unset]) rfl ?_
    refine XS.lloadN X0.here hx rfl (hb hby d2_11) rfl ?_
    refine XS.lload X0.here hx rfl (hb hby d2_12) rfl ?_
    refine XS.lrem X0.here hx rfl (hb hby d2_14) rfl (by decide) ?_
    refine X0.ldc2Long hx hown (mvT hZ (own_w hw 17 rfl)) (g := (mkF m 15 #[.val (.long x0), .second, .val (.long x1), .second, .val (.long x2), .second, .val (.long x3), .second, .val (.long x4), .second, .val (.long (2147483647 : Int64)), .second, .val (.long (x0 - (x0 / (2147483647 : Int64)) * (2147483647 : Int64))), .second, .unset, .unset, .unset, .unset, .unset, .unset, .unset, .unset] [(.long (x1 - (x1 / (2147483647 : Int64)) * (2147483647 : Int64)))])) rfl (hb hby d2_15) _ ?_
    refine XS.lmul X0.here hx rfl (hb hby d2_18) rfl ?_
    refine XS.lload X0.here hx rfl (hb hby d2_19) rfl ?_
    refine XS.lrem X0.here hx rfl (hb hby d2_21) rfl (by decide) ?_
    refine XS.lstore X0.here hx rfl (hb hby d2_22) rfl (l' := #[.val (.long x0), .second, .val (.long x1), .second, .val (.long x2), .second, .val (.long x3), .second, .val (.long x4), .second, .val (.long (2147483647 : Int64)), .second, .val (.long (x0 - (x0 / (2147483647 : Int64)) * (2147483647 : Int64))), .second, .val (.long (((x1 - (x1 / (2147483647 : Int64)) * (2147483647 : Int64)) * (1048576 : Int64)) - (((x1 - (x1 / (2147483647 : Int64)) * (2147483647 : Int64)) * (1048576 : Int64)) / (2147483647 : Int64)) * (2147483647 : Int64))), .second, .unset, .unset, .unset, .unset, .unset, .unset]) rfl ?_
    refine XS.lload X0.here hx rfl (hb hby d2_24) rfl ?_
    refine XS.lload X0.here hx rfl (hb hby d2_26) rfl ?_
    refine XS.lrem X0.here hx rfl (hb hby d2_28) rfl (by decide) ?_
    refine X0.ldc2Long hx hown (mvT hZ (own_w hw 18 rfl)) (g := (mkF m 29 #[.val (.long x0), .second, .val (.long x1), .second, .val (.long x2), .second, .val (.long x3), .second, .val (.long x4), .second, .val (.long (2147483647 : Int64)), .second, .val (.long (x0 - (x0 / (2147483647 : Int64)) * (2147483647 : Int64))), .second, .val (.long (((x1 - (x1 / (2147483647 : Int64)) * (2147483647 : Int64)) * (1048576 : Int64)) - (((x1 - (x1 / (2147483647 : Int64)) * (2147483647 : Int64)) * (1048576 : Int64)) / (2147483647 : Int64)) * (2147483647 : Int64))), .second, .unset, .unset, .unset, .unset, .unset, .unset] [(.long (x2 - (x2 / (2147483647 : Int64)) * (2147483647 : Int64)))])) rfl (hb hby d2_29) _ ?_
    refine XS.lmul X0.here hx rfl (hb hby d2_32) rfl ?_
    refine XS.lload X0.here hx rfl (hb hby d2_33) rfl ?_
    refine XS.lrem X0.here hx rfl (hb hby d2_35) rfl (by decide) ?_
    refine XS.lstore X0.here hx rfl (hb hby d2_36) rfl (l' := #[.val (.long x0), .second, .val (.long x1), .second, .val (.long x2), .second, .val (.long x3), .second, .val (.long x4), .second, .val (.long (2147483647 : Int64)), .second, .val (.long (x0 - (x0 / (2147483647 : Int64)) * (2147483647 : Int64))), .second, .val (.long (((x1 - (x1 / (2147483647 : Int64)) * (2147483647 : Int64)) * (1048576 : Int64)) - (((x1 - (x1 / (2147483647 : Int64)) * (2147483647 : Int64)) * (1048576 : Int64)) / (2147483647 : Int64)) * (2147483647 : Int64))), .second, .val (.long (((x2 - (x2 / (2147483647 : Int64)) * (2147483647 : Int64)) * (512 : Int64)) - (((x2 - (x2 / (2147483647 : Int64)) * (2147483647 : Int64)) * (512 : Int64)) / (2147483647 : Int64)) * (2147483647 : Int64))), .second, .unset, .unset, .unset, .unset]) rfl ?_
    refine XS.lload X0.here hx rfl (hb hby d2_38) rfl ?_
    refine XS.lload X0.here hx rfl (hb hby d2_40) rfl ?_
    refine XS.lrem X0.here hx rfl (hb hby d2_42) rfl (by decide) ?_
    refine X0.ldc2Long hx hown (mvT hZ (own_w hw 19 rfl)) (g := (mkF m 43 #[.val (.long x0), .second, .val (.long x1), .second, .val (.long x2), .second, .val (.long x3), .second, .val (.long x4), .second, .val (.long (2147483647 : Int64)), .second, .val (.long (x0 - (x0 / (2147483647 : Int64)) * (2147483647 : Int64))), .second, .val (.long (((x1 - (x1 / (2147483647 : Int64)) * (2147483647 : Int64)) * (1048576 : Int64)) - (((x1 - (x1 / (2147483647 : Int64)) * (2147483647 : Int64)) * (1048576 : Int64)) / (2147483647 : Int64)) * (2147483647 : Int64))), .second, .val (.long (((x2 - (x2 / (2147483647 : Int64)) * (2147483647 : Int64)) * (512 : Int64)) - (((x2 - (x2 / (2147483647 : Int64)) * (2147483647 : Int64)) * (512 : Int64)) / (2147483647 : Int64)) * (2147483647 : Int64))), .second, .unset, .unset, .unset, .unset] [(.long (x3 - (x3 / (2147483647 : Int64)) * (2147483647 : Int64)))])) rfl (hb hby d2_43) _ ?_
    refine XS.lmul X0.here hx rfl (hb hby d2_46) rfl ?_
    refine XS.lload X0.here hx rfl (hb hby d2_47) rfl ?_
    refine XS.lrem X0.here hx rfl (hb hby d2_49) rfl (by decide) ?_
    refine XS.lstore X0.here hx rfl (hb hby d2_50) rfl (l' := #[.val (.long x0), .second, .val (.long x1), .second, .val (.long x2), .second, .val (.long x3), .second, .val (.long x4), .second, .val (.long (2147483647 : Int64)), .second, .val (.long (x0 - (x0 / (2147483647 : Int64)) * (2147483647 : Int64))), .second, .val (.long (((x1 - (x1 / (2147483647 : Int64)) * (2147483647 : Int64)) * (1048576 : Int64)) - (((x1 - (x1 / (2147483647 : Int64)) * (2147483647 : Int64)) * (1048576 : Int64)) / (2147483647 : Int64)) * (2147483647 : Int64))), .second, .val (.long (((x2 - (x2 / (2147483647 : Int64)) * (2147483647 : Int64)) * (512 : Int64)) - (((x2 - (x2 / (2147483647 : Int64)) * (2147483647 : Int64)) * (512 : Int64)) / (2147483647 : Int64)) * (2147483647 : Int64))), .second, .val (.long (((x3 - (x3 / (2147483647 : Int64)) * (2147483647 : Int64)) * (536870912 : Int64)) - (((x3 - (x3 / (2147483647 : Int64)) * (2147483647 : Int64)) * (536870912 : Int64)) / (2147483647 : Int64)) * (2147483647 : Int64))), .second, .unset, .unset]) rfl ?_
    refine XS.lload X0.here hx rfl (hb hby d2_52) rfl ?_
    refine XS.lload X0.here hx rfl (hb hby d2_54) rfl ?_
    refine XS.lrem X0.here hx rfl (hb hby d2_56) rfl (by decide) ?_
    refine X0.ldc2Long hx hown (mvT hZ (own_w hw 20 rfl)) (g := (mkF m 57 #[.val (.long x0), .second, .val (.long x1), .second, .val (.long x2), .second, .val (.long x3), .second, .val (.long x4), .second, .val (.long (2147483647 : Int64)), .second, .val (.long (x0 - (x0 / (2147483647 : Int64)) * (2147483647 : Int64))), .second, .val (.long (((x1 - (x1 / (2147483647 : Int64)) * (2147483647 : Int64)) * (1048576 : Int64)) - (((x1 - (x1 / (2147483647 : Int64)) * (2147483647 : Int64)) * (1048576 : Int64)) / (2147483647 : Int64)) * (2147483647 : Int64))), .second, .val (.long (((x2 - (x2 / (2147483647 : Int64)) * (2147483647 : Int64)) * (512 : Int64)) - (((x2 - (x2 / (2147483647 : Int64)) * (2147483647 : Int64)) * (512 : Int64)) / (2147483647 : Int64)) * (2147483647 : Int64))), .second, .val (.long (((x3 - (x3 / (2147483647 : Int64)) * (2147483647 : Int64)) * (536870912 : Int64)) - (((x3 - (x3 / (2147483647 : Int64)) * (2147483647 : Int64)) * (536870912 : Int64)) / (2147483647 : Int64)) * (2147483647 : Int64))), .second, .unset, .unset] [(.long (x4 - (x4 / (2147483647 : Int64)) * (2147483647 : Int64)))])) rfl (hb hby d2_57) _ ?_
    refine XS.lmul X0.here hx rfl (hb hby d2_60) rfl ?_
    refine XS.lload X0.here hx rfl (hb hby d2_61) rfl ?_
    refine XS.lrem X0.here hx rfl (hb hby d2_63) rfl (by decide) ?_
    refine XS.lstore X0.here hx rfl (hb hby d2_64) rfl (l' := #[.val (.long x0), .second, .val (.long x1), .second, .val (.long x2), .second, .val (.long x3), .second, .val (.long x4), .second, .val (.long (2147483647 : Int64)), .second, .val (.long (x0 - (x0 / (2147483647 : Int64)) * (2147483647 : Int64))), .second, .val (.long (((x1 - (x1 / (2147483647 : Int64)) * (2147483647 : Int64)) * (1048576 : Int64)) - (((x1 - (x1 / (2147483647 : Int64)) * (2147483647 : Int64)) * (1048576 : Int64)) / (2147483647 : Int64)) * (2147483647 : Int64))), .second, .val (.long (((x2 - (x2 / (2147483647 : Int64)) * (2147483647 : Int64)) * (512 : Int64)) - (((x2 - (x2 / (2147483647 : Int64)) * (2147483647 : Int64)) * (512 : Int64)) / (2147483647 : Int64)) * (2147483647 : Int64))), .second, .val (.long (((x3 - (x3 / (2147483647 : Int64)) * (2147483647 : Int64)) * (536870912 : Int64)) - (((x3 - (x3 / (2147483647 : Int64)) * (2147483647 : Int64)) * (536870912 : Int64)) / (2147483647 : Int64)) * (2147483647 : Int64))), .second, .val (.long (((x4 - (x4 / (2147483647 : Int64)) * (2147483647 : Int64)) * (262144 : Int64)) - (((x4 - (x4 / (2147483647 : Int64)) * (2147483647 : Int64)) * (262144 : Int64)) / (2147483647 : Int64)) * (2147483647 : Int64))), .second]) rfl ?_
    refine XS.lload X0.here hx rfl (hb hby d2_66) rfl ?_
    refine XS.lload X0.here hx rfl (hb hby d2_68) rfl ?_
    refine XS.ladd X0.here hx rfl (hb hby d2_70) rfl ?_
    refine XS.lload X0.here hx rfl (hb hby d2_71) rfl ?_
    refine XS.ladd X0.here hx rfl (hb hby d2_73) rfl ?_
    refine XS.lload X0.here hx rfl (hb hby d2_74) rfl ?_
    refine XS.ladd X0.here hx rfl (hb hby d2_76) rfl ?_
    refine XS.lload X0.here hx rfl (hb hby d2_77) rfl ?_
    refine XS.ladd X0.here hx rfl (hb hby d2_79) rfl ?_
    refine XS.lload X0.here hx rfl (hb hby d2_80) rfl ?_
    refine XS.lrem X0.here hx rfl (hb hby d2_82) rfl (by decide) ?_
    exact k
  refine own_ret (Q := Q3 Z x0 x1 x2 x3 x4 h0 n0) (v := some (.long ((((((x0 - (x0 / (2147483647 : Int64)) * (2147483647 : Int64)) + (((x1 - (x1 / (2147483647 : Int64)) * (2147483647 : Int64)) * (1048576 : Int64)) - (((x1 - (x1 / (2147483647 : Int64)) * (2147483647 : Int64)) * (1048576 : Int64)) / (2147483647 : Int64)) * (2147483647 : Int64))) + (((x2 - (x2 / (2147483647 : Int64)) * (2147483647 : Int64)) * (512 : Int64)) - (((x2 - (x2 / (2147483647 : Int64)) * (2147483647 : Int64)) * (512 : Int64)) / (2147483647 : Int64)) * (2147483647 : Int64))) + (((x3 - (x3 / (2147483647 : Int64)) * (2147483647 : Int64)) * (536870912 : Int64)) - (((x3 - (x3 / (2147483647 : Int64)) * (2147483647 : Int64)) * (536870912 : Int64)) / (2147483647 : Int64)) * (2147483647 : Int64))) + (((x4 - (x4 / (2147483647 : Int64)) * (2147483647 : Int64)) * (262144 : Int64)) - (((x4 - (x4 / (2147483647 : Int64)) * (2147483647 : Int64)) * (262144 : Int64)) / (2147483647 : Int64)) * (2147483647 : Int64))) - ((((((x0 - (x0 / (2147483647 : Int64)) * (2147483647 : Int64)) + (((x1 - (x1 / (2147483647 : Int64)) * (2147483647 : Int64)) * (1048576 : Int64)) - (((x1 - (x1 / (2147483647 : Int64)) * (2147483647 : Int64)) * (1048576 : Int64)) / (2147483647 : Int64)) * (2147483647 : Int64))) + (((x2 - (x2 / (2147483647 : Int64)) * (2147483647 : Int64)) * (512 : Int64)) - (((x2 - (x2 / (2147483647 : Int64)) * (2147483647 : Int64)) * (512 : Int64)) / (2147483647 : Int64)) * (2147483647 : Int64))) + (((x3 - (x3 / (2147483647 : Int64)) * (2147483647 : Int64)) * (536870912 : Int64)) - (((x3 - (x3 / (2147483647 : Int64)) * (2147483647 : Int64)) * (536870912 : Int64)) / (2147483647 : Int64)) * (2147483647 : Int64))) + (((x4 - (x4 / (2147483647 : Int64)) * (2147483647 : Int64)) * (262144 : Int64)) - (((x4 - (x4 / (2147483647 : Int64)) * (2147483647 : Int64)) * (262144 : Int64)) / (2147483647 : Int64)) * (2147483647 : Int64))) / (2147483647 : Int64)) * (2147483647 : Int64)))) X0 hlk (fun h => by rw [hrt] at h; cases h) (by decide) (by decide) ?_ (fun fs hr => retOut X0 hx (t := .long) hrt rfl (Or.inr (Or.inl ⟨rfl, rfl, _, rfl⟩)) (hb hby d2_83) hr)
  rw [e0]
  exact ⟨(by first | rfl | simp only [fM]), N0, rfl⟩
theorem own_bd (q a : Int64) (h : (q &&& (4611686018427387903 : Int64)) = a) : 0 ≤ a.toInt ∧ a.toInt < 4611686018427387904 := by
  have h1 := c_maskL q 4611686018427387903 62 (by decide) (by decide)
  rw [h] at h1
  omega
theorem own_sh (x : Int64) (h : 0 ≤ x.toInt) : ((x.toUInt64 >>> ((51 : Int32) &&& 0x3f).toInt64.toUInt64).toInt64).toInt = x.toInt / 2251799813685248 := by
  have h1 := c_lushr x (51 : Int32) 51 (by decide) (by decide)
  have r := rng64 x
  rw [h1, Int.emod_eq_of_lt h (by omega)]; rfl
theorem own_ms (x : Int64) : (x &&& (2251799813685247 : Int64)).toInt = x.toInt % 2251799813685248 := c_maskL x 2251799813685247 51 (by decide) (by decide)
theorem own_ad (x y : Int64) (h0 : 0 ≤ x.toInt) (h1 : x.toInt ≤ 4611686018427387904) (h2 : 0 ≤ y.toInt) (h3 : y.toInt < 4611686018427387904) : (x + y).toInt = x.toInt + y.toInt := by
  have h := c_ladd x y
  have r := rng64 (x + y)
  omega
theorem own_core (a0 a1 a2 a3 a4 h0 h1 h2 h3 h4 : Int64) (b0 : 0 ≤ a0.toInt ∧ a0.toInt < 4611686018427387904) (b1 : 0 ≤ a1.toInt ∧ a1.toInt < 4611686018427387904) (b2 : 0 ≤ a2.toInt ∧ a2.toInt < 4611686018427387904) (b3 : 0 ≤ a3.toInt ∧ a3.toInt < 4611686018427387904) (b4 : 0 ≤ a4.toInt ∧ a4.toInt < 4611686018427387904) (e0 : (own_h0 a0 a1 a2 a3 a4) = h0) (e1 : (own_h1 a0 a1 a2 a3 a4) = h1) (e2 : (own_h2 a0 a1 a2 a3 a4) = h2) (e3 : (own_h3 a0 a1 a2 a3 a4) = h3) (e4 : (own_h4 a0 a1 a2 a3 a4) = h4) : ∃ r0 s0 r1 s1 r2 s2 r3 s3 r4 q u : Int, a0.toInt = r0 + 2251799813685248 * s0 ∧ 0 ≤ r0 ∧ r0 < 2251799813685248 ∧ 0 ≤ s0 ∧ a1.toInt + s0 = r1 + 2251799813685248 * s1 ∧ 0 ≤ r1 ∧ r1 < 2251799813685248 ∧ 0 ≤ s1 ∧ a2.toInt + s1 = r2 + 2251799813685248 * s2 ∧ 0 ≤ r2 ∧ r2 < 2251799813685248 ∧ 0 ≤ s2 ∧ a3.toInt + s2 = r3 + 2251799813685248 * s3 ∧ 0 ≤ r3 ∧ r3 < 2251799813685248 ∧ 0 ≤ s3 ∧ a4.toInt + s3 = r4 + 2251799813685248 * q ∧ 0 ≤ r4 ∧ r4 < 2251799813685248 ∧ 0 ≤ q ∧ q ≤ 2048 ∧ h0.toInt = r0 + 19 * q - 2251799813685248 * u ∧ 0 ≤ h0.toInt ∧ h0.toInt < 2251799813685248 ∧ h1.toInt = r1 + u ∧ 0 ≤ u ∧ u ≤ 1 ∧ h2.toInt = r2 ∧ h3.toInt = r3 ∧ h4.toInt = r4 := by
  have c0 := own_sh a0 b0.1
  have d1 : (a1 + ((a0.toUInt64 >>> ((51 : Int32) &&& 0x3f).toInt64.toUInt64).toInt64)).toInt = a1.toInt + a0.toInt / 2251799813685248 := by rw [own_ad _ _ b1.1 (by omega) (by omega) (by omega), c0]
  subst e0 e1 e2 e3 e4
  unfold own_h0 own_h1 own_h2 own_h3 own_h4
  have m0 := own_ms a0
  generalize (a0 &&& (2251799813685247 : Int64)) = r0 at *
  generalize (a1 + ((a0.toUInt64 >>> ((51 : Int32) &&& 0x3f).toInt64.toUInt64).toInt64)) = t1 at *
  have c1 := own_sh t1 (by omega)
  have d2 : (a2 + ((t1.toUInt64 >>> ((51 : Int32) &&& 0x3f).toInt64.toUInt64).toInt64)).toInt = a2.toInt + t1.toInt / 2251799813685248 := by rw [own_ad _ _ b2.1 (by omega) (by omega) (by omega), c1]
  have m1 := own_ms t1
  generalize (t1 &&& (2251799813685247 : Int64)) = r1 at *
  generalize (a2 + ((t1.toUInt64 >>> ((51 : Int32) &&& 0x3f).toInt64.toUInt64).toInt64)) = t2 at *
  have c2 := own_sh t2 (by omega)
  have d3 : (a3 + ((t2.toUInt64 >>> ((51 : Int32) &&& 0x3f).toInt64.toUInt64).toInt64)).toInt = a3.toInt + t2.toInt / 2251799813685248 := by rw [own_ad _ _ b3.1 (by omega) (by omega) (by omega), c2]
  have m2 := own_ms t2
  generalize (t2 &&& (2251799813685247 : Int64)) = r2 at *
  generalize (a3 + ((t2.toUInt64 >>> ((51 : Int32) &&& 0x3f).toInt64.toUInt64).toInt64)) = t3 at *
  have c3 := own_sh t3 (by omega)
  have d4 : (a4 + ((t3.toUInt64 >>> ((51 : Int32) &&& 0x3f).toInt64.toUInt64).toInt64)).toInt = a4.toInt + t3.toInt / 2251799813685248 := by rw [own_ad _ _ b4.1 (by omega) (by omega) (by omega), c3]
  have m3 := own_ms t3
  generalize (t3 &&& (2251799813685247 : Int64)) = r3 at *
  generalize (a4 + ((t3.toUInt64 >>> ((51 : Int32) &&& 0x3f).toInt64.toUInt64).toInt64)) = t4 at *
  have c4 := own_sh t4 (by omega)
  have m4 := own_ms t4
  generalize (t4 &&& (2251799813685247 : Int64)) = r4 at *
  generalize ((t4.toUInt64 >>> ((51 : Int32) &&& 0x3f).toInt64.toUInt64).toInt64) = q at *
  have m5 : ((19 : Int64) * q).toInt = 19 * q.toInt := by
    have h := c_lmul 19 q
    have r := rng64 (19 * q)
    have k : (19 : Int64).toInt = 19 := rfl
    rw [k] at h
    omega
  have m6 : (r0 + ((19 : Int64) * q)).toInt = r0.toInt + 19 * q.toInt := by rw [own_ad _ _ (by omega) (by omega) (by omega) (by omega), m5]
  generalize (r0 + ((19 : Int64) * q)) = u0 at *
  have c5 := own_sh u0 (by omega)
  have m7 := own_ms u0
  have m8 : (r1 + ((u0.toUInt64 >>> ((51 : Int32) &&& 0x3f).toInt64.toUInt64).toInt64)).toInt = r1.toInt + u0.toInt / 2251799813685248 := by rw [own_ad _ _ (by omega) (by omega) (by omega) (by omega), c5]
  refine ⟨r0.toInt, a0.toInt / 2251799813685248, r1.toInt, t1.toInt / 2251799813685248, r2.toInt, t2.toInt / 2251799813685248, r3.toInt, t3.toInt / 2251799813685248, r4.toInt, q.toInt, u0.toInt / 2251799813685248, ?_⟩
  refine ⟨?_, ?_, ?_, ?_, ?_, ?_, ?_, ?_, ?_, ?_, ?_, ?_, ?_, ?_, ?_, ?_, ?_, ?_, ?_, ?_, ?_, ?_, ?_, ?_, ?_, ?_, ?_, ?_, ?_, ?_⟩
  all_goals first | rfl | omega
theorem own_a (a0 a1 a2 a3 a4 h0 h1 h2 h3 h4 : Int64) (b0 : 0 ≤ a0.toInt ∧ a0.toInt < 4611686018427387904) (b1 : 0 ≤ a1.toInt ∧ a1.toInt < 4611686018427387904) (b2 : 0 ≤ a2.toInt ∧ a2.toInt < 4611686018427387904) (b3 : 0 ≤ a3.toInt ∧ a3.toInt < 4611686018427387904) (b4 : 0 ≤ a4.toInt ∧ a4.toInt < 4611686018427387904) (e0 : (own_h0 a0 a1 a2 a3 a4) = h0) (e1 : (own_h1 a0 a1 a2 a3 a4) = h1) (e2 : (own_h2 a0 a1 a2 a3 a4) = h2) (e3 : (own_h3 a0 a1 a2 a3 a4) = h3) (e4 : (own_h4 a0 a1 a2 a3 a4) = h4) : ¬ h0 < (0 : Int64) ∧ h0 < (2251799813685248 : Int64) ∧ ¬ h1 < (0 : Int64) ∧ h1 < (2251799813693440 : Int64) ∧ ¬ h2 < (0 : Int64) ∧ h2 < (2251799813685248 : Int64) ∧ ¬ h3 < (0 : Int64) ∧ h3 < (2251799813685248 : Int64) ∧ ¬ h4 < (0 : Int64) ∧ h4 < (2251799813685248 : Int64) := by
  obtain ⟨r0, s0, r1, s1, r2, s2, r3, s3, r4, q, u, H⟩ := own_core a0 a1 a2 a3 a4 h0 h1 h2 h3 h4 b0 b1 b2 b3 b4 e0 e1 e2 e3 e4
  have k1 : (2251799813685248 : Int64).toInt = 2251799813685248 := rfl
  have k2 : (2251799813693440 : Int64).toInt = 2251799813693440 := rfl
  have k3 : (0 : Int64).toInt = 0 := rfl
  simp only [Int64.lt_iff_toInt_lt, k1, k2, k3]
  omega
theorem own_eq (a0 a1 a2 a3 a4 h0 h1 h2 h3 h4 d e : Int64) (r0 s0 r1 s1 q u : Int) (H1 : a0.toInt = r0 + 2251799813685248 * s0) (H2 : a1.toInt + s0 = r1 + 2251799813685248 * s1) (H3 : 0 ≤ q) (H4 : q ≤ 2048) (H5 : h0.toInt = r0 + 19 * q - 2251799813685248 * u) (H6 : h1.toInt = r1 + u) (hd : ((a0 + (a1 <<< ((51 : Int32) &&& 0x3f).toInt64)) - (h0 + (h1 <<< ((51 : Int32) &&& 0x3f).toInt64))) = d) (he : (-d) = e) : e.toInt = 19 * q := by
  have g1 := c_lshl a1 (51 : Int32) 51 (by decide)
  have g2 := c_lshl h1 (51 : Int32) 51 (by decide)
  generalize (a1 <<< ((51 : Int32) &&& 0x3f).toInt64) = p1 at *
  generalize (h1 <<< ((51 : Int32) &&& 0x3f).toInt64) = p2 at *
  have g3 := c_ladd a0 p1
  have g4 := c_ladd h0 p2
  have g5 := c_lsub (a0 + p1) (h0 + p2)
  have g6 := c_lneg d
  have r := rng64 e
  rw [hd] at g5
  rw [he] at g6
  have k : ((2 ^ 51 : Nat) : Int) = 2251799813685248 := rfl
  rw [k] at g1 g2
  have z1 : a1.toInt = r1 + 2251799813685248 * s1 - s0 := by omega
  rw [z1] at g1
  rw [H6] at g2
  rw [H1] at g3
  rw [H5] at g4
  omega
theorem own_e (a0 a1 a2 a3 a4 h0 h1 h2 h3 h4 d e : Int64) (b0 : 0 ≤ a0.toInt ∧ a0.toInt < 4611686018427387904) (b1 : 0 ≤ a1.toInt ∧ a1.toInt < 4611686018427387904) (b2 : 0 ≤ a2.toInt ∧ a2.toInt < 4611686018427387904) (b3 : 0 ≤ a3.toInt ∧ a3.toInt < 4611686018427387904) (b4 : 0 ≤ a4.toInt ∧ a4.toInt < 4611686018427387904) (e0 : (own_h0 a0 a1 a2 a3 a4) = h0) (e1 : (own_h1 a0 a1 a2 a3 a4) = h1) (e2 : (own_h2 a0 a1 a2 a3 a4) = h2) (e3 : (own_h3 a0 a1 a2 a3 a4) = h3) (e4 : (own_h4 a0 a1 a2 a3 a4) = h4) (hd : ((a0 + (a1 <<< ((51 : Int32) &&& 0x3f).toInt64)) - (h0 + (h1 <<< ((51 : Int32) &&& 0x3f).toInt64))) = d) (he : (-d) = e) : ¬ e < (0 : Int64) ∧ e < (77824 : Int64) ∧ (e - (e / (19 : Int64)) * (19 : Int64)) = (0 : Int64) := by
  obtain ⟨r0, s0, r1, s1, r2, s2, r3, s3, r4, q, u, H1, Ha, Hb, Hc, H2, Hd, He, Hf, Hg, Hh, Hi, Hj, Hk, Hl, Hm, Hn, Ho, Hp, Hq, H3, H4, H5, H7, H8, H6, H9⟩ := own_core a0 a1 a2 a3 a4 h0 h1 h2 h3 h4 b0 b1 b2 b3 b4 e0 e1 e2 e3 e4
  have g := own_eq a0 a1 a2 a3 a4 h0 h1 h2 h3 h4 d e r0 s0 r1 s1 q u H1 H2 H3 H4 H5 H6 hd he
  have k1 : (77824 : Int64).toInt = 77824 := rfl
  have k3 : (0 : Int64).toInt = 0 := rfl
  have g2 := (c_lrem e 19 19 (by decide)).1 (by omega)
  refine ⟨?_, ?_, ?_⟩
  · rw [Int64.lt_iff_toInt_lt, k3]; omega
  · rw [Int64.lt_iff_toInt_lt, k1]; omega
  · apply Int64.toInt_inj.mp; rw [g2, k3]; omega
theorem own_rm (x m : Int64) (M : Int) (hm : m.toInt = M) (h : 0 ≤ x.toInt) : (x - (x / m) * m).toInt = x.toInt % M := (c_lrem x m M hm).1 h
theorem own_lm (x : Int64) (c : Int64) (w : Int) (hc : c.toInt = w) (h0 : 0 ≤ x.toInt) (h1 : x.toInt < 2147483647) (hw : 0 ≤ w) (hw2 : w ≤ 536870912) : (x * c).toInt = x.toInt * w := by
  have h := c_lmul x c
  have r := rng64 (x * c)
  rw [hc] at h
  have f1 : 0 ≤ x.toInt * w := Int.mul_nonneg h0 hw
  have f2 : x.toInt * w ≤ 2147483647 * 536870912 := Int.mul_le_mul (by omega) hw2 hw (by decide)
  generalize x.toInt * w = z at *
  omega
theorem own_fM (a0 a1 a2 a3 a4 : Int64) (p0 : 0 ≤ a0.toInt) (p1 : 0 ≤ a1.toInt) (p2 : 0 ≤ a2.toInt) (p3 : 0 ≤ a3.toInt) (p4 : 0 ≤ a4.toInt) : 0 ≤ (fM a0 a1 a2 a3 a4).toInt ∧ (fM a0 a1 a2 a3 a4).toInt < 2147483647 ∧ ∃ k : Int, (fM a0 a1 a2 a3 a4).toInt = a0.toInt + 1048576 * a1.toInt + 512 * a2.toInt + 536870912 * a3.toInt + 262144 * a4.toInt + 2147483647 * k := by
  unfold fM
  have km : (2147483647 : Int64).toInt = 2147483647 := rfl
  have u0 := own_rm a0 2147483647 2147483647 km p0
  have u1 := own_rm a1 2147483647 2147483647 km p1
  have u2 := own_rm a2 2147483647 2147483647 km p2
  have u3 := own_rm a3 2147483647 2147483647 km p3
  have u4 := own_rm a4 2147483647 2147483647 km p4
  generalize (a0 - (a0 / (2147483647 : Int64)) * (2147483647 : Int64)) = t0 at *
  generalize (a1 - (a1 / (2147483647 : Int64)) * (2147483647 : Int64)) = t1 at *
  generalize (a2 - (a2 / (2147483647 : Int64)) * (2147483647 : Int64)) = t2 at *
  generalize (a3 - (a3 / (2147483647 : Int64)) * (2147483647 : Int64)) = t3 at *
  generalize (a4 - (a4 / (2147483647 : Int64)) * (2147483647 : Int64)) = t4 at *
  have v1 := own_lm t1 1048576 1048576 rfl (by omega) (by omega) (by decide) (by decide)
  have v2 := own_lm t2 512 512 rfl (by omega) (by omega) (by decide) (by decide)
  have v3 := own_lm t3 536870912 536870912 rfl (by omega) (by omega) (by decide) (by decide)
  have v4 := own_lm t4 262144 262144 rfl (by omega) (by omega) (by decide) (by decide)
  generalize (t1 * (1048576 : Int64)) = m1 at *
  generalize (t2 * (512 : Int64)) = m2 at *
  generalize (t3 * (536870912 : Int64)) = m3 at *
  generalize (t4 * (262144 : Int64)) = m4 at *
  have w1 := own_rm m1 2147483647 2147483647 km (by omega)
  have w2 := own_rm m2 2147483647 2147483647 km (by omega)
  have w3 := own_rm m3 2147483647 2147483647 km (by omega)
  have w4 := own_rm m4 2147483647 2147483647 km (by omega)
  generalize (m1 - (m1 / (2147483647 : Int64)) * (2147483647 : Int64)) = n1 at *
  generalize (m2 - (m2 / (2147483647 : Int64)) * (2147483647 : Int64)) = n2 at *
  generalize (m3 - (m3 / (2147483647 : Int64)) * (2147483647 : Int64)) = n3 at *
  generalize (m4 - (m4 / (2147483647 : Int64)) * (2147483647 : Int64)) = n4 at *
  have x1 : (t0 + n1).toInt = t0.toInt + n1.toInt := own_ad _ _ (by omega) (by omega) (by omega) (by omega)
  generalize (t0 + n1) = y1 at *
  have x2 : (y1 + n2).toInt = y1.toInt + n2.toInt := own_ad _ _ (by omega) (by omega) (by omega) (by omega)
  generalize (y1 + n2) = y2 at *
  have x3 : (y2 + n3).toInt = y2.toInt + n3.toInt := own_ad _ _ (by omega) (by omega) (by omega) (by omega)
  generalize (y2 + n3) = y3 at *
  have x4 : (y3 + n4).toInt = y3.toInt + n4.toInt := own_ad _ _ (by omega) (by omega) (by omega) (by omega)
  generalize (y3 + n4) = y4 at *
  have z := own_rm y4 2147483647 2147483647 km (by omega)
  generalize (y4 - (y4 / (2147483647 : Int64)) * (2147483647 : Int64)) = out at *
  refine ⟨by omega, by omega, -(a0.toInt / 2147483647) - 1048576 * (a1.toInt / 2147483647) - m1.toInt / 2147483647 - 512 * (a2.toInt / 2147483647) - m2.toInt / 2147483647 - 536870912 * (a3.toInt / 2147483647) - m3.toInt / 2147483647 - 262144 * (a4.toInt / 2147483647) - m4.toInt / 2147483647 - y4.toInt / 2147483647, ?_⟩
  omega
theorem own_lin (mf mh r0 s0 r1 s1 r2 s2 r3 s3 r4 q u k1 k2 : Int) (l3 : mf = (r0 + 2251799813685248 * s0) + 1048576 * (r1 + 2251799813685248 * s1 - s0) + 512 * (r2 + 2251799813685248 * s2 - s1) + 536870912 * (r3 + 2251799813685248 * s3 - s2) + 262144 * (r4 + 2251799813685248 * q - s3) + 2147483647 * k1)
    (l6 : mh = (r0 + 19 * q - 2251799813685248 * u) + 1048576 * (r1 + u) + 512 * r2 + 536870912 * r3 + 262144 * r4 + 2147483647 * k2) (h0 : 0 ≤ mf) (h1 : mf < 2147483647) : (mh + q * 109) % 2147483647 = mf := by
  have e : mh + q * 109 = mf + 2147483647 * (-(128 * 2147483649) * q - 1048576 * u - 1048576 * s0 - (512 * 2147483649) * s1 - 536870912 * s2 - (262144 * 2147483649) * s3 + k2 - k1) := by
    rw [l3, l6]; clear l3 l6 h0 h1
    omega
  rw [e, Int.add_mul_emod_self_left, Int.emod_eq_of_lt h0 h1]
theorem own_es {a b c : Int} (h : a + b = c) : a = c - b := by omega
theorem own_f (a0 a1 a2 a3 a4 h0 h1 h2 h3 h4 d e c mf mh : Int64) (b0 : 0 ≤ a0.toInt ∧ a0.toInt < 4611686018427387904) (b1 : 0 ≤ a1.toInt ∧ a1.toInt < 4611686018427387904) (b2 : 0 ≤ a2.toInt ∧ a2.toInt < 4611686018427387904) (b3 : 0 ≤ a3.toInt ∧ a3.toInt < 4611686018427387904) (b4 : 0 ≤ a4.toInt ∧ a4.toInt < 4611686018427387904) (e0 : (own_h0 a0 a1 a2 a3 a4) = h0) (e1 : (own_h1 a0 a1 a2 a3 a4) = h1) (e2 : (own_h2 a0 a1 a2 a3 a4) = h2) (e3 : (own_h3 a0 a1 a2 a3 a4) = h3) (e4 : (own_h4 a0 a1 a2 a3 a4) = h4) (hd : ((a0 + (a1 <<< ((51 : Int32) &&& 0x3f).toInt64)) - (h0 + (h1 <<< ((51 : Int32) &&& 0x3f).toInt64))) = d) (he : (-d) = e) (hc : (e / (19 : Int64)) = c) (hf : (fM a0 a1 a2 a3 a4) = mf) (hh : (fM h0 h1 h2 h3 h4) = mh) : ((mh + (c * (109 : Int64))) - ((mh + (c * (109 : Int64))) / (2147483647 : Int64)) * (2147483647 : Int64)) = mf := by
  obtain ⟨r0, s0, r1, s1, r2, s2, r3, s3, r4, q, u, H1, Ha, Hb, Hc, H2, Hd, He, Hf, Hg, Hh, Hi, Hj, Hk, Hl, Hm, Hn, Ho, Hp, Hq, H3, H4, H5, H7, H8, H6, H9, H10, H11, H12, H13⟩ := own_core a0 a1 a2 a3 a4 h0 h1 h2 h3 h4 b0 b1 b2 b3 b4 e0 e1 e2 e3 e4
  have g := own_eq a0 a1 a2 a3 a4 h0 h1 h2 h3 h4 d e r0 s0 r1 s1 q u H1 H2 H3 H4 H5 H6 hd he
  have gc := (c_ldiv e 19 19 (by decide) (by decide)).1 (by rw [g]; exact Int.mul_nonneg (by decide) H3)
  rw [hc] at gc
  have cq : c.toInt = q := by rw [gc, g]; exact Int.mul_ediv_cancel_left q (by decide)
  obtain ⟨l1, l2, k1, l3⟩ := own_fM a0 a1 a2 a3 a4 b0.1 b1.1 b2.1 b3.1 b4.1
  obtain ⟨l4, l5, k2, l6⟩ := own_fM h0 h1 h2 h3 h4 H7 (by rw [H6]; exact Int.add_nonneg Hd H9) (by rw [H11]; exact Hh) (by rw [H12]; exact Hl) (by rw [H13]; exact Hp)
  rw [hf] at l1 l2 l3
  rw [hh] at l4 l5 l6
  have m1 := own_lm c 109 109 rfl (by rw [cq]; exact H3) (by rw [cq]; exact Int.lt_of_le_of_lt H4 (by decide)) (by decide) (by decide)
  rw [cq] at m1
  have m4 : 0 ≤ q * 109 := Int.mul_nonneg H3 (by decide)
  have m5 : q * 109 < 4611686018427387904 := Int.lt_of_le_of_lt (Int.mul_le_mul_of_nonneg_right H4 (by decide)) (by decide)
  have m2 : (mh + (c * (109 : Int64))).toInt = mh.toInt + (c * (109 : Int64)).toInt := own_ad _ _ l4 (Int.le_of_lt (Int.lt_trans l5 (by decide))) (by rw [m1]; exact m4) (by rw [m1]; exact m5)
  have m3 := own_rm (mh + (c * (109 : Int64))) 2147483647 2147483647 rfl (by rw [m2, m1]; exact Int.add_nonneg l4 m4)
  apply Int64.toInt_inj.mp
  rw [m3, m2, m1]
  have t1 := own_es H2
  have t2 := own_es Hg
  have t3 := own_es Hk
  have t4 := own_es Ho
  rw [H1, t1, t2, t3, t4] at l3
  rw [H5, H6, H11, H12, H13] at l6
  exact own_lin _ _ r0 s0 r1 s1 r2 s2 r3 s3 r4 q u k1 k2 l3 l6 l1 l2
theorem pd_0 : parseMethodDescriptor "([J[J)V" = some ⟨[(.array .long), (.array .long)], none⟩ := by decide +kernel
theorem pd_1 : parseMethodDescriptor "(JJJJJ)J" = some ⟨[.long, .long, .long, .long, .long], some .long⟩ := by decide +kernel
theorem ef0 (m : MethodId) (q0 : Int64) (q1 : Int64) (q2 : Int64) (q3 : Int64) (q4 : Int64) (p5 : Int32) : entryFrame m #[(.long q0), (.long q1), (.long q2), (.long q3), (.long q4), (.int p5)] maxLocals = mkF m 0 #[.val (.long q0), .second, .val (.long q1), .second, .val (.long q2), .second, .val (.long q3), .second, .val (.long q4), .second, .val (.int p5), .unset, .unset, .unset, .unset, .unset, .unset, .unset, .unset, .unset, .unset, .unset, .unset, .unset, .unset, .unset, .unset, .unset, .unset, .unset, .unset, .unset, .unset, .unset, .unset, .unset, .unset, .unset, .unset, .unset, .unset, .unset, .unset, .unset, .unset, .unset, .unset] [] := by first | (simp [entryFrame, mkF, argsToLocals, Value.category, maxLocals]; done) | rfl
def Q0 (Z : State) (q0 : Int64) (q1 : Int64) (q2 : Int64) (q3 : Int64) (q4 : Int64) (p5 : Int32) (h0 : Heap) (n0 : Nat) (v : Option Value) (h : Heap) (L : List Loc) : Prop := v = some (.int 1) ∧ Fr n0 L
set_option maxRecDepth 65536 in
set_option maxHeartbeats 40000000 in
theorem rm0 (l : Launch) (Z : State) (a0 : Array Value) (hw : ∀ d ∈ tables_1, d.before a0 Z = true) (ws : List Jvm.Cond) (q0 : Int64) (q1 : Int64) (q2 : Int64) (q3 : Int64) (q4 : Int64) (p5 : Int32) (h0 : Heap) (n0 : Nat) (Z0 : n0 ≤ h0.size) :
    MetFree l x (head1 (Jvm.Cond.code x code maxLocals ret :: ws) room_1) (fun a U => a = #[(.long q0), (.long q1), (.long q2), (.long q3), (.long q4), (.int p5)] ∧ Z.Warmed39 U.vm ∧ U.heap = h0) (fun _ _ _ _ _ => True) (fun _ U o U' => ∃ v L, o = .returned v ∧ Q0 Z q0 q1 q2 q3 q4 p5 h0 n0 v U'.heap L ∧ FrameEnd U o U' L 16 128) := by
  refine MetFree.of_bodySF (plainFor_of_name pn_1) hisR ?_
  intro p e s m args below meth c s₁ Bd hml0 hP hK
  obtain ⟨rfl, hZ, hh⟩ := hP
  have hx := Bd.exec
  have hby := Bd.bytes
  have hml : c.maxLocals = 47 := hml0
  have hown : s.vm.findClass "com/example/hopwright/hopwright/crypto/Field25519CarryPinLaw" = some m.cls := findClass_of_methodNamed Bd.named
  have hnm := (name_of_methodNamed Bd.named Bd.method).1
  have hlk : meth.locks = false := BodyLoose.notSynchronized Bd
  have hrt := Bd.returns
  have X0 : Stand p l e room_1 s m #[(.long q0), (.long q1), (.long q2), (.long q3), (.long q4), (.int p5)] below meth c s₁ [] 0 0 := Stand.of_body Bd
  have e0 : s₁.heap = h0 := by rw [← hh, Bd.state]; rfl
  have N0 := Fr.nil n0
  refine (show Go p e below (fun s₂ o => ∃ v L, o = .returned v ∧ Q0 Z q0 q1 q2 q3 q4 p5 h0 n0 v s₂.heap L ∧ FrameEnd s o s₂ L 16 128) (s₁.setTop (entryFrame m #[(.long q0), (.long q1), (.long q2), (.long q3), (.long q4), (.int p5)] maxLocals)) from ?_)
  rw [ef0]
  refine Go.st (U' := s₁.setTop (mkF m 11 #[.val (.long q0), .second, .val (.long q1), .second, .val (.long q2), .second, .val (.long q3), .second, .val (.long q4), .second, .val (.int p5), .val (.long (4611686018427387903 : Int64)), .second, .val (.long (q0 &&& (4611686018427387903 : Int64))), .second, .unset, .unset, .unset, .unset, .unset, .unset, .unset, .unset, .unset, .unset, .unset, .unset, .unset, .unset, .unset, .unset, .unset, .unset, .unset, .unset, .unset, .unset, .unset, .unset, .unset, .unset, .unset, .unset, .unset, .unset, .unset, .unset] [])) (fun t k => ?_) ?_
  · refine X0.ldc2Long hx hown (mvT hZ (own_w hw 0 rfl)) (g := (mkF m 0 #[.val (.long q0), .second, .val (.long q1), .second, .val (.long q2), .second, .val (.long q3), .second, .val (.long q4), .second, .val (.int p5), .unset, .unset, .unset, .unset, .unset, .unset, .unset, .unset, .unset, .unset, .unset, .unset, .unset, .unset, .unset, .unset, .unset, .unset, .unset, .unset, .unset, .unset, .unset, .unset, .unset, .unset, .unset, .unset, .unset, .unset, .unset, .unset, .unset, .unset, .unset, .unset] [])) rfl (hb hby at_0) _ ?_
    refine XS.lstore X0.here hx rfl (hb hby at_3) rfl (l' := #[.val (.long q0), .second, .val (.long q1), .second, .val (.long q2), .second, .val (.long q3), .second, .val (.long q4), .second, .val (.int p5), .val (.long (4611686018427387903 : Int64)), .second, .unset, .unset, .unset, .unset, .unset, .unset, .unset, .unset, .unset, .unset, .unset, .unset, .unset, .unset, .unset, .unset, .unset, .unset, .unset, .unset, .unset, .unset, .unset, .unset, .unset, .unset, .unset, .unset, .unset, .unset, .unset, .unset, .unset, .unset]) rfl ?_
    refine XS.lloadN X0.here hx rfl (hb hby at_5) rfl ?_
    refine XS.lload X0.here hx rfl (hb hby at_6) rfl ?_
    refine XS.land X0.here hx rfl (hb hby at_8) rfl ?_
    refine XS.lstore X0.here hx rfl (hb hby at_9) rfl (l' := #[.val (.long q0), .second, .val (.long q1), .second, .val (.long q2), .second, .val (.long q3), .second, .val (.long q4), .second, .val (.int p5), .val (.long (4611686018427387903 : Int64)), .second, .val (.long (q0 &&& (4611686018427387903 : Int64))), .second, .unset, .unset, .unset, .unset, .unset, .unset, .unset, .unset, .unset, .unset, .unset, .unset, .unset, .unset, .unset, .unset, .unset, .unset, .unset, .unset, .unset, .unset, .unset, .unset, .unset, .unset, .unset, .unset, .unset, .unset, .unset, .unset]) rfl ?_
    exact k
  generalize hv_v146 : (q0 &&& (4611686018427387903 : Int64)) = v146
  refine Go.st (U' := s₁.setTop (mkF m 17 #[.val (.long q0), .second, .val (.long q1), .second, .val (.long q2), .second, .val (.long q3), .second, .val (.long q4), .second, .val (.int p5), .val (.long (4611686018427387903 : Int64)), .second, .val (.long v146), .second, .val (.long (q1 &&& (4611686018427387903 : Int64))), .second, .unset, .unset, .unset, .unset, .unset, .unset, .unset, .unset, .unset, .unset, .unset, .unset, .unset, .unset, .unset, .unset, .unset, .unset, .unset, .unset, .unset, .unset, .unset, .unset, .unset, .unset, .unset, .unset, .unset, .unset] [])) (fun t k => ?_) ?_
  · refine XS.lloadN X0.here hx rfl (hb hby at_11) rfl ?_
    refine XS.lload X0.here hx rfl (hb hby at_12) rfl ?_
    refine XS.land X0.here hx rfl (hb hby at_14) rfl ?_
    refine XS.lstore X0.here hx rfl (hb hby at_15) rfl (l' := #[.val (.long q0), .second, .val (.long q1), .second, .val (.long q2), .second, .val (.long q3), .second, .val (.long q4), .second, .val (.int p5), .val (.long (4611686018427387903 : Int64)), .second, .val (.long v146), .second, .val (.long (q1 &&& (4611686018427387903 : Int64))), .second, .unset, .unset, .unset, .unset, .unset, .unset, .unset, .unset, .unset, .unset, .unset, .unset, .unset, .unset, .unset, .unset, .unset, .unset, .unset, .unset, .unset, .unset, .unset, .unset, .unset, .unset, .unset, .unset, .unset, .unset]) rfl ?_
    exact k
  generalize hv_v147 : (q1 &&& (4611686018427387903 : Int64)) = v147
  refine Go.st (U' := s₁.setTop (mkF m 24 #[.val (.long q0), .second, .val (.long q1), .second, .val (.long q2), .second, .val (.long q3), .second, .val (.long q4), .second, .val (.int p5), .val (.long (4611686018427387903 : Int64)), .second, .val (.long v146), .second, .val (.long v147), .second, .val (.long (q2 &&& (4611686018427387903 : Int64))), .second, .unset, .unset, .unset, .unset, .unset, .unset, .unset, .unset, .unset, .unset, .unset, .unset, .unset, .unset, .unset, .unset, .unset, .unset, .unset, .unset, .unset, .unset, .unset, .unset, .unset, .unset, .unset, .unset] [])) (fun t k => ?_) ?_
  · refine XS.lload X0.here hx rfl (hb hby at_17) rfl ?_
    refine XS.lload X0.here hx rfl (hb hby at_19) rfl ?_
    refine XS.land X0.here hx rfl (hb hby at_21) rfl ?_
    refine XS.lstore X0.here hx rfl (hb hby at_22) rfl (l' := #[.val (.long q0), .second, .val (.long q1), .second, .val (.long q2), .second, .val (.long q3), .second, .val (.long q4), .second, .val (.int p5), .val (.long (4611686018427387903 : Int64)), .second, .val (.long v146), .second, .val (.long v147), .second, .val (.long (q2 &&& (4611686018427387903 : Int64))), .second, .unset, .unset, .unset, .unset, .unset, .unset, .unset, .unset, .unset, .unset, .unset, .unset, .unset, .unset, .unset, .unset, .unset, .unset, .unset, .unset, .unset, .unset, .unset, .unset, .unset, .unset, .unset, .unset]) rfl ?_
    exact k
  generalize hv_v148 : (q2 &&& (4611686018427387903 : Int64)) = v148
  refine Go.st (U' := s₁.setTop (mkF m 31 #[.val (.long q0), .second, .val (.long q1), .second, .val (.long q2), .second, .val (.long q3), .second, .val (.long q4), .second, .val (.int p5), .val (.long (4611686018427387903 : Int64)), .second, .val (.long v146), .second, .val (.long v147), .second, .val (.long v148), .second, .val (.long (q3 &&& (4611686018427387903 : Int64))), .second, .unset, .unset, .unset, .unset, .unset, .unset, .unset, .unset, .unset, .unset, .unset, .unset, .unset, .unset, .unset, .unset, .unset, .unset, .unset, .unset, .unset, .unset, .unset, .unset, .unset, .unset] [])) (fun t k => ?_) ?_
  · refine XS.lload X0.here hx rfl (hb hby at_24) rfl ?_
    refine XS.lload X0.here hx rfl (hb hby at_26) rfl ?_
    refine XS.land X0.here hx rfl (hb hby at_28) rfl ?_
    refine XS.lstore X0.here hx rfl (hb hby at_29) rfl (l' := #[.val (.long q0), .second, .val (.long q1), .second, .val (.long q2), .second, .val (.long q3), .second, .val (.long q4), .second, .val (.int p5), .val (.long (4611686018427387903 : Int64)), .second, .val (.long v146), .second, .val (.long v147), .second, .val (.long v148), .second, .val (.long (q3 &&& (4611686018427387903 : Int64))), .second, .unset, .unset, .unset, .unset, .unset, .unset, .unset, .unset, .unset, .unset, .unset, .unset, .unset, .unset, .unset, .unset, .unset, .unset, .unset, .unset, .unset, .unset, .unset, .unset, .unset, .unset]) rfl ?_
    exact k
  generalize hv_v149 : (q3 &&& (4611686018427387903 : Int64)) = v149
  refine Go.st (U' := s₁.setTop (mkF m 38 #[.val (.long q0), .second, .val (.long q1), .second, .val (.long q2), .second, .val (.long q3), .second, .val (.long q4), .second, .val (.int p5), .val (.long (4611686018427387903 : Int64)), .second, .val (.long v146), .second, .val (.long v147), .second, .val (.long v148), .second, .val (.long v149), .second, .val (.long (q4 &&& (4611686018427387903 : Int64))), .second, .unset, .unset, .unset, .unset, .unset, .unset, .unset, .unset, .unset, .unset, .unset, .unset, .unset, .unset, .unset, .unset, .unset, .unset, .unset, .unset, .unset, .unset, .unset, .unset] [])) (fun t k => ?_) ?_
  · refine XS.lload X0.here hx rfl (hb hby at_31) rfl ?_
    refine XS.lload X0.here hx rfl (hb hby at_33) rfl ?_
    refine XS.land X0.here hx rfl (hb hby at_35) rfl ?_
    refine XS.lstore X0.here hx rfl (hb hby at_36) rfl (l' := #[.val (.long q0), .second, .val (.long q1), .second, .val (.long q2), .second, .val (.long q3), .second, .val (.long q4), .second, .val (.int p5), .val (.long (4611686018427387903 : Int64)), .second, .val (.long v146), .second, .val (.long v147), .second, .val (.long v148), .second, .val (.long v149), .second, .val (.long (q4 &&& (4611686018427387903 : Int64))), .second, .unset, .unset, .unset, .unset, .unset, .unset, .unset, .unset, .unset, .unset, .unset, .unset, .unset, .unset, .unset, .unset, .unset, .unset, .unset, .unset, .unset, .unset, .unset, .unset]) rfl ?_
    exact k
  generalize hv_v150 : (q4 &&& (4611686018427387903 : Int64)) = v150
  refine Go.st (U' := s₁.setTop (mkF m 39 #[.val (.long q0), .second, .val (.long q1), .second, .val (.long q2), .second, .val (.long q3), .second, .val (.long q4), .second, .val (.int p5), .val (.long (4611686018427387903 : Int64)), .second, .val (.long v146), .second, .val (.long v147), .second, .val (.long v148), .second, .val (.long v149), .second, .val (.long v150), .second, .unset, .unset, .unset, .unset, .unset, .unset, .unset, .unset, .unset, .unset, .unset, .unset, .unset, .unset, .unset, .unset, .unset, .unset, .unset, .unset, .unset, .unset, .unset, .unset] [(.int (5 : Int32))])) (fun t k => ?_) ?_
  · refine XS.iconst X0.here hx rfl (hb hby at_38) ?_
    exact k
  obtain ⟨T151, h151, k151, X151, e151, E151, A151, st151⟩ := newP X0 hx hZ (own_w hw 1 rfl) e0 (g := (mkF m 39 #[.val (.long q0), .second, .val (.long q1), .second, .val (.long q2), .second, .val (.long q3), .second, .val (.long q4), .second, .val (.int p5), .val (.long (4611686018427387903 : Int64)), .second, .val (.long v146), .second, .val (.long v147), .second, .val (.long v148), .second, .val (.long v149), .second, .val (.long v150), .second, .unset, .unset, .unset, .unset, .unset, .unset, .unset, .unset, .unset, .unset, .unset, .unset, .unset, .unset, .unset, .unset, .unset, .unset, .unset, .unset, .unset, .unset, .unset, .unset] [(.int (5 : Int32))])) rfl (hb hby at_39) rfl (by decide) (cap := 5) (by decide) (by decide) (by decide) (by decide)
  obtain ⟨b151, g151⟩ : ∃ z, z = h0.size := ⟨_, rfl⟩
  rw [← g151] at A151 st151
  have ge_b151 : n0 ≤ b151 := Nat.le_trans Z0 (Nat.le_of_eq g151.symm)
  have V_b151 : Arv Z h151 b151 k151 .long (5 : Int32) [(.long (0 : Int64)), (.long (0 : Int64)), (.long (0 : Int64)), (.long (0 : Int64)), (.long (0 : Int64))] (.long (0 : Int64)) := (Arv.new A151 (by decide)).pad (pad_rep [] (.long (0 : Int64)) 5)
  have sz151 : n0 ≤ h151.size := Nat.le_trans Z0 E151.1
  refine Go.st (U' := T151.setTop (mkF m 41 #[.val (.long q0), .second, .val (.long q1), .second, .val (.long q2), .second, .val (.long q3), .second, .val (.long q4), .second, .val (.int p5), .val (.long (4611686018427387903 : Int64)), .second, .val (.long v146), .second, .val (.long v147), .second, .val (.long v148), .second, .val (.long v149), .second, .val (.long v150), .second, .unset, .unset, .unset, .unset, .unset, .unset, .unset, .unset, .unset, .unset, .unset, .unset, .unset, .unset, .unset, .unset, .unset, .unset, .unset, .unset, .unset, .unset, .unset, .unset] [(.ref b151)])) (fun t k => st151 _ k) ?_
  refine Go.st (U' := T151.setTop (mkF m 45 #[.val (.long q0), .second, .val (.long q1), .second, .val (.long q2), .second, .val (.long q3), .second, .val (.long q4), .second, .val (.int p5), .val (.long (4611686018427387903 : Int64)), .second, .val (.long v146), .second, .val (.long v147), .second, .val (.long v148), .second, .val (.long v149), .second, .val (.long v150), .second, .unset, .unset, .unset, .unset, .unset, .unset, .unset, .unset, .unset, .unset, .unset, .unset, .unset, .unset, .unset, .unset, .unset, .unset, .unset, .unset, .unset, .unset, .unset, .unset] [(.long v146), (.int (0 : Int32)), (.ref b151), (.ref b151)])) (fun t k => ?_) ?_
  · refine XS.dup X151.here hx rfl (hb hby at_41) rfl rfl ?_
    refine XS.iconst X151.here hx rfl (hb hby at_42) ?_
    refine XS.lload X151.here hx rfl (hb hby at_43) rfl ?_
    exact k
  obtain ⟨cl153, Ar153, q153, S153, N153, H153, G153⟩ := id V_b151
  obtain ⟨T152, h152, X152, e152, W152, st152⟩ := stJ X151 hx hZ e151 Ar153 (j := (0 : Int32)) (inb_of (j := (0 : Int32)) S153 ⟨by decide, by decide⟩) (g := (mkF m 45 #[.val (.long q0), .second, .val (.long q1), .second, .val (.long q2), .second, .val (.long q3), .second, .val (.long q4), .second, .val (.int p5), .val (.long (4611686018427387903 : Int64)), .second, .val (.long v146), .second, .val (.long v147), .second, .val (.long v148), .second, .val (.long v149), .second, .val (.long v150), .second, .unset, .unset, .unset, .unset, .unset, .unset, .unset, .unset, .unset, .unset, .unset, .unset, .unset, .unset, .unset, .unset, .unset, .unset, .unset, .unset, .unset, .unset, .unset, .unset] [(.long v146), (.int (0 : Int32)), (.ref b151), (.ref b151)])) rfl rfl (hb hby at_45)
  have V_b151_152 := Arv.set Ar153 q153 S153 N153 H153 G153 rfl W152 0 rfl (Nat.le_of_ble_eq_true rfl)
  have N152 := Fr.snoc X152 N0 ge_b151
  have sz152 : n0 ≤ h152.size := Nat.le_trans sz151 (Nat.le_of_eq W152.size.symm)
  refine Go.st (U' := T152.setTop (mkF m 46 #[.val (.long q0), .second, .val (.long q1), .second, .val (.long q2), .second, .val (.long q3), .second, .val (.long q4), .second, .val (.int p5), .val (.long (4611686018427387903 : Int64)), .second, .val (.long v146), .second, .val (.long v147), .second, .val (.long v148), .second, .val (.long v149), .second, .val (.long v150), .second, .unset, .unset, .unset, .unset, .unset, .unset, .unset, .unset, .unset, .unset, .unset, .unset, .unset, .unset, .unset, .unset, .unset, .unset, .unset, .unset, .unset, .unset, .unset, .unset] [(.ref b151)])) (fun t k => st152 _ k) ?_
  refine Go.st (U' := T152.setTop (mkF m 50 #[.val (.long q0), .second, .val (.long q1), .second, .val (.long q2), .second, .val (.long q3), .second, .val (.long q4), .second, .val (.int p5), .val (.long (4611686018427387903 : Int64)), .second, .val (.long v146), .second, .val (.long v147), .second, .val (.long v148), .second, .val (.long v149), .second, .val (.long v150), .second, .unset, .unset, .unset, .unset, .unset, .unset, .unset, .unset, .unset, .unset, .unset, .unset, .unset, .unset, .unset, .unset, .unset, .unset, .unset, .unset, .unset, .unset, .unset, .unset] [(.long v147), (.int (1 : Int32)), (.ref b151), (.ref b151)])) (fun t k => ?_) ?_
  · refine XS.dup X152.here hx rfl (hb hby at_46) rfl rfl ?_
    refine XS.iconst X152.here hx rfl (hb hby at_47) ?_
    refine XS.lload X152.here hx rfl (hb hby at_48) rfl ?_
    exact k
  obtain ⟨cl155, Ar155, q155, S155, N155, H155, G155⟩ := id V_b151_152
  obtain ⟨T154, h154, X154, e154, W154, st154⟩ := stJ X152 hx hZ e152 Ar155 (j := (1 : Int32)) (inb_of (j := (1 : Int32)) S155 ⟨by decide, by decide⟩) (g := (mkF m 50 #[.val (.long q0), .second, .val (.long q1), .second, .val (.long q2), .second, .val (.long q3), .second, .val (.long q4), .second, .val (.int p5), .val (.long (4611686018427387903 : Int64)), .second, .val (.long v146), .second, .val (.long v147), .second, .val (.long v148), .second, .val (.long v149), .second, .val (.long v150), .second, .unset, .unset, .unset, .unset, .unset, .unset, .unset, .unset, .unset, .unset, .unset, .unset, .unset, .unset, .unset, .unset, .unset, .unset, .unset, .unset, .unset, .unset, .unset, .unset] [(.long v147), (.int (1 : Int32)), (.ref b151), (.ref b151)])) rfl rfl (hb hby at_50)
  have V_b151_154 := Arv.set Ar155 q155 S155 N155 H155 G155 rfl W154 1 rfl (Nat.le_of_ble_eq_true rfl)
  have N154 := Fr.snoc X154 N152 ge_b151
  have sz154 : n0 ≤ h154.size := Nat.le_trans sz152 (Nat.le_of_eq W154.size.symm)
  refine Go.st (U' := T154.setTop (mkF m 51 #[.val (.long q0), .second, .val (.long q1), .second, .val (.long q2), .second, .val (.long q3), .second, .val (.long q4), .second, .val (.int p5), .val (.long (4611686018427387903 : Int64)), .second, .val (.long v146), .second, .val (.long v147), .second, .val (.long v148), .second, .val (.long v149), .second, .val (.long v150), .second, .unset, .unset, .unset, .unset, .unset, .unset, .unset, .unset, .unset, .unset, .unset, .unset, .unset, .unset, .unset, .unset, .unset, .unset, .unset, .unset, .unset, .unset, .unset, .unset] [(.ref b151)])) (fun t k => st154 _ k) ?_
  refine Go.st (U' := T154.setTop (mkF m 55 #[.val (.long q0), .second, .val (.long q1), .second, .val (.long q2), .second, .val (.long q3), .second, .val (.long q4), .second, .val (.int p5), .val (.long (4611686018427387903 : Int64)), .second, .val (.long v146), .second, .val (.long v147), .second, .val (.long v148), .second, .val (.long v149), .second, .val (.long v150), .second, .unset, .unset, .unset, .unset, .unset, .unset, .unset, .unset, .unset, .unset, .unset, .unset, .unset, .unset, .unset, .unset, .unset, .unset, .unset, .unset, .unset, .unset, .unset, .unset] [(.long v148), (.int (2 : Int32)), (.ref b151), (.ref b151)])) (fun t k => ?_) ?_
  · refine XS.dup X154.here hx rfl (hb hby at_51) rfl rfl ?_
    refine XS.iconst X154.here hx rfl (hb hby at_52) ?_
    refine XS.lload X154.here hx rfl (hb hby at_53) rfl ?_
    exact k
  obtain ⟨cl157, Ar157, q157, S157, N157, H157, G157⟩ := id V_b151_154
  obtain ⟨T156, h156, X156, e156, W156, st156⟩ := stJ X154 hx hZ e154 Ar157 (j := (2 : Int32)) (inb_of (j := (2 : Int32)) S157 ⟨by decide, by decide⟩) (g := (mkF m 55 #[.val (.long q0), .second, .val (.long q1), .second, .val (.long q2), .second, .val (.long q3), .second, .val (.long q4), .second, .val (.int p5), .val (.long (4611686018427387903 : Int64)), .second, .val (.long v146), .second, .val (.long v147), .second, .val (.long v148), .second, .val (.long v149), .second, .val (.long v150), .second, .unset, .unset, .unset, .unset, .unset, .unset, .unset, .unset, .unset, .unset, .unset, .unset, .unset, .unset, .unset, .unset, .unset, .unset, .unset, .unset, .unset, .unset, .unset, .unset] [(.long v148), (.int (2 : Int32)), (.ref b151), (.ref b151)])) rfl rfl (hb hby at_55)
  have V_b151_156 := Arv.set Ar157 q157 S157 N157 H157 G157 rfl W156 2 rfl (Nat.le_of_ble_eq_true rfl)
  have N156 := Fr.snoc X156 N154 ge_b151
  have sz156 : n0 ≤ h156.size := Nat.le_trans sz154 (Nat.le_of_eq W156.size.symm)
  refine Go.st (U' := T156.setTop (mkF m 56 #[.val (.long q0), .second, .val (.long q1), .second, .val (.long q2), .second, .val (.long q3), .second, .val (.long q4), .second, .val (.int p5), .val (.long (4611686018427387903 : Int64)), .second, .val (.long v146), .second, .val (.long v147), .second, .val (.long v148), .second, .val (.long v149), .second, .val (.long v150), .second, .unset, .unset, .unset, .unset, .unset, .unset, .unset, .unset, .unset, .unset, .unset, .unset, .unset, .unset, .unset, .unset, .unset, .unset, .unset, .unset, .unset, .unset, .unset, .unset] [(.ref b151)])) (fun t k => st156 _ k) ?_
  refine Go.st (U' := T156.setTop (mkF m 60 #[.val (.long q0), .second, .val (.long q1), .second, .val (.long q2), .second, .val (.long q3), .second, .val (.long q4), .second, .val (.int p5), .val (.long (4611686018427387903 : Int64)), .second, .val (.long v146), .second, .val (.long v147), .second, .val (.long v148), .second, .val (.long v149), .second, .val (.long v150), .second, .unset, .unset, .unset, .unset, .unset, .unset, .unset, .unset, .unset, .unset, .unset, .unset, .unset, .unset, .unset, .unset, .unset, .unset, .unset, .unset, .unset, .unset, .unset, .unset] [(.long v149), (.int (3 : Int32)), (.ref b151), (.ref b151)])) (fun t k => ?_) ?_
  · refine XS.dup X156.here hx rfl (hb hby at_56) rfl rfl ?_
    refine XS.iconst X156.here hx rfl (hb hby at_57) ?_
    refine XS.lload X156.here hx rfl (hb hby at_58) rfl ?_
    exact k
  obtain ⟨cl159, Ar159, q159, S159, N159, H159, G159⟩ := id V_b151_156
  obtain ⟨T158, h158, X158, e158, W158, st158⟩ := stJ X156 hx hZ e156 Ar159 (j := (3 : Int32)) (inb_of (j := (3 : Int32)) S159 ⟨by decide, by decide⟩) (g := (mkF m 60 #[.val (.long q0), .second, .val (.long q1), .second, .val (.long q2), .second, .val (.long q3), .second, .val (.long q4), .second, .val (.int p5), .val (.long (4611686018427387903 : Int64)), .second, .val (.long v146), .second, .val (.long v147), .second, .val (.long v148), .second, .val (.long v149), .second, .val (.long v150), .second, .unset, .unset, .unset, .unset, .unset, .unset, .unset, .unset, .unset, .unset, .unset, .unset, .unset, .unset, .unset, .unset, .unset, .unset, .unset, .unset, .unset, .unset, .unset, .unset] [(.long v149), (.int (3 : Int32)), (.ref b151), (.ref b151)])) rfl rfl (hb hby at_60)
  have V_b151_158 := Arv.set Ar159 q159 S159 N159 H159 G159 rfl W158 3 rfl (Nat.le_of_ble_eq_true rfl)
  have N158 := Fr.snoc X158 N156 ge_b151
  have sz158 : n0 ≤ h158.size := Nat.le_trans sz156 (Nat.le_of_eq W158.size.symm)
  refine Go.st (U' := T158.setTop (mkF m 61 #[.val (.long q0), .second, .val (.long q1), .second, .val (.long q2), .second, .val (.long q3), .second, .val (.long q4), .second, .val (.int p5), .val (.long (4611686018427387903 : Int64)), .second, .val (.long v146), .second, .val (.long v147), .second, .val (.long v148), .second, .val (.long v149), .second, .val (.long v150), .second, .unset, .unset, .unset, .unset, .unset, .unset, .unset, .unset, .unset, .unset, .unset, .unset, .unset, .unset, .unset, .unset, .unset, .unset, .unset, .unset, .unset, .unset, .unset, .unset] [(.ref b151)])) (fun t k => st158 _ k) ?_
  refine Go.st (U' := T158.setTop (mkF m 65 #[.val (.long q0), .second, .val (.long q1), .second, .val (.long q2), .second, .val (.long q3), .second, .val (.long q4), .second, .val (.int p5), .val (.long (4611686018427387903 : Int64)), .second, .val (.long v146), .second, .val (.long v147), .second, .val (.long v148), .second, .val (.long v149), .second, .val (.long v150), .second, .unset, .unset, .unset, .unset, .unset, .unset, .unset, .unset, .unset, .unset, .unset, .unset, .unset, .unset, .unset, .unset, .unset, .unset, .unset, .unset, .unset, .unset, .unset, .unset] [(.long v150), (.int (4 : Int32)), (.ref b151), (.ref b151)])) (fun t k => ?_) ?_
  · refine XS.dup X158.here hx rfl (hb hby at_61) rfl rfl ?_
    refine XS.iconst X158.here hx rfl (hb hby at_62) ?_
    refine XS.lload X158.here hx rfl (hb hby at_63) rfl ?_
    exact k
  obtain ⟨cl161, Ar161, q161, S161, N161, H161, G161⟩ := id V_b151_158
  obtain ⟨T160, h160, X160, e160, W160, st160⟩ := stJ X158 hx hZ e158 Ar161 (j := (4 : Int32)) (inb_of (j := (4 : Int32)) S161 ⟨by decide, by decide⟩) (g := (mkF m 65 #[.val (.long q0), .second, .val (.long q1), .second, .val (.long q2), .second, .val (.long q3), .second, .val (.long q4), .second, .val (.int p5), .val (.long (4611686018427387903 : Int64)), .second, .val (.long v146), .second, .val (.long v147), .second, .val (.long v148), .second, .val (.long v149), .second, .val (.long v150), .second, .unset, .unset, .unset, .unset, .unset, .unset, .unset, .unset, .unset, .unset, .unset, .unset, .unset, .unset, .unset, .unset, .unset, .unset, .unset, .unset, .unset, .unset, .unset, .unset] [(.long v150), (.int (4 : Int32)), (.ref b151), (.ref b151)])) rfl rfl (hb hby at_65)
  have V_b151_160 := Arv.set Ar161 q161 S161 N161 H161 G161 rfl W160 4 rfl (Nat.le_of_ble_eq_true rfl)
  have N160 := Fr.snoc X160 N158 ge_b151
  have sz160 : n0 ≤ h160.size := Nat.le_trans sz158 (Nat.le_of_eq W160.size.symm)
  refine Go.st (U' := T160.setTop (mkF m 66 #[.val (.long q0), .second, .val (.long q1), .second, .val (.long q2), .second, .val (.long q3), .second, .val (.long q4), .second, .val (.int p5), .val (.long (4611686018427387903 : Int64)), .second, .val (.long v146), .second, .val (.long v147), .second, .val (.long v148), .second, .val (.long v149), .second, .val (.long v150), .second, .unset, .unset, .unset, .unset, .unset, .unset, .unset, .unset, .unset, .unset, .unset, .unset, .unset, .unset, .unset, .unset, .unset, .unset, .unset, .unset, .unset, .unset, .unset, .unset] [(.ref b151)])) (fun t k => st160 _ k) ?_
  refine Go.st (U' := T160.setTop (mkF m 72 #[.val (.long q0), .second, .val (.long q1), .second, .val (.long q2), .second, .val (.long q3), .second, .val (.long q4), .second, .val (.int p5), .val (.long (4611686018427387903 : Int64)), .second, .val (.long v146), .second, .val (.long v147), .second, .val (.long v148), .second, .val (.long v149), .second, .val (.long v150), .second, .val (.ref b151), .unset, .unset, .unset, .unset, .unset, .unset, .unset, .unset, .unset, .unset, .unset, .unset, .unset, .unset, .unset, .unset, .unset, .unset, .unset, .unset, .unset, .unset, .unset] [(.int (p5 &&& (1 : Int32)))])) (fun t k => ?_) ?_
  · refine XS.astore X160.here hx rfl (hb hby at_66) rfl rfl (l' := #[.val (.long q0), .second, .val (.long q1), .second, .val (.long q2), .second, .val (.long q3), .second, .val (.long q4), .second, .val (.int p5), .val (.long (4611686018427387903 : Int64)), .second, .val (.long v146), .second, .val (.long v147), .second, .val (.long v148), .second, .val (.long v149), .second, .val (.long v150), .second, .val (.ref b151), .unset, .unset, .unset, .unset, .unset, .unset, .unset, .unset, .unset, .unset, .unset, .unset, .unset, .unset, .unset, .unset, .unset, .unset, .unset, .unset, .unset, .unset, .unset]) rfl ?_
    refine XS.iload X160.here hx rfl (hb hby at_68) rfl ?_
    refine XS.iconst X160.here hx rfl (hb hby at_70) ?_
    refine XS.iand X160.here hx rfl (hb hby at_71) rfl ?_
    exact k
  by_cases hc162 : (p5 &&& (1 : Int32)) = (0 : Int32)
  · refine Go.st (U' := T160.setTop (mkF m 81 #[.val (.long q0), .second, .val (.long q1), .second, .val (.long q2), .second, .val (.long q3), .second, .val (.long q4), .second, .val (.int p5), .val (.long (4611686018427387903 : Int64)), .second, .val (.long v146), .second, .val (.long v147), .second, .val (.long v148), .second, .val (.long v149), .second, .val (.long v150), .second, .val (.ref b151), .unset, .unset, .unset, .unset, .unset, .unset, .unset, .unset, .unset, .unset, .unset, .unset, .unset, .unset, .unset, .unset, .unset, .unset, .unset, .unset, .unset, .unset, .unset] [(.int (5 : Int32))])) (fun t k => ?_) ?_
    · refine XS.ifYes X160.here hx rfl (pc0 := 72) (pc' := 80) rfl (hb hby at_72) rfl ((if0 _ _).trans (teq hc162).1) (by decide) (by decide) ?_
      refine XS.iconst X160.here hx rfl (hb hby at_80) ?_
      exact k
    obtain ⟨T163, h163, k163, X163, e163, E163, A163, st163⟩ := newP X160 hx hZ (own_w hw 1 rfl) e160 (g := (mkF m 81 #[.val (.long q0), .second, .val (.long q1), .second, .val (.long q2), .second, .val (.long q3), .second, .val (.long q4), .second, .val (.int p5), .val (.long (4611686018427387903 : Int64)), .second, .val (.long v146), .second, .val (.long v147), .second, .val (.long v148), .second, .val (.long v149), .second, .val (.long v150), .second, .val (.ref b151), .unset, .unset, .unset, .unset, .unset, .unset, .unset, .unset, .unset, .unset, .unset, .unset, .unset, .unset, .unset, .unset, .unset, .unset, .unset, .unset, .unset, .unset, .unset] [(.int (5 : Int32))])) rfl (hb hby at_81) rfl (by decide) (cap := 5) (by decide) (by decide) (by decide) (by decide)
    obtain ⟨b163, g163⟩ : ∃ z, z = h160.size := ⟨_, rfl⟩
    rw [← g163] at A163 st163
    have ne_b151_b163 : b151 ≠ b163 := Nat.ne_of_lt (Nat.lt_of_lt_of_le V_b151_160.lt (Nat.le_of_eq g163.symm))
    have ge_b163 : n0 ≤ b163 := Nat.le_trans sz160 (Nat.le_of_eq g163.symm)
    have V_b151_163 := V_b151_160.ext E163
    have V_b163 : Arv Z h163 b163 k163 .long (5 : Int32) [(.long (0 : Int64)), (.long (0 : Int64)), (.long (0 : Int64)), (.long (0 : Int64)), (.long (0 : Int64))] (.long (0 : Int64)) := (Arv.new A163 (by decide)).pad (pad_rep [] (.long (0 : Int64)) 5)
    have sz163 : n0 ≤ h163.size := Nat.le_trans sz160 E163.1
    refine Go.st (U' := T163.setTop (mkF m 83 #[.val (.long q0), .second, .val (.long q1), .second, .val (.long q2), .second, .val (.long q3), .second, .val (.long q4), .second, .val (.int p5), .val (.long (4611686018427387903 : Int64)), .second, .val (.long v146), .second, .val (.long v147), .second, .val (.long v148), .second, .val (.long v149), .second, .val (.long v150), .second, .val (.ref b151), .unset, .unset, .unset, .unset, .unset, .unset, .unset, .unset, .unset, .unset, .unset, .unset, .unset, .unset, .unset, .unset, .unset, .unset, .unset, .unset, .unset, .unset, .unset] [(.ref b163)])) (fun t k => st163 _ k) ?_
    refine Go.st (U' := T163.setTop (mkF m 89 #[.val (.long q0), .second, .val (.long q1), .second, .val (.long q2), .second, .val (.long q3), .second, .val (.long q4), .second, .val (.int p5), .val (.long (4611686018427387903 : Int64)), .second, .val (.long v146), .second, .val (.long v147), .second, .val (.long v148), .second, .val (.long v149), .second, .val (.long v150), .second, .val (.ref b151), .val (.ref b163), .unset, .unset, .unset, .unset, .unset, .unset, .unset, .unset, .unset, .unset, .unset, .unset, .unset, .unset, .unset, .unset, .unset, .unset, .unset, .unset, .unset, .unset] [(.ref b151), (.ref b163)])) (fun t k => ?_) ?_
    · refine XS.astore X163.here hx rfl (hb hby at_83) rfl rfl (l' := #[.val (.long q0), .second, .val (.long q1), .second, .val (.long q2), .second, .val (.long q3), .second, .val (.long q4), .second, .val (.int p5), .val (.long (4611686018427387903 : Int64)), .second, .val (.long v146), .second, .val (.long v147), .second, .val (.long v148), .second, .val (.long v149), .second, .val (.long v150), .second, .val (.ref b151), .val (.ref b163), .unset, .unset, .unset, .unset, .unset, .unset, .unset, .unset, .unset, .unset, .unset, .unset, .unset, .unset, .unset, .unset, .unset, .unset, .unset, .unset, .unset, .unset]) rfl ?_
      refine XS.aload X163.here hx rfl (hb hby at_85) rfl rfl ?_
      refine XS.aload X163.here hx rfl (hb hby at_87) rfl rfl ?_
      exact k
    obtain ⟨_, _, ⟨T164, L164, k164, n164⟩, -, X164, ⟨Lc164, hQ164, l164, y164, z164⟩, st164⟩ := Jvm.LawKit.callS X163 hx (y := own_y0) hown (mvT hZ (own_w hw 2 rfl)) (mvT hZ (own_w hw 3 rfl)) (mvT hZ (own_w hw 4 rfl)) (mvT hZ (own_w hw 5 rfl)) (by decide) (backOf (W := 0) (rm1 l Z a0 hw [] b163 b151 k163 k151 v146 v147 v148 v149 v150 (0 : Int64) (0 : Int64) (0 : Int64) (0 : Int64) (0 : Int64) h163 n0 sz163 V_b163 V_b151_163 ge_b163 ne_b151_b163) hZ (own_w hw 5 rfl) (own_w hw 4 rfl) (by decide) (by decide)) (g := (mkF m 89 #[.val (.long q0), .second, .val (.long q1), .second, .val (.long q2), .second, .val (.long q3), .second, .val (.long q4), .second, .val (.int p5), .val (.long (4611686018427387903 : Int64)), .second, .val (.long v146), .second, .val (.long v147), .second, .val (.long v148), .second, .val (.long v149), .second, .val (.long v150), .second, .val (.ref b151), .val (.ref b163), .unset, .unset, .unset, .unset, .unset, .unset, .unset, .unset, .unset, .unset, .unset, .unset, .unset, .unset, .unset, .unset, .unset, .unset, .unset, .unset, .unset, .unset] [(.ref b151), (.ref b163)])) rfl (by rw [hml]; rfl) (argsL := [(.ref b163), (.ref b151)]) (rest := []) (lenOf pd_0 rfl) rfl (by show 2 * 0 + _ ≤ _; exact Nat.le_of_eq rfl) (hb hby at_89) (fun _ _ => ⟨rfl, e163, (by decide : 2 + 0 ≤ _), (by decide : 10 + 0 ≤ _)⟩)
    dsimp only [Pt.U, Pt.locs, Pt.cells, Pt.slots] at X164 l164 y164 z164 st164 hQ164
    subst l164 y164 z164
    obtain ⟨rfl, N164q, K164, P164_0⟩ := hQ164
    have V_b151_164 := V_b151_163.keep K164 (ninS ne_b151_b163 nin0)
    have sz164 : n0 ≤ T164.heap.size := Nat.le_trans sz163 K164.1
    have N164 := Fr.app N160 N164q
    refine Go.st (U' := T164.setTop (mkF m 92 #[.val (.long q0), .second, .val (.long q1), .second, .val (.long q2), .second, .val (.long q3), .second, .val (.long q4), .second, .val (.int p5), .val (.long (4611686018427387903 : Int64)), .second, .val (.long v146), .second, .val (.long v147), .second, .val (.long v148), .second, .val (.long v149), .second, .val (.long v150), .second, .val (.ref b151), .val (.ref b163), .unset, .unset, .unset, .unset, .unset, .unset, .unset, .unset, .unset, .unset, .unset, .unset, .unset, .unset, .unset, .unset, .unset, .unset, .unset, .unset, .unset, .unset] [])) (fun t k => st164 _ k) ?_
    obtain ⟨cl165, Ar165, q165, S165, N165, H165, G165⟩ := id P164_0
    refine Go.st (U' := T164.setTop (mkF m 103 #[.val (.long q0), .second, .val (.long q1), .second, .val (.long q2), .second, .val (.long q3), .second, .val (.long q4), .second, .val (.int p5), .val (.long (4611686018427387903 : Int64)), .second, .val (.long v146), .second, .val (.long v147), .second, .val (.long v148), .second, .val (.long v149), .second, .val (.long v150), .second, .val (.ref b151), .val (.ref b163), .val (.long (2251799813685248 : Int64)), .second, .val (.long (own_h0 v146 v147 v148 v149 v150)), .second, .unset, .unset, .unset, .unset, .unset, .unset, .unset, .unset, .unset, .unset, .unset, .unset, .unset, .unset, .unset, .unset, .unset, .unset] [])) (fun t k => ?_) ?_
    · refine X164.ldc2Long hx hown (mvT hZ (own_w hw 8 rfl)) (g := (mkF m 92 #[.val (.long q0), .second, .val (.long q1), .second, .val (.long q2), .second, .val (.long q3), .second, .val (.long q4), .second, .val (.int p5), .val (.long (4611686018427387903 : Int64)), .second, .val (.long v146), .second, .val (.long v147), .second, .val (.long v148), .second, .val (.long v149), .second, .val (.long v150), .second, .val (.ref b151), .val (.ref b163), .unset, .unset, .unset, .unset, .unset, .unset, .unset, .unset, .unset, .unset, .unset, .unset, .unset, .unset, .unset, .unset, .unset, .unset, .unset, .unset, .unset, .unset] [])) rfl (hb hby at_92) _ ?_
      refine XS.lstore X164.here hx rfl (hb hby at_95) rfl (l' := #[.val (.long q0), .second, .val (.long q1), .second, .val (.long q2), .second, .val (.long q3), .second, .val (.long q4), .second, .val (.int p5), .val (.long (4611686018427387903 : Int64)), .second, .val (.long v146), .second, .val (.long v147), .second, .val (.long v148), .second, .val (.long v149), .second, .val (.long v150), .second, .val (.ref b151), .val (.ref b163), .val (.long (2251799813685248 : Int64)), .second, .unset, .unset, .unset, .unset, .unset, .unset, .unset, .unset, .unset, .unset, .unset, .unset, .unset, .unset, .unset, .unset, .unset, .unset, .unset, .unset]) rfl ?_
      refine XS.aload X164.here hx rfl (hb hby at_97) rfl rfl ?_
      refine XS.iconst X164.here hx rfl (hb hby at_99) ?_
      refine X164.laload hx (j := (0 : Int32)) (v := (.long (own_h0 v146 v147 v148 v149 v150))) (Ar165.1) (State.isArrayOf_alike hZ.alike Ar165.2.1) Ar165.2.2 (inb_of (j := (0 : Int32)) S165 ⟨by decide, by decide⟩) (Has.at H165 (inb_of (j := (0 : Int32)) S165 ⟨by decide, by decide⟩) rfl) (g := (mkF m 100 #[.val (.long q0), .second, .val (.long q1), .second, .val (.long q2), .second, .val (.long q3), .second, .val (.long q4), .second, .val (.int p5), .val (.long (4611686018427387903 : Int64)), .second, .val (.long v146), .second, .val (.long v147), .second, .val (.long v148), .second, .val (.long v149), .second, .val (.long v150), .second, .val (.ref b151), .val (.ref b163), .val (.long (2251799813685248 : Int64)), .second, .unset, .unset, .unset, .unset, .unset, .unset, .unset, .unset, .unset, .unset, .unset, .unset, .unset, .unset, .unset, .unset, .unset, .unset, .unset, .unset] [(.int (0 : Int32)), (.ref b163)])) rfl rfl (hb hby at_100) _ ?_
      refine XS.lstore X164.here hx rfl (hb hby at_101) rfl (l' := #[.val (.long q0), .second, .val (.long q1), .second, .val (.long q2), .second, .val (.long q3), .second, .val (.long q4), .second, .val (.int p5), .val (.long (4611686018427387903 : Int64)), .second, .val (.long v146), .second, .val (.long v147), .second, .val (.long v148), .second, .val (.long v149), .second, .val (.long v150), .second, .val (.ref b151), .val (.ref b163), .val (.long (2251799813685248 : Int64)), .second, .val (.long (own_h0 v146 v147 v148 v149 v150)), .second, .unset, .unset, .unset, .unset, .unset, .unset, .unset, .unset, .unset, .unset, .unset, .unset, .unset, .unset, .unset, .unset, .unset, .unset]) rfl ?_
      exact k
    generalize hv_v166 : (own_h0 v146 v147 v148 v149 v150) = v166
    refine Go.st (U' := T164.setTop (mkF m 109 #[.val (.long q0), .second, .val (.long q1), .second, .val (.long q2), .second, .val (.long q3), .second, .val (.long q4), .second, .val (.int p5), .val (.long (4611686018427387903 : Int64)), .second, .val (.long v146), .second, .val (.long v147), .second, .val (.long v148), .second, .val (.long v149), .second, .val (.long v150), .second, .val (.ref b151), .val (.ref b163), .val (.long (2251799813685248 : Int64)), .second, .val (.long v166), .second, .val (.long (own_h1 v146 v147 v148 v149 v150)), .second, .unset, .unset, .unset, .unset, .unset, .unset, .unset, .unset, .unset, .unset, .unset, .unset, .unset, .unset, .unset, .unset] [])) (fun t k => ?_) ?_
    · refine XS.aload X164.here hx rfl (hb hby at_103) rfl rfl ?_
      refine XS.iconst X164.here hx rfl (hb hby at_105) ?_
      refine X164.laload hx (j := (1 : Int32)) (v := (.long (own_h1 v146 v147 v148 v149 v150))) (Ar165.1) (State.isArrayOf_alike hZ.alike Ar165.2.1) Ar165.2.2 (inb_of (j := (1 : Int32)) S165 ⟨by decide, by decide⟩) (Has.at H165 (inb_of (j := (1 : Int32)) S165 ⟨by decide, by decide⟩) rfl) (g := (mkF m 106 #[.val (.long q0), .second, .val (.long q1), .second, .val (.long q2), .second, .val (.long q3), .second, .val (.long q4), .second, .val (.int p5), .val (.long (4611686018427387903 : Int64)), .second, .val (.long v146), .second, .val (.long v147), .second, .val (.long v148), .second, .val (.long v149), .second, .val (.long v150), .second, .val (.ref b151), .val (.ref b163), .val (.long (2251799813685248 : Int64)), .second, .val (.long v166), .second, .unset, .unset, .unset, .unset, .unset, .unset, .unset, .unset, .unset, .unset, .unset, .unset, .unset, .unset, .unset, .unset, .unset, .unset] [(.int (1 : Int32)), (.ref b163)])) rfl rfl (hb hby at_106) _ ?_
      refine XS.lstore X164.here hx rfl (hb hby at_107) rfl (l' := #[.val (.long q0), .second, .val (.long q1), .second, .val (.long q2), .second, .val (.long q3), .second, .val (.long q4), .second, .val (.int p5), .val (.long (4611686018427387903 : Int64)), .second, .val (.long v146), .second, .val (.long v147), .second, .val (.long v148), .second, .val (.long v149), .second, .val (.long v150), .second, .val (.ref b151), .val (.ref b163), .val (.long (2251799813685248 : Int64)), .second, .val (.long v166), .second, .val (.long (own_h1 v146 v147 v148 v149 v150)), .second, .unset, .unset, .unset, .unset, .unset, .unset, .unset, .unset, .unset, .unset, .unset, .unset, .unset, .unset, .unset, .unset]) rfl ?_
      exact k
    generalize hv_v167 : (own_h1 v146 v147 v148 v149 v150) = v167
    refine Go.st (U' := T164.setTop (mkF m 115 #[.val (.long q0), .second, .val (.long q1), .second, .val (.long q2), .second, .val (.long q3), .second, .val (.long q4), .second, .val (.int p5), .val (.long (4611686018427387903 : Int64)), .second, .val (.long v146), .second, .val (.long v147), .second, .val (.long v148), .second, .val (.long v149), .second, .val (.long v150), .second, .val (.ref b151), .val (.ref b163), .val (.long (2251799813685248 : Int64)), .second, .val (.long v166), .second, .val (.long v167), .second, .val (.long (own_h2 v146 v147 v148 v149 v150)), .second, .unset, .unset, .unset, .unset, .unset, .unset, .unset, .unset, .unset, .unset, .unset, .unset, .unset, .unset] [])) (fun t k => ?_) ?_
    · refine XS.aload X164.here hx rfl (hb hby at_109) rfl rfl ?_
      refine XS.iconst X164.here hx rfl (hb hby at_111) ?_
      refine X164.laload hx (j := (2 : Int32)) (v := (.long (own_h2 v146 v147 v148 v149 v150))) (Ar165.1) (State.isArrayOf_alike hZ.alike Ar165.2.1) Ar165.2.2 (inb_of (j := (2 : Int32)) S165 ⟨by decide, by decide⟩) (Has.at H165 (inb_of (j := (2 : Int32)) S165 ⟨by decide, by decide⟩) rfl) (g := (mkF m 112 #[.val (.long q0), .second, .val (.long q1), .second, .val (.long q2), .second, .val (.long q3), .second, .val (.long q4), .second, .val (.int p5), .val (.long (4611686018427387903 : Int64)), .second, .val (.long v146), .second, .val (.long v147), .second, .val (.long v148), .second, .val (.long v149), .second, .val (.long v150), .second, .val (.ref b151), .val (.ref b163), .val (.long (2251799813685248 : Int64)), .second, .val (.long v166), .second, .val (.long v167), .second, .unset, .unset, .unset, .unset, .unset, .unset, .unset, .unset, .unset, .unset, .unset, .unset, .unset, .unset, .unset, .unset] [(.int (2 : Int32)), (.ref b163)])) rfl rfl (hb hby at_112) _ ?_
      refine XS.lstore X164.here hx rfl (hb hby at_113) rfl (l' := #[.val (.long q0), .second, .val (.long q1), .second, .val (.long q2), .second, .val (.long q3), .second, .val (.long q4), .second, .val (.int p5), .val (.long (4611686018427387903 : Int64)), .second, .val (.long v146), .second, .val (.long v147), .second, .val (.long v148), .second, .val (.long v149), .second, .val (.long v150), .second, .val (.ref b151), .val (.ref b163), .val (.long (2251799813685248 : Int64)), .second, .val (.long v166), .second, .val (.long v167), .second, .val (.long (own_h2 v146 v147 v148 v149 v150)), .second, .unset, .unset, .unset, .unset, .unset, .unset, .unset, .unset, .unset, .unset, .unset, .unset, .unset, .unset]) rfl ?_
      exact k
    generalize hv_v168 : (own_h2 v146 v147 v148 v149 v150) = v168
    refine Go.st (U' := T164.setTop (mkF m 121 #[.val (.long q0), .second, .val (.long q1), .second, .val (.long q2), .second, .val (.long q3), .second, .val (.long q4), .second, .val (.int p5), .val (.long (4611686018427387903 : Int64)), .second, .val (.long v146), .second, .val (.long v147), .second, .val (.long v148), .second, .val (.long v149), .second, .val (.long v150), .second, .val (.ref b151), .val (.ref b163), .val (.long (2251799813685248 : Int64)), .second, .val (.long v166), .second, .val (.long v167), .second, .val (.long v168), .second, .val (.long (own_h3 v146 v147 v148 v149 v150)), .second, .unset, .unset, .unset, .unset, .unset, .unset, .unset, .unset, .unset, .unset, .unset, .unset] [])) (fun t k => ?_) ?_
    · refine XS.aload X164.here hx rfl (hb hby at_115) rfl rfl ?_
      refine XS.iconst X164.here hx rfl (hb hby at_117) ?_
      refine X164.laload hx (j := (3 : Int32)) (v := (.long (own_h3 v146 v147 v148 v149 v150))) (Ar165.1) (State.isArrayOf_alike hZ.alike Ar165.2.1) Ar165.2.2 (inb_of (j := (3 : Int32)) S165 ⟨by decide, by decide⟩) (Has.at H165 (inb_of (j := (3 : Int32)) S165 ⟨by decide, by decide⟩) rfl) (g := (mkF m 118 #[.val (.long q0), .second, .val (.long q1), .second, .val (.long q2), .second, .val (.long q3), .second, .val (.long q4), .second, .val (.int p5), .val (.long (4611686018427387903 : Int64)), .second, .val (.long v146), .second, .val (.long v147), .second, .val (.long v148), .second, .val (.long v149), .second, .val (.long v150), .second, .val (.ref b151), .val (.ref b163), .val (.long (2251799813685248 : Int64)), .second, .val (.long v166), .second, .val (.long v167), .second, .val (.long v168), .second, .unset, .unset, .unset, .unset, .unset, .unset, .unset, .unset, .unset, .unset, .unset, .unset, .unset, .unset] [(.int (3 : Int32)), (.ref b163)])) rfl rfl (hb hby at_118) _ ?_
      refine XS.lstore X164.here hx rfl (hb hby at_119) rfl (l' := #[.val (.long q0), .second, .val (.long q1), .second, .val (.long q2), .second, .val (.long q3), .second, .val (.long q4), .second, .val (.int p5), .val (.long (4611686018427387903 : Int64)), .second, .val (.long v146), .second, .val (.long v147), .second, .val (.long v148), .second, .val (.long v149), .second, .val (.long v150), .second, .val (.ref b151), .val (.ref b163), .val (.long (2251799813685248 : Int64)), .second, .val (.long v166), .second, .val (.long v167), .second, .val (.long v168), .second, .val (.long (own_h3 v146 v147 v148 v149 v150)), .second, .unset, .unset, .unset, .unset, .unset, .unset, .unset, .unset, .unset, .unset, .unset, .unset]) rfl ?_
      exact k
    generalize hv_v169 : (own_h3 v146 v147 v148 v149 v150) = v169
    refine Go.st (U' := T164.setTop (mkF m 127 #[.val (.long q0), .second, .val (.long q1), .second, .val (.long q2), .second, .val (.long q3), .second, .val (.long q4), .second, .val (.int p5), .val (.long (4611686018427387903 : Int64)), .second, .val (.long v146), .second, .val (.long v147), .second, .val (.long v148), .second, .val (.long v149), .second, .val (.long v150), .second, .val (.ref b151), .val (.ref b163), .val (.long (2251799813685248 : Int64)), .second, .val (.long v166), .second, .val (.long v167), .second, .val (.long v168), .second, .val (.long v169), .second, .val (.long (own_h4 v146 v147 v148 v149 v150)), .second, .unset, .unset, .unset, .unset, .unset, .unset, .unset, .unset, .unset, .unset] [])) (fun t k => ?_) ?_
    · refine XS.aload X164.here hx rfl (hb hby at_121) rfl rfl ?_
      refine XS.iconst X164.here hx rfl (hb hby at_123) ?_
      refine X164.laload hx (j := (4 : Int32)) (v := (.long (own_h4 v146 v147 v148 v149 v150))) (Ar165.1) (State.isArrayOf_alike hZ.alike Ar165.2.1) Ar165.2.2 (inb_of (j := (4 : Int32)) S165 ⟨by decide, by decide⟩) (Has.at H165 (inb_of (j := (4 : Int32)) S165 ⟨by decide, by decide⟩) rfl) (g := (mkF m 124 #[.val (.long q0), .second, .val (.long q1), .second, .val (.long q2), .second, .val (.long q3), .second, .val (.long q4), .second, .val (.int p5), .val (.long (4611686018427387903 : Int64)), .second, .val (.long v146), .second, .val (.long v147), .second, .val (.long v148), .second, .val (.long v149), .second, .val (.long v150), .second, .val (.ref b151), .val (.ref b163), .val (.long (2251799813685248 : Int64)), .second, .val (.long v166), .second, .val (.long v167), .second, .val (.long v168), .second, .val (.long v169), .second, .unset, .unset, .unset, .unset, .unset, .unset, .unset, .unset, .unset, .unset, .unset, .unset] [(.int (4 : Int32)), (.ref b163)])) rfl rfl (hb hby at_124) _ ?_
      refine XS.lstore X164.here hx rfl (hb hby at_125) rfl (l' := #[.val (.long q0), .second, .val (.long q1), .second, .val (.long q2), .second, .val (.long q3), .second, .val (.long q4), .second, .val (.int p5), .val (.long (4611686018427387903 : Int64)), .second, .val (.long v146), .second, .val (.long v147), .second, .val (.long v148), .second, .val (.long v149), .second, .val (.long v150), .second, .val (.ref b151), .val (.ref b163), .val (.long (2251799813685248 : Int64)), .second, .val (.long v166), .second, .val (.long v167), .second, .val (.long v168), .second, .val (.long v169), .second, .val (.long (own_h4 v146 v147 v148 v149 v150)), .second, .unset, .unset, .unset, .unset, .unset, .unset, .unset, .unset, .unset, .unset]) rfl ?_
      exact k
    generalize hv_v170 : (own_h4 v146 v147 v148 v149 v150) = v170
    have hB0 := own_bd q0 v146 hv_v146
    have hB0_ := own_bd q0 v146 hv_v146
    have hB1_ := own_bd q1 v147 hv_v147
    have hB2_ := own_bd q2 v148 hv_v148
    have hB3_ := own_bd q3 v149 hv_v149
    have hB4_ := own_bd q4 v150 hv_v150
    have hA := own_a v146 v147 v148 v149 v150 v166 v167 v168 v169 v170 hB0_ hB1_ hB2_ hB3_ hB4_ hv_v166 hv_v167 hv_v168 hv_v169 hv_v170
    refine Go.st (U' := T164.setTop (mkF m 231 #[.val (.long q0), .second, .val (.long q1), .second, .val (.long q2), .second, .val (.long q3), .second, .val (.long q4), .second, .val (.int p5), .val (.long (4611686018427387903 : Int64)), .second, .val (.long v146), .second, .val (.long v147), .second, .val (.long v148), .second, .val (.long v149), .second, .val (.long v150), .second, .val (.ref b151), .val (.ref b163), .val (.long (2251799813685248 : Int64)), .second, .val (.long v166), .second, .val (.long v167), .second, .val (.long v168), .second, .val (.long v169), .second, .val (.long v170), .second, .val (.long ((v146 + (v147 <<< ((51 : Int32) &&& 0x3f).toInt64)) - (v166 + (v167 <<< ((51 : Int32) &&& 0x3f).toInt64)))), .second, .unset, .unset, .unset, .unset, .unset, .unset, .unset, .unset] [])) (fun t k => ?_) ?_
    · refine XS.lload X164.here hx rfl (hb hby at_127) rfl ?_
      refine XS.lconst X164.here hx rfl (hb hby at_129) ?_
      refine XS.lcmp X164.here hx rfl (hb hby at_130) rfl ?_
      refine XS.ifNo X164.here hx rfl (hb hby at_131) rfl ((if0 _ _).trans (flt (fun q => (hA.1 : ¬ (v166 < (0 : Int64))) ((lw_lt _ _).mp q))).1) ?_
      refine XS.lload X164.here hx rfl (hb hby at_134) rfl ?_
      refine XS.lload X164.here hx rfl (hb hby at_136) rfl ?_
      refine XS.lcmp X164.here hx rfl (hb hby at_138) rfl ?_
      refine XS.ifYes X164.here hx rfl (pc0 := 139) (pc' := 144) rfl (hb hby at_139) rfl ((if0 _ _).trans (tlt ((lw_lt _ _).mpr (hA.2.1 : v166 < (2251799813685248 : Int64)))).1) (by decide) (by decide) ?_
      refine XS.lload X164.here hx rfl (hb hby at_144) rfl ?_
      refine XS.lconst X164.here hx rfl (hb hby at_146) ?_
      refine XS.lcmp X164.here hx rfl (hb hby at_147) rfl ?_
      refine XS.ifNo X164.here hx rfl (hb hby at_148) rfl ((if0 _ _).trans (flt (fun q => (hA.2.2.1 : ¬ (v167 < (0 : Int64))) ((lw_lt _ _).mp q))).1) ?_
      refine XS.lload X164.here hx rfl (hb hby at_151) rfl ?_
      refine XS.lload X164.here hx rfl (hb hby at_153) rfl ?_
      refine X164.ldc2Long hx hown (mvT hZ (own_w hw 9 rfl)) (g := (mkF m 155 #[.val (.long q0), .second, .val (.long q1), .second, .val (.long q2), .second, .val (.long q3), .second, .val (.long q4), .second, .val (.int p5), .val (.long (4611686018427387903 : Int64)), .second, .val (.long v146), .second, .val (.long v147), .second, .val (.long v148), .second, .val (.long v149), .second, .val (.long v150), .second, .val (.ref b151), .val (.ref b163), .val (.long (2251799813685248 : Int64)), .second, .val (.long v166), .second, .val (.long v167), .second, .val (.long v168), .second, .val (.long v169), .second, .val (.long v170), .second, .unset, .unset, .unset, .unset, .unset, .unset, .unset, .unset, .unset, .unset] [(.long (2251799813685248 : Int64)), (.long v167)])) rfl (hb hby at_155) _ ?_
      refine XS.ladd X164.here hx rfl (hb hby at_158) rfl ?_
      refine XS.lcmp X164.here hx rfl (hb hby at_159) rfl ?_
      refine XS.ifYes X164.here hx rfl (pc0 := 160) (pc' := 165) rfl (hb hby at_160) rfl ((if0 _ _).trans (tlt ((lw_lt _ _).mpr (hA.2.2.2.1 : v167 < (2251799813693440 : Int64)))).1) (by decide) (by decide) ?_
      refine XS.lload X164.here hx rfl (hb hby at_165) rfl ?_
      refine XS.lconst X164.here hx rfl (hb hby at_167) ?_
      refine XS.lcmp X164.here hx rfl (hb hby at_168) rfl ?_
      refine XS.ifNo X164.here hx rfl (hb hby at_169) rfl ((if0 _ _).trans (flt (fun q => (hA.2.2.2.2.1 : ¬ (v168 < (0 : Int64))) ((lw_lt _ _).mp q))).1) ?_
      refine XS.lload X164.here hx rfl (hb hby at_172) rfl ?_
      refine XS.lload X164.here hx rfl (hb hby at_174) rfl ?_
      refine XS.lcmp X164.here hx rfl (hb hby at_176) rfl ?_
      refine XS.ifNo X164.here hx rfl (hb hby at_177) rfl ((if0 _ _).trans (tlt ((lw_lt _ _).mpr (hA.2.2.2.2.2.1 : v168 < (2251799813685248 : Int64)))).2.1) ?_
      refine XS.lload X164.here hx rfl (hb hby at_180) rfl ?_
      refine XS.lconst X164.here hx rfl (hb hby at_182) ?_
      refine XS.lcmp X164.here hx rfl (hb hby at_183) rfl ?_
      refine XS.ifNo X164.here hx rfl (hb hby at_184) rfl ((if0 _ _).trans (flt (fun q => (hA.2.2.2.2.2.2.1 : ¬ (v169 < (0 : Int64))) ((lw_lt _ _).mp q))).1) ?_
      refine XS.lload X164.here hx rfl (hb hby at_187) rfl ?_
      refine XS.lload X164.here hx rfl (hb hby at_189) rfl ?_
      refine XS.lcmp X164.here hx rfl (hb hby at_191) rfl ?_
      refine XS.ifNo X164.here hx rfl (hb hby at_192) rfl ((if0 _ _).trans (tlt ((lw_lt _ _).mpr (hA.2.2.2.2.2.2.2.1 : v169 < (2251799813685248 : Int64)))).2.1) ?_
      refine XS.lload X164.here hx rfl (hb hby at_195) rfl ?_
      refine XS.lconst X164.here hx rfl (hb hby at_197) ?_
      refine XS.lcmp X164.here hx rfl (hb hby at_198) rfl ?_
      refine XS.ifNo X164.here hx rfl (hb hby at_199) rfl ((if0 _ _).trans (flt (fun q => (hA.2.2.2.2.2.2.2.2.1 : ¬ (v170 < (0 : Int64))) ((lw_lt _ _).mp q))).1) ?_
      refine XS.lload X164.here hx rfl (hb hby at_202) rfl ?_
      refine XS.lload X164.here hx rfl (hb hby at_204) rfl ?_
      refine XS.lcmp X164.here hx rfl (hb hby at_206) rfl ?_
      refine XS.ifYes X164.here hx rfl (pc0 := 207) (pc' := 212) rfl (hb hby at_207) rfl ((if0 _ _).trans (tlt ((lw_lt _ _).mpr (hA.2.2.2.2.2.2.2.2.2 : v170 < (2251799813685248 : Int64)))).1) (by decide) (by decide) ?_
      refine XS.lload X164.here hx rfl (hb hby at_212) rfl ?_
      refine XS.lload X164.here hx rfl (hb hby at_214) rfl ?_
      refine XS.bipush X164.here hx rfl (hb hby at_216) ?_
      refine XS.lshl X164.here hx rfl (hb hby at_218) rfl ?_
      refine XS.ladd X164.here hx rfl (hb hby at_219) rfl ?_
      refine XS.lload X164.here hx rfl (hb hby at_220) rfl ?_
      refine XS.lload X164.here hx rfl (hb hby at_222) rfl ?_
      refine XS.bipush X164.here hx rfl (hb hby at_224) ?_
      refine XS.lshl X164.here hx rfl (hb hby at_226) rfl ?_
      refine XS.ladd X164.here hx rfl (hb hby at_227) rfl ?_
      refine XS.lsub X164.here hx rfl (hb hby at_228) rfl ?_
      refine XS.lstore X164.here hx rfl (hb hby at_229) rfl (l' := #[.val (.long q0), .second, .val (.long q1), .second, .val (.long q2), .second, .val (.long q3), .second, .val (.long q4), .second, .val (.int p5), .val (.long (4611686018427387903 : Int64)), .second, .val (.long v146), .second, .val (.long v147), .second, .val (.long v148), .second, .val (.long v149), .second, .val (.long v150), .second, .val (.ref b151), .val (.ref b163), .val (.long (2251799813685248 : Int64)), .second, .val (.long v166), .second, .val (.long v167), .second, .val (.long v168), .second, .val (.long v169), .second, .val (.long v170), .second, .val (.long ((v146 + (v147 <<< ((51 : Int32) &&& 0x3f).toInt64)) - (v166 + (v167 <<< ((51 : Int32) &&& 0x3f).toInt64)))), .second, .unset, .unset, .unset, .unset, .unset, .unset, .unset, .unset]) rfl ?_
      exact k
    generalize hv_v171 : ((v146 + (v147 <<< ((51 : Int32) &&& 0x3f).toInt64)) - (v166 + (v167 <<< ((51 : Int32) &&& 0x3f).toInt64))) = v171
    refine Go.st (U' := T164.setTop (mkF m 236 #[.val (.long q0), .second, .val (.long q1), .second, .val (.long q2), .second, .val (.long q3), .second, .val (.long q4), .second, .val (.int p5), .val (.long (4611686018427387903 : Int64)), .second, .val (.long v146), .second, .val (.long v147), .second, .val (.long v148), .second, .val (.long v149), .second, .val (.long v150), .second, .val (.ref b151), .val (.ref b163), .val (.long (2251799813685248 : Int64)), .second, .val (.long v166), .second, .val (.long v167), .second, .val (.long v168), .second, .val (.long v169), .second, .val (.long v170), .second, .val (.long v171), .second, .val (.long (-v171)), .second, .unset, .unset, .unset, .unset, .unset, .unset] [])) (fun t k => ?_) ?_
    · refine XS.lload X164.here hx rfl (hb hby at_231) rfl ?_
      refine XS.lneg X164.here hx rfl (hb hby at_233) rfl ?_
      refine XS.lstore X164.here hx rfl (hb hby at_234) rfl (l' := #[.val (.long q0), .second, .val (.long q1), .second, .val (.long q2), .second, .val (.long q3), .second, .val (.long q4), .second, .val (.int p5), .val (.long (4611686018427387903 : Int64)), .second, .val (.long v146), .second, .val (.long v147), .second, .val (.long v148), .second, .val (.long v149), .second, .val (.long v150), .second, .val (.ref b151), .val (.ref b163), .val (.long (2251799813685248 : Int64)), .second, .val (.long v166), .second, .val (.long v167), .second, .val (.long v168), .second, .val (.long v169), .second, .val (.long v170), .second, .val (.long v171), .second, .val (.long (-v171)), .second, .unset, .unset, .unset, .unset, .unset, .unset]) rfl ?_
      exact k
    generalize hv_v172 : (-v171) = v172
    have hE := own_e v146 v147 v148 v149 v150 v166 v167 v168 v169 v170 v171 v172 hB0_ hB1_ hB2_ hB3_ hB4_ hv_v166 hv_v167 hv_v168 hv_v169 hv_v170 hv_v171 hv_v172
    refine Go.st (U' := T164.setTop (mkF m 273 #[.val (.long q0), .second, .val (.long q1), .second, .val (.long q2), .second, .val (.long q3), .second, .val (.long q4), .second, .val (.int p5), .val (.long (4611686018427387903 : Int64)), .second, .val (.long v146), .second, .val (.long v147), .second, .val (.long v148), .second, .val (.long v149), .second, .val (.long v150), .second, .val (.ref b151), .val (.ref b163), .val (.long (2251799813685248 : Int64)), .second, .val (.long v166), .second, .val (.long v167), .second, .val (.long v168), .second, .val (.long v169), .second, .val (.long v170), .second, .val (.long v171), .second, .val (.long v172), .second, .val (.long (v172 / (19 : Int64))), .second, .unset, .unset, .unset, .unset] [])) (fun t k => ?_) ?_
    · refine XS.lload X164.here hx rfl (hb hby at_236) rfl ?_
      refine XS.lconst X164.here hx rfl (hb hby at_238) ?_
      refine XS.lcmp X164.here hx rfl (hb hby at_239) rfl ?_
      refine XS.ifNo X164.here hx rfl (hb hby at_240) rfl ((if0 _ _).trans (flt (fun q => (hE.1 : ¬ (v172 < (0 : Int64))) ((lw_lt _ _).mp q))).1) ?_
      refine XS.lload X164.here hx rfl (hb hby at_243) rfl ?_
      refine X164.ldc2Long hx hown (mvT hZ (own_w hw 10 rfl)) (g := (mkF m 245 #[.val (.long q0), .second, .val (.long q1), .second, .val (.long q2), .second, .val (.long q3), .second, .val (.long q4), .second, .val (.int p5), .val (.long (4611686018427387903 : Int64)), .second, .val (.long v146), .second, .val (.long v147), .second, .val (.long v148), .second, .val (.long v149), .second, .val (.long v150), .second, .val (.ref b151), .val (.ref b163), .val (.long (2251799813685248 : Int64)), .second, .val (.long v166), .second, .val (.long v167), .second, .val (.long v168), .second, .val (.long v169), .second, .val (.long v170), .second, .val (.long v171), .second, .val (.long v172), .second, .unset, .unset, .unset, .unset, .unset, .unset] [(.long v172)])) rfl (hb hby at_245) _ ?_
      refine XS.lcmp X164.here hx rfl (hb hby at_248) rfl ?_
      refine XS.ifNo X164.here hx rfl (hb hby at_249) rfl ((if0 _ _).trans (tlt ((lw_lt _ _).mpr (hE.2.1 : v172 < (77824 : Int64)))).2.1) ?_
      refine XS.lload X164.here hx rfl (hb hby at_252) rfl ?_
      refine X164.ldc2Long hx hown (mvT hZ (own_w hw 11 rfl)) (g := (mkF m 254 #[.val (.long q0), .second, .val (.long q1), .second, .val (.long q2), .second, .val (.long q3), .second, .val (.long q4), .second, .val (.int p5), .val (.long (4611686018427387903 : Int64)), .second, .val (.long v146), .second, .val (.long v147), .second, .val (.long v148), .second, .val (.long v149), .second, .val (.long v150), .second, .val (.ref b151), .val (.ref b163), .val (.long (2251799813685248 : Int64)), .second, .val (.long v166), .second, .val (.long v167), .second, .val (.long v168), .second, .val (.long v169), .second, .val (.long v170), .second, .val (.long v171), .second, .val (.long v172), .second, .unset, .unset, .unset, .unset, .unset, .unset] [(.long v172)])) rfl (hb hby at_254) _ ?_
      refine XS.lrem X164.here hx rfl (hb hby at_257) rfl (by decide) ?_
      refine XS.lconst X164.here hx rfl (hb hby at_258) ?_
      refine XS.lcmp X164.here hx rfl (hb hby at_259) rfl ?_
      refine XS.ifYes X164.here hx rfl (pc0 := 260) (pc' := 265) rfl (hb hby at_260) rfl ((if0 _ _).trans (teq ((lw_eq _ _).mpr (hE.2.2 : (v172 - (v172 / (19 : Int64)) * (19 : Int64)) = (0 : Int64)))).1) (by decide) (by decide) ?_
      refine XS.lload X164.here hx rfl (hb hby at_265) rfl ?_
      refine X164.ldc2Long hx hown (mvT hZ (own_w hw 11 rfl)) (g := (mkF m 267 #[.val (.long q0), .second, .val (.long q1), .second, .val (.long q2), .second, .val (.long q3), .second, .val (.long q4), .second, .val (.int p5), .val (.long (4611686018427387903 : Int64)), .second, .val (.long v146), .second, .val (.long v147), .second, .val (.long v148), .second, .val (.long v149), .second, .val (.long v150), .second, .val (.ref b151), .val (.ref b163), .val (.long (2251799813685248 : Int64)), .second, .val (.long v166), .second, .val (.long v167), .second, .val (.long v168), .second, .val (.long v169), .second, .val (.long v170), .second, .val (.long v171), .second, .val (.long v172), .second, .unset, .unset, .unset, .unset, .unset, .unset] [(.long v172)])) rfl (hb hby at_267) _ ?_
      refine XS.ldiv X164.here hx rfl (hb hby at_270) rfl (by decide) ?_
      refine XS.lstore X164.here hx rfl (hb hby at_271) rfl (l' := #[.val (.long q0), .second, .val (.long q1), .second, .val (.long q2), .second, .val (.long q3), .second, .val (.long q4), .second, .val (.int p5), .val (.long (4611686018427387903 : Int64)), .second, .val (.long v146), .second, .val (.long v147), .second, .val (.long v148), .second, .val (.long v149), .second, .val (.long v150), .second, .val (.ref b151), .val (.ref b163), .val (.long (2251799813685248 : Int64)), .second, .val (.long v166), .second, .val (.long v167), .second, .val (.long v168), .second, .val (.long v169), .second, .val (.long v170), .second, .val (.long v171), .second, .val (.long v172), .second, .val (.long (v172 / (19 : Int64))), .second, .unset, .unset, .unset, .unset]) rfl ?_
      exact k
    generalize hv_v173 : (v172 / (19 : Int64)) = v173
    refine Go.st (U' := T164.setTop (mkF m 283 #[.val (.long q0), .second, .val (.long q1), .second, .val (.long q2), .second, .val (.long q3), .second, .val (.long q4), .second, .val (.int p5), .val (.long (4611686018427387903 : Int64)), .second, .val (.long v146), .second, .val (.long v147), .second, .val (.long v148), .second, .val (.long v149), .second, .val (.long v150), .second, .val (.ref b151), .val (.ref b163), .val (.long (2251799813685248 : Int64)), .second, .val (.long v166), .second, .val (.long v167), .second, .val (.long v168), .second, .val (.long v169), .second, .val (.long v170), .second, .val (.long v171), .second, .val (.long v172), .second, .val (.long v173), .second, .unset, .unset, .unset, .unset] [(.long v150), (.long v149), (.long v148), (.long v147), (.long v146)])) (fun t k => ?_) ?_
    · refine XS.lload X164.here hx rfl (hb hby at_273) rfl ?_
      refine XS.lload X164.here hx rfl (hb hby at_275) rfl ?_
      refine XS.lload X164.here hx rfl (hb hby at_277) rfl ?_
      refine XS.lload X164.here hx rfl (hb hby at_279) rfl ?_
      refine XS.lload X164.here hx rfl (hb hby at_281) rfl ?_
      exact k
    obtain ⟨_, _, ⟨T174, L174, k174, n174⟩, -, X174, ⟨Lc174, hQ174, l174, y174, z174⟩, st174⟩ := Jvm.LawKit.callS X164 hx (y := own_y1) hown (mvT hZ (own_w hw 12 rfl)) (mvT hZ (own_w hw 13 rfl)) (mvT hZ (own_w hw 14 rfl)) (mvT hZ (own_w hw 15 rfl)) (by decide) (backOf (W := 0) (rm3 l Z a0 hw [] v146 v147 v148 v149 v150 T164.heap n0 sz164 ) hZ (own_w hw 15 rfl) (own_w hw 14 rfl) (by decide) (by decide)) (g := (mkF m 283 #[.val (.long q0), .second, .val (.long q1), .second, .val (.long q2), .second, .val (.long q3), .second, .val (.long q4), .second, .val (.int p5), .val (.long (4611686018427387903 : Int64)), .second, .val (.long v146), .second, .val (.long v147), .second, .val (.long v148), .second, .val (.long v149), .second, .val (.long v150), .second, .val (.ref b151), .val (.ref b163), .val (.long (2251799813685248 : Int64)), .second, .val (.long v166), .second, .val (.long v167), .second, .val (.long v168), .second, .val (.long v169), .second, .val (.long v170), .second, .val (.long v171), .second, .val (.long v172), .second, .val (.long v173), .second, .unset, .unset, .unset, .unset] [(.long v150), (.long v149), (.long v148), (.long v147), (.long v146)])) rfl (by rw [hml]; rfl) (argsL := [(.long v146), (.long v147), (.long v148), (.long v149), (.long v150)]) (rest := []) (lenOf pd_1 rfl) rfl (by show 2 * 0 + _ ≤ _; exact Nat.le_of_eq rfl) (hb hby at_283) (fun _ _ => ⟨rfl, rfl, (by decide : 2 + 0 ≤ _), (by decide : 10 + 0 ≤ _)⟩)
    dsimp only [Pt.U, Pt.locs, Pt.cells, Pt.slots] at X174 l174 y174 z174 st174 hQ174
    subst l174 y174 z174
    obtain ⟨rfl, N174q, e174⟩ := hQ174
    have N174 := Fr.app N164 N174q
    refine Go.st (U' := T174.setTop (mkF m 286 #[.val (.long q0), .second, .val (.long q1), .second, .val (.long q2), .second, .val (.long q3), .second, .val (.long q4), .second, .val (.int p5), .val (.long (4611686018427387903 : Int64)), .second, .val (.long v146), .second, .val (.long v147), .second, .val (.long v148), .second, .val (.long v149), .second, .val (.long v150), .second, .val (.ref b151), .val (.ref b163), .val (.long (2251799813685248 : Int64)), .second, .val (.long v166), .second, .val (.long v167), .second, .val (.long v168), .second, .val (.long v169), .second, .val (.long v170), .second, .val (.long v171), .second, .val (.long v172), .second, .val (.long v173), .second, .unset, .unset, .unset, .unset] [(.long (fM v146 v147 v148 v149 v150))])) (fun t k => st174 _ k) ?_
    refine Go.st (U' := T174.setTop (mkF m 288 #[.val (.long q0), .second, .val (.long q1), .second, .val (.long q2), .second, .val (.long q3), .second, .val (.long q4), .second, .val (.int p5), .val (.long (4611686018427387903 : Int64)), .second, .val (.long v146), .second, .val (.long v147), .second, .val (.long v148), .second, .val (.long v149), .second, .val (.long v150), .second, .val (.ref b151), .val (.ref b163), .val (.long (2251799813685248 : Int64)), .second, .val (.long v166), .second, .val (.long v167), .second, .val (.long v168), .second, .val (.long v169), .second, .val (.long v170), .second, .val (.long v171), .second, .val (.long v172), .second, .val (.long v173), .second, .val (.long (fM v146 v147 v148 v149 v150)), .second, .unset, .unset] [])) (fun t k => ?_) ?_
    · refine XS.lstore X174.here hx rfl (hb hby at_286) rfl (l' := #[.val (.long q0), .second, .val (.long q1), .second, .val (.long q2), .second, .val (.long q3), .second, .val (.long q4), .second, .val (.int p5), .val (.long (4611686018427387903 : Int64)), .second, .val (.long v146), .second, .val (.long v147), .second, .val (.long v148), .second, .val (.long v149), .second, .val (.long v150), .second, .val (.ref b151), .val (.ref b163), .val (.long (2251799813685248 : Int64)), .second, .val (.long v166), .second, .val (.long v167), .second, .val (.long v168), .second, .val (.long v169), .second, .val (.long v170), .second, .val (.long v171), .second, .val (.long v172), .second, .val (.long v173), .second, .val (.long (fM v146 v147 v148 v149 v150)), .second, .unset, .unset]) rfl ?_
      exact k
    generalize hv_v175 : (fM v146 v147 v148 v149 v150) = v175
    refine Go.st (U' := T174.setTop (mkF m 298 #[.val (.long q0), .second, .val (.long q1), .second, .val (.long q2), .second, .val (.long q3), .second, .val (.long q4), .second, .val (.int p5), .val (.long (4611686018427387903 : Int64)), .second, .val (.long v146), .second, .val (.long v147), .second, .val (.long v148), .second, .val (.long v149), .second, .val (.long v150), .second, .val (.ref b151), .val (.ref b163), .val (.long (2251799813685248 : Int64)), .second, .val (.long v166), .second, .val (.long v167), .second, .val (.long v168), .second, .val (.long v169), .second, .val (.long v170), .second, .val (.long v171), .second, .val (.long v172), .second, .val (.long v173), .second, .val (.long v175), .second, .unset, .unset] [(.long v170), (.long v169), (.long v168), (.long v167), (.long v166)])) (fun t k => ?_) ?_
    · refine XS.lload X174.here hx rfl (hb hby at_288) rfl ?_
      refine XS.lload X174.here hx rfl (hb hby at_290) rfl ?_
      refine XS.lload X174.here hx rfl (hb hby at_292) rfl ?_
      refine XS.lload X174.here hx rfl (hb hby at_294) rfl ?_
      refine XS.lload X174.here hx rfl (hb hby at_296) rfl ?_
      exact k
    obtain ⟨_, _, ⟨T176, L176, k176, n176⟩, -, X176, ⟨Lc176, hQ176, l176, y176, z176⟩, st176⟩ := Jvm.LawKit.callS X174 hx (y := own_y1) hown (mvT hZ (own_w hw 12 rfl)) (mvT hZ (own_w hw 13 rfl)) (mvT hZ (own_w hw 14 rfl)) (mvT hZ (own_w hw 15 rfl)) (by decide) (backOf (W := 0) (rm3 l Z a0 hw [] v166 v167 v168 v169 v170 T164.heap n0 sz164 ) hZ (own_w hw 15 rfl) (own_w hw 14 rfl) (by decide) (by decide)) (g := (mkF m 298 #[.val (.long q0), .second, .val (.long q1), .second, .val (.long q2), .second, .val (.long q3), .second, .val (.long q4), .second, .val (.int p5), .val (.long (4611686018427387903 : Int64)), .second, .val (.long v146), .second, .val (.long v147), .second, .val (.long v148), .second, .val (.long v149), .second, .val (.long v150), .second, .val (.ref b151), .val (.ref b163), .val (.long (2251799813685248 : Int64)), .second, .val (.long v166), .second, .val (.long v167), .second, .val (.long v168), .second, .val (.long v169), .second, .val (.long v170), .second, .val (.long v171), .second, .val (.long v172), .second, .val (.long v173), .second, .val (.long v175), .second, .unset, .unset] [(.long v170), (.long v169), (.long v168), (.long v167), (.long v166)])) rfl (by rw [hml]; rfl) (argsL := [(.long v166), (.long v167), (.long v168), (.long v169), (.long v170)]) (rest := []) (lenOf pd_1 rfl) rfl (by show 2 * 0 + _ ≤ _; exact Nat.le_of_eq rfl) (hb hby at_298) (fun _ _ => ⟨rfl, e174, (by decide : 2 + 0 ≤ _), (by decide : 10 + 0 ≤ _)⟩)
    dsimp only [Pt.U, Pt.locs, Pt.cells, Pt.slots] at X176 l176 y176 z176 st176 hQ176
    subst l176 y176 z176
    obtain ⟨rfl, N176q, e176⟩ := hQ176
    have N176 := Fr.app N174 N176q
    refine Go.st (U' := T176.setTop (mkF m 301 #[.val (.long q0), .second, .val (.long q1), .second, .val (.long q2), .second, .val (.long q3), .second, .val (.long q4), .second, .val (.int p5), .val (.long (4611686018427387903 : Int64)), .second, .val (.long v146), .second, .val (.long v147), .second, .val (.long v148), .second, .val (.long v149), .second, .val (.long v150), .second, .val (.ref b151), .val (.ref b163), .val (.long (2251799813685248 : Int64)), .second, .val (.long v166), .second, .val (.long v167), .second, .val (.long v168), .second, .val (.long v169), .second, .val (.long v170), .second, .val (.long v171), .second, .val (.long v172), .second, .val (.long v173), .second, .val (.long v175), .second, .unset, .unset] [(.long (fM v166 v167 v168 v169 v170))])) (fun t k => st176 _ k) ?_
    refine Go.st (U' := T176.setTop (mkF m 303 #[.val (.long q0), .second, .val (.long q1), .second, .val (.long q2), .second, .val (.long q3), .second, .val (.long q4), .second, .val (.int p5), .val (.long (4611686018427387903 : Int64)), .second, .val (.long v146), .second, .val (.long v147), .second, .val (.long v148), .second, .val (.long v149), .second, .val (.long v150), .second, .val (.ref b151), .val (.ref b163), .val (.long (2251799813685248 : Int64)), .second, .val (.long v166), .second, .val (.long v167), .second, .val (.long v168), .second, .val (.long v169), .second, .val (.long v170), .second, .val (.long v171), .second, .val (.long v172), .second, .val (.long v173), .second, .val (.long v175), .second, .val (.long (fM v166 v167 v168 v169 v170)), .second] [])) (fun t k => ?_) ?_
    · refine XS.lstore X176.here hx rfl (hb hby at_301) rfl (l' := #[.val (.long q0), .second, .val (.long q1), .second, .val (.long q2), .second, .val (.long q3), .second, .val (.long q4), .second, .val (.int p5), .val (.long (4611686018427387903 : Int64)), .second, .val (.long v146), .second, .val (.long v147), .second, .val (.long v148), .second, .val (.long v149), .second, .val (.long v150), .second, .val (.ref b151), .val (.ref b163), .val (.long (2251799813685248 : Int64)), .second, .val (.long v166), .second, .val (.long v167), .second, .val (.long v168), .second, .val (.long v169), .second, .val (.long v170), .second, .val (.long v171), .second, .val (.long v172), .second, .val (.long v173), .second, .val (.long v175), .second, .val (.long (fM v166 v167 v168 v169 v170)), .second]) rfl ?_
      exact k
    generalize hv_v177 : (fM v166 v167 v168 v169 v170) = v177
    have hF := own_f v146 v147 v148 v149 v150 v166 v167 v168 v169 v170 v171 v172 v173 v175 v177 hB0_ hB1_ hB2_ hB3_ hB4_ hv_v166 hv_v167 hv_v168 hv_v169 hv_v170 hv_v171 hv_v172 hv_v173 hv_v175 hv_v177
    refine Go.st (U' := T176.setTop (mkF m 327 #[.val (.long q0), .second, .val (.long q1), .second, .val (.long q2), .second, .val (.long q3), .second, .val (.long q4), .second, .val (.int p5), .val (.long (4611686018427387903 : Int64)), .second, .val (.long v146), .second, .val (.long v147), .second, .val (.long v148), .second, .val (.long v149), .second, .val (.long v150), .second, .val (.ref b151), .val (.ref b163), .val (.long (2251799813685248 : Int64)), .second, .val (.long v166), .second, .val (.long v167), .second, .val (.long v168), .second, .val (.long v169), .second, .val (.long v170), .second, .val (.long v171), .second, .val (.long v172), .second, .val (.long v173), .second, .val (.long v175), .second, .val (.long v177), .second] [(.int (1 : Int32))])) (fun t k => ?_) ?_
    · refine XS.lload X176.here hx rfl (hb hby at_303) rfl ?_
      refine XS.lload X176.here hx rfl (hb hby at_305) rfl ?_
      refine X176.ldc2Long hx hown (mvT hZ (own_w hw 21 rfl)) (g := (mkF m 307 #[.val (.long q0), .second, .val (.long q1), .second, .val (.long q2), .second, .val (.long q3), .second, .val (.long q4), .second, .val (.int p5), .val (.long (4611686018427387903 : Int64)), .second, .val (.long v146), .second, .val (.long v147), .second, .val (.long v148), .second, .val (.long v149), .second, .val (.long v150), .second, .val (.ref b151), .val (.ref b163), .val (.long (2251799813685248 : Int64)), .second, .val (.long v166), .second, .val (.long v167), .second, .val (.long v168), .second, .val (.long v169), .second, .val (.long v170), .second, .val (.long v171), .second, .val (.long v172), .second, .val (.long v173), .second, .val (.long v175), .second, .val (.long v177), .second] [(.long v173), (.long v177)])) rfl (hb hby at_307) _ ?_
      refine XS.lmul X176.here hx rfl (hb hby at_310) rfl ?_
      refine XS.ladd X176.here hx rfl (hb hby at_311) rfl ?_
      refine X176.ldc2Long hx hown (mvT hZ (own_w hw 16 rfl)) (g := (mkF m 312 #[.val (.long q0), .second, .val (.long q1), .second, .val (.long q2), .second, .val (.long q3), .second, .val (.long q4), .second, .val (.int p5), .val (.long (4611686018427387903 : Int64)), .second, .val (.long v146), .second, .val (.long v147), .second, .val (.long v148), .second, .val (.long v149), .second, .val (.long v150), .second, .val (.ref b151), .val (.ref b163), .val (.long (2251799813685248 : Int64)), .second, .val (.long v166), .second, .val (.long v167), .second, .val (.long v168), .second, .val (.long v169), .second, .val (.long v170), .second, .val (.long v171), .second, .val (.long v172), .second, .val (.long v173), .second, .val (.long v175), .second, .val (.long v177), .second] [(.long (v177 + (v173 * (109 : Int64))))])) rfl (hb hby at_312) _ ?_
      refine XS.lrem X176.here hx rfl (hb hby at_315) rfl (by decide) ?_
      refine XS.lload X176.here hx rfl (hb hby at_316) rfl ?_
      refine XS.lcmp X176.here hx rfl (hb hby at_318) rfl ?_
      refine XS.ifNo X176.here hx rfl (hb hby at_319) rfl ((if0 _ _).trans (teq ((lw_eq _ _).mpr (hF : ((v177 + (v173 * (109 : Int64))) - ((v177 + (v173 * (109 : Int64))) / (2147483647 : Int64)) * (2147483647 : Int64)) = v175))).2) ?_
      refine XS.iconst X176.here hx rfl (hb hby at_322) ?_
      refine XS.goto X176.here hx rfl (pc0 := 323) (pc' := 327) rfl (hb hby at_323) (by decide) (by decide) ?_
      exact k
    refine own_ret (Q := Q0 Z q0 q1 q2 q3 q4 p5 h0 n0) (v := some (.int (1 : Int32))) X176 hlk (fun h => by rw [hrt] at h; cases h) (by decide) (by decide) ?_ (fun fs hr => retN X176 hx (t := .boolean) hrt (by simp) (hb hby at_327) hr)
    rw [e176]
    exact ⟨rfl, N176⟩
  · refine Go.st (U' := T160.setTop (mkF m 89 #[.val (.long q0), .second, .val (.long q1), .second, .val (.long q2), .second, .val (.long q3), .second, .val (.long q4), .second, .val (.int p5), .val (.long (4611686018427387903 : Int64)), .second, .val (.long v146), .second, .val (.long v147), .second, .val (.long v148), .second, .val (.long v149), .second, .val (.long v150), .second, .val (.ref b151), .val (.ref b151), .unset, .unset, .unset, .unset, .unset, .unset, .unset, .unset, .unset, .unset, .unset, .unset, .unset, .unset, .unset, .unset, .unset, .unset, .unset, .unset, .unset, .unset] [(.ref b151), (.ref b151)])) (fun t k => ?_) ?_
    · refine XS.ifNo X160.here hx rfl (hb hby at_72) rfl ((if0 _ _).trans (feq hc162).1) ?_
      refine XS.aload X160.here hx rfl (hb hby at_75) rfl rfl ?_
      refine XS.goto X160.here hx rfl (pc0 := 77) (pc' := 83) rfl (hb hby at_77) (by decide) (by decide) ?_
      refine XS.astore X160.here hx rfl (hb hby at_83) rfl rfl (l' := #[.val (.long q0), .second, .val (.long q1), .second, .val (.long q2), .second, .val (.long q3), .second, .val (.long q4), .second, .val (.int p5), .val (.long (4611686018427387903 : Int64)), .second, .val (.long v146), .second, .val (.long v147), .second, .val (.long v148), .second, .val (.long v149), .second, .val (.long v150), .second, .val (.ref b151), .val (.ref b151), .unset, .unset, .unset, .unset, .unset, .unset, .unset, .unset, .unset, .unset, .unset, .unset, .unset, .unset, .unset, .unset, .unset, .unset, .unset, .unset, .unset, .unset]) rfl ?_
      refine XS.aload X160.here hx rfl (hb hby at_85) rfl rfl ?_
      refine XS.aload X160.here hx rfl (hb hby at_87) rfl rfl ?_
      exact k
    obtain ⟨_, _, ⟨T178, L178, k178, n178⟩, -, X178, ⟨Lc178, hQ178, l178, y178, z178⟩, st178⟩ := Jvm.LawKit.callS X160 hx (y := own_y0) hown (mvT hZ (own_w hw 2 rfl)) (mvT hZ (own_w hw 3 rfl)) (mvT hZ (own_w hw 4 rfl)) (mvT hZ (own_w hw 5 rfl)) (by decide) (backOf (W := 0) (rm2 l Z a0 hw [] b151 k151 v146 v147 v148 v149 v150 h160 n0 sz160 V_b151_160 ge_b151) hZ (own_w hw 5 rfl) (own_w hw 4 rfl) (by decide) (by decide)) (g := (mkF m 89 #[.val (.long q0), .second, .val (.long q1), .second, .val (.long q2), .second, .val (.long q3), .second, .val (.long q4), .second, .val (.int p5), .val (.long (4611686018427387903 : Int64)), .second, .val (.long v146), .second, .val (.long v147), .second, .val (.long v148), .second, .val (.long v149), .second, .val (.long v150), .second, .val (.ref b151), .val (.ref b151), .unset, .unset, .unset, .unset, .unset, .unset, .unset, .unset, .unset, .unset, .unset, .unset, .unset, .unset, .unset, .unset, .unset, .unset, .unset, .unset, .unset, .unset] [(.ref b151), (.ref b151)])) rfl (by rw [hml]; rfl) (argsL := [(.ref b151), (.ref b151)]) (rest := []) (lenOf pd_0 rfl) rfl (by show 2 * 0 + _ ≤ _; exact Nat.le_of_eq rfl) (hb hby at_89) (fun _ _ => ⟨rfl, e160, (by decide : 1 + 0 ≤ _), (by decide : 5 + 0 ≤ _)⟩)
    dsimp only [Pt.U, Pt.locs, Pt.cells, Pt.slots] at X178 l178 y178 z178 st178 hQ178
    subst l178 y178 z178
    obtain ⟨rfl, N178q, K178, P178_0⟩ := hQ178
    have sz178 : n0 ≤ T178.heap.size := Nat.le_trans sz160 K178.1
    have N178 := Fr.app N160 N178q
    refine Go.st (U' := T178.setTop (mkF m 92 #[.val (.long q0), .second, .val (.long q1), .second, .val (.long q2), .second, .val (.long q3), .second, .val (.long q4), .second, .val (.int p5), .val (.long (4611686018427387903 : Int64)), .second, .val (.long v146), .second, .val (.long v147), .second, .val (.long v148), .second, .val (.long v149), .second, .val (.long v150), .second, .val (.ref b151), .val (.ref b151), .unset, .unset, .unset, .unset, .unset, .unset, .unset, .unset, .unset, .unset, .unset, .unset, .unset, .unset, .unset, .unset, .unset, .unset, .unset, .unset, .unset, .unset] [])) (fun t k => st178 _ k) ?_
    obtain ⟨cl179, Ar179, q179, S179, N179, H179, G179⟩ := id P178_0
    refine Go.st (U' := T178.setTop (mkF m 103 #[.val (.long q0), .second, .val (.long q1), .second, .val (.long q2), .second, .val (.long q3), .second, .val (.long q4), .second, .val (.int p5), .val (.long (4611686018427387903 : Int64)), .second, .val (.long v146), .second, .val (.long v147), .second, .val (.long v148), .second, .val (.long v149), .second, .val (.long v150), .second, .val (.ref b151), .val (.ref b151), .val (.long (2251799813685248 : Int64)), .second, .val (.long (own_h0 v146 v147 v148 v149 v150)), .second, .unset, .unset, .unset, .unset, .unset, .unset, .unset, .unset, .unset, .unset, .unset, .unset, .unset, .unset, .unset, .unset, .unset, .unset] [])) (fun t k => ?_) ?_
    · refine X178.ldc2Long hx hown (mvT hZ (own_w hw 8 rfl)) (g := (mkF m 92 #[.val (.long q0), .second, .val (.long q1), .second, .val (.long q2), .second, .val (.long q3), .second, .val (.long q4), .second, .val (.int p5), .val (.long (4611686018427387903 : Int64)), .second, .val (.long v146), .second, .val (.long v147), .second, .val (.long v148), .second, .val (.long v149), .second, .val (.long v150), .second, .val (.ref b151), .val (.ref b151), .unset, .unset, .unset, .unset, .unset, .unset, .unset, .unset, .unset, .unset, .unset, .unset, .unset, .unset, .unset, .unset, .unset, .unset, .unset, .unset, .unset, .unset] [])) rfl (hb hby at_92) _ ?_
      refine XS.lstore X178.here hx rfl (hb hby at_95) rfl (l' := #[.val (.long q0), .second, .val (.long q1), .second, .val (.long q2), .second, .val (.long q3), .second, .val (.long q4), .second, .val (.int p5), .val (.long (4611686018427387903 : Int64)), .second, .val (.long v146), .second, .val (.long v147), .second, .val (.long v148), .second, .val (.long v149), .second, .val (.long v150), .second, .val (.ref b151), .val (.ref b151), .val (.long (2251799813685248 : Int64)), .second, .unset, .unset, .unset, .unset, .unset, .unset, .unset, .unset, .unset, .unset, .unset, .unset, .unset, .unset, .unset, .unset, .unset, .unset, .unset, .unset]) rfl ?_
      refine XS.aload X178.here hx rfl (hb hby at_97) rfl rfl ?_
      refine XS.iconst X178.here hx rfl (hb hby at_99) ?_
      refine X178.laload hx (j := (0 : Int32)) (v := (.long (own_h0 v146 v147 v148 v149 v150))) (Ar179.1) (State.isArrayOf_alike hZ.alike Ar179.2.1) Ar179.2.2 (inb_of (j := (0 : Int32)) S179 ⟨by decide, by decide⟩) (Has.at H179 (inb_of (j := (0 : Int32)) S179 ⟨by decide, by decide⟩) rfl) (g := (mkF m 100 #[.val (.long q0), .second, .val (.long q1), .second, .val (.long q2), .second, .val (.long q3), .second, .val (.long q4), .second, .val (.int p5), .val (.long (4611686018427387903 : Int64)), .second, .val (.long v146), .second, .val (.long v147), .second, .val (.long v148), .second, .val (.long v149), .second, .val (.long v150), .second, .val (.ref b151), .val (.ref b151), .val (.long (2251799813685248 : Int64)), .second, .unset, .unset, .unset, .unset, .unset, .unset, .unset, .unset, .unset, .unset, .unset, .unset, .unset, .unset, .unset, .unset, .unset, .unset, .unset, .unset] [(.int (0 : Int32)), (.ref b151)])) rfl rfl (hb hby at_100) _ ?_
      refine XS.lstore X178.here hx rfl (hb hby at_101) rfl (l' := #[.val (.long q0), .second, .val (.long q1), .second, .val (.long q2), .second, .val (.long q3), .second, .val (.long q4), .second, .val (.int p5), .val (.long (4611686018427387903 : Int64)), .second, .val (.long v146), .second, .val (.long v147), .second, .val (.long v148), .second, .val (.long v149), .second, .val (.long v150), .second, .val (.ref b151), .val (.ref b151), .val (.long (2251799813685248 : Int64)), .second, .val (.long (own_h0 v146 v147 v148 v149 v150)), .second, .unset, .unset, .unset, .unset, .unset, .unset, .unset, .unset, .unset, .unset, .unset, .unset, .unset, .unset, .unset, .unset, .unset, .unset]) rfl ?_
      exact k
    generalize hv_v180 : (own_h0 v146 v147 v148 v149 v150) = v180
    refine Go.st (U' := T178.setTop (mkF m 109 #[.val (.long q0), .second, .val (.long q1), .second, .val (.long q2), .second, .val (.long q3), .second, .val (.long q4), .second, .val (.int p5), .val (.long (4611686018427387903 : Int64)), .second, .val (.long v146), .second, .val (.long v147), .second, .val (.long v148), .second, .val (.long v149), .second, .val (.long v150), .second, .val (.ref b151), .val (.ref b151), .val (.long (2251799813685248 : Int64)), .second, .val (.long v180), .second, .val (.long (own_h1 v146 v147 v148 v149 v150)), .second, .unset, .unset, .unset, .unset, .unset, .unset, .unset, .unset, .unset, .unset, .unset, .unset, .unset, .unset, .unset, .unset] [])) (fun t k => ?_) ?_
    · refine XS.aload X178.here hx rfl (hb hby at_103) rfl rfl ?_
      refine XS.iconst X178.here hx rfl (hb hby at_105) ?_
      refine X178.laload hx (j := (1 : Int32)) (v := (.long (own_h1 v146 v147 v148 v149 v150))) (Ar179.1) (State.isArrayOf_alike hZ.alike Ar179.2.1) Ar179.2.2 (inb_of (j := (1 : Int32)) S179 ⟨by decide, by decide⟩) (Has.at H179 (inb_of (j := (1 : Int32)) S179 ⟨by decide, by decide⟩) rfl) (g := (mkF m 106 #[.val (.long q0), .second, .val (.long q1), .second, .val (.long q2), .second, .val (.long q3), .second, .val (.long q4), .second, .val (.int p5), .val (.long (4611686018427387903 : Int64)), .second, .val (.long v146), .second, .val (.long v147), .second, .val (.long v148), .second, .val (.long v149), .second, .val (.long v150), .second, .val (.ref b151), .val (.ref b151), .val (.long (2251799813685248 : Int64)), .second, .val (.long v180), .second, .unset, .unset, .unset, .unset, .unset, .unset, .unset, .unset, .unset, .unset, .unset, .unset, .unset, .unset, .unset, .unset, .unset, .unset] [(.int (1 : Int32)), (.ref b151)])) rfl rfl (hb hby at_106) _ ?_
      refine XS.lstore X178.here hx rfl (hb hby at_107) rfl (l' := #[.val (.long q0), .second, .val (.long q1), .second, .val (.long q2), .second, .val (.long q3), .second, .val (.long q4), .second, .val (.int p5), .val (.long (4611686018427387903 : Int64)), .second, .val (.long v146), .second, .val (.long v147), .second, .val (.long v148), .second, .val (.long v149), .second, .val (.long v150), .second, .val (.ref b151), .val (.ref b151), .val (.long (2251799813685248 : Int64)), .second, .val (.long v180), .second, .val (.long (own_h1 v146 v147 v148 v149 v150)), .second, .unset, .unset, .unset, .unset, .unset, .unset, .unset, .unset, .unset, .unset, .unset, .unset, .unset, .unset, .unset, .unset]) rfl ?_
      exact k
    generalize hv_v181 : (own_h1 v146 v147 v148 v149 v150) = v181
    refine Go.st (U' := T178.setTop (mkF m 115 #[.val (.long q0), .second, .val (.long q1), .second, .val (.long q2), .second, .val (.long q3), .second, .val (.long q4), .second, .val (.int p5), .val (.long (4611686018427387903 : Int64)), .second, .val (.long v146), .second, .val (.long v147), .second, .val (.long v148), .second, .val (.long v149), .second, .val (.long v150), .second, .val (.ref b151), .val (.ref b151), .val (.long (2251799813685248 : Int64)), .second, .val (.long v180), .second, .val (.long v181), .second, .val (.long (own_h2 v146 v147 v148 v149 v150)), .second, .unset, .unset, .unset, .unset, .unset, .unset, .unset, .unset, .unset, .unset, .unset, .unset, .unset, .unset] [])) (fun t k => ?_) ?_
    · refine XS.aload X178.here hx rfl (hb hby at_109) rfl rfl ?_
      refine XS.iconst X178.here hx rfl (hb hby at_111) ?_
      refine X178.laload hx (j := (2 : Int32)) (v := (.long (own_h2 v146 v147 v148 v149 v150))) (Ar179.1) (State.isArrayOf_alike hZ.alike Ar179.2.1) Ar179.2.2 (inb_of (j := (2 : Int32)) S179 ⟨by decide, by decide⟩) (Has.at H179 (inb_of (j := (2 : Int32)) S179 ⟨by decide, by decide⟩) rfl) (g := (mkF m 112 #[.val (.long q0), .second, .val (.long q1), .second, .val (.long q2), .second, .val (.long q3), .second, .val (.long q4), .second, .val (.int p5), .val (.long (4611686018427387903 : Int64)), .second, .val (.long v146), .second, .val (.long v147), .second, .val (.long v148), .second, .val (.long v149), .second, .val (.long v150), .second, .val (.ref b151), .val (.ref b151), .val (.long (2251799813685248 : Int64)), .second, .val (.long v180), .second, .val (.long v181), .second, .unset, .unset, .unset, .unset, .unset, .unset, .unset, .unset, .unset, .unset, .unset, .unset, .unset, .unset, .unset, .unset] [(.int (2 : Int32)), (.ref b151)])) rfl rfl (hb hby at_112) _ ?_
      refine XS.lstore X178.here hx rfl (hb hby at_113) rfl (l' := #[.val (.long q0), .second, .val (.long q1), .second, .val (.long q2), .second, .val (.long q3), .second, .val (.long q4), .second, .val (.int p5), .val (.long (4611686018427387903 : Int64)), .second, .val (.long v146), .second, .val (.long v147), .second, .val (.long v148), .second, .val (.long v149), .second, .val (.long v150), .second, .val (.ref b151), .val (.ref b151), .val (.long (2251799813685248 : Int64)), .second, .val (.long v180), .second, .val (.long v181), .second, .val (.long (own_h2 v146 v147 v148 v149 v150)), .second, .unset, .unset, .unset, .unset, .unset, .unset, .unset, .unset, .unset, .unset, .unset, .unset, .unset, .unset]) rfl ?_
      exact k
    generalize hv_v182 : (own_h2 v146 v147 v148 v149 v150) = v182
    refine Go.st (U' := T178.setTop (mkF m 121 #[.val (.long q0), .second, .val (.long q1), .second, .val (.long q2), .second, .val (.long q3), .second, .val (.long q4), .second, .val (.int p5), .val (.long (4611686018427387903 : Int64)), .second, .val (.long v146), .second, .val (.long v147), .second, .val (.long v148), .second, .val (.long v149), .second, .val (.long v150), .second, .val (.ref b151), .val (.ref b151), .val (.long (2251799813685248 : Int64)), .second, .val (.long v180), .second, .val (.long v181), .second, .val (.long v182), .second, .val (.long (own_h3 v146 v147 v148 v149 v150)), .second, .unset, .unset, .unset, .unset, .unset, .unset, .unset, .unset, .unset, .unset, .unset, .unset] [])) (fun t k => ?_) ?_
    · refine XS.aload X178.here hx rfl (hb hby at_115) rfl rfl ?_
      refine XS.iconst X178.here hx rfl (hb hby at_117) ?_
      refine X178.laload hx (j := (3 : Int32)) (v := (.long (own_h3 v146 v147 v148 v149 v150))) (Ar179.1) (State.isArrayOf_alike hZ.alike Ar179.2.1) Ar179.2.2 (inb_of (j := (3 : Int32)) S179 ⟨by decide, by decide⟩) (Has.at H179 (inb_of (j := (3 : Int32)) S179 ⟨by decide, by decide⟩) rfl) (g := (mkF m 118 #[.val (.long q0), .second, .val (.long q1), .second, .val (.long q2), .second, .val (.long q3), .second, .val (.long q4), .second, .val (.int p5), .val (.long (4611686018427387903 : Int64)), .second, .val (.long v146), .second, .val (.long v147), .second, .val (.long v148), .second, .val (.long v149), .second, .val (.long v150), .second, .val (.ref b151), .val (.ref b151), .val (.long (2251799813685248 : Int64)), .second, .val (.long v180), .second, .val (.long v181), .second, .val (.long v182), .second, .unset, .unset, .unset, .unset, .unset, .unset, .unset, .unset, .unset, .unset, .unset, .unset, .unset, .unset] [(.int (3 : Int32)), (.ref b151)])) rfl rfl (hb hby at_118) _ ?_
      refine XS.lstore X178.here hx rfl (hb hby at_119) rfl (l' := #[.val (.long q0), .second, .val (.long q1), .second, .val (.long q2), .second, .val (.long q3), .second, .val (.long q4), .second, .val (.int p5), .val (.long (4611686018427387903 : Int64)), .second, .val (.long v146), .second, .val (.long v147), .second, .val (.long v148), .second, .val (.long v149), .second, .val (.long v150), .second, .val (.ref b151), .val (.ref b151), .val (.long (2251799813685248 : Int64)), .second, .val (.long v180), .second, .val (.long v181), .second, .val (.long v182), .second, .val (.long (own_h3 v146 v147 v148 v149 v150)), .second, .unset, .unset, .unset, .unset, .unset, .unset, .unset, .unset, .unset, .unset, .unset, .unset]) rfl ?_
      exact k
    generalize hv_v183 : (own_h3 v146 v147 v148 v149 v150) = v183
    refine Go.st (U' := T178.setTop (mkF m 127 #[.val (.long q0), .second, .val (.long q1), .second, .val (.long q2), .second, .val (.long q3), .second, .val (.long q4), .second, .val (.int p5), .val (.long (4611686018427387903 : Int64)), .second, .val (.long v146), .second, .val (.long v147), .second, .val (.long v148), .second, .val (.long v149), .second, .val (.long v150), .second, .val (.ref b151), .val (.ref b151), .val (.long (2251799813685248 : Int64)), .second, .val (.long v180), .second, .val (.long v181), .second, .val (.long v182), .second, .val (.long v183), .second, .val (.long (own_h4 v146 v147 v148 v149 v150)), .second, .unset, .unset, .unset, .unset, .unset, .unset, .unset, .unset, .unset, .unset] [])) (fun t k => ?_) ?_
    · refine XS.aload X178.here hx rfl (hb hby at_121) rfl rfl ?_
      refine XS.iconst X178.here hx rfl (hb hby at_123) ?_
      refine X178.laload hx (j := (4 : Int32)) (v := (.long (own_h4 v146 v147 v148 v149 v150))) (Ar179.1) (State.isArrayOf_alike hZ.alike Ar179.2.1) Ar179.2.2 (inb_of (j := (4 : Int32)) S179 ⟨by decide, by decide⟩) (Has.at H179 (inb_of (j := (4 : Int32)) S179 ⟨by decide, by decide⟩) rfl) (g := (mkF m 124 #[.val (.long q0), .second, .val (.long q1), .second, .val (.long q2), .second, .val (.long q3), .second, .val (.long q4), .second, .val (.int p5), .val (.long (4611686018427387903 : Int64)), .second, .val (.long v146), .second, .val (.long v147), .second, .val (.long v148), .second, .val (.long v149), .second, .val (.long v150), .second, .val (.ref b151), .val (.ref b151), .val (.long (2251799813685248 : Int64)), .second, .val (.long v180), .second, .val (.long v181), .second, .val (.long v182), .second, .val (.long v183), .second, .unset, .unset, .unset, .unset, .unset, .unset, .unset, .unset, .unset, .unset, .unset, .unset] [(.int (4 : Int32)), (.ref b151)])) rfl rfl (hb hby at_124) _ ?_
      refine XS.lstore X178.here hx rfl (hb hby at_125) rfl (l' := #[.val (.long q0), .second, .val (.long q1), .second, .val (.long q2), .second, .val (.long q3), .second, .val (.long q4), .second, .val (.int p5), .val (.long (4611686018427387903 : Int64)), .second, .val (.long v146), .second, .val (.long v147), .second, .val (.long v148), .second, .val (.long v149), .second, .val (.long v150), .second, .val (.ref b151), .val (.ref b151), .val (.long (2251799813685248 : Int64)), .second, .val (.long v180), .second, .val (.long v181), .second, .val (.long v182), .second, .val (.long v183), .second, .val (.long (own_h4 v146 v147 v148 v149 v150)), .second, .unset, .unset, .unset, .unset, .unset, .unset, .unset, .unset, .unset, .unset]) rfl ?_
      exact k
    generalize hv_v184 : (own_h4 v146 v147 v148 v149 v150) = v184
    have hB0 := own_bd q0 v146 hv_v146
    have hB0_ := own_bd q0 v146 hv_v146
    have hB1_ := own_bd q1 v147 hv_v147
    have hB2_ := own_bd q2 v148 hv_v148
    have hB3_ := own_bd q3 v149 hv_v149
    have hB4_ := own_bd q4 v150 hv_v150
    have hA := own_a v146 v147 v148 v149 v150 v180 v181 v182 v183 v184 hB0_ hB1_ hB2_ hB3_ hB4_ hv_v180 hv_v181 hv_v182 hv_v183 hv_v184
    refine Go.st (U' := T178.setTop (mkF m 231 #[.val (.long q0), .second, .val (.long q1), .second, .val (.long q2), .second, .val (.long q3), .second, .val (.long q4), .second, .val (.int p5), .val (.long (4611686018427387903 : Int64)), .second, .val (.long v146), .second, .val (.long v147), .second, .val (.long v148), .second, .val (.long v149), .second, .val (.long v150), .second, .val (.ref b151), .val (.ref b151), .val (.long (2251799813685248 : Int64)), .second, .val (.long v180), .second, .val (.long v181), .second, .val (.long v182), .second, .val (.long v183), .second, .val (.long v184), .second, .val (.long ((v146 + (v147 <<< ((51 : Int32) &&& 0x3f).toInt64)) - (v180 + (v181 <<< ((51 : Int32) &&& 0x3f).toInt64)))), .second, .unset, .unset, .unset, .unset, .unset, .unset, .unset, .unset] [])) (fun t k => ?_) ?_
    · refine XS.lload X178.here hx rfl (hb hby at_127) rfl ?_
      refine XS.lconst X178.here hx rfl (hb hby at_129) ?_
      refine XS.lcmp X178.here hx rfl (hb hby at_130) rfl ?_
      refine XS.ifNo X178.here hx rfl (hb hby at_131) rfl ((if0 _ _).trans (flt (fun q => (hA.1 : ¬ (v180 < (0 : Int64))) ((lw_lt _ _).mp q))).1) ?_
      refine XS.lload X178.here hx rfl (hb hby at_134) rfl ?_
      refine XS.lload X178.here hx rfl (hb hby at_136) rfl ?_
      refine XS.lcmp X178.here hx rfl (hb hby at_138) rfl ?_
      refine XS.ifYes X178.here hx rfl (pc0 := 139) (pc' := 144) rfl (hb hby at_139) rfl ((if0 _ _).trans (tlt ((lw_lt _ _).mpr (hA.2.1 : v180 < (2251799813685248 : Int64)))).1) (by decide) (by decide) ?_
      refine XS.lload X178.here hx rfl (hb hby at_144) rfl ?_
      refine XS.lconst X178.here hx rfl (hb hby at_146) ?_
      refine XS.lcmp X178.here hx rfl (hb hby at_147) rfl ?_
      refine XS.ifNo X178.here hx rfl (hb hby at_148) rfl ((if0 _ _).trans (flt (fun q => (hA.2.2.1 : ¬ (v181 < (0 : Int64))) ((lw_lt _ _).mp q))).1) ?_
      refine XS.lload X178.here hx rfl (hb hby at_151) rfl ?_
      refine XS.lload X178.here hx rfl (hb hby at_153) rfl ?_
      refine X178.ldc2Long hx hown (mvT hZ (own_w hw 9 rfl)) (g := (mkF m 155 #[.val (.long q0), .second, .val (.long q1), .second, .val (.long q2), .second, .val (.long q3), .second, .val (.long q4), .second, .val (.int p5), .val (.long (4611686018427387903 : Int64)), .second, .val (.long v146), .second, .val (.long v147), .second, .val (.long v148), .second, .val (.long v149), .second, .val (.long v150), .second, .val (.ref b151), .val (.ref b151), .val (.long (2251799813685248 : Int64)), .second, .val (.long v180), .second, .val (.long v181), .second, .val (.long v182), .second, .val (.long v183), .second, .val (.long v184), .second, .unset, .unset, .unset, .unset, .unset, .unset, .unset, .unset, .unset, .unset] [(.long (2251799813685248 : Int64)), (.long v181)])) rfl (hb hby at_155) _ ?_
      refine XS.ladd X178.here hx rfl (hb hby at_158) rfl ?_
      refine XS.lcmp X178.here hx rfl (hb hby at_159) rfl ?_
      refine XS.ifYes X178.here hx rfl (pc0 := 160) (pc' := 165) rfl (hb hby at_160) rfl ((if0 _ _).trans (tlt ((lw_lt _ _).mpr (hA.2.2.2.1 : v181 < (2251799813693440 : Int64)))).1) (by decide) (by decide) ?_
      refine XS.lload X178.here hx rfl (hb hby at_165) rfl ?_
      refine XS.lconst X178.here hx rfl (hb hby at_167) ?_
      refine XS.lcmp X178.here hx rfl (hb hby at_168) rfl ?_
      refine XS.ifNo X178.here hx rfl (hb hby at_169) rfl ((if0 _ _).trans (flt (fun q => (hA.2.2.2.2.1 : ¬ (v182 < (0 : Int64))) ((lw_lt _ _).mp q))).1) ?_
      refine XS.lload X178.here hx rfl (hb hby at_172) rfl ?_
      refine XS.lload X178.here hx rfl (hb hby at_174) rfl ?_
      refine XS.lcmp X178.here hx rfl (hb hby at_176) rfl ?_
      refine XS.ifNo X178.here hx rfl (hb hby at_177) rfl ((if0 _ _).trans (tlt ((lw_lt _ _).mpr (hA.2.2.2.2.2.1 : v182 < (2251799813685248 : Int64)))).2.1) ?_
      refine XS.lload X178.here hx rfl (hb hby at_180) rfl ?_
      refine XS.lconst X178.here hx rfl (hb hby at_182) ?_
      refine XS.lcmp X178.here hx rfl (hb hby at_183) rfl ?_
      refine XS.ifNo X178.here hx rfl (hb hby at_184) rfl ((if0 _ _).trans (flt (fun q => (hA.2.2.2.2.2.2.1 : ¬ (v183 < (0 : Int64))) ((lw_lt _ _).mp q))).1) ?_
      refine XS.lload X178.here hx rfl (hb hby at_187) rfl ?_
      refine XS.lload X178.here hx rfl (hb hby at_189) rfl ?_
      refine XS.lcmp X178.here hx rfl (hb hby at_191) rfl ?_
      refine XS.ifNo X178.here hx rfl (hb hby at_192) rfl ((if0 _ _).trans (tlt ((lw_lt _ _).mpr (hA.2.2.2.2.2.2.2.1 : v183 < (2251799813685248 : Int64)))).2.1) ?_
      refine XS.lload X178.here hx rfl (hb hby at_195) rfl ?_
      refine XS.lconst X178.here hx rfl (hb hby at_197) ?_
      refine XS.lcmp X178.here hx rfl (hb hby at_198) rfl ?_
      refine XS.ifNo X178.here hx rfl (hb hby at_199) rfl ((if0 _ _).trans (flt (fun q => (hA.2.2.2.2.2.2.2.2.1 : ¬ (v184 < (0 : Int64))) ((lw_lt _ _).mp q))).1) ?_
      refine XS.lload X178.here hx rfl (hb hby at_202) rfl ?_
      refine XS.lload X178.here hx rfl (hb hby at_204) rfl ?_
      refine XS.lcmp X178.here hx rfl (hb hby at_206) rfl ?_
      refine XS.ifYes X178.here hx rfl (pc0 := 207) (pc' := 212) rfl (hb hby at_207) rfl ((if0 _ _).trans (tlt ((lw_lt _ _).mpr (hA.2.2.2.2.2.2.2.2.2 : v184 < (2251799813685248 : Int64)))).1) (by decide) (by decide) ?_
      refine XS.lload X178.here hx rfl (hb hby at_212) rfl ?_
      refine XS.lload X178.here hx rfl (hb hby at_214) rfl ?_
      refine XS.bipush X178.here hx rfl (hb hby at_216) ?_
      refine XS.lshl X178.here hx rfl (hb hby at_218) rfl ?_
      refine XS.ladd X178.here hx rfl (hb hby at_219) rfl ?_
      refine XS.lload X178.here hx rfl (hb hby at_220) rfl ?_
      refine XS.lload X178.here hx rfl (hb hby at_222) rfl ?_
      refine XS.bipush X178.here hx rfl (hb hby at_224) ?_
      refine XS.lshl X178.here hx rfl (hb hby at_226) rfl ?_
      refine XS.ladd X178.here hx rfl (hb hby at_227) rfl ?_
      refine XS.lsub X178.here hx rfl (hb hby at_228) rfl ?_
      refine XS.lstore X178.here hx rfl (hb hby at_229) rfl (l' := #[.val (.long q0), .second, .val (.long q1), .second, .val (.long q2), .second, .val (.long q3), .second, .val (.long q4), .second, .val (.int p5), .val (.long (4611686018427387903 : Int64)), .second, .val (.long v146), .second, .val (.long v147), .second, .val (.long v148), .second, .val (.long v149), .second, .val (.long v150), .second, .val (.ref b151), .val (.ref b151), .val (.long (2251799813685248 : Int64)), .second, .val (.long v180), .second, .val (.long v181), .second, .val (.long v182), .second, .val (.long v183), .second, .val (.long v184), .second, .val (.long ((v146 + (v147 <<< ((51 : Int32) &&& 0x3f).toInt64)) - (v180 + (v181 <<< ((51 : Int32) &&& 0x3f).toInt64)))), .second, .unset, .unset, .unset, .unset, .unset, .unset, .unset, .unset]) rfl ?_
      exact k
    generalize hv_v185 : ((v146 + (v147 <<< ((51 : Int32) &&& 0x3f).toInt64)) - (v180 + (v181 <<< ((51 : Int32) &&& 0x3f).toInt64))) = v185
    refine Go.st (U' := T178.setTop (mkF m 236 #[.val (.long q0), .second, .val (.long q1), .second, .val (.long q2), .second, .val (.long q3), .second, .val (.long q4), .second, .val (.int p5), .val (.long (4611686018427387903 : Int64)), .second, .val (.long v146), .second, .val (.long v147), .second, .val (.long v148), .second, .val (.long v149), .second, .val (.long v150), .second, .val (.ref b151), .val (.ref b151), .val (.long (2251799813685248 : Int64)), .second, .val (.long v180), .second, .val (.long v181), .second, .val (.long v182), .second, .val (.long v183), .second, .val (.long v184), .second, .val (.long v185), .second, .val (.long (-v185)), .second, .unset, .unset, .unset, .unset, .unset, .unset] [])) (fun t k => ?_) ?_
    · refine XS.lload X178.here hx rfl (hb hby at_231) rfl ?_
      refine XS.lneg X178.here hx rfl (hb hby at_233) rfl ?_
      refine XS.lstore X178.here hx rfl (hb hby at_234) rfl (l' := #[.val (.long q0), .second, .val (.long q1), .second, .val (.long q2), .second, .val (.long q3), .second, .val (.long q4), .second, .val (.int p5), .val (.long (4611686018427387903 : Int64)), .second, .val (.long v146), .second, .val (.long v147), .second, .val (.long v148), .second, .val (.long v149), .second, .val (.long v150), .second, .val (.ref b151), .val (.ref b151), .val (.long (2251799813685248 : Int64)), .second, .val (.long v180), .second, .val (.long v181), .second, .val (.long v182), .second, .val (.long v183), .second, .val (.long v184), .second, .val (.long v185), .second, .val (.long (-v185)), .second, .unset, .unset, .unset, .unset, .unset, .unset]) rfl ?_
      exact k
    generalize hv_v186 : (-v185) = v186
    have hE := own_e v146 v147 v148 v149 v150 v180 v181 v182 v183 v184 v185 v186 hB0_ hB1_ hB2_ hB3_ hB4_ hv_v180 hv_v181 hv_v182 hv_v183 hv_v184 hv_v185 hv_v186
    refine Go.st (U' := T178.setTop (mkF m 273 #[.val (.long q0), .second, .val (.long q1), .second, .val (.long q2), .second, .val (.long q3), .second, .val (.long q4), .second, .val (.int p5), .val (.long (4611686018427387903 : Int64)), .second, .val (.long v146), .second, .val (.long v147), .second, .val (.long v148), .second, .val (.long v149), .second, .val (.long v150), .second, .val (.ref b151), .val (.ref b151), .val (.long (2251799813685248 : Int64)), .second, .val (.long v180), .second, .val (.long v181), .second, .val (.long v182), .second, .val (.long v183), .second, .val (.long v184), .second, .val (.long v185), .second, .val (.long v186), .second, .val (.long (v186 / (19 : Int64))), .second, .unset, .unset, .unset, .unset] [])) (fun t k => ?_) ?_
    · refine XS.lload X178.here hx rfl (hb hby at_236) rfl ?_
      refine XS.lconst X178.here hx rfl (hb hby at_238) ?_
      refine XS.lcmp X178.here hx rfl (hb hby at_239) rfl ?_
      refine XS.ifNo X178.here hx rfl (hb hby at_240) rfl ((if0 _ _).trans (flt (fun q => (hE.1 : ¬ (v186 < (0 : Int64))) ((lw_lt _ _).mp q))).1) ?_
      refine XS.lload X178.here hx rfl (hb hby at_243) rfl ?_
      refine X178.ldc2Long hx hown (mvT hZ (own_w hw 10 rfl)) (g := (mkF m 245 #[.val (.long q0), .second, .val (.long q1), .second, .val (.long q2), .second, .val (.long q3), .second, .val (.long q4), .second, .val (.int p5), .val (.long (4611686018427387903 : Int64)), .second, .val (.long v146), .second, .val (.long v147), .second, .val (.long v148), .second, .val (.long v149), .second, .val (.long v150), .second, .val (.ref b151), .val (.ref b151), .val (.long (2251799813685248 : Int64)), .second, .val (.long v180), .second, .val (.long v181), .second, .val (.long v182), .second, .val (.long v183), .second, .val (.long v184), .second, .val (.long v185), .second, .val (.long v186), .second, .unset, .unset, .unset, .unset, .unset, .unset] [(.long v186)])) rfl (hb hby at_245) _ ?_
      refine XS.lcmp X178.here hx rfl (hb hby at_248) rfl ?_
      refine XS.ifNo X178.here hx rfl (hb hby at_249) rfl ((if0 _ _).trans (tlt ((lw_lt _ _).mpr (hE.2.1 : v186 < (77824 : Int64)))).2.1) ?_
      refine XS.lload X178.here hx rfl (hb hby at_252) rfl ?_
      refine X178.ldc2Long hx hown (mvT hZ (own_w hw 11 rfl)) (g := (mkF m 254 #[.val (.long q0), .second, .val (.long q1), .second, .val (.long q2), .second, .val (.long q3), .second, .val (.long q4), .second, .val (.int p5), .val (.long (4611686018427387903 : Int64)), .second, .val (.long v146), .second, .val (.long v147), .second, .val (.long v148), .second, .val (.long v149), .second, .val (.long v150), .second, .val (.ref b151), .val (.ref b151), .val (.long (2251799813685248 : Int64)), .second, .val (.long v180), .second, .val (.long v181), .second, .val (.long v182), .second, .val (.long v183), .second, .val (.long v184), .second, .val (.long v185), .second, .val (.long v186), .second, .unset, .unset, .unset, .unset, .unset, .unset] [(.long v186)])) rfl (hb hby at_254) _ ?_
      refine XS.lrem X178.here hx rfl (hb hby at_257) rfl (by decide) ?_
      refine XS.lconst X178.here hx rfl (hb hby at_258) ?_
      refine XS.lcmp X178.here hx rfl (hb hby at_259) rfl ?_
      refine XS.ifYes X178.here hx rfl (pc0 := 260) (pc' := 265) rfl (hb hby at_260) rfl ((if0 _ _).trans (teq ((lw_eq _ _).mpr (hE.2.2 : (v186 - (v186 / (19 : Int64)) * (19 : Int64)) = (0 : Int64)))).1) (by decide) (by decide) ?_
      refine XS.lload X178.here hx rfl (hb hby at_265) rfl ?_
      refine X178.ldc2Long hx hown (mvT hZ (own_w hw 11 rfl)) (g := (mkF m 267 #[.val (.long q0), .second, .val (.long q1), .second, .val (.long q2), .second, .val (.long q3), .second, .val (.long q4), .second, .val (.int p5), .val (.long (4611686018427387903 : Int64)), .second, .val (.long v146), .second, .val (.long v147), .second, .val (.long v148), .second, .val (.long v149), .second, .val (.long v150), .second, .val (.ref b151), .val (.ref b151), .val (.long (2251799813685248 : Int64)), .second, .val (.long v180), .second, .val (.long v181), .second, .val (.long v182), .second, .val (.long v183), .second, .val (.long v184), .second, .val (.long v185), .second, .val (.long v186), .second, .unset, .unset, .unset, .unset, .unset, .unset] [(.long v186)])) rfl (hb hby at_267) _ ?_
      refine XS.ldiv X178.here hx rfl (hb hby at_270) rfl (by decide) ?_
      refine XS.lstore X178.here hx rfl (hb hby at_271) rfl (l' := #[.val (.long q0), .second, .val (.long q1), .second, .val (.long q2), .second, .val (.long q3), .second, .val (.long q4), .second, .val (.int p5), .val (.long (4611686018427387903 : Int64)), .second, .val (.long v146), .second, .val (.long v147), .second, .val (.long v148), .second, .val (.long v149), .second, .val (.long v150), .second, .val (.ref b151), .val (.ref b151), .val (.long (2251799813685248 : Int64)), .second, .val (.long v180), .second, .val (.long v181), .second, .val (.long v182), .second, .val (.long v183), .second, .val (.long v184), .second, .val (.long v185), .second, .val (.long v186), .second, .val (.long (v186 / (19 : Int64))), .second, .unset, .unset, .unset, .unset]) rfl ?_
      exact k
    generalize hv_v187 : (v186 / (19 : Int64)) = v187
    refine Go.st (U' := T178.setTop (mkF m 283 #[.val (.long q0), .second, .val (.long q1), .second, .val (.long q2), .second, .val (.long q3), .second, .val (.long q4), .second, .val (.int p5), .val (.long (4611686018427387903 : Int64)), .second, .val (.long v146), .second, .val (.long v147), .second, .val (.long v148), .second, .val (.long v149), .second, .val (.long v150), .second, .val (.ref b151), .val (.ref b151), .val (.long (2251799813685248 : Int64)), .second, .val (.long v180), .second, .val (.long v181), .second, .val (.long v182), .second, .val (.long v183), .second, .val (.long v184), .second, .val (.long v185), .second, .val (.long v186), .second, .val (.long v187), .second, .unset, .unset, .unset, .unset] [(.long v150), (.long v149), (.long v148), (.long v147), (.long v146)])) (fun t k => ?_) ?_
    · refine XS.lload X178.here hx rfl (hb hby at_273) rfl ?_
      refine XS.lload X178.here hx rfl (hb hby at_275) rfl ?_
      refine XS.lload X178.here hx rfl (hb hby at_277) rfl ?_
      refine XS.lload X178.here hx rfl (hb hby at_279) rfl ?_
      refine XS.lload X178.here hx rfl (hb hby at_281) rfl ?_
      exact k
    obtain ⟨_, _, ⟨T188, L188, k188, n188⟩, -, X188, ⟨Lc188, hQ188, l188, y188, z188⟩, st188⟩ := Jvm.LawKit.callS X178 hx (y := own_y1) hown (mvT hZ (own_w hw 12 rfl)) (mvT hZ (own_w hw 13 rfl)) (mvT hZ (own_w hw 14 rfl)) (mvT hZ (own_w hw 15 rfl)) (by decide) (backOf (W := 0) (rm3 l Z a0 hw [] v146 v147 v148 v149 v150 T178.heap n0 sz178 ) hZ (own_w hw 15 rfl) (own_w hw 14 rfl) (by decide) (by decide)) (g := (mkF m 283 #[.val (.long q0), .second, .val (.long q1), .second, .val (.long q2), .second, .val (.long q3), .second, .val (.long q4), .second, .val (.int p5), .val (.long (4611686018427387903 : Int64)), .second, .val (.long v146), .second, .val (.long v147), .second, .val (.long v148), .second, .val (.long v149), .second, .val (.long v150), .second, .val (.ref b151), .val (.ref b151), .val (.long (2251799813685248 : Int64)), .second, .val (.long v180), .second, .val (.long v181), .second, .val (.long v182), .second, .val (.long v183), .second, .val (.long v184), .second, .val (.long v185), .second, .val (.long v186), .second, .val (.long v187), .second, .unset, .unset, .unset, .unset] [(.long v150), (.long v149), (.long v148), (.long v147), (.long v146)])) rfl (by rw [hml]; rfl) (argsL := [(.long v146), (.long v147), (.long v148), (.long v149), (.long v150)]) (rest := []) (lenOf pd_1 rfl) rfl (by show 2 * 0 + _ ≤ _; exact Nat.le_of_eq rfl) (hb hby at_283) (fun _ _ => ⟨rfl, rfl, (by decide : 1 + 0 ≤ _), (by decide : 5 + 0 ≤ _)⟩)
    dsimp only [Pt.U, Pt.locs, Pt.cells, Pt.slots] at X188 l188 y188 z188 st188 hQ188
    subst l188 y188 z188
    obtain ⟨rfl, N188q, e188⟩ := hQ188
    have N188 := Fr.app N178 N188q
    refine Go.st (U' := T188.setTop (mkF m 286 #[.val (.long q0), .second, .val (.long q1), .second, .val (.long q2), .second, .val (.long q3), .second, .val (.long q4), .second, .val (.int p5), .val (.long (4611686018427387903 : Int64)), .second, .val (.long v146), .second, .val (.long v147), .second, .val (.long v148), .second, .val (.long v149), .second, .val (.long v150), .second, .val (.ref b151), .val (.ref b151), .val (.long (2251799813685248 : Int64)), .second, .val (.long v180), .second, .val (.long v181), .second, .val (.long v182), .second, .val (.long v183), .second, .val (.long v184), .second, .val (.long v185), .second, .val (.long v186), .second, .val (.long v187), .second, .unset, .unset, .unset, .unset] [(.long (fM v146 v147 v148 v149 v150))])) (fun t k => st188 _ k) ?_
    refine Go.st (U' := T188.setTop (mkF m 288 #[.val (.long q0), .second, .val (.long q1), .second, .val (.long q2), .second, .val (.long q3), .second, .val (.long q4), .second, .val (.int p5), .val (.long (4611686018427387903 : Int64)), .second, .val (.long v146), .second, .val (.long v147), .second, .val (.long v148), .second, .val (.long v149), .second, .val (.long v150), .second, .val (.ref b151), .val (.ref b151), .val (.long (2251799813685248 : Int64)), .second, .val (.long v180), .second, .val (.long v181), .second, .val (.long v182), .second, .val (.long v183), .second, .val (.long v184), .second, .val (.long v185), .second, .val (.long v186), .second, .val (.long v187), .second, .val (.long (fM v146 v147 v148 v149 v150)), .second, .unset, .unset] [])) (fun t k => ?_) ?_
    · refine XS.lstore X188.here hx rfl (hb hby at_286) rfl (l' := #[.val (.long q0), .second, .val (.long q1), .second, .val (.long q2), .second, .val (.long q3), .second, .val (.long q4), .second, .val (.int p5), .val (.long (4611686018427387903 : Int64)), .second, .val (.long v146), .second, .val (.long v147), .second, .val (.long v148), .second, .val (.long v149), .second, .val (.long v150), .second, .val (.ref b151), .val (.ref b151), .val (.long (2251799813685248 : Int64)), .second, .val (.long v180), .second, .val (.long v181), .second, .val (.long v182), .second, .val (.long v183), .second, .val (.long v184), .second, .val (.long v185), .second, .val (.long v186), .second, .val (.long v187), .second, .val (.long (fM v146 v147 v148 v149 v150)), .second, .unset, .unset]) rfl ?_
      exact k
    generalize hv_v189 : (fM v146 v147 v148 v149 v150) = v189
    refine Go.st (U' := T188.setTop (mkF m 298 #[.val (.long q0), .second, .val (.long q1), .second, .val (.long q2), .second, .val (.long q3), .second, .val (.long q4), .second, .val (.int p5), .val (.long (4611686018427387903 : Int64)), .second, .val (.long v146), .second, .val (.long v147), .second, .val (.long v148), .second, .val (.long v149), .second, .val (.long v150), .second, .val (.ref b151), .val (.ref b151), .val (.long (2251799813685248 : Int64)), .second, .val (.long v180), .second, .val (.long v181), .second, .val (.long v182), .second, .val (.long v183), .second, .val (.long v184), .second, .val (.long v185), .second, .val (.long v186), .second, .val (.long v187), .second, .val (.long v189), .second, .unset, .unset] [(.long v184), (.long v183), (.long v182), (.long v181), (.long v180)])) (fun t k => ?_) ?_
    · refine XS.lload X188.here hx rfl (hb hby at_288) rfl ?_
      refine XS.lload X188.here hx rfl (hb hby at_290) rfl ?_
      refine XS.lload X188.here hx rfl (hb hby at_292) rfl ?_
      refine XS.lload X188.here hx rfl (hb hby at_294) rfl ?_
      refine XS.lload X188.here hx rfl (hb hby at_296) rfl ?_
      exact k
    obtain ⟨_, _, ⟨T190, L190, k190, n190⟩, -, X190, ⟨Lc190, hQ190, l190, y190, z190⟩, st190⟩ := Jvm.LawKit.callS X188 hx (y := own_y1) hown (mvT hZ (own_w hw 12 rfl)) (mvT hZ (own_w hw 13 rfl)) (mvT hZ (own_w hw 14 rfl)) (mvT hZ (own_w hw 15 rfl)) (by decide) (backOf (W := 0) (rm3 l Z a0 hw [] v180 v181 v182 v183 v184 T178.heap n0 sz178 ) hZ (own_w hw 15 rfl) (own_w hw 14 rfl) (by decide) (by decide)) (g := (mkF m 298 #[.val (.long q0), .second, .val (.long q1), .second, .val (.long q2), .second, .val (.long q3), .second, .val (.long q4), .second, .val (.int p5), .val (.long (4611686018427387903 : Int64)), .second, .val (.long v146), .second, .val (.long v147), .second, .val (.long v148), .second, .val (.long v149), .second, .val (.long v150), .second, .val (.ref b151), .val (.ref b151), .val (.long (2251799813685248 : Int64)), .second, .val (.long v180), .second, .val (.long v181), .second, .val (.long v182), .second, .val (.long v183), .second, .val (.long v184), .second, .val (.long v185), .second, .val (.long v186), .second, .val (.long v187), .second, .val (.long v189), .second, .unset, .unset] [(.long v184), (.long v183), (.long v182), (.long v181), (.long v180)])) rfl (by rw [hml]; rfl) (argsL := [(.long v180), (.long v181), (.long v182), (.long v183), (.long v184)]) (rest := []) (lenOf pd_1 rfl) rfl (by show 2 * 0 + _ ≤ _; exact Nat.le_of_eq rfl) (hb hby at_298) (fun _ _ => ⟨rfl, e188, (by decide : 1 + 0 ≤ _), (by decide : 5 + 0 ≤ _)⟩)
    dsimp only [Pt.U, Pt.locs, Pt.cells, Pt.slots] at X190 l190 y190 z190 st190 hQ190
    subst l190 y190 z190
    obtain ⟨rfl, N190q, e190⟩ := hQ190
    have N190 := Fr.app N188 N190q
    refine Go.st (U' := T190.setTop (mkF m 301 #[.val (.long q0), .second, .val (.long q1), .second, .val (.long q2), .second, .val (.long q3), .second, .val (.long q4), .second, .val (.int p5), .val (.long (4611686018427387903 : Int64)), .second, .val (.long v146), .second, .val (.long v147), .second, .val (.long v148), .second, .val (.long v149), .second, .val (.long v150), .second, .val (.ref b151), .val (.ref b151), .val (.long (2251799813685248 : Int64)), .second, .val (.long v180), .second, .val (.long v181), .second, .val (.long v182), .second, .val (.long v183), .second, .val (.long v184), .second, .val (.long v185), .second, .val (.long v186), .second, .val (.long v187), .second, .val (.long v189), .second, .unset, .unset] [(.long (fM v180 v181 v182 v183 v184))])) (fun t k => st190 _ k) ?_
    refine Go.st (U' := T190.setTop (mkF m 303 #[.val (.long q0), .second, .val (.long q1), .second, .val (.long q2), .second, .val (.long q3), .second, .val (.long q4), .second, .val (.int p5), .val (.long (4611686018427387903 : Int64)), .second, .val (.long v146), .second, .val (.long v147), .second, .val (.long v148), .second, .val (.long v149), .second, .val (.long v150), .second, .val (.ref b151), .val (.ref b151), .val (.long (2251799813685248 : Int64)), .second, .val (.long v180), .second, .val (.long v181), .second, .val (.long v182), .second, .val (.long v183), .second, .val (.long v184), .second, .val (.long v185), .second, .val (.long v186), .second, .val (.long v187), .second, .val (.long v189), .second, .val (.long (fM v180 v181 v182 v183 v184)), .second] [])) (fun t k => ?_) ?_
    · refine XS.lstore X190.here hx rfl (hb hby at_301) rfl (l' := #[.val (.long q0), .second, .val (.long q1), .second, .val (.long q2), .second, .val (.long q3), .second, .val (.long q4), .second, .val (.int p5), .val (.long (4611686018427387903 : Int64)), .second, .val (.long v146), .second, .val (.long v147), .second, .val (.long v148), .second, .val (.long v149), .second, .val (.long v150), .second, .val (.ref b151), .val (.ref b151), .val (.long (2251799813685248 : Int64)), .second, .val (.long v180), .second, .val (.long v181), .second, .val (.long v182), .second, .val (.long v183), .second, .val (.long v184), .second, .val (.long v185), .second, .val (.long v186), .second, .val (.long v187), .second, .val (.long v189), .second, .val (.long (fM v180 v181 v182 v183 v184)), .second]) rfl ?_
      exact k
    generalize hv_v191 : (fM v180 v181 v182 v183 v184) = v191
    have hF := own_f v146 v147 v148 v149 v150 v180 v181 v182 v183 v184 v185 v186 v187 v189 v191 hB0_ hB1_ hB2_ hB3_ hB4_ hv_v180 hv_v181 hv_v182 hv_v183 hv_v184 hv_v185 hv_v186 hv_v187 hv_v189 hv_v191
    refine Go.st (U' := T190.setTop (mkF m 327 #[.val (.long q0), .second, .val (.long q1), .second, .val (.long q2), .second, .val (.long q3), .second, .val (.long q4), .second, .val (.int p5), .val (.long (4611686018427387903 : Int64)), .second, .val (.long v146), .second, .val (.long v147), .second, .val (.long v148), .second, .val (.long v149), .second, .val (.long v150), .second, .val (.ref b151), .val (.ref b151), .val (.long (2251799813685248 : Int64)), .second, .val (.long v180), .second, .val (.long v181), .second, .val (.long v182), .second, .val (.long v183), .second, .val (.long v184), .second, .val (.long v185), .second, .val (.long v186), .second, .val (.long v187), .second, .val (.long v189), .second, .val (.long v191), .second] [(.int (1 : Int32))])) (fun t k => ?_) ?_
    · refine XS.lload X190.here hx rfl (hb hby at_303) rfl ?_
      refine XS.lload X190.here hx rfl (hb hby at_305) rfl ?_
      refine X190.ldc2Long hx hown (mvT hZ (own_w hw 21 rfl)) (g := (mkF m 307 #[.val (.long q0), .second, .val (.long q1), .second, .val (.long q2), .second, .val (.long q3), .second, .val (.long q4), .second, .val (.int p5), .val (.long (4611686018427387903 : Int64)), .second, .val (.long v146), .second, .val (.long v147), .second, .val (.long v148), .second, .val (.long v149), .second, .val (.long v150), .second, .val (.ref b151), .val (.ref b151), .val (.long (2251799813685248 : Int64)), .second, .val (.long v180), .second, .val (.long v181), .second, .val (.long v182), .second, .val (.long v183), .second, .val (.long v184), .second, .val (.long v185), .second, .val (.long v186), .second, .val (.long v187), .second, .val (.long v189), .second, .val (.long v191), .second] [(.long v187), (.long v191)])) rfl (hb hby at_307) _ ?_
      refine XS.lmul X190.here hx rfl (hb hby at_310) rfl ?_
      refine XS.ladd X190.here hx rfl (hb hby at_311) rfl ?_
      refine X190.ldc2Long hx hown (mvT hZ (own_w hw 16 rfl)) (g := (mkF m 312 #[.val (.long q0), .second, .val (.long q1), .second, .val (.long q2), .second, .val (.long q3), .second, .val (.long q4), .second, .val (.int p5), .val (.long (4611686018427387903 : Int64)), .second, .val (.long v146), .second, .val (.long v147), .second, .val (.long v148), .second, .val (.long v149), .second, .val (.long v150), .second, .val (.ref b151), .val (.ref b151), .val (.long (2251799813685248 : Int64)), .second, .val (.long v180), .second, .val (.long v181), .second, .val (.long v182), .second, .val (.long v183), .second, .val (.long v184), .second, .val (.long v185), .second, .val (.long v186), .second, .val (.long v187), .second, .val (.long v189), .second, .val (.long v191), .second] [(.long (v191 + (v187 * (109 : Int64))))])) rfl (hb hby at_312) _ ?_
      refine XS.lrem X190.here hx rfl (hb hby at_315) rfl (by decide) ?_
      refine XS.lload X190.here hx rfl (hb hby at_316) rfl ?_
      refine XS.lcmp X190.here hx rfl (hb hby at_318) rfl ?_
      refine XS.ifNo X190.here hx rfl (hb hby at_319) rfl ((if0 _ _).trans (teq ((lw_eq _ _).mpr (hF : ((v191 + (v187 * (109 : Int64))) - ((v191 + (v187 * (109 : Int64))) / (2147483647 : Int64)) * (2147483647 : Int64)) = v189))).2) ?_
      refine XS.iconst X190.here hx rfl (hb hby at_322) ?_
      refine XS.goto X190.here hx rfl (pc0 := 323) (pc' := 327) rfl (hb hby at_323) (by decide) (by decide) ?_
      exact k
    refine own_ret (Q := Q0 Z q0 q1 q2 q3 q4 p5 h0 n0) (v := some (.int (1 : Int32))) X190 hlk (fun h => by rw [hrt] at h; cases h) (by decide) (by decide) ?_ (fun fs hr => retN X190 hx (t := .boolean) hrt (by simp) (hb hby at_327) hr)
    rw [e190]
    exact ⟨rfl, N190⟩
set_option maxRecDepth 65536 in
set_option maxHeartbeats 40000000 in
theorem comes_1 {Post : Tables → Env → Array Value → State → Outcome → State → Prop} (hpost : ∀ tb e args s v u, (limb_1_1.after args s (.returned v) u = true ∧ limb_1_2.after args s (.returned v) u = true ∧ True) → FrameEnd s (.returned v) u (Jvm.fieldLocs frame_1_writes args s ++ Jvm.arrayLocs frame_1_arrays args s ++ Jvm.staticLocs frame_1_statics s) 16 128 → Post tb e args s (.returned v) u) :
    ArmFor flags0 classFile x code maxLocals ret World_1 tables_1 room_1 Calls_1 rest_1 Pre_1 Post := by
  intro l hfl _ _ p e ha hc hk s m args below hf hA hF happ hP
  obtain ⟨hcalls, hrest, hpre⟩ := hP
  obtain ⟨-, -, -, hnamed, -, -, -, hat⟩ := (Spec.applies_iff hf).mp happ
  obtain ⟨hg, hn⟩ := and_e (Cond.before_iff.mp (show (Jvm.Cond.and given_1 narrow_1).before args s = true from hpre))
  obtain ⟨gg1, gg2⟩ := and_e hg
  obtain ⟨gg3, gg4⟩ := and_e gg2
  obtain ⟨gg5, gg6⟩ := and_e gg4
  obtain ⟨gg7, gg8⟩ := and_e gg6
  obtain ⟨gg9, gg10⟩ := and_e gg8
  obtain ⟨gg11, gg12⟩ := and_e gg10
  obtain ⟨w0, w1, w2, w3, w4, w5, rfl⟩ : ∃ w0 w1 w2 w3 w4 w5 : Value, args = #[w0, w1, w2, w3, w4, w5] := by
    have hs : args.size = 6 := by simpa [Cond.value, given_1] using gg1
    obtain ⟨L⟩ := args
    match L, hs with
    | [w0, w1, w2, w3, w4, w5], _ => exact ⟨w0, w1, w2, w3, w4, w5, rfl⟩
  have hw := fun d (hd : d ∈ tables_1) => atoms_spec (ws := Jvm.Cond.code x code maxLocals ret :: tables_1) hat d (List.mem_cons_of_mem _ hd)
  obtain ⟨i0, ei0⟩ := isL_v gg3
  obtain rfl : w0 = (.long i0) := Option.some.inj ei0
  obtain ⟨i1, ei1⟩ := isL_v gg5
  obtain rfl : w1 = (.long i1) := Option.some.inj ei1
  obtain ⟨i2, ei2⟩ := isL_v gg7
  obtain rfl : w2 = (.long i2) := Option.some.inj ei2
  obtain ⟨i3, ei3⟩ := isL_v gg9
  obtain rfl : w3 = (.long i3) := Option.some.inj ei3
  obtain ⟨i4, ei4⟩ := isL_v gg11
  obtain rfl : w4 = (.long i4) := Option.some.inj ei4
  obtain ⟨i5, ei5⟩ := is_v gg12
  obtain rfl : w5 = (.int i5) := Option.some.inj ei5
  obtain ⟨n, o, h1, h2, h3, _, L, rfl, ⟨rfl, N⟩, hq⟩ := rm0 l s _ hw tables_1 i0 i1 i2 i3 i4 i5 s.heap s.heap.size (Nat.le_refl _)  p e ha hc hk s m _ below hf ((Spec.applies_iff_loose hf).mp happ).1 ⟨rfl, State.Warmed39.refl s, rfl⟩ trivial
  refine ⟨n, _, h1, h2, h3, hpost _ _ _ _ _ _ ⟨Cond.after_iff.mpr rfl, Cond.after_iff.mpr (eq_i res_at (Term.int_eval (1)) rfl), trivial⟩ ⟨hq.1, hq.2.1, (hq.2.2.sift fun y hy => Or.inr (N y hy)).mono (by decide) (by decide)⟩⟩
theorem main_1_1 : Claimed_1_1 := comes_1 fun _ _ _ _ _ _ h hF => ⟨h.1, hF⟩
theorem main_1_2 : Claimed_1_2 := comes_1 fun _ _ _ _ _ _ h hF => ⟨h.2.1, hF⟩
end Jvm.Pilot.@@N@@
namespace Jvm.Pilot.@@N@@
open Jvm Jvm.ClassFile Sem Op Lib Jvm.Free Jvm.Stand Jvm.Pilot.@@N@@.Jvm.D
/-! MADE BY PROGRAM (witnessworld.py) out of the Statement's table words and the real class files: 11 classes; the members and pool entries that the words name. The judged class is class 1, her method 2. -/
namespace start1
open Jvm.ClassFile
def u (s : String) : CpInfo := .utf8 (stringToUtf16 s)
/-- a pool by its gaps: so many unusable entries, then the entry; so many at the end -/
def gap : Nat → List CpInfo → List CpInfo
  | 0, r => r
  | n + 1, r => .unusable :: gap n r
def poolList (es : List (Nat × CpInfo)) (last : Nat) : List CpInfo := es.foldr (fun e r => gap e.1 (e.2 :: r)) (gap last [])
def pool (es : List (Nat × CpInfo)) (last : Nat) : Array CpInfo := ⟨poolList es last⟩
def fileOf (pool : Array CpInfo) (this : Nat) (attrs : Array Attribute := #[]) (ms : Array MethodInfo := #[]) (fl : Nat := 33) (sup : Nat := 0) (ifs : Array Nat := #[]) (fds : Array FieldInfo := #[]) : ClassFile where
  minorVersion := 0
  majorVersion := 65
  constantPool := pool
  accessFlags := fl
  thisClass := this
  superClass := sup
  interfaces := ifs
  fields := fds
  methods := ms
  attributes := attrs
def plain (name : String) (sup : Option ClassId) : Class where
  name := name
  kind := .ordinary
  loader := none
  accessFlags := 33
  super := sup
  interfaces := #[]
  cf := none
  fields := #[]
  methods := #[]
  instanceTypes := #[]
  staticTypes := #[]
  resolved := #[]
  callSites := []
  init := .initialized
  statics := none
  mirror := none

def pool0 : Array CpInfo := pool [(5, u "<init>"), (0, u "()V"), (1, .class_ 10), (1, u "java/lang/Object")] 113

def k0m0 : Method := { name := "<init>", desc := "()V", sig := { parameters := [], returnType := none }, accessFlags := 1, code := none }
/-- java/lang/Object -/
def k0 : Class := { plain "java/lang/Object" none with
  accessFlags := 33
  interfaces := #[]
  cf := some (fileOf pool0 8 #[] #[{ accessFlags := 1, nameIndex := 5, descriptorIndex := 6, attributes := #[] }] 33 0 #[] #[])
  fields := #[]
  methods := #[k0m0]
  instanceTypes := #[]
  staticTypes := #[]
  resolved := Array.replicate 124 none
  statics := none }

def pool1 : Array CpInfo := pool [(2, .class_ 4), (1, u "java/lang/Object"), (0, u "<init>"), (0, u "()V"), (0, .long 2147483647), (1, .long 1048576), (1, .long 512), (1, .long 536870912), (1, .long 262144), (1, .long 4611686018427387903), (1, .methodref 20 21), (0, .class_ 22), (0, .nameAndType 23 24), (0, u "com/example/hopwright/hopwright/crypto/Field25519"), (0, u "carry"), (0, u "([J[J)V"), (0, .long 2251799813685248), (1, .long 8192), (1, .long 77824), (1, .long 19), (1, .methodref 34 35), (0, .class_ 36), (0, .nameAndType 37 38), (0, u "com/example/hopwright/hopwright/crypto/Field25519CarryPinLaw"), (0, u "modM"), (0, u "(JJJJJ)J"), (0, .long 109), (3, u "law"), (0, u "(JJJJJI)Z")] 5

def k1m0 : Method := { name := "<init>", desc := "()V", sig := { parameters := [], returnType := none }, accessFlags := 2, code := none }
def k1c1 : Code := { maxStack := 4, maxLocals := 22, code := method_2_code, exceptionTable := #[], attributes := #[] }
def k1m1 : Method := { name := "modM", desc := "(JJJJJ)J", sig := { parameters := [.long, .long, .long, .long, .long], returnType := some .long }, accessFlags := 10, code := some k1c1 }
def k1c2 : Code := { maxStack := 10, maxLocals := 47, code := code, exceptionTable := #[], attributes := #[] }
def k1m2 : Method := { name := "law", desc := "(JJJJJI)Z", sig := { parameters := [.long, .long, .long, .long, .long, .int], returnType := some .boolean }, accessFlags := 9, code := some k1c2 }
/-- com/example/hopwright/hopwright/crypto/Field25519CarryPinLaw -/
def k1 : Class := { plain "com/example/hopwright/hopwright/crypto/Field25519CarryPinLaw" (some 0) with
  accessFlags := 49
  interfaces := #[]
  cf := some (fileOf pool1 34 #[] #[{ accessFlags := 2, nameIndex := 5, descriptorIndex := 6, attributes := #[] }, { accessFlags := 10, nameIndex := 37, descriptorIndex := 38, attributes := #[] }, { accessFlags := 9, nameIndex := 43, descriptorIndex := 44, attributes := #[] }] 49 2 #[] #[])
  fields := #[]
  methods := #[k1m0, k1m1, k1m2]
  instanceTypes := #[]
  staticTypes := #[]
  resolved := Array.replicate 50 none
  statics := none }

def pool2 : Array CpInfo := pool [(1, .class_ 2), (0, u "com/example/hopwright/hopwright/crypto/Field25519"), (1, .class_ 6), (1, u "java/lang/Object"), (0, u "<init>"), (0, u "()V"), (8, .long 2251799813685247), (3, u "carry"), (0, u "([J[J)V"), (0, .long 19), (25, u "LIMBS"), (0, u "I"), (2, u "LIMB_BITS"), (1, u "LIMB"), (0, u "J"), (0, u "TWO_P_LOW"), (0, u "TWO_P_REST"), (0, u "A_SHIFT"), (1, u "B_SHIFT"), (1, u "LOW_SHIFT")] 21

def k2m0 : Method := { name := "<init>", desc := "()V", sig := { parameters := [], returnType := none }, accessFlags := 2, code := none }
def k2c1 : Code := { maxStack := 7, maxLocals := 12, code := prog_21_method_12_code, exceptionTable := #[], attributes := #[] }
def k2m1 : Method := { name := "carry", desc := "([J[J)V", sig := { parameters := [(.array .long), (.array .long)], returnType := none }, accessFlags := 8, code := some k2c1 }
/-- com/example/hopwright/hopwright/crypto/Field25519 -/
def k2 : Class := { plain "com/example/hopwright/hopwright/crypto/Field25519" (some 0) with
  accessFlags := 48
  interfaces := #[]
  cf := some (fileOf pool2 1 #[] #[{ accessFlags := 2, nameIndex := 7, descriptorIndex := 8, attributes := #[] }, { accessFlags := 8, nameIndex := 21, descriptorIndex := 22, attributes := #[] }] 48 4 #[] #[{ accessFlags := 24, nameIndex := 49, descriptorIndex := 50, attributes := #[] }, { accessFlags := 26, nameIndex := 53, descriptorIndex := 50, attributes := #[] }, { accessFlags := 26, nameIndex := 55, descriptorIndex := 56, attributes := #[] }, { accessFlags := 26, nameIndex := 57, descriptorIndex := 56, attributes := #[] }, { accessFlags := 26, nameIndex := 58, descriptorIndex := 56, attributes := #[] }, { accessFlags := 26, nameIndex := 59, descriptorIndex := 50, attributes := #[] }, { accessFlags := 26, nameIndex := 61, descriptorIndex := 50, attributes := #[] }, { accessFlags := 26, nameIndex := 63, descriptorIndex := 50, attributes := #[] }])
  fields := #[{ name := "LIMBS", type := .int, accessFlags := 24, slot := 0, constantValue := 0 }, { name := "LIMB_BITS", type := .int, accessFlags := 26, slot := 1, constantValue := 0 }, { name := "LIMB", type := .long, accessFlags := 26, slot := 2, constantValue := 0 }, { name := "TWO_P_LOW", type := .long, accessFlags := 26, slot := 3, constantValue := 0 }, { name := "TWO_P_REST", type := .long, accessFlags := 26, slot := 4, constantValue := 0 }, { name := "A_SHIFT", type := .int, accessFlags := 26, slot := 5, constantValue := 0 }, { name := "B_SHIFT", type := .int, accessFlags := 26, slot := 6, constantValue := 0 }, { name := "LOW_SHIFT", type := .int, accessFlags := 26, slot := 7, constantValue := 0 }]
  methods := #[k2m0, k2m1]
  instanceTypes := #[]
  staticTypes := #[.int, .int, .long, .long, .long, .int, .int, .int]
  resolved := Array.replicate 85 none
  statics := none }

def pool3 : Array CpInfo := pool [(1, u "java/lang/Cloneable"), (0, .class_ 1), (0, u "java/lang/Object"), (0, .class_ 3)] 3

/-- java/lang/Cloneable -/
def k3 : Class := { plain "java/lang/Cloneable" (some 0) with
  accessFlags := 1537
  interfaces := #[]
  cf := some (fileOf pool3 2 #[] #[] 1537 4 #[] #[])
  fields := #[]
  methods := #[]
  instanceTypes := #[]
  staticTypes := #[]
  resolved := Array.replicate 8 none
  statics := none }

def pool4 : Array CpInfo := pool [(1, u "java/io/Serializable"), (0, .class_ 1), (0, u "java/lang/Object"), (0, .class_ 3)] 3

/-- java/io/Serializable -/
def k4 : Class := { plain "java/io/Serializable" (some 0) with
  accessFlags := 1537
  interfaces := #[]
  cf := some (fileOf pool4 2 #[] #[] 1537 4 #[] #[])
  fields := #[]
  methods := #[]
  instanceTypes := #[]
  staticTypes := #[]
  resolved := Array.replicate 8 none
  statics := none }

/-- the primitive byte -/
def k5 : Class := { plain "byte" none with kind := .primitive 'B', accessFlags := 0x411 }
/-- [B -/
def k6 : Class := { plain "[B" (some 0) with kind := .array 5 .byte, interfaces := #[3, 4], accessFlags := 1041 }

/-- the primitive int -/
def k7 : Class := { plain "int" none with kind := .primitive 'I', accessFlags := 0x411 }
/-- [I -/
def k8 : Class := { plain "[I" (some 0) with kind := .array 7 .int, interfaces := #[3, 4], accessFlags := 1041 }

/-- the primitive long -/
def k9 : Class := { plain "long" none with kind := .primitive 'J', accessFlags := 0x411 }
/-- [J -/
def k10 : Class := { plain "[J" (some 0) with kind := .array 9 .long, interfaces := #[3, 4], accessFlags := 1041 }

def heap : Heap := #[]
def classes : Array Class := #[k0, k1, k2, k3, k4, k5, k6, k7, k8, k9, k10]
def interned : List (Array UInt16 × Addr) := []
def slotsUsed : Nat := 0
def theMethod : MethodId := ⟨1, 2⟩
def args0 : Array Value := #[.long 0, .long 1, .long 2, .long 3, .long 4, .int 1]
def aboutOver (below : List Frame) : State where
  vm := { classes := classes, interned := interned.toArray }
  heap := heap
  slotsUsed := slotsUsed
  threads := #[{ frames := .invoking theMethod args0 :: below }]
def below0 : List Frame := [.native { method := ⟨0, 0⟩, args := #[] }]
def about1 : State := aboutOver below0
def p0 : Program := .bare "" "" ""
def e0 : Env := launch0.env 0 0 0
theorem w_frames : about1.frames = Frame.invoking theMethod args0 :: below0 := rfl
set_option maxRecDepth 65536 in
theorem w_args : argsFit about1.vm theMethod args0 = true := by decide +kernel
set_option maxRecDepth 65536 in
theorem w_heap : heapFits about1 = true := by decide +kernel
set_option maxRecDepth 65536 in
theorem w_runnable : about1.curStatus? = some .runnable := by decide +kernel
set_option maxRecDepth 65536 in
theorem w_alone : about1.alone = true := by decide +kernel
set_option maxRecDepth 65536 in
theorem w_named : about1.methodNamed? x = some theMethod := by decide +kernel
set_option maxRecDepth 65536 in
theorem w_hears : about1.hears theMethod below0 = true := by decide +kernel
set_option maxRecDepth 65536 in
theorem w_ripe : about1.ripe theMethod args0 below0 = true := by decide +kernel
theorem w_running : about1.status = .running := rfl
set_option maxRecDepth 65536 in
theorem w_room : about1.hasRoom e0.platform room_1 = true :=
  launch0.hasRoom_least _ room_1 (by decide +kernel) (by decide +kernel) (by decide +kernel) (by decide +kernel) (by decide +kernel) (by decide +kernel)
theorem allAtoms_all (ts : List Jvm.Cond) (a : Array Jvm.Value) (st : Jvm.State) : (allAtoms ts).before a st = ts.all (fun c => c.before a st) := by
  induction ts with
  | nil => rfl
  | cons c t ih =>
    show (Jvm.Cond.and c (allAtoms t)).before a st = _
    rw [Jvm.Cond.before_and, ih, List.all_cons]
def words1 : List Jvm.Cond := Jvm.Cond.code x code maxLocals ret :: tables_1
/-- a 'code' word, met by the world's own term for the bytes: nothing is compared byte by byte -/
theorem code_word {y : MethodName} {bytes : ByteArray} {mx : Nat} {rt : Option FieldType} {a : Array Value} {s : State} {m : MethodId} {meth : Method} {c : Code} (h1 : s.methodNamed? y = some m) (h2 : s.vm.method? m = some meth) (h3 : meth.code = some c) (h4 : c.code = bytes)
    (h5 : (c.maxLocals == mx && c.exceptionTable.isEmpty && decide (c.maxStack ≤ mostOperands) && decide (meth.sig.returnType = rt) && !meth.locks && decide (parseMethodDescriptor y.desc = some meth.sig)) = true) : (Jvm.Cond.code y bytes mx rt).before a s = true := by
  simp only [Bool.and_eq_true, beq_iff_eq, Bool.not_eq_true', decide_eq_true_eq] at h5
  obtain ⟨⟨⟨⟨⟨g1, g2⟩, g3⟩, g4⟩, g5⟩, g6⟩ := h5
  simp [Cond.before, Cond.holds, Cond.value, h1, h2, h3, h4, g1, g2, g3, g4, g5, g6]
def isCode : Jvm.Cond → Bool
  | .code _ _ _ _ => true
  | _ => false
theorem all_split {L : List Jvm.Cond} {P : Jvm.Cond → Bool} (h1 : L.all (fun c => isCode c || P c) = true) (h2 : ∀ c ∈ L.filter isCode, P c = true) : L.all P = true := by
  refine List.all_eq_true.mpr fun c hc => ?_
  have h := List.all_eq_true.mp h1 c hc
  rcases Bool.eq_false_or_eq_true (isCode c) with hi | hi
  · exact h2 c (List.mem_filter.mpr ⟨hc, hi⟩)
  · simpa [hi] using h
set_option maxRecDepth 65536 in
theorem w_c0 : (Jvm.Cond.code x code maxLocals ret).before args0 about1 = true := code_word (m := ⟨1, 2⟩) (meth := k1m2) (c := k1c2) (by decide +kernel) rfl rfl rfl (by decide +kernel)
set_option maxRecDepth 65536 in
theorem w_c1 : (Jvm.Cond.code ({ cls := "com/example/hopwright/hopwright/crypto/Field25519", name := "carry", desc := "([J[J)V" } : Jvm.MethodName) prog_21_method_12_code (12 : Nat) (Option.none : Option Jvm.ClassFile.FieldType)).before args0 about1 = true := code_word (m := ⟨2, 1⟩) (meth := k2m1) (c := k2c1) (by decide +kernel) rfl rfl rfl (by decide +kernel)
set_option maxRecDepth 65536 in
theorem w_c2 : (Jvm.Cond.code ({ cls := "com/example/hopwright/hopwright/crypto/Field25519CarryPinLaw", name := "modM", desc := "(JJJJJ)J" } : Jvm.MethodName) method_2_code (22 : Nat) (Option.some Jvm.ClassFile.FieldType.long)).before args0 about1 = true := code_word (m := ⟨1, 1⟩) (meth := k1m1) (c := k1c1) (by decide +kernel) rfl rfl rfl (by decide +kernel)
def codes1 : List Jvm.Cond := [Jvm.Cond.code x code maxLocals ret, Jvm.Cond.code ({ cls := "com/example/hopwright/hopwright/crypto/Field25519", name := "carry", desc := "([J[J)V" } : Jvm.MethodName) prog_21_method_12_code (12 : Nat) (Option.none : Option Jvm.ClassFile.FieldType), Jvm.Cond.code ({ cls := "com/example/hopwright/hopwright/crypto/Field25519CarryPinLaw", name := "modM", desc := "(JJJJJ)J" } : Jvm.MethodName) method_2_code (22 : Nat) (Option.some Jvm.ClassFile.FieldType.long)]
set_option maxRecDepth 65536 in
theorem codes_eq : words1.filter isCode = codes1 := rfl
theorem w_codes : ∀ c ∈ words1.filter isCode, c.before args0 about1 = true := by
  rw [codes_eq]
  intro c hc
  simp only [codes1, List.mem_cons, List.not_mem_nil, or_false] at hc
  rcases hc with rfl | rfl | rfl
  · exact w_c0
  · exact w_c1
  · exact w_c2
set_option maxRecDepth 65536 in
theorem w_t1 : words1.all (fun c => isCode c || c.before args0 about1) = true := by decide +kernel
theorem w_tables : (allAtoms (Jvm.Cond.code x code maxLocals ret :: tables_1)).before args0 about1 = true := by
  rw [allAtoms_all]
  show words1.all (fun c => c.before args0 about1) = true
  refine all_split ?_ w_codes
  rw [w_t1]
set_option maxRecDepth 65536 in
theorem w_case : (Jvm.Cond.and given_1 narrow_1).before args0 about1 = true := by decide +kernel
theorem w_applies : (headSpec (Jvm.Cond.code x code maxLocals ret :: tables_1) room_1).applies x e0.platform about1 = true :=
  (Spec.applies_iff w_frames).mpr ⟨w_running, w_runnable, w_alone, w_named, w_hears, w_ripe, w_room, w_tables⟩
theorem atStart : AtStart classFile x code maxLocals ret World_1 tables_1 room_1 Calls_1 rest_1 Pre_1 launch0 p0 e0 about1 theMethod args0 below0 :=
  ⟨lists_1, trivial, launch0.admits_env _ _ _, launch0.least_env, fairChoices_fair.cas, fairChoices_fair.clock, w_frames, w_args, w_heap, w_applies, trivial, trivial, w_case⟩
end start1
theorem witness_1 : WitnessClaimed_1 := ⟨start1.p0, start1.e0, start1.about1, start1.theMethod, start1.args0, start1.below0, start1.atStart⟩
end Jvm.Pilot.@@N@@
